import PyProof.Rows.All
import Wide.All
import OpenK.AllK
import Wide.FinOn
import PySem.Challenge.RW_te0031_03
open PySem PySem.W PyProof.Rows
set_option linter.all false
set_option maxRecDepth 100000
set_option maxHeartbeats 0
set_option genInjectivity false
set_option tactic.hygienic false
set_option genSizeOf false
set_option genCtorIdx false
set_option bootstrap.genMatcherCode false
namespace Internal
section
set_option genCtorIdx false
universe u v
def Qg:=@congrArg
def T5:=@PySem.wpAny_bind
def T6:=@if_pos
def T7:=@beq_false_of_ne
def T8:=@if_neg
def T9:=@of_decide_eq_true
def Ua:=@beq_self_eq_true
def Ub:=@PySem.wpAny_pure
def Uc:=@List.drop_eq_getElem_cons
def Ud:=@PySem.wpAny_holding
def Ue:=@Nat.min_eq_left
def Uf:=@decide_eq_true
def Ug:=@List.length_cons
def Uh:=@List.length_take
def Ui:=@List.takeWhile_cons
def Uj:=@absurd
def Uk:=@Nat.lt_of_lt_of_le
def Ul:=@List.map_cons
def Um:=@Nat.lt_of_le_of_lt
def Un:=@List.map_congr_left
def Uo:=@Nat.lt_of_not_le
def Up:=@List.map_map
def Uq:=@Nat.eq_of_beq_eq_true
def Ur:=@Nat.lt_succ_self
def Us:=@Bool.and_eq_true
def Ut:=@List.takeWhile_cons_of_pos
def Uu:=@List.lookup_cons
def Uv:=@List.cons_ne_nil
def Uw:=@Nat.ble_eq_true_of_le
def Ux:=@decide_eq_false
def Uy:=@List.takeWhile_sublist
def Uz:=@List.drop_eq_nil_of_le
def UA:=@Nat.add_assoc
def UB:=@Option.bind_some
def UC:=@List.length_map
def UD:=@List.append_assoc
def UF:=@PySem.Heap.get?_push_of_some
def UG:=@PySem.wpAny_standAt
def UH:=@Int.natCast_nonneg
def UJ:=@Nat.add_comm
def UK:=@Nat.add_le_add_left
def UM:=@List.mem_map_of_mem
def UN:=@List.append_cons
def UO:=@List.mem_append_left
def UP:=@List.size_toArray
def UQ:=@Nat.sub_le
def UR:=@List.drop_drop
def US:=@List.not_mem_nil
def UT:=@Nat.le_succ
def UU:=@Nat.zero_add
def UV:=@List.getElem?_map
def UW:=@Int.le_trans
def UX:=@PySem.wpAny_mono
def UY:=@List.take_of_length_le
def UZ:=@List.cons_append
def U3:=@PySem.wpAny_with_toks
def U4:=@List.getElem?_eq_none
def U5:=@List.cons.inj
abbrev bw:=Value->Shared->Prop
abbrev bG:=Str->Option Value
abbrev aZ:=List (List Nat×List Nat)
abbrev bf:=List (Addr×Obj)
abbrev bD:=List (Str×Value)
abbrev bg:=List (List Nat)
abbrev aO:=List Value
abbrev fh:=List Stmt
abbrev bJ:=List Expr
abbrev bq:=List Str
abbrev t8:=Option Expr
abbrev aC:=List Nat
theorem aH{n m k:Nat}(h:n<=m)(g:m<=k):n<=k:=Nat.le_trans h g
theorem aF{a b:Nat}(h:¬a<b):b<=a:=Nat.le_of_not_lt h
theorem aK{α:Type u}{a b:α}(h:some a=some b):a=b:=Option.some.inj h
theorem aS{α:Type u}{β:Type v}{a:α}{f:α->Option β}:(some a).bind f=f a:=UB _ _
theorem aP{α:Type u}{as bs:List α}:(as++bs).length=as.length+bs.length:=List.length_append
theorem bY{α:Type u}{i:Nat}{a:α}{l:List α}:l[i]? = some a↔∃h:i<l.length,l[i]=a:=List.getElem?_eq_some_iff
theorem a9{α:Type u}{p:α->Bool}{l:List α}:l.all p=true↔∀x,x∈l->p x=true:=List.all_eq_true
theorem aQ(n:Nat):n<=n:=Nat.le_refl n
theorem aU{n m:Nat}(h:n=m):n<=m:=Nat.le_of_eq h
theorem bA{α:Type u}{β:Type v}{as:List α}{f:α->β}:(as.map f).length=as.length:=UC _
theorem bC(n k:Nat):n<=n+k:=Nat.le_add_right n k
theorem cg{n m:Nat}(h:Nat.ble n m=true):n<=m:=Nat.le_of_ble_eq_true h
theorem b9{α:Type u}{as bs cs:List α}:as++bs++cs=as++(bs++cs):=UD _ _ _
theorem da{α:Type u}{l:List α}{i:Nat}(h:i<l.length):l[i]? = some l[i]:=List.getElem?_eq_getElem h
theorem cP{α:Type u}{a b:α}:a∈[b]↔a=b:=List.mem_singleton
theorem ba{α:Type u}{β:Type v}{f:α->β}{x y:List α}:(x++y).map f=x.map f++y.map f:=List.map_append
theorem ce{n m:Nat}(h:n<=m)(g:m<=n):n=m:=Nat.le_antisymm h g
theorem dS{α:Type u}{b:α}(as:List α){bs:List α}(h:b∈bs):b∈as++bs:=List.mem_append_right as h
theorem cO{n m:Nat}(h:n<=m):n.succ<=m.succ:=Nat.succ_le_succ h
theorem bX{α:Type u}(as:List α):as++[]=as:=List.append_nil as
theorem b8{α:Type u}{b:α}{l:List α}{a:α}:a∈b::l↔a=b\/a∈l:=List.mem_cons
theorem bu(n:Nat):0<=n:=Nat.zero_le n
theorem bV{α:Type u}{i:Nat}{l:List α}:(l.drop i).length=l.length-i:=List.length_drop
@[elab_as_elim]theorem rW{α:Sort u}{a b}{P:α->Prop}(e:a=b)(h:P b):P a:=by induction e;exact h
theorem a7{G}(h:¬G->False):G:=Classical.byContradiction h
set_option genCtorIdx false in
inductive Ln|n(k:Nat)|v (i:Nat)|a (x y:Ln)|m (k:Nat)(x:Ln)
noncomputable def Ln.d(c:aC):Ln->Nat
 |n k=>k
 |v i=>c.getD i 0
 |a x y=>x.d c+y.d c
 |m k x=>k*x.d c
noncomputable def pY:aC->aC->aC
 |[],y=>y
 |x::xs,y=>match y with|[]=>x::xs|y::ys=>(x+y)::pY xs ys
noncomputable def tw(k:Nat):aC->aC
 |[]=>[]
 |x::xs=>(k*x)::tw k xs
noncomputable def AJ:Nat->aC
 |0=>[1]
 |i+1=>0::AJ i
noncomputable def pC:aC->aC->Nat
 |[],_=>0
 |x::xs,c=>x*c.headD 0+pC xs c.tail
noncomputable def Ln.l:Ln->aC
 |n k=>[k]
 |v i=>0::AJ i
 |a x y=>pY x.l y.l
 |m k x=>tw k x.l
theorem i5:∀(x y c:aC),pC (pY x y) c=pC x c+pC y c
 |[],y,c=>(UU _).symm
 |x::xs,[],c=>rfl
 |x::xs,y::ys,c=>by show (x+y)*_+pC (pY xs ys) _=_;rw[i5 xs ys,Nat.add_mul];exact Nat.add_add_add_comm ..
theorem oB(k:Nat):∀(x c:aC),pC (tw k x) c=k*pC x c:=by
 intro x;induction x with
 |nil=>exact λc=>rfl
 |cons x xs ih=>intro c;show k*x*_+pC (tw k xs) _=k*(x*_+_);rw[ih,Nat.mul_add,Nat.mul_assoc]
theorem ou:∀(i:Nat) (c:aC),pC (AJ i) c=c.getD i 0
 |0,[]=>rfl
 |0,x::c=>Nat.one_mul x
 |i+1,[]=>(Qg (0*0+·) (ou i [])).trans (by rw[Nat.zero_mul,UU];induction i<;>rfl)
 |i+1,x::c=>by show 0*_+pC (AJ i) c=_;rw[Nat.zero_mul,UU,ou i c];rfl
theorem Ln.ok(c:aC):∀e:Ln,pC e.l (1::c)=e.d c
 |n k=>Nat.mul_one k
 |v i=>by show 0*_+pC (AJ i) c=_;rw[Nat.zero_mul,UU,ou];rfl
 |a x y=>by show pC (pY _ _) _=_;rw[i5,Ln.ok c x,Ln.ok c y];rfl
 |m k x=>by show pC (tw _ _) _=_;rw[oB,Ln.ok c x];rfl
noncomputable def LV:aC->aC->Bool
 |_,[]=>true
 |[],y::ys=>Nat.beq y 0&&LV [] ys
 |x::xs,y::ys=>Nat.ble y x&&LV xs ys
theorem tq:∀(x y c:aC),LV x y=true->pC y c<=pC x c
 |_,[],c,_=>bu _
 |[],y::ys,c,h=>by obtain ⟨h1,h2⟩:=Bool.and_eq_true_iff.mp h;show y*_+pC ys _<=0;rw[Uq h1,Nat.zero_mul,UU];exact tq [] ys c.tail h2
 |x::xs,y::ys,c,h=>by obtain ⟨h1,h2⟩:=Bool.and_eq_true_iff.mp h;exact Nat.add_le_add (Nat.mul_le_mul_right _ (cg h1)) (tq xs ys c.tail h2)
noncomputable def lh(c:aC):List (Nat×Ln×Ln)->Prop
 |[]=>False
 |p::r=>p.2.1.d c<=p.2.2.d c->lh c r
noncomputable def md(x y:aC):List (Nat×Ln×Ln)->Bool
 |[]=>LV x (pY [1] y)
 |p::r=>md (pY x (tw p.1 p.2.1.l)) (pY y (tw p.1 p.2.2.l)) r
theorem KQ(c:aC):∀(l:List (Nat×Ln×Ln)) (x y:aC),pC x (1::c)<=pC y (1::c)->md x y l=true->lh c l:=by
 intro l;induction l with
 |nil=>intro x y h k;have:=tq _ _ (1::c) k;rw[i5]at this;exact Nat.not_succ_le_self _ (aH (aH (aU (UJ _ 1)) this) h)
 |cons p r ih=>
  exact λx y h k=>λq=>ih _ _ (by
  rw[i5,i5,oB,oB,Ln.ok,Ln.ok];exact Nat.add_le_add h (Nat.mul_le_mul_left _ q)) k
noncomputable abbrev Jl:Ln:=.v 0
noncomputable abbrev Op:Ln:=.v 1
noncomputable abbrev PJ:Ln:=.v 2
noncomputable abbrev PH:Ln:=.v 3
noncomputable abbrev PL:Ln:=.v 4
noncomputable abbrev PG:Ln:=.v 5
noncomputable abbrev PM:Ln:=.v 6
noncomputable abbrev Jv:Ln:=.n 1
theorem lz(c:aC)(l:List (Nat×Ln×Ln))(k:md [] [] l=true):lh c l:=KQ c l [] [] (aQ _) k
noncomputable abbrev Jo:Nat->Nat->Ln
 |0,_=>.n 0
 |f+1,c=>bif Nat.ble (c%16) 6 then .v (c%16) else bif Nat.beq (c%16) 10 then .n 1 else bif Nat.beq (c%16) 11 then .a (Jo f (c/16)) (.n 1) else bif Nat.beq (c%16) 7 then .n (c/16) else bif Nat.beq (c%16) 8 then .a (Jo f (c/256%16 ^ (c/16%16))) (Jo f (c/256/16 ^ (c/16%16))) else bif Nat.beq (c%16) 9 then .m (c/16%256) (Jo f (c/4096)) else .v 7
noncomputable abbrev r8:Nat->Nat->List (Nat×Ln×Ln)
 |0,_=>[]
 |f+1,c=>bif Nat.beq c 0 then [] else (c%16,Jo 6 (c/256%16 ^ (c/16%16)),Jo 6 (c/256/16 ^ (c/16%16)/16%16 ^ (c/256/16 ^ (c/16%16)%16)))::r8 f (c/256/16 ^ (c/16%16)/16/16 ^ (c/256/16 ^ (c/16%16)%16))
section
variable {a b c d e f g i:Nat}
theorem fC(n:Nat)(k:md [] [] (r8 8 n)=true):lh [a] (r8 8 n):=lz _ _ k
theorem cV(n:Nat)(k:md [] [] (r8 8 n)=true):lh [a,b] (r8 8 n):=lz _ _ k
theorem c9(n:Nat)(k:md [] [] (r8 8 n)=true):lh [a,b,c] (r8 8 n):=lz _ _ k
theorem mD(n:Nat)(k:md [] [] (r8 8 n)=true):lh [a,b,c,d] (r8 8 n):=lz _ _ k
theorem xg(n:Nat)(k:md [] [] (r8 8 n)=true):lh [a,b,c,d,e] (r8 8 n):=lz _ _ k
theorem xX(n:Nat)(k:md [] [] (r8 8 n)=true):lh [a,b,c,d,e,f] (r8 8 n):=lz _ _ k
theorem OR(n:Nat)(k:md [] [] (r8 8 n)=true):lh [a,b,c,d,e,f,g] (r8 8 n):=lz _ _ k
theorem OJ(n:Nat)(k:md [] [] (r8 8 n)=true):lh [a,b,c,d,e,f,g,i] (r8 8 n):=lz _ _ k
end
theorem Cg(x y:Nat):x<=x-y+y:=Nat.le_add_of_sub_le (aQ _)
theorem pL{x y:Nat}(h:y<=x):x-y+y<=x:=aU (Nat.sub_add_cancel h)
mutual
inductive V where
 |none|bool (b:Bool)|int (i:Int)|str (s:aC)|ref (a:Nat)|u (a:Nat)|I (o:O)|C
inductive O where
 |list (vs:List V)|tuple (vs:List V)|dict (kvs:List (aC×V))|inst (c:Nat) (fs:List (Nat×V))|meth (f:Nat) (self:V)|rng (a b s:Int)
end
noncomputable def V.ctorIdx(v:V):Nat:=V.casesOn (motive_1:=λJ=>Nat) v 0 (λJ=>1) (λJ=>2) (λJ=>3) (λJ=>4) (λJ=>5) (λJ=>6) 7
noncomputable def O.ctorIdx(v:O):Nat:=O.casesOn (motive_2:=λJ=>Nat) v (λJ=>0) (λJ=>1) (λJ=>2) (λJ J=>3) (λJ J=>4) (λJ J J=>5)
theorem V.ref_inj{a b}(h:V.ref a=V.ref b):a=b:=by cases h;rfl
abbrev St:=List O
abbrev aR:=List (Nat×V)
noncomputable def aJ{β:Type}:Nat->List (Nat×β)->Option β
 |_,[]=>none
 |k,(i,v)::r=>bif Nat.beq i k then some v else aJ k r
noncomputable def aX{β:Type}:Nat->β->List (Nat×β)->List (Nat×β)
 |k,v,[]=>[(k,v)]
 |k,v,(i,w)::r=>bif Nat.beq i k then (k,v)::r else (i,w)::aX k v r
noncomputable def bM{β:Type}:aC->List (aC×β)->Option β
 |_,[]=>none
 |k,(i,v)::r=>if i=k then some v else bM k r
noncomputable def cH{β:Type}:aC->β->List (aC×β)->List (aC×β)
 |k,v,[]=>[(k,v)]
 |k,v,(i,w)::r=>if i=k then (i,v)::r else (i,w)::cH k v r
set_option genCtorIdx true
inductive EW where|add|sub|fdiv|mod|mul
inductive Jf where|eq|ne|lt|le|gt|ge|U|aq|is|am
inductive HQ where|len|ord|chr|sum|listOf|dictOf|range
inductive Fu where|append|popAt|join|count3|rfind3|split|update|starts|index|get
set_option genCtorIdx false
inductive Ft where|one (i:Nat)|many (l:aC)
inductive PE where
 |i (v:V)
 |q (i:Nat)
 |Y (v:V)
 |attr (e:PE) (f:Nat)
 |sub (e i:PE)
 |O (e lo hi:PE)
 |rev (e:PE)
 |J (op:EW) (l r:PE)
 |E (op:Jf) (l r:PE)
 |ab (o1 o2:Jf) (a b c:PE)
 |ah (e:PE)
 |neg (e:PE)
 |ac (l r:PE)
 |af (l r:PE)
 |ag (t b o:PE)
 |Q (es:List PE)
 |H (es:List PE)
 |R (ks:bg) (vs:List PE)
 |comp (t:Ft) (it:PE) (QW:PE) (Qt:PE)
 |call (f:Nat) (es:List PE)
 |new (c:Nat) (es:List PE)
 |meth (o:PE) (m:Nat) (es:List PE)
 |ak (o:PE) (a b:aC)
 |un (op:HQ) (e:PE)|bm (op:Fu) (o:PE) (es:List PE)
 |ay (a b:PE)|ao (x o:PE) (m:Nat)
 |ax (a b:PE)|tab (m:Bool) (T:List (Int×aC)) (g:Nat) (e:PE)|ap (o:PE) (m g:Nat) (es:List PE)
noncomputable abbrev PE.len(e:PE):PE:=.un .len e
noncomputable abbrev PE.ord(e:PE):PE:=.un .ord e
noncomputable abbrev PE.chr(e:PE):PE:=.un .chr e
noncomputable abbrev PE.sum(e:PE):PE:=.un .sum e
noncomputable abbrev PE.listOf(e:PE):PE:=.un .listOf e
noncomputable abbrev PE.dictOf(e:PE):PE:=.un .dictOf e
noncomputable abbrev PE.update(o e:PE):PE:=.bm .update o [e]
noncomputable abbrev PE.range(e:PE):PE:=.un .range e
noncomputable abbrev PE.append(o e:PE):PE:=.bm .append o [e]
noncomputable abbrev PE.pop(o:PE):PE:=.bm .popAt o []
noncomputable abbrev PE.starts(o p:PE):PE:=.bm .starts o [p]
noncomputable abbrev PE.join(QV:aC)(e:PE):PE:=.bm .join (.i (.str QV)) [e]
noncomputable abbrev PE.count3(o:PE)(p:aC)(lo hi:PE):PE:=.bm .count3 o [.i (.str p),lo,hi]
noncomputable abbrev PE.rfind3(o:PE)(p:aC)(lo hi:PE):PE:=.bm .rfind3 o [.i (.str p),lo,hi]
noncomputable abbrev PE.splitC(o:PE)(p:aC):PE:=.bm .split o [.i (.str p)]
inductive Tg where|l (i:Nat)|a (o:PE)(f:Nat)|s (o i:PE)
inductive PS where
 |expr (e:PE)
 |j (t:Tg) (e:PE)
 |Z (ts:List Tg) (e:PE)
 |aj (i:Nat) (op:EW) (e:PE)
 |au (o:PE) (f:Nat) (op:EW) (e:PE)
 |ai (o i:PE) (op:EW) (e:PE)
 |ifs (t:PE) (b o:List PS)
 |aa (t:PE) (b:List PS)
 |al (t:Ft) (it:PE) (b:List PS)
 |az (e:PE)
 |aw (i j:Nat) (o:PE) (m:Nat) (e:PE)
 |ret (e:PE)
 |brk|cont|pass|gc (k:Nat)|ae (e:PE)|aA (b:List PS)|aB (i:Nat) (s:aC) (k:Nat)
inductive Fl where|next|brk|cont|ret (v:V)
noncomputable def Fl.ctorIdx(v:Fl):Nat:=Fl.casesOn v 0 1 2 λJ=>3
noncomputable def a8:Nat:=100000
noncomputable def sY:Nat:=500
noncomputable def eM:Nat:=1000000
noncomputable def aT(l:aC):Str:=⟨l.toArray⟩
noncomputable def kZ(s:Str):aC:=s.cps.toList
noncomputable def v5(p y:aC):Bool:=!(Builtin.Str.occurrences (aT y) (aT p) 0 (aT y).length 1).isEmpty
noncomputable def bP(n:Nat)(i:Int):Nat:=if i<0 then (i+n).toNat else min i.toNat n
noncomputable def fy(n:Nat):V->Option Nat
 |.none=>some 0
 |.int i=>some (bP n i)
 |_=>none
noncomputable def eL(n:Nat):V->Option Nat
 |.none=>some n
 |.int i=>some (bP n i)
 |_=>none
noncomputable def iA{α:Type}(l:List α)(i j:Nat):List α:=(l.drop i).take (j-i)
noncomputable def d9(n:Nat)(i:Int):Option Nat:=
 if 0<=i then (if i.toNat<n then some i.toNat else none) else (if -i<=n then some (n-(-i).toNat) else none)
structure Cx where
 so:Nat->Option O
 clsm:Nat->Nat->Option Nat
 clsv:Nat->Nat->Option V
 clsi:Nat->Nat->Bool
 init:Nat
 fuel:Nat
 call:Nat->List V->St->Option (V×St)
noncomputable def b6(c:Cx)(σ:St):V->Option O
 |.ref a=>σ[a]?
 |.u a=>c.so a
 |.I o=>some o
 |_=>none
noncomputable def mB(σ:St):V->Option O
 |.ref a=>σ[a]?
 |.I o=>some o
 |_=>none
noncomputable def AY(f:V->V->Option Bool):List V->List V->Option Bool
 |[],[]=>some true
 |a::r,b::t=>(f a b).bind λx=>(AY f r t).map λy=>x&&y
 |_,_=>none
noncomputable def cq{β:Type}(v:V)(f:Int->Option β):Option β:=match v with|.int i=>f i|_=>none
noncomputable def dW{β:Type}(v:V)(f:aC->Option β):Option β:=match v with|.str i=>f i|_=>none
noncomputable def dz{β:Type}(σ:St)(v:V)(f:Nat->O->Option β):Option β:=match v with|.ref a=>(σ[a]?).bind (f a)|_=>none
noncomputable def eC{β:Type}(o:O)(f:List V->Option β):Option β:=match o with|.list vs=>f vs|_=>none
noncomputable def HT{β:Type}(o:O)(f:List V->Option β):Option β:=match o with|.tuple vs=>f vs|_=>none
noncomputable def qk{β:Type}(o:O)(f:List (aC×V)->Option β):Option β:=match o with|.dict vs=>f vs|_=>none
noncomputable def gr{β:Type}(o:O)(f:Nat->List (Nat×V)->Option β):Option β:=match o with|.inst c fs=>f c fs|_=>none
noncomputable def sob{β:Type}(c:Cx)(σ:St)(v:V)(g:aC->Option β)(f:O->Option β):Option β:=match v with|.str s=>g s|v=>(b6 c σ v).bind f
noncomputable def AF(a b:V):Option Bool:=match a with
 |.none=>(match b with|.none=>some true|.str _=>some false|.int _=>some false|_=>none)
 |.bool x=>(match b with|.bool y=>some (x==y)|_=>none)
 |.int x=>(match b with|.int y=>some (x==y)|.none=>some false|.str _=>some false|_=>none)
 |.str x=>(match b with|.str y=>some (x==y)|.none=>some false|.int _=>some false|_=>none)
 |_=>none
noncomputable def Kx(f:V->V->Option Bool)(o p:O):Option Bool:=match o with
 |.tuple vs=>HT p λws=>if vs.length=ws.length then AY f vs ws else none
 |_=>none
noncomputable def Jn(f:V->V->Option Bool)(o p:O):Option Bool:=match o with
 |.list vs=>eC p λws=>if vs.length=ws.length then (AY f vs ws).map λr=>!r else none
 |.tuple vs=>HT p λws=>if vs.length=ws.length then (AY f vs ws).map λr=>!r else none
 |_=>none
noncomputable def qO(f:V->V->Option Bool)(a b:V):Option Bool:=match a with
 |.ref x=>(match b with|.ref y=>bif Nat.beq x y then some true else f (.ref x) (.ref y)|b=>f (.ref x) b)
 |a=>f a b
noncomputable def pG(σ:St):Nat->V->V->Option Bool
 |0,_,_=>none
 |k+1,a,b=>match a with
  |.ref x=>(σ[x]?).bind λo=>(mB σ b).bind λp=>Kx (qO (pG σ k)) o p
  |.I o=>(mB σ b).bind λp=>Kx (qO (pG σ k)) o p
  |a=>AF a b
noncomputable def OB(σ:St)(k:Nat)(a b:V):Option Bool:=match a with
 |.ref x=>(σ[x]?).bind λo=>(mB σ b).bind λp=>Jn (qO (pG σ k)) o p
 |.I o=>(mB σ b).bind λp=>Jn (qO (pG σ k)) o p
 |a=>(AF a b).map λr=>!r
noncomputable def KG:Nat:=12
noncomputable def Cm(x:V):List V->Option Bool
 |[]=>some false
 |y::r=>(AF y x).bind λb=>(Cm x r).map λd=>b||d
noncomputable def Mm(o:O):Option Bool:=match o with|.list vs=>some (!vs.isEmpty)|.meth _ _=>some true|_=>none
noncomputable def b7(c:Cx)(σ:St)(v:V):Option Bool:=match v with
 |.none=>some false
 |.bool b=>some b
 |.int i=>some (decide (i≠0))
 |.str s=>some (!s.isEmpty)
 |v=>(b6 c σ v).bind Mm
noncomputable def Mp(a:V):Option Bool:=match a with|.none=>some true|.str _=>some false|.int _=>some false|.ref _=>some false|.I _=>some false|_=>none
noncomputable def OY(a:V)(o:O):Option Bool:=match o with
 |.list vs=>Cm a vs
 |.tuple vs=>Cm a vs
 |.dict kvs=>dW a λk=>some (bM k kvs).isSome
 |_=>none
noncomputable def M7(c:Cx)(σ:St)(a b:V):Option Bool:=sob c σ b (λy=>dW a λx=>some (v5 x y)) (OY a)
noncomputable def gV(c:Cx)(σ:St)(op:Jf)(a b:V):Option Bool:=match op with
 |.eq=>pG σ KG a b
 |.ne=>OB σ KG a b
 |.lt=>(match a with|.int x=>cq b λy=>some (decide (x<y))|.str x=>dW b λy=>some (decide (x<y))|_=>none)
 |.gt=>cq a λx=>cq b λy=>some (decide (y<x))
 |.le=>(match a with|.int x=>cq b λy=>some (decide (x<=y))|.str x=>dW b λy=>some (!decide (y<x))|_=>none)
 |.ge=>cq a λx=>cq b λy=>some (decide (y<=x))
 |.is=>(match b with|.none=>Mp a|_=>none)
 |.am=>(match b with|.none=>(Mp a).map λr=>!r|_=>none)
 |.U=>M7 c σ a b
 |.aq=>(M7 c σ a b).map λr=>!r
noncomputable def fG(o:O)(σ:St):Option (V×St):=some (.ref σ.length,σ++[o])
noncomputable def FS(v:V):Bool:=match v with|.ref _=>true|_=>false
noncomputable def tH(vs:List V)(σ:St):Option (V×St):=bif vs.any FS then fG (.tuple vs) σ else some (.I (.tuple vs),σ)
noncomputable def bO(vs:List V)(σ:St):Option (V×St):=if vs.length<=a8 then fG (.list vs) σ else none
noncomputable def Gj(a b:V)(σ:St):Option (V×St):=match a with
 |.int x=>cq b λy=>some (.int (x+y),σ)
 |.str x=>dW b λy=>if x.length+y.length<=a8 then some (.str (x++y),σ) else none
 |_=>none
noncomputable def pZ(o p:O)(σ:St):Option (V×St):=match o with
 |.list vs=>eC p λws=>bO (vs++ws) σ
 |.tuple vs=>HT p λws=>if (vs≠[]/\ws≠[])/\(vs++ws).length<=a8 then tH (vs++ws) σ else none
 |_=>none
noncomputable def Ec(c:Cx)(op:EW)(a b:V)(σ:St):Option (V×St):=match op with
 |.add=>(match a with
  |.int x=>Gj (.int x) b σ
  |.str x=>Gj (.str x) b σ
  |a=>(b6 c σ a).bind λo=>(b6 c σ b).bind λp=>pZ o p σ)
 |.sub=>cq a λx=>cq b λy=>some (.int (x-y),σ)
 |.fdiv=>cq a λx=>cq b λy=>if 0<y/\y<=a8 then some (.int (Int.fdiv x y),σ) else none
 |.mod=>cq a λx=>cq b λy=>if 0<y then some (.int (Int.fmod x y),σ) else none
 |.mul=>cq a λx=>cq b λy=>if x.natAbs<=a8\/y.natAbs<=a8 then some (.int (x*y),σ) else none
noncomputable def tC(c:Cx)(op:EW)(a b:V)(σ:St):Option (V×St):=match op with
 |.add=>Gj a b σ
 |.sub=>cq a λx=>cq b λy=>some (.int (x-y),σ)
 |.fdiv=>cq a λx=>cq b λy=>if 0<y/\y<=a8 then some (.int (Int.fdiv x y),σ) else none
 |_=>none
noncomputable def CK(o:O)(i:V):Option V:=match o with
 |.list vs=>cq i λk=>(d9 vs.length k).bind λj=>vs[j]?
 |.tuple vs=>cq i λk=>(d9 vs.length k).bind λj=>vs[j]?
 |.dict kvs=>dW i λk=>bM k kvs
 |_=>none
noncomputable def xI(c:Cx)(σ:St)(o i:V):Option V:=sob c σ o (λs=>cq i λk=>(d9 s.length k).bind λj=>(s[j]?).map λch=>.str [ch]) (λob=>CK ob i)
noncomputable def oz(c:Cx)(o lo hi:V)(σ:St):Option (V×St):=sob c σ o (λs=>(fy s.length lo).bind λi=>(eL s.length hi).bind λj=>some (.str (iA s i j),σ))
 (λob=>eC ob λvs=>(fy vs.length lo).bind λi=>(eL vs.length hi).bind λj=>bO (iA vs i j) σ)
noncomputable def DQ(a:Nat)(o:O)(i v:V)(σ:St):Option St:=match o with
 |.list vs=>cq i λk=>if 0<=k/\k.toNat<vs.length then some (σ.set a (.list (vs.set k.toNat v))) else none
 |.dict kvs=>dW i λk=>if kvs.length<=sY then some (σ.set a (.dict (cH k v kvs))) else none
 |_=>none
noncomputable def jn(o i v:V)(σ:St):Option St:=dz σ o λa ob=>DQ a ob i v σ
noncomputable def qa(c:Cx)(cl f:Nat)(fs:List (Nat×V))(σ:St)(r:Option (V×St)):Option (V×St):=match aJ f fs with
 |some v=>if c.clsi cl f=true then some (v,σ) else none
 |none=>r
noncomputable def eP(c:Cx)(o:V)(f:Nat)(σ:St):Option (V×St):=match o with
 |.ref a=>dz σ (.ref a) λJ ob=>gr ob λcl fs=>qa c cl f fs σ (match c.clsm cl f with
  |some g=>fG (.meth g (.ref a)) σ
  |none=>(c.clsv cl f).map λv=>(v,σ))
 |.u a=>(c.so a).bind λob=>gr ob λcl fs=>qa c cl f fs σ none
 |_=>none
noncomputable def gZ(c:Cx)(o:V)(f:Nat)(v:V)(σ:St):Option St:=dz σ o λa ob=>gr ob λcl fs=>
 if c.clsi cl f=true/\fs.length<=sY then some (σ.set a (.inst cl (aX f v fs))) else none
noncomputable def jY(a b s:Int):Nat:=if s=1 then (b-a).toNat else (a-b).toNat
noncomputable def kc(kvs:List (aC×V)):Option (List V):=if (kvs.all λp=>decide (p.1.length<=a8))=true then some (kvs.map λp=>.str p.1) else none
noncomputable def gq(v:V)(o:O):Option (List V):=match o with
 |.list vs=>some vs
 |.tuple vs=>some vs
 |.rng a b s=>if (-(a8:Int)<=a/\a<=a8)/\(-(a8:Int)<=b/\b<=a8)/\(s=1\/s = -1) then some ((List.range (jY a b s)).map λk=>.int (a+s*Int.ofNat k)) else none
 |.dict kvs=>(match v with|.u _=>kc kvs|.I _=>kc kvs|_=>none)
 |_=>none
noncomputable def dw(c:Cx)(σ:St)(v:V):Option (List V):=sob c σ v (λs=>some (s.map λch=>.str [ch])) (gq v)
noncomputable def Dp(o:O):Option (List V):=match o with
 |.list vs=>some vs
 |.tuple vs=>some vs
 |.dict kvs=>kc kvs
 |_=>none
noncomputable def o6(c:Cx)(σ:St)(v:V):Option (List V):=sob c σ v (λs=>some (s.map λch=>.str [ch])) Dp
noncomputable def Kr(o:O):Bool:=match o with|.list _=>true|_=>false
noncomputable def KZ(o:O):Bool:=match o with|.dict _=>true|_=>false
noncomputable def eF(σ:St)(v:V):Bool:=match v with|.ref a=>(match σ[a]? with|some o=>KZ o|none=>false)|_=>false
noncomputable def d6(σ:St)(v:V):Bool:=match v with|.ref a=>(match σ[a]? with|some o=>Kr o|none=>false)|_=>false
noncomputable def cT(c:Cx)(σ0 σ:St)(v:V):Bool:=@decide (b6 c σ v=b6 c σ0 v) (Classical.propDecidable _)
theorem bN{c σ0 σ v}:cT c σ0 σ v=true↔b6 c σ v=b6 c σ0 v:=@decide_eq_true_iff _ (Classical.propDecidable _)
noncomputable def nR(o:O):Option (List V):=match o with|.list vs=>some vs|.tuple vs=>some vs|_=>none
noncomputable def d5(c:Cx)(σ:St)(v:V):Option (List V):=(b6 c σ v).bind nR
noncomputable def eV(c:Cx):aC->List V->aR->Option aR
 |[],[],L=>some L
 |i::is,v::vs,L=>eV c is vs (aX i v L)
 |_,_,_=>none
noncomputable def cU(c:Cx)(σ:St)(t:Ft)(v:V)(L:aR):Option aR:=match t with
 |.one i=>some (aX i v L)
 |.many is=>(d5 c σ v).bind λvs=>eV c is vs L
noncomputable def By:List V->Int->Option Int
 |[],a=>some a
 |.int i::r,a=>By r (a+i)
 |_,_=>none
noncomputable def nL:List V->Option (bg)
 |[]=>some []
 |.str s::r=>(nL r).map (s::·)
 |_=>none
noncomputable def ml(QV:aC):bg->aC
 |[]=>[]
 |[x]=>x
 |x::y::r=>x++QV++ml QV (y::r)
noncomputable def bj(kvs:List (aC×V))(d:List (aC×V)):List (aC×V):=kvs.foldl (λd p=>cH p.1 p.2 d) d
noncomputable def MH(o:O):Option Int:=match o with|.list vs=>some vs.length|.dict vs=>some vs.length|_=>none
noncomputable def I8(c:Cx)(v:V)(σ:St):Option (V×St):=sob c σ v (λs=>some (.int s.length,σ)) (λo=>(MH o).map λn=>(.int n,σ))
noncomputable def Hn(v:V)(σ:St):Option (V×St):=dW v λs=>match s with|[x]=>some (.int (x:Int),σ)|_=>none
noncomputable def yY(v:V)(σ:St):Option (V×St):=cq v λi=>if 0<=i/\i<1114112 then some (.str [i.toNat],σ) else none
noncomputable def BY(c:Cx)(v:V)(σ:St):Option (V×St):=(b6 c σ v).bind λo=>eC o λvs=>(By vs 0).map λi=>(.int i,σ)
noncomputable def ze(v:V)(σ:St):Option (V×St):=cq v λn=>if n<=a8 then fG (.rng 0 n 1) σ else none
noncomputable def oT(o v:V)(σ:St):Option (V×St):=dz σ o λa ob=>eC ob λvs=>if vs.length<=a8 then some (.none,σ.set a (.list (vs++[v]))) else none
noncomputable def Bn(o k:V)(σ:St):Option (V×St):=dz σ o λa ob=>eC ob λvs=>cq k λj=>(d9 vs.length j).bind λj=>(vs[j]?).map λv=>(v,σ.set a (.list (vs.eraseIdx j)))
noncomputable def q9(o:O):Option (aC×V):=eC o λvs=>match vs with
 |k::r=>dW k λk=>(match r with|v::r=>(match r with|[]=>some (k,v)|_=>none)|_=>none)
 |_=>none
noncomputable def dJ(σ:St):List V->Option (List (aC×V))
 |[]=>some []
 |v::r=>((mB σ v).bind q9).bind λp=>(dJ σ r).map (p::·)
noncomputable def ly(σ:St)(v:V):Option (List (aC×V)):=(mB σ v).bind λo=>eC o λvs=>dJ σ vs
noncomputable def uV(v:V)(σ:St):Option (V×St):=(ly σ v).bind λps=>if ps.length<=sY then fG (.dict (bj ps [])) σ else none
noncomputable def oK(o v:V)(σ:St):Option (V×St):=(ly σ v).bind λps=>dz σ o λa ob=>qk ob λkvs=>
 if kvs.length+ps.length<=sY then some (.none,σ.set a (.dict (bj ps kvs))) else none
noncomputable def vf(c:Cx)(QV:aC)(v:V)(σ:St):Option (V×St):=(d5 c σ v).bind λvs=>(nL vs).bind λss=>
 if (ss.map (·.length)).sum+ss.length*QV.length<=a8/\(ml QV ss).length<=a8 then some (.str (ml QV ss),σ) else none
noncomputable def vy(a b:aC)(v:V)(σ:St):Option (V×St):=dW v λs=>if (kZ (Txt.replace (aT s) (aT a) (aT b))).length<=a8/\a≠b/\b.length<=14 then some (.str (kZ (Txt.replace (aT s) (aT a) (aT b))),σ) else none
noncomputable def wy(p:aC)(v l h:V)(σ:St):Option (V×St):=dW v λs=>cq l λi=>cq h λj=>if i=0/\0<=j/\j<=a8 then some (.int ((Builtin.Str.occurrences (aT s) (aT p) 0 (min j.toNat s.length) (s.length+1)).length:Nat),σ) else none
noncomputable def u0(p:aC)(v l h:V)(σ:St):Option (V×St):=dW v λs=>cq l λi=>cq h λj=>if i=0/\0<=j/\j<=a8 then some (.int (match Builtin.Str.lastOccurrence (aT s) (aT p) 0 (min j.toNat s.length) with|some i=>(i:Int)|none=>-1),σ) else none
noncomputable def zb(p:aC)(v:V)(σ:St):Option (V×St):=dW v λs=>if p≠[]/\(Txt.split (aT s) (aT p)).all (λx=>decide (x.length<=a8))=true then bO ((Txt.split (aT s) (aT p)).map λx=>.str (kZ x)) σ else none
noncomputable def DK(p v:V)(σ:St):Option (V×St):=dW v λs=>dW p λp=>some (.bool (p.isPrefixOf s),σ)
noncomputable def tD(p v:V)(σ:St):Option (V×St):=dW v λs=>dW p λp=>match Builtin.Str.occurrences (aT s) (aT p) 0 (aT s).length 1 with|i::_=>some (.int (i:Nat),σ)|[]=>none
noncomputable def Ko(o k d:V)(σ:St):Option (V×St):=dz σ o λJ ob=>qk ob λkvs=>dW k λk=>some ((bM k kvs).getD d,σ)
noncomputable def wP(b:Nat)(s:aC):Bool:=!s.isEmpty&&s.all λc=>match NumText.digit? c with|some d=>Nat.blt d b|none=>false
noncomputable def xq(b:Nat)(s:aC):Nat:=s.foldl (λn c=>n*b+(NumText.digit? c).getD 0) 0
noncomputable def vH(v w:V)(σ:St):Option (V×St):=dW v λs=>cq w λb=>if (b=10\/b=16)/\wP b.toNat s=true/\s.length<=640 then some (.int (xq b.toNat s:Nat),σ) else none
noncomputable def w4(m:Bool)(T:List (Int×aC))(v:V)(σ:St):Option (V×St):=cq v λi=>match m with|true=>some (.bool (T.lookup i).isSome,σ)|false=>(T.lookup i).map λs=>(.str s,σ)
noncomputable def jo(v w:V)(σ:St):Option (V×St):=cq v λi=>cq w λj=>if (-(a8:Int)<=i/\i<=a8)/\(-(a8:Int)<=j/\j<=a8) then fG (.rng i j 1) σ else none
noncomputable def gv(bind:V->aR->St->Option aR)(PX:St->Bool)(Qa:aR->St->Option (Fl×aR×St)):List V->aR->St->Option (Fl×aR×St)
 |[],L,σ=>if PX σ then some (.next,L,σ) else none
 |v::vs,L,σ=>if PX σ then
  (bind v L σ).bind λL1=>(Qa L1 σ).bind λ(f,L2,σ2)=>match f with
   |.brk=>some (.next,L2,σ2)
   |.ret v=>some (.ret v,L2,σ2)
   |_=>gv bind PX Qa vs L2 σ2
  else none
noncomputable def dc(bind:V->aR->St->Option aR)(PX:St->Bool)(Qt:aR->St->Option (List V×St)):List V->aR->St->Option (List V×St)
 |[],_,σ=>if PX σ then some ([],σ) else none
 |v::vs,L,σ=>if PX σ then
  (bind v L σ).bind λL1=>(Qt L1 σ).bind λ(xs,σ1)=>(dc bind PX Qt vs L1 σ1).bind λ(ys,σ2)=>some (xs++ys,σ2)
  else none
noncomputable def mK(b:Bool)(σ:St)(r:Option (V×St)):Option (List V×St):=match b with|true=>r.map λ(v,s2)=>([v],s2)|false=>some ([],σ)
noncomputable def dR(Qx:aR->St->Option (Bool×St))(Qa:aR->St->Option (Fl×aR×St)):Nat->aR->St->Option (Fl×aR×St)
 |0,_,_=>none
 |n+1,L,σ=>(Qx L σ).bind λ(b,σ1)=>match b with
  |false=>some (.next,L,σ1)
  |true=>(Qa L σ1).bind λ(f,L2,σ2)=>match f with
   |.brk=>some (.next,L2,σ2)
   |.ret v=>some (.ret v,L2,σ2)
   |_=>dR Qx Qa n L2 σ2
noncomputable def im(c:Cx)(cl m:Nat)(ov:V)(σ:St)(as:St->Option (List V×St)):Option (V×St):=(c.clsm cl m).bind λg=>(as σ).bind λ(vs,σ2)=>c.call g (ov::vs) σ2
noncomputable def wv(c:Cx)(cl m:Nat)(v:V)(σ:St)(as:St->Option (List V×St)):Option (V×St):=match v with
 |.ref q=>if c.clsi cl m=true then (σ[q]?).bind λob=>(match ob with
  |.meth g self=>(as σ).bind λ(vs,σ2)=>@ite _ (σ2[q]? = some (.meth g self)/\g<eM) (Classical.propDecidable _) (c.call g (self::vs) σ2) none
  |_=>none) else none
 |_=>none
noncomputable def wq(c:Cx)(ov:V)(m:Nat)(σ:St)(as:St->Option (List V×St)):Option (V×St):=match ov with
 |.ref a=>dz σ (.ref a) λJ ob=>gr ob λcl fs=>(match aJ m fs with
  |some v=>wv c cl m v σ as
  |none=>im c cl m (.ref a) σ as)
 |.u a=>(c.so a).bind λob=>gr ob λcl fs=>(match aJ m fs with
  |some _=>none
  |none=>im c cl m (.u a) σ as)
 |_=>none
noncomputable def x7(c:Cx)(ov:V)(m g:Nat)(σ:St)(as:St->Option (List V×St)):Option (V×St):=match ov with
 |.ref a=>dz σ (.ref a) λJ ob=>gr ob λcl fs=>(match aJ m fs with
  |some _=>none
  |none=>if c.clsm cl m=some g then im c cl m (.ref a) σ as else none)
 |_=>none
noncomputable def HL(c:Cx)(x ov:V)(m:Nat)(σ:St):Option (V×St):=match ov with
 |.u a=>(c.so a).bind λob=>gr ob λcl J=>(c.clsm cl m).bind λg=>(c.call g [.u a,x] σ).bind λ(v,σ2)=>match v with|.bool b=>some (.bool b,σ2)|_=>none
 |_=>none
noncomputable def qA(c:Cx)(ov:V)(m:Nat)(σ:St)(as:St->Option (V×St)):Option (V×St):=match ov with
 |.u a=>(c.so a).bind λob=>gr ob λcl fs=>(match aJ m fs with
  |some _=>none
  |none=>(c.clsm cl m).bind λg=>(as σ).bind λ(v,σ2)=>c.call (g+eM) [.u a,v] σ2)
 |_=>none
noncomputable def uh(v:V):Bool:=match v with|.str _=>true|_=>false
noncomputable def km{β:Type}(vs:List V)(f:V->List V->Option β):Option β:=match vs with|v::r=>f v r|[]=>none
noncomputable def DR{β:Type}(vs:List V)(f:Option β):Option β:=match vs with|_::_=>none|[]=>f
noncomputable def v1{β:Type}(vs:List V)(f:V->Option β):Option β:=km vs λv r=>DR r (f v)
noncomputable def vs3(vs:List V)(f:aC->V->V->Option (V×St)):Option (V×St):=km vs λp r=>dW p λp=>km r λl r=>v1 r λu=>f p l u
noncomputable def Nu(o:V)(vs:List V)(σ:St):Option (V×St):=DR vs (Bn o (.int (-1)) σ)
noncomputable def Jk(c:Cx)(op:HQ)(v:V)(σ:St):Option (V×St):=match op with
 |.len=>I8 c v σ
 |.ord=>Hn v σ
 |.chr=>yY v σ
 |.sum=>BY c v σ
 |.listOf=>(o6 c σ v).bind λvs=>bO vs σ
 |.dictOf=>uV v σ
 |.range=>ze v σ
noncomputable def LX(op:Fu)(σ:St)(v:V):Bool:=match op with
 |.append=>d6 σ v
 |.popAt=>d6 σ v
 |.update=>eF σ v
 |.get=>eF σ v
 |_=>uh v
noncomputable def sE(c:Cx)(op:Fu)(o:V)(vs:List V)(σ:St):Option (V×St):=match op with
 |.append=>v1 vs λv=>oT o v σ
 |.popAt=>Nu o vs σ
 |.join=>dW o λs=>v1 vs λv=>vf c s v σ
 |.count3=>vs3 vs λp l u=>wy p o l u σ
 |.rfind3=>vs3 vs λp l u=>u0 p o l u σ
 |.split=>km vs λp r=>dW p λp=>DR r (zb p o σ)
 |.starts=>v1 vs λp=>DK p o σ
 |.update=>v1 vs λv=>oK o v σ
 |.index=>v1 vs λp=>tD p o σ
 |.get=>km vs λk r=>v1 r λd=>Ko o k d σ
abbrev Ev:=(aR->St->Option (V×St))×(aR->St->Option (Bool×St))
noncomputable def jC(c:Cx)(f:aR->St->Option (V×St)):Ev:=(f,λL σ=>(f L σ).bind λ(v,σ1)=>(b7 c σ1 v).map λb=>(b,σ1))
mutual
noncomputable def ev(c:Cx):PE->Ev
 |.i v=>jC c (λJ σ=>some (v,σ))
 |.q i=>jC c (λL σ=>(aJ i L).map λv=>(v,σ))
 |.Y v=>jC c (λJ σ=>some (v,σ))
 |.attr e f=>jC c (λL σ=>((ev c e).1 L σ).bind λ(o,σ1)=>eP c o f σ1)
 |.sub e i=>jC c (λL σ=>((ev c e).1 L σ).bind λ(o,σ1)=>((ev c i).1 L σ1).bind λ(k,σ2)=>(xI c σ2 o k).map λv=>(v,σ2))
 |.O e lo hi=>jC c (λL σ=>((ev c e).1 L σ).bind λ(o,σ1)=>((ev c lo).1 L σ1).bind λ(l,σ2)=>((ev c hi).1 L σ2).bind λ(h,σ3)=>oz c o l h σ3)
 |.rev e=>jC c (λL σ=>((ev c e).1 L σ).bind λ(o,σ1)=>dz σ1 o λJ ob=>eC ob λvs=>bO vs.reverse σ1)
 |.J op l r=>jC c (λL σ=>((ev c l).1 L σ).bind λ(a,σ1)=>((ev c r).1 L σ1).bind λ(b,σ2)=>Ec c op a b σ2)
 |.E op l r=>jC c (λL σ=>((ev c l).1 L σ).bind λ(a,σ1)=>((ev c r).1 L σ1).bind λ(b,σ2)=>(gV c σ2 op a b).map λx=>(.bool x,σ2))
 |.ab o1 o2 x y z=>jC c (λL σ=>((ev c x).1 L σ).bind λ(a,σ1)=>((ev c y).1 L σ1).bind λ(b,σ2)=>(gV c σ2 o1 a b).bind λt=>match t with
  |true=>((ev c z).1 L σ2).bind λ(d,σ3)=>(gV c σ3 o2 b d).map λx=>(.bool x,σ3)
  |false=>some (.bool false,σ2))
 |.ah e=>(λL σ=>((ev c e).1 L σ).bind λ(v,σ1)=>(b7 c σ1 v).map λb=>(.bool (!b),σ1),λL σ=>((ev c e).2 L σ).map λ(b,σ1)=>(!b,σ1))
 |.neg e=>jC c (λL σ=>((ev c e).1 L σ).bind λ(v,σ1)=>cq v λi=>some (.int (-i),σ1))
 |.ac l r=>(λL σ=>((ev c l).1 L σ).bind λ(v,σ1)=>(b7 c σ1 v).bind λb=>match b with|true=>(ev c r).1 L σ1|false=>some (v,σ1),λL σ=>((ev c l).2 L σ).bind λ(b,σ1)=>match b with|true=>(ev c r).2 L σ1|false=>some (false,σ1))
 |.af l r=>(λL σ=>((ev c l).1 L σ).bind λ(v,σ1)=>(b7 c σ1 v).bind λb=>match b with|false=>(ev c r).1 L σ1|true=>some (v,σ1),λL σ=>((ev c l).2 L σ).bind λ(b,σ1)=>match b with|false=>(ev c r).2 L σ1|true=>some (true,σ1))
 |.ag t b o=>jC c (λL σ=>((ev c t).2 L σ).bind λ(x,σ1)=>match x with|true=>(ev c b).1 L σ1|false=>(ev c o).1 L σ1)
 |.Q es=>jC c (λL σ=>(Qc c es L σ).bind λ(vs,σ1)=>bO vs σ1)
 |.H es=>jC c (λL σ=>(Qc c es L σ).bind λ(vs,σ1)=>if vs.length<=a8 then tH vs σ1 else none)
 |.R ks es=>jC c (λL σ=>(Qc c es L σ).bind λ(vs,σ1)=>if ks.length=vs.length/\ks.length<=15 then fG (.dict (bj (ks.zip vs) [])) σ1 else none)
 |.comp t it QW Qt=>jC c (λL σ=>((ev c it).1 L σ).bind λ(o,σ1)=>(dw c σ1 o).bind λxs=>
  (dc (λv L s=>cU c s t v L) (λs=>cT c σ1 s o) (λL1 s=>((ev c QW).2 L1 s).bind λ(b,s1)=>mK b s1 ((ev c Qt).1 L1 s1)) xs L σ1).bind λ(vs,σ2)=>
  bO vs σ2)
 |.call f es=>jC c (λL σ=>(Qc c es L σ).bind λ(vs,σ1)=>c.call f vs σ1)
 |.new cl es=>jC c (λL σ=>(Qc c es L σ).bind λ(vs,σ1)=>(c.clsm cl c.init).bind λg=>(c.call g (.ref σ1.length::vs) (σ1++[.inst cl []])).bind λ(r,σ2)=>match r with|.none=>some (.ref σ1.length,σ2)|_=>none)
 |.meth o m es=>jC c (λL σ=>((ev c o).1 L σ).bind λ(ov,σ1)=>wq c ov m σ1 (Qc c es L))
 |.ak o a b=>jC c (λL σ=>((ev c o).1 L σ).bind λ(v,σ1)=>vy a b v σ1)
 |.ay a b=>jC c (λL σ=>((ev c a).1 L σ).bind λ(v,σ1)=>((ev c b).1 L σ1).bind λ(w,σ2)=>jo v w σ2)
 |.ao x o m=>jC c (λL σ=>((ev c x).1 L σ).bind λ(v,σ1)=>((ev c o).1 L σ1).bind λ(w,σ2)=>HL c v w m σ2)
 |.ax a b=>jC c (λL σ=>((ev c a).1 L σ).bind λ(v,σ1)=>((ev c b).1 L σ1).bind λ(w,σ2)=>vH v w σ2)
 |.tab m T g e=>jC c (λL σ=>((ev c e).1 L σ).bind λ(v,σ1)=>w4 m T v σ1)
 |.ap o m g es=>jC c (λL σ=>((ev c o).1 L σ).bind λ(ov,σ1)=>x7 c ov m g σ1 (Qc c es L))
 |.un op e=>jC c (λL σ=>((ev c e).1 L σ).bind λ(v,σ1)=>Jk c op v σ1)
 |.bm op o es=>jC c (λL σ=>((ev c o).1 L σ).bind λ(ov,σ1)=>bif LX op σ1 ov then (Qc c es L σ1).bind λ(vs,σ2)=>sE c op ov vs σ2 else none)
termination_by structural e=>e
noncomputable def Qc(c:Cx):List PE->aR->St->Option (List V×St)
 |[],_,σ=>some ([],σ)
 |e::r,L,σ=>((ev c e).1 L σ).bind λ(v,σ1)=>(Qc c r L σ1).bind λ(vs,σ2)=>some (v::vs,σ2)
termination_by structural e=>e
end
noncomputable def aM(c:Cx)(e:PE):aR->St->Option (V×St):=(ev c e).1
noncomputable def bR(c:Cx)(e:PE):aR->St->Option (Bool×St):=(ev c e).2
section
variable {c:Cx}{L:aR}{σ:St}
theorem aD{v}:aM c (.i v) L σ=some (v,σ):=rfl
theorem pg{i}:aM c (.q i) L σ=(aJ i L).map λv=>(v,σ):=rfl
theorem bH{v}:aM c (.Y v) L σ=some (v,σ):=rfl
theorem eS{e f}:aM c (.attr e f) L σ=(aM c e L σ).bind λ(o,σ1)=>eP c o f σ1:=rfl
theorem cu{e i}:aM c (.sub e i) L σ=(aM c e L σ).bind λ(o,σ1)=>(aM c i L σ1).bind λ(k,σ2)=>(xI c σ2 o k).map λv=>(v,σ2):=rfl
theorem d4{e lo hi}:aM c (.O e lo hi) L σ=(aM c e L σ).bind λ(o,σ1)=>(aM c lo L σ1).bind λ(l,σ2)=>(aM c hi L σ2).bind λ(h,σ3)=>oz c o l h σ3:=rfl
theorem Dt{e}:aM c (.rev e) L σ=(aM c e L σ).bind λ(o,σ1)=>dz σ1 o λJ ob=>eC ob λvs=>bO vs.reverse σ1:=rfl
theorem wf{op l r}:aM c (.J op l r) L σ=(aM c l L σ).bind λ(a,σ1)=>(aM c r L σ1).bind λ(b,σ2)=>Ec c op a b σ2:=rfl
theorem ve{op l r}:aM c (.E op l r) L σ=(aM c l L σ).bind λ(a,σ1)=>(aM c r L σ1).bind λ(b,σ2)=>(gV c σ2 op a b).map λx=>(.bool x,σ2):=rfl
theorem jV{o1 o2 x y z}:aM c (.ab o1 o2 x y z) L σ=(aM c x L σ).bind λ(a,σ1)=>(aM c y L σ1).bind λ(b,σ2)=>(gV c σ2 o1 a b).bind λt=>match t with|true=>(aM c z L σ2).bind λ(d,σ3)=>(gV c σ3 o2 b d).map λx=>(.bool x,σ3)|false=>some (.bool false,σ2):=rfl
theorem yc{e}:aM c (.ah e) L σ=(aM c e L σ).bind λ(v,σ1)=>(b7 c σ1 v).map λb=>(.bool (!b),σ1):=rfl
theorem pU{l r}:aM c (.ac l r) L σ=(aM c l L σ).bind λ(v,σ1)=>(b7 c σ1 v).bind λb=>match b with|true=>aM c r L σ1|false=>some (v,σ1):=rfl
theorem o8{l r}:aM c (.af l r) L σ=(aM c l L σ).bind λ(v,σ1)=>(b7 c σ1 v).bind λb=>match b with|false=>aM c r L σ1|true=>some (v,σ1):=rfl
theorem uq{t b o}:aM c (.ag t b o) L σ=(bR c t L σ).bind λ(x,σ1)=>match x with|true=>aM c b L σ1|false=>aM c o L σ1:=rfl
theorem jL{es}:aM c (.Q es) L σ=(Qc c es L σ).bind λ(vs,σ1)=>bO vs σ1:=rfl
theorem lV{es}:aM c (.H es) L σ=(Qc c es L σ).bind λ(vs,σ1)=>if vs.length<=a8 then tH vs σ1 else none:=rfl
theorem jE{ks:bg}{es}:aM c (.R ks es) L σ=(Qc c es L σ).bind λ(vs,σ1)=>if ks.length=vs.length/\ks.length<=15 then fG (.dict (bj (ks.zip vs) [])) σ1 else none:=rfl
theorem eQ{t it QW Qt}:aM c (.comp t it QW Qt) L σ=(aM c it L σ).bind λ(o,σ1)=>(dw c σ1 o).bind λxs=>(dc (λv L s=>cU c s t v L) (λs=>cT c σ1 s o) (λL1 s=>(bR c QW L1 s).bind λ(b,s1)=>mK b s1 (aM c Qt L1 s1)) xs L σ1).bind λ(vs,σ2)=>bO vs σ2:=rfl
theorem lb{f es}:aM c (.call f es) L σ=(Qc c es L σ).bind λ(vs,σ1)=>c.call f vs σ1:=rfl
theorem D3{cl es}:aM c (.new cl es) L σ=(Qc c es L σ).bind λ(vs,σ1)=>(c.clsm cl c.init).bind λg=>(c.call g (.ref σ1.length::vs) (σ1++[.inst cl []])).bind λ(r,σ2)=>match r with|.none=>some (.ref σ1.length,σ2)|_=>none:=rfl
theorem ja{o m es}:aM c (.meth o m es) L σ=(aM c o L σ).bind λ(ov,σ1)=>wq c ov m σ1 (Qc c es L):=rfl
theorem nD{o a b}:aM c (.ak o a b) L σ=(aM c o L σ).bind λ(v,σ1)=>vy a b v σ1:=rfl
theorem rh{e}:bR c (.ah e) L σ=(bR c e L σ).map λ(b,σ1)=>(!b,σ1):=rfl
theorem jm{l r}:bR c (.ac l r) L σ=(bR c l L σ).bind λ(b,σ1)=>match b with|true=>bR c r L σ1|false=>some (false,σ1):=rfl
theorem oI{l r}:bR c (.af l r) L σ=(bR c l L σ).bind λ(b,σ1)=>match b with|false=>bR c r L σ1|true=>some (true,σ1):=rfl
theorem rU{a b}:aM c (.ay a b) L σ=(aM c a L σ).bind λ(v,σ1)=>(aM c b L σ1).bind λ(w,σ2)=>jo v w σ2:=rfl
theorem v8{x o m}:aM c (.ao x o m) L σ=(aM c x L σ).bind λ(v,σ1)=>(aM c o L σ1).bind λ(w,σ2)=>HL c v w m σ2:=rfl
theorem qI{a b}:aM c (.ax a b) L σ=(aM c a L σ).bind λ(v,σ1)=>(aM c b L σ1).bind λ(w,σ2)=>vH v w σ2:=rfl
theorem kY{m T g e}:aM c (.tab m T g e) L σ=(aM c e L σ).bind λ(v,σ1)=>w4 m T v σ1:=rfl
theorem wN{o m g es}:aM c (.ap o m g es) L σ=(aM c o L σ).bind λ(ov,σ1)=>x7 c ov m g σ1 (Qc c es L):=rfl
theorem IT{op e}:aM c (.un op e) L σ=(aM c e L σ).bind λ(v,σ1)=>Jk c op v σ1:=rfl
theorem jI{op o es}:aM c (.bm op o es) L σ=(aM c o L σ).bind λ(ov,σ1)=>bif LX op σ1 ov then (Qc c es L σ1).bind λ(vs,σ2)=>sE c op ov vs σ2 else none:=rfl
theorem pB{e}:aM c (.len e) L σ=(aM c e L σ).bind λ(v,σ1)=>I8 c v σ1:=rfl
theorem uz{e}:aM c (.ord e) L σ=(aM c e L σ).bind λ(v,σ1)=>Hn v σ1:=rfl
theorem CT{e}:aM c (.chr e) L σ=(aM c e L σ).bind λ(v,σ1)=>yY v σ1:=rfl
theorem Do{e}:aM c (.sum e) L σ=(aM c e L σ).bind λ(v,σ1)=>BY c v σ1:=rfl
theorem sk{e}:aM c (.listOf e) L σ=(aM c e L σ).bind λ(v,σ1)=>(o6 c σ1 v).bind λvs=>bO vs σ1:=rfl
theorem me:Qc c [] L σ=some ([],σ):=rfl
theorem bF{e r}:Qc c (e::r) L σ=(aM c e L σ).bind λ(v,σ1)=>(Qc c r L σ1).bind λ(vs,σ2)=>some (v::vs,σ2):=rfl
theorem jg{β:Type}{e}{f:V->St->Option β}:((Qc c [e] L σ).bind λ(vs,σ2)=>v1 vs λv=>f v σ2)=(aM c e L σ).bind λ(v,σ2)=>f v σ2:=by show ((aM c e L σ).bind λ(v,σ1)=>some ([v],σ1)).bind _=_;generalize aM c e L σ=z2;induction z2<;>rfl
theorem sy{o e}:aM c (.update o e) L σ=(aM c o L σ).bind λ(ov,σ1)=>bif eF σ1 ov then (aM c e L σ1).bind λ(v,σ2)=>oK ov v σ2 else none:=
 jI.trans (Qg (Option.bind _) (funext λp=>Qg (λt=>bif eF p.2 p.1 then t else none) (jg (f:=λv σ=>oK p.1 v σ))))
theorem uj{o e}:aM c (.append o e) L σ=(aM c o L σ).bind λ(ov,σ1)=>bif d6 σ1 ov then (aM c e L σ1).bind λ(v,σ2)=>oT ov v σ2 else none:=
 jI.trans (Qg (Option.bind _) (funext λp=>Qg (λt=>bif d6 p.2 p.1 then t else none) (jg (f:=λv σ=>oT p.1 v σ))))
theorem DU{o}:aM c (.pop o) L σ=(aM c o L σ).bind λ(ov,σ1)=>bif d6 σ1 ov then Bn ov (.int (-1)) σ1 else none:=rfl
theorem qJ{QV e}:aM c (.join QV e) L σ=(aM c e L σ).bind λ(v,σ1)=>vf c QV v σ1:=jg (f:=λv σ=>vf c QV v σ)
end
noncomputable def fj(f:V->V):O->O
 |.list vs=>.list (vs.map f)
 |.tuple vs=>.tuple (vs.map f)
 |.dict kvs=>.dict (kvs.map λp=>(p.1,f p.2))
 |.inst c fs=>.inst c (fs.map λp=>(p.1,f p.2))
 |.meth g s=>.meth g (f s)
 |.rng a b s=>.rng a b s
noncomputable def jj(f:V->V):O->V
 |.list vs=>.I (.list (vs.map f))
 |.tuple vs=>.I (.tuple (vs.map f))
 |.dict kvs=>.I (.dict (kvs.map λp=>(p.1,f p.2)))
 |_=>.C
noncomputable def rz(σ:St)(n:Nat):Nat->V->V
 |0,v=>(match v with|.ref _=>.C|v=>v)
 |k+1,v=>match v with
  |.ref a=>bif Nat.ble n a then (match σ[a]? with|some o=>jj (rz σ n k) o|none=>.C) else .C
  |v=>v
noncomputable def rv(σ:St)(n:Nat)(v:V):V:=match v with
 |.ref a=>bif Nat.blt a n then .ref a else rz σ n 6 (.ref a)
 |v=>v
theorem fU{β:Type}{f:β->β}(i:Nat):∀L:List (Nat×β),aJ i (L.map λp=>(p.1,f p.2))=(aJ i L).map f
 |[]=>rfl
 |(j,w)::r=>by
  show (bif Nat.beq j i then some (f w) else aJ i (r.map λp=>(p.1,f p.2)))=(bif Nat.beq j i then some w else aJ i r).map f;generalize Nat.beq j i=z1;induction z1 with
  |true=>rfl
  |false=>exact fU i r
noncomputable def gQ(σ:St)(n:Nat)(L:aR):aR:=L.map λp=>(p.1,rv σ n p.2)
noncomputable def iY(σ:St)(n:Nat):St:=(σ.take n).map (fj (rv σ n))
noncomputable def mN(c:Cx):Tg->V->aR->St->Option (aR×St)
 |.l i,v,L,σ=>some (aX i v L,σ)
 |.a o f,v,L,σ=>(aM c o L σ).bind λ(ov,σ1)=>(gZ c ov f v σ1).map λs=>(L,s)
 |.s o i,v,L,σ=>(aM c o L σ).bind λ(ov,σ1)=>(aM c i L σ1).bind λ(iv,σ2)=>(jn ov iv v σ2).map λs=>(L,s)
noncomputable def mh(c:Cx):List Tg->List V->aR->St->Option (aR×St)
 |[],[],L,σ=>some (L,σ)
 |t::ts,v::vs,L,σ=>(mN c t v L σ).bind λ(L1,σ1)=>mh c ts vs L1 σ1
 |_,_,_,_=>none
mutual
noncomputable def ms(c:Cx):PS->Nat->aR->St->Option (Fl×aR×St)
 |.expr e,z,L,σ=>(aM c e L σ).map λ(_,σ1)=>(.next,L,σ1)
 |.j t e,z,L,σ=>(aM c e L σ).bind λ(v,σ1)=>(mN c t v L σ1).map λ(L1,σ2)=>(.next,L1,σ2)
 |.Z ts e,z,L,σ=>(aM c e L σ).bind λ(v,σ1)=>(d5 c σ1 v).bind λvs=>(mh c ts vs L σ1).map λ(L1,σ2)=>(.next,L1,σ2)
 |.aj i op e,z,L,σ=>(aJ i L).bind λa=>(aM c e L σ).bind λ(b,σ1)=>(tC c op a b σ1).map λ(v,σ2)=>(.next,aX i v L,σ2)
 |.au o f op e,z,L,σ=>(aM c o L σ).bind λ(ov,σ1)=>(eP c ov f σ1).bind λ(a,σ2)=>(aM c e L σ2).bind λ(b,σ3)=>(tC c op a b σ3).bind λ(v,σ4)=>(gZ c ov f v σ4).map λs=>(.next,L,s)
 |.ai o i op e,z,L,σ=>(aM c o L σ).bind λ(ov,σ1)=>(aM c i L σ1).bind λ(iv,σ2)=>(xI c σ2 ov iv).bind λa=>(aM c e L σ2).bind λ(b,σ3)=>(tC c op a b σ3).bind λ(v,σ4)=>(jn ov iv v σ4).map λs=>(.next,L,s)
 |.ifs t b o,z,L,σ=>(bR c t L σ).bind λ(x,σ1)=>match x with|true=>PT c b z L σ1|false=>PT c o z L σ1
 |.aa t b,z,L,σ=>dR (λL s=>bR c t L s) (λL s=>PT c b z L s) c.fuel L σ
 |.al t it b,z,L,σ=>(aM c it L σ).bind λ(o,σ1)=>(dw c σ1 o).bind λxs=>gv (λv L s=>cU c s t v L) (λs=>cT c σ1 s o) (λL s=>PT c b σ1.length L s) xs L σ1
 |.ret e,z,L,σ=>(aM c e L σ).map λ(v,σ1)=>(.ret v,L,σ1)
 |.az e,z,L,σ=>(bR c e L σ).bind λ(b,σ1)=>match b with|true=>some (.next,L,σ1)|false=>none
 |.aw i j o m e,z,L,σ=>(aM c o L σ).bind λ(ov,σ1)=>(qA c ov m σ1 (aM c e L)).bind λ(v,σ2)=>match v with
  |.none=>some (.next,aX i .none L,σ2)
  |.str s=>some (.next,aX j (.int s.length) (aX i (.str s) L),σ2)
  |_=>none
 |.brk,z,L,σ=>some (.brk,L,σ)
 |.cont,z,L,σ=>some (.cont,L,σ)
 |.pass,z,L,σ=>some (.next,L,σ)
 |.gc k,z,L,σ=>some (.next,gQ σ (z+k) L,iY σ (z+k))
 |.ae e,z,L,σ=>(aM c e L σ).map λ(v,σ1)=>(.ret (rv σ1 z v),gQ σ1 z L,iY σ1 z)
 |.aA b,z,L,σ=>PT c b z L σ
 |.aB i s k,z,L,σ=>(aJ i L).bind λv=>dW v λx=>match decide (x=s) with|true=>some (.next,gQ σ (z+k) L,iY σ (z+k))|false=>some (.next,L,σ)
termination_by structural e=>e
noncomputable def PT(c:Cx):List PS->Nat->aR->St->Option (Fl×aR×St)
 |[],z,L,σ=>some (.next,L,σ)
 |s::r,z,L,σ=>(ms c s z L σ).bind λ(f,L1,σ1)=>match f with|.next=>PT c r z L1 σ1|f=>some (f,L1,σ1)
termination_by structural e=>e
end
structure Fn where
 params:aC
 dflt:List V
 body:List PS
noncomputable def cz:aC->List V->List V->Option aR
 |[],[],_=>some []
 |i::is,v::vs,d=>(cz is vs (d.drop (d.length-is.length))).map ((i,v)::·)
 |i::is,[],d=>if d.length=is.length+1 then (match d with|v::d'=>(cz is [] d').map ((i,v)::·)|[]=>none) else none
 |[],_::_,_=>none
structure Pr where
 so:Nat->Option O
 clsm:Nat->Nat->Option Nat
 clsv:Nat->Nat->Option V
 clsi:Nat->Nat->Bool
 init:Nat
 fns:Nat->Option Fn
noncomputable def jk(p:Pr)(Qj:Nat)(call:Nat->List V->St->Option (V×St)):Cx:={ so:=p.so,clsm:=p.clsm,clsv:=p.clsv,clsi:=p.clsi,init:=p.init,fuel:=Qj,call:=call }
noncomputable def qh(f:Nat)(fl:Fl)(σ:St):Option (V×St):=bif Nat.blt f eM then some ((match fl with|.ret v=>v|_=>.none),σ) else match fl with
 |.next=>some (.none,σ)
 |.ret v=>(match v with|.none=>none|v=>some (v,σ))
 |_=>none
noncomputable def hQ(p:Pr)(Qj:Nat):Nat->Nat->List V->St->Option (V×St)
 |0,_,_,_=>none
 |d+1,f,P5,σ=>(p.fns f).bind λfn=>(cz fn.params P5 fn.dflt).bind λL=>(PT (jk p Qj (hQ p Qj d)) fn.body σ.length L σ).bind λ(fl,_,σ1)=>qh f fl σ1
noncomputable def se{β:Type}(l:List (Nat×List (Nat×β)))(a b:Nat):Option β:=match aJ a l with|some r=>aJ b r|none=>none
noncomputable def DV(l:List (Nat×aC))(a b:Nat):Bool:=match aJ a l with|some l=>l.contains b|none=>false
end
section
theorem ME(i:Nat):Nat.beq i i=true:=Nat.beq_refl i
theorem On{i j}(q:¬i=j):Nat.beq i j=false:=(BT.beq_eq i j).trans (Ux q)
theorem IY{β:Type}(i:Nat)(v:β)(l:List (Nat×β)):aJ i ((i,v)::l)=some v:=Qg (λb=>bif b then some v else aJ i l) (ME i)
theorem FK{β:Type}{i j}(v:β)(l:List (Nat×β))(q:¬i=j):aJ j ((i,v)::l)=aJ j l:=Qg (λb=>bif b then some v else aJ j l) (On q)
theorem Nv{β:Type}(i:Nat)(v w:β)(l:List (Nat×β)):aX i v ((i,w)::l)=(i,v)::l:=Qg (λb=>bif b then (i,v)::l else (i,w)::aX i v l) (ME i)
theorem Nz{β:Type}{i j}(v w:β)(l:List (Nat×β))(q:¬i=j):aX j v ((i,w)::l)=(i,w)::aX j v l:=Qg (λb=>bif b then (j,v)::l else (i,w)::aX j v l) (On q)
inductive aL{α β:Type}(R:α->β->Prop):List α->List β->Prop
 |nil:aL R [] []
 |cons {a b l m}:R a b->aL R l m->aL R (a::l) (b::m)
namespace aL
theorem uncons{α β:Type}{R:α->β->Prop}{a b l m}(h:aL R (a::l) (b::m)):R a b/\aL R l m:=by cases h with|cons h t=>exact ⟨h,t⟩
@[elab_as_elim]theorem nilE{α β:Type}{R:α->β->Prop}{ys:List β}{P:List β->Prop}(h:aL R [] ys)(k:P []):P ys:=by cases h;exact k
@[elab_as_elim]theorem consE{α β:Type}{R:α->β->Prop}{a l ys}{P:List β->Prop}(h:aL R (a::l) ys)(k:∀b m,R a b->aL R l m->P (b::m)):P ys:=by cases h with|cons h t=>exact k _ _ h t
variable {α β:Type}{R S:α->β->Prop}
theorem len{l:List α}{m:List β}(h:aL R l m):l.length=m.length:=by
 induction h with
 |nil=>rfl
 |cons _ _ ih=>simp[ih]
theorem mono{l m}(h:aL R l m)(k:∀a b,R a b->S a b):aL S l m:=by
 induction h with
 |nil=>exact .nil
 |cons h _ ih=>exact .cons (k _ _ h) ih
theorem get{l m}(h:aL R l m):∀{i:Nat}{a:α},l[i]? = some a->∃b,m[i]? = some b/\R a b:=by
 induction h with
 |nil=>intro i a e;simp at e
 |cons h _ ih=>
  intro i a e;induction i with
  |zero=>simp at e;subst e;exact ⟨_,by simp,h⟩
  |succ i=>simp at e;obtain ⟨b,hb,r⟩:=ih e;exact ⟨b,by simpa using hb,r⟩
theorem app{l l' m m'}(h:aL R l m)(h':aL R l' m'):aL R (l++l') (m++m'):=by
 induction h with
 |nil=>exact h'
 |cons h _ ih=>exact .cons h ih
theorem snoc{l m a b}(h:aL R l m)(h':R a b):aL R (l++[a]) (m++[b]):=h.app (.cons h' .nil)
theorem set{l:List α}{m:List β}(h:aL R l m):∀(i:Nat) {a:α}{b:β},R a b->aL R (l.set i a) (m.set i b):=by
 induction h with
 |nil=>exact λi a b r=>.nil
 |cons h t ih=>
  intro i a b r;induction i with
  |zero=>exact .cons r t
  |succ i=>exact .cons h (ih i r)
theorem drop{l:List α}{m:List β}(h:aL R l m):∀i,aL R (l.drop i) (m.drop i):=by
 induction h with
 |nil=>intro i;simp;exact .nil
 |cons h t ih=>intro i;induction i with
  |zero=>exact .cons h t
  |succ i=>simpa using ih i
theorem take{l:List α}{m:List β}(h:aL R l m):∀i,aL R (l.take i) (m.take i):=by
 induction h with
 |nil=>intro i;simp;exact .nil
 |cons h t ih=>intro i;induction i with
  |zero=>exact .nil
  |succ i=>simpa using .cons h (ih i)
theorem rev{l:List α}{m:List β}(h:aL R l m):aL R l.reverse m.reverse:=by
 induction h with
 |nil=>exact .nil
 |cons h t ih=>simpa using ih.snoc h
theorem eraseIdx{l:List α}{m:List β}(h:aL R l m):∀i,aL R (l.eraseIdx i) (m.eraseIdx i):=by
 induction h with
 |nil=>exact λi=>.nil
 |cons h t ih=>intro i;induction i with
  |zero=>exact t
  |succ i=>exact .cons h (ih i)
theorem last{l:List α}{m:List β}(h:aL R l m){a}(e:l.getLast? = some a):∃b,m.getLast? = some b/\R a b:=by rw[List.getLast?_eq_getElem?]at e;obtain ⟨b,hb,r⟩:=h.get e;refine ⟨b,(rW (List.getLast?_eq_getElem? ..) (rW (h.len ..).symm ?_)),r⟩;exact hb
theorem dropLast{l:List α}{m:List β}(h:aL R l m):aL R l.dropLast m.dropLast:=by exact rW (List.dropLast_eq_take ..) (rW (List.dropLast_eq_take ..) (rW (h.len ..) (h.take _)))
end aL
abbrev gu:=bf
noncomputable def i3(p:gu):Addr:=match p with|[]=>0|(a,_)::_=>a
structure HS where
 a:List Addr
 z:O->gu->Prop
structure HS.Le(s t:HS):Prop where
 a:s.a<+:t.a
 z:∀o A,s.z o A->t.z o A
noncomputable def HS.nil:HS:=⟨[],λJ J=>False⟩
noncomputable def HS.add(s:HS)(A:Addr):HS:=⟨s.a++[A],s.z⟩
theorem HS.Le.rfl{s:HS}:s.Le s:=⟨List.prefix_refl _,λJ J h=>h⟩
theorem HS.Le.trans{s t u:HS}(p:s.Le t)(q:t.Le u):s.Le u:=⟨p.1.trans q.1,λo A h=>q.2 o A (p.2 o A h)⟩
theorem HS.Le.nil{s}:HS.nil.Le s:=⟨⟨_,Eq.refl _⟩,λJ J h=>h.elim⟩
theorem HS.Le.add{s:HS}{A}:s.Le (s.add A):=⟨⟨_,Eq.refl _⟩,λJ J h=>h⟩
structure PZ where
 p:List gu
 zl:bf
 z:O->gu->Prop
 cs:bf
noncomputable def PZ.zc(ps:PZ):bf:=ps.zl++ps.cs
noncomputable def PZ.flatten(ps:PZ):bf:=ps.p.flatten++ps.zc
noncomputable def PZ.set(ps:PZ)(a:Nat)(PW:gu):PZ:=⟨ps.p.set a PW,ps.zl,ps.z,ps.cs⟩
noncomputable def PZ.add(ps:PZ)(PW:gu):PZ:=⟨ps.p++[PW],ps.zl,ps.z,ps.cs⟩
noncomputable def be(ps:PZ):HS:=⟨ps.p.map i3,ps.z⟩
inductive VR(hs:HS):V->Value->Prop
 |none:VR hs .none .none
 |bool (b):VR hs (.bool b) (.bool b)
 |int (i t):VR hs (.int i) (.int i t)
 |str (s:aC) (t):s.length<=a8->VR hs (.str s) (.str (aT s) t)
 |ref {a A}:hs.a[a]? = some A->VR hs (.ref a) (.ref A)
 |u (a):VR hs (.u a) (.ref a)
 |I {o p}:hs.z o p->VR hs (.I o) (.ref (i3 p))
 |C (A):VR hs .C (.ref A)
@[elab_as_elim]theorem VR.srefE{hs a y}{P:Value->Prop}(h:VR hs (.u a) y)(k:P (.ref a)):P y:=by cases h;exact k
@[elab_as_elim]theorem VR.intE{hs a y}{P:Value->Prop}(h:VR hs (.int a) y)(k:∀t,P (.int a t)):P y:=by cases h;exact k _
@[elab_as_elim]theorem VR.strE{hs}{a:aC}{y}{P:Value->Prop}(h:VR hs (.str a) y)(k:∀t,a.length<=a8->P (.str (aT a) t)):P y:=by cases h with|str _ t h=>exact k t h
theorem VR.mono{hs QF:HS}(h:hs.Le QF){v x}(r:VR hs v x):VR QF v x:=by
 induction r with
 |none=>exact .none
 |bool b=>exact .bool b
 |int i t=>exact .int i t
 |str s t h=>exact .str s t h
 |ref e=>obtain ⟨r,q⟩:=h.a;exact .ref (by rw[<-q,List.getElem?_append_left];exact e;exact (bY.mp e).1)
 |u a=>exact .u a
 |I e=>exact .I (h.z _ _ e)
 |C x=>exact .C x
noncomputable def KV(hs:HS)(a:aC×V)(b:Str×Value):Prop:=b.1=aT a.1/\VR hs a.2 b.2
noncomputable def AV(tb:bq)(hs:HS)(a:Nat×V)(e:DictEntry):Prop:=∃x t,tb[a.1]? = some x/\e.key=.str x t/\VR hs a.2 e.val
section
variable (P7:Program)(w:World)(tb:bq)
inductive cr(hs:HS):O->gu->Prop
 |list {vs:List V}{its:aO}{A:Addr}{n:Nat}:aL (VR hs) vs its->vs.length<=a8+a8->cr hs (.list vs) [(A,listOf its.toArray n)]
 |tuple {vs:List V}{its:aO}{A:Addr}{n:Nat}:aL (VR hs) vs its->vs.length<=a8+a8->cr hs (.tuple vs) [(A,{ cls:=.type "tuple",data:=.seq its.toArray n })]
 |dict {kvs:List (aC×V)}{ks:bD}{A:Addr}{o:Obj}:o.IsDictOf (strKind P7 w) ks->aL (KV hs) kvs ks->kvs.length<=a8->(A==sysModules)=false->cr hs (.dict kvs) [(A,o)]
 |inst {C:Nat}{fs:List (Nat×V)}{es:List DictEntry}{A D:Addr}{n:Nat}:aL (AV tb hs) fs es->(fs.map (·.1)).Nodup->fs.length<=900->cr hs (.inst C fs) [(A,instObj C D),(D,dictOf es n)]
 |meth {f:Nat}{self:V}{x:Value}{A:Addr}:VR hs self x->cr hs (.meth f self) [(A,methodObj (.ref f) x)]
 |rng {a b s:Int}{A:Addr}{t u v:Tok}:cr hs (.rng a b s) [(A,{ cls:=.type "range",dict:=none,data:=.fields #[.int a t,.int b u,.int s v],slots:=#[] })]
end
end
section
structure Fc where
 cn:Str
 cs:Scope
 L:Addr
 a:Addr
 ccd:Value
 h₀:Heap
 A₀:Around
 base:Heap
 outer:List Env
 A:Around
noncomputable abbrev Fc.cl(c:Fc):List (Str×Addr):=cellsFrom (c.L+1) c.cs.names []
noncomputable def Fc.env(c:Fc):Env:=envOfC c.cn c.cs c.L c.a c.ccd
structure Wd where
 prog:Program
 w:World
 K:Frag
 p:Program
 loose:bq
 mean:ExcName->Option Value
 mg:bG
 mb:bG
 tb:bq
 kf:Nat
 kn:bq
noncomputable def CO(c:Fc):List Addr:=c.outer.filterMap (·.frame)
structure Gd(c:Fc)(g:Heap):Prop where
 T:KtsTurn (CO c) c.h₀ g
 B:Below c.A₀ c.base c.outer g
 D:KtsDicts (CO c) g
theorem Gd.none{c:Fc}{g:Heap}(G:Gd c g){b}:c.h₀.get? b=none↔g.get? b=none:=by
 constructor
 ·exact G.T.none_ b
 ·intro e;cases q:c.h₀.get? b with
  |none=>rfl
  |some o=>obtain ⟨sl,h⟩:=G.T.up q;rw[e]at h;cases h
theorem Gd.news{c:Fc}{g h L l}(G:Gd c g)(N:News c.h₀ L h l):News g L h l:=λp hp=>⟨(N p hp).1,(N p hp).2.1,G.none.mp (N p hp).2.2⟩
theorem Gd.back{c:Fc}{g h L l}(G:Gd c g)(N:News g L h l):News c.h₀ L h l:=λp hp=>⟨(N p hp).1,(N p hp).2.1,G.none.mpr (N p hp).2.2⟩
noncomputable def M8(c:Fc)(m0 m:bG):Prop:=∀x,c.cl.lookup x=none->m0 x=m x
noncomputable def gD(c:Fc)(h:Heap)(m:bG):Prop:=∃g,Gd c g/\∃m0,M8 c m0 m/\Fr g c.L h m0
theorem gD.ns{c:Fc}{h:Heap}{m}(F:gD c h m):∃m0,M8 c m0 m/\h.Ns c.L m0:=let ⟨_,_,m0,q,f⟩:=F;⟨m0,q,f.ns⟩
theorem gD.push{c}{h:Heap}{m}(F:gD c h m)(o:Obj):gD c (h.push o) m:=let ⟨g,G,m0,q,f⟩:=F;⟨g,G,m0,q,f.push o⟩
theorem gD.npush{c:Fc}{h:Heap}{m l}(F:gD c h m)(N:News c.h₀ c.L h l)(o:Obj)(hf:o.isFreed=false):News c.h₀ c.L (h.push o) ((h.objs.size,o)::l):=let ⟨_,G,_,_,f⟩:=F;G.back ((G.news N).push f o hf)
theorem gD.change{c:Fc}{h h' m D}(F:gD c h m)(hs:Heap.SameBut D h h')(hL:D≠c.L)(hn:c.h₀.get? D=none):gD c h' m:=let ⟨g,G,m0,q,f⟩:=F;⟨g,G,m0,q,f.change hs hL (G.none.mp hn)⟩
theorem gD.set{c:Fc}{h h':Heap}{m m0 m'}(F:gD c h m)(q:M8 c m0 m')(hn:h'.Ns c.L m0)(hs:Heap.SameBut c.L h h'):gD c h' m':=let ⟨g,G,_,_,f⟩:=F;⟨g,G,m0,q,f.set hn hs⟩
theorem gD.keeps{c}{h h':Heap}{m}(F:gD c h m)(hk:∀b x,h.get? b=some x->h'.get? b=some x):gD c h' m:=let ⟨g,G,m0,q,f⟩:=F;⟨g,G,m0,q,f.keeps hk⟩
theorem gD.off{c:Fc}{h h':Heap}{m D}(F:gD c h m)(hk:∀b x,b≠D->h.get? b=some x->h'.get? b=some x)(hL:D≠c.L)(hn:c.h₀.get? D=none):gD c h' m:=by refine a7 λkC=>?_;obtain ⟨g,G,m0,q,f⟩:=F;obtain ⟨oL,es,ep,h1,h2⟩:=f.ns;exact kC ⟨g,G,m0,q,⟨oL,es,ep,hk _ _ hL.symm h1,h2⟩,λb x hb=>hk b x (λq=>by rw[q,G.none.mp hn]at hb;cases hb) (f.keep b x hb),f.above⟩
theorem gD.base{c:Fc}{h m}(F:gD c h m):c.base.StaysIn h:=let ⟨_,G,_,_,f⟩:=F;λb o e=>f.keep b o (G.B.stays b o e)
noncomputable def gy(cs:Scope):Prop:=∀n,((∀p∈cs.names,p.2≠.cell)/\cellsFrom n cs.names []=[])\/∃x A,cellsFrom n cs.names []=[(x,A)]/\cs.names.lookup x=some .cell/\∀p∈cs.names,p.2=.cell->p.1=x
theorem gy.q{cs:Scope}(k:gy cs){n x kd}(h:cs.names.lookup x=some kd)(hk:kd≠.cell):(cellsFrom n cs.names []).lookup x=none:=by
 rcases k n with ⟨_,e⟩|⟨y,A,e,q,_⟩
 ·exact rW e rfl
 ·refine rW e (rW (Uu ..) ?_);cases z:x==y with
  |true=>rw[eq_of_beq z,q]at h;exact Uj (aK h).symm hk
  |false=>rfl
theorem gy.cell{cs:Scope}(k:gy cs){n x}(h:cs.names.lookup x=some .cell):∃A,cellsFrom n cs.names []=[(x,A)]:=by
 have hm:(x,NameKind.cell)∈cs.names:=mem_of_lookup h;rcases k n with ⟨q,_⟩|⟨y,A,e,_,q⟩
 ·exact Uj rfl (q _ hm)
 ·exact ⟨A,(show x=y from q _ hm rfl)▸e⟩
structure v7(W:Wd)(c:Fc)(d:Nat):Prop where
 frames:c.A.frames=some (c.env::c.outer)
 hh:c.A.handled=none
 depth:c.A.depth+3*d+3<=990
 units:c.A.units+30*d+300<=9800
 X:W.K.In c.base
 T:Top W.p W.loose W.mean W.mg W.mb c.base
 kind:c.cs.kind=.function
 ck:gy c.cs
 dp:c.A=c.A₀.deeper c.env
theorem v7.TR{W:Wd}{c d}(ok:v7 W c d){g}(G:Gd c g):TopRead W.p W.loose W.mg W.mb g:=(topRead_of ok.T).keeps G.B.stays
theorem v7.KR{W:Wd}{c d}(ok:v7 W c d){g}(G:Gd c g):W.K.In g:=ok.X.keeps G.B.stays
noncomputable def Fz(W:Wd)(c:Fc)(m:bG)(z:O->gu->Prop)(zl cs:bf):Prop:=
 (∀o PW,z o PW->(∀q∈PW,q∈zl)/\cr W.prog W.w W.tb ⟨[],z⟩ o PW)/\CellsAre m c.cl cs
structure SR(W:Wd)(c:Fc)(m:bG)(X:bf)(σ:St)(ps:PZ)(h:Heap):Prop where
 F:gD c h m
 N:News c.h₀ c.L h (ps.flatten++X)
 nd:((ps.flatten++X).map (·.1)).Nodup
 rel:aL (cr W.prog W.w W.tb (be ps)) σ ps.p
 fz:Fz W c m ps.z ps.zl ps.cs
section
variable {W:Wd}{c:Fc}{m m':bG}{X:bf}{σ:St}{ps:PZ}{h h':Heap}
theorem ic:(be ps).a.length=ps.p.length:=UC ..
theorem SR.cell(S:SR W c m X σ ps h)(k:gy c.cs){x}(e:c.cs.names.lookup x=some .cell):∃A o,c.cl=[(x,A)]/\ps.cs=[(A,o)]/\o.data=.cell (m x)/\h.get? A=some o:=by obtain ⟨A,ea⟩:=k.cell (n:=c.L+1) e;have z:=S.fz.2;unfold Fc.cl at z;rw[ea]at z;refine a7 λkC=>?_;obtain ⟨o,e1,e2⟩:=z.one;exact kC ⟨A,o,ea,e1,e2,(S.N (A,o) (UO _ (dS _ (dS _ (e1▸.head _))))).1⟩
theorem SR.len(S:SR W c m X σ ps h):σ.length=ps.p.length:=S.rel.len
theorem SR.K(S:SR W c m X σ ps h){d}(ok:v7 W c d):W.K.In h:=ok.X.keeps S.F.base
theorem SR.obj(S:SR W c m X σ ps h){a:Nat}{o:O}(e:σ[a]? = some o):∃PW,ps.p[a]? = some PW/\cr W.prog W.w W.tb (be ps) o PW:=S.rel.get e
theorem SR.mem(S:SR W c m X σ ps h){a:Nat}{PW:gu}(e:ps.p[a]? = some PW){q:Addr×Obj}(hq:q∈PW):q∈ps.flatten++X:=
 UO _ (UO _ (List.mem_flatten.mpr ⟨PW,List.mem_of_getElem? e,hq⟩))
theorem SR.at(S:SR W c m X σ ps h){a:Nat}{PW:gu}(e:ps.p[a]? = some PW){q:Addr×Obj}(hq:q∈PW):h.get? q.1=some q.2:=(S.N _ (S.mem e hq)).1
theorem SR.addr(S:SR W c m X σ ps h){a x}(r:VR (be ps) (.ref a) x):∃PW,ps.p[a]? = some PW/\x=.ref (i3 PW):=by
 cases r with
 |ref e=>refine a7 λkC=>?_;obtain ⟨PW,hp,q⟩:=Option.map_eq_some_iff.mp ((UV ..).symm.trans e);exact kC ⟨PW,hp,q▸rfl⟩
theorem SR.own(S:SR W c m X σ ps h){a:Nat}{x:Value}{o:O}(r:VR (be ps) (.ref a) x)(e:σ[a]? = some o):
 ∃PW,ps.p[a]? = some PW/\x=.ref (i3 PW)/\cr W.prog W.w W.tb (be ps) o PW:=by
 refine a7 λkC=>?_;obtain ⟨PW,hp,hx⟩:=S.addr r;obtain ⟨Q',Sa,hr⟩:=S.obj e;refine kC ?_;rw[hp]at Sa;obtain rfl:=aK Sa;exact ⟨PW,hp,hx,hr⟩
theorem nl{Qb post D o o'}:∀{ps:List gu}{a:Nat},ps[a]? = some (Qb++(D,o)::post) ->
 ∃P Q,ps.flatten=P++(D,o)::Q/\(ps.set a (Qb++(D,o')::post)).flatten=P++(D,o')::Q
 |[],a,e=>by simp at e
 |p::r,0,e=>by simp at e;subst e;exact ⟨Qb,post++r.flatten,by simp,by simp⟩
 |p::r,a+1,e=>by simp at e;refine a7 λkC=>?_;obtain ⟨P,Q,h1,h2⟩:=nl (o':=o') e;exact kC ⟨p++P,Q,by simp[h1],by simp[h2]⟩
theorem lD{Qb post D o o' a}(e:ps.p[a]? = some (Qb++(D,o)::post)):
 ∃P Q,ps.flatten=P++(D,o)::Q/\(ps.set a (Qb++(D,o')::post)).flatten=P++(D,o')::Q:=by
 refine a7 λkC=>?_;obtain ⟨P,Q,h1,h2⟩:=nl (o':=o') e;exact kC ⟨P,Q++ps.zc,by unfold PZ.flatten;refine rW h1 ?_;simp,by unfold PZ.flatten;show (ps.p.set a _).flatten++_=_;exact rW h2 (rW b9 rfl)⟩
theorem oA{a:Nat}{PW:gu}(e:ps.p[a]? = some PW):(be ps).a[a]? = some (i3 PW):=(UV ..).trans (Qg (Option.map i3) e)
theorem vi{a:Nat}{PW Q':gu}(e:ps.p[a]? = some PW)(h1:i3 Q'=i3 PW):be (ps.set a Q')=be ps:=by
 show HS.mk ((ps.p.set a Q').map i3) ps.z=HS.mk (ps.p.map i3) ps.z;refine rW (List.map_set ..) (rW h1 ?_);exact Qg (HS.mk · ps.z) ((by
  apply List.ext_getElem?;refine λi=>rW (List.getElem?_set ..) ?_;by_cases q:a=i
  ·subst q;have:=(bY.mp (oA e)).1;exact rW (T6 rfl ..) (rW (T6 this ..) ((oA e).symm))
  ·simp[q]))
theorem SR.put2(S:SR W c m X σ ps h){a Qb post D o o' ob}(e:ps.p[a]? = some (Qb++(D,o)::post))(hk:∀b x,b≠D->h.get? b=some x->h'.get? b=some x)(ho:h'.get? D=some o')
 (hr:cr W.prog W.w W.tb (be ps) ob (Qb++(D,o')::post)):SR W c m X (σ.set a ob) (ps.set a (Qb++(D,o')::post)) h'/\be (ps.set a (Qb++(D,o')::post))=be ps:=by
 have hh:i3 (Qb++(D,o')::post)=i3 (Qb++(D,o)::post):=by clear hr e;induction Qb<;>rfl
 have he:=vi e hh;refine a7 λkC=>?_;obtain ⟨P,Q,h1,h2⟩:=lD (o':=o') e;refine kC ?_;have D0:=S.N (D,o) (by refine rW h1 ?_;simp);have nd:=S.nd;rw[h1]at nd;simp only[ba,Ul,UD,UZ]at nd;have nd2:=List.nodup_append.mp nd;have n1:∀p∈P,p.1≠D:=λp hp q=>nd2.2.2 _ (UM hp) D List.mem_cons_self q;have n2:∀p∈Q++X,p.1≠D:=λp hp q=>by have:=(List.nodup_cons.mp nd2.2.1).1;apply this;exact rW ba.symm (rW q.symm (UM hp))
 refine ⟨⟨S.F.off hk D0.2.1 D0.2.2,?_,?_,?_,S.fz⟩,he⟩
 ·refine rW h2 (rW b9 (rW (UZ ..) ?_));intro p hp;have NN:∀p,p∈P++(D,o)::(Q++X)->h.get? p.1=some p.2/\p.1≠c.L/\c.h₀.get? p.1=none:=λp hp=>S.N p (by refine rW h1 ?_;simpa using hp);rcases List.mem_append.mp hp with hp|hp
  ·have z:=NN p (UO _ hp);exact ⟨hk _ _ (n1 p hp) z.1,z.2⟩
  ·rcases b8.mp hp with rfl|hp
   ·exact ⟨ho,D0.2⟩
   ·have z:=NN p (dS _ (.tail _ hp));exact ⟨hk _ _ (n2 p hp) z.1,z.2⟩
 ·refine rW h2 ?_;simpa using nd
 ·exact rW he (S.rel.set a hr)
theorem SR.put(S:SR W c m X σ ps h){a Qb post D o o' ob}(e:ps.p[a]? = some (Qb++(D,o)::post))(hs:Heap.SameBut D h h')(ho:h'.get? D=some o')
 (hr:cr W.prog W.w W.tb (be ps) ob (Qb++(D,o')::post)):SR W c m X (σ.set a ob) (ps.set a (Qb++(D,o')::post)) h'/\be (ps.set a (Qb++(D,o')::post))=be ps:=S.put2 e (λb x q e=>(hs.2 b q).trans e) ho hr
theorem cr.head{P7 w tb hs o PW}(r:cr P7 w tb hs o PW):∃ob,(i3 PW,ob)∈PW:=by induction r<;>exact ⟨_,.head _⟩
theorem fP{PW}:be (ps.add PW)=(be ps).add (i3 PW):=Qg (HS.mk · ps.z) ba
theorem et{PW}:(be ps).Le (be (ps.add PW)):=fP▸.add
theorem AV.mono{tb}{hs QF:HS}(k:hs.Le QF){a e}(r:AV tb hs a e):AV tb QF a e:=by refine a7 λkC=>?_;obtain ⟨x,t,h1,h2,h3⟩:=r;exact kC ⟨x,t,h1,h2,h3.mono k⟩
theorem cr.mono{P7 w tb}{hs QF:HS}(k:hs.Le QF){o PW}(r:cr P7 w tb hs o PW):cr P7 w tb QF o PW:=by
 induction r with
 |list h1 h2=>exact .list (h1.mono λJ J=>VR.mono k) h2
 |tuple h1 h2=>exact .tuple (h1.mono λJ J=>VR.mono k) h2
 |dict h1 h2 h3 h4=>exact .dict h1 (h2.mono λJ J z=>⟨z.1,z.2.mono k⟩) h3 h4
 |inst h1 h2 h3=>exact .inst (h1.mono λJ J=>AV.mono k) h2 h3
 |meth h1=>exact .meth (h1.mono k)
 |rng=>exact .rng
theorem lj{PW}:((ps.add PW).flatten++X).Perm (PW++(ps.flatten++X)):=by show (((ps.p++[PW]).flatten++ps.zc)++X).Perm (PW++((ps.p.flatten++ps.zc)++X));rw[List.flatten_append,List.flatten_cons,List.flatten_nil,bX,UD,UD,UD,<-UD,<-UD PW];exact List.Perm.append_right _ List.perm_append_comm
theorem SR.new{PW:gu}{o}(S:SR W c m X σ ps h)(F':gD c h' m)(N':News c.h₀ c.L h' (PW++(ps.flatten++X)))
 (nd:(PW.map (·.1)).Nodup) (lt:∀q∈PW,∀p∈ps.flatten++X,p.1≠q.1) (hr:cr W.prog W.w W.tb ((be ps).add (i3 PW)) o PW):SR W c m X (σ++[o]) (ps.add PW) h':=by
 have pm:=lj (ps:=ps) (PW:=PW) (X:=X);refine ⟨F',λp hp=>N' p (pm.mem_iff.mp hp),?_,?_,S.fz⟩
 ·rw[(pm.map (·.1)).nodup_iff,ba];refine List.nodup_append.mpr ⟨nd,S.nd,λa ha b hb q=>(a7 λkC=>?_)⟩;obtain ⟨x,hx,rfl⟩:=List.mem_map.mp ha;obtain ⟨y,hy,rfl⟩:=List.mem_map.mp hb;exact kC (lt x hx y hy q.symm)
 ·exact rW (fP ..) (aL.snoc (S.rel.mono λJ J=>cr.mono .add) hr)
theorem SR.new1{A ob o}(S:SR W c m X σ ps h)(F':gD c h' m)(N':News c.h₀ c.L h' ((A,ob)::(ps.flatten++X)))
 (lt:∀p∈ps.flatten++X,p.1<A) (hr:cr W.prog W.w W.tb ((be ps).add A) o [(A,ob)]):SR W c m X (σ++[o]) (ps.add [(A,ob)]) h':=
 S.new (PW:=[(A,ob)]) F' N' (by simp) (λq hq p hp=>by simp at hq;subst hq;exact Nat.ne_of_lt (lt p hp)) hr
theorem SR.push1{ob:Obj}{o}(S:SR W c m X σ ps h)(hf:ob.isFreed=false)(hr:cr W.prog W.w W.tb ((be ps).add h.objs.size) o [(h.objs.size,ob)]):
 SR W c m X (σ++[o]) (ps.add [(h.objs.size,ob)]) (h.push ob):=
 S.new1 (S.F.push _) (S.F.npush S.N ob hf) (λp hp=>Heap.lt_size (S.N p hp).1) hr
noncomputable def PZ.tree(ps:PZ)(A:Addr)(ob:Obj)(o:O):PZ:=⟨ps.p,(A,ob)::ps.zl,λo' p'=>ps.z o' p'\/(o'=o/\p'=[(A,ob)]),ps.cs⟩
theorem qz{A ob o}:(be ps).Le (be (ps.tree A ob o)):=⟨List.prefix_refl _,λJ J=>.inl⟩
theorem SR.tree{A ob o}(S:SR W c m X σ ps h)(F':gD c h' m)(N':News c.h₀ c.L h' ((A,ob)::(ps.flatten++X)))
 (lt:∀p∈ps.flatten++X,p.1<A) (hr:cr W.prog W.w W.tb ⟨[],ps.z⟩ o [(A,ob)]):SR W c m X σ (ps.tree A ob o) h':=by
 have pm:((ps.tree A ob o).flatten++X).Perm ((A,ob)::(ps.flatten++X)):=List.Perm.append_right X (l₂:=(A,ob)::ps.flatten) List.perm_middle;have le:HS.Le ⟨[],ps.z⟩ ⟨[],(ps.tree A ob o).z⟩:=⟨List.prefix_refl _,λJ J=>.inl⟩
 refine ⟨F',λp hp=>N' p (pm.mem_iff.mp hp),?_,S.rel.mono λJ J=>cr.mono qz,?_,S.fz.2⟩
 ·have q:=pm.map Prod.fst;refine q.nodup_iff.mpr (List.nodup_cons.mpr ⟨λq=>(a7 λkC=>?_),S.nd⟩);obtain ⟨p,hp,e⟩:=List.mem_map.mp q;exact kC (Nat.ne_of_lt (lt p hp) e)
 ·clear pm;rintro o' A' (z|⟨rfl,rfl⟩)
  ·obtain ⟨h2,h3⟩:=S.fz.1 o' A' z;exact ⟨λq hq=>.tail _ (h2 q hq),h3.mono le⟩
  ·exact ⟨λq hq=>cP.mp hq▸.head _,hr.mono le⟩
theorem VR.last{hs:HS}{A n}(e:hs.a.length=n):VR (hs.add A) (.ref n) (.ref A):=.ref (by subst e;exact List.getElem?_concat_length ..)
theorem SR.keep(S:SR W c m X σ ps h)(F':gD c h' m)(N':News c.h₀ c.L h' (ps.flatten++X)):SR W c m X σ ps h':=⟨F',N',S.nd,S.rel,S.fz⟩
theorem SR.garb(S:SR W c m X σ ps h)(ob:Obj):SR W c m X σ ps (h.push ob):=
 S.keep (S.F.push _) λp hp=>⟨UF _ (S.N p hp).1,(S.N p hp).2⟩
end
end
section
open SeqAt MeetsSeq MeetsSeq2 MeetsSeq3 SeqRoads2
open AutoSeq1 (wpAny_loadPart')
def my(W:Wd)(A:Around)(s:Shared)(y x:Value)(b:Bool):Prop:=∀(E:bw) (Q:Bool->Shared->Prop),Q b s->wpAny (model W.prog W.w) A (eqBool y x) Q E s
def zi(W:Wd)(A:Around)(s:Shared)(y x:Value)(b:Bool):Prop:=∀(E Q:bw),Q (.bool b) s->wpAny (model W.prog W.w) A (richCompare .Eq y x) Q E s
def DW(W:Wd)(A:Around)(s:Shared)(y x:Value)(b:Bool):Prop:=∀(E Q:bw),Q (.bool b) s->wpAny (model W.prog W.w) A (richCompare .NotEq y x) Q E s
section
variable {W:Wd}{A:Around}{s:Shared}
theorem my.of{y x b}(h:EqAt A s y x b):my W A s y x b:=λE Q hq=>h W.prog W.w E Q hq
theorem zi.of{y x b}(h:RcAt A s y x b):zi W A s y x b:=λE Q hq=>h W.prog W.w E Q hq
theorem my.refs{l b k}(Qs:l≠b)(h:zi W A s (.ref l) (.ref b) k):my W A s (.ref l) (.ref b) k:=λE Q hq=>by unfold eqBool;exact Ud (wpAny_ite_split (λq=>Uj (Value.ref.inj (eq_of_beq q)) Qs) λJ=>(T5 (h E _ (wpAny_truthy_bool hq))))
theorem zM{n i}(h:i<n):(List.range n).drop i=i::(List.range n).drop (i+1):=by have h':i<(List.range n).length:=Nat.lt_of_lt_of_eq h List.length_range.symm;exact rW (Uc h' ..) (rW (List.getElem_range ..) rfl)
theorem xQ{l b}{xs ys:Array Value}{n n2}(sz:xs.size=ys.size){e:Nat->Bool}:∀(k i:Nat),xs.size-i=k->∀(A:Around) (R:Result->Shared->Prop) (s:Shared),
 s.heap.get? l=some (listOf xs n)->s.heap.get? b=some (listOf ys n2)->(∀j (h1:j<xs.size) (h2:j<ys.size),my W A.in1 s xs[j] ys[j] (e j))->R (.ok (.ret (.bool (!((List.range xs.size).drop i).all e)))) s ->
 wpAny (model W.prog W.w) A.in1 (Builtin.«list.__eq__.loop» ⟨[.ref l,.ref b,rawInt i,rawInt 3],[]⟩)
  (λfin s'=>match fin with|.done f=>R (.ok f) s'|.again c'=>c'.quiet=true/\codeAny (model W.prog W.w) A c' R s') (λe s'=>R (.error e) s') s:=by
 intro k;induction k with
 |zero=>
  intro i hk A R s hl hb he h;clear he;obtain ⟨hp,g,d,tk,os⟩:=s;have le:=Nat.sub_eq_zero_iff_le.mp hk;have ni:xs[((i:Nat):Int).toNat]? = none:=Array.getElem?_eq_none le;have nj:ys[((i:Nat):Int).toNat]? = none:=Array.getElem?_eq_none (sz▸le);have hd:(List.range xs.size).drop i=[]:=Uz (aH (aU List.length_range) le);rw[hd]at h
  wp_walk using wpAny_loadPart' hl,wpAny_loadPart' hb
  refine rW ni (rW nj ?_)
  wp_walk using wpAny_loadPart' hl,wpAny_loadPart' hb
  have:(xs.size==ys.size)=true:=rW sz (Ua _);have nb:(xs.size != ys.size)=false:=by rw[bne,this];rfl
  show R (.ok (.ret (.bool (xs.size != ys.size)))) _;exact rW nb h
 |succ k ih=>
  intro i hk A R s hl hb he h;obtain ⟨hp,g,d,tk,os⟩:=s;have l1:i<xs.size:=Nat.lt_of_sub_eq_succ hk;have l2:i<ys.size:=sz▸l1;have ni:xs[((i:Nat):Int).toNat]? = some xs[i]:=Array.getElem?_eq_getElem l1;have nj:ys[((i:Nat):Int).toNat]? = some ys[i]:=Array.getElem?_eq_getElem l2;have hd:=zM l1;rw[hd,List.all_cons]at h
  wp_walk using wpAny_loadPart' hl,wpAny_loadPart' hb
  refine rW ni (rW nj (T5 (he i l1 l2 _ _ ?_)));have up:((i:Int)+1)=((i+1:Nat):Int):=rfl;generalize q:e i=z3;induction z3 with
  |true=>
   rw[q,Bool.true_and]at h
   wp_walk
   refine rW up ?_;exact ⟨plainId_quiet plain_eq_loop _,codeAny_builtin entry_eq_loop (by exact rW (Around.under_plainId plain_eq_loop _ ..) (ih (i+1) (Qg Nat.pred hk) A R _ hl hb he h))⟩
  |false=>
   rw[q,Bool.false_and]at h
   wp_walk using wpAny_loadPart' hl,wpAny_loadPart' hb
   refine rW ni (rW nj ?_)
   wp_walk
   exact h
theorem DW.lists{l b}{xs ys:Array Value}{n n2}(sz:xs.size=ys.size){e:Nat->Bool}(hl:s.heap.get? l=some (listOf xs n))(hb:s.heap.get? b=some (listOf ys n2))(hu:A.units<cLine)
 (he:∀j (h1:j<xs.size) (h2:j<ys.size),my W A.in1 s xs[j] ys[j] (e j)):DW W A s (.ref l) (.ref b) (!(List.range xs.size).all e):=by
 intro E Q hq;have ta:s.TypeIs (.ref l) "list":=⟨_,hl,rfl⟩
 have tb:s.TypeIs (.ref b) "list":=⟨_,hb,rfl⟩
 refine wpAny_richCompare_same_room ta tb PySem.F.slot_list_ne (wpAny_call (codeAny_call_builtin PySem.F.slot_list_ne.plain PySem.F.entry_list_ne (PySem.F.slot_list_ne.check _ _ _ _ _ _ _ _ ta (PySem.F.args_list_ne_2 _ _) ?_))) hu;clear ta;obtain ⟨hp,g,d,tk,os⟩:=s;have f3:=AutoSeq1.sub_list_list;have ne:¬(xs.size != ys.size)=true:=by simp[sz]
 wp_walk using wpAny_loadPart' hl,wpAny_loadPart' hb
 exact ⟨plainId_quiet plain_eq_loop _,codeAny_builtin entry_eq_loop (by exact rW (Around.under_plainId plain_eq_loop _ ..) (xQ (W:=W) sz (e:=e) _ 0 rfl A (wants (λv s'=>v≠.notImplemented/\Q v s') E) _ hl hb he ⟨λx=>(nomatch x),by simpa using hq⟩))⟩
theorem zi.tuples{l b}{xs ys:Array Value}{n n2}(sz:xs.size=ys.size){e}(hl:s.heap.get? l=some { cls:=.type "tuple",data:=.seq xs n }) (hb:s.heap.get? b=some { cls:=.type "tuple",data:=.seq ys n2 }) (hu:A.units<cLine)
 (he:∀j (h1:j<xs.size) (h2:j<ys.size),my W A.in1 s xs[j] ys[j] (e j)):zi W A s (.ref l) (.ref b) ((List.range xs.size).all e):=by
 intro E Q hq;have ta:s.TypeIs (.ref l) "tuple":=⟨_,hl,rfl⟩
 have tb:s.TypeIs (.ref b) "tuple":=⟨_,hb,rfl⟩
 refine wpAny_richCompare_same_room ta tb PySem.F.slot_tuple_eq (wpAny_call (codeAny_call_builtin PySem.F.slot_tuple_eq.plain PySem.F.entry_tuple_eq (PySem.F.slot_tuple_eq.check _ _ _ _ _ _ _ _ ta (PySem.F.args_tuple_eq_2 _ _) ?_))) hu;clear ta;obtain ⟨hp,g,d,tk,os⟩:=s;have f2:=AutoSeq1.sub_tuple_tuple;have hZ:(xs.toList.zip ys.toList).length=xs.size:=by simp[sz]
 wp_walk using wpAny_loadPart' hl,wpAny_loadPart' hb,wpAny_forIn_list _ (λPQ b s'=>b.1=none/\s'=⟨hp,g,d,tk,os⟩/\∃i,PQ=(xs.toList.zip ys.toList).drop i /\
  Q (.bool (((List.range xs.size).drop i).all e)) ⟨hp,g,d,tk,os⟩) _
 case turn=>
  rintro ⟨y,x⟩ PQ b' s' ⟨R6,rfl,i,hz,hR⟩;have Qf:i<(xs.toList.zip ys.toList).length:=by
   rcases Nat.lt_or_ge i (xs.toList.zip ys.toList).length with h'|h'
   ·exact h'
   ·rw[List.drop_of_length_le h']at hz;cases hz
  have h1:i<xs.size:=hZ▸Qf;have h2:i<ys.size:=sz▸h1;rw[Uc Qf]at hz;injection hz with SM QU
  obtain ⟨rfl,rfl⟩:y=xs[i]/\x=ys[i]:=by simpa [Prod.ext_iff] using SM
  have hd:(List.range xs.size).drop i=i::(List.range xs.size).drop (i+1):=by simp[Uc,h1]
  rw[hd,List.all_cons]at hR;refine T5 (he i h1 h2 _ _ ?_);generalize q:e i=z2;induction z2 with
  |true=>
   rw[q]at hR
   wp_walk
   exact ⟨rfl,rfl,i+1,QU,by simpa using hR⟩
  |false=>
   rw[q]at hR
   wp_walk
   simpa using hR
 case fin=>
  rintro ⟨b1,b2⟩ s' ⟨R6,rfl,i,hz,hR⟩;simp only at R6;subst R6;have TQ:xs.size<=i:=by
   rcases Nat.lt_or_ge i (xs.toList.zip ys.toList).length with h'|h'
   ·rw[Uc h']at hz;cases hz
   ·exact hZ▸h'
  rw[List.drop_of_length_le (by simpa using TQ)]at hR
  wp_walk
  simpa [Builtin.Tuple.tupleCompareSizes,sz,bne] using hR
 case h=>
  exact ⟨rfl,rfl,0,rfl,by simpa using hq⟩
theorem DW.tuples{l b}{xs ys:Array Value}{n n2}(sz:xs.size=ys.size){e}(hl:s.heap.get? l=some { cls:=.type "tuple",data:=.seq xs n }) (hb:s.heap.get? b=some { cls:=.type "tuple",data:=.seq ys n2 }) (hu:A.units<cLine)
 (he:∀j (h1:j<xs.size) (h2:j<ys.size),my W A.in1 s xs[j] ys[j] (e j)):DW W A s (.ref l) (.ref b) (!(List.range xs.size).all e):=by
 intro E Q hq;have ta:s.TypeIs (.ref l) "tuple":=⟨_,hl,rfl⟩
 have tb:s.TypeIs (.ref b) "tuple":=⟨_,hb,rfl⟩
 refine wpAny_richCompare_same_room ta tb PySem.F.slot_tuple_ne (wpAny_call (codeAny_call_builtin PySem.F.slot_tuple_ne.plain PySem.F.entry_tuple_ne (PySem.F.slot_tuple_ne.check _ _ _ _ _ _ _ _ ta (PySem.F.args_tuple_ne_2 _ _) ?_))) hu;clear ta;obtain ⟨hp,g,d,tk,os⟩:=s;have f2:=AutoSeq1.sub_tuple_tuple;have hZ:(xs.toList.zip ys.toList).length=xs.size:=by simp[sz]
 wp_walk using wpAny_loadPart' hl,wpAny_loadPart' hb,wpAny_forIn_list _ (λPQ b s'=>b.1=none/\s'=⟨hp,g,d,tk,os⟩/\∃i,PQ=(xs.toList.zip ys.toList).drop i /\
  Q (.bool (!((List.range xs.size).drop i).all e)) ⟨hp,g,d,tk,os⟩) _
 case turn=>
  rintro ⟨y,x⟩ PQ b' s' ⟨R6,rfl,i,hz,hR⟩;have Qf:i<(xs.toList.zip ys.toList).length:=by
   rcases Nat.lt_or_ge i (xs.toList.zip ys.toList).length with h'|h'
   ·exact h'
   ·rw[List.drop_of_length_le h']at hz;cases hz
  have h1:i<xs.size:=hZ▸Qf;have h2:i<ys.size:=sz▸h1;rw[Uc Qf]at hz;injection hz with SM QU
  obtain ⟨rfl,rfl⟩:y=xs[i]/\x=ys[i]:=by simpa [Prod.ext_iff] using SM
  have hd:(List.range xs.size).drop i=i::(List.range xs.size).drop (i+1):=by simp[Uc,h1]
  rw[hd,List.all_cons]at hR;refine T5 (he i h1 h2 _ _ ?_);generalize q:e i=z1;induction z1 with
  |true=>
   rw[q]at hR
   wp_walk
   exact ⟨rfl,rfl,i+1,QU,by simpa using hR⟩
  |false=>
   rw[q]at hR
   wp_walk
   simpa using hR
 case fin=>
  rintro ⟨b1,b2⟩ s' ⟨R6,rfl,i,hz,hR⟩;simp only at R6;subst R6;have TQ:xs.size<=i:=by
   rcases Nat.lt_or_ge i (xs.toList.zip ys.toList).length with h'|h'
   ·rw[Uc h']at hz;cases hz
   ·exact hZ▸h'
  rw[List.drop_of_length_le (by simpa using TQ)]at hR
  wp_walk
  simpa [Builtin.Tuple.tupleCompareSizes,sz,bne] using hR
 case h=>
  exact ⟨rfl,rfl,0,rfl,by simpa using hq⟩
end
end
section
section
variable {W:Wd}{A:Around}{s:Shared}
inductive qm(W:Wd)(A:Around)(s:Shared)(kb:bD):bD->Bool->Prop
 |nil:qm W A s kb [] true
 |miss {k v r}:valueAt kb k=none->qm W A s kb ((k,v)::r) false
 |hit {k v y r e b}:valueAt kb k=some y->my W A s v y e->qm W A s kb r b->qm W A s kb ((k,v)::r) (e&&b)
inductive GO(W:Wd)(A:Around)(s:Shared)(kb:bD)(k:Str)(v:Value)(r:bD):Bool->Prop
 |miss:valueAt kb k=none->GO W A s kb k v r false
 |hit {y e b}:valueAt kb k=some y->my W A s v y e->qm W A s kb r b->GO W A s kb k v r (e&&b)
theorem qm.inv{kb l k v r b}(H:qm W A s kb l b)(h:l=(k,v)::r):GO W A s kb k v r b:=by
 cases H with
 |nil=>cases h
 |miss h1=>cases h;exact .miss h1
 |hit h1 h2 h3=>cases h;exact .hit h1 h2 h3
structure PN(W:Wd)(A:Around)(s:Shared)(kb ka:bD)(n:Nat)(r:Bool)(PQ:aC)(i:Nat):Prop where
 hr:PQ=List.range' i (n-i)
 hi:i<=n
 H:qm W A s kb (ka.drop i) r
structure Pw(W:Wd)(es:Array DictEntry)(ka:bD)(x:Nat)(e:DictEntry)(k:Str)(v:Value):Prop where
 get:es[x]? = some e
 dr:ka.drop x=(k,v)::ka.drop (x+1)
 isk:(strKind W.prog W.w).is k e.key=true
 val:e.val=v
 hash:e.hash=(strKind W.prog W.w).hash k
end
end
section
section
variable {hs:HS}{P:Value->Prop}{α β:Type}{v:V}{x:Value}{b:β}
theorem bl{G:Prop}(e:(none:Option β)=some b):G:=nomatch e
theorem pE{β γ:Type}(P:β->γ->Prop){a v s t}(e:some (a,s)=some (v,t))(H:P v t):P a s:=
 Eq.rec (motive:=λo J=>match o with|some (x,y)=>P x y|none=>True) H e.symm
theorem xk{β γ δ:Type}(P:β->γ->δ->Prop){a v l l' s t}(e:some (a,l,s)=some (v,l',t))(H:P v l' t):P a l s:=pE (λa x=>P a x.1 x.2) e H
@[elab_as_elim]theorem fu{P:α->Prop}{a v}(e:some a=some v)(H:P v):P a:=by obtain rfl:=aK e;exact H
@[elab_as_elim]theorem fq{P:α->Prop}{a v}(e:some a=some v)(H:P a):P v:=by obtain rfl:=aK e;exact H
theorem fI{G:Prop}{o:Option α}{f:α->Option β}(e:o.bind f=some b)(k:∀a,o=some a->f a=some b->G):G:=by
 induction o with
 |none=>exact bl e
 |some a=>exact k a rfl e
theorem cF{G:Prop}{γ:Type}{o:Option (α×γ)}{f:α×γ->Option β}(e:o.bind f=some b)(k:∀a c,o=some (a,c)->f (a,c)=some b->G):G:=fI e λp=>k p.1 p.2
theorem Dn{G:Prop}{γ δ:Type}{o:Option (α×γ×δ)}{f:α×γ×δ->Option β}(e:o.bind f=some b)(k:∀a c d,o=some (a,c,d)->f (a,c,d)=some b->G):G:=fI e λp=>k p.1 p.2.1 p.2.2
@[elab_as_elim]theorem EG{P:β->Prop}{o:Option α}{f:α->β}(e:o.map f=some b)(k:∀a,o=some a->P (f a)):P b:=by
 induction o with
 |none=>exact bl e
 |some a=>exact aK e▸k a rfl
theorem xV{G:Prop}{o:Option α}{f:α->β}(e:o.map f=some b)(k:∀a,o=some a->some (f a)=some b->G):G:=by
 induction o with
 |none=>exact bl e
 |some a=>exact k a rfl e
theorem zG{G:Prop}{γ:Type}{o:Option (α×γ)}{f:α×γ->β}(e:o.map f=some b)(k:∀a c,o=some (a,c)->some (f (a,c))=some b->G):G:=xV e λp=>k p.1 p.2
theorem jW{G:Prop}{c:Prop}{i:Decidable c}{t:Option β}(e:(if c then t else none)=some b)(k:c->t=some b->G):G:=by
 by_cases h:c
 ·rw[T6 h]at e;exact k h e
 ·rw[T8 h]at e;exact bl e
theorem MY{G:Prop}{c:Prop}{i:Decidable c}{t u:Option β}(e:(if c then t else u)=some b)(k:c->t=some b->G)(n:¬c->u=some b->G):G:=by
 by_cases h:c
 ·rw[T6 h]at e;exact k h e
 ·rw[T8 h]at e;exact n h e
@[elab_as_elim]theorem intE{f:Int->Option β}(r:VR hs v x)(e:cq v f=some b)(k:∀i t,f i=some b->P (.int i t)):P x:=by
 induction r with
 |int i t=>exact k i t e
 |_=>exact bl e
@[elab_as_elim]theorem strE{f:aC->Option β}(r:VR hs v x)(e:dW v f=some b)(k:∀s t,s.length<=a8->f s=some b->P (.str (aT s) t)):P x:=by
 induction r with
 |str s t h=>exact k s t h e
 |_=>exact bl e
theorem l6{G:Prop}{o:O}{f:List V->Option β}(e:eC o f=some b)(k:∀vs,o=.list vs->f vs=some b->G):G:=by
 induction o using O.casesOn with
 |list vs=>exact k vs rfl e
 |_=>exact bl e
theorem H4{G:Prop}{o:O}{f:List (aC×V)->Option β}(e:qk o f=some b)(k:∀vs,o=.dict vs->f vs=some b->G):G:=by
 induction o using O.casesOn with
 |dict vs=>exact k vs rfl e
 |_=>exact bl e
theorem pF{G:Prop}{o:O}{f:Nat->List (Nat×V)->Option β}(e:gr o f=some b)(k:∀c fs,o=.inst c fs->f c fs=some b->G):G:=by
 induction o using O.casesOn with
 |inst c fs=>exact k c fs rfl e
 |_=>exact bl e
end
noncomputable def RO(W:Wd)(h:Heap)(hs:HS)(A:Addr):O->Prop
 |.list vs=>∃its n,h.get? A=some (listOf (List.toArray its) n)/\aL (VR hs) vs its/\vs.length<=a8+a8
 |.tuple vs=>∃its n,h.get? A=some { cls:=.type "tuple",data:=.seq (List.toArray its) n }/\aL (VR hs) vs its/\vs.length<=a8+a8
 |.dict kvs=>∃ks o,h.get? A=some o/\o.IsDictOf (strKind W.prog W.w) ks/\aL (KV hs) kvs ks/\kvs.length<=a8/\(A==sysModules)=false
 |.inst C fs=>∃es D n,h.get? A=some (instObj C D)/\h.get? D=some (dictOf es n)/\aL (AV W.tb hs) fs es/\(fs.map (·.1)).Nodup/\fs.length<=900
 |.meth f self=>∃x,h.get? A=some (methodObj (.ref f) x)/\VR hs self x
 |.rng a b s=>∃t u v,h.get? A=some { cls:=.type "range",dict:=none,data:=.fields #[.int a t,.int b u,.int s v],slots:=#[] }
section
variable {W:Wd}{c:Fc}{m:bG}{X:bf}{σ:St}{ps:PZ}{h:Heap}{P:Value->Prop}{β:Type}{v:V}{x:Value}{b:β}
theorem cr.ro{hs o PW}(r:cr W.prog W.w W.tb hs o PW)(k:∀q∈PW,h.get? q.1=some q.2):RO W h hs (i3 PW) o:=by
 induction r with
 |list h1 h2=>exact ⟨_,_,k _ (.head _),h1,h2⟩
 |tuple h1 h2=>exact ⟨_,_,k _ (.head _),h1,h2⟩
 |dict h1 h2 h3 h4=>exact ⟨_,_,k _ (.head _),h1,h2,h3,h4⟩
 |inst h1 h2 h3=>exact ⟨_,_,_,k _ (.head _),k _ (.tail _ (.head _)),h1,h2,h3⟩
 |meth h1=>exact ⟨_,k _ (.head _),h1⟩
 |rng=>exact ⟨_,_,_,k _ (.head _)⟩
structure ol(W:Wd)(so:Nat->Option O):Prop where
 at_:∀a o,so a=some o->∃PW:gu,i3 PW=a/\(∀q∈PW,W.K.lookup q.1=some q.2)/\cr W.prog W.w W.tb .nil o PW
theorem ol.ro{so:Nat->Option O}(ok:ol W so)(K:W.K.In h){hs a o}(e:so a=some o):RO W h hs a o:=by obtain ⟨PW,h1,hl,hr⟩:=ok.at_ a o e;clear e;subst h1;exact (hr.mono .nil).ro λq hq=>K _ _ (hl _ hq)
theorem SR.ro(S:SR W c m X σ ps h){a:Nat}{o:O}(e:σ[a]? = some o){PW:gu}(hp:ps.p[a]? = some PW)(hr:cr W.prog W.w W.tb (be ps) o PW):RO W h (be ps) (i3 PW) o:=hr.ro λq hq=>S.at hp hq
@[elab_as_elim]theorem CY(S:SR W c m X σ ps h){a o}(r:VR (be ps) (.ref a) x)(e:σ[a]? = some o)(k:∀PW,ps.p[a]? = some PW->cr W.prog W.w W.tb (be ps) o PW->P (.ref (i3 PW))):P x:=by obtain ⟨PW,hp,rfl,hr⟩:=S.own r e;exact k PW hp hr
@[elab_as_elim]theorem u5(S:SR W c m X σ ps h){f:Nat->O->Option β}(r:VR (be ps) v x)(e:dz σ v f=some b)(k:∀a o PW,v=.ref a->σ[a]? = some o->ps.p[a]? = some PW->cr W.prog W.w W.tb (be ps) o PW->f a o=some b->P (.ref (i3 PW))):P x:=by
 induction r with
 |ref hA=>exact fI e λo ho e=>CY S (.ref hA) ho λPW hp hr=>k _ o PW rfl ho hp hr e
 |_=>exact bl e
@[elab_as_elim]theorem BB(S:SR W c m X σ ps h){f:Nat->List V->Option β}(r:VR (be ps) v x)(e:dz σ v (λa o=>eC o (f a))=some b)(k:∀a A its n vs,v=.ref a->σ[a]? = some (.list vs)->ps.p[a]? = some [(A,listOf (List.toArray its) n)]->h.get? A=some (listOf (List.toArray its) n)->aL (VR (be ps)) vs its->vs.length<=a8+a8->f a vs=some b->P (.ref A)):P x:=
 u5 S r e λa o PW hv ho hp hr e=>l6 e λvs q e=>by
  subst q;cases hr with
  |list h1 h2=>exact k _ _ _ _ _ hv ho hp (S.at hp (.head _)) h1 h2 e
@[elab_as_elim]theorem Hm(S:SR W c m X σ ps h){f:Nat->List (aC×V)->Option β}(r:VR (be ps) v x)(e:dz σ v (λa o=>qk o (f a))=some b)(k:∀a A ob ks vs,v=.ref a->σ[a]? = some (.dict vs)->ps.p[a]? = some [(A,ob)]->h.get? A=some ob->ob.IsDictOf (strKind W.prog W.w) ks->aL (KV (be ps)) vs ks->vs.length<=a8->(A==sysModules)=false->f a vs=some b->P (.ref A)):P x:=
 u5 S r e λa o PW hv ho hp hr e=>H4 e λvs q e=>by
  subst q;cases hr with
  |dict h1 h2 h3 h4=>exact k _ _ _ _ _ hv ho hp (S.at hp (.head _)) h1 h2 h3 h4 e
@[elab_as_elim]theorem pA(S:SR W c m X σ ps h){f:Nat->Nat->List (Nat×V)->Option β}(r:VR (be ps) v x)(e:dz σ v (λa o=>gr o (f a))=some b)(k:∀a A D es n C fs,v=.ref a->σ[a]? = some (.inst C fs)->ps.p[a]? = some [(A,instObj C D),(D,dictOf es n)]->h.get? A=some (instObj C D)->h.get? D=some (dictOf es n)->aL (AV W.tb (be ps)) fs es->(fs.map (·.1)).Nodup->fs.length<=900->f a C fs=some b->P (.ref A)):P x:=
 u5 S r e λa o PW hv ho hp hr e=>pF e λC fs q e=>by
  subst q;cases hr with
  |inst h1 h2 h3=>exact k _ _ _ _ _ _ _ hv ho hp (S.at hp (.head _)) (S.at hp (.tail _ (.head _))) h1 h2 h3 e
theorem SR.froz(S:SR W c m X σ ps h){o PW}(e:ps.z o PW):RO W h (be ps) (i3 PW) o:=by
 obtain ⟨hq,hr⟩:=S.fz.1 o PW e;have le:HS.Le ⟨[],ps.z⟩ (be ps):=⟨⟨_,rfl⟩,λJ J h=>h⟩
 exact (hr.mono le).ro λq hp=>(S.N q (UO _ (dS _ (UO _ (hq q hp))))).1
@[elab_as_elim]theorem tQ(S:SR W c m X σ ps h){f:O->Option β}(r:VR (be ps) v x)(e:(mB σ v).bind f=some b)(k:∀o A,mB σ v=some o->RO W h (be ps) A o->f o=some b->P (.ref A)):P x:=by
 induction r with
 |ref hA=>exact fI e λo ho e=>CY S (.ref hA) ho λPW hp hr=>k o _ ho (S.ro ho hp hr) e
 |I hz=>exact k _ _ rfl (S.froz hz) e
 |_=>exact bl e
@[elab_as_elim]theorem EY(S:SR W c m X σ ps h){f:List V->Option β}(r:VR (be ps) v x)(e:(mB σ v).bind (λo=>eC o f)=some b)(k:∀A its n vs,h.get? A=some (listOf (List.toArray its) n)->aL (VR (be ps)) vs its->f vs=some b->P (.ref A)):P x:=
 tQ S r e λo A ho ro e=>l6 e λvs q e=>by clear ho;subst q;obtain ⟨its,n,hA,i1,_⟩:=ro;exact k A its n vs hA i1 e
@[elab_as_elim]theorem oP{cx:Cx}(ok:ol W cx.so)(S:SR W c m X σ ps h)(K:W.K.In h){f:O->Option β}(r:VR (be ps) v x)(e:(b6 cx σ v).bind f=some b)(k:∀o A,b6 cx σ v=some o->RO W h (be ps) A o->f o=some b->P (.ref A)):P x:=by
 induction r with
 |ref hA=>exact fI e λo ho e=>CY S (.ref hA) ho λPW hp hr=>k o _ ho (S.ro ho hp hr) e
 |u a=>exact fI e λo ho e=>k o _ ho (ok.ro K ho) e
 |I hz=>exact k _ _ rfl (S.froz hz) e
 |_=>exact bl e
theorem BK{cx:Cx}(ok:ol W cx.so)(S:SR W c m X σ ps h)(K:W.K.In h)(r:VR (be ps) v x){o}(e:b6 cx σ v=some o):∃A,x=.ref A/\RO W h (be ps) A o:=
 oP ok S K r (show (b6 cx σ v).bind some=some o by exact rW e rfl) λo' A J ro q=>⟨A,rfl,aK q▸ro⟩
@[elab_as_elim]theorem xy{cx:Cx}(ok:ol W cx.so)(S:SR W c m X σ ps h)(K:W.K.In h){g:aC->Option β}{f:O->Option β}(r:VR (be ps) v x)(e:sob cx σ v g f=some b)(ks:∀s t,v=.str s->s.length<=a8->g s=some b->P (.str (aT s) t))(k:∀o A,b6 cx σ v=some o->RO W h (be ps) A o->f o=some b->P (.ref A)):P x:=by
 induction r with
 |str s t hl=>exact ks s t rfl hl e
 |ref hA=>exact oP ok S K (.ref hA) e k
 |u a=>exact oP ok S K (.u a) e k
 |I hz=>exact oP ok S K (.I hz) e k
 |_=>exact bl e
end
end
section
open SeqAt
section
variable {W:Wd}{A:Around}{s:Shared}
theorem Eb(x y:aC):(aT x==aT y)=(x==y):=by
 by_cases h:x=y
 ·subst h;simp
 ·have:¬aT x=aT y:=λq=>h (by have:=Qg (λz:Str=>z.cps.toList) q;simpa [aT] using this);exact rW (beq_eq_false_iff_ne.mpr this ..) (rW (beq_eq_false_iff_ne.mpr h ..) rfl)
theorem kW{x y}(q:aT x=aT y):x=y:=by have:=Qg (λz:Str=>z.cps.toList) q;simpa [aT] using this
theorem eo(x:aC):(aT x).cps.toList=x:=by simp[aT]
theorem bQ(x:aC):(aT x).length=x.length:=by simp[aT,Str.length]
theorem on(x:aC):kZ (aT x)=x:=by simp[aT,kZ]
theorem gj(x:Str):aT (kZ x)=x:=by induction x;simp[aT,kZ]
theorem kP(x y:aC):aT x++aT y=aT (x++y):=by
 have:(aT (kZ (aT x++aT y)))=aT (x++y):=by congr 1;show (aT x++aT y).cps.toList=x++y;refine rW (show (aT x++aT y).cps=(aT x).cps++(aT y).cps from Str.cps_append _ _ ..) ?_;simp[aT]
 rw[gj]at this;exact this
abbrev Pn(A:Around)(s:Shared)(x y:Value)(r:Bool):Prop:=EqAt A s x y r/\RcAt A s x y r/\RcNeAt A s x y (!r)
theorem oV{hs:HS}{a b:V}{x y:Value}{r:Bool}(ra:VR hs a x)(rb:VR hs b y)(e:AF a b=some r):Pn A s x y r:=by
 induction ra with
 |none=>induction rb with
  |none=>exact fq e ⟨EqAt.same _,RcAt.none_none,RcNeAt.none_none⟩
  |int=>exact fq e ⟨EqAt.none_int _ _,RcAt.none_int _ _,RcNeAt.none_int _ _⟩
  |str=>exact fq e ⟨EqAt.none_str _ _,RcAt.none_str _ _,RcNeAt.none_str _ _⟩
  |_=>exact bl e
 |bool=>induction rb with
  |bool=>exact fq e ⟨EqAt.bool_bool _ _,RcAt.bool_bool _ _,RcNeAt.bool_bool _ _⟩
  |_=>exact bl e
 |int=>induction rb with
  |none=>exact fq e ⟨EqAt.int_none _ _,RcAt.int_none _ _,RcNeAt.int_none _ _⟩
  |int=>exact fq e ⟨EqAt.int_int _ _ _ _,RcAt.int_int _ _ _ _,RcNeAt.int_int _ _ _ _⟩
  |str=>exact fq e ⟨EqAt.int_str _ _ _ _,RcAt.int_str _ _ _ _,RcNeAt.int_str _ _ _ _⟩
  |_=>exact bl e
 |str=>induction rb with
  |none=>exact fq e ⟨EqAt.str_none _ _,RcAt.str_none _ _,RcNeAt.str_none _ _⟩
  |int=>exact fq e ⟨EqAt.str_int _ _ _ _,RcAt.str_int _ _ _ _,RcNeAt.str_int _ _ _ _⟩
  |str=>exact fq e (Eb _ _▸⟨EqAt.str_str _ _ _ _,RcAt.str_str _ _ _ _,RcNeAt.str_str _ _ _ _⟩)
  |_=>exact bl e
 |_=>exact bl e
theorem qK{f:V->V->Option Bool}:∀{vs ws:List V}{r:Bool},AY f vs ws=some r->vs.length=ws.length/\∃bs:List Bool,bs.length=vs.length/\r=bs.all id/\∀(j:Nat) (v w:V),vs[j]? = some v->ws[j]? = some w->f v w=some (bs.getD j true)
 |[],[],r,e=>by obtain rfl:=aK e;exact ⟨rfl,[],rfl,rfl,λj v w h=>by simp at h⟩
 |[],_::_,r,e=>bl e
 |_::_,[],r,e=>bl e
 |a::l,b::t,r,e=>by
  refine a7 λkC=>?_;obtain ⟨x,hx,e⟩:=Option.bind_eq_some_iff.mp (show ((f a b).bind λx=>(AY f l t).map λy=>x&&y)=some r from e);obtain ⟨y,hy,rfl⟩:=Option.map_eq_some_iff.mp e;obtain ⟨h1,bs,h2,rfl,h3⟩:=qK hy;refine kC ⟨by simp[h1],x::bs,by simp[h2],by simp,λj v w hv hw=>?_⟩;induction j with
  |zero=>simp at hv hw;subst hv hw;simpa using hx
  |succ j=>simp at hv hw;simpa using h3 j v w hv hw
theorem y7:∀(bs:List Bool),(List.range bs.length).all (λj=>bs.getD j true)=bs.all id:=by
 intro bs;rw[Bool.eq_iff_iff];simp only[a9,List.mem_range,id];constructor
 ·refine λh b hb=>a7 λkC=>?_;obtain ⟨j,hj,rfl⟩:=List.mem_iff_getElem.mp hb;have:=h j hj;refine kC ?_;rwa [List.getD_eq_getElem?_getD,da hj]at this
 ·refine λh j hj=>rW (List.getD_eq_getElem?_getD ..) (rW (da hj ..) ?_);exact h _ (List.getElem_mem hj)
theorem lk{hs}{f:V->V->Option Bool}{F:Value->Value->Bool->Prop}(hf:∀{v w:V}{x y:Value}{r:Bool},VR hs v x->VR hs w y->f v w=some r->F x y r){vs ws}{its Qy:aO}(i1:aL (VR hs) vs its)(i2:aL (VR hs) ws Qy){r}(e:AY f vs ws=some r):
 ∃e:Nat->Bool,its.toArray.size=Qy.toArray.size/\(∀j (h1:j<its.toArray.size) (h2:j<Qy.toArray.size),F its.toArray[j] Qy.toArray[j] (e j))/\(List.range its.toArray.size).all e=r:=by
 refine a7 λkC=>?_;obtain ⟨len,bs,hb1,hb2,hb3⟩:=qK e;refine kC ⟨λj=>bs.getD j true,by simp[<-i1.len,<-i2.len,len],λj h1 h2=>?_,by refine rW hb2 (rW (y7 bs ..).symm (rW hb1 (rW (i1.len ..) ?_)));simp⟩;refine a7 λkC=>?_;have l1:j<vs.length:=by refine rW (i1.len ..) ?_;simpa using h1
 have l2:j<ws.length:=by refine rW (i2.len ..) ?_;simpa using h2
 obtain ⟨v',hv',rv⟩:=i1.get (da l1);obtain ⟨w',hw',rw_⟩:=i2.get (da l2);have z1:its.toArray[j]=v':=by have:=da (l:=its) (by simpa using h1);rw[hv']at this;simpa using (aK this).symm
 have z2:Qy.toArray[j]=w':=by have:=da (l:=Qy) (by simpa using h2);rw[hw']at this;simpa using (aK this).symm
 exact kC (rW z1 (rW z2 (hf rv rw_ (hb3 j _ _ (da l1) (da l2)))))
theorem jd{hs:HS}{a b:V}{x:Value}{r:Bool}(ra:VR hs a x)(rb:VR hs b x)(e:AF a b=some r):r=true:=by
 induction ra with
 |none=>cases rb with
  |none=>exact fq e rfl
  |_=>exact bl e
 |bool=>cases rb with
  |bool=>exact fq e (Ua _)
  |_=>exact bl e
 |int=>cases rb with
  |int=>exact fq e (Ua _)
  |_=>exact bl e
 |str s t h=>
  generalize hx:Value.str (aT s) t=x at rb;induction rb with
  |str s'=>clear a;obtain rfl:=kW (Value.str.inj hx).1;exact fq e (Ua _)
  |C=>exact bl e
  |_=>cases hx
 |_=>exact bl e
theorem zR{hs:HS}{f:V->V->Option Bool}(hf:∀{a b x r},VR hs a x->VR hs b x->f a b=some r->r=true){vs:List V}{its:aO}(i:aL (VR hs) vs its):∀{ws:List V}{r:Bool},aL (VR hs) ws its->AY f vs ws=some r->r=true:=by
 induction i with
 |nil=>intro ws r j e;cases j;exact fq e rfl
 |cons h t ih=>
  intro ws r j e;cases j with
  |cons h' t'=>exact fI e λx e1 e=>EG e λy e2=>rW (hf h h' e1 ..) (rW (ih t' e2 ..) rfl)
theorem aL.keys{hs}{kvs:List (aC×V)}{ks:bD}(h:aL (KV hs) kvs ks):ks.map (·.1)=(kvs.map (·.1)).map aT:=by
 induction h with
 |nil=>rfl
 |cons h _ ih=>simp[ih,h.1]
theorem iH{hs kvs ks}(h:aL (KV hs) kvs ks)(k:aC):match bM k kvs with
 |none=>valueAt ks (aT k)=none
 |some v=>∃x,valueAt ks (aT k)=some x/\VR hs v x:=by
 induction h with
 |nil=>rfl
 |@cons a b l mm h t ih=>
  refine a7 λkC=>?_;obtain ⟨ka,va⟩:=a;obtain ⟨kb,vb⟩:=b;obtain ⟨h1,h2⟩:=h;refine kC ?_;simp only at h1 h2;clear kC;subst h1;by_cases q:ka=k
  ·clear ih;subst q;exact rW (show bM ka ((ka,va)::l)=some va from T6 rfl ..) ⟨vb,by simp[PySem.valueAt],h2⟩
  ·have q':¬aT ka=aT k:=λz=>q (kW z);refine rW (show bM k ((ka,va)::l)=bM k l from T8 q ..) ?_;have:PySem.valueAt ((aT ka,vb)::mm) (aT k)=PySem.valueAt mm (aT k):=by simp[PySem.valueAt,List.find?_cons,q']
   exact rW this ih
theorem zn{hs:HS}{h:Heap}{A:Addr}{f:V->V->Option Bool}(hf:∀{a b x r},VR hs a x->VR hs b x->f a b=some r->r=true){o p:O}{r:Bool}(ro:RO W h hs A o)(rp:RO W h hs A p)(e:Kx f o p=some r):r=true:=by
 induction o using O.casesOn with
 |tuple vs=>induction p using O.casesOn with
  |tuple ws=>refine a7 λkC=>?_;obtain ⟨its,n,g1,i1,_⟩:=ro;obtain ⟨Qy,n',g2,i2,_⟩:=rp;refine kC ?_;cases g1.symm.trans g2;exact jW e λJ e=>zR hf i1 i2 e
  |_=>exact bl e
 |_=>exact bl e
theorem FA{f:V->V->Option Bool}{a b r}(e:qO f a b=some r):(∃x,a=.ref x/\b=.ref x/\r=true)\/f a b=some r:=by
 induction a using V.casesOn with
 |ref x=>induction b using V.casesOn with
  |ref y=>
   have e:(bif Nat.beq x y then some true else f (.ref x) (.ref y))=some r:=e;generalize q:Nat.beq x y=z1;induction z1 with
   |false=>rw[q]at e;exact .inr e
   |true=>rw[q]at e;exact .inl ⟨x,rfl,Qg V.ref (Uq q).symm,(aK e).symm⟩
  |_=>exact .inr e
 |_=>exact .inr e
theorem VR.one{hs a x y}(r:VR hs (.ref a) x)(q:VR hs (.ref a) y):x=y:=by
 cases r with
 |ref e=>cases q with
  |ref e'=>exact Qg Value.ref (aK (e.symm.trans e'))
theorem te{hs}{f:V->V->Option Bool}(hf:∀{v w:V}{x y:Value}{r:Bool},VR hs v x->VR hs w y->f v w=some r->my W A s x y r){v w x y r}(ra:VR hs v x)(rb:VR hs w y)(e:qO f v w=some r):my W A s x y r:=by
 refine a7 λkC=>?_;rcases FA e with ⟨a,rfl,rfl,rfl⟩|e
 ·exact kC (ra.one rb▸my.of (EqAt.same _))
 ·exact kC (hf ra rb e)
theorem ri{c:Fc}{m:bG}{X:bf}{σ:St}{ps:PZ}{h:Heap}(S:SR W c m X σ ps h):∀(k:Nat) {a b:V}{x:Value}{r:Bool},VR (be ps) a x->VR (be ps) b x->pG σ k a b=some r->r=true
 |0,_,_,_,_,_,_,e=>bl e
 |k+1,a,b,x,r,ra,rb,e=>by
  have Q5:(mB σ a).bind (λo=>(mB σ b).bind λp=>Kx (qO (pG σ k)) o p)=some r->r=true:=λe=>by revert rb;refine tQ S ra e λo A J ro e rb=>?_;generalize hx:Value.ref A=x at rb;revert hx;refine tQ S rb e λp B J rp e q=>?_;cases q;exact zn (λra rb e=>(FA e).elim (λ⟨_,_,_,q⟩=>q) (ri S k ra rb)) ro rp e
  induction a using V.casesOn with
  |ref _=>exact Q5 e
  |I _=>exact Q5 e
  |none=>exact jd ra rb e
  |bool b=>exact jd ra rb e
  |int b=>exact jd ra rb e
  |str b=>exact jd ra rb e
  |_=>exact bl e
end
end
section
open SeqAt
section
variable {W:Wd}{c:Fc}{m:bG}{X:bf}{σ:St}{ps:PZ}{h:Heap}
theorem sM(S:SR W c m X σ ps h):∀(k:Nat) {a b:V}{x y:Value}{r:Bool}{A:Around}{s:Shared},s.heap=h->VR (be ps) a x->VR (be ps) b y->pG σ k a b=some r->A.units+k<cLine ->
 my W A s x y r/\zi W A s x y r:=by
 intro k;induction k with
 |zero=>intro _ _ _ _ _ _ _ _ _ _ e _;exact bl e
 |succ k ih=>
  intro a b x y r A s hs ra rb e hu;have SN:A.units<cLine:=Um (bC _ _) hu;have hu2:A.in1.units+k<cLine:=by show A.units+1+k<cLine;exact Uo (c9 0x1b184211211b018b61 rfl hu)
  have plain:AF a b=some r->my W A s x y r/\zi W A s x y r:=λe=>⟨my.of (oV ra rb e).1,zi.of (oV ra rb e).2.1⟩
  subst hs;have Q5:(mB σ a).bind (λo=>(mB σ b).bind λp=>Kx (qO (pG σ k)) o p)=some r->my W A s x y r/\zi W A s x y r:=λe0=>by
   have re:=λ(z:x=y)=>ri S (k+1) ra (z▸rb) e;clear e plain;revert rb re;refine tQ S ra e0 λo A1 J ro e rb re=>?_;revert re;refine tQ S rb e λo' A2 J Tt e re=>?_;have P':zi W A s (.ref A1) (.ref A2) r:=by
    induction o using O.casesOn with
    |tuple vs=>
     induction o' using O.casesOn with
     |tuple ws=>obtain ⟨its,n,g1,i1,_⟩:=ro;obtain ⟨Qy,n',g2,i2,_⟩:=Tt;refine jW e λlen e=>?_;obtain ⟨f,sz,hf,rfl⟩:=lk (F:=my W A.in1 s) (te λu v z=>(ih rfl u v z hu2).1) i1 i2 e;exact zi.tuples sz g1 g2 SN hf
     |_=>exact bl e
    |_=>exact bl e
   refine ⟨?_,P'⟩;by_cases same:A1=A2
   ·clear P' Tt;subst same;exact re rfl▸my.of (EqAt.same _)
   ·exact my.refs same P'
  clear ra;induction a using V.casesOn with
  |ref _=>exact Q5 e
  |I _=>exact Q5 e
  |none=>exact plain e
  |bool _=>exact plain e
  |int _=>exact plain e
  |str _=>exact plain e
  |_=>exact bl e
end
end
section
theorem dU{t}(k:Nat)(h:1<=t):1<=t+k:=aH h (bC t k)
theorem dg{n}(h:n<=a8+a8):n<=sizeLine:=aH h (by refine rW (sizeLine_eq ..) ?_;decide)
theorem kj{n}(h:n<=a8+a8):(n:Int)<2 ^ 63:=Int.lt_of_le_of_lt (Int.ofNat_le.mpr h) (by decide)
theorem oo{tb:bq}(nd:tb.Nodup){i j:Nat}{x:Str}(a:tb[i]? = some x)(b:tb[j]? = some x):i=j:=
 (List.getElem?_inj (bY.mp a).1 nd).mp (a.trans b.symm)
structure nw(W:Wd)(cx:Cx):Prop where
 nd:W.tb.Nodup
 inst:∀cl f,cx.clsi cl f=true->∃x,W.tb[f]? = some x/\findIn W.K (.ref cl) x=some none/\takerIn W.K cl x=some none
 plain:∀cl f,(cx.clsi cl f=true\/(cx.clsm cl f).isSome=true\/(cx.clsv cl f).isSome=true)->(findIn W.K (.ref cl) "__getattribute__"=some (some (.builtin "object.__getattribute__"))/\findIn W.K (.ref cl) "__getattr__"=some none)/\hasDictIn W.K cl=true /\
  findIn W.K (.ref cl) "__setattr__"=some (some (.builtin "object.__setattr__"))/\plainOver W.K cl=true
 meth:∀cl f g,cx.clsm cl f=some g->∃x,W.tb[f]? = some x/\findIn W.K (.ref cl) x=some (some (.ref g))/\typeIn W.K (.ref g)=some (.type "function") /\
  specialIn W.K (.ref g) "__get__"=some (some (.builtin "function.__get__"))/\takesIn W.K (.ref g)=some false/\copiedNames.contains x=false/\g<eM
 val:∀cl f v,cx.clsv cl f=some v->∃x a,W.tb[f]? = some x/\findIn W.K (.ref cl) x=some (some a)/\specialIn W.K a "__get__"=some none/\handedIn a=true/\copiedNames.contains x=false/\VR .nil v a
noncomputable def LR(tb:bq)(hs:HS)(L:aR)(m:bG):Prop:=
 ∀i v,aJ i L=some v->∃x y,tb[i]? = some x/\m x=some y/\VR hs v y
theorem LR.mono{tb}{hs QF:HS}{L m}(r:LR tb hs L m)(p:hs.Le QF):LR tb QF L m:=λi v e=>
 let ⟨x,y,h1,h2,h3⟩:=r i v e
 ⟨x,y,h1,h2,h3.mono p⟩
noncomputable def xx(o:Obj)(m:bG):Prop:=∃es ep,o.data=.dict es ep/\StrKeys es/\∀name,nsFind es name=m name
abbrev Cp:=Scope×aC
noncomputable def FB(tb:bq)(hs:HS)(L:aR)(m:bG)(B:aC):Prop:=
 ∀i∈B,∀v,aJ i L=some v->∃x y,tb[i]? = some x/\m x=some y/\VR hs v y
theorem FB.mono{tb}{hs QF:HS}{L m B}(r:FB tb hs L m B)(p:hs.Le QF):FB tb QF L m B:=λi hi v e=>
 let ⟨x,y,h1,h2,h3⟩:=r i hi v e
 ⟨x,y,h1,h2,h3.mono p⟩
noncomputable def Ch(tb:bq)(hs:HS)(sc:Scope)(L:aR)(m:bG):Prop:=
 ∀i x v,tb[i]? = some x->sc.names.lookup x=some .free->aJ i L=some v->∃y,m x=some y/\VR hs v y
noncomputable def iD(cl:List (Str×Addr)):List (Str×NameKind)->List (Str×Addr)->List (Str×Addr)
 |[],P0=>P0
 |(n,k)::r,P0=>iD cl r (if k==.free then (n,(cl.lookup n).getD 0)::P0 else P0)
theorem nz{cl:List (Str×Addr)}{x A}(hx:cl.lookup x=some A):∀{l:List (Str×NameKind)}{P0:List (Str×Addr)},(x,.free)∈l\/P0.lookup x=some A->(iD cl l P0).lookup x=some A
 |[],P0,h=>h.elim (λq=>nomatch q) λh=>h
 |(n,k)::r,P0,h=>by
  refine nz hx (l:=r) ?_;rcases h with h|h
  ·rcases b8.mp h with e|h
   ·clear h;cases e;exact .inr (rW (T6 (by rfl) ..) (rW (Uu ..) (rW (Ua ..) (rW hx rfl))))
   ·exact .inl h
  ·refine .inr ?_;split
   ·refine rW (Uu ..) ?_;cases z:x==n with
    |true=>exact rW (eq_of_beq z ..).symm (rW hx rfl)
    |false=>exact h
   ·exact h
noncomputable def jA(c:Fc)(sc:Scope)(C:Addr):Env:=compEnvC sc (iD c.cl sc.names []) C c.env
theorem gW{env:Env}{x}:∀{l:List (Str×NameKind)}{k:NameKind},l.lookup x=some k ->
 (l.map λ(n,k)=>if (k==NameKind.free&&env.scope.kind==.function&&env.kindOf n==some .cell) then (n,NameKind.cell) else (n,k)).lookup x=some (if (k==NameKind.free&&env.scope.kind==.function&&env.kindOf x==some .cell) then .cell else k)
 |(n,k0)::r,k,h=>by
  have ih:=@gW env x r k;rw[Uu]at h;refine rW (Ul ..) ?_;cases z:x==n with
  |true=>rw[z]at h;clear ih;obtain rfl:=aK h;cases eq_of_beq z;dsimp only;split<;>simp[Uu]
  |false=>rw[z]at h;dsimp only;split<;>(exact rW (Uu ..) (rW z (ih h)))
theorem m7{c}{sc:Scope}{C x k}(h:sc.names.lookup x=some k)(hk:k≠.free):(jA c sc C).kindOf x=some k:=by
 refine (gW h).trans ?_;clear h;induction k with
 |free=>exact Uj rfl hk
 |_=>rfl
noncomputable def Vw(W:Wd)(cp:Option Cp)(c:Fc)(env:Env)(m:bG)(X:bf)(hs:HS)(L:aR):Prop:=match cp with
 |none=>env=c.env/\LR W.tb hs L m
 |some sc=>∃C o mc,env=jA c sc.1 C/\(C,o)∈X/\xx o mc/\FB W.tb hs L mc sc.2/\Ch W.tb hs sc.1 L m
noncomputable def j6(cs:Scope)(cp:Option Cp):Scope:=match cp with|none=>cs|some p=>p.1
noncomputable def NG(cs:Scope)(cp:Option Cp)(i:Nat)(x:Str):Prop:=match cp with
 |none=>cs.names.lookup x=some .local\/cs.names.lookup x=some .cell
 |some p=>(i∈p.2/\p.1.names.lookup x=some .local)\/(p.1.names.lookup x=some .free/\cs.names.lookup x=some .cell)
structure tI(W:Wd)(c:Fc)(d:Nat):Prop where
 frames:c.A.frames=some (c.env::c.outer)
 hh:c.A.handled=none
 depth:c.A.depth+3*d+2<=990
 units:c.A.units+30*d+280<=9800
 X:W.K.In c.base
 T:Top W.p W.loose W.mean W.mg W.mb c.base
 kind:c.cs.kind=.function
 ck:gy c.cs
noncomputable def HG(W:Wd)(f:Nat)(xs:aO)(ar:Args):Prop:=ar=⟨xs,[]⟩\/(f=W.kf/\∃v0 vs,xs=v0::vs/\vs.length=W.kn.length/\ar=⟨[v0],W.kn.zip vs⟩)
structure Mf(W:Wd)(c:Fc)(m:bG)(X:bf)(σ:St)(ps:PZ)(e:Addr)(h:Heap):Prop where
 h:∃t vs G,gD c G m/\RaisedS c.base G (c.env::c.outer) e (.type "KeyError") t vs (ps.flatten++X) h/\G.UpToSlots h
 nd:((ps.flatten++X).map (·.1)).Nodup
 rel:aL (cr W.prog W.w W.tb (be ps)) σ ps.p
 fz:Fz W c m ps.z ps.zl ps.cs
section
variable {W:Wd}{cx:Cx}{cs:Scope}{cp:Option Cp}{d:Nat}
theorem Ch.mono{tb}{hs QF:HS}{sc L m}(r:Ch tb hs sc L m)(p:hs.Le QF):Ch tb QF sc L m:=λi x v h1 h2 e=>
 let ⟨y,h3,h4⟩:=r i x v h1 h2 e
 ⟨y,h3,h4.mono p⟩
theorem Vw.mono{c env m X}{hs QF:HS}{L}(V:Vw W cp c env m X hs L)(p:hs.Le QF):Vw W cp c env m X QF L:=by
 induction cp<;>unfold Vw at V ⊢
 ·exact ⟨V.1,V.2.mono p⟩
 ·refine a7 λkC=>?_;obtain ⟨C,o,mc,h1,h2,h3,h4,h5⟩:=V;exact kC ⟨C,o,mc,h1,h2,h3,h4.mono p,h5.mono p⟩
theorem Vw.scope{c:Fc}{env:Env}{m X hs L}(V:Vw W cp c env m X hs L):env.scope.kind=(j6 c.cs cp).kind/\env.globals=mainGlobals/\env.builtins=builtinsNs:=by
 induction cp<;>unfold Vw at V
 ·obtain ⟨rfl,_⟩:=V;exact ⟨rfl,rfl,rfl⟩
 ·obtain ⟨C,o,mc,rfl,_⟩:=V;exact ⟨rfl,rfl,rfl⟩
theorem Vw.kindOf{c:Fc}{env:Env}{m X hs L}(V:Vw W cp c env m X hs L)(hc:c.cs=cs){x k}(e:(j6 cs cp).names.lookup x=some k)(hk:k≠.free):env.kindOf x=some k:=by
 subst hc;induction cp<;>unfold Vw at V
 ·obtain ⟨rfl,_⟩:=V;exact e
 ·obtain ⟨C,o,mc,rfl,_⟩:=V;exact m7 e hk
theorem Vw.kind{c:Fc}{env:Env}{m X hs L}(V:Vw W cp c env m X hs L)(hc:c.cs=cs)(e:(j6 cs cp).kind=.function):env.scope.kind=.function:=by exact rW (V.scope.1 ..) (rW hc e)
theorem Vw.read{c:Fc}{A env m X σ ps}{s:Shared}{L E}{Q:bw}(z:Vw W cp c env m X (be ps) L)(S:SR W c m X σ ps s.heap)(hc:c.cs=cs)(kf:cs.kind=.function)(ks:(j6 cs cp).kind=.function)(ck:gy cs)
 {i:Nat}{x:Str}{v:V} (hi:W.tb[i]? = some x) (hb:NG cs cp i x) (e:aJ i L=some v) (k:∀y,VR (be ps) v y->Q y s):wpAny (model W.prog W.w) A (loadName env x) Q E s:=by
 subst hc;have kd:=λ{x k}=>z.kindOf (cs:=c.cs) rfl (x:=x) (k:=k);have kn:=z.scope.1.trans ks;clear ks;induction cp<;>unfold Vw at z
 ·refine a7 λkC=>?_;obtain ⟨rfl,r⟩:=z;obtain ⟨x',y,h1,h2,h3⟩:=r i v e;obtain rfl:=aK (h1.symm.trans hi);rcases hb with hb|hb
  ·obtain ⟨m0,q,f⟩:=S.F.ns;exact kC (wpAny_loadName_local kn (kd hb nofun) f ((q _ (ck.q hb nofun)).trans h2) (k y h3))
  ·obtain ⟨A,o,e1,_,e2,e3⟩:=S.cell ck hb;exact kC (wpAny_loadName_cell kn (kd hb nofun) (c:=A) (by show c.cl.lookup _=_;refine rW e1 ?_;simp) ⟨o,e3,e2.trans (h2▸rfl)⟩ (k y h3))
 ·refine a7 λkC=>?_;obtain ⟨C,o,mc,rfl,hX,⟨es,ep,q1,q2,q3⟩,r,rf⟩:=z;rcases hb with ⟨hb,hl⟩|⟨hl,hb⟩
  ·obtain ⟨x',y,h1,h2,h3⟩:=r i hb v e;obtain rfl:=aK (h1.symm.trans hi);exact kC (wpAny_loadName_local kn (kd hl nofun) ⟨o,es,ep,(S.N _ (dS _ hX)).1,q1,q2,q3⟩ h2 (k y h3))
  ·obtain ⟨y,h2,h3⟩:=rf i x v hi hl e;obtain ⟨A,o',e1,_,e2,e3⟩:=S.cell ck hb;refine kC (wpAny_loadName_cell kn ?_ (c:=A) (nz (by refine rW e1 ?_;simp) (.inl (mem_of_lookup hl))) ⟨o',e3,e2.trans (h2▸rfl)⟩ (k y h3));refine (gW hl).trans ?_;have z1:(c.env.scope.kind==.function)=true:=by show (c.cs.kind==.function)=true;exact rW kf rfl
   have z2:c.env.kindOf x=some .cell:=hb;exact rW z1 (rW z2 rfl)
end
structure Am where
 W:Wd
 c:Fc
 cx:Cx
 d:Nat
 g:Array GenState
 dr:Drawn
 os:OsState
noncomputable def Am.M(z:Am):Model:=model z.W.prog z.W.w
structure Pt(z:Am) where
 m:bG
 X:bf
 σ:St
 ps:PZ
 h:Heap
 t:Nat
 S:SR z.W z.c m X σ ps h
 ht:1<=t
section
variable {z:Am}{p q r:Pt z}{α β:Type}{A:Around}
noncomputable def Pt.at(p:Pt z)(t:Nat):Shared:=⟨p.h,z.g,z.dr,t,z.os⟩
noncomputable def Pt.sh(p:Pt z):Shared:=p.at p.t
noncomputable def Pt.hs(p:Pt z):HS:=be p.ps
structure Pt.Le(p q:Pt z):Prop where
 m:q.m=p.m
 X:q.X=p.X
 le:p.hs.Le q.hs
theorem Pt.Le.rfl:p.Le p:=⟨Eq.refl _,Eq.refl _,.rfl⟩
theorem Pt.Le.trans(a:p.Le q)(b:q.Le r):p.Le r:=⟨b.m.trans a.m,b.X.trans a.X,a.le.trans b.le⟩
noncomputable def Pt.to(p:Pt z){σ ps h t}(S:SR z.W z.c p.m p.X σ ps h)(ht:1<=t):Pt z:=⟨p.m,p.X,σ,ps,h,t,S,ht⟩
theorem Pt.leTo(p:Pt z){σ ps h t}(S:SR z.W z.c p.m p.X σ ps h)(ht:1<=t)(le:p.hs.Le (be ps)):p.Le (p.to S ht):=⟨Eq.refl _,Eq.refl _,le⟩
def Hd(p:Pt z)(R:HS->β->α->Prop)(b:β)(σ':St)(Q:α->Shared->Prop):Prop:=
 ∀{ps:PZ}{h:Heap}{t:Nat}{y:α},SR z.W z.c p.m p.X σ' ps h->p.hs.Le (be ps)->R (be ps) b y->1<=t->Q y ⟨h,z.g,z.dr,t,z.os⟩
theorem Hd.stay{R:HS->β->α->Prop}{b}{Q:α->Shared->Prop}(k:Hd p R b p.σ Q){y t}(r:R p.hs b y)(ht:1<=t):Q y (p.at t):=k p.S .rfl r ht
theorem Hd.up{R:HS->β->α->Prop}{b:β}{σ':St}{Q:α->Shared->Prop}(k:Hd p R b σ' Q)(a:p.Le q):Hd q R b σ' Q:=λS le r ht=>k (a.m▸a.X▸S) (a.le.trans le) r ht
def Sm(A:Around)(p:Pt z)(R:HS->β->α->Prop)(a:Sem α)(o:Option (β×St)):Prop:=
 ∀b σ',o=some (b,σ')->∀{Q:α->Shared->Prop}{E:bw},Hd p R b σ' Q->wpAny z.M A a Q E p.sh
def Sc(p:Pt z)(a:Code)(o:Option (V×St)):Prop:=
 ∀b σ',o=some (b,σ')->∀{R:Result->Shared->Prop},Hd p VR b σ' (λv s=>R (.ok (.ret v)) s)->codeAny z.M z.c.A a R p.sh
noncomputable def zW(W:Wd)(call:Nat->List V->St->Option (V×St))(d:Nat):Prop:=
 ∀(f:Nat) (P5:List V),f<eM->∀(z:Am),z.W=W->tI z.W z.c d->∀(p:Pt z) (xs:aO) (ar:Args),aL (VR p.hs) P5 xs->HG W f xs ar->Sc p (.call (.ref f) ar) (call f P5 p.σ)
noncomputable def vS(W:Wd)(call:Nat->List V->St->Option (V×St))(d:Nat):Prop:=
 ∀(f:Nat) (P5:List V) (v:V) (σ':St) (z:Am),z.W=W->tI z.W z.c d->∀(p:Pt z) {xs:aO}{R:Result->Shared->Prop},aL (VR p.hs) P5 xs->call (f+eM) P5 p.σ=some (v,σ')->(v≠.none->Hd p VR v σ' (λv s=>R (.ok (.ret v)) s)) ->
  (v=.none->∀{e Qo h' t'},p.hs.Le (be Qo)->Mf z.W z.c p.m p.X σ' Qo e h'->1<=t'->R (.error (.ref e)) ⟨h',z.g,z.dr,t',z.os⟩)->codeAny z.M z.c.A (.call (.ref f) ⟨xs,[]⟩) R p.sh
structure Oy(W:Wd)(cx:Cx)(d:Nat):Prop where
 so:ol W cx.so
 co:nw W cx
 call:zW W cx.call d
 callX:vS W cx.call d
structure GX(W:Wd)(cx:Cx)(d:Nat):Prop where
 G:Oy W cx d
 init:W.tb[cx.init]? = some "__init__"
 fn:∀f P5 σ r,f<eM->cx.call f P5 σ=some r->fnIn W.K f=true
 fnX:∀f P5 σ r,cx.call (f+eM) P5 σ=some r->fnIn W.K f=true
structure Gs(z:Am):Prop where
 x:GX z.W z.cx z.d
 ok:v7 z.W z.c z.d
theorem Gs.G(g:Gs z):Oy z.W z.cx z.d:=g.x.G
theorem Gs.K(g:Gs z)(p:Pt z):z.W.K.In p.h:=p.S.K g.ok
structure Ax(W:Wd)(cs:Scope)(z:Am):Prop where
 W:z.W=W
 cs:z.c.cs=cs
 g:Gs z
def Nm(cp:Option Cp)(env:Env)(p:Pt z)(L:aR):Prop:=Vw z.W cp z.c env p.m p.X p.hs L
theorem Nm.up{cp env L}(V:Nm cp env p L)(a:p.Le q):Nm cp env q L:=by unfold Nm at V ⊢;exact rW a.m (rW a.X (V.mono a.le))
def Hb(p:Pt z)(b:α)(σ':St)(Q:α->Shared->Prop):Prop:=∀{ps:PZ}{h:Heap}{t:Nat},SR z.W z.c p.m p.X σ' ps h->p.hs.Le (be ps)->1<=t->Q b ⟨h,z.g,z.dr,t,z.os⟩
theorem Hb.up{b:α}{σ':St}{Q:α->Shared->Prop}(k:Hb p b σ' Q)(a:p.Le q):Hb q b σ' Q:=λS le ht=>k (a.m▸a.X▸S) (a.le.trans le) ht
theorem Hb.eq{b c:α}{σ' s:St}{Q:α->Shared->Prop}(k:Hb p b σ' Q)(e:some (c,s)=some (b,σ')):Hb p c s Q:=pE (λc s=>Hb p c s Q) e k
theorem Hb.at{b}{Q:α->Shared->Prop}(k:Hb p b p.σ Q){t}(ht:1<=t):Q b (p.at t):=k p.S .rfl ht
def Sb(A:Around)(p:Pt z)(a:Sem α)(o:Option (α×St)):Prop:=∀b σ',o=some (b,σ')->∀{Q:α->Shared->Prop}{E:bw},Hb p b σ' Q->wpAny z.M A a Q E p.sh
theorem Hd.eq{R:HS->β->α->Prop}{b c:β}{σ' s:St}{Q:α->Shared->Prop}(k:Hd p R b σ' Q)(e:some (c,s)=some (b,σ')):Hd p R c s Q:=pE (λc s=>Hd p R c s Q) e k
def AR(hs:HS):List V->aO->Prop:=aL (VR hs)
theorem AR.mono{hs QF:HS}(h:hs.Le QF){vs ys}(r:aL (VR hs) vs ys):aL (VR QF) vs ys:=aL.mono r λJ J=>VR.mono h
noncomputable def b2{α β:Type}(o:Option (α×St))(f:α->St->Option β):Option β:=o.bind λx=>f x.1 x.2
section
variable {R:HS->β->α->Prop}{a:Sem α}{o:Option (β×St)}
theorem Sm.no:Sm A p R a none:=λb σ' e=>bl e
theorem Sm.any{b σ'}(k:∀{Q:α->Shared->Prop}{E:bw},Hd p R b σ' Q->wpAny z.M A a Q E p.sh):Sm A p R a (some (b,σ')):=λb' σ'' e=>by cases e;exact k
theorem Sm.one{b}(k:∀{Q:α->Shared->Prop}{E:bw},(∀{t y},R p.hs b y->1<=t->Q y (p.at t))->wpAny z.M A a Q E p.sh):Sm A p R a (some (b,p.σ)):=.any λH=>k λr ht=>H.stay r ht
theorem Sm.ret{b y}(r:R p.hs b y):Sm A p R (pure y) (some (b,p.σ)):=.one λk=>Ub (k r p.ht)
theorem Sm.of(rule:∀{Q:α->Shared->Prop}{E:bw},wpAny z.M A a Q E p.sh->wpAny z.M A a' Q E p.sh)(h:Sm A p R a o):Sm A p R a' o:=λb σ' e J J H=>rule (h b σ' e H)
theorem Sm.guard{c:Prop}{i:Decidable c}(k:c->Sm A p R a o):Sm A p R a (if c then o else none):=λb σ' e=>jW e λh e=>k h b σ' e
theorem Sm.ite{c:Prop}{i:Decidable c}{u:Option (β×St)}(k:c->Sm A p R a o)(n:¬c->Sm A p R a u):Sm A p R a (if c then o else u):=λb σ' e=>MY e (λh e=>k h b σ' e) λh e=>n h b σ' e
theorem Sm.bd{γ:Type}{o:Option γ}{f:γ->Option (β×St)}(k:∀x,o=some x->Sm A p R a (f x)):Sm A p R a (o.bind f):=λb σ' e=>fI e λx h e=>k x h b σ' e
theorem Sm.mp{γ:Type}{o:Option γ}{f:γ->β×St}(k:∀x,o=some x->Sm A p R a (some (f x))):Sm A p R a (o.map f):=λb σ' e=>xV e λx h e=>k x h b σ' e
end
section
variable {R:HS->β->α->Prop}{a:Value->Sem α}{v:V}{x:Value}
theorem Sm.int{f:Int->Option (β×St)}(r:VR p.hs v x)(k:∀i t,Sm A p R (a (.int i t)) (f i)):Sm A p R (a x) (cq v f):=by
 induction r with
 |int i t=>exact k i t
 |_=>exact .no
theorem Sm.str{f:aC->Option (β×St)}(r:VR p.hs v x)(k:∀s t,s.length<=a8->Sm A p R (a (.str (aT s) t)) (f s)):Sm A p R (a x) (dW v f):=by
 induction r with
 |str s t h=>exact k s t h
 |_=>exact .no
theorem Sm.obj(g:Gs z){f:O->Option (β×St)}(r:VR p.hs v x)(k:∀o A',RO z.W p.h p.hs A' o->b6 z.cx p.σ v=some o->Sm A p R (a (.ref A')) (f o)):Sm A p R (a x) ((b6 z.cx p.σ v).bind f):=λb σ' e J J=>
 oP g.G.so p.S (g.K p) r e λo A' ho ro e=>k o A' ro ho b σ' e
theorem Sm.sob(g:Gs z){f1:aC->Option (β×St)}{f:O->Option (β×St)}(r:VR p.hs v x)(ks:∀s t,s.length<=a8->Sm A p R (a (.str (aT s) t)) (f1 s))(k:∀o A',RO z.W p.h p.hs A' o->b6 z.cx p.σ v=some o->Sm A p R (a (.ref A')) (f o)):Sm A p R (a x) (sob z.cx p.σ v f1 f):=λb σ' e J J=>
 xy g.G.so p.S (g.K p) r e (λs t J hl e=>ks s t hl b σ' e) λo A' ho ro e=>k o A' ro ho b σ' e
theorem Sm.cellL{f:Nat->List V->Option (β×St)}(r:VR p.hs v x)(k:∀a' A' its n vs,v=.ref a'->p.σ[a']? = some (.list vs)->p.ps.p[a']? = some [(A',listOf (List.toArray its) n)]->p.h.get? A'=some (listOf (List.toArray its) n)->aL (VR p.hs) vs its->vs.length<=a8+a8->Sm A p R (a (.ref A')) (f a' vs)):Sm A p R (a x) (dz p.σ v λa o=>eC o (f a)):=λb σ' e J J=>
 BB p.S r e λa' A' its n vs h1 h2 h3 h4 h5 h6 e=>k a' A' its n vs h1 h2 h3 h4 h5 h6 b σ' e
theorem Sm.cellD{f:Nat->List (aC×V)->Option (β×St)}(r:VR p.hs v x)(k:∀a' A' ob ks vs,v=.ref a'->p.σ[a']? = some (.dict vs)->p.ps.p[a']? = some [(A',ob)]->p.h.get? A'=some ob->ob.IsDictOf (strKind z.W.prog z.W.w) ks->aL (KV p.hs) vs ks->vs.length<=a8->(A'==sysModules)=false->Sm A p R (a (.ref A')) (f a' vs)):Sm A p R (a x) (dz p.σ v λa o=>qk o (f a)):=λb σ' e J J=>
 Hm p.S r e λa' A' ob ks vs h1 h2 h3 h4 h5 h6 h7 h8 e=>k a' A' ob ks vs h1 h2 h3 h4 h5 h6 h7 h8 b σ' e
end
theorem Hc{R:HS->β->α->Prop}{a1:Sem Value}{a2:Value->Sem α}{a:Sem α}{o:Option (β×St)}{o1:Option (V×St)}{f:V->St->Option (β×St)}(he:o=b2 o1 f)
 (rule:∀{Q E s},wpAny z.M A a1 (λx s=>wpAny z.M A (a2 x) Q E s) E s->wpAny z.M A a Q E s) (h1:Sm A p VR a1 o1) (h2:∀q v x,p.Le q->VR q.hs v x->Sm A q R (a2 x) (f v q.σ)):Sm A p R a o:=λb σ' e Q E H=>
 cF (he.symm.trans e) λv σ1 e1 e2=>rule (h1 v σ1 e1 λS le r ht=>h2 (p.to S ht) v _ (p.leTo S ht le) r b σ' e2 (H.up (p.leTo S ht le)))
theorem CA{R:HS->β->α->Prop}{a1 a2:Sem Value}{a3:Value->Value->Sem α}{a:Sem α}{o:Option (β×St)}{o1:Option (V×St)}{o2:St->Option (V×St)}{f:V->V->St->Option (β×St)}(he:o=b2 o1 λv σ=>b2 (o2 σ) λw σ=>f v w σ)
 (rule:∀{Q E s},wpAny z.M A a1 (λx s=>wpAny z.M A a2 (λy s=>wpAny z.M A (a3 x y) Q E s) E s) E s->wpAny z.M A a Q E s) (h1:Sm A p VR a1 o1) (h2:∀q,p.Le q->Sm A q VR a2 (o2 q.σ)) (h3:∀q v x w y,p.Le q->VR q.hs v x->VR q.hs w y->Sm A q R (a3 x y) (f v w q.σ)):Sm A p R a o:=
 λb σ' e Q E H=>cF (he.symm.trans e) λv σ1 e1 e=>cF e λw σ2 e2 e3=>rule (h1 v σ1 e1 λS le r ht=>h2 (p.to S ht) (p.leTo S ht le) w σ2 e2 λS2 le2 r2 Qe=>
  have l:=(p.leTo S ht le).trans ((p.to S ht).leTo S2 Qe le2)
  h3 _ v _ w _ l (r.mono le2) r2 b σ' e3 (H.up l))
end
end
section
open SeqAt
noncomputable def mH:Jf->CmpOp
 |.eq=>.Eq|.ne=>.NotEq|.lt=>.Lt|.le=>.LtE|.gt=>.Gt|.ge=>.GtE|.U=>.In|.aq=>.NotIn|.is=>.Is|.am=>.IsNot
section
variable {W:Wd}{c:Fc}{m:bG}{X:bf}{σ:St}{ps:PZ}{h:Heap}{A:Around}{E:bw}
theorem HY(S:SR W c m X σ ps h){k:Nat}{a b:V}{x y:Value}{r:Bool}{s:Shared}(hs:s.heap=h)(ra:VR (be ps) a x)(rb:VR (be ps) b y)(e:OB σ k a b=some r)(hu:A.units+k+1<cLine):
 DW W A s x y r:=by
 have SN:A.units<cLine:=Um (aH (bC _ _) (UT _)) hu;have hu2:A.in1.units+k<cLine:=by show A.units+1+k<cLine;exact Uo (c9 0x1b184211211018bb61 rfl hu)
 have plain:((AF a b).map λr=>!r)=some r->DW W A s x y r:=λe=>by exact EG e λz e=>λE Q hq=>(oV (A:=A) (s:=s) ra rb e).2.2 W.prog W.w E Q hq
 subst hs;have Q5:(mB σ a).bind (λo=>(mB σ b).bind λp=>Jn (qO (pG σ k)) o p)=some r->DW W A s x y r:=λe0=>by
  clear e plain;revert rb;refine tQ S ra e0 λo A1 J ro e rb=>tQ S rb e λo' A2 J Tt e=>a7 λkC=>?_;induction o using O.casesOn with
  |list vs=>refine kC (l6 e λws q e=>a7 λkC=>?_);subst q;obtain ⟨its,n,g1,i1,_⟩:=ro;obtain ⟨Qy,n',g2,i2,_⟩:=Tt;refine kC (jW e λlen e=>EG e λz e=>a7 λkC=>?_);obtain ⟨f,sz,hf,rfl⟩:=lk (F:=my W A.in1 s) (te λu v z=>(sM S k rfl u v z hu2).1) i1 i2 e;exact kC (DW.lists sz g1 g2 SN hf)
  |tuple vs=>
   induction o' using O.casesOn with
   |tuple ws=>obtain ⟨its,n,g1,i1,_⟩:=ro;obtain ⟨Qy,n',g2,i2,_⟩:=Tt;refine kC (jW e λlen e=>EG e λz e=>a7 λkC=>?_);obtain ⟨f,sz,hf,rfl⟩:=lk (F:=my W A.in1 s) (te λu v z=>(sM S k rfl u v z hu2).1) i1 i2 e;exact kC (DW.tuples sz g1 g2 SN hf)
   |_=>exact kC (bl e)
  |_=>exact kC (bl e)
 clear ra;induction a using V.casesOn with
 |ref _=>exact Q5 e
 |I _=>exact Q5 e
 |none=>exact plain e
 |bool _=>exact plain e
 |int _=>exact plain e
 |str _=>exact plain e
 |_=>exact bl e
noncomputable def OX:Value->Option V
 |.none=>some .none
 |.bool b=>some (.bool b)
 |.int i _=>some (.int i)
 |.str s _=>some (.str (kZ s))
 |_=>none
theorem GV{hs a b x r}(ra:VR hs a x)(e:AF a b=some r):OX x=some a:=by
 induction ra with
 |none=>rfl
 |bool=>rfl
 |int=>rfl
 |str s t h=>exact Qg (some∘V.str) (on s)
 |_=>exact bl e
noncomputable def mE(a:V)(y:Value):Bool:=match OX y with
 |some v=>(AF v a).getD false
 |none=>false
theorem qE{hs a x}(ra:VR hs a x){s vs}{its:aO}(i:aL (VR hs) vs its):∀{r:Bool},Cm a vs=some r->its.any (mE a)=r/\∀y∈its,EqAt A s y x (mE a y):=by
 induction i with
 |nil=>intro r e;obtain rfl:=aK e;exact ⟨rfl,λy hy=>by simp at hy⟩
 |@cons v y l mm h t ih=>
  intro r e;refine a7 λkC=>?_;obtain ⟨b,hb,e⟩:=Option.bind_eq_some_iff.mp (show ((AF v a).bind λb=>(Cm a l).map λd=>b||d)=some r from e);obtain ⟨d,hd,rfl⟩:=Option.map_eq_some_iff.mp e;obtain ⟨i1,i2⟩:=ih hd;have hy:mE a y=b:=by unfold mE;refine rW (GV h hb ..) ?_;show (AF v a).getD false=b;exact rW hb rfl
  refine kC ⟨by simp[hy,i1],λz hz=>?_⟩;clear kC;rcases b8.mp hz with rfl|hz
  ·exact rW hy ((oV h ra hb).1)
  ·exact i2 z hz
theorem BC{hs a x r}(ra:VR hs a x)(e:Mp a=some r):x=.none/\r=true\/(x≠.none/\PySem.plainIs x .none=true/\r=false):=by
 induction ra with
 |none=>exact fq e (.inl ⟨rfl,rfl⟩)
 |int=>exact fq e (.inr ⟨(nomatch ·),rfl,rfl⟩)
 |str=>exact fq e (.inr ⟨(nomatch ·),rfl,rfl⟩)
 |ref=>exact fq e (.inr ⟨(nomatch ·),rfl,rfl⟩)
 |I=>exact fq e (.inr ⟨(nomatch ·),rfl,rfl⟩)
 |_=>exact bl e
theorem rM{hs kvs ks}(i1:aL (KV hs) kvs ks)(P':aC):(PySem.valueAt ks (aT P')).isSome=(bM P' kvs).isSome:=by
 have z:=iH i1 P';generalize q:bM P' kvs=z1;induction z1 with
 |none=>rw[q]at z;exact rW z rfl
 |some v=>rw[q]at z;obtain ⟨x,hx,_⟩:=z;exact rW hx rfl
end
section
variable {z:Am}{p:Pt z}{A:Around}{E:bw}
theorem y4(g:Gs z){a b x y r}{Q:bw}(ra:VR p.hs a x)(rb:VR p.hs b y)(e:M7 z.cx p.σ a b=some r):
 ((∀t,1<=t->Q (.bool r) (p.at t))->wpAny z.M A (compareOp .In x y) Q E p.sh)/\((∀t,1<=t->Q (.bool (!r)) (p.at t))->wpAny z.M A (compareOp .NotIn x y) Q E p.sh):=by
 refine xy g.G.so p.S (g.K p) rb e (λs t J J e=>strE ra e λs' t' J e=>fq e ⟨λk=>PyProof.Rows.in_str (k _ p.ht),λk=>PyProof.Rows.notIn_str (k _ p.ht)⟩) λo A' J ro e=>a7 λkC=>?_;induction o using O.casesOn with
 |list vs=>
  obtain ⟨its,n,hA,i1,_⟩:=ro;obtain ⟨rfl,q2⟩:=qE (A:=A.in1) (s:=p.sh) ra i1 e;have q2:∀y∈its.toArray,EqAt A.in1 p.sh y x (mE a y):=λy hy=>q2 y (List.mem_toArray.mp hy);refine kC ?_;exact ⟨λk=>in_listAt (items:=its.toArray) (mE a) ⟨_,hA,rfl,_,rfl⟩ q2 (rW (Array.any_toList ..).symm (k _ p.ht)),
   λk=>notIn_listAt (items:=its.toArray) (mE a) ⟨_,hA,rfl,_,rfl⟩ q2 (rW (Array.any_toList ..).symm (k _ p.ht))⟩
 |tuple vs=>
  obtain ⟨its,n,hA,i1,_⟩:=ro;obtain ⟨rfl,q2⟩:=qE (A:=A.in1) (s:=p.sh) ra i1 e;have q2:∀y∈its.toArray,EqAt A.in1 p.sh y x (mE a y):=λy hy=>q2 y (List.mem_toArray.mp hy);refine kC ?_;exact ⟨λk=>in_tupleAt (items:=its.toArray) (mE a) ⟨_,hA,rfl,_,rfl⟩ q2 (rW (Array.any_toList ..).symm (k _ p.ht)),
   λk=>notIn_tupleAt (items:=its.toArray) (mE a) ⟨_,hA,rfl,_,rfl⟩ q2 (rW (Array.any_toList ..).symm (k _ p.ht))⟩
 |dict kvs=>obtain ⟨ks,ob,hA,d1,i1,b1,y1⟩:=ro;refine kC (strE ra e λP' t hl e=>?_);have D:p.h.DictOf (strKind z.W.prog z.W.w) A' ks:=Heap.dictOf_iff.mpr ⟨_,hA,d1⟩;have q:=rM i1 P';exact fq e ⟨λk=>wpAny_in_of (k:=aT P') (Ua _) y1 D.mapOf (rW q (k _ (dU 1 p.ht))),λk=>wpAny_notIn_of (k:=aT P') (Ua _) y1 D.mapOf (rW q (k _ (dU 1 p.ht)))⟩
 |_=>exact kC (bl e)
theorem jN(g:Gs z){op a b x y r}{Q:bw}(ra:VR p.hs a x)(rb:VR p.hs b y)(e:gV z.cx p.σ op a b=some r)(hu:A.units+30<cLine)(k:∀t,1<=t->Q (.bool r) (p.at t)):wpAny z.M A (compareOp (mH op) x y) Q E p.sh:=by
 have k0:=k _ p.ht;have SN:A.units+KG+1<cLine:=Um (UK (show KG+1<=30 by decide) _) hu;induction op with
 |eq=>exact (sM p.S KG rfl ra rb e (Nat.lt_of_succ_lt SN)).2 E Q k0
 |ne=>exact HY p.S rfl ra rb e SN E Q k0
 |lt=>induction ra with
  |int=>exact intE rb e λj u e=>PyProof.Rows.lt_int (fu e k0)
  |str=>exact strE rb e λj u J e=>PySem.P.lt_str (rW (eo ..) (rW (eo ..) (fu e k0)))
  |_=>exact bl e
 |gt=>exact intE ra e λi t e=>intE rb e λj u e=>PyProof.Rows.gt_int (fu e k0)
 |le=>induction ra with
  |int=>exact intE rb e λj u e=>PyProof.Rows.le_int (fu e k0)
  |str=>exact strE rb e λj u J e=>PySem.P.le_str (rW (eo ..) (rW (eo ..) (fu e k0)))
  |_=>exact bl e
 |ge=>exact intE ra e λi t e=>intE rb e λj u e=>PyProof.Rows.ge_int (fu e k0)
 |is=>clear k;induction rb with
  |none=>rcases BC ra e with ⟨rfl,rfl⟩|⟨n,p,rfl⟩
         ·exact wpAny_is_self rfl k0
         ·exact wpAny_is_other p n k0
  |_=>exact bl e
 |am=>induction rb with
  |none=>revert k0
         refine EG e λz e k0=>a7 λkC=>?_;rcases BC ra e with ⟨rfl,rfl⟩|⟨n,p,rfl⟩
         ·exact kC (wpAny_isNot_self rfl k0)
         ·exact kC (wpAny_isNot_other p n k0)
  |_=>exact bl e
 |U=>exact (y4 g ra rb e).1 k
 |aq=>clear k0;revert k;exact EG e λz e=>(y4 g ra rb e).2
end
end
section
theorem lc{α:Type}(l:List α):∀(n i:Nat),(List.range' i n).filterMap (l[·]?)=(l.drop i).take n:=by
 intro n;induction n with
 |zero=>intro i;simp
 |succ n ih=>
  refine λi=>rW (List.range'_succ ..) (rW (List.filterMap_cons ..) (rW (ih (i+1) ..) ?_));by_cases h:i<l.length
  ·exact rW (da h ..) (rW (Uc h ..) (rW (List.take_succ_cons ..) rfl))
  ·have h':l.length<=i:=aF h;refine rW (U4 h' ..) (rW (Uz h' ..) (rW (Uz (aF (cV 0x11bb3111011 rfl (aF h :))) ..) ?_));simp
theorem uc(i j:Nat):sliceRange (i:Int) (j:Int) 1=List.range' i (j-i):=by
 unfold sliceRange;simp only[show (1:Int)>0 by decide,if_true];have e:((if (i:Int)<(j:Int) then ((j:Int)-i+1-1)/1 else 0):Int).toNat=j-i:=by
  by_cases q:(i:Int)<(j:Int)
  ·exact rW (T6 q ..) (rW (Int.ediv_one ..) (rW (Int.add_sub_cancel ..) (Int.toNat_sub j i)))
  ·exact rW (T8 q ..) ((Nat.sub_eq_zero_of_le (Int.ofNat_le.mp (Int.not_lt.mp q))).symm)
 simp only[e];refine rW (List.range_eq_range' ..) (rW (List.range'_eq_map_range (n:=j-i) (s:=i) ..) (rW (List.range_eq_range' ..).symm ?_));apply Un;exact λk J=>rW (Int.one_mul ..) rfl
theorem Km{i:Int}{n:Nat}(h:i<0):i+n<=n:=UW (Int.add_le_add_right (Int.le_of_lt h) _) (Int.le_of_eq (Int.zero_add _))
theorem uO(n:Nat)(i:Int):max 0 (min (if i<0 then i+n else i) (n:Int))=((bP n i:Nat):Int):=by
 show max 0 (min (if i<0 then i+n else i) n)=(((if i<0 then (i+n).toNat else min i.toNat n):Nat):Int);by_cases h:i<0
 ·exact rW (T6 h ..) (rW (T6 h ..) (rW (Int.min_eq_left (Km h) ..) (rW (Int.toNat_eq_max ..) (rW (Int.max_comm ..) rfl))))
 ·refine rW (T8 h ..) (rW (T8 h ..) ?_);obtain ⟨m,rfl⟩:=Int.eq_ofNat_of_zero_le (Int.not_lt.mp h);show max 0 (min (m:Int) n)=((min m n:Nat):Int);rcases Nat.le_total m n with q|q
  ·exact rW (Ue q ..) (rW (Int.min_eq_left (Int.ofNat_le.mpr q) ..) (Int.max_eq_right (UH m)))
  ·exact rW (Nat.min_eq_right q ..) (rW (Int.min_eq_right (Int.ofNat_le.mpr q) ..) (Int.max_eq_right (UH n)))
inductive kl:V->Option Int->Prop
 |none:kl .none none
 |int (i:Int):kl (.int i) (some i)
theorem C0{n l u pl pu i j}(rl:kl l pl)(ru:kl u pu)(el:fy n l=some i)(eu:eL n u=some j):Builtin.Str.strSliceIndices pl pu 1 n=List.range' i (j-i):=by
 induction rl<;>induction ru<;>obtain rfl:=aK el<;>obtain rfl:=aK eu<;>unfold Builtin.Str.strSliceIndices <;>
  simp only[show (1:Int)>0 by decide,if_true,uO]<;>first|exact uc _ _|exact uc 0 _
theorem xp{items:aO}{l u pl pu i j}(rl:kl l pl)(ru:kl u pu)(el:fy items.length l=some i)(eu:eL items.length u=some j):slicePick items.toArray pl pu none=(iA items i j).toArray:=by
 have f:(λx:Nat=>items.toArray[x]?)=λx=>items[x]?:=by funext x;simp
 have P':∀(x y:Int),x=(i:Int)->y=(j:Int)->((sliceRange x y 1).filterMap (items.toArray[·]?)).toArray=(iA items i j).toArray:=by intro x y hx hy;rw[hx,hy,f,uc,lc];rfl
 induction rl<;>induction ru<;>obtain rfl:=aK el<;>obtain rfl:=aK eu<;>refine P' _ _ ?_ ?_ <;>
  first|exact uO _ _|rfl
section
variable {z:Am}{p:Pt z}{A:Around}{E:bw}
theorem ip(g:Gs z){v x r}{Q:Bool->Shared->Prop}(ra:VR p.hs v x)(e:b7 z.cx p.σ v=some r)(k:∀t,1<=t->Q r (p.at t)):wpAny z.M A (truthy x) Q E p.sh:=by
 have Q5:∀o A',b6 z.cx p.σ v=some o->RO z.W p.h p.hs A' o->Mm o=some r->wpAny z.M A (truthy (.ref A')) Q E p.sh:=λo A' J ro e=>by
  refine a7 λkC=>?_;induction o using O.casesOn with
  |list vs=>obtain ⟨its,n,hA,i1,hn⟩:=ro;refine kC (wpAny_truthy_list (items:=its.toArray) ⟨_,hA,rfl,_,rfl⟩ (by rw[UP,<-i1.len];exact kj hn) ?_);rw[show (!its.toArray.isEmpty) = !vs.isEmpty by clear hn hA e;induction i1 using aL.casesOn<;>rfl];exact fu e (k _ (dU 2 p.ht))
  |meth f self=>
   obtain ⟨y,hA,_⟩:=ro;have ty:Looks z.M p.h (typeOf (.ref A')) (.type "method"):=(Looks.ld hA).andThen .now;have n1:typeLookup (.type "method") "__bool__"=pure none:=by rw[typeLookup_type,builtinLookup_eq_fast];kernel_rfl
   have n2:typeLookup (.type "method") "__len__"=pure none:=by rw[typeLookup_type,builtinLookup_eq_fast];kernel_rfl
   refine kC ?_;unfold truthy;exact T5 (m:=callSpecial? (.ref A') (Str.ofString "__bool__")) (T5 (T5 (ty.at ((Looks.of_pure n1).at (Ub (T5 (T5 (ty.at ((Looks.of_pure n2).at (Ub (fu e (k _ p.ht))))))))))))
  |_=>exact kC (bl e)
 induction ra with
 |none=>exact PyProof.Rows.truthy_none (fu e (k _ p.ht))
 |bool=>exact wpAny_truthy_bool (fu e (k _ p.ht))
 |int i t=>exact PyProof.Rows.truthy_int (by rw[show (i != 0)=decide (i≠0) by simp[bne,Bool.beq_eq_decide_eq]];exact fu e (k _ p.ht))
 |str s t hl=>refine PySem.P.truthy_str (by rw[bQ];exact Int.not_le.mpr (kj (aH hl (bC _ _)))) ?_;rw[show ((((aT s).length:Nat):Int) != 0) = !s.isEmpty by rw[bQ];clear Q5 e hl;induction s with|nil=>rfl|cons a l=>exact bne_iff_ne.mpr (λq=>Nat.succ_ne_zero l.length (Int.ofNat.inj q))];exact fu e (k _ (dU 2 p.ht))
 |ref hA=>exact oP g.G.so p.S (g.K p) (.ref hA) e Q5
 |u a=>exact oP g.G.so p.S (g.K p) (.u a) e Q5
 |@I o _ hz=>exact oP g.G.so p.S (g.K p) (.I hz) (show (b6 z.cx p.σ (.I o)).bind Mm=some r from e) Q5
 |C=>exact bl e
end
end
section
section
variable {W:Wd}
theorem noRef{tb hs fs}{es:List DictEntry}(r:aL (AV tb hs) fs es):es.any (·.refKey)=false:=by
 induction r with
 |nil=>rfl
 |@cons a e l mm h _ ih=>
  refine a7 λkC=>?_;obtain ⟨x,t,_,hk,_⟩:=h;refine kC (rW (List.any_cons ..) (rW ih ?_));have:DictEntry.refKey e=false:=by unfold DictEntry.refKey;exact rW hk rfl
  exact rW this rfl
theorem io{tb:bq}(nd:tb.Nodup){hs f x}(hx:tb[f]? = some x){fs es}(r:aL (AV tb hs) fs es):match aJ f fs with
 |some v=>∃y,getL x es=some (some y)/\VR hs v y
 |none=>getL x es=some none:=by
 have nr:=noRef r;have P':match aJ f fs with
  |some v=>∃e,es.find? (·.key.isStr x)=some e/\VR hs v e.val
  |none=>es.find? (·.key.isStr x)=none:=by
  clear nr;induction r with
  |nil=>rfl
  |@cons a e l mm h t ih=>
   refine a7 λkC=>?_;obtain ⟨i,v⟩:=a;obtain ⟨y,t',hy,hk,hv⟩:=h;by_cases q:i=f
   ·clear ih;subst q;have SM:y=x:=by rw[hx]at hy;exact (aK hy).symm
    refine kC ?_;rw[IY];refine ⟨e,(rW (List.find?_cons ..) ?_),hv⟩;have:e.key.isStr x=true:=by refine rW hk (rW SM ?_);simp[Value.isStr]
    exact rW this rfl
   ·have SM:¬y=x:=λz=>q (oo nd (z▸hy) hx);refine kC (rW (FK v l q ..) ?_);have:e.key.isStr x=false:=by refine rW hk ?_;simp[Value.isStr,SM]
    have e2:(e::mm).find? (·.key.isStr x)=mm.find? (·.key.isStr x):=rW (List.find?_cons ..) (rW this rfl);exact rW e2 ih
 unfold getL;generalize q:aJ f fs=z4;induction z4 with
 |some v=>refine a7 λkC=>?_;rw[q]at P';obtain ⟨e,he,hv⟩:=P';exact kC (rW he ⟨_,rfl,hv⟩)
 |none=>rw[q]at P';exact rW P' (rW nr rfl)
theorem xa{hs v x}(r:VR hs v x):handedIn x=true:=by induction r<;>rfl
theorem nw.name{cx:Cx}(co:nw W cx){cl f nm}(hn:W.tb[f]? = some nm)(hc:cx.clsi cl f=true):findIn W.K (.ref cl) nm=some none/\takerIn W.K cl nm=some none:=by refine a7 λkC=>?_;obtain ⟨x',Q6,hf⟩:=co.inst _ _ hc;exact kC (aK (Q6.symm.trans hn)▸hf)
theorem Dd{tb:bq}(nd:tb.Nodup){hs f x}(hx:tb[f]? = some x){v y TB t}(rv:VR hs v y){fs es}(r:aL (AV tb hs) fs es):
 aL (AV tb hs) (aX f v fs) (putL x TB (.str x t) y es):=by
 induction r with
 |nil=>exact .cons ⟨x,t,hx,rfl,rv⟩ .nil
 |@cons a e l mm h tl ih=>
  refine a7 λkC=>?_;obtain ⟨i,w⟩:=a;obtain ⟨z,t',hz,hk,hv⟩:=h;by_cases q:i=f
  ·clear ih;subst q;have hzx:z=x:=by rw[hx]at hz;exact (aK hz).symm
   have e1:=Nv i v w l;have e2:putL x TB (.str x t) y (e::mm)=⟨e.hash,e.key,y⟩::mm:=by
    have:e.key.isStr x=true:=by refine rW hk (rW hzx ?_);simp[Value.isStr]
    simp[putL,this]
   exact kC (rW e1 (rW e2 (.cons ⟨z,t',hz,hk,rv⟩ tl)))
  ·have hzx:¬z=x:=λw'=>q (oo nd (w'▸hz) hx);have e1:=Nz v w l q;have e2:putL x TB (.str x t) y (e::mm)=e::putL x TB (.str x t) y mm:=by
    have:e.key.isStr x=false:=by refine rW hk ?_;simp[Value.isStr,hzx]
    simp[putL,this]
   exact kC (rW e1 (rW e2 (.cons ⟨z,t',hz,hk,hv⟩ ih)))
theorem ng{β:Type}(k:Nat)(v:β):∀l:List (Nat×β),(l.map (·.1)).Nodup->((aX k v l).map (·.1)).Nodup/\(aX k v l).length<=l.length+1/\∀a∈(aX k v l).map (·.1),a=k\/a∈l.map (·.1)
 |[],_=>⟨List.nodup_cons.mpr ⟨US,List.nodup_nil⟩,aQ _,λa h=>.inl (cP.mp h)⟩
 |(i,w)::r,nd=>by
  refine a7 λkC=>?_;simp only[Ul,List.nodup_cons]at nd;by_cases q:i=k
  ·subst q;refine kC ?_;rw[Nv];refine ⟨by simpa using nd,by simp,λa ha=>?_⟩;simpa using ha
  ·have e1:=Nz v w r q;obtain ⟨h1,h2,h3⟩:=ng k v r nd.2;refine kC ?_;rw[e1];refine ⟨?_,by simp;exact aF (cV 0x11bb311b2011 rfl h2),λa ha=>?_⟩
   ·simp only[Ul,List.nodup_cons];exact ⟨λz=>(h3 _ z).elim q nd.1,h1⟩
   ·simp only[Ul,b8]at ha ⊢;clear e1 q nd kC;rcases ha with rfl|ha
    ·exact .inr (.inl rfl)
    ·exact (h3 _ ha).elim .inl λz=>.inr (.inr z)
theorem mQ{D o o'}{R:bf}:∀{P:bf},((P++(D,o)::R).map (·.1)).Nodup->Upd D o o' (P++(D,o)::R) (P++(D,o')::R)
 |[],nd=>by refine .head λp hp q=>?_;have nd':(D::R.map (·.1)).Nodup:=nd;exact (List.nodup_cons.mp nd').1 (q▸UM (f:=(·.1)) hp)
 |p::r,nd=>by have nd':(p.1::(r++(D,o)::R).map (·.1)).Nodup:=nd;refine .tail (λq=>(List.nodup_cons.mp nd').1 (rW q ?_)) (mQ (List.nodup_cons.mp nd').2);simp
theorem G8{ps:PZ}{X}(nd:((ps.flatten++X).map (·.1)).Nodup){a Qb post D o o'}(e:ps.p[a]? = some (Qb++(D,o)::post)):
 Upd D o o' (ps.flatten++X) ((ps.set a (Qb++(D,o')::post)).flatten++X):=by
 refine a7 λkC=>?_;obtain ⟨P,Q,h1,h2⟩:=lD (o':=o') e;refine kC (rW h2 ?_);rw[h1]at nd ⊢;rw[UD,UZ]at nd ⊢;exact rW b9 (rW (UZ ..) (mQ nd))
end
section
variable {z:Am}{p:Pt z}{A:Around}
theorem Sm.cellI{α β:Type}{R}{a:Value->Sem α}{v x}{f:Nat->Nat->List (Nat×V)->Option (β×St)}(r:VR p.hs v x)(k:∀a' A' D es n C fs,v=.ref a'->p.σ[a']? = some (.inst C fs)->p.ps.p[a']? = some [(A',instObj C D),(D,dictOf es n)]->InstAt p.h A' (instObj C D) C (some (dictOf es n))->aL (AV z.W.tb p.hs) fs es->(fs.map (·.1)).Nodup->fs.length<=900->Sm A p R (a (.ref A')) (f a' C fs)):Sm A p R (a x) (dz p.σ v λa o=>gr o (f a)):=λb σ' e J J=>
 pA p.S r e λa' A' D es n C fs h1 h2 h3 h4 h5 h6 h7 h8 e=>k a' A' D es n C fs h1 h2 h3 ⟨h4,rfl,rfl,h5⟩ h6 h7 h8 b σ' e
theorem VR.fresh{PW}:VR (be (p.ps.add PW)) (.ref p.σ.length) (.ref (i3 PW)):=by exact rW (fP ..) (VR.last (ic.trans p.S.len.symm))
theorem yA(g:Gs z){f nm ex A1 D1 es n1 cl fs r}
 (hn:z.W.tb[f]? = some nm) (I:InstAt p.h A1 (instObj cl D1) cl (some (dictOf es n1))) (i1:aL (AV z.W.tb p.hs) fs es) (hr:getL nm es=some none->Sm A p VR (getAttr (.ref A1) nm ex) r):Sm A p VR (getAttr (.ref A1) nm ex) (qa z.cx cl f fs p.σ r):=by
 have gl:=io g.G.co.nd hn i1;unfold qa;generalize hv:aJ f fs=z3;induction z3 with
 |none=>rw[hv]at gl;exact hr gl
 |some v=>refine a7 λkC=>?_;rw[hv]at gl;obtain ⟨y,hy,ry⟩:=gl;refine kC (.guard λhc=>.one λk=>a7 λkC=>?_);obtain ⟨⟨p1,p2⟩,p3,_,_⟩:=g.G.co.plain _ _ (.inl hc);exact kC (get_value (s:=p.sh) (g.K p) I p1 (findObj_own p3 (g.G.co.name hn hc).1 rfl hy) (xa ry) (k ry (dU 1 p.ht)))
theorem iZ(g:Gs z){o x f nm ex}(hn:z.W.tb[f]? = some nm)(ra:VR p.hs o x):Sm A p VR (getAttr x nm ex) (eP z.cx o f p.σ):=by
 induction o using V.casesOn with
 |ref a=>
  dsimp only[eP];refine .cellI (a:=λx=>getAttr x nm ex) ra λa' A1 D1 es n1 cl fs ha J hp I i1 Te b1=>yA g hn I i1 λgl=>?_;obtain rfl:=V.ref_inj ha;generalize hm:z.cx.clsm cl f=z2;induction z2 with
  |some g'=>
   refine a7 λkC=>?_;obtain ⟨x',Q6,hf,TT,hg,Sw,hcp,_⟩:=g.G.co.meth _ _ _ hm;obtain rfl:=aK (Q6.symm.trans hn);obtain ⟨⟨p1,p2⟩,p3,_,_⟩:=g.G.co.plain cl f (.inr (.inl (Qg Option.isSome hm)));refine kC (.any λk=>get_bind (s:=p.sh) (g.K p) I p1 ((by
    refine a7 λkC=>?_;obtain ⟨cd,hcd,hdd⟩:=any_some p3;have ow:PySem.W.ownOf cd (some (dictOf es n1)) x'=some none:=by unfold PySem.W.ownOf;exact rW (T6 hdd ..) gl
    refine kC ?_;unfold findObj;refine rW hcd (rW aS (rW hf (rW aS ?_)));dsimp only;refine rW hg (rW aS ?_);dsimp only;refine rW Sw (rW aS ?_);dsimp only;refine rW ow (rW aS ?_);dsimp only;exact rW hcp rfl)) p2 (wpAny_call (fn_get (s:=p.at (p.t+1)) (g.K p) TT ?_)))
   show wpAny _ _ (handedOut (.ref p.h.objs.size)) _ _ _;exact rW (handedOut_of rfl ..) (Ub (k (p.S.push1 (ob:=methodObj (.ref g') (.ref A1)) (o:=.meth g' (.ref a)) rfl (.meth (VR.mono .add (.ref (oA hp))))) et VR.fresh (dU 1 p.ht)))
  |none=>refine .mp λv q=>.one λk=>a7 λkC=>?_;obtain ⟨x',a',Q6,hf,hg,hh,hcp,rv⟩:=g.G.co.val _ _ _ q;obtain rfl:=aK (Q6.symm.trans hn);obtain ⟨⟨p1,p2⟩,p3,_,_⟩:=g.G.co.plain cl f (.inr (.inr (Qg Option.isSome q)));exact kC (get_value (s:=p.sh) (g.K p) I p1 (findObj_cls p3 hf hg hh hcp gl) hh (k (rv.mono .nil) (dU 1 p.ht)))
 |u a=>
  cases ra;refine .bd λo ho=>a7 λkC=>?_;induction o using O.casesOn with
  |inst cl fs=>obtain ⟨es,D1,n1,h1,h2,i1,_⟩:=g.G.so.ro (hs:=p.hs) (g.K p) ho;exact kC (yA g hn ⟨h1,rfl,rfl,h2⟩ i1 λJ=>.no)
  |_=>exact kC .no
 |_=>exact .no
theorem lH(g:Gs z){o v x y f nm σ'}{Q:Unit->Shared->Prop}{E}
 (hn:z.W.tb[f]? = some nm) (ra:VR p.hs o x) (rv:VR p.hs v y) (e:gZ z.cx o f v p.σ=some σ')
 (k:∀{Qo h' t'},SR z.W z.c p.m p.X σ' Qo h'->be Qo=p.hs->1<=t'->Q () ⟨h',z.g,z.dr,t',z.os⟩):wpAny z.M A (setAttr x nm y) Q E p.sh:=by
 refine pA p.S ra e λa A1 D1 es n1 cl fs J J hp h1 h2 i1 Te b1 e=>jW e λhc e=>a7 λkC=>?_;obtain ⟨hf,Sw⟩:=g.G.co.name hn hc.1;obtain ⟨⟨p1,p2⟩,p3,p4,p5⟩:=g.G.co.plain _ _ (.inl hc.1);have gl:=io g.G.co.nd hn i1;have gs:(getL nm es).isSome=true:=by
  generalize q:aJ f fs=z1;induction z1 with
  |none=>rw[q]at gl;exact rW gl rfl
  |some v'=>rw[q]at gl;obtain ⟨y',hy',_⟩:=gl;exact rW hy' rfl
 have Sa:p.ps.p[a]? = some ([(A1,instObj cl D1)]++(D1,dictOf es n1)::[]):=hp;obtain ⟨u1,u2,u3⟩:=ng f v fs Te;have i2:=Dd g.G.co.nd hn (TB:=PyData.keyHash z.W.w.params nm) (t:=p.sh.toks+1) rv i1;have u4:(aX f v fs).length<=900:=aH u2 ((aH (cO hc.2) (by decide)));obtain ⟨g0,G0,m0,QO,F0⟩:=p.S.F;have he:=vi (Q':=[(A1,instObj cl D1)]++(D1,dictOf (putL nm (PyData.keyHash z.W.w.params nm) (.str nm (p.sh.toks+1)) y es) (putN nm es n1))::[]) Sa rfl;refine kC (set_dict (s:=p.sh) F0 (g.ok.KR G0) (G0.news p.S.N) ⟨h1,rfl,rfl,h2⟩ rfl p4 p5 Sw p3 gs rfl (G8 p.S.nd Sa) (i2.len▸aH u4 (by decide)) λh' F' N'=>k ⟨⟨g0,G0,m0,QO,F'⟩,G0.back N',?_,?_,p.S.fz⟩ he (dU 2 p.ht))
 ·refine a7 λkC=>?_;obtain ⟨P,Q,q1,q2⟩:=lD (o':=dictOf (putL nm (PyData.keyHash z.W.w.params nm) (.str nm (p.sh.toks+1)) y es) (putN nm es n1)) Sa;have nd:=p.S.nd;rw[q1]at nd;refine kC (cast (Qg (λl=>((l++p.X).map (·.1)).Nodup) q2.symm) ?_);simpa using nd
 ·exact rW he (rW (aK e ..).symm (p.S.rel.set a (.inst i2 u1 u4)))
end
end
section
noncomputable def Ca:EW->Operator
 |.add=>.Add|.sub=>.Sub|.fdiv=>.FloorDiv|.mod=>.Mod|.mul=>.Mult
theorem pQ{x:Int}(h:x.natAbs<=a8):Builtin.Int.intBits x<=64:=by exact intBits_le_64 (Int.lt_of_lt_of_le (by decide) (Int.neg_le_of_neg_le (UW (Int.le_natAbs (a:=-x)) (Int.ofNat_le.mpr (Int.natAbs_neg x▸h))))) (Int.lt_of_le_of_lt (UW Int.le_natAbs (Int.ofNat_le.mpr h)) (by decide))
theorem vt{x y:aC}(h:x.length+y.length<=a8):(aT x).length+(aT y).length<=sizeLine:=rW (bQ ..) (rW (bQ ..) (dg (aH h (bC _ _))))
theorem qn{x y:aC}(h:x.length+y.length<=a8):(x++y).length<=a8:=rW aP h
theorem yW{y:Int}(h1:0<y)(h2:y<=a8):y.natAbs.log2<20:=by unfold a8 at h2;obtain ⟨m,rfl⟩:=Int.eq_ofNat_of_zero_le (Int.le_of_lt h1);exact (Nat.log2_lt (n:=m) (k:=20) (Nat.ne_of_gt (Int.ofNat_lt.mp h1))).mpr (Um (Int.ofNat_le.mp h2) (by decide))
theorem IU{hs:HS}{vs:List V}{ys}(r:aL (VR hs) vs ys):vs.any FS=false->aL (VR ⟨[],hs.z⟩) vs ys:=by
 induction r with
 |nil=>exact λJ=>.nil
 |cons h _ ih=>
  intro e;have e:=Bool.or_eq_false_iff.mp ((List.any_cons).symm.trans e);refine .cons ?_ (ih e.2);induction h with
  |none=>exact .none
  |bool b=>exact .bool b
  |int i t=>exact .int i t
  |str s t h=>exact .str s t h
  |ref=>cases e.1
  |u a=>exact .u a
  |I z=>exact .I z
  |C A=>exact .C A
section
variable {z:Am}{p:Pt z}{A:Around}{Q:bw}
theorem Pt.low(p:Pt z):∀q∈p.ps.flatten++p.X,q.1<p.h.objs.size:=λq hq=>Heap.lt_size (p.S.N q hq).1
theorem Hd.list{l:List V}{il:aO}(k:Hd p VR (.ref p.σ.length) (p.σ++[.list l]) Q)(i1:aL (VR p.hs) l il)(hl:l.length<=a8){D n t h'}(F':gD z.c h' p.m)(N':News z.c.h₀ z.c.L h' ((D,listOf il.toArray n)::(p.ps.flatten++p.X)))(lt:∀q∈p.ps.flatten++p.X,q.1<D)(ht:1<=t):Q (.ref D) ⟨h',z.g,z.dr,t,z.os⟩:=
 k (p.S.new1 F' N' lt (.list (AR.mono .add i1) (aH hl (bC _ _)))) et VR.fresh ht
theorem Hd.push{o}{ob:Obj}(k:Hd p VR (.ref p.σ.length) (p.σ++[o]) Q)(hf:ob.isFreed=false)(hr:cr z.W.prog z.W.w z.W.tb (p.hs.add p.h.objs.size) o [(p.h.objs.size,ob)]){t}(ht:1<=t):Q (.ref p.h.objs.size) ⟨p.h.push ob,z.g,z.dr,t,z.os⟩:=k (p.S.push1 hf hr) et VR.fresh ht
theorem vX{vs:List V}{ys:aO}(r1:aL (VR p.hs) vs ys)(hl:vs.length<=a8+a8){v σ'}(e:tH vs p.σ=some (v,σ'))(k:Hd p VR v σ' Q){t}(ht:1<=t):Q (.ref p.h.objs.size) ⟨p.h.push { cls:=.type "tuple",data:=.seq ys.toArray },z.g,z.dr,t,z.os⟩:=by
 unfold tH at e;generalize ha:vs.any FS=z1;induction z1 with
 |true=>rw[ha]at e;exact Hd.push (k.eq e) rfl (.tuple (AR.mono .add r1) hl) ht
 |false=>rw[ha]at e;exact (k.eq e) (p.S.tree (ob:={ cls:=.type "tuple",data:=.seq ys.toArray }) (p.S.F.push _) (p.S.F.npush p.S.N _ rfl) p.low (.tuple (IU r1 ha) hl)) qz (VR.I (p:=[(p.h.objs.size,{ cls:=.type "tuple",data:=.seq ys.toArray })]) (Or.inr ⟨rfl,rfl⟩)) ht
theorem rc{vs ws:List V}{its Qy:aO}{n:Nat}(i1:aL (VR p.hs) vs its)(i2:aL (VR p.hs) ws Qy)(hl:(vs++ws).length<=a8):its.toArray.size+Qy.toArray.size<=sizeLine:=by exact rW (UP ..) (rW (UP ..) (rW (i1.len ..).symm (rW (i2.len ..).symm (rW aP.symm (dg (aH hl (bC _ _)))))))
theorem GY(g:Gs z){op:EW}{a b:V}{x y:Value}(ra:VR p.hs a x)(rb:VR p.hs b y):Sm A p VR (binaryOp (Ca op) x y) (Ec z.cx op a b p.σ):=by
 have cat:∀{a:V}{x:Value},VR p.hs a x->Sm A p VR (binaryOp .Add x y) ((b6 z.cx p.σ a).bind λo=>(b6 z.cx p.σ b).bind λo2=>pZ o o2 p.σ):=λra=>
  .obj (a:=λx=>binaryOp .Add x y) g ra λo A1 ro J=>.obj (a:=λy=>binaryOp .Add (.ref A1) y) g rb λo2 A2 rp J=>by
  induction o using O.casesOn with
  |list vs=>induction o2 using O.casesOn with
   |list ws=>refine a7 λkC=>?_;obtain ⟨its,n1,g1,i1,_⟩:=ro;obtain ⟨Qy,n2,g2,i2,_⟩:=rp;obtain ⟨g0,G0,m0,QO,F0⟩:=p.S.F;exact kC (.guard λhl=>.any λk=>PyProof.Rows.add_arrays (its:=its.toArray) (its2:=Qy.toArray) F0 (G0.news p.S.N) ⟨_,g1,rfl,_,rfl⟩ ⟨_,g2,rfl,_,rfl⟩ (λh' F' N'=>k.list (i1.app i2) hl ⟨g0,G0,m0,QO,F'⟩ (G0.back N') p.low p.ht) (rc (n:=0) i1 i2 hl))
   |_=>exact .no
  |tuple vs=>induction o2 using O.casesOn with
   |tuple ws=>
    refine a7 λkC=>?_;obtain ⟨its,n1,g1,i1,_⟩:=ro;obtain ⟨Qy,n2,g2,i2,_⟩:=rp;refine kC (.guard λhl b σ' e J J H=>PySem.P.add_tuple (items:=its.toArray) (items2:=Qy.toArray) (n:=n1) (n2:=n2) g1 g2 (λq=>hl.1.1 ?_) (λq=>hl.1.2 ?_) ?_ (rc (n:=0) i1 i2 hl.2))
    ·exact List.eq_nil_of_length_eq_zero (i1.len.trans (by simpa using q))
    ·exact List.eq_nil_of_length_eq_zero (i2.len.trans (by simpa using q))
    ·exact rW (List.append_toArray ..) (vX (i1.app i2) (aH hl.2 (bC a8 a8)) e H p.ht)
   |_=>exact .no
  |_=>exact .no
 have se:∀{o:Operator}{f:Int->Int->Option (V×St)},(∀i t j u,Sm A p VR (binaryOp o (.int i t) (.int j u)) (f i j))->Sm A p VR (binaryOp o x y) (cq a λi=>cq b λj=>f i j):=λk=>.int (a:=λx=>binaryOp _ x y) ra λi t=>.int (a:=λy=>binaryOp _ (.int i t) y) rb λj u=>k i t j u;induction op with
 |add=>clear se;induction ra with
  |int i t=>exact .int (a:=λy=>binaryOp .Add (.int i t) y) rb λj u=>.one λk=>PyProof.Rows.add_int (k (.int _ _) (dU 1 p.ht))
  |str s t l=>exact .str (a:=λy=>binaryOp .Add (.str (aT s) t) y) rb λs' u J=>.guard λhl=>.one λk=>U3 (aQ _) (PyProof.Rows.add_str (λt' Qr hk=>rW (kP ..) (k (.str _ _ (qn hl)) (aH p.ht hk))) (vt hl))
  |ref hA=>exact cat (.ref hA)
  |u a=>exact cat (.u a)
  |I hA=>exact cat (.I hA)
  |_=>exact .no
 |sub=>exact se λi t j u=>.one λk=>PyProof.Rows.sub_int (k (.int _ _) (dU 1 p.ht))
 |fdiv=>exact se λi t j u=>.guard λhl=>.one λk=>PyProof.Rows.floordiv_int (Int.ne_of_gt hl.1) (k (.int _ _) (dU 1 p.ht)) (Or.inl (PyProof.noPylong_of_log2 (Nat.lt_trans (yW hl.1 hl.2) (by decide))))
 |mod=>exact se λi t j u=>.guard λhl=>.one λk=>PyProof.Rows.mod_int' (Int.ne_of_gt hl) (k (.int _ _) (dU 1 p.ht))
 |mul=>exact se λi t j u=>.guard λhl=>.one λk=>PyProof.Rows.mul_int (k (.int _ _) (dU 1 p.ht)) (hl.elim (λhl=>.of_left (pQ hl)) λhl=>.of_right (pQ hl))
theorem tY{op a b x y cx}(ra:VR p.hs a x)(rb:VR p.hs b y):Sm A p VR (inplaceOp (Ca op) x y) (tC cx op a b p.σ):=by
 have se:∀{o:Operator}{f:Int->Int->Option (V×St)},(∀i t j u,Sm A p VR (inplaceOp o (.int i t) (.int j u)) (f i j))->Sm A p VR (inplaceOp o x y) (cq a λi=>cq b λj=>f i j):=λk=>.int (a:=λx=>inplaceOp _ x y) ra λi t=>.int (a:=λy=>inplaceOp _ (.int i t) y) rb λj u=>k i t j u;induction op with
 |add=>clear se;induction ra with
  |int i t=>exact .int (a:=λy=>inplaceOp .Add (.int i t) y) rb λj u=>.one λk=>PyProof.Rows.iadd_int (k (.int _ _) (dU 1 p.ht))
  |str s t l=>exact .str (a:=λy=>inplaceOp .Add (.str (aT s) t) y) rb λs' u J=>.guard λhl=>.one λk=>U3 (aQ _) (PyProof.Rows.iadd_str (λt' Qr hk=>rW (kP ..) (k (.str _ _ (qn hl)) (aH p.ht hk))) (vt hl))
  |_=>exact .no
 |sub=>exact se λi t j u=>.one λk=>PyProof.Rows.isub_int (k (.int _ _) (dU 1 p.ht))
 |fdiv=>exact se λi t j u=>.guard λhl=>.one λk=>PyProof.Rows.ifloordiv_int (Int.ne_of_gt hl.1) (k (.int _ _) (dU 1 p.ht)) (Or.inl (PyProof.noPylong_of_log2 (Nat.lt_trans (yW hl.1 hl.2) (by decide))))
 |_=>exact .no
end
theorem nH{n}{i:Int}{j}(hn:n<=a8+a8)(e:d9 n i=some j): -(2 ^ 63)<=i/\i<2 ^ 63/\j<n/\(0<=i->j=i.toNat)/\(i<0->-(n:Int)<=i/\j=(i+n).toNat):=by
 refine MY e (λh0 e=>jW e λQf e=>?_) λh0 e=>jW e λRv e=>?_
 ·obtain rfl:=aK e;obtain ⟨m,rfl⟩:=Int.eq_ofNat_of_zero_le h0;exact ⟨UW (by decide) h0,Int.lt_trans (Int.ofNat_lt.mpr Qf) (kj hn),Qf,λJ=>rfl,λq=>Uj q (Int.not_lt.mpr h0)⟩
 ·obtain rfl:=aK e;have h1:=Int.not_le.mp h0;obtain ⟨m,q⟩:=Int.eq_ofNat_of_zero_le (Int.neg_nonneg_of_nonpos (Int.le_of_lt h1));obtain rfl:i = -(m:Int):=(Int.neg_eq_comm.mp q).symm;rw[Int.neg_neg]at Rv ⊢;have h2:m<=n:=Int.ofNat_le.mp Rv;have h3:0<m:=Int.ofNat_lt.mp (Int.neg_lt_zero_iff.mp h1);exact ⟨Int.neg_le_neg (Int.le_of_lt (kj (aH h2 hn))),Int.lt_trans h1 (by decide),Nat.sub_lt (Uk h3 h2) h3,λq=>Uj q h0,λJ=>⟨Int.neg_le_neg Rv,(rW (Int.add_comm ..) (rW (Int.sub_eq_add_neg ..).symm (rW (Int.toNat_sub ..) rfl)))⟩⟩
theorem we{n i j}(hn:n<=a8+a8)(e:d9 n i=some j):seqIndex? i n=some j/\¬(i < -(2 ^ 63)\/2 ^ 63<=i):=by
 refine a7 λkC=>?_;obtain ⟨b1,b2,b3,b4,b5⟩:=nH hn e;refine kC ⟨?_,λq=>q.elim (Int.not_lt.mpr b1) (Int.not_le.mpr b2)⟩;unfold seqIndex?;by_cases q:i<0
 ·obtain ⟨c1,c2⟩:=b5 q;simp only[q,if_true];have:(decide (0<=i+(n:Int))&&decide (i+(n:Int)<n))=true:=Bool.and_eq_true_iff.mpr ⟨Uf (UW (Int.le_of_eq (Int.add_left_neg _).symm) (Int.add_le_add_right c1 _)),Uf (Int.lt_of_lt_of_le (Int.add_lt_add_right q _) (Int.le_of_eq (Int.zero_add _)))⟩;refine rW this ?_;simp[c2]
 ·have c2:=b4 (Int.not_lt.mp q);simp only[q,if_false];have:(decide (0<=i)&&decide (i<(n:Int)))=true:=Bool.and_eq_true_iff.mpr ⟨Uf (Int.not_lt.mp q),Uf ((Int.toNat_lt (Int.not_lt.mp q)).mp (c2▸b3))⟩;refine rW this ?_;simp[c2]
section
variable {z:Am}{p:Pt z}{A:Around}
theorem yx(g:Gs z){o i v x y}{Q E:bw}(ra:VR p.hs o x)(rb:VR p.hs i y)(e:xI z.cx p.σ o i=some v)(k:∀{y t},VR p.hs v y->1<=t->Q y (p.at t)):wpAny z.M A (getItem x y) Q E p.sh:=by
 refine xy g.G.so p.S (g.K p) ra e (λs t J hl e=>intE rb e λki u e=>fI e λj hj e=>?_) λo A' J ro e=>?_
 rotate_left
 ·revert k;refine EG e λch hch k=>?_;obtain ⟨q1,q2⟩:=we (aH hl (bC _ _)) hj;refine PySem.P.getItem_str (c:=ch) (Bool.or_eq_false_iff.mpr ⟨Ux λq=>q2 (.inl q),Ux λq=>q2 (.inr q)⟩) (rW (bQ ..) (rW q1 ?_)) (k (y:=.str (aT [ch]) p.t) (.str _ _ (show 1<=a8 by decide)) (dU 1 p.ht));show (aT s).cps[j]? = some ch;simpa [aT] using hch
 ·refine a7 λkC=>?_;induction o using O.casesOn with
  |list vs=>
   obtain ⟨its,n,hA,i1,hn⟩:=ro;refine kC (intE rb e λki u e=>fI e λj hj hv=>a7 λkC=>?_);obtain ⟨w,hz,rz⟩:=i1.get hv;obtain ⟨b1,b2,b3,b4,b5⟩:=nH hn hj;have hz:its.toArray[j]? = some w:=List.getElem?_toArray.trans hz;by_cases q:ki<0
   ·obtain ⟨c1,c2⟩:=b5 q;exact kC (wpAny_getItem_list_neg (items:=its.toArray) (x:=w) ⟨_,hA,rfl,_,rfl⟩ q (rW (UP ..) (rW (i1.len ..).symm c1)) b1 (rW (UP ..) (rW (i1.len ..).symm (rW c2.symm hz))) (k rz p.ht))
   ·have c0:=Int.not_lt.mp q;exact kC (wpAny_getItem_list (items:=its.toArray) (x:=w) ⟨_,hA,rfl,_,rfl⟩ c0 b2 (rW (b4 c0 ..).symm hz) (k rz p.ht))
  |tuple vs=>obtain ⟨its,n,hA,i1,hn⟩:=ro;refine kC (intE rb e λki u e=>fI e λj hj hv=>a7 λkC=>?_);obtain ⟨w,hz,rz⟩:=i1.get hv;obtain ⟨q1,q2⟩:=we hn hj;exact kC (PySem.P.getItem_tuple (items:=its.toArray) (n:=n) hA (Int.not_lt.mp λq=>q2 (.inl q)) (Int.not_le.mp λq=>q2 (.inr q)) (rW (UP ..) (rW (i1.len ..).symm q1)) (List.getElem?_toArray.trans hz) (k rz p.ht))
  |dict kvs=>obtain ⟨ks,ob,hA,d1,i1,b1,y1⟩:=ro;refine kC (strE rb e λP' t hl e=>a7 λkC=>?_);have D:p.h.DictOf (strKind z.W.prog z.W.w) A' ks:=Heap.dictOf_iff.mpr ⟨_,hA,d1⟩;have q:=iH i1 P';rw[show bM P' kvs=some v from e]at q;obtain ⟨x,hx,rx⟩:=q;exact kC (wpAny_getItem_of (k:=aT P') (v:=x) (Ua _) D.mapOf hx (k rx (dU 1 p.ht)))
  |_=>exact kC (bl e)
end
end
section
theorem uH{hs l vl n i}(r:VR hs l vl)(e:fy n l=some i):∃p:Option (Int×Tok),vl=partValue p/\kl l (p.map (·.1))/\IsPart vl (p.map (·.1)):=by
 induction r with
 |none=>exact ⟨none,rfl,.none,.none⟩
 |int i t=>exact ⟨some (i,t),rfl,.int i,.int i t⟩
 |_=>exact bl e
theorem uD{hs l vl n i}(r:VR hs l vl)(e:eL n l=some i):∃p:Option (Int×Tok),vl=partValue p/\kl l (p.map (·.1))/\IsPart vl (p.map (·.1)):=by
 induction r with
 |none=>exact ⟨none,rfl,.none,.none⟩
 |int i t=>exact ⟨some (i,t),rfl,.int i,.int i t⟩
 |_=>exact bl e
theorem wo{α:Type}(l:List α)(i j:Nat):(iA l i j).length<=l.length:=by exact ((List.take_sublist ..).trans (List.drop_sublist ..)).length_le
theorem KO{n j:Nat}{u:V}(e:eL n u=some j):j<=n:=by
 induction u using V.casesOn with
 |none=>exact aU (aK e).symm
 |int i=>
  obtain rfl:=aK e;show (if i<0 then (i+n).toNat else min i.toNat n)<=n;by_cases q:i<0
  ·exact rW (T6 q ..) (Int.toNat_le.mpr (Km q))
  ·exact rW (T8 q ..) (Nat.min_le_right ..)
 |_=>exact bl e
theorem C'{α:Type}(l:List α){i j}(hj:j<=l.length)(e:j-i=l.length):iA l i j=l:=by
 by_cases q:i=0
 ·subst q;exact UY (aU e.symm)
 ·have:l=[]:=List.eq_nil_of_length_eq_zero (Nat.eq_zero_of_not_pos λp=>Uj e (Nat.ne_of_lt (Uk (Nat.sub_lt (Uk (e.symm▸p) (UQ ..)) (Nat.pos_of_ne_zero q)) hj)));clear e hj;subst this;exact List.eq_nil_of_length_eq_zero (Nat.le_zero.mp (wo [] i j))
theorem lF{hs P' v y}(rv:VR hs v y){kvs}{ks:bD}(i:aL (KV hs) kvs ks)(nd:(ks.map (·.1)).Nodup):
 aL (KV hs) (cH P' v kvs) (stored ks (aT P') y):=by
 have key1:∀{kvs:List (aC×V)}{ks:bD},aL (KV hs) kvs ks->(ks.map (·.1)).Nodup ->
  aL (KV hs) (cH P' v kvs) (if ks.any (λkv=>kv.1=aT P') then ks.map (λkv=>if kv.1=aT P' then (kv.1,y) else kv) else ks++[(aT P',y)]):=by
  intro kvs ks i;induction i with
  |nil=>exact λJ=>.cons ⟨rfl,rv⟩ .nil
  |@cons a b l mm SU t ih=>
   intro nd;simp only[Ul,List.nodup_cons]at nd;refine a7 λkC=>?_;obtain ⟨i,w⟩:=a;obtain ⟨z,u⟩:=b;obtain ⟨hk,hv⟩:=SU;refine kC ?_;simp only at hk hv;clear kC;subst hk;by_cases q:i=P'
   ·clear ih;subst q;have e1:cH i v ((i,w)::l)=(i,v)::l:=T6 rfl;rw[e1];simp only[List.any_cons,decide_true,Bool.true_or,if_true,Ul];have e2:mm.map (λkv=>if kv.1=aT i then (kv.1,y) else kv)=mm:=by
     rw[Un (g:=id) (λkv hkv=>?_),List.map_id];rw[T8];rfl;exact λq=>nd.1 (q▸UM (f:=(·.1)) hkv)
    rw[e2];exact .cons ⟨rfl,rv⟩ t
   ·have q':¬aT i=aT P':=λz=>q (by have:=Qg kZ z;rwa [on,on]at this);have e1:cH P' v ((i,w)::l)=(i,w)::cH P' v l:=T8 q;rw[e1];simp only[List.any_cons,q',decide_false,Bool.false_or,Ul,if_false];have:=ih nd.2;split at this
    ·rename_i hc;rw[T6 hc];exact .cons ⟨rfl,hv⟩ this
    ·rename_i hc;rw[T8 hc];exact .cons ⟨rfl,hv⟩ this
 have:=key1 i nd;unfold stored;exact this
theorem mn(P':aC)(v:V):∀kvs:List (aC×V),(cH P' v kvs).length<=kvs.length+1
 |[]=>aQ _
 |(i,w)::r=>by
  show (if i=P' then (i,v)::r else (i,w)::cH P' v r).length<=_;by_cases q:i=P'
  ·exact rW (T6 q ..) (UT _)
  ·exact rW (T8 q ..) (cO (mn P' v r))
section
variable {z:Am}{p:Pt z}{A:Around}
theorem fT{hs}{l:List V}{il:aO}(i:aL (VR hs) l il)(h:l.length<=a8+a8):il.toArray.size<=sizeLine:=by exact rW (UP ..) (rW (i.len ..).symm (dg h))
theorem pN(g:Gs z){o l u x vl vu sl}(ra:VR p.hs o x)(rl:VR p.hs l vl)(ru:VR p.hs u vu)(hs:p.h.IsSliceOf sl vl vu .none):Sm A p VR (getItem x (.ref sl)) (oz z.cx o l u p.σ):=by
 refine .sob (a:=λx=>getItem x (.ref sl)) g ra (λs t hl=>.bd λi hi=>.bd λj hj=>.one λk=>?_) λob A0 ro J=>?_
 ·refine a7 λkC=>?_;obtain ⟨a,rfl,pr,_⟩:=uH rl hi;obtain ⟨b,rfl,qr,_⟩:=uD ru hj;refine kC (wpAny_getItem_str_slice (s:=p.sh) (l:=a) (u:=b) (st:=none) hs rfl ?_);have pk:slicePicked (aT s) a b none=List.range' i (j-i):=by
   unfold slicePicked;exact rW (bQ ..) (C0 pr qr hi hj)
  unfold sliceMade;refine rW pk ?_;split
  ·rename_i hc;have hc':j-i=s.length:=by simpa [bQ] using hc
   exact k (rW (C' s (KO hj) hc' ..) (.str _ _ hl)) p.ht
  ·have:(⟨((List.range' i (j-i)).filterMap ((aT s).cps[·]?)).toArray⟩:Str)=aT (iA s i j):=by
    have:(λx:Nat=>(aT s).cps[x]?)=λx=>s[x]?:=by funext x;simp[aT]
    exact rW this (rW (lc ..) rfl)
   refine rW this ?_;have Rv:=aH (wo s i j) hl;exact ⟨by exact rW (bQ ..) (dg (aH Rv (bC _ _))),k (.str _ _ Rv) (dU 1 p.ht)⟩
 ·induction ob using O.casesOn with
  |list vs=>refine .bd λi hi=>.bd λj hj=>.guard λhl=>.any λk=>a7 λkC=>?_;obtain ⟨its,n1,g1,i1,hn⟩:=ro;obtain ⟨a,rfl,pr,pp⟩:=uH rl hi;obtain ⟨b,rfl,qr,qq⟩:=uD ru hj;exact kC (wpAny_getItem_list_slice (items:=its.toArray) ⟨_,g1,rfl,_,rfl⟩ hs pp qq .none (nomatch ·) (rW (xp pr qr (by rw[<-i1.len];exact hi) (by rw[<-i1.len];exact hj) ..) (k.list ((i1.drop i).take (j-i)) hl (p.S.F.push _) (p.S.F.npush p.S.N _ rfl) p.low p.ht)) (fT i1 hn))
  |_=>exact .no
theorem IM{o x t sl}(ra:VR p.hs o x)(hs:p.h.IsSliceOf sl .none .none (.int (-1) t)):Sm A p VR (getItem x (.ref sl)) (dz p.σ o λJ ob=>eC ob λvs=>bO vs.reverse p.σ):=
 .cellL (a:=λx=>getItem x (.ref sl)) ra λa A its n vs J J J g1 i1 hn=>.guard λhl=>.any λk=>by exact wpAny_getItem_list_slice (items:=its.toArray) ⟨_,g1,rfl,_,rfl⟩ hs .none .none (.int (-1) t) (by simp) (rW (krv_pick ..) (k.list i1.rev hl (p.S.F.push _) (p.S.F.npush p.S.N _ rfl) p.low p.ht)) (fT i1 hn)
theorem m8{o i v x y w σ'}{Q:Unit->Shared->Prop}{E}(ra:VR p.hs o x)(rb:VR p.hs i y)(rv:VR p.hs v w)(e:jn o i v p.σ=some σ')
 (k:∀{Qo h' t'},SR z.W z.c p.m p.X σ' Qo h'->be Qo=p.hs->1<=t'->Q () ⟨h',z.g,z.dr,t',z.os⟩):wpAny z.M A (setItem x y w) Q E p.sh:=by
 refine u5 p.S ra e λa o PW J J hp hr e=>?_;induction hr with
 |@list vs its A1 n1 i1 hn=>
  have g1:=p.S.at hp (.head _);refine intE rb e λki u e=>jW e λhk e=>?_;have hl:ki.toNat<its.length:=i1.len▸hk.2;have Q7:ki<(its.length:Int):=Int.lt_of_le_of_lt (Int.self_le_toNat ki) (Int.ofNat_lt.mpr hl);refine ki_setAt (items:=its.toArray) g1 hk.1 (Int.lt_of_lt_of_le Q7 (Int.le_of_lt (kj (i1.len▸hn)))) (rW (UP ..) Q7) ?_;have q:=PySem.IsL.update (g1:IsL p.h _ its.toArray n1) (·.setIfInBounds ki.toNat w);have e1:its.toArray.setIfInBounds ki.toNat w=(its.set ki.toNat w).toArray:=by apply Array.toList_inj.mp;simp
  rw[e1]at q;obtain ⟨S',he⟩:=p.S.put (Qb:=[]) (post:=[]) (ob:=.list (vs.set ki.toNat v)) hp (Heap.SameBut.update ..) q (.list (i1.set _ rv) (rW (List.length_set ..) hn));exact k (aK e▸S') he p.ht
 |@dict kvs ks A1 RQ d1 i1 b1 y1=>have g1:=p.S.at hp (.head _);refine strE rb e λP' t hl e=>jW e λhk e=>?_;have D:p.h.DictOf (strKind z.W.prog z.W.w) A1 ks:=Heap.dictOf_iff.mpr ⟨_,g1,d1⟩;refine wpAny_setItem_pairs (k:=aT P') (kvs:=ks) (Ua _) D (λh' hi hs=>(a7 λkC=>?_)) (i1.len▸dg (aH hk (show sY<=a8+a8 by decide)));obtain ⟨ob,Ro,hd⟩:=Heap.dictOf_iff.mp hi;obtain ⟨_,_,_,_,_,_,hnd⟩:=id d1;obtain ⟨S',he⟩:=p.S.put (Qb:=[]) (post:=[]) (ob:=.dict (cH P' v kvs)) hp hs Ro (.dict hd (lF rv i1 hnd) (aH (mn P' v kvs) (aH (cO hk) (by decide))) y1);exact kC (k (aK e▸S') he (dU 1 p.ht))
 |_=>exact bl e
end
end
section
theorem v7.u30{W d}{c:Fc}(ok:v7 W c d):c.A.units+30<cLine:=Um (aH (Nat.add_le_add (bC _ _) (by decide)) ok.units) (by decide)
section
variable {c:Cx}{L:aR}{σ:St}
theorem GU{e i}:aM c (.sub e i) L σ=b2 (aM c e L σ) λo σ1=>b2 (aM c i L σ1) λk σ2=>(xI c σ2 o k).map λv=>(v,σ2):=rfl
theorem IQ{op l r}:aM c (.E op l r) L σ=b2 (aM c l L σ) λa σ1=>b2 (aM c r L σ1) λb σ2=>(gV c σ2 op a b).map λx=>(.bool x,σ2):=rfl
theorem HH{e}:aM c (.ah e) L σ=b2 (aM c e L σ) λv σ1=>(b7 c σ1 v).map λb=>(.bool (!b),σ1):=rfl
theorem G5{e}:aM c (.neg e) L σ=b2 (aM c e L σ) λv σ1=>cq v λi=>some (.int (-i),σ1):=rfl
end
structure bK(W:Wd)(cs:Scope)(cp:Option Cp)(e:PE)(x:Expr):Prop where
 h:∀{z:Am},Ax W cs z->∀(p:Pt z) {env:Env}{L:aR},Nm cp env p L->Sm z.c.A p VR (eval x env) (aM z.cx e L p.σ)
structure mO(W:Wd)(cs:Scope)(cp:Option Cp)(e:PE)(x:Expr):Prop where
 h:∀{z:Am},Ax W cs z->∀(p:Pt z) {env:Env}{L:aR},Nm cp env p L->Sb z.c.A p (isTrue x env (eval x env)) (bR z.cx e L p.σ)
structure gb(W:Wd)(cs:Scope)(cp:Option Cp)(es:List PE)(xs:bJ):Prop where
 h:∀{z:Am},Ax W cs z->∀(p:Pt z) {PV:Pos}{env:Env}{L:aR},Nm cp env p L->Sm z.c.A p AR (spliced (backTo PV (starEach xs env))) (Qc z.cx es L p.σ)
section
variable {W:Wd}{cs:Scope}{cp:Option Cp}
theorem B2{k PV}:bK W cs cp (.i .none) (.Constant .none k PV):=⟨λa p env L V=>.one (p:=p) λk=>wpAny_Constant_none (k .none p.ht)⟩
theorem Ab{b k PV}:bK W cs cp (.i (.bool b)) (.Constant (.bool b) k PV):=⟨λa p env L V=>.one (p:=p) λk=>wpAny_Constant_bool (k (.bool b) p.ht)⟩
theorem Dg{i k PV}:bK W cs cp (.i (.int i)) (.Constant (.int i) k PV):=⟨λa p env L V=>.one (p:=p) λk=>wpAny_Constant_int (k (.int i _) (dU 1 p.ht))⟩
theorem Eo{l:aC}{x k PV}(hx:aT l=x)(hl:l.length<=a8):bK W cs cp (.i (.str l)) (.Constant (.str x) k PV):=
 hx▸⟨λa p env L V=>.one (p:=p) λk=>wpAny_Constant_str (k (.str l _ hl) (dU 1 p.ht))⟩
variable {z:Am}{p:Pt z}{env:Env}{L:aR}
theorem Ax.sc(a:Ax W cs z)(hs:(j6 cs cp).kind=.function)(V:Nm cp env p L):env.scope.kind=.function:=Vw.kind (cs:=cs) V a.cs hs
theorem HO{i x PV}(hi:W.tb[i]? = some x)(hb:NG cs cp i x)(hs:(j6 cs cp).kind=.function)(hd:(x==("__debug__":Str))=false):bK W cs cp (.q i) (.Name x PV):=
 ⟨λa p env L V=>.mp λu hu=>.one λk=>wpAny_Name (Vw.read (s:=p.sh) V p.S a.cs (a.cs▸a.g.ok.kind) hs (a.cs▸a.g.ok.ck) (a.W▸hi) hb hu λy r=>k r p.ht) hd⟩
theorem Cu{v y x PV}(hr:VR .nil v y)(hg:nsIn W.K mainGlobals x=some (some y))(hk:(j6 cs cp).names.lookup x=some .globalImplicit)(hs:(j6 cs cp).kind=.function)(hd:(x==("__debug__":Str))=false):
 bK W cs cp (.Y v) (.Name x PV):=
 ⟨λa p env L V=>.one (p:=p) λk=>by refine a7 λkC=>?_;obtain ⟨g0,G0,m0,QO,F0⟩:=p.S.F;exact kC (nameG_K F0 (a.g.ok.KR G0) (a.g.ok.TR G0) (a.W▸hg) (k (hr.mono .nil) p.ht) (Vw.scope V).2.1 (a.sc hs V) (Vw.kindOf V a.cs hk nofun) hd)⟩
structure nU(W:Wd)(cs:Scope)(cp:Option Cp)(x:Str)(y:Value):Prop where
 hg:nsIn W.K mainGlobals x=some none
 hv:bootBuiltins x=some y
 hn:x≠"__name__"
 hk:(j6 cs cp).names.lookup x=some .globalImplicit
 hs:(j6 cs cp).kind=.function
 hd:(x==("__debug__":Str))=false
theorem uJ(a:Ax W cs z){x y PV}(B:nU W cs cp x y){Q E:bw}(V:Nm cp env p L)(k:Q y p.sh):wpAny z.M z.c.A (eval (.Name x PV) env) Q E p.sh:=by
 refine Calls.Name_function_global (a.sc B.hs V) (Vw.kindOf V a.cs B.hk nofun) (Calls.loadGlobal_builtin (env:=env) (mg:=z.W.mg) (mb:=z.W.mb) ?_ (mg_none_of a.g.ok.X (topRead_of a.g.ok.T).g (a.W▸B.hg)) ?_ (((topRead_of a.g.ok.T).builtins x B.hn).trans B.hv) k) B.hd
 ·exact rW ((Vw.scope V).2.1 ..) ((topRead_of a.g.ok.T).g.keeps p.S.F.base)
 ·exact rW ((Vw.scope V).2.2 ..) ((topRead_of a.g.ok.T).b.keeps p.S.F.base)
theorem GD{op l r x y PV}(hl:bK W cs cp l x)(hr:bK W cs cp r y):bK W cs cp (.J op l r) (.BinOp x (Ca op) y PV):=
 ⟨λa p env L V=>CA (rfl) wpAny_BinOp (hl.h a p V) (λq le=>hr.h a q (V.up le)) λq J J J J J=>GY a.g⟩
theorem Gp(g:Gs z){op a b x y}(ra:VR p.hs a x)(rb:VR p.hs b y):Sm z.c.A p VR (compareOp (mH op) x y) ((gV z.cx p.σ op a b).map λx=>(.bool x,p.σ)):=.mp λr e=>.one λk=>jN g ra rb e g.ok.u30 λt ht=>k (.bool _) ht
theorem HW{op l r x y PV}(hl:bK W cs cp l x)(hr:bK W cs cp r y)(hm:behindInMarks (mH op) y=false):bK W cs cp (.E op l r) (.Compare x [mH op] [y] PV):=
 ⟨λa p env L V=>CA IQ (λh=>wpAny_Compare1 h hm) (hl.h a p V) (λq le=>hr.h a q (V.up le)) λq J J J J J=>Gp a.g⟩
end
end
section
theorem d7{M A E s vs keep}{Q:Unit->Shared->Prop}(h:Q () s):wpAny M A (release vs keep) Q E s:=λΓ p J=>by exact rW (Sem.wp_release ..) h
theorem sH{M A E Q s PV left op SJ Q4 r r2 rs}
 (h:wpAny M A r (λrv s₁=>wpAny M A (compareOp op left rv) (λc s₂=>wpAny M A (truthy c) (λb s₃=>if b then wpAny M A (compareChain PV rv (SJ::Q4) (r2::rs)) Q E s₃ else Q c s₃) E s₂) E s₁) E s):
 wpAny M A (compareChain PV left (op::SJ::Q4) (r::r2::rs)) Q E s:=by
 show wpAny M A (do
  let rv <-holding [left] r
  standAt PV
  let c <-holding [left,rv] (compareOp op left rv)
  release [left,rv] [c]
  if <-holding [c,rv] (truthy c) then compareChain PV rv (SJ::Q4) (r2::rs) else pure c) Q E s
 refine T5 (Ud (UX h (λrv s₁ h₁=>T5 (UG (T5 (Ud (UX h₁ (λc s₂ h₂=>T5 (d7 (T5 (Ud (UX h₂ (λb s₃ h₃=>?_) λJ J e=>e))))) λJ J e=>e))))) λJ J e=>e));induction b with
 |true=>exact h₃
 |false=>exact Ub h₃
theorem w8{M A E Q s PV left op r}
 (h:wpAny M A r (λrv s₁=>wpAny M A (compareOp op left rv) Q E s₁) E s):
 wpAny M A (compareChain PV left [op] [r]) Q E s:=by
 show wpAny M A (do
  let rv <-holding [left] r
  standAt PV
  operate [left,rv] (compareOp op left rv)) Q E s
 exact T5 (Ud (UX h (λrv s₁ h₁=>T5 (UG (wpAny_operating h₁))) λJ J e=>e))
theorem xH{M A E Q s PV left op SJ Q4 r r2 rs}
 (h:wpAny M A r (λrv s₁=>wpAny M A (compareOp op left rv) (λc s₂=>wpAny M A (truthy c) (λb s₃=>if b then wpAny M A (testChain PV rv (SJ::Q4) (r2::rs)) Q E s₃ else Q false s₃) E s₂) E s₁) E s):
 wpAny M A (testChain PV left (op::SJ::Q4) (r::r2::rs)) Q E s:=by
 show wpAny M A (do
  let rv <-holding [left] r
  standAt PV
  let c <-holding [left,rv] (compareOp op left rv)
  release [left,rv] [c]
  if <-holding [c,rv] (truthy c) then testChain PV rv (SJ::Q4) (r2::rs) else pure false) Q E s
 refine T5 (Ud (UX h (λrv s₁ h₁=>T5 (UG (T5 (Ud (UX h₁ (λc s₂ h₂=>T5 (d7 (T5 (Ud (UX h₂ (λb s₃ h₃=>?_) λJ J e=>e))))) λJ J e=>e))))) λJ J e=>e));induction b with
 |true=>exact h₃
 |false=>exact Ub h₃
theorem yG{M A E Q s PV left op r}
 (h:wpAny M A r (λrv s₁=>wpAny M A (compareOp op left rv) (λc s₂=>wpAny M A (truthy c) Q E s₂) E s₁) E s):
 wpAny M A (testChain PV left [op] [r]) Q E s:=by
 show wpAny M A (do
  let rv <-holding [left] r
  standAt PV
  let c <-operate [left,rv] (compareOp op left rv)
  holding [c] (truthy c)) Q E s
 exact T5 (Ud (UX h (λrv s₁ h₁=>T5 (UG (T5 (wpAny_operating (UX h₁ (λc s₂ h₂=>Ud h₂) λJ J e=>e))))) λJ J e=>e))
section
variable {c:Cx}{L:aR}{σ:St}
theorem jO{o1 o2 x y z}:bR c (.ab o1 o2 x y z) L σ=b2 (aM c (.ab o1 o2 x y z) L σ) λv σ1=>(b7 c σ1 v).map λb=>(b,σ1):=rfl
theorem wg{o1 x y}:bR c (.E o1 x y) L σ=b2 (aM c (.E o1 x y) L σ) λv σ1=>(b7 c σ1 v).map λb=>(b,σ1):=rfl
end
section
variable {W:Wd}{cs:Scope}{cp:Option Cp}
theorem HZ{cx:Cx}{G:Prop}{b b':Bool}{s σ0 σ':St}{v0:V}(e7:(b7 cx σ0 v0).map (λb=>(b,σ0))=some (b',σ'))(e:some (V.bool b,s)=some (v0,σ0))(k:some (b,s)=some (b',σ')->G):G:=by cases e;exact k e7
theorem As{o1 o2 a b z x y w PV}(ha:bK W cs cp a x)(hb:bK W cs cp b y)(hz:bK W cs cp z w)(hm:behindInMarks (mH o2) w=false):
 bK W cs cp (.ab o1 o2 a b z) (.Compare x [mH o1,mH o2] [y,w] PV):=by
 refine ⟨λA p env L V v σ' e Q E H=>cF (jV.symm.trans e) λa1 σ1 e1 e=>cF e λb1 σ2 e2 e=>fI e λt e3 e4=>(rW (arm_eval_Compare ..) (T5 (ha.h A p V a1 σ1 e1 λ{_ _ _ y1} S1 p1 r1 Qd=>?_)))⟩;show wpAny _ _ (compareChain PV y1 [mH o1,mH o2] [eval y env,markedBehindIn (mH o2) w (eval w env)]) _ _ _;refine rW (markedBehindIn_of_false hm ..) ?_;have l1:=p.leTo S1 Qd p1;refine sH (hb.h A (p.to S1 Qd) (V.up l1) b1 σ2 e2 λS2 p2 r2 Qe=>?_);have l2:=l1.trans ((p.to S1 Qd).leTo S2 Qe p2);refine jN (p:=(p.to S1 Qd).to S2 Qe) A.g (r1.mono p2) r2 e3 A.g.ok.u30 λt3 QC=>wpAny_truthy_bool ?_;clear e3;induction t with
 |false=>exact (H.eq e4) S2 l2.le (.bool _) QC
 |true=>exact cF e4 λz1 σ3 e5 e=>xV e λu e6 e=>w8 (hz.h A (p.to S2 QC) (V.up (p.leTo S2 QC l2.le)) z1 σ3 e5 λS3 p3 r3 QY=>jN (p:=((p.to S1 Qd).to S2 Qe).to S3 QY) A.g (r2.mono p3) r3 e6 A.g.ok.u30 λt5 Si=>(H.eq e) S3 (l2.le.trans p3) (.bool _) Si)
theorem xc{o1 o2:Jf}{a b z:PE}{x y w:Expr}{PV:Pos}(ha:bK W cs cp a x)(hb:bK W cs cp b y)(hz:bK W cs cp z w)(hm:behindInMarks (mH o2) w=false):
 mO W cs cp (.ab o1 o2 a b z) (.Compare x [mH o1,mH o2] [y,w] PV):=by
 refine ⟨λA p env L V v σ' e Q E H=>cF (jO.symm.trans e) λv0 σ0 e0 e7=>cF (jV.symm.trans e0) λa1 σ1 e1 e=>cF e λb1 σ2 e2 e=>fI e λt e3 e4=>(rW (arm_isTrue_Compare ..) (T5 (ha.h A p V a1 σ1 e1 λ{_ _ _ y1} S1 p1 r1 Qd=>?_)))⟩;show wpAny _ _ (testChain PV y1 [mH o1,mH o2] [eval y env,markedBehindIn (mH o2) w (eval w env)]) _ _ _;refine rW (markedBehindIn_of_false hm ..) ?_;have l1:=p.leTo S1 Qd p1;refine xH (hb.h A (p.to S1 Qd) (V.up l1) b1 σ2 e2 λS2 p2 r2 Qe=>?_);have l2:=l1.trans ((p.to S1 Qd).leTo S2 Qe p2);refine jN (p:=(p.to S1 Qd).to S2 Qe) A.g (r1.mono p2) r2 e3 A.g.ok.u30 λt3 QC=>wpAny_truthy_bool ?_;clear e3;induction t with
 |false=>exact HZ e7 e4 λe=>(H.eq e) S2 l2.le QC
 |true=>exact cF e4 λz1 σ3 e5 e=>xV e λu e6 e=>HZ e7 e λe=>yG (hz.h A (p.to S2 QC) (V.up (p.leTo S2 QC l2.le)) z1 σ3 e5 λS3 p3 r3 QY=>jN (p:=((p.to S1 Qd).to S2 Qe).to S3 QY) A.g (r2.mono p3) r3 e6 A.g.ok.u30 λt5 Si=>wpAny_truthy_bool ((H.eq e) S3 (l2.le.trans p3) Si))
theorem Dm{op:Jf}{l r:PE}{x y:Expr}{PV:Pos}(hl:bK W cs cp l x)(hr:bK W cs cp r y)(hm:behindInMarks (mH op) y=false):mO W cs cp (.E op l r) (.Compare x [mH op] [y] PV):=by exact ⟨λa p env L V v σ' e Q E H=>cF (wg.symm.trans e) λv0 σ0 e0 e7=>cF (ve.symm.trans e0) λa1 σ1 e1 e=>cF e λb1 σ2 e2 e=>xV e λt e3 e=>HZ e7 e λe=>(wpAny_isTrue_Compare1 (hl.h a p V a1 σ1 e1 λS1 p1 r1 Qd=>hr.h a (p.to S1 Qd) (V.up (p.leTo S1 Qd p1)) b1 σ2 e2 λS2 p2 r2 Qe=>jN (p:=(p.to S1 Qd).to S2 Qe) a.g (r1.mono p2) r2 e3 a.g.ok.u30 λt ht=>wpAny_truthy_bool ((H.eq e) S2 (p1.trans p2) ht)) hm)⟩
theorem DT{e}{x:Expr}(he:bK W cs cp e x)(hv:∀cx L σ,bR cx e L σ=b2 (aM cx e L σ) λv σ1=>(b7 cx σ1 v).map λb=>(b,σ1))
 (hx:∀env whole,isTrue x env whole=(do let v <-whole;standAt x.pos;holding [v] (truthy v))):mO W cs cp e x:=
 ⟨λa p env L V v σ' ee Q E H=>cF ((hv _ L p.σ).symm.trans ee) λv0 σ0 e1 e=>xV e λbb e2 e=>wpAny_isTrue_value (he.h a p V v0 σ0 e1 λS1 p1 r1 Qd=>ip (p:=p.to S1 Qd) a.g r1 e2 λt ht=>(H.eq e) S1 p1 ht) (hx _ _)⟩
theorem C4{e x PV}(he:mO W cs cp e x):mO W cs cp (.ah e) (.UnaryOp .Not x PV):=
 ⟨λa p env L V v σ' ee Q E H=>zG (rh.symm.trans ee) λb σ0 e1 e=>wpAny_isTrue_Not (he.h a p V b σ0 e1 (H.eq e))⟩
structure E1(W:Wd)(cs:Scope)(cp:Option Cp)(op:BoolOp)(e:PE)(xs:bJ):Prop where
 h:∀{z:Am},Ax W cs z->∀(p:Pt z) {env:Env}{L:aR},Nm cp env p L->Sb z.c.A p (allTrue op xs env) (bR z.cx e L p.σ)
theorem vB{op e x}(he:mO W cs cp e x):E1 W cs cp op e [x]:=by
 refine ⟨λa p env L V v σ' ee Q E H=>?_⟩;induction op with
 |And=>
  refine wpAny_allTrue_And_cons (he.h a p V v σ' ee λS le ht=>?_);clear ee;induction v with
  |true=>exact wpAny_allTrue_And_nil (H S le ht)
  |false=>exact H S le ht
 |Or=>
  refine wpAny_allTrue_Or_cons (he.h a p V v σ' ee λS le ht=>?_);clear ee;induction v with
  |false=>exact wpAny_allTrue_Or_nil (H S le ht)
  |true=>exact H S le ht
theorem C5{l r x xs}(hl:mO W cs cp l x)(hr:E1 W cs cp .And r xs):E1 W cs cp .And (.ac l r) (x::xs):=by
 refine ⟨λa p env L V v σ' ee Q E H=>cF (jm.symm.trans ee) λb σ0 e1 e2=>wpAny_allTrue_And_cons (hl.h a p V b σ0 e1 λS le ht=>?_)⟩;clear e1;induction b with
 |true=>exact hr.h a (p.to S ht) (V.up (p.leTo S ht le)) v σ' e2 (H.up (p.leTo S ht le))
 |false=>exact (H.eq e2) S le ht
theorem Hx{l r x xs}(hl:mO W cs cp l x)(hr:E1 W cs cp .Or r xs):E1 W cs cp .Or (.af l r) (x::xs):=by
 refine ⟨λa p env L V v σ' ee Q E H=>cF (oI.symm.trans ee) λb σ0 e1 e2=>wpAny_allTrue_Or_cons (hl.h a p V b σ0 e1 λS le ht=>?_)⟩;clear e1;induction b with
 |false=>exact hr.h a (p.to S ht) (V.up (p.leTo S ht le)) v σ' e2 (H.up (p.leTo S ht le))
 |true=>exact (H.eq e2) S le ht
theorem A9{op e xs PV}(he:E1 W cs cp op e xs):mO W cs cp e (.BoolOp op xs PV):=
 ⟨λa p env L V v σ' ee Q E H=>wpAny_isTrue_BoolOp (he.h a p V v σ' ee H)⟩
structure ER(W:Wd)(cs:Scope)(cp:Option Cp)(op:BoolOp)(e:PE)(xs:bJ):Prop where
 h:∀{z:Am},Ax W cs z->∀(p:Pt z) {PV:Pos}{env:Env}{L:aR},Nm cp env p L->Sm z.c.A p VR (boolOp PV op (evalEach xs env)) (aM z.cx e L p.σ)
theorem u9{op e x}(he:bK W cs cp e x):ER W cs cp op e [x]:=⟨λa p PV env L V=>he.h a p V⟩
theorem CV{l r x y xs}(hl:bK W cs cp l x)(hr:ER W cs cp .And r (y::xs)):ER W cs cp .And (.ac l r) (x::y::xs):=by
 refine ⟨λa p PV env L V v σ' ee Q E H=>cF (pU.symm.trans ee) λv0 σ0 e1 e=>fI e λb e2 e3=>(T5 (m:=eval x env) (hl.h a p V v0 σ0 e1 λS le r1 ht=>T5 (UG (T5 (Ud (ip (p:=p.to S ht) a.g r1 e2 λt2 Qe=>?_))))))⟩;clear e2;induction b with
 |true=>exact hr.h a (p.to S Qe) (V.up (p.leTo S Qe le)) v σ' e3 (H.up (p.leTo S Qe le))
 |false=>exact Ub ((H.eq e3) S le r1 Qe)
theorem GA{l r x y xs}(hl:bK W cs cp l x)(hr:ER W cs cp .Or r (y::xs)):ER W cs cp .Or (.af l r) (x::y::xs):=by
 refine ⟨λa p PV env L V v σ' ee Q E H=>cF (o8.symm.trans ee) λv0 σ0 e1 e=>fI e λb e2 e3=>(T5 (m:=eval x env) (hl.h a p V v0 σ0 e1 λS le r1 ht=>T5 (UG (T5 (Ud (ip (p:=p.to S ht) a.g r1 e2 λt2 Qe=>?_))))))⟩;clear e2;induction b with
 |false=>exact hr.h a (p.to S Qe) (V.up (p.leTo S Qe le)) v σ' e3 (H.up (p.leTo S Qe le))
 |true=>exact Ub ((H.eq e3) S le r1 Qe)
theorem EH{op e xs PV}(he:ER W cs cp op e xs):bK W cs cp e (.BoolOp op xs PV):=
 ⟨λa p env L V v σ' ee Q E H=>rW (arm_eval_BoolOp ..) (he.h a p V v σ' ee H)⟩
theorem Hf{e x PV}(he:bK W cs cp e x):bK W cs cp (.ah e) (.UnaryOp .Not x PV):=
 ⟨λa p env L V=>Hc HH wpAny_UnaryOp (he.h a p V) λq v y le r=>.mp λb e=>.one λk=>not_value (ip a.g r e λt ht=>k (.bool _) ht)⟩
theorem zx{e x PV}(he:bK W cs cp e x):bK W cs cp (.neg e) (.UnaryOp .USub x PV):=
 ⟨λa p env L V=>Hc G5 wpAny_UnaryOp (he.h a p V) λq v y le r=>.int (a:=λy=>unaryOp .USub y) r λi t=>.one λk=>PyProof.Rows.neg_int (k (.int _ _) (dU 1 q.ht))⟩
theorem I5{t b o x y z PV}(QT:mO W cs cp t x)(hb:bK W cs cp b y)(ho:bK W cs cp o z):bK W cs cp (.ag t b o) (.IfExp x y z PV):=by
 refine ⟨λa p env L V v σ' ee Q E H=>cF (uq.symm.trans ee) λv0 σ0 e1 e2=>wpAny_IfExp (QT.h a p V v0 σ0 e1 λS le ht=>?_)⟩;clear e1;induction v0 with
 |true=>exact hb.h a (p.to S ht) (V.up (p.leTo S ht le)) v σ' e2 (H.up (p.leTo S ht le))
 |false=>exact ho.h a (p.to S ht) (V.up (p.leTo S ht le)) v σ' e2 (H.up (p.leTo S ht le))
end
end
section
noncomputable def LJ(o:O):Bool:=match o with|.list _=>true|.tuple _=>true|.dict _=>true|_=>false
theorem CX{i v}(ob:O)(e:CK ob i=some v):LJ ob=true:=by
 induction ob using O.casesOn with
 |list vs=>rfl
 |tuple vs=>rfl
 |dict vs=>rfl
 |_=>exact bl e
section
variable {W:Wd}
theorem ju{A E Q}{s:Shared}{value RN o i T id Q4}(hT:s.TypeIs o T)
 (hl:typeLookup (.type T) "__getitem__"=pure (some (.builtin id))) (hs:subscripted RN false o i=operate Q4 (getItem o i)) (h:wpAny (model W.prog W.w) A (getItem o i) Q E s):
 wpAny (model W.prog W.w) A (subscriptTail value RN o i) Q E s:=by
 unfold subscriptTail;refine T5 (rW (getitemInPython_of_ne hT.not_modules ..) (T5 (wpAny_specialOf hT hl ?_)));have fin:wpAny (model W.prog W.w) A (subscripted RN false o i) (λr s₃=>wpAny (model W.prog W.w) A (letTemporaryGo value o r>>=λJ=>pure r) Q E s₃) E s:=by exact rW hs (wpAny_operating (UX h (λr s₃ h₃=>T5 (wpAny_letTemporaryGo (Ub h₃))) λJ J x=>x))
 first
  |exact Ub (T5 fin)
  |exact T5 (Ub (T5 fin))
  |exact T5 fin
end
section
variable {W:Wd}{cs:Scope}{cp:Option Cp}{z:Am}{p:Pt z}
theorem Ek{e f x nm PV}(hn:W.tb[f]? = some nm)(he:bK W cs cp e x)(hb:∀env whole,attributeBase x nm env whole=whole):bK W cs cp (.attr e f) (.Attribute x nm PV):=
 ⟨λa p env L V=>Hc (rfl) (λh=>by rw[arm_eval_Attribute,hb];exact T5 (UX h (λy s h=>T5 (UG (T5 (Ud (UX h (λr s h=>T5 (wpAny_letTemporaryGo (Ub h))) λJ J e=>e))))) λJ J e=>e)) (he.h a p V) λq v y le r=>iZ a.g (a.W▸hn) r⟩
theorem tO(g:Gs z){o x}(ra:VR p.hs o x){β:Type}{g'}{f:O->Option β}{b}(e:sob z.cx p.σ o g' f=some b)(hf:∀ob,f ob=some b->LJ ob=true):
 ∃T id,p.sh.TypeIs x T/\typeLookup (.type T) "__getitem__"=pure (some (.builtin id)):=by
 refine xy g.G.so p.S (g.K p) ra e (λs t J J J=>⟨"str",_,typeIs_str _ _ _,slot_str_getitem.lookup⟩) λob A' J ro e=>a7 λkC=>?_;have hf:=hf ob e;clear e;induction ob using O.casesOn with
 |list vs=>obtain ⟨its,n,hA,_⟩:=ro;exact kC ⟨"list",_,⟨_,hA,rfl⟩,slot_list_getitem.lookup⟩
 |tuple vs=>obtain ⟨its,n,hA,_⟩:=ro;exact kC ⟨"tuple",_,⟨_,hA,rfl⟩,PySem.F.slot_tuple_getitem.lookup⟩
 |dict vs=>obtain ⟨ks,ob,hA,d1,_⟩:=ro;have D:p.h.DictOf (strKind z.W.prog z.W.w) A' ks:=Heap.dictOf_iff.mpr ⟨_,hA,d1⟩;exact kC ⟨"dict",_,D.mapOf.typeIs (s:=p.sh),slot_dict_getitem.lookup⟩
 |_=>refine kC ?_;cases hf
theorem Iw{e i x y PV}(he:bK W cs cp e x)(hi:bK W cs cp i y)(hs:∀o i,subscripted y false o i=operate [o,i] (getItem o i)):bK W cs cp (.sub e i) (.Subscript x y PV):=
 ⟨λa p env L V=>CA GU Subscript_ (he.h a p V) (λq le=>hi.h a q (V.up le)) λq v x' w y' le r1 r2=>.mp λu e3=>.one λk=>by refine a7 λkC=>?_;obtain ⟨T,id,hT,hl⟩:=tO a.g r1 (show sob _ _ _ _ _=_ from e3) CX;exact kC (ju hT hl (hs _ _) (yx a.g r1 r2 e3 k))⟩
structure NI(W:Wd)(cs:Scope)(cp:Option Cp)(e:PE)(x:t8):Prop where
 h:∀{z:Am},Ax W cs z->∀(p:Pt z) {env:Env}{L:aR},Nm cp env p L->Sm z.c.A p VR (evalPart x env) (aM z.cx e L p.σ)
theorem yI{e lo hi x xl xh pp PV}(he:bK W cs cp e x)(hl:NI W cs cp lo xl)(hh:NI W cs cp hi xh):bK W cs cp (.O e lo hi) (.Subscript x (.Slice xl xh none pp) PV):=by refine ⟨λa p env L V v σ' ee Q E H=>cF (d4.symm.trans ee) λv0 σ0 e1 e=>cF e λv1 σ1 e2 e=>cF e λv2 σ2 e3 e4=>(Subscript_ (he.h a p V v0 σ0 e1 λS1 p1 r1 Qd=>wpAny_Slice (hl.h a (p.to S1 Qd) (V.up (p.leTo S1 Qd p1)) v1 σ1 e2 λ{_ _ _ y2} S2 p2 r2 Qe=>hh.h a (p.to S2 Qe) (V.up (p.leTo S2 Qe (p1.trans p2))) v2 σ2 e3 λ{_ h3 _ y3} S3 p3 r3 QC=>(rW (evalPart_none ..) (a7 λkC=>?_)))))⟩;have S4:=S3.garb { cls:=.type "slice",data:=.fields #[y2,y3,.none] };have r1:=r1.mono (p2.trans p3);obtain ⟨T,id,hT,TM⟩:=tO (p:=p.to S4 QC) a.g r1 (show sob _ _ _ _ _=_ from e4) (λob e=>l6 e λvs q J=>q▸rfl);exact kC (Ub (ju (Q4:=[.ref h3.objs.size,_]) hT TM rfl (pN (p:=p.to S4 QC) a.g r1 (r2.mono p3) r3 ⟨_,Heap.get?_push_size _ rfl,rfl,rfl⟩ v σ' e4 (H.up (p.leTo S4 QC ((p1.trans p2).trans p3))))))
theorem Hp{e x s1 pp PV}(he:bK W cs cp e x)(hs:bK W cs cp (.neg (.i (.int 1))) s1):bK W cs cp (.rev e) (.Subscript x (.Slice none none (some s1) pp) PV):=by
 refine ⟨λa p env L V v σ' ee Q E H=>cF (Dt.symm.trans ee) λv0 σ0 e1 e2=>(Subscript_ (he.h a p V v0 σ0 e1 λ{_ _ _ y1} S1 p1 r1 Qd=>wpAny_Slice (rW (evalPart_none ..) (Ub (Ub (rW (evalPart_some ..) (hs.h a (p.to S1 Qd) (V.up (p.leTo S1 Qd p1)) (.int (-1)) σ0 rfl λ{_ h2 t2 _} S2 p2 r2 Qe=>VR.intE r2 λt'=>a7 λkC=>?_)))))))⟩;have S4:=S2.garb { cls:=.type "slice",data:=.fields #[.none,.none,.int (-1) t'] };have r1:=r1.mono p2;obtain ⟨T,id,hT,TM⟩:∃T id,(p.to S4 Qe).sh.TypeIs y1 T/\typeLookup (.type T) "__getitem__"=pure (some (.builtin id)):=BB S4 r1 e2 λa A its n vs J J J hA J J J=>⟨"list",_,⟨_,hA,rfl⟩,slot_list_getitem.lookup⟩
 exact kC (ju (Q4:=[_,.ref h2.objs.size]) hT TM rfl (IM (p:=p.to S4 Qe) r1 ⟨_,Heap.get?_push_size _ rfl,rfl,rfl⟩ v σ' e2 (H.up (p.leTo S4 Qe (p1.trans p2)))))
theorem lG:gb W cs cp [] []:=⟨λa p PV env L V=>.one (p:=p) (R:=AR) λk=>wpAny_items_nil (k .nil p.ht)⟩
theorem jG{e x es xs}(he:bK W cs cp e x)(QL:gb W cs cp es xs)(hx:∀env,starEach (x::xs) env=(false,eval x env)::starEach xs env):gb W cs cp (e::es) (x::xs):=
 ⟨λa p PV env L V v σ' ee Q E H=>cF (bF.symm.trans ee) λv0 σ0 e1 e=>cF e λv1 σ1 e2 e=>wpAny_items_cons (he.h a p V v0 σ0 e1 λS1 p1 r1 Qd=>QL.h a (p.to S1 Qd) (V.up (p.leTo S1 Qd p1)) v1 σ1 e2 λS2 p2 r2 Qe=>(H.eq e) S2 (p1.trans p2) (.cons (r1.mono p2) r2) Qe) (hx _)⟩
theorem CP{es xs PV}(he:gb W cs cp es xs):bK W cs cp (.Q es) (.List xs PV):=
 ⟨λa p env L V v σ' ee Q E H=>cF (jL.symm.trans ee) λv0 σ0 e1 e2=>jW e2 λhl e2=>wpAny_List (he.h a p V v0 σ0 e1 λS le r ht=>⟨aL.len r▸dg (aH hl (bC _ _)),Hd.list (p:=p.to S ht) (Hd.up (H.eq e2) (p.leTo S ht le)) r hl (S.F.push _) (S.F.npush S.N _ rfl) (p.to S ht).low ht⟩)⟩
theorem Ij{es xs n PV}(he:gb W cs cp es xs):bK W cs cp (.H es) (.Tuple xs n PV):=
 ⟨λa p env L V v σ' ee Q E H=>cF (lV.symm.trans ee) λv0 σ0 e1 e=>jW e λhl e=>wpAny_Tuple (he.h a p V v0 σ0 e1 λS le r ht=>⟨aL.len r▸dg (aH hl (bC _ _)),vX (p:=p.to S ht) r (aH hl (bC a8 a8)) e (H.up (p.leTo S ht le)) ht⟩)⟩
end
end
section
theorem wR{kvs:bD}(nd:(kvs.map (·.1)).Nodup)(k:Str)(v:Value):((stored kvs k v).map (·.1)).Nodup:=by
 unfold stored;split
 ·have:(kvs.map (λkv=>if kv.1=k then (kv.1,v) else kv)).map (·.1)=kvs.map (·.1):=by
   refine rW (Up ..) ?_;apply Un;intro a _;show (if a.1=k then (a.1,v) else a).1=a.1;split<;>rfl
  exact rW this nd
 ·rename_i hn;refine rW ba (List.nodup_append.mpr ⟨nd,by simp,λa ha b hb q=>?_⟩);subst q;simp only[Ul,List.map_nil,cP]at hb;subst hb;refine a7 λkC=>?_;obtain ⟨p,hp,hpk⟩:=List.mem_map.mp ha;exact kC (hn (List.any_eq_true.mpr ⟨p,hp,by simpa using hpk⟩))
theorem iI{hs}{l:List (aC×V)}{kvs}(i:aL (KV hs) l kvs):∀{d0:List (aC×V)}{P0:bD},aL (KV hs) d0 P0->(P0.map (·.1)).Nodup ->
 aL (KV hs) (bj l d0) (merged P0 kvs)/\((merged P0 kvs).map (·.1)).Nodup/\(bj l d0).length<=d0.length+l.length:=by
 induction i with
 |nil=>intro d0 P0 h nd;exact ⟨h,nd,by simp[bj]⟩
 |@cons a b l mm h t ih=>intro d0 P0 h0 nd;refine a7 λkC=>?_;obtain ⟨i,v⟩:=a;obtain ⟨z,u⟩:=b;obtain ⟨hk,hv⟩:=h;refine kC ?_;simp only at hk hv;clear kC;subst hk;have:=ih (lF hv h0 nd (P':=i)) (wR nd (aT i) u);refine ⟨this.1,this.2.1,?_⟩;have h1:=this.2.2;have h2:=mn i v d0;show (bj l (cH i v d0)).length<=_;simp only[Ug];exact aF (mD 0x12b318b613b211121184011 rfl this.2.2 h2)
section
variable {W:Wd}{cx:Cx}{cs:Scope}{cp:Option Cp}{d:Nat}
theorem SR.claim{c m X σ}{ps:PZ}{h h':Heap}{D o o' ob}(S:SR W c m ((D,o)::X) σ ps h)(hs:Heap.SameBut D h h')(ho:h'.get? D=some o')(hr:cr W.prog W.w W.tb ((be ps).add D) ob [(D,o')]):
 SR W c m X (σ++[ob]) (ps.add [(D,o')]) h':=by
 have D0:=S.N (D,o) (by simp);have nd:=S.nd;have e:((ps.flatten++(D,o)::X).map (·.1)).Perm (D::(ps.flatten++X).map (·.1)):=by rw[ba,Ul,ba];exact List.perm_middle
 rw[e.nodup_iff]at nd;have Te:=(List.nodup_cons.mp nd).1;have ne:∀p∈ps.flatten++X,p.1≠D:=λp hp q=>Te (q▸UM hp);refine ⟨S.F.change hs D0.2.1 D0.2.2,λp hp=>?_,?_,?_,S.fz⟩
 ·rcases List.mem_append.mp ((lj (PW:=[(D,o')])).mem_iff.mp hp) with hp|hp
  ·obtain rfl:=cP.mp hp;exact ⟨ho,D0.2⟩
  ·have z:=S.N p (by simp only[List.mem_append,b8]at hp ⊢;rcases hp with q|q;exact .inl q;exact .inr (.inr q));exact ⟨(hs.2 _ (ne p hp)).trans z.1,z.2⟩
 ·have q:=(lj (PW:=[(D,o')]) (ps:=ps) (X:=X)).map Prod.fst;exact q.nodup_iff.mpr nd
 ·exact rW (fP ..) (aL.snoc (S.rel.mono λJ J=>cr.mono .add) hr)
theorem SR.take{c m X σ ps}{h:Heap}(S:SR W c m X σ ps h)(o:Obj)(hf:o.isFreed=false):SR W c m ((h.objs.size,o)::X) σ ps (h.push o):=by
 have N':=S.F.npush S.N o hf;refine ⟨S.F.push _,λp hp=>N' p ?_,?_,S.rel,S.fz⟩
 ·simp only[List.mem_append,b8]at hp ⊢;rcases hp with q|q|q
  ·exact .inr (.inl q)
  ·exact .inl q
  ·exact .inr (.inr q)
 ·have e:((ps.flatten++(h.objs.size,o)::X).map (·.1)).Perm (h.objs.size::(ps.flatten++X).map (·.1)):=by
   rw[ba,Ul,ba];exact List.perm_middle
  rw[e.nodup_iff];refine List.nodup_cons.mpr ⟨λq=>(a7 λkC=>?_),S.nd⟩;obtain ⟨p,hp,e⟩:=List.mem_map.mp q;refine kC ?_;have:=Heap.lt_size (S.N p hp).1;rw[e]at this;exact Nat.lt_irrefl _ this
theorem Vw.more{c env m X hs L}(V:Vw W cp c env m X hs L)(p:Addr×Obj):Vw W cp c env m (p::X) hs L:=by
 induction cp<;>unfold Vw at V ⊢
 ·exact V
 ·refine a7 λkC=>?_;obtain ⟨C,o,mc,h1,h2,h3,h4⟩:=V;exact kC ⟨C,o,mc,h1,.tail _ h2,h3,h4⟩
noncomputable def uT(env:Env)(PV:Pos)(l:List (Expr×Expr)):List (Sem Value×Sem Value):=l.map λp=>(eval p.1 env,do let x <-eval p.2 env;standAt PV;pure x)
noncomputable def o5(ks:bg)(l:List (Expr×Expr)):Prop:=aL (λk p=>∃n PV,p.1=Expr.Constant (.str (aT k)) n PV) ks l
theorem wV{env PV}:∀(l:List (Expr×Expr)),(evalEachOpt (l.map λp=>some p.1) env).zip ((evalEach (l.map (·.2)) env).map λv=>do let x <-v;standAt PV;pure x)=(uT env PV l).map λp=>(some p.1,p.2):=by
 intro l;induction l with
 |nil=>exact rfl
 |cons p r ih=>have:=ih;exact Qg (λt=>(some (eval p.1 env),(do let x <-eval p.2 env;standAt PV;pure x))::t) this
end
section
variable {W:Wd}{cs:Scope}{cp:Option Cp}{z:Am}{p:Pt z}{env:Env}{L:aR}
noncomputable def Pt.take(p:Pt z)(o:Obj)(hf:o.isFreed=false):Pt z:=⟨p.m,(p.h.objs.size,o)::p.X,p.σ,p.ps,p.h.push o,p.t,p.S.take o hf,p.ht⟩
theorem not_modules(g:Gs z)(p:Pt z):(p.h.objs.size==sysModules)=false:=by refine a7 λkC=>?_;obtain ⟨g0,G0,m0,QO,F0⟩:=p.S.F;exact kC (F0.notModules (modules_low (g.ok.TR G0).nolimit))
theorem x9(a:Ax W cs z){PV}{ks:bg}{l}(hk:o5 ks l):∀{es:List PE},aL (λe q=>bK W cs cp e q.2) es l->∀(p:Pt z),Nm cp env p L->∀{vs:List V}{σ':St}{Q:List (Value×Value)->Shared->Prop}{E:bw},Qc z.cx es L p.σ=some (vs,σ') ->
 (∀{Qo h' t' ys kvs},SR z.W z.c p.m p.X σ' Qo h'->p.hs.Le (be Qo)->Carries (strKind z.W.prog z.W.w) ys kvs->aL (KV (be Qo)) (ks.zip vs) kvs->1<=t'->Q ys ⟨h',z.g,z.dr,t',z.os⟩)->wpAny z.M z.c.A (evalPairs (uT env PV l)) Q E p.sh:=by
 induction hk with
 |nil=>intro es he p V vs σ' Q E ee H;cases he;obtain ⟨rfl,rfl⟩:=Prod.mk.inj (aK ee);exact evalPairs_nil (H (kvs:=[]) p.S .rfl trivial .nil p.ht)
 |@cons k q ks l hp t ih=>
  intro es he p V vs σ' Q E ee H;cases he with
  |cons h1 h2=>refine cF (bF.symm.trans ee) λv0 σ0 e1 e=>cF e λv1 σ1 e2 e=>a7 λkC=>?_;obtain ⟨rfl,rfl⟩:=Prod.mk.inj (aK e);obtain ⟨kx,vx⟩:=q;obtain ⟨n,ppos,hkx⟩:=hp;obtain rfl:=show kx=_ from hkx;exact kC (evalPairs_cons (wpAny_Constant_str (T5 (h1.h a (p.to p.S (dU 1 p.ht)) V v0 σ0 e1 λS1 p1 r1 Qd=>T5 (UG (Ub (ih h2 (p.to S1 Qd) (V.up (p.leTo S1 Qd p1)) e2 λS2 p2 q1 q2 Qe=>H (kvs:=(aT k,_)::_) S2 (p1.trans p2) ⟨strKind_is _ _ _ _,rfl,q1⟩ (.cons ⟨rfl,r1.mono p2⟩ q2) Qe)))))))
theorem Cr{ks es}{l:List (Expr×Expr)}{keys QN PV}(hk:o5 ks l)(he:aL (λe q=>bK W cs cp e q.2) es l)(h1:keys=l.map λp=>some p.1)(h2:QN=l.map (·.2))(h0:ks≠[]):
 bK W cs cp (.R ks es) (.Dict keys QN PV):=by
 subst h1 h2;refine ⟨λ{z} a p env L V v σ' ee Q E H=>cF (jE.symm.trans ee) λvs σ1 e1 e2=>jW e2 λhl e2=>?_⟩;have n0:uT env PV l≠[]:=by
  induction hk using aL.casesOn with
  |nil=>exact Uj rfl h0
  |cons=>exact Uv _ _
 refine wpAny_Dict_pairs (knd:=strKind z.W.prog z.W.w) (wV l) n0 (by rw[uT,UC,<-(aL.len hk)];exact hl.2) ?_;have nm:=not_modules a.g p;refine x9 a hk he (p.take { cls:=.type "dict",data:=.dict #[] } rfl) (Vw.more V _) e1 λ{Qo h' t' ys kvs} S1 p1 q1 q2 QT=>?_;have e0:Obj.IsDictOf (strKind z.W.prog z.W.w) { cls:=.type "dict",data:=.dict #[] } []:=by refine a7 λkC=>?_;obtain ⟨o,ho,hd⟩:=Heap.dictOf_iff.mp (Heap.DictOf.new (knd:=strKind z.W.prog z.W.w) p.h);refine kC ?_;rw[Heap.get?_push_size _ rfl]at ho;exact (aK ho)▸hd
 refine ⟨kvs,q1,Heap.dictOf_iff.mpr ⟨_,(S1.N (p.h.objs.size,{ cls:=.type "dict",data:=.dict #[] }) (dS _ (.head _))).1,e0⟩,λh2 hd hs=>(a7 λkC=>?_)⟩;obtain ⟨o',RJ,RB⟩:=Heap.dictOf_iff.mp hd;obtain ⟨m1,m2,m3⟩:=iI q2 (aL.nil (R:=KV (be Qo))) .nil;refine kC ?_;have zl:(ks.zip vs).length<=15:=aH (aH (aU List.length_zip) (Nat.min_le_left _ _)) hl.2;have S2:=SR.claim (o':=o') (ob:=.dict (bj (ks.zip vs) [])) S1 hs RJ (.dict RB (m1.mono λJ J q=>⟨q.1,q.2.mono .add⟩) (aH m3 (aH (aU (UU _)) (aH zl (by decide)))) nm);exact (H.eq e2) S2 (p1.trans et) (VR.fresh (p:=Pt.mk _ _ _ _ _ _ S1 QT)) (dU ys.length QT)
theorem AC{PV}:bK W cs cp (.R [] []) (.Dict [] [] PV):=
 ⟨λa p env L V=>.any (p:=p) (b:=Internal.V.ref p.σ.length) (σ':=p.σ++[.dict []]) λk=>by refine a7 λkC=>?_;obtain ⟨g0,G0,m0,QO,F0⟩:=p.S.F;exact kC (newDict_K F0 (G0.news p.S.N) (a.g.ok.TR G0).nolimit λD h' o F' N' lt nm hd J J J=>k (p.S.new1 (o:=.dict []) ⟨g0,G0,m0,QO,F'⟩ (G0.back N') lt (.dict hd .nil (bu _) nm)) et VR.fresh p.ht)⟩
end
end
section
section
variable {W:Wd}{d:Nat}
theorem v7.toC{c}(ok:v7 W c d):tI W c d:=⟨ok.frames,ok.hh,aH (UT _) ok.depth,aH (UK (by decide) _) ok.units,ok.X,ok.T,ok.kind,ok.ck⟩
noncomputable def Fc.at(c:Fc)(A:Around):Fc:={ c with A:=A }
theorem gD.at{c:Fc}{A h m}(F:gD c h m):gD (c.at A) h m:=let ⟨g,G,m0,q,f⟩:=F;⟨g,⟨G.T,G.B,G.D⟩,m0,q,f⟩
theorem gD.off_at{c:Fc}{A h m}(F:gD (c.at A) h m):gD c h m:=let ⟨g,G,m0,q,f⟩:=F;⟨g,⟨G.T,G.B,G.D⟩,m0,q,f⟩
theorem v7.under{c:Fc}(ok:v7 W c d)(C:Addr)(r:aO)(kw:bD):tI W (c.at (c.A.under (.builtin "type.__call__" ⟨.ref C::r,kw⟩))) d:=by
 refine ⟨ok.frames,ok.hh,?_,?_,ok.X,ok.T,ok.kind,ok.ck⟩
 ·have:=ok.depth;show c.A.depth+1+3*d+2<=990;exact aF (cV 0x271039b1878b3de7b513de7437103901878b1 rfl this)
 ·have:=ok.units;show c.A.units+1+30*d+280<=9800;exact aF (cV 0x118711e9b1878d26487b6126487512c711e901878d1 rfl this)
theorem dQ{M A E s f}{P5:List (Bool×Sem Value)}{Q:Args->Shared->Prop}(hp:P5.any (·.1)=false)
 (h:wpAny M A (spliced P5) (λvs s'=>Q ⟨vs,[]⟩ s') E s):wpAny M A (evalArgs f true P5 []) Q E s:=by
 induction P5 with
 |nil=>unfold evalArgs;show wpAny M A (spliced []>>=_) Q E s;exact T5 (UX h (λvs s' h'=>(Ud (T5 (Ub (T5 (Ub (Ub h'))))))) λJ J x=>x)
 |cons a r=>
  obtain ⟨b,x⟩:=a;have:b=false:=by simp only[List.any_cons,Bool.or_eq_false_iff]at hp;exact hp.1
  clear hp;subst this;exact Calls.evalArgs_plain h
theorem SR.made{c:Fc}{m X σ}{ps:PZ}{h h' x dx cl}(S:SR W c m X σ ps h)(F':gD c h' m)(N':News c.h₀ c.L h' ((x,instObj cl dx)::(dx,dictOf [] 0)::(ps.flatten++X)))(lt:∀p∈ps.flatten++X,p.1<dx)(ltx:dx<x):
 SR W c m X (σ++[.inst cl []]) (ps.add [(x,instObj cl dx),(dx,dictOf [] 0)]) h':=by
 refine S.new (PW:=[(x,instObj cl dx),(dx,dictOf [] 0)]) F' N' ?_ (λq hq p hp=>?_) (.inst .nil .nil (bu _))
 ·exact List.nodup_cons.mpr ⟨λq=>(Nat.ne_of_lt ltx) (cP.mp q).symm,List.nodup_cons.mpr ⟨nofun,.nil⟩⟩
 ·have h1:=lt p hp;rcases b8.mp hq with rfl|hq
  ·exact Nat.ne_of_lt (Nat.lt_trans h1 ltx)
  ·obtain rfl:=cP.mp hq;exact Nat.ne_of_lt h1
theorem px{f}(this:fnIn W.K f=true):keepIn W.K (.ref f)=true:=by
 unfold fnIn at this;unfold keepIn;dsimp only;generalize q:W.K.lookup f=z3;induction z3 with
 |none=>rw[q]at this;cases this
 |some o=>
  rw[q]at this;obtain ⟨_,_,d,_⟩:=o;induction d with
  |func _=>rfl
  |_=>cases this
end
section
variable {W:Wd}{cs:Scope}{cp:Option Cp}{z:Am}{p:Pt z}{env:Env}{L:aR}
theorem Sc.sm{f xs o}(h:Sc p (.call f ⟨xs,[]⟩) o):Sm z.c.A p VR (call f xs) o:=λb σ' e J J H=>wpAny_call (h b σ' e H)
noncomputable def wM(z:Am)(f:Value)(h:Heap):Prop:=∃k,(k=Keeper.frame\/k=Keeper.machine\/k=Keeper.boundFrame)/\Looks z.M h (keeperOf f) k
theorem ik{es xs}(QL:gb W cs cp es xs)(a:Ax W cs z){f first PV}(hp:(backTo PV (starEach xs env)).any (·.1)=false)(N:Nm cp env p L)(o:List V->St->Option (V×St))
 (hk:∀q vs b,p.Le q->o vs q.σ=some b->wM z f q.h) (H:∀q vs ys,p.Le q->aL (VR q.hs) vs ys->Sm z.c.A q VR (call f (first++ys)) (o vs q.σ)):Sm z.c.A p VR (callWith PV f first (backTo PV (starEach xs env)) []) (b2 (Qc z.cx es L p.σ) o):=λb σ' e Q E K=>cF e λvs σ1 e1 e2=>by
 exact callWith_of (P:=wM z f) (rW hp rfl) (λh' p=>p) (dQ hp (QL.h a p N vs σ1 e1 λS le r ht=>⟨hk (p.to S ht) vs _ (p.leTo S ht le) e2,H (p.to S ht) vs _ (p.leTo S ht le) r b σ' e2 (K.up (p.leTo S ht le))⟩))
theorem Ds{f es fx xs PV}(hf:bK W cs cp (.Y (.u f)) fx)(QL:gb W cs cp es xs)(hk:keepIn W.K (.ref f)=true)(hB:f<eM)
 (hp:∀env,(backTo PV (starEach xs env)).any (·.1)=false)
 (he:∀env,eval (.Call fx xs [] PV) env=(do callWith PV (<-eval fx env) [] (backTo PV (starEach xs env)) (backToKw PV (keywordEach [] env)))):bK W cs cp (.call f es) (.Call fx xs [] PV):=by
 refine ⟨λ{z} a p env L V b σ' e Q E H=>Call_ (hf.h a p V (.u f) p.σ rfl λS le r ht=>(VR.srefE r ?_)) (he env)⟩;have l:=p.leTo S ht le;exact ik QL a (hp env) (V.up l) (λvs σ=>z.cx.call f vs σ) (λq J J J J=>keeps_K (a.W▸hk) q.h (a.g.K q)) (λq vs ys le r=>(a.g.G.call f vs hB z rfl a.g.ok.toC q ys _ r (.inl rfl)).sm) b σ' e (H.up l)
noncomputable def Pt.under(p:Pt z)(A:Around){σ ps h}(S:SR z.W z.c p.m p.X σ ps h):Pt { z with c:=z.c.at A }:=⟨p.m,p.X,σ,ps,h,p.t,⟨S.F.at,S.N,S.nd,S.rel,S.fz⟩,p.ht⟩
theorem HR{cl es fx xs PV}(hf:bK W cs cp (.Y (.u cl)) fx)(QL:gb W cs cp es xs)(hk:keepIn W.K (.ref cl)=true)(hm:makesIn W.K cl=true)
 (hp:∀env,(backTo PV (starEach xs env)).any (·.1)=false)
 (he:∀env,eval (.Call fx xs [] PV) env=(do callWith PV (<-eval fx env) [] (backTo PV (starEach xs env)) (backToKw PV (keywordEach [] env)))):bK W cs cp (.new cl es) (.Call fx xs [] PV):=by
 refine ⟨λ{z} a p env L V b σ' e Q E H=>Call_ (hf.h a p V (.u cl) p.σ rfl λS le r ht=>(VR.srefE r ?_)) (he env)⟩;have l:=p.leTo S ht le;refine ik QL a (hp env) (V.up l) (λvs σ1=>(z.cx.clsm cl z.cx.init).bind λg=>(z.cx.call g (.ref σ1.length::vs) (σ1++[.inst cl []])).bind λ(r,σ2)=>match r with|.none=>some (.ref σ1.length,σ2)|_=>none) (λq J J J J=>keeps_K (a.W▸hk) q.h (a.g.K q)) (λq vs ys J r2=>?_) b σ' e (H.up l);clear H e V l;refine .bd λgg e2 b σ' e Q E H=>cF e λr σ2 e3 e4=>wpAny_call (a7 λkC=>?_);obtain ⟨x',Q6,TT,RS,_,_,_,hB⟩:=a.g.G.co.meth _ _ _ e2;clear left_2;obtain rfl:=aK (Q6.symm.trans a.g.x.init);obtain ⟨g0,G0,m0,QO,F0⟩:=q.S.F;refine kC (make_K (s:=q.sh) F0 (G0.news q.S.N) (a.g.K q) (a.W▸hm) TT RS λx dx h' F' N' lt ltx=>?_);have Sn:=q.S.made ⟨g0,G0,m0,QO,F'⟩ (G0.back N') lt ltx;have hl:VR (q.hs.add x) (.ref q.σ.length) (.ref x):=VR.last (ic.trans q.S.len.symm);have hh:be (q.ps.add [(x,instObj cl dx),(dx,dictOf [] 0)])=q.hs.add x:=fP;refine a.g.G.call gg (.ref q.σ.length::vs) hB { z with c:=z.c.at (z.c.A.under (.builtin "type.__call__" ⟨.ref cl::ys,[]⟩)) } rfl (a.g.ok.under cl ys []) (q.under (z.c.A.under (.builtin "type.__call__" ⟨.ref cl::ys,[]⟩)) Sn) _ _ (by show aL (VR (be (q.ps.add _))) _ _;exact rW hh (.cons hl (AR.mono .add r2))) (.inl rfl) r σ2 e3 λS3 p3 r3 QC=>?_;have p3:(be (q.ps.add [(x,instObj cl dx),(dx,dictOf [] 0)])).Le _:=p3;rw[hh]at p3;clear e3;induction r3 with
 |none=>exact ⟨rfl,(H.eq e4) ⟨S3.F.off_at,S3.N,S3.nd,S3.rel,S3.fz⟩ (HS.Le.add.trans p3) (hl.mono p3) QC⟩
 |_=>exact bl e4
theorem li(a:Ax W cs z){mi es nm xs PV}(hn:W.tb[mi]? = some nm)(QL:gb W cs cp es xs)(hp:(backTo PV (starEach xs env)).any (·.1)=false)
 {ov:V}{pl:Sem Bool}{A1 D1 cl n1:Nat}{Q8:List DictEntry} (N:Nm cp env p L) (r:VR p.hs ov (.ref A1)) (I:InstAt p.h A1 (instObj cl D1) cl (some (dictOf Q8 n1))) (gl:getL nm Q8=some none)
 {b:Internal.V}{σ':St}{Q E:bw} (e:im z.cx cl mi ov p.σ (Qc z.cx es L)=some (b,σ')) (H:Hd p VR b σ' Q):
 wpAny z.M z.c.A (getMethod (.ref A1) nm pl) (λfx s₂=>wpAny z.M z.c.A (callWith PV fx.1 fx.2 (backTo PV (starEach xs env)) []) Q E s₂) E p.sh:=by
 refine fI e λgg e2 e=>a7 λkC=>?_;obtain ⟨x',Q6,hf,RS,_,_,_,hB⟩:=a.g.G.co.meth _ _ _ e2;obtain rfl:=aK (Q6.symm.trans (a.W▸hn));obtain ⟨⟨g1,g2⟩,_⟩:=a.g.G.co.plain cl mi (.inr (.inl (Qg Option.isSome e2)));refine kC (method_fn (a.g.K p) I g1 g2 hf RS (by show (lookIn x' (dictOf Q8 n1)).map _=_;exact rW (lookIn_dict ..) (rW gl rfl)) ?_);exact ik QL a hp N (λvs σ=>z.cx.call gg (ov::vs) σ) (λq vs b J e=>keeps_K (px (a.g.x.fn _ _ _ _ hB e)) q.h (a.g.K q)) (λq vs ys le r2=>(a.g.G.call gg (ov::vs) hB z rfl a.g.ok.toC q _ _ (.cons (r.mono le.le) r2) (.inl rfl)).sm) b σ' e H
theorem Ee(a:Ax W cs z){mi es nm xs PV}(hn:W.tb[mi]? = some nm)(QL:gb W cs cp es xs)(hp:(backTo PV (starEach xs env)).any (·.1)=false){v0 b y pl σ' Q E}
 (N:Nm cp env p L) (r1:VR p.hs v0 y) (e2:wq z.cx v0 mi p.σ (Qc z.cx es L)=some (b,σ')) (H:Hd p VR b σ' Q):wpAny z.M z.c.A (getMethod y nm pl) (λfx s₂=>wpAny z.M z.c.A (callWith PV fx.1 fx.2 (backTo PV (starEach xs env)) []) Q E s₂) E p.sh:=by
 have Ti:z.W.tb[mi]? = some nm:=a.W▸hn;induction v0 using V.casesOn with
 |ref a'=>
  dsimp only[wq]at e2;have ga0:∀q fs cl,p.σ[a']? = some (.inst cl fs)->aJ mi fs=some (.ref q)->z.cx.clsi cl mi=true->eP z.cx (.ref a') mi p.σ=some (.ref q,p.σ):=λq fs cl h1 h2 h3=>by show (p.σ[a']?).bind _=_;refine rW h1 ?_;show qa z.cx cl mi fs p.σ _=_;unfold qa;exact rW h2 (T6 h3)
  have Td:=r1;revert Td;refine pA p.S r1 e2 λa'' A1 D1 Q8 n1 cl fs ha Ro RV g1 g2 i1 Te b1 e Td=>?_;clear RV;obtain rfl:=V.ref_inj ha;have I:InstAt p.h A1 (instObj cl D1) cl (some (dictOf Q8 n1)):=⟨g1,rfl,rfl,g2⟩
  have gl:=io a.g.G.co.nd Ti i1;generalize hq:aJ mi fs=z2;induction z2 with
  |some vq=>
   rw[hq]at e;induction vq using V.casesOn with
   |ref q=>
    refine jW e λhci e=>fI e λob hqq e=>a7 λkC=>?_;clear hqq;induction ob using O.casesOn with
    |meth gg self=>
     obtain ⟨⟨g1,g2⟩,_⟩:=a.g.G.co.plain _ _ (.inl hci);refine kC (method_usual (r:=none) (a.g.K p) I g1 g2 (a.g.G.co.name Ti hci).1 rfl (iZ a.g Ti Td _ _ (ga0 q fs cl Ro hq hci) λ{Rw h2 t2 y2} S2 p2 r2 Qe=>?_));have l:=p.leTo S2 Qe p2;have P':∀q':Pt z,(p.to S2 Qe).Le q'->q'.σ[q]? = some (.meth gg self)->∃A3 y3,y2=.ref A3/\q'.h.get? A3=some (methodObj (.ref gg) y3)/\VR q'.hs self y3:=λq' l' RU=>by
      refine CY q'.S (r2.mono l'.le) RU λpart3 hp3 hr3=>?_;cases hr3 with
      |meth rs=>exact ⟨_,_,rfl,q'.S.at hp3 (.head _),rs⟩
     refine ik QL a hp (N.up l) (λvs σ=>@ite _ (σ[q]? = some (.meth gg self)/\gg<eM) (Classical.propDecidable _) (z.cx.call gg (self::vs) σ) none) (λq' vs b l' e=>jW e λRU e=>?_) (λq' vs ys l' r3=>.guard λRU=>?_) b σ' e (H.up l)
     ·refine a7 λkC=>?_;clear r2;obtain ⟨A3,y3,rfl,ha,_⟩:=P' q' l' RU.1;exact kC (keeps_M (a.g.x.fn _ _ _ _ RU.2 e) q'.h ⟨ha,a.g.K q'⟩)
     ·refine a7 λkC=>?_;clear r2;obtain ⟨A3,y3,rfl,ha,rs⟩:=P' q' l' RU.1;exact kC (λb σ' e Q E H=>wpAny_call (method_call ha (a.g.G.call gg (self::vs) RU.2 z rfl a.g.ok.toC q' _ _ (.cons rs r3) (.inl rfl) b σ' e H)))
    |_=>exact kC (bl e)
   |_=>exact bl e
  |none=>rw[hq]at e gl;exact li a hn QL hp N Td I gl e H
 |u a'=>
  refine VR.srefE r1 (fI e2 λob Ro e=>pF e λcl fs q e1=>a7 λkC=>?_);clear e;subst q;obtain ⟨Q8,D1,n1,g1,g2,i1,_⟩:=a.g.G.so.ro (hs:=p.hs) (a.g.K p) Ro;have gl:=io a.g.G.co.nd Ti i1;refine kC ?_;generalize hq:aJ mi fs=z1;induction z1 with
  |some _=>rw[hq]at e1;exact bl e1
  |none=>rw[hq]at e1 gl;exact li a hn QL hp N (.u a') ⟨g1,rfl,rfl,g2⟩ gl e1 H
 |_=>exact bl e2
theorem CM{o mi es x nm xs}{Qh PV:Pos}(hn:W.tb[mi]? = some nm)(ho:bK W cs cp o x)(QL:gb W cs cp es xs)
 (hp:∀env,(backTo PV (starEach xs env)).any (·.1)=false)
 (he:∀env,∃pl,eval (.Call (.Attribute x nm Qh) xs [] PV) env=(do
  let ov <-eval x env
  standAt Qh.atName
  let (f,first) <-holding [ov] (getMethod ov nm pl)
  callWith PV f first (backTo PV (starEach xs env)) [])):bK W cs cp (.meth o mi es) (.Call (.Attribute x nm Qh) xs [] PV):=
 ⟨λa p env L N b σ' ee Q E H=>let ⟨pl,he⟩:=he env;cF (ja.symm.trans ee) λv0 σ1 e1 e2=>MethodCall_ (pl:=pl) (ho.h a p N v0 σ1 e1 λS le r ht=>Ee (p:=p.to S ht) a hn QL (hp env) (N.up (p.leTo S ht le)) r e2 (H.up (p.leTo S ht le))) he⟩
end
end
section
section
variable {W:Wd}
theorem qt{hs}:∀{vs:List V}{its:aO}{a r:Int},aL (VR hs) vs its->By vs a=some r->∃ns,IntsAre its ns/\r=a+ns.sum
 |[],_,a,r,i,e=>by refine aL.nilE i ?_;obtain rfl:=aK e;exact ⟨[],.nil,by simp⟩
 |v::vs,_,a,r,i,e=>by
  refine aL.consE i λJ J h t=>?_;induction v using V.casesOn with
  |int z=>refine VR.intE h λJ=>a7 λkC=>?_;obtain ⟨ns,h1,h2⟩:=qt (a:=a+z) t e;exact kC ⟨z::ns,.cons _ _ h1,h2.trans ((Int.add_assoc ..).trans (Qg (a+·) List.sum_cons.symm))⟩
  |_=>exact bl e
theorem uv{hs P7 w}:∀{kvs:List (aC×V)}{ks:bD}{vs:aO},aL (KV hs) kvs ks->(kvs.all λp=>decide (p.1.length<=a8))=true->vs.length=ks.length ->
 (∀(j:Nat) v,vs[j]? = some v->∃k x,ks[j]? = some (k,x)/\(strKind P7 w).is k v=true)->aL (VR hs) (kvs.map λp=>.str p.1) vs
 |_,_,[],.nil,_,_,_=>.nil
 |_,_,_::_,.nil,_,hl,_=>by simp at hl
 |_,_,[],.cons _ _,_,hl,_=>by simp at hl
 |_,_,v::vs,.cons (a:=a) (b:=b) h t,hb,hl,hv=>by
  rw[List.all_cons,Us]at hb;refine .cons ?_ (uv (P7:=P7) (w:=w) t hb.2 (by simpa using hl) λj u hu=>?_)
  ·refine a7 λkC=>?_;clear hl;obtain ⟨k,x,hk,hs⟩:=hv 0 v rfl;refine kC ?_;simp at hk;clear kC hv;obtain ⟨t',rfl⟩:=Value.isStrOf_shape hs;have h1:=h.1;rw[hk]at h1;simp only at h1;clear hs hk;subst h1;exact .str _ _ (by simpa using hb.1)
  ·have:=hv (j+1) u (by simpa using hu);simpa using this
theorem DI(l:aC):(aT l).cps.size=l.length:=by simp[aT]
theorem rN{hs}:∀{l:aC}{ys:aO},ys.length=l.length->(∀(j:Nat) v,ys[j]? = some v->∃c u,l[j]? = some c/\v=.str ⟨#[c]⟩ u)->aL (VR hs) (l.map λch=>V.str [ch]) ys
 |[],[],_,_=>.nil
 |[],_::_,h,_=>by simp at h
 |_::_,[],h,_=>by simp at h
 |x::l,y::ys,h,hv=>by refine .cons (a7 λkC=>?_) (rN (by simpa using h) λj v e=>by simpa using hv (j+1) v (by simpa using e));clear h;obtain ⟨c,u,h1,rfl⟩:=hv 0 y rfl;refine kC ?_;simp at h1;clear kC hv;subst h1;exact .str [x] u (by unfold a8;simp)
theorem FX{G:Prop}{kvs:List (aC×V)}{vs:List V}(e:kc kvs=some vs)(k:(kvs.all λp=>decide (p.1.length<=a8))=true->vs=(kvs.map λp=>.str p.1)->G):G:=jW e λhb e=>k hb (aK e).symm
theorem SR.grow1{c m X σ}{ps:PZ}{h h':Heap}(S:SR W c m X σ ps h)(hk:∀b x,h.get? b=some x->h'.get? b=some x){ob o}(ho:h'.get? h.objs.size=some ob)
 (hr:cr W.prog W.w W.tb ((be ps).add h.objs.size) o [(h.objs.size,ob)]):SR W c m X (σ++[o]) (ps.add [(h.objs.size,ob)]) h':=by
 refine S.new1 (S.F.keeps hk) (λp hp=>?_) (λp hp=>Heap.lt_size (S.N p hp).1) hr;rcases b8.mp hp with rfl|hp
 ·refine ⟨ho,Nat.ne_of_gt (let ⟨_,_,f⟩:=S.F.ns;f.lt),(a7 λkC=>?_)⟩;obtain ⟨g0,G0,m0,QO,F0⟩:=S.F;refine kC (G0.none.mpr ?_);generalize q:g0.get? h.objs.size=z1;induction z1 with
  |none=>rfl
  |some x=>exact Uj (Heap.lt_size (F0.keep _ _ q)) (Nat.lt_irrefl _)
 ·exact ⟨hk _ _ (S.N p hp).1,(S.N p hp).2⟩
end
theorem hO{z h f}(hf:∀a,f≠.ref a):wM z f h:=by
 refine ⟨.machine,.inr (.inl rfl),?_⟩;induction f with
 |ref a=>exact Uj rfl (hf a)
 |_=>exact Looks.of_pure rfl
section
variable {W:Wd}{cs:Scope}{cp:Option Cp}{z:Am}{p:Pt z}{A:Around}
theorem Sm.v1{α β:Type}{R}{a:aO->Sem α}{vs ys}{f:V->Option (β×St)}(r:aL (VR p.hs) vs ys)(k:∀v y,VR p.hs v y->Sm A p R (a [y]) (f v)):Sm A p R (a ys) (v1 vs f):=by
 induction r using aL.casesOn with
 |nil=>exact .no
 |cons h t=>induction t using aL.casesOn with
  |nil=>exact k _ _ h
  |cons _ _=>exact .no
def oG(f:Value)(g1:Cx->V->St->Option (V×St)):Prop:=∀{z:Am},Gs z->∀(p:Pt z) {v:V}{y:Value},VR p.hs v y->Sm z.c.A p VR (call f [y]) (g1 z.cx v p.σ)
theorem n8{f es xs nm QB PV}(B:nU W cs cp nm f)(hf:∀a,f≠.ref a)(QL:gb W cs cp es xs)(hp:∀env,(backTo PV (starEach xs env)).any (·.1)=false)
 (hc:∀env,eval (.Call (.Name nm QB) xs [] PV) env=(do callWith PV (<-eval (.Name nm QB) env) [] (backTo PV (starEach xs env)) (backToKw PV (keywordEach [] env)))) (a:Ax W cs z) {env:Env}{L:aR} (N:Nm cp env p L) {o:Option (V×St)}{f1:List V->St->Option (V×St)} (ho:o=b2 (Qc z.cx es L p.σ) f1)
 (H:∀q vs ys,p.Le q->aL (VR q.hs) vs ys->Sm z.c.A q VR (call f ys) (f1 vs q.σ)):Sm z.c.A p VR (eval (.Call (.Name nm QB) xs [] PV) env) o:=
 λb σ' e Q E K=>Call_ (uJ a B N (ik (first:=[]) QL a (hp env) N f1 (λJ J J J J=>hO hf) H b σ' (ho.symm.trans e) K)) (hc env)
theorem Ly{f op e x nm QB PV}(B:nU W cs cp nm f)(hf:∀a,f≠.ref a)(V1:oG f λcx=>Jk cx op)(QL:gb W cs cp [e] [x])(hp:∀env,(backTo PV (starEach [x] env)).any (·.1)=false)
 (hc:∀env,eval (.Call (.Name nm QB) [x] [] PV) env=(do callWith PV (<-eval (.Name nm QB) env) [] (backTo PV (starEach [x] env)) (backToKw PV (keywordEach [] env)))):bK W cs cp (.un op e) (.Call (.Name nm QB) [x] [] PV):=
 ⟨λ{z} a p env L N=>n8 B hf QL hp hc a N (f1:=λvs σ=>Internal.v1 vs λv=>Jk z.cx op v σ) (jg (f:=λv σ=>Jk z.cx op v σ)).symm λq vs ys J r=>.v1 (a:=λys=>call f ys) r λv y r=>V1 a.g q r⟩
theorem Hl:oG (.builtin "len") I8:=λg p J J ra=>.sob (a:=λy=>call (.builtin "len") [y]) g ra (λs t hl=>.one λk=>by
 exact PyProof.Rows.len_str (rW (bQ ..) (Int.not_le.mpr (kj (aH hl (bC _ _))))) (rW (bQ ..) (k (.int _ _) (dU 2 p.ht)))) λo A' ro J=>by
 induction o using O.casesOn with
 |list vs=>refine a7 λkC=>?_;obtain ⟨its,n,hA,i1,hn⟩:=ro;refine kC (.one λk=>PyProof.Rows.len_list (items:=its.toArray) ⟨_,hA,rfl,_,rfl⟩ (rW (UP ..) (rW (i1.len ..).symm (kj hn))) ?_);exact rW (UP ..) (rW (i1.len ..).symm (k (.int _ _) (dU 2 p.ht)))
 |dict kvs=>refine a7 λkC=>?_;obtain ⟨ks,ob,hA,d1,i1,b1,y1⟩:=ro;refine kC (.one λk=>call_len_dict y1 (Heap.dictOf_iff.mpr ⟨_,hA,d1⟩) (rW (i1.len ..).symm (kj (aH b1 (bC _ _)))) ?_);exact rW (i1.len ..).symm (k (.int _ _) (dU 2 p.ht))
 |_=>exact .no
theorem Gv:oG (.builtin "ord") λJ=>Hn:=λg p J J ra=>.str (a:=λy=>call (.builtin "ord") [y]) ra λs t J=>by
 induction s with
 |nil=>exact .no
 |cons a s=>induction s with
  |nil=>exact .one λk=>PySem.P.ord_of_char (k (.int _ _) (dU 1 p.ht))
  |cons _ _=>exact .no
theorem IV:oG (.builtin "chr") λJ=>yY:=λg p J J ra=>.int (a:=λy=>call (.builtin "chr") [y]) ra λi t=>.guard λhl=>.one λk=>PySem.P.chr_of_int (Bool.or_eq_false_iff.mpr ⟨Ux (Int.not_lt.mpr hl.1),Ux (Int.not_lt.mpr (Int.le_of_lt_add_one hl.2))⟩) (k (y:=.str (aT [_]) p.t) (.str _ _ (show 1<=a8 by decide)) (dU 1 p.ht))
theorem BW:oG (.builtin "sum") BY:=λg p J J ra=>.obj (a:=λy=>call (.builtin "sum") [y]) g ra λo A' ro J=>by
 induction o using O.casesOn with
 |list vs=>refine .mp λi hi=>.any λH=>a7 λkC=>?_;obtain ⟨its,n,hA,i1,hn⟩:=ro;obtain ⟨ns,h1,h2⟩:=qt i1 hi;obtain ⟨g0,G0,m0,QO,F0⟩:=p.S.F;refine kC ?_;rw[Int.zero_add]at h2;exact U3 (aQ _) (sumK g.ok.hh F0 (G0.news p.S.N) ⟨_,hA,rfl,_,rfl⟩ h1 λh' Qr t' F' N' hk=>H (p.S.keep ⟨g0,G0,m0,QO,F'⟩ (G0.back N')) .rfl (h2▸.int _ _) (aH p.ht hk))
 |_=>exact .no
theorem Aq:oG (.type "range") λJ=>ze:=λg p J J ra=>.int (a:=λy=>call (.type "range") [y]) ra λi t=>.guard λhl=>.any λk=>call_range_1 (k.push (o:=.rng _ _ _) rfl .rng (dU 2 p.ht))
theorem wD:oG (.type "list") λcx v σ=>(o6 cx σ v).bind λvs=>bO vs σ:=λ{z} g p v y ra b σ' e Q E H=>by
 refine fI e λvs e1 e2=>jW e2 λRp e2=>?_;have H:Hd p VR _ _ Q:=H.eq e2;refine xy g.G.so p.S (g.K p) ra e1 (λs t J hl e1=>?_) λo A' J ro e1=>?_
 ·obtain rfl:=aK e1;refine U3 (aQ _) (call_list_str g.ok.hh (aT s) t (λh' Qr acc' c' hk hD TV TO=>(H (p.S.grow1 (o:=.list (s.map λch=>V.str [ch])) (ob:=listOf acc'.toList.toArray c') hk (rW (Array.toArray_toList ..) hD) (.list (rN (by simpa [aT] using TV.1) λj v hv=>?_) (aH Rp (bC _ _)))) et VR.fresh (aH p.ht TO))) (rW (DI ..) (dg (aH hl (bC _ _)))));refine a7 λkC=>?_;obtain ⟨c1,u,h1,h2⟩:=TV.2 j v (by simpa using hv);exact kC ⟨c1,u,by simpa [aT] using h1,h2⟩
 ·refine a7 λkC=>?_;obtain ⟨g0,G0,m0,QO,F0⟩:=p.S.F;refine kC ?_;induction o using O.casesOn with
  |list vs'=>refine a7 λkC=>?_;obtain rfl:=aK e1;obtain ⟨its,n,hA,i1,hn⟩:=ro;exact kC (list_copyK F0 (G0.news p.S.N) ⟨_,hA,rfl,_,rfl⟩ (λD c' h' F' N' lt=>H.list i1 Rp ⟨g0,G0,m0,QO,F'⟩ (G0.back N') lt p.ht) (fT i1 hn))
  |tuple vs'=>refine a7 λkC=>?_;obtain rfl:=aK e1;obtain ⟨its,n,hA,i1,hn⟩:=ro;exact kC (list_copyKT F0 (G0.news p.S.N) ⟨_,hA,rfl,_,rfl⟩ (λD c' h' F' N' lt=>H.list i1 Rp ⟨g0,G0,m0,QO,F'⟩ (G0.back N') lt p.ht) (fT i1 hn))
  |dict kvs=>refine a7 λkC=>?_;obtain ⟨ks,ob,hA,d1,i1,b1,y1⟩:=ro;refine kC (FX e1 λhb q=>?_);subst q;obtain ⟨ep,R7⟩:=Heap.DictOf.dictAt (Heap.dictOf_iff.mpr ⟨_,hA,d1⟩);exact U3 (aQ _) (kdl_N (kdl_dict (knd:=strKind z.W.prog z.W.w) (kvs:=ks) (ep:=ep) y1) g.ok.hh F0 (G0.news p.S.N) R7 (i1.len▸dg (aH b1 (bC _ _))) λB c' h' Qr vs F' N' lt hl hv hk=>H.list (uv i1 hb hl hv) Rp ⟨g0,G0,m0,QO,F'⟩ (G0.back N') lt (aH p.ht hk))
  |_=>exact bl e1
end
end
section
section
variable {W:Wd}
theorem E4{β:Type}{a:Bool}{x:Option β}{y:β}{p:Prop}(e:(bif a then x else none)=some y)(k:a=true->x=some y->p):p:=by
 induction a with
 |true=>exact k rfl e
 |false=>exact bl e
theorem wI{σ o}(e:d6 σ o=true):∃a vs,o=.ref a/\σ[a]? = some (.list vs):=by
 induction o using V.casesOn with
 |ref a=>
  dsimp only[d6]at e;generalize q:σ[a]? = z3;induction z3 with
  |none=>rw[q]at e;cases e
  |some o=>
   rw[q]at e;induction o using O.casesOn with
   |list vs=>exact ⟨a,vs,rfl,q⟩
   |_=>cases e
 |_=>cases e
theorem wG{σ o}(e:eF σ o=true):∃a vs,o=.ref a/\σ[a]? = some (.dict vs):=by
 induction o using V.casesOn with
 |ref a=>
  dsimp only[eF]at e;generalize q:σ[a]? = z2;induction z2 with
  |none=>rw[q]at e;cases e
  |some o=>
   rw[q]at e;induction o using O.casesOn with
   |dict vs=>exact ⟨a,vs,rfl,q⟩
   |_=>cases e
 |_=>cases e
theorem SR.turn{c m X}{σ:St}{ps:PZ}{h:Heap}(S:SR W c m X σ ps h){a A1}{its Qy:aO}{n1}(hp:ps.p[a]? = some [(A1,listOf its.toArray n1)])(f:Array Value->Array Value)(hf:f its.toArray=Qy.toArray){vs:List V}
 (i:aL (VR (be ps)) vs Qy) (hl:vs.length<=a8+a8):∃Qo,be Qo=be ps/\SR W c m X (σ.set a (.list vs)) Qo (h.update A1 (Obj.mapSeq f)):=by
 have g1:=S.at hp (.head _);have q:=PySem.IsL.update (g1:PySem.IsL h _ its.toArray n1) f;rw[hf]at q;obtain ⟨S',he⟩:=S.put (Qb:=[]) (post:=[]) (ob:=.list vs) hp (Heap.SameBut.update ..) q (.list i hl);exact ⟨_,he,S'⟩
theorem uW{hs}:∀{vs:List V}{its:aO}{ss:bg},aL (VR hs) vs its->nL vs=some ss->StrsAre its (ss.map aT)
 |[],_,ss,i,e=>by refine aL.nilE i ?_;obtain rfl:=aK e;exact .nil
 |v::vs,_,ss,i,e=>by
  refine aL.consE i λJ J h t=>?_;induction v using V.casesOn with
  |str s=>refine VR.strE h λJ J=>a7 λkC=>?_;obtain ⟨ss',h',rfl⟩:=Option.map_eq_some_iff.mp (show (nL vs).map (s::·)=_ from e);exact kC (.cons _ _ (uW t h'))
  |_=>exact bl e
theorem pT(QV:aC):∀ss:bg,Str.join (aT QV) (ss.map aT)=aT (ml QV ss)
 |[]=>rfl
 |[x]=>rfl
 |x::y::r=>by have ih:=pT QV (y::r);show aT x++aT QV++Str.join (aT QV) ((y::r).map aT)=_;rw[ih,kP,kP];rfl
theorem EE(QV:aC)(ss:bg):Txt.join (aT QV) (ss.map aT)=aT (ml QV ss):=by show Builtin.Str.glued _ _=_;exact rW (StrLaws.glued_eq_join ..) (rW (pT ..) rfl)
theorem AN(ss:bg):((ss.map aT).map (·.length))=ss.map (·.length):=by refine rW (Up ..) ?_;apply Un;exact λa J=>bQ a
theorem nJ{j:Int}(n:Nat)(h:0<=j):(max 0 (if j<0 then j+n else j)).toNat=j.toNat:=by exact rW (T8 (Int.not_lt.mpr h) ..) (rW (Int.max_eq_right h ..) rfl)
theorem oq(x y:Str)(j:Int)(t u v w:Tok):Gives (Builtin.«str.count» ⟨[.str x t,.str y u,.int 0 v,.int j w],[]⟩) (.int (Builtin.Str.occurrences x y 0 (min ((max 0 (if j<0 then j+x.length else j)).toNat) x.length) (x.length+1)).length):=by show Gives (retInt (Builtin.Str.occurrences x y 0 (min ((max 0 (if j<0 then j+x.length else j)).toNat) x.length) (x.length+1)).length) _;exact .of_eq rfl
theorem nN(x y:Str)(j:Int)(t u v w:Tok):Gives (Builtin.«str.rfind» ⟨[.str x t,.str y u,.int 0 v,.int j w],[]⟩) (.int (match Builtin.Str.lastOccurrence x y 0 (min ((max 0 (if j<0 then j+x.length else j)).toNat) x.length) with|some i=>(i:Int)|none=>-1)):=by
 show Gives (match Builtin.Str.lastOccurrence x y 0 (min ((max 0 (if j<0 then j+x.length else j)).toNat) x.length) with|some i=>retInt i|none=>(do rule "str.rfind.not-found";retInt (-1))) _;generalize Builtin.Str.lastOccurrence x y 0 (min ((max 0 (if j<0 then j+x.length else j)).toNat) x.length)=z1;induction z1 with
 |none=>exact .rule (.of_eq rfl)
 |some i=>exact .of_eq rfl
theorem vg{hs}:∀{l:List (Str×Tok)}{xs:bq},l.map (·.1)=xs->(xs.all λx=>decide (x.length<=a8))=true->aL (VR hs) (xs.map λx=>.str (kZ x)) (strValues l)
 |[],_,e,_=>by subst e;exact .nil
 |(x,t)::r,_,e,hb=>by subst e;simp only[Ul,List.all_cons,Us]at hb;refine .cons ?_ (vg rfl hb.2);have:(Value.str x t)=.str (aT (kZ x)) t:=rW (gj ..) rfl;show VR hs _ (.str x t);exact rW this (.str _ _ (by have:=hb.1;simp only[decide_eq_true_eq]at this;exact rW (bQ ..).symm (rW (gj ..) this)))
end
section
variable {W:Wd}{cs:Scope}{cp:Option Cp}{z:Am}{p:Pt z}{A:Around}
def ku(id:String)(gm:Cx->V->List V->St->Option (V×St)):Prop:=∀{z:Am},Gs z->∀(p:Pt z) {o:V}{x:Value}{vs:List V}{ys:aO},VR p.hs o x->aL (VR p.hs) vs ys->Sm z.c.A p VR (call (.builtin id) (x::ys)) (gm z.cx o vs p.σ)
def zu(id:String)(nm:Str)(P:V->St->Bool):Prop:=∀{z:Am} (p:Pt z) {o:V}{x:Value}{pl:Sem Bool}{A:Around}{Q:Value×aO->Shared->Prop}{E:bw},VR p.hs o x->P o p.σ=true->Q (.builtin id,[x]) p.sh->wpAny z.M A (getMethod x nm pl) Q E p.sh
theorem JQ{id:String}{op:Fu}{o:PE}{es:List PE}{x:Expr}{xs:bJ}{nm:Str}{Qh PV:Pos}(GM:zu id nm λo σ=>LX op σ o)(VM:ku id λcx=>sE cx op)
 (ho:bK W cs cp o x) (QL:gb W cs cp es xs) (hp:∀env,(backTo PV (starEach xs env)).any (·.1)=false)
 (he:∀env,∃pl,eval (.Call (.Attribute x nm Qh) xs [] PV) env=(do
  let ov <-eval x env
  standAt Qh.atName
  let (f,first) <-holding [ov] (getMethod ov nm pl)
  callWith PV f first (backTo PV (starEach xs env)) [])):bK W cs cp (.bm op o es) (.Call (.Attribute x nm Qh) xs [] PV):=
 ⟨λ{z} a p env L N b σ' ee Q E H=>let ⟨pl,he⟩:=he env;cF (jI.symm.trans ee) λov σ1 e1 e=>E4 e λe2 e=>MethodCall_ (pl:=pl) (ho.h a p N ov σ1 e1 λS le r ht=>have l:=p.leTo S ht le;GM (p.to S ht) r e2
  (ik QL a (hp env) (N.up l) (λvs σ=>sE z.cx op ov vs σ) (λJ J J J J=>hO (f:=.builtin id) (λa q=>nomatch q)) (λq vs ys le r2=>VM a.g q (r.mono le.le) r2) b σ' e (H.up l))) he⟩
theorem iq{id nm}(slot:Slot "str" nm id)(ty:typeOf (.builtin id)=pure (.type "method_descriptor")):zu id nm λo J=>uh o:=λp o x pl A Q E ra hP hq=>by
 induction ra with
 |str s t h=>exact GM.of _ (typeIs_str _ _ _) slot ty GM.noRef hq
 |_=>cases hP
theorem rH{id nm}(slot:Slot "list" nm id)(ty:typeOf (.builtin id)=pure (.type "method_descriptor")):zu id nm λo σ=>d6 σ o:=λp o x pl A Q E ra hP hq=>by
 refine a7 λkC=>?_;obtain ⟨a,vs,rfl,ho⟩:=wI hP;obtain ⟨PW,hp,rfl,hr⟩:=p.S.own ra ho;clear ra;cases hr with
 |list i1 hn=>have g1:=p.S.at hp (.head _);exact kC (getMethod_builtin (s:=p.sh) ⟨_,g1,rfl⟩ PySem.F.plainAttrs_list slot ty (λa e=>by cases e;exact ⟨_,g1,rfl⟩) hq)
theorem Sm.cons{α β:Type}{R}{a:aO->Sem α}{vs ys}{f:V->List V->Option (β×St)}(r:aL (VR p.hs) vs ys)(k:∀v y r Re,VR p.hs v y->aL (VR p.hs) r Re->Sm A p R (a (y::Re)) (f v r)):Sm A p R (a ys) (km vs f):=by
 induction r using aL.casesOn with
 |nil=>exact .no
 |cons h t=>exact k _ _ _ _ h t
theorem Sm.nil{α β:Type}{R:HS->β->α->Prop}{a:aO->Sem α}{vs:List V}{ys:aO}{o:Option (β×St)}(r:aL (VR p.hs) vs ys)(k:Sm A p R (a []) o):Sm A p R (a ys) (DR vs o):=by
 induction r using aL.casesOn with
 |nil=>exact k
 |cons h t=>exact .no
theorem Sm.vs3{α:Type}{R}{a:aO->Sem α}{vs ys}{f:aC->V->V->Option (V×St)}(r:aL (VR p.hs) vs ys)(k:∀s t l u y w,VR p.hs l y->VR p.hs u w->Sm A p R (a [.str (aT s) t,y,w]) (f s l u)):Sm A p R (a ys) (Internal.vs3 vs f):=
 .cons r λv y J Re r1 r=>.str (a:=λy=>a (y::Re)) r1 λs t J=>.cons (a:=λys=>a (_::ys)) r λl y J Re r2 r=>.v1 (a:=λys=>a (_::y::ys)) r λu w r3=>k s t l u y w r2 r3
theorem wJ:ku "list.append" λcx=>sE cx .append:=λg p o x vs ys ra rs=>.v1 (a:=λys=>call (.builtin "list.append") (x::ys)) rs λv0 y0 rv=>.cellL (a:=λx=>call (.builtin "list.append") [x,y0]) ra λa A1 its n1 vs' J J hp g1 i1 hn=>.guard λhl=>.any λH=>by refine append_at (s:=p.sh) g1 (λh' hs RJ=>?_) (fT i1 hn);rw[show its.toArray.push y0=(its++[y0]).toArray from List.push_toArray ..]at RJ;obtain ⟨S',he⟩:=p.S.put (Qb:=[]) (post:=[]) (ob:=.list (vs'++[v0])) hp hs RJ (.list (i1.snoc rv) (rW aP (Nat.add_le_add hl (show 1<=a8 by decide))));exact H S' (he▸.rfl) .none p.ht
theorem yg:ku "list.pop" λcx=>sE cx .popAt:=λg p o x vs ys ra rs=>.nil (a:=λys=>call (.builtin "list.pop") (x::ys)) rs<|.cellL (a:=λx=>call (.builtin "list.pop") [x]) ra λa A1 its n1 vs' J J hp g1 i1 hn=>.bd λk hk=>.mp λv hv=>.any λH=>by
 refine a7 λkC=>?_;obtain ⟨y,hy,ry⟩:=i1.get hv;have hkl:k<its.length:=(bY.mp hy).1;have SB:k=its.toArray.size-1:=by exact rW (UP ..) (rW (i1.len ..).symm (MY hk (λh0 J=>Uj h0 (by decide)) λJ e=>jW e λJ e=>(aK e).symm))
 obtain ⟨Qo,he,S'⟩:=p.S.turn hp (λxs=>xs.eraseIdxIfInBounds k) ((by unfold Array.eraseIdxIfInBounds;refine rW (dif_pos (by simpa using hkl) ..) ?_;apply Array.toList_inj.mp;exact rW (Array.toList_eraseIdx ..) rfl)) (i1.eraseIdx k) (aH (List.length_eraseIdx_le ..) hn);refine kC (call_meets PySem.F.slot_list_pop ⟨_,g1,rfl⟩ PySem.F.entry_list_pop (PySem.F.args_list_pop_1 _) (PySem.MeetsSeq.list_pop_last A1 its.toArray n1 y (rW SB.symm (List.getElem?_toArray.trans hy)) (fT i1 hn)) ⟨g1,?_⟩);exact rW SB.symm (H S' (he▸.rfl) (he▸ry) p.ht)
theorem pS(g:Gs z){v x}(ra:VR p.hs v x){vs:List V}(e:d5 z.cx p.σ v=some vs):
 ∃A its,x=.ref A/\aL (VR p.hs) vs its/\vs.length<=a8+a8/\((∃n,p.h.get? A=some (listOf its.toArray n))\/∃n,p.h.get? A=some { cls:=.type "tuple",data:=.seq its.toArray n }):=by
 refine oP g.G.so p.S (g.K p) ra e λo A' J ro e=>a7 λkC=>?_;induction o using O.casesOn with
 |list=>obtain ⟨its,n,hA,i1,hn⟩:=ro;obtain rfl:=aK e;exact kC ⟨_,its,rfl,i1,hn,.inl ⟨n,hA⟩⟩
 |tuple=>obtain ⟨its,n,hA,i1,hn⟩:=ro;obtain rfl:=aK e;exact kC ⟨_,its,rfl,i1,hn,.inr ⟨n,hA⟩⟩
 |_=>exact kC (bl e)
theorem CU:ku "str.join" λcx=>sE cx .join:=λg p o x vs ys ra rs=>.str (a:=λx=>call (.builtin "str.join") (x::ys)) ra λQV t J=>.v1 (a:=λys=>call (.builtin "str.join") (.str (aT QV) t::ys)) rs λv0 y0 rv=>.bd λvs' e1=>.bd λss e2=>.guard λhb=>.one λ{Q E} k=>by
 refine a7 λkC=>?_;obtain ⟨A1,its,rfl,i1,hn,hg⟩:=pS g rv e1;have hs:=uW i1 e2;have SP:((ss.map aT).map (·.length)).sum+(ss.map aT).length*(aT QV).length<=16777216:=by exact rW (AN ..) (rW bA (rW (bQ ..) (aH hb.1 (by decide))))
 have fin:∀t' k',p.t<=k'->Q (.str (Txt.join (aT QV) (ss.map aT)) t') (p.at k'):=λt' k' hk=>by exact rW (EE ..) (k (.str _ _ hb.2) (aH p.ht hk))
 rcases hg with ⟨n,hg⟩|⟨n,hg⟩
 ·exact kC (U3 (aQ _) (join_list (items:=its.toArray) ⟨_,hg,rfl,_,rfl⟩ hs SP fin))
 ·exact kC (U3 (aQ _) (join_tuple (items:=its.toArray) ⟨_,hg,rfl,_,rfl⟩ hs SP fin))
theorem xf:ku "str.count" λcx=>sE cx .count3:=λg p o x vs ys ra rs=>.vs3 (a:=λys=>call (.builtin "str.count") (x::ys)) rs λq t l u yl yu r2 r3=>.str (a:=λx=>call (.builtin "str.count") [x,_,yl,yu]) ra λs ts J=>.int (a:=λyl=>call (.builtin "str.count") [_,_,yl,yu]) r2 λi ti=>.int (a:=λyu=>call (.builtin "str.count") [_,_,_,yu]) r3 λj tj=>.guard λhb=>.one λ{Q E} k=>by obtain ⟨rfl,hb⟩:=hb;exact call_gives PySem.F.slot_str_count (typeIs_str _ _ _) PySem.F.entry_str_count (PySem.F.args_str_count_4 _ _ _ _) (oq _ _ _ _ _ _ _) (rW (bQ ..) (rW (nJ _ hb.1 ..) (k (.int _ _) (dU 1 p.ht))))
theorem xN:ku "str.rfind" λcx=>sE cx .rfind3:=λg p o x vs ys ra rs=>.vs3 (a:=λys=>call (.builtin "str.rfind") (x::ys)) rs λq t l u yl yu r2 r3=>.str (a:=λx=>call (.builtin "str.rfind") [x,_,yl,yu]) ra λs ts J=>.int (a:=λyl=>call (.builtin "str.rfind") [_,_,yl,yu]) r2 λi ti=>.int (a:=λyu=>call (.builtin "str.rfind") [_,_,_,yu]) r3 λj tj=>.guard λhb=>.one λ{Q E} k=>by obtain ⟨rfl,hb⟩:=hb;exact call_gives PySem.F.slot_str_rfind (typeIs_str _ _ _) PySem.F.entry_str_rfind (PySem.F.args_str_rfind_4 _ _ _ _) (nN _ _ _ _ _ _ _) (rW (bQ ..) (rW (nJ _ hb.1 ..) (k (.int _ _) (dU 1 p.ht))))
theorem y8:ku "str.split" λcx=>sE cx .split:=λg p o x vs ys ra rs=>.cons (a:=λys=>call (.builtin "str.split") (x::ys)) rs λv0 y0 J Re r1 rs=>.str (a:=λy=>call (.builtin "str.split") (x::y::Re)) r1 λq t J=>.nil (a:=λys=>call (.builtin "str.split") (x::_::ys)) rs<|.str (a:=λx=>call (.builtin "str.split") [x,_]) ra λs ts hl=>.guard λhb=>.guard λQ7=>.any λH=>by refine a7 λkC=>?_;obtain ⟨g0,G0,m0,QO,F0⟩:=p.S.F;exact kC (U3 (aQ _) (KSpl.split1 F0 (G0.news p.S.N) (by refine rW (bQ ..) ?_;have:=hb.1;clear this kC H Q7;induction q<;>simp_all) (λD l h' k e1 Qw F' N' lt hk=>H.list (vg e1 hb.2) Q7 ⟨g0,G0,m0,QO,F'⟩ (G0.back N') lt (aH p.ht hk)) (by refine rW (bQ ..) (rW (sizeLine_eq ..) ?_);unfold a8 at hl;exact aF (fC 0x27018510000007b91186a076011 rfl hl))))
theorem CZ{a b sa sb o x ka kb}{pa pb Qh PV:Pos}(hsa:aT a=sa)(hsb:aT b=sb)(ho:bK W cs cp o x)
 (he:∀env,∃pl,eval (.Call (.Attribute x "replace" Qh) [.Constant (.str sa) ka pa,.Constant (.str sb) kb pb] [] PV) env=(do
  let ov <-eval x env
  standAt Qh.atName
  let (f,first) <-holding [ov] (getMethod ov "replace" pl)
  callWith PV f first (backTo PV (starEach [.Constant (.str sa) ka pa,.Constant (.str sb) kb pb] env)) [])):bK W cs cp (.ak o a b) (.Call (.Attribute x "replace" Qh) [.Constant (.str sa) ka pa,.Constant (.str sb) kb pb] [] PV):=by
 subst hsa hsb;refine ⟨λG p env L N v σ' ee Q E H=>cF (nD.symm.trans ee) λov σ1 e1 e2=>?_⟩;obtain ⟨pl,he⟩:=he env;refine MethodCall_ (pl:=pl) (ho.h G p N ov σ1 e1 λ{_ _ t1 _} S1 p1 r1 Qd=>strE r1 e2 λs t hl e=>jW e λhb e=>(GM.of _ (typeIs_str _ _ _) PySem.F.slot_str_replace PySem.F.type_str_replace GM.noRef (callWith_of (P:=λJ=>True) rfl (λh' J=>hO (λa q=>nomatch q)) (dQ rfl (wpAny_items_cons (wpAny_Constant_str (wpAny_items_cons (wpAny_Constant_str (wpAny_items_nil ⟨trivial,?_⟩))))))))) he;have ne:(aT a==aT b)=false:=beq_eq_false_iff_ne.mpr λq=>hb.2.1 (kW q);refine U3 (n:=t1) (show t1<=t1+1+1 from bC t1 2) (PySem.SC.replaceW (x:=aT s) (y:=aT a) (z:=aT b) (u:=t1) (v:=t1+1) (Nat.ne_of_gt Qd) (Nat.succ_ne_zero t1) (Nat.ne_of_lt (Ur t1)) ne (by refine rW (bQ ..) ?_;unfold a8 at hl;exact aF (fC 0x11000007b81186a076011 rfl hl)) (rW (bQ ..) hb.2.2) λt' k hk=>?_);have:(Value.str (Txt.replace (aT s) (aT a) (aT b)) t')=.str (aT (kZ (Txt.replace (aT s) (aT a) (aT b)))) t':=rW (gj ..) rfl;exact rW this ((H.eq e) S1 p1 (.str _ _ hb.1) (aH Qd hk))
end
end
section
open Sem (wp)
theorem mM{P7 w}{A:Around}{E}{h:Heap}{g d tk os a xs k}{Q:Option Value->Shared->Prop}
 (hx:h.get? a=some (listOf xs k)) (hA:A.handled=none) (hq:∀h' Qr,(∀b o,h.get? b=some o->h'.get? b=some o)->Q none ⟨h',g,d,Qr,os⟩):wpAny (model P7 w) A (getAttr? (.ref a) "keys") Q E ⟨h,g,d,tk,os⟩:=by
 have hT:∀Qr,(⟨h,g,d,Qr,os⟩:Shared).TypeIs (.ref a) "list":=λJ=>⟨_,hx,rfl⟩
 have f1:=sub_AttributeError;have f3:=PySem.F.slot_list_getattribute.lookup;have f4:=PySem.F.slot_list_getattribute.bind (.ref a);have f5:=am_list_getattr_none;unfold getAttr? getAttrBy? getAttrBy
 repeat (any_goals (first|assumption|exact hT _|((with_reducible show wpAny _ _ (call (Value.builtin "list.__getattribute__") _ _) _ _ _);refine call_meets PySem.F.slot_list_getattribute (hT _) am_entry_list_getattribute (PySem.F.args_list_getattribute_2 _ _) (meets_getattribute_miss_list a xs k #[] "keys" _ (by refine rW (typeLookup_type ..) (rW (builtinLookup_eq_fast ..) ?_);kernel_rfl) (by decide +kernel) (by decide +kernel)) ⟨hx,hA,λh' Qr e Q6=>?_⟩)|wp_step))
 refine a7 λkC=>?_;obtain ⟨t',u',he⟩:=Q6.there;refine kC ?_;show wpAny _ _ (getattributeRaised _ _ _ _ _ _ _) _ _ _;unfold getattributeRaised
 repeat (any_goals (first|assumption|wp_step))
 all_goals exact hq _ _ Q6.keeps
end
section
open Sem (wp)
theorem hG:entryFor table "dict.update.loop"=some Builtin.«dict.update.loop»:=entryFor_of_tree (by kernel_rfl)
theorem dK:plainId "dict.update.loop"=true:=by decide +kernel
noncomputable def fE(h:Heap)(x:Value)(kv:Str×Value):Prop:=∃a t n,x=.ref a/\h.get? a=some (listOf #[.str kv.1 t,kv.2] n)
noncomputable def um(d I:Addr)(h:Heap)(x:Value)(kv:Str×Value):Prop:=fE h x kv/\∀a,x=.ref a->a≠d/\a≠I
theorem Bi{P7 w}{A:Around}{R:Result->Shared->Prop}{g dr os d I l res}(hh:A.handled=none)(dI:d≠I)(dl:d≠l)(Il:I≠l)(items:aO):
 ∀(todo:bD) (i:Nat) (P0:bD) (h:Heap) (tk:Nat) (u:Tok),h.IsListIter I l i->h.IsList l items.toArray->aL (um d I h) (items.drop i) todo->h.DictOf (strKind P7 w) d P0->P0.length+todo.length<=sizeLine ->
 (∀h' Qr,h'.DictOf (strKind P7 w) d (merged P0 todo)->(∀b o,b≠d->b≠I->h.get? b=some o->h'.get? b=some o)->R (.ok (.ret res)) ⟨h',g,dr,Qr,os⟩) ->
 codeAny (model P7 w) A (.builtin "dict.update.loop" ⟨[.ref d,.ref I,.int i u,res],[]⟩) R ⟨h,g,dr,tk,os⟩:=by
 intro todo;induction todo with
 |nil=>
  refine λi P0 h tk u hit hl hp hd hz hR=>codeAny_builtin hG (rW (Around.under_plainId dK _ ..) ?_);show wpAny _ A.in1 (pyNext (.ref I)>>=_) _ _ _;have hn:items.toArray[i]? = none:=by
   generalize e:items.drop i=z2;induction z2 with
   |nil=>simpa using List.drop_eq_nil_iff.mp e
   |cons a r=>rw[e]at hp;cases hp
  refine T5 (wpAny_pyNext_list_end hh hit hl hn λh' hs=>?_);show wpAny _ _ (Builtin.Dict.addKeywords d []>>=_) _ _ _;exact T5 (Ub (Ub (hR h' tk (hd.extBut hs dI) λb o b1 b2 e=>hs b o b2 e)))
 |cons kv todo ih=>
  refine λi P0 h tk u hit hl hp hd hz hR=>codeAny_builtin hG (rW (Around.under_plainId dK _ ..) ?_);show wpAny _ A.in1 (pyNext (.ref I)>>=_) _ _ _;generalize e:items.drop i=z1;induction z1 with
  |nil=>rw[e]at hp;cases hp
  |cons x r=>
   refine a7 λkC=>?_;rw[e]at hp;obtain ⟨hx,ht⟩:=hp.uncons;obtain ⟨⟨a,t,n,rfl,ha⟩,RW⟩:=hx;obtain ⟨ad,aI⟩:=RW a rfl;have hxi:items.toArray[i]? = some (.ref a):=by have:(items.drop i)[0]? = some (.ref a):=rW e rfl;simpa using this
   refine kC (T5 (wpAny_pyNext_list_item hit hl hxi λh1 hit1 hs1=>?_));have k1:∀b o,b≠I->h.get? b=some o->h1.get? b=some o:=λb o q e=>(hs1.2 b q).trans e;have SV:=k1 a _ aI ha;show wpAny _ A.in1 (holding [.ref a] _>>=_) _ _ _;refine T5 (Ud (T5 (wpAny_tryCatch ?_)));unfold Builtin.Dict.pairItems;refine T5 (wpAny_typeOf (T:="list") ⟨_,SV,rfl⟩ (rW (T6 (by decide) ..) (T5 (wpAny_seqItems SV rfl (Ub ?_)))));show wpAny _ A.in1 (holding [.str kv.1 t,kv.2] (dictSet d (.str kv.1 t) kv.2)) _ _ _;refine Ud (wpAny_dictSet_pairs (k:=kv.1) (strKind_is _ _ _ _) (hd.sameBut hs1 dI) (λh2 hd2 Tf=>?_) (by simp only[Ug]at hz;lia));have k2:∀b o,b≠d->b≠I->h.get? b=some o->h2.get? b=some o:=λb o q1 q2 e=>(Tf.2 b q1).trans (k1 b o q2 e);refine Ub ⟨plainId_quiet dK _,?_⟩;have e2:items.drop (i+1)=r:=by exact rW (UR ..).symm (rW e rfl)
   have:=ih (i+1) (stored P0 kv.1 kv.2) h2 (tk+1) 0 ?_ ?_ ?_ hd2 ?_ ?_
   ·exact this
   ·refine a7 λkC=>?_;obtain ⟨o,ho,hc⟩:=hit1;exact kC ⟨o,(Tf.2 I dI.symm).trans ho,hc⟩
   ·refine a7 λkC=>?_;obtain ⟨o,ho,hc⟩:=hl;exact kC ⟨o,k2 l o dl.symm Il.symm ho,hc⟩
   ·refine rW e2 ?_;exact ht.mono λy kv' z=>by refine a7 λkC=>?_;obtain ⟨⟨a',t',n',rfl,ha'⟩,SA⟩:=z;obtain ⟨q1,q2⟩:=SA a' rfl;exact kC ⟨⟨a',t',n',rfl,k2 a' _ q1 q2 ha'⟩,SA⟩
   ·have:=stored_length_le P0 kv.1 kv.2;simp only[Ug]at hz;lia
   ·exact λh' Qr RB hk'=>hR h' Qr RB λb o q1 q2 e=>hk' b o q1 q2 (k2 b o q1 q2 e)
end
section
open Sem (wp)
theorem pR{P7 w}{A:Around}{R:Result->Shared->Prop}{h:Heap}{g dr os tk n d l id}(hh:A.handled=none)(items:aO)(todo P0:bD)
 (hl:h.get? l=some (listOf items.toArray n)) (hp:aL (fE h) items todo) (hd:h.DictOf (strKind P7 w) d P0) (hz:P0.length+todo.length<=sizeLine) (hld:d≠l) (RW:∀x∈items,x≠.ref d)
 (hR:∀h' Qr,h'.DictOf (strKind P7 w) d (merged P0 todo)->(∀b o,b≠d->h.get? b=some o->h'.get? b=some o)->R (.ok (.ret .none)) ⟨h',g,dr,Qr,os⟩):
 wpAny (model P7 w) A.in1 (Builtin.Dict.updateFrom id d (.ref l) [] .none)
  (λfin s'=>match fin with|.done f=>R (.ok f) s'|.again c'=>c'.quiet=true/\codeAny (model P7 w) A c' R s') (λe s'=>R (.error e) s') ⟨h,g,dr,tk,os⟩:=by
 unfold Builtin.Dict.updateFrom;refine T5 (wpAny_typeOf (T:="list") ⟨_,hl,rfl⟩ (rW (T6 (by decide) ..) (T5 (mM hl hh λh1 dU k1=>(rW (T6 (show (none:Option Value).isNone=true from rfl) ..) (T5 (wpAny_rule ?_)))))));have RL:=k1 _ _ hl;refine T5 (wpAny_pyIter_list (items:=items.toArray) ⟨_,RL,rfl,_,rfl⟩ ?_);have i3:h1.DictOf (strKind P7 w) d P0:=by refine a7 λkC=>?_;obtain ⟨o,ho,q⟩:=Heap.dictOf_iff.mp hd;exact kC (Heap.dictOf_iff.mpr ⟨o,k1 _ _ ho,q⟩)
 have dlt:d<h1.objs.size:=by refine a7 λkC=>?_;obtain ⟨o,ho,_⟩:=Heap.dictOf_iff.mp i3;exact kC (Heap.lt_size ho)
 refine Ub ⟨plainId_quiet dK _,(Bi hh (Nat.ne_of_lt dlt) hld (Nat.ne_of_gt (Heap.lt_size RL)) items todo 0 P0 _ _ _ ⟨_,Heap.get?_push_size _ rfl,rfl,rfl⟩ ⟨_,UF _ RL,rfl,_,rfl⟩ ?_ (i3.push _) hz λh' Qr RB hk=>?_)⟩
 ·refine rW (List.drop_zero ..) ?_;have P':∀{its:aO}{td:bD},aL (fE h) its td->(∀x∈its,x≠.ref d)->aL (um d h1.objs.size (h1.push { cls:=.type "list_iterator",data:=.fields #[.ref l,.int 0 0] })) its td:=by
   intro its td q;induction q with
   |nil=>exact λJ=>.nil
   |@cons x kv _ _ h0 _ ih=>refine λho=>.cons (a7 λkC=>?_) (ih λx hx=>ho x (.tail _ hx));obtain ⟨a,t,m,rfl,ha⟩:=h0;refine kC ?_;have SV:=k1 _ _ ha;refine ⟨⟨a,t,m,rfl,UF _ SV⟩,λa' e=>?_⟩;cases e;exact ⟨λq=>ho (.ref a) (.head _) (rW q rfl),Nat.ne_of_lt (Heap.lt_size SV)⟩
  exact P' hp RW
 ·exact hR h' Qr RB λb o b1 e=>hk b o b1 (Nat.ne_of_lt (Heap.lt_size (k1 _ _ e))) (UF _ (k1 _ _ e))
theorem pW{P7 w}{A:Around}{Q E:bw}{h:Heap}{g dr os tk n d l}(hh:A.handled=none)(items:aO)(todo P0:bD)
 (hl:h.get? l=some (listOf items.toArray n)) (hp:aL (fE h) items todo) (hd:h.DictOf (strKind P7 w) d P0) (hz:P0.length+todo.length<=sizeLine) (hld:d≠l) (RW:∀x∈items,x≠.ref d)
 (hR:∀h' Qr,h'.DictOf (strKind P7 w) d (merged P0 todo)->(∀b o,b≠d->h.get? b=some o->h'.get? b=some o)->Q .none ⟨h',g,dr,Qr,os⟩):
 wpAny (model P7 w) A (call (.builtin "dict.update") [.ref d,.ref l]) Q E ⟨h,g,dr,tk,os⟩:=by
 have hT:(⟨h,g,dr,tk,os⟩:Shared).TypeIs (.ref d) "dict":=hd.mapOf.typeIs;refine wpAny_call (codeAny_call_builtin PySem.F.slot_dict_update.plain PySem.F.entry_dict_update (PySem.F.slot_dict_update.check _ _ _ _ _ _ _ _ hT (PySem.F.args_dict_update_2 _ _) ?_));unfold Builtin.«dict.update»;refine T5 ?_;unfold Builtin.Dict.selfAndRest;refine T5 (wpAny_notOrdered_dict hT ?_);show wpAny _ _ (pure (d,[Value.ref l])) _ _ _;refine Ub ?_;show wpAny _ _ (Builtin.Dict.updateFrom "dict.update" d (.ref l) [] .none) _ _ _;exact pR (R:=λr s'=>match r with|.ok (.ret v)=>Q v s'|.ok _=>False|.error e=>E e s') hh items todo P0 hl hp hd hz hld RW hR
theorem qB{P7 w}{A:Around}{Q E:bw}{h:Heap}{g dr os tk n l}(hh:A.handled=none)(items:aO)(todo:bD)
 (hl:h.get? l=some (listOf items.toArray n)) (hp:aL (fE h) items todo) (hz:todo.length<=sizeLine)
 (hR:∀h' Qr,h'.DictOf (strKind P7 w) h.objs.size (merged [] todo)->(∀b o,h.get? b=some o->h'.get? b=some o)->Q (.ref h.objs.size) ⟨h',g,dr,Qr,os⟩):
 wpAny (model P7 w) A (call (.type "dict") [.ref l]) Q E ⟨h,g,dr,tk,os⟩:=by
 refine callType_codes (Q₁:=λQ5 s₁=>Q5=.ref h.objs.size/\s₁=⟨h.push { cls:=.type "dict",data:=.dict #[] },g,dr,tk,os⟩) PySem.F.kt_called_dict (PySem.F.kt_typeCall_dict_1 _) PySem.F.entry_dict_init (kt_code_dict_new _ ⟨rfl,rfl⟩) ?_;rintro Q5 s₁ ⟨rfl,rfl⟩;have Sk:(h.push { cls:=.type "dict",data:=.dict #[] }).DictOf (strKind P7 w) h.objs.size []:=Heap.DictOf.new h;have hT:(⟨h.push { cls:=.type "dict",data:=.dict #[] },g,dr,tk,os⟩:Shared).TypeIs (.ref h.objs.size) "dict":=Sk.mapOf.typeIs;refine ⟨hT,PySem.F.args_dict_init_2 _ _,?_⟩;unfold Builtin.«dict.__init__»;refine T5 ?_;unfold Builtin.Dict.selfAndRest;refine T5 (wpAny_notOrdered_dict hT ?_);show wpAny _ _ (pure (h.objs.size,[Value.ref l])) _ _ _;refine Ub ?_;show wpAny _ _ (Builtin.Dict.updateFrom "dict.__init__" h.objs.size (.ref l) [] .none) _ _ _;refine pR hh items todo [] (UF _ hl) (hp.mono λx kv z=>?_) Sk (by simpa using hz) (Nat.ne_of_gt (Heap.lt_size hl)) (λx hx q=>?_) λh' Qr RB hk=>?_
 ·refine a7 λkC=>?_;obtain ⟨a,t,m,rfl,ha⟩:=z;exact kC ⟨a,t,m,rfl,UF _ ha⟩
 ·subst q;have P':∀{its:aO}{td:bD},aL (fE h) its td->.ref h.objs.size∈its->False:=by
   intro its td q;induction q with
   |nil=>intro q;cases q
   |cons h0 _ ih=>
    refine λq=>a7 λkC=>?_;obtain ⟨a,t,m,rfl,ha⟩:=h0;refine kC ?_;cases q with
    |head=>exact Nat.lt_irrefl _ (Heap.lt_size ha)
    |tail _ q=>exact ih q
  exact P' hp hx
 ·exact ⟨rfl,hR h' Qr RB λb o e=>hk b o (Nat.ne_of_lt (Heap.lt_size e)) (UF _ e)⟩
end
section
section
variable {W:Wd}
theorem CF{c m X σ ps h}(S:SR W c m X σ ps h){v x}(r:VR (be ps) v x){p}(e:(mB σ v).bind q9=some p):∃kv,KV (be ps) p kv/\fE h x kv:=by
 refine EY (f:=λvs=>_) S r e λA its n vs hA i1 e=>?_;induction i1 using aL.casesOn with
 |nil=>exact bl e
 |cons j1 j2=>
  revert hA;refine strE j1 e λk t J e hA=>?_;induction j2 using aL.casesOn with
  |nil=>exact bl e
  |cons j2 j3=>
   induction j3 using aL.casesOn with
   |nil=>obtain rfl:=aK e;exact ⟨(aT k,_),⟨rfl,j2⟩,⟨_,t,n,rfl,hA⟩⟩
   |cons _ _=>exact bl e
theorem mq{c m X σ ps h}(S:SR W c m X σ ps h):∀{vs:List V}{its:aO}{kvs:List (aC×V)},aL (VR (be ps)) vs its->dJ σ vs=some kvs ->
 ∃todo,aL (KV (be ps)) kvs todo/\aL (fE h) its todo
 |[],_,kvs,i,e=>by refine aL.nilE i ?_;obtain rfl:=aK e;exact ⟨[],.nil,.nil⟩
 |v::vs,_,kvs,i,e=>by refine aL.consE i λJ J h0 t=>fI e λp e1 e=>xV e λkvs' e2 e=>a7 λkC=>?_;obtain rfl:=aK e;obtain ⟨kv,k1,k2⟩:=CF S h0 e1;obtain ⟨todo,t1,t2⟩:=mq S t e2;exact kC ⟨kv::todo,.cons k1 t1,.cons k2 t2⟩
theorem i6{c m X σ ps}{h:Heap}(S:SR W c m X σ ps h){v x}(ra:VR (be ps) v x){kvs}(e:ly σ v=some kvs):
 ∃l its n todo,x=.ref l/\h.get? l=some (listOf (List.toArray its) n)/\aL (KV (be ps)) kvs todo/\aL (fE h) its todo:=by
 refine EY S ra e λA its n vs hA i1 e=>a7 λkC=>?_;obtain ⟨todo,t1,t2⟩:=mq S i1 e;exact kC ⟨A,its,n,todo,rfl,hA,t1,t2⟩
theorem DL{n}(h:n<=sY):n<=sizeLine/\n<=a8:=⟨dg (aH h (by decide)),aH h (by decide)⟩
theorem DB{h:Heap}{A1}(noSeq:∀(b:Addr) (its:Array Value) (n:Nat),h.get? b=some (listOf its n)->b≠A1){its td}(q:aL (fE h) its td):.ref A1∈its->False:=by
 induction q with
 |nil=>intro q;cases q
 |cons h0 _ ih=>
  refine λq=>a7 λkC=>?_;obtain ⟨a',t,m',rfl,ha⟩:=h0;cases q with
  |head=>exact kC (noSeq _ _ _ ha rfl)
  |tail _ q=>exact kC (ih q)
end
section
variable {z:Am}{p:Pt z}
theorem wB:oG (.type "dict") λJ=>uV:=λg p v y ra=>.bd λkvs e1=>.guard λhb=>.any λH=>by refine a7 λkC=>?_;obtain ⟨l,its,n,todo,rfl,hl,t1,t2⟩:=i6 p.S ra e1;refine kC (U3 (aQ _) (qB g.ok.hh its todo hl t2 (t1.len▸(DL hb).1) λh' Qr hd hk TO=>(a7 λkC=>?_)));obtain ⟨o',RJ,RB⟩:=Heap.dictOf_iff.mp hd;obtain ⟨m1,m2,m3⟩:=iI t1 (aL.nil (R:=KV p.hs)) .nil;exact kC (H (p.S.grow1 (o:=.dict (bj kvs [])) hk RJ (.dict RB (m1.mono λJ J q=>⟨q.1,q.2.mono .add⟩) (aH m3 (aH (aU (UU _)) (DL hb).2)) (not_modules g p))) et VR.fresh (aH p.ht TO))
theorem wO:ku "dict.update" λcx=>sE cx .update:=λg p o x vs ys ra rs=>.v1 (a:=λys=>call (.builtin "dict.update") (x::ys)) rs λv0 y0 rv=>.bd λkvs e1=>.cellD (a:=λx=>call (.builtin "dict.update") [x,y0]) ra λa A1 RQ ks dk J J hp g1 d1 i1 b1 y1=>.guard λhb=>.any λH=>by
 refine a7 λkC=>?_;obtain ⟨l,its,n,todo,rfl,hl,t1,t2⟩:=i6 p.S rv e1;obtain ⟨es,ep,ex,hdat,_,_,hnd⟩:=id d1;have noSeq:∀(b:Addr) (its:Array Value) (n:Nat),p.h.get? b=some (listOf its n)->b≠A1:=λb its n hb q=>by have:=Qg Obj.data (aK ((q▸hb).symm.trans g1));rw[hdat]at this;cases this
 refine kC (U3 (aQ _) (pW g.ok.hh its todo ks hl t2 (Heap.dictOf_iff.mpr ⟨_,g1,d1⟩) (rW (t1.len ..).symm (rW (i1.len ..).symm ((DL hb).1))) (noSeq _ _ _ hl).symm (λx hx q=>DB noSeq t2 (q▸hx)) λh' Qr hd hk TO=>?_));refine a7 λkC=>?_;obtain ⟨o',RJ,RB⟩:=Heap.dictOf_iff.mp hd;obtain ⟨m1,m2,m3⟩:=iI t1 i1 hnd;obtain ⟨S',he⟩:=p.S.put2 (Qb:=[]) (post:=[]) (ob:=.dict (bj kvs dk)) hp hk RJ (.dict RB m1 (aH m3 (DL hb).2) y1);exact kC (H S' (he▸.rfl) .none (aH p.ht TO))
theorem qj{id nm}(slot:Slot "dict" nm id)(ty:typeOf (.builtin id)=pure (.type "method_descriptor")):zu id nm λo σ=>eF σ o:=λp o x pl A Q E ra hP hq=>by
 refine a7 λkC=>?_;obtain ⟨a,vs,rfl,ho⟩:=wG hP;obtain ⟨PW,hp,rfl,hr⟩:=p.S.own ra ho;clear ra;cases hr with
 |dict d1 i1 b1 y1=>have g1:=p.S.at hp (.head _);have D:=Heap.dictOf_iff.mpr ⟨_,g1,d1⟩;exact kC (getMethod_builtin (s:=p.sh) (D.mapOf.typeIs (s:=p.sh)) PySem.F.plainAttrs_dict slot ty (D.mapOf.noDict) hq)
end
end
section
open PySem.NumText
section
theorem B5:ku "str.index" λcx=>sE cx .index:=λg p o x vs ys ra rs=>.v1 (a:=λys=>call (.builtin "str.index") (x::ys)) rs λv0 y0 rv=>.str (a:=λx=>call (.builtin "str.index") [x,y0]) ra λs t J=>.str (a:=λy=>call (.builtin "str.index") [_,y]) rv λq u J=>by
 generalize ho:Builtin.Str.occurrences (aT s) (aT q) 0 (aT s).length 1=z5;induction z5 with
 |nil=>exact .no
 |cons i PQ=>exact .one λk=>call_gives PySem.F.slot_str_index (typeIs_str _ _ _) PySem.F.entry_str_index (PySem.F.args_str_index_2 _ _) (gives_str_index _ _ _ _ _ _ ho) (k (.int _ _) (dU 1 p.ht))
theorem DM:ku "dict.get" λcx=>sE cx .get:=λ{z} g p o x vs ys ra rs=>.cons (a:=λys=>call (.builtin "dict.get") (x::ys)) rs λv0 y0 J Re rv rs=>.v1 (a:=λys=>call (.builtin "dict.get") (x::y0::ys)) rs λv1 y1 rd=>.cellD (a:=λx=>call (.builtin "dict.get") [x,y0,y1]) ra λa A1 RQ ks dk J J hp g1 d1 i1 b1 ys1=>.str (a:=λy=>call (.builtin "dict.get") [_,y,y1]) rv λk t J=>.one λH=>by
 have D:p.h.DictOf (strKind z.W.prog z.W.w) A1 ks:=Heap.dictOf_iff.mpr ⟨_,g1,d1⟩;refine call_meetsIn PySem.F.slot_dict_get (D.typeIs (s:=p.sh)) PySem.F.entry_dict_get (PySem.F.args_dict_get_3 _ _ _) (meets_dict_get_default (strKind z.W.prog z.W.w) A1 (k:=aT k) (Ua _) ys1 y1) ⟨_,D.mapOf,?_⟩;have q1:=iH i1 k;cases q:bM k dk with
 |none=>rw[q]at q1 H;exact rW q1 (H rd (dU 1 p.ht))
 |some v=>rw[q]at q1 H;obtain ⟨x,hx,rx⟩:=q1;exact rW hx (H rx (dU 1 p.ht))
end
theorem zO{b c d}{p:Array Nat×Bool}(h:digit? c=some d)(hb:d<b):NumText.step b p c=some (p.1.push d,true):=by
 unfold NumText.step;have hc:(c==95)=false:=by
  cases q:c==95 with
  |false=>rfl
  |true=>rw[eq_of_beq q]at h;exact bl h
 exact rW hc (rW h (T6 hb))
theorem wj{b}:∀{s:aC}{a:Array Nat}{n:Nat}{f:Bool},(s.all λc=>match digit? c with|some d=>Nat.blt d b|none=>false)=true->a.foldl (λP0 d=>P0*b+d) 0=n ->
 ∃ds,s.foldlM (NumText.step b) (a,f)=some (ds,f || !s.isEmpty)/\ds.foldl (λP0 d=>P0*b+d) 0=s.foldl (λn c=>n*b+(digit? c).getD 0) n/\ds.size=a.size+s.length
 |[],a,n,f,_,hn=>⟨a,by refine rW (List.foldlM_nil ..) ?_;induction f<;>rfl,hn,rfl⟩
 |c::s,a,n,f,h,hn=>by
  rw[List.all_cons,Us]at h;generalize hd:digit? c=z4;induction z4 with
  |none=>rw[hd]at h;cases h.1
  |some d=>
   rw[hd]at h;obtain ⟨ds,h1,h2,h3⟩:=wj (a:=a.push d) (n:=n*b+d) (f:=true) h.2 (rW (Array.foldl_push ..) (rW hn rfl));refine ⟨ds,?_,?_,?_⟩
   ·refine rW (List.foldlM_cons ..) (rW (zO hd (Nat.blt_eq.mp h.1) ..) ?_);show s.foldlM (NumText.step b) (a.push d,true)=_;refine rW h1 ?_;induction f<;>rfl
   ·exact rW h2 (rW (List.foldl_cons ..) (rW hd rfl))
   ·exact rW h3 (rW (Array.size_push ..) (rW (Ug ..) (ce (aF (cV 0x1b284b118b51 rfl )) (aF (cV 0xb11841b28b51 rfl )))))
theorem vp{c d}(h:digit? c=some d):blank c=false/\c≠45/\c≠43/\c≠0:=by
 have SD:48<=c:=by
  unfold digit? at h;split at h
  ·rename_i q;simp at q;exact aF (fC 0x3073b110130731 rfl q.1)
  ·split at h
   ·rename_i q;simp at q;exact aF (fC 0x3073b110161731 rfl q.1)
   ·split at h
    ·rename_i q;simp at q;exact aF (fC 0x3073b110141731 rfl q.1)
    ·exact bl h
 refine ⟨?_,by exact λq0=>fC 0x2d730110130731 rfl SD (aU q0 :),by exact λq0=>fC 0x2b730110130731 rfl SD (aU q0 :),by exact λq0=>fC 0x710110130731 rfl SD (aU q0 :)⟩;unfold blank;have h1:(c==32)=false:=beq_eq_false_iff_ne.mpr (λq0=>fC 0x20730110130731 rfl SD (aU q0 :));have h2:decide (c<=13)=false:=Ux (λq0=>fC 0xd720110130731 rfl SD q0);exact rW h1 (rW h2 (rW (Bool.and_false ..) rfl))
open PySem.NumText
theorem Pu{c r}(h:c≠48):prefix? (c::r)=none:=by
 delta prefix? prefix?.match_1
 exact dif_neg h
theorem O5{c r}(h1:c≠45)(h2:c≠43):sign (c::r)=(false,c::r):=by
 delta sign sign.match_1
 exact (dif_neg h1).trans (dif_neg h2)
set_option tactic.hygienic true in
theorem tM{s:aC}{b}(hb:b=10\/b=16)(h:(s.all λc=>match digit? c with|some d=>Nat.blt d b|none=>false)=true):based b s=(b,false,s):=by
 have P':∀p,prefix? s=some p->(b==0||b==p)=false:=λp hp=>by
  cases s with
  |nil=>cases hp
  |cons a s=>
   by_cases SD:a=48
   ·subst SD;cases s with
    |nil=>cases hp
    |cons c r=>
     replace hp:(if (c==120||c==88)=true then some 16 else if (c==111||c==79)=true then some 8 else if (c==98||c==66)=true then some 2 else none)=some p:=hp;have hc:(match digit? c with|some d=>Nat.blt d b|none=>false)=true:=a9.mp h c (.tail _ (.head _));clear h;rcases hb with rfl|rfl
     ·repeat' split at hp
      all_goals first|(cases hp;rfl)|cases hp
     ·by_cases q:(c==120||c==88)=true
      ·rcases Bool.or_eq_true_iff.mp q with q|q<;>(rw[eq_of_beq q]at hc;cases hc)
      ·rw[T8 q]at hp
       repeat' split at hp
       all_goals first|(cases hp;rfl)|cases hp
   ·exact bl ((Pu SD).symm.trans hp)
 have b0:(b==0)=false:=by clear P' h;rcases hb with rfl|rfl<;>rfl
 unfold based;split
 ·rename_i p hp;exact rW (P' p hp ..) rfl
 ·exact rW b0 rfl
theorem rQ{p:Nat->Bool}:∀{l:aC},(∀c∈l.head?,p c=false)->l.dropWhile p=l
 |[],_=>rfl
 |c::l,h=>List.dropWhile_cons_of_neg (by refine rW (h c rfl ..) ?_;decide)
theorem wH{s:aC}{b}(hb:b=10\/b=16)(hn:wP b s=true)(hl:s.length<=640):(int_private% "readNumeral") 0 b s=(int_private% "Numeral.value") ((xq b s:Nat):Int):=by
 obtain ⟨h0,h⟩:=Bool.and_eq_true_iff.mp (show (!s.isEmpty&&s.all λc=>match digit? c with|some d=>Nat.blt d b|none=>false)=true from hn);have nd:∀c∈s,blank c=false/\c≠45/\c≠43/\c≠0:=λc hc=>by
  have:=a9.mp h c hc;generalize hd:digit? c=z3;induction z3 with
  |none=>rw[hd]at this;cases this
  |some d=>exact vp hd
 have d1:s.dropWhile blank=s:=rQ λc hc=>(nd c (List.mem_of_mem_head? hc)).1;have d2:s.reverse.dropWhile blank=s.reverse:=rQ λc hc=>(nd c (List.mem_reverse.mp (List.mem_of_mem_head? hc))).1;have sg:sign s=(false,s):=by
  clear d2 d1 h h0 hl hn;cases s with
  |nil=>rfl
  |cons c r=>exact O5 (nd c (.head _)).2.1 (nd c (.head _)).2.2.1
 obtain ⟨ds,e1,e2,e3⟩:=wj (b:=b) (s:=s) (a:=#[]) (n:=0) (f:=false) h rfl;refine rW (readNumeral_eq ..) (rW d1 (rW sg (rW (tM hb h ..) (rW d2 (rW (List.reverse_reverse ..) ?_)))));have e4:digits? b s=some ds:=by unfold digits?;exact rW e1 (rW aS (rW h0 rfl))
 refine rW e4 ?_;have hs:(b==10&&decide (ds.size>6000))=false:=by exact rW (Ux (by rw[e3];show ¬(0+s.length>6000);exact λq0=>fC 0x28074011718317707b61 rfl q0 hl) ..) (rW (Bool.and_false ..) rfl)
 unfold judge;dsimp only;rw[show (![2,4,8,16,32].contains b&&(0:Nat) != 0&&decide (ds.size>0))=false by simp];refine rW hs ?_;show (int_private% "Numeral.value") ((ds.foldl (λP0 d=>P0*b+d) 0:Nat):Int)=_;exact rW e2 rfl
open PySem.NumText
theorem GL{c d}(h:digit? c=some d):c<128:=by
 unfold digit? at h
 repeat' split at h
 all_goals first
  |cases h;done
  |(rename_i q;simp at q;lia)
theorem uG{p:Nat->Bool}:∀{l:aC},(∀c∈l,p c=true)->l.takeWhile p=l
 |[],_=>rfl
 |c::l,h=>(Ut (h c (.head _))).trans (Qg (c::·) (uG λc hc=>h c (.tail _ hc)))
theorem Ie{M A E}{sh:Shared}{Q:bw}{v}{s:aC}{b}(hb:b=10\/b=16)(hn:wP b s=true)(hl:s.length<=640)
 (h:Q (.int (xq b s:Nat) sh.toks) { sh with toks:=sh.toks+1 }):wpAny M A ((int_private% "intFromText") v s b) Q E sh:=by
 obtain ⟨hp,g,d,tk,os⟩:=sh;have ht:s.takeWhile (· != 0)=s:=by
  refine uG λc hc=>?_;have:=a9.mp (Bool.and_eq_true_iff.mp (show (!s.isEmpty&&s.all λc=>match digit? c with|some d=>Nat.blt d b|none=>false)=true from hn)).2 c hc;generalize hd:digit? c=z2;induction z2 with
  |none=>rw[hd]at this;cases this
  |some d=>exact bne_iff_ne.mpr (vp hd).2.2.2
 have hr:=wH hb hn hl;have hl':(s.takeWhile (· != 0)).length<=640:=rW ht hl;have hr':(int_private% "readNumeral") 0 b (s.takeWhile (· != 0))=(int_private% "Numeral.value") ((xq b s:Nat):Int):=rW ht hr;have ha:((s.takeWhile (· != 0)).length==s.length)=true:=rW ht (Ua _);clear hr hn hb ht
 repeat (any_goals (first
  |assumption
  |(with_reducible refine wpAny_ite_true (Uf hl') ?_)
  |(with_reducible refine wpAny_ite_true (Uf ha) ?_)
  |wp_step))
 all_goals (try rw[hr'])
 all_goals (try dsimp only)
 repeat (any_goals (first
  |assumption
  |(with_reducible refine wpAny_ite_true (Uf hl') ?_)
  |(with_reducible refine wpAny_ite_true (Uf ha) ?_)
  |wp_step))
theorem xb{s:aC}{u t b}(hb:b=10\/b=16)(hn:wP b s=true)(hl:s.length<=640):Gives (Builtin.«int.__new__» ⟨[.type "int",.str (aT s) u,.int (b:Nat) t],[]⟩) (.int (xq b s:Nat)):=
 .of_wp λM A E sh Q h=>by
  obtain ⟨hp,g,d,tk,os⟩:=sh;have f1:=PySem.F.conv_sub_int;have f2:=PySem.F.madeHere_int;have f6:typeOf (.str (aT s) u)=pure (.type "str"):=rfl;have hk:=And.intro hb (And.intro hn hl);have SY:(aT s).cps.all (·<128)=true:=by
   refine rW (Array.all_toList ..).symm (rW (eo ..) (a9.mpr λc hc=>?_));have:=a9.mp (Bool.and_eq_true_iff.mp (show (!s.isEmpty&&s.all λc=>match digit? c with|some d=>Nat.blt d b|none=>false)=true from hn)).2 c hc;generalize hd:digit? c=z1;induction z1 with
   |none=>rw[hd]at this;cases this
   |some d=>exact Uf (GL hd)
  have hbad:¬((((b:Nat):Int) != 0&&decide (((b:Nat):Int)<2)||decide (((b:Nat):Int)>36))=true):=by clear hk h hn;rcases hb with rfl|rfl<;>decide
  clear hb hn hl
  repeat (any_goals (first
   |assumption
   |(with_reducible refine wpAny_ite_false (Ux hbad) ?_)
   |((with_reducible show wpAny _ _ ((int_private% "intFromText") _ _ _) _ _ _);refine rW (T6 SY ..) (rW (eo ..) (Ie (b:=b) hk.1 hk.2.1 hk.2.2 ?_)))
   |wp_step))
  all_goals first|exact ⟨_,rfl,h⟩|skip
end
section
noncomputable def vj(o:Obj):Prop:=o.cls=.type "str_ascii_iterator"\/o.cls=.type "str_iterator"
inductive gk(z:Am)(hs:HS)(σ:St)(v:V)(x:Value)(i:Nat)(ob:Obj):Prop
 |str {s:aC}{t:Tok}:v=.str s->x=.str (aT s) t->vj ob->ob.data=.fields #[.str (aT s) t,.int i 0]->gk z hs σ v x i ob
 |list {vs:List V}{l:Addr}:b6 z.cx σ v=some (.list vs)->x=.ref l->ob.cls=.type "list_iterator"->ob.data=.fields #[.ref l,.int i 0]->gk z hs σ v x i ob
 |tuple {vs:List V}{l:Addr}:b6 z.cx σ v=some (.tuple vs)->x=.ref l->ob.cls=.type "tuple_iterator"->ob.data=.fields #[.ref l,.int i 0]->gk z hs σ v x i ob
 |rng {a b s:Int}:b6 z.cx σ v=some (.rng a b s)->ob={ cls:=.type "range_iterator",dict:=none,data:=.fields #[rawInt (a+s*i),rawInt ((jY a b s:Int)-i),rawInt s],slots:=#[] }->gk z hs σ v x i ob
 |dict {a:Addr}{kvs:List (aC×V)}{ks:bD}{ep:Nat}{Tf:HS}:b6 z.cx σ v=some (.dict kvs)->x=.ref a->(∀h:Heap,z.W.K.In h->(∀o PW,hs.z o PW->∀q∈PW,h.get? q.1=some q.2)->h.DictAt (strKind z.W.prog z.W.w) a ks ep)->aL (KV Tf) kvs ks->ob.cls=.type "dict_keyiterator"->ob.data=.fields #[.ref a,.int i 0,.int ks.length 0,.int ep 0]->gk z hs σ v x i ob
theorem gk.still{z:Am}{hs σ σ' v x i ob}(h:gk z hs σ v x i ob)(e:cT z.cx σ σ' v=true):gk z hs σ' v x i ob:=by
 have e:=bN.mp e;induction h with
 |str h1 h2 h3 h4=>exact .str h1 h2 h3 h4
 |list h1 h2 h3 h4=>exact .list (e.trans h1) h2 h3 h4
 |tuple h1 h2 h3 h4=>exact .tuple (e.trans h1) h2 h3 h4
 |rng h1 h2=>exact .rng (e.trans h1) h2
 |dict h1 h3 h4 h5 h6 h7=>exact .dict (e.trans h1) h3 h4 h5 h6 h7
theorem mU{cx σ σ' v}(e:cT cx σ σ' v=true):cT cx σ' σ v=true:=bN.mpr (bN.mp e).symm
theorem f8{cx σ σ' v}(e:cT cx σ σ' v=true):dw cx σ' v=dw cx σ v:=by
 have e:=bN.mp e;induction v using V.casesOn with
 |ref a=>exact Qg (·.bind (gq (.ref a))) e
 |u a=>exact Qg (·.bind (gq (.u a))) e
 |I a=>exact Qg (·.bind (gq (.I a))) e
 |_=>rfl
theorem gG{cx σ v o}(e:b6 cx σ v=some o):dw cx σ v=gq v o:=by
 induction v using V.casesOn with
 |ref a=>exact Qg (·.bind (gq (.ref a))) e
 |u a=>exact Qg (·.bind (gq (.u a))) e
 |I a=>exact Qg (·.bind (gq (.I a))) e
 |_=>exact bl e
section
variable {z:Am}{cs:Scope}{cp:Option Cp}{m:bG}{X P Y:bf}{σ:St}{ps:PZ}{h h':Heap}  {tk:Nat}{A:Around}{E:bw}
theorem SR.offX{I ob}(S:SR z.W z.c m (P++(I,ob)::Y) σ ps h):∀p∈ps.flatten++(P++Y),p.1≠I:=by
 intro p hp q;have nd:=S.nd;have e:((ps.flatten++(P++(I,ob)::Y)).map (·.1)).Perm (I::(ps.flatten++(P++Y)).map (·.1)):=by simp only[ba,Ul];exact rW b9.symm (rW b9.symm List.perm_middle)
 rw[e.nodup_iff]at nd;exact (List.nodup_cons.mp nd).1 (q▸UM (f:=(·.1)) hp)
theorem SR.frX{I ob}(S:SR z.W z.c m (P++(I,ob)::Y) σ ps h)(hk:∀b x,b≠I->h.get? b=some x->h'.get? b=some x):gD z.c h' m:=by have D0:=S.N (I,ob) (by simp);exact S.F.off hk D0.2.1 D0.2.2
theorem SR.dropX{I ob}(S:SR z.W z.c m (P++(I,ob)::Y) σ ps h)(hk:∀b x,b≠I->h.get? b=some x->h'.get? b=some x):SR z.W z.c m (P++Y) σ ps h':=by
 have P8:=S.offX;refine ⟨S.frX hk,λp hp=>?_,?_,S.rel,S.fz⟩
 ·have z:=S.N p (by simp only[List.mem_append,b8]at hp ⊢;rcases hp with q|q|q;exact .inl q;exact .inr (.inl q);exact .inr (.inr (.inr q)));exact ⟨hk _ _ (P8 p hp) z.1,z.2⟩
 ·have nd:=S.nd;refine List.Nodup.sublist ?_ nd;apply List.Sublist.map;exact List.Sublist.append_left (List.Sublist.append_left (List.sublist_cons_self _ _) _) _
theorem SR.putX{I ob Q2}(S:SR z.W z.c m (P++(I,ob)::Y) σ ps h)(hk:∀b x,b≠I->h.get? b=some x->h'.get? b=some x)(ho:h'.get? I=some Q2):SR z.W z.c m (P++(I,Q2)::Y) σ ps h':=by
 have P8:=S.offX;have D0:=S.N (I,ob) (by simp);refine ⟨S.frX hk,λp hp=>?_,?_,S.rel,S.fz⟩
 ·by_cases q:p=(I,Q2)
  ·clear hp;subst q;exact ⟨ho,D0.2⟩
  ·have Sa:p∈ps.flatten++(P++Y):=by
    simp only[List.mem_append,b8]at hp ⊢;rcases hp with h1|h1|h1|h1
    ·exact .inl h1
    ·exact .inr (.inl h1)
    ·exact Uj h1 q
    ·exact .inr (.inr h1)
   have z:=S.N p (by simp only[List.mem_append,b8]at Sa ⊢;rcases Sa with q|q|q;exact .inl q;exact .inr (.inl q);exact .inr (.inr (.inr q)));exact ⟨hk _ _ (P8 p Sa) z.1,z.2⟩
 ·have nd:=S.nd;simpa using nd
theorem Om(a b:Int):(if a<b then (b-a-1)/1+1 else 0)=((b-a).toNat:Int):=by
 by_cases h:a<b
 ·exact rW (T6 h ..) (rW (Int.ediv_one ..) (rW (Int.toNat_of_nonneg (Int.sub_nonneg_of_le (Int.le_of_lt h)) ..) (rW (Int.sub_add_cancel ..) rfl)))
 ·exact rW (T8 h ..) (rW (Int.toNat_of_nonpos (Int.sub_nonpos_of_le (Int.not_lt.mp h)) ..) rfl)
theorem rt{a b s}(h:s=1\/s = -1):Builtin.Range.rangeSize a b s=(jY a b s:Int):=by
 rcases h with rfl|rfl
 ·exact (T6 (by decide)).trans ((Om a b).trans (Qg Int.ofNat (T6 rfl).symm))
 ·exact (T8 (by decide)).trans ((Om b a).trans (Qg Int.ofNat (T8 (by decide)).symm))
theorem vD{i}(h1 : -200001<=i)(h2:i<=200001):Builtin.Range.rangeFitsLong i=true:=Bool.and_eq_true_iff.mpr ⟨Uf (UW (by decide) h1),Uf (Int.lt_of_le_of_lt h2 (by decide))⟩
theorem wK{a b s}(h1 : -((100000:Nat):Int)<=a/\a<=((100000:Nat):Int))(h2 : -((100000:Nat):Int)<=b/\b<=((100000:Nat):Int))(h:s=1\/s = -1):Builtin.Range.small a b s=true:=by
 have f:∀{x y:Int},-((100000:Nat):Int)<=x->y<=((100000:Nat):Int)->(y-x).toNat<=200000:=λh h'=>Int.toNat_le.mpr (UW (Int.sub_le_sub h' h) (by decide));have hs:jY a b s<=200000:=by
  unfold jY;by_cases q:s=1
  ·exact rW (T6 q ..) (f h1.1 h2.2)
  ·exact rW (T8 q ..) (f h2.1 h1.2)
 refine Bool.and_eq_true_iff.mpr ⟨Bool.and_eq_true_iff.mpr ⟨Bool.and_eq_true_iff.mpr ⟨Bool.and_eq_true_iff.mpr ⟨vD (UW (by decide) h1.1) (UW h1.2 (by decide)),vD (UW (by decide) h2.1) (UW h2.2 (by decide))⟩,?_⟩,
  by exact rW (rt h ..) (vD (UW (by decide) (UH _)) (UW (Int.ofNat_le.mpr hs) (by decide)))⟩,Bool.or_eq_true_iff.mpr (.inr ?_)⟩
 ·clear hs;rcases h with rfl|rfl<;>rfl
 ·have z:Builtin.Range.rangeFitsLong (b+0)=true:=by exact rW (Int.add_zero ..) (vD (UW (by decide) h2.1) (UW h2.2 (by decide)))
  clear hs;rcases h with rfl|rfl
  ·exact (T6 (by decide)).trans z
  ·exact (T8 (by decide)).trans z
theorem SR.frozAt(S:SR z.W z.c m X σ ps h):∀o PW,(be ps).z o PW->∀q∈PW,h.get? q.1=some q.2:=λo PW z q hq=>(S.N q (UO _ (dS _ (UO _ ((S.fz.1 o PW z).1 q hq))))).1
theorem sS(g:Gs z)(S:SR z.W z.c m X σ ps h){v x xs}{Q:bw}(ra:VR (be ps) v x)(e:dw z.cx σ v=some xs)
 (k:∀I ob h',gk z (be ps) σ v x 0 ob->SR z.W z.c m ((I,ob)::X) σ ps h'->Q (.ref I) ⟨h',z.g,z.dr,tk,z.os⟩):wpAny z.M A (pyIter x) Q E ⟨h,z.g,z.dr,tk,z.os⟩:=by
 have Tv:=ra;revert Tv k;refine xy g.G.so S (S.K g.ok) ra e (λs t hv hl J k Tv=>?_) λo A' ho ro e k Tv=>?_
 ·refine wpAny_pyIter_strU (k _ { cls:=.type (strIterType (aT s)),data:=.fields #[.str (aT s) t,.int 0 0] } _ (.str hv rfl ?_ rfl) (S.take _ rfl));unfold vj strIterType;dsimp only;split
  ·exact .inl rfl
  ·exact .inr rfl
 ·induction o using O.casesOn with
  |list vs=>obtain ⟨its,n,hA,_⟩:=ro;exact wpAny_pyIter_list (items:=its.toArray) ⟨_,hA,rfl,_,rfl⟩ (k _ _ _ (.list ho rfl rfl rfl) (S.take _ rfl))
  |tuple vs=>obtain ⟨its,n,hA,_⟩:=ro;exact wpAny_pyIter_tuple (items:=its.toArray) ⟨_,hA,rfl,_,rfl⟩ (k _ _ _ (.tuple ho rfl rfl rfl) (S.take _ rfl))
  |rng a b s'=>obtain ⟨t,u,w',hA⟩:=ro;exact jW e λhb J=>wpAny_pyIter_range (a:=a) (b:=b) (c:=s') hA (wK hb.1 hb.2.1 hb.2.2) (rW (rt hb.2.2 ..) (k _ _ _ (.rng ho (by simp)) (S.take _ rfl)))
  |dict kvs=>
   induction v using V.casesOn with
   |u a=>
    cases Tv;obtain ⟨PW,hp1,Sy,hr⟩:=g.G.so.at_ _ _ ho;cases hr with
    |@dict _ ks A1 o1 d1 i1 b1 y1=>
     obtain rfl:A1=_:=hp1;have hl:=Sy _ (.head _);obtain ⟨es,ep,q1,q2,q3⟩:=d1;have R7:∀h:Heap,z.W.K.In h->h.DictAt (strKind z.W.prog z.W.w) A1 ks ep:=λh K=>⟨o1,es,K _ _ hl,q1,q2,q3⟩
     exact wpAny_pyIter_dict y1 (R7 h (S.K g.ok)) (k _ _ _ (.dict ho rfl (λh K J=>R7 h K) i1 rfl rfl) (S.take _ rfl))
   |I o=>
    obtain rfl:=aK ho;cases Tv with
    |@I _ p hz=>
    have hz':ps.z (.dict kvs) p:=hz;cases (S.fz.1 _ _ hz).2 with
    |@dict _ ks A1 o1 d1 i1 b1 y1=>
     obtain ⟨es,ep,q1,q2,q3⟩:=d1;have R7:∀h:Heap,(∀o PW,(be ps).z o PW->∀q∈PW,h.get? q.1=some q.2)->h.DictAt (strKind z.W.prog z.W.w) A1 ks ep:=λh K=>⟨o1,es,K _ _ hz' _ (.head _),q1,q2,q3⟩
     exact wpAny_pyIter_dict y1 (R7 h S.frozAt) (k _ _ _ (.dict ho rfl (λh J K=>R7 h K) i1 rfl rfl) (S.take _ rfl))
   |_=>exact bl e
  |_=>exact bl e
theorem qM{v a b s xs}(h1:b6 z.cx σ v=some (.rng a b s))(e:dw z.cx σ v=some xs):xs=((List.range (jY a b s)).map λk=>.int (a+s*Int.ofNat k))/\(s=1\/s = -1):=
 jW ((gG h1).symm.trans e) λhb e=>⟨(aK e).symm,hb.2.2⟩
theorem m9{v:V}{kvs:List (aC×V)}{xs:List V}(h1:b6 z.cx σ v=some (.dict kvs))(e:dw z.cx σ v=some xs):xs=(kvs.map λp=>.str p.1)/\(kvs.all λp=>decide (p.1.length<=a8))=true:=by
 have e:=(gG h1).symm.trans e;have k:kc kvs=some xs->xs=(kvs.map λp=>.str p.1)/\(kvs.all λp=>decide (p.1.length<=a8))=true:=λe=>FX e λhb q=>⟨q,hb⟩
 induction v using V.casesOn with
 |u a=>exact k e
 |I a=>exact k e
 |_=>exact bl e
theorem vm(g:Gs z)(S:SR z.W z.c m X σ ps h){v xs vs l}(ra:VR (be ps) v (.ref l))(e:dw z.cx σ v=some xs)(h1:b6 z.cx σ v=some (.list vs)):∃its n,h.get? l=some (listOf (List.toArray its) n)/\aL (VR (be ps)) xs its:=by refine a7 λkC=>?_;obtain rfl:vs=xs:=aK ((gG h1).symm.trans e);obtain ⟨A,q,its,n,hA,i1,_⟩:=BK g.G.so S (S.K g.ok) ra h1;obtain rfl:=Value.ref.inj q;exact kC ⟨its,n,hA,i1⟩
theorem qR(g:Gs z)(S:SR z.W z.c m X σ ps h){v xs vs l}(ra:VR (be ps) v (.ref l))(e:dw z.cx σ v=some xs)(h1:b6 z.cx σ v=some (.tuple vs)):∃its n,h.get? l=some { cls:=.type "tuple",data:=.seq (List.toArray its) n }/\aL (VR (be ps)) xs its:=by refine a7 λkC=>?_;obtain rfl:vs=xs:=aK ((gG h1).symm.trans e);obtain ⟨A,q,its,n,hA,i1,_⟩:=BK g.G.so S (S.K g.ok) ra h1;obtain rfl:=Value.ref.inj q;exact kC ⟨its,n,hA,i1⟩
theorem cE{I}(hs:Heap.SameBut I h h'):∀b x,b≠I->h.get? b=some x->h'.get? b=some x:=λb x q e=>(hs.2 b q).trans e
theorem nV(g:Gs z){I ob}(S:SR z.W z.c m (P++(I,ob)::Y) σ ps h){v u x i xs}{Q:Option Value->Shared->Prop}{hs:HS}(pl:hs.Le (be ps))(ra:VR (be ps) v x)(e:dw z.cx σ v=some xs)(it:gk z hs σ v x i ob)(hu:xs[i]? = some u)(ht:1<=tk)
 (k:∀Q2 h' y Qr,gk z hs σ v x (i+1) Q2->SR z.W z.c m (P++(I,Q2)::Y) σ ps h'->VR (be ps) u y->1<=Qr->Q (some y) ⟨h',z.g,z.dr,Qr,z.os⟩):wpAny z.M A (pyNext (.ref I)) Q E ⟨h,z.g,z.dr,tk,z.os⟩:=by
 refine a7 λkC=>?_;have gI:=(S.N (I,ob) (by simp)).1;induction it with
 |@str s t h1 h2 h3 h4=>
  clear ra;subst h1 h2;obtain rfl:=aK e;rw[UV,Option.map_eq_some_iff]at hu;obtain ⟨ch,hc,rfl⟩:=hu;have hx:(aT s).cps[i]? = some ch:=by simpa [aT] using hc
  have vr:∀t',VR (be ps) (.str [ch]) (.str ⟨#[ch]⟩ t'):=λt'=>.str [ch] t' (by unfold a8;simp);rcases h3 with h3|h3
  ·refine kC (wpAny_pyNext_ascii_item (t:=t) (i:=i) ⟨ob,gI,h3,h4⟩ hx λh' hit hs=>a7 λkC=>?_);obtain ⟨Q2,go,gc,gd⟩:=hit;exact kC (k Q2 h' _ _ (.str rfl rfl (.inl gc) gd) (S.putX (cE hs) go) (vr _) (by show 1<=tk+1;exact aF (fC 0xa1bb21 rfl )))
  ·refine kC (wpAny_pyNext_wide_item (t:=t) (i:=i) ⟨ob,gI,h3,h4⟩ hx λh' hit hs=>a7 λkC=>?_);obtain ⟨Q2,go,gc,gd⟩:=hit;exact kC (k Q2 h' _ _ (.str rfl rfl (.inr gc) gd) (S.putX (cE hs) go) (vr _) (by show 1<=tk+1;exact aF (fC 0xa1bb21 rfl )))
 |@list vs l h1 h2 h3 h4=>subst h2;obtain ⟨its,n,hA,i1⟩:=vm g S ra e h1;obtain ⟨y,hy,ry⟩:=i1.get hu;refine kC (wpAny_pyNext_list_item (items:=its.toArray) ⟨ob,gI,h3,h4⟩ ⟨_,hA,rfl,_,rfl⟩ (by simpa using hy) λh' hit hs=>a7 λkC=>?_);obtain ⟨Q2,go,gc,gd⟩:=hit;exact kC (k Q2 h' _ _ (.list h1 rfl gc gd) (S.putX (cE hs) go) ry ht)
 |@tuple vs l h1 h2 h3 h4=>subst h2;obtain ⟨its,n,hA,i1⟩:=qR g S ra e h1;obtain ⟨y,hy,ry⟩:=i1.get hu;refine kC (wpAny_pyNext_tuple_item (items:=its.toArray) ⟨ob,gI,h3,h4⟩ ⟨_,hA,rfl,_,rfl⟩ (by simpa using hy) λh' hit hs=>a7 λkC=>?_);obtain ⟨Q2,go,gc,gd⟩:=hit;exact kC (k Q2 h' _ _ (.tuple h1 rfl gc gd) (S.putX (cE hs) go) ry ht)
 |@rng a b s' h1 h2=>
  obtain ⟨rfl,hs⟩:=qM h1 e;rw[UV,Option.map_eq_some_iff]at hu;obtain ⟨j,hj,rfl⟩:=hu;obtain ⟨Qf,TP⟩:=bY.mp hj;simp only[List.getElem_range]at TP;clear hj;subst TP;simp only[List.length_range]at Qf;subst h2;refine kC (wpAny_pyNext_range_item (x:=a+s'*(i:Int)) (left:=(jY a b s':Int)-i) (step:=s') gI (Int.sub_pos_of_lt (Int.ofNat_lt.mpr Qf)) λh' hit hs=>(k _ h' _ _ (.rng h1 ?_) (S.putX (cE hs) hit) (.int _ _) (by show 1<=tk+1;exact aF (fC 0xa1bb21 rfl ))));have e1:a+s'*(i:Int)+s'=a+s'*((i+1:Nat):Int):=by refine rW (Int.natCast_add ..) (rW (Int.mul_add ..) (rW (Int.add_assoc ..) ?_));simp
  have e2:(jY a b s':Int)-(i:Int)-1=(jY a b s':Int)-((i+1:Nat):Int):=Int.sub_sub _ _ _;exact rW e1 (rW e2 rfl)
 |@dict a kvs ks ep Tf h1 h3 h4 h5 h6 h7=>clear ra;obtain ⟨rfl,hb⟩:=m9 h1 e;rw[UV,Option.map_eq_some_iff]at hu;obtain ⟨⟨kk,vv⟩,hj,rfl⟩:=hu;obtain ⟨⟨kx,vx⟩,hx,r1,_⟩:=h5.get hj;refine kC ?_;simp only at r1;clear right;subst r1;subst h3;refine wpAny_pyNext_dict_item (knd:=strKind z.W.prog z.W.w) ⟨ob,gI,h6,h7⟩ (h4 h (S.K g.ok) λo p z=>S.frozAt o p (pl.z o p z)) hx λP' h' hk hit hs=>a7 λkC=>?_;obtain ⟨t',rfl⟩:=Value.isStrOf_shape hk;obtain ⟨Q2,go,gc,gd⟩:=hit;exact kC (k Q2 h' _ tk (.dict h1 rfl h4 h5 gc gd) (S.putX (cE hs) go) (.str _ _ (T9 (a9.mp hb _ (List.mem_of_getElem? hj)))) ht)
theorem sI(g:Gs z){I ob}(S:SR z.W z.c m (P++(I,ob)::Y) σ ps h){v x i}{xs:List V}{Q:Option Value->Shared->Prop}{hs:HS}(pl:hs.Le (be ps))(ra:VR (be ps) v x)(e:dw z.cx σ v=some xs)(it:gk z hs σ v x i ob)(hu:xs[i]? = none)(hil:i<=xs.length)(hA:A.handled=none)
 (k:∀h',SR z.W z.c m (P++Y) σ ps h'->Q none ⟨h',z.g,z.dr,tk,z.os⟩):wpAny z.M A (pyNext (.ref I)) Q E ⟨h,z.g,z.dr,tk,z.os⟩:=by
 refine a7 λkC=>?_;have gI:=(S.N (I,ob) (by simp)).1;have fin:∀h',Heap.ExtBut I h h'->Q none ⟨h',z.g,z.dr,tk,z.os⟩:=λh' hs=>k h' (S.dropX λb x q e=>hs b x q e);induction it with
 |@str s t h1 h2 h3 h4=>
  clear hil ra;subst h1 h2;obtain rfl:=aK e;have hx:(aT s).cps[i]? = none:=by rw[UV,Option.map_eq_none_iff]at hu;simpa [aT] using hu
  rcases h3 with h3|h3
  ·exact kC (wpAny_pyNext_ascii_end (t:=t) (i:=i) hA ⟨ob,gI,h3,h4⟩ hx fin)
  ·exact kC (wpAny_pyNext_wide_end (t:=t) (i:=i) hA ⟨ob,gI,h3,h4⟩ hx fin)
 |@list vs l h1 h2 h3 h4=>subst h2;obtain ⟨its,n,hA',i1⟩:=vm g S ra e h1;exact kC (wpAny_pyNext_list_end (items:=its.toArray) hA ⟨ob,gI,h3,h4⟩ ⟨_,hA',rfl,_,rfl⟩ (by refine rW (List.getElem?_toArray ..) ?_;exact U4 (i1.len▸List.getElem?_eq_none_iff.mp hu)) fin)
 |@tuple vs l h1 h2 h3 h4=>subst h2;obtain ⟨its,n,hA',i1⟩:=qR g S ra e h1;exact kC (wpAny_pyNext_tuple_end (items:=its.toArray) hA ⟨ob,gI,h3,h4⟩ ⟨_,hA',rfl,_,rfl⟩ (by refine rW (List.getElem?_toArray ..) ?_;exact U4 (i1.len▸List.getElem?_eq_none_iff.mp hu)) fin)
 |@rng a b s' h1 h2=>clear S;obtain ⟨rfl,hs⟩:=qM h1 e;refine kC ?_;simp at hu hil;subst h2;exact wpAny_pyNext_range_end (x:=a+s'*(i:Int)) (left:=(jY a b s':Int)-i) (step:=s') hA gI (Int.sub_nonpos_of_le (Int.ofNat_le.mpr hu)) fin
 |@dict a kvs ks ep Tf h1 h3 h4 h5 h6 h7=>clear hil ra;obtain ⟨rfl,hb⟩:=m9 h1 e;subst h3;refine kC (wpAny_pyNext_dict_end (knd:=strKind z.W.prog z.W.w) hA ⟨ob,gI,h6,h7⟩ (h4 h (S.K g.ok) λo p z=>S.frozAt o p (pl.z o p z)) ?_ fin);have:=h5.len;simp at hu ⊢;exact aF (c9 0x21b110111111211 rfl (aU this.symm :) hu)
end
end
section
section
variable {z:Am}{cs:Scope}{cp:Option Cp}{m:bG}{X P Y:bf}{σ:St}{ps:PZ}{h h':Heap}  {tk:Nat}{A:Around}
theorem Da(g:Gs z){I v x}{vs:List V}(ra:VR (be ps) v x)(e:dw z.cx σ v=some vs):∀(n i:Nat) (ob:Obj) (h:Heap) (tk:Nat) (Q:aO->Shared->Prop) (E:bw),
 SR z.W z.c m (P++(I,ob)::Y) σ ps h->gk z (be ps) σ v x i ob->i+n=vs.length->1<=tk ->
 (∀Q2 h' Qr ys,SR z.W z.c m (P++(I,Q2)::Y) σ ps h'->gk z (be ps) σ v x vs.length Q2->aL (VR (be ps)) (vs.drop i) ys->1<=Qr->Q ys ⟨h',z.g,z.dr,Qr,z.os⟩) ->
 wpAny z.M A (draw (.ref I) n) Q E ⟨h,z.g,z.dr,tk,z.os⟩:=by
 intro n;induction n with
 |zero=>intro i ob h tk Q E S it hn ht k;show wpAny _ _ (pure []) Q E _;have hi:i=vs.length:=ce (aF (cV 0x11b2111701841 rfl (aU hn :))) (aF (cV 0x11b1170184111 rfl (aU hn.symm :)));clear hn;subst hi;exact Ub (k ob h tk [] S it (rW (List.drop_length ..) .nil) ht)
 |succ n ih=>intro i ob h tk Q E S it hn ht k;have Qf:i<vs.length:=Uo (c9 0x1211211b01851 rfl (aU hn :));show wpAny _ _ (pyNext (.ref I)>>=_) Q E _;refine T5 (nV g S .rfl ra e it (da Qf) ht λRQ h1 y dU RA S1 ry Qd=>?_);exact T5 (Ud (ih (i+1) RQ h1 dU _ _ S1 RA (ce (aF (c9 0x1b1842b21211b01851 rfl (aU hn :))) (aF (c9 0x211b18b511b0185211 rfl (aU hn.symm :)))) Qd λob2 h2 Sf ys S2 Sg Rk Qe=>Ub (k ob2 h2 Sf (y::ys) S2 Sg (rW (Uc Qf ..) (.cons ry Rk)) Qe)))
theorem iO{v vs}(e:d5 z.cx σ v=some vs):dw z.cx σ v=some vs:=by
 refine fI e λo ho e=>(gG ho).trans ?_;clear ho;induction o using O.casesOn with
 |list=>exact e
 |tuple=>exact e
 |_=>exact bl e
theorem yn(g:Gs z)(S:SR z.W z.c m X σ ps h){v x vs}(ra:VR (be ps) v x)(e:d5 z.cx σ v=some vs):∃T id,Shared.TypeIs ⟨h,z.g,z.dr,tk,z.os⟩ x T/\typeLookup (.type T) "__iter__"=pure (some (.builtin id)):=by
 refine a7 λkC=>?_;obtain ⟨A1,its,rfl,i1,hn,hg⟩:=pS (p:=⟨m,X,σ,ps,h,1,S,aQ 1⟩) g ra e;rcases hg with ⟨n,hg⟩|⟨n,hg⟩
 ·exact kC ⟨"list",_,⟨_,hg,rfl⟩,slot_list_iter.lookup⟩
 ·exact kC ⟨"tuple",_,⟨_,hg,rfl⟩,PySem.F.slot_tuple_iter.lookup⟩
theorem eY(g:Gs z)(S:SR z.W z.c m X σ ps h){v x}{vs:List V}{Q:aO->Shared->Prop}{E}(ra:VR (be ps) v x)(e:d5 z.cx σ v=some vs)(ht:1<=tk)(hA:A.handled=none)
 (k:∀h' Qr ys,SR z.W z.c m X σ ps h'->aL (VR (be ps)) vs ys->1<=Qr->Q ys ⟨h',z.g,z.dr,Qr,z.os⟩):wpAny z.M A (unpackItems x vs.length none) Q E ⟨h,z.g,z.dr,tk,z.os⟩:=by
 refine a7 λkC=>?_;obtain ⟨T,id,hT,hl⟩:=yn g S ra e (tk:=tk);refine kC ?_;unfold unpackItems;refine T5 ?_;unfold notIterableAtAll;refine T5 (wpAny_specialOf hT hl (Ub ?_));simp only[Bool.false_eq_true,if_false];refine T5 (Ud (sS g S ra (iO e) λI ob h1 RA S1=>(T5 (Ud (Da (P:=[]) g ra (iO e) vs.length 0 ob h1 tk _ _ S1 RA (ce (aF (fC 0x7183b11 rfl )) (aF (fC 0x1718b41 rfl ))) ht λob2 h2 Sf ys S2 Sg Rk Qe=>?_)))));rw[List.drop_zero]at Rk;refine rW (T8 (by rw[<-Rk.len];exact λq0=>fC 0x1b11 rfl q0) ..) (T5 (Ud (sI (P:=[]) g S2 .rfl ra (iO e) Sg (by simp) (aQ _) hA λh3 S3=>?_)));simp only[Option.isSome_none,Bool.false_eq_true,if_false];exact Ub (k h3 Sf ys S3 Rk Qe)
theorem br{β:Type}(i j:Nat)(v:β):∀L:List (Nat×β),aJ j (aX i v L)=if j=i then some v else aJ j L
 |[]=>by
  by_cases q:j=i
  ·subst q;exact rW (T6 rfl ..) (IY _ _ _)
  ·rw[T8 q];exact FK v [] λz=>q z.symm
 |(a,w)::r=>by
  have ih:=br i j v r;by_cases q1:a=i
  ·clear ih;subst q1;rw[Nv];by_cases q:j=a
   ·subst q;rw[T6 rfl];exact IY ..
   ·have q':¬a=j:=λz=>q z.symm;rw[T8 q,FK v r q',FK w r q']
  ·refine rW (Nz v w r q1 ..) ?_;by_cases q:a=j
   ·clear ih;subst q;rw[T8 q1,IY,IY]
   ·exact rW (FK _ _ q ..) (rW (FK _ _ q ..) ih)
theorem LR.put{tb:bq}{hs L m}(nd:tb.Nodup)(lr:LR tb hs L m){i x v y}(hi:tb[i]? = some x)(rv:VR hs v y):LR tb hs (aX i v L) (λz=>if z=x then some y else m z):=by
 intro j u e;rw[br]at e;split at e
 ·rename_i q;subst q;obtain rfl:=aK e;exact ⟨x,y,hi,by simp,rv⟩
 ·rename_i q;refine a7 λkC=>?_;obtain ⟨z,w,h1,h2,h3⟩:=lr j u e;refine kC ⟨z,w,h1,?_,h3⟩;have:¬z=x:=λe'=>q (oo nd (e'▸h1) hi);simp[this,h2]
theorem CellsAre.mono{m m':bG}{cl:List (Str×Addr)}{l}(C:CellsAre m cl l)(h:∀x,cl.lookup x≠none->m x=m' x):CellsAre m' cl l:=by
 induction C with
 |nil=>exact .nil
 |@cons n a o cs cells e r ih=>
  refine .cons (h n (by simp)▸e) (ih λx hx=>h x (rW (Uu ..) ?_));split
  ·exact nofun
  ·exact hx
theorem fR(nd:z.W.tb.Nodup)(ck:gy z.c.cs)(S:SR z.W z.c m X σ ps h){L}(lr:LR z.W.tb (be ps) L m){i x v y}{Q:Unit->Shared->Prop}{E}(hi:z.W.tb[i]? = some x)(rv:VR (be ps) v y)(hk:z.c.cs.names.lookup x=some .local)(hf:z.c.cs.kind=.function)
 (k:∀m' h',SR z.W z.c m' X σ ps h'->LR z.W.tb (be ps) (aX i v L) m'->Q () ⟨h',z.g,z.dr,tk+1,z.os⟩):wpAny z.M A (storeName z.c.env x y) Q E ⟨h,z.g,z.dr,tk,z.os⟩:=by
 refine a7 λkC=>?_;obtain ⟨m0,q,f⟩:=S.F.ns;have nx:z.c.cl.lookup x=none:=ck.q hk nofun;refine kC (wpAny_storeName_local (m:=m0) hk f (λh' hn hs=>k _ h' ⟨S.F.set (m':=λz=>if z=x then some y else m z) (λz hz=>?_) hn hs,S.N.set hs,S.nd,S.rel,S.fz.1,CellsAre.mono S.fz.2 λz hz=>?_⟩ (lr.put nd hi rv)) ?_)
 ·dsimp only;exact rW (q z hz ..) rfl
 ·have:¬z=x:=λe=>hz (e▸nx);exact rW (T8 this ..) rfl
 show (z.c.cs.kind==.class||(z.c.cs.kind==.module&&_))=false;exact rW hf rfl
end
end
section
inductive l8(W:Wd)(names:List (Str×NameKind)):Ft->Expr->Prop
 |one {i:Nat}{x:Str}{p:Pos}:W.tb[i]? = some x->names.lookup x=some .local->l8 W names (.one i) (.Name x p)
 |many {is:aC}{Ql:bJ}{n:Nat}{p:Pos}:aL (λi e=>∃x q,e=Expr.Name x q/\W.tb[i]? = some x/\names.lookup x=some .local) is Ql->l8 W names (.many is) (.Tuple Ql n p)
theorem FW{z P7 w A E hs σ v x y i ob I P4 W names t}(tg:l8 W names t P4){Q:Unit->Shared->Prop}{s:Shared}(it:gk z hs σ v x i ob)(hI:s.heap.get? I=some ob)(h:Q () s):
 wpAny (model P7 w) A (letOwnedTupleGo P4 (.ref I) y) Q E s:=by
 have hc:∃n vs,ob.cls=.type n/\ob.data=.fields vs/\["enumerate","zip","dict_itemiterator","dict_reverseitemiterator","odict_iterator","itertools.zip_longest","itertools.pairwise"].contains n=false:=by
  clear hI;induction it with
  |str h1 h2 h3 h4=>rcases h3 with h3|h3<;>exact ⟨_,_,h3,h4,by decide⟩
  |list h1 h2 h3 h4=>exact ⟨_,_,h3,h4,by decide⟩
  |tuple h1 h2 h3 h4=>exact ⟨_,_,h3,h4,by decide⟩
  |rng h1 h2=>subst h2;exact ⟨_,_,rfl,rfl,by decide⟩
  |dict h1 h3 h4 h5 h6 h7=>exact ⟨_,_,h6,h7,by decide⟩
 obtain ⟨n,vs,c1,c2,c3⟩:=hc;have go:∀a,wpAny (model P7 w) A (do
  let o <-load I
  match o.cls,o.data with
  |.type n,.fields vs=>
   if ["enumerate","zip","dict_itemiterator","dict_reverseitemiterator","odict_iterator","itertools.zip_longest","itertools.pairwise"].contains n&&vs[0]? == some (rawInt (a:Addr)) then
    rule "for.unpacks-the-owned-tuple"
    updateField I 0 .none
  |_,_=>pure ()) Q E s:=λa=>by
  refine T5 (wpAny_load hI (rW c1 (rW c2 ?_)));dsimp only;exact rW c3 (Ub h)
 induction tg with
 |one _ _=>exact Ub h
 |many _=>
  induction y with
  |ref a=>exact go a
  |_=>exact Ub h
noncomputable def ua:Ft->aC
 |.one i=>[i]
 |.many is=>is.reverse
section
variable {z:Am}{cs:Scope}{cp:Option Cp}{σ:St}{ps:PZ}{h:Heap}  {tk:Nat}{A:Around}{E:bw}
abbrev Zf:=aR->aC->(bG)->bf->Prop
noncomputable def oN(z:Am)(σ:St)(ps:PZ)(env:Env)(names:List (Str×NameKind))(Z:Zf):Prop:=
 ∀{i:Nat}{x:Str}{v:V}{y:Value}{L:aR}{B:aC}{m:bG}{X:bf}{h:Heap}  {tk:Nat}{A:Around}{Q:Unit->Shared->Prop}{E:bw},z.W.tb[i]? = some x->names.lookup x=some .local->VR (be ps) v y->SR z.W z.c m X σ ps h->Z L B m X ->
  (∀m' X' h',SR z.W z.c m' X' σ ps h'->Z (aX i v L) (i::B) m' X'->Q () ⟨h',z.g,z.dr,tk+1,z.os⟩)->wpAny z.M A (storeName env x y) Q E ⟨h,z.g,z.dr,tk,z.os⟩
theorem j5{names:List (Str×NameKind)}{env}:∀{is:aC}{Ql:bJ},aL (λi e=>∃x q,e=Expr.Name x q/\z.W.tb[i]? = some x/\names.lookup x=some .local) is Ql->assignEach Ql env=Ql.map λe=>(false,assign e env):=by
 intro is Ql r;induction r with
 |nil=>rfl
 |cons h0 _ ih=>obtain ⟨x,q,rfl,_,_⟩:=h0;show (false,assign (.Name x q) env)::assignEach _ env=_;exact rW ih rfl
theorem BF{env}{names:List (Str×NameKind)}{Z}(so:oN z σ ps env names Z):∀{is:aC}{Ql:bJ}{vs:List V}{ys:aO}{L L1:aR}{B:aC}{m:bG}{X:bf}{h:Heap}{tk:Nat}{Q:Unit->Shared->Prop},
 aL (λi e=>∃x q,e=Expr.Name x q/\z.W.tb[i]? = some x/\names.lookup x=some .local) is Ql->aL (VR (be ps)) vs ys->eV cx is vs L=some L1->SR z.W z.c m X σ ps h->Z L B m X->1<=tk ->
 (∀m' X' h' Qr,SR z.W z.c m' X' σ ps h'->Z L1 (is.reverse++B) m' X'->1<=Qr->Q () ⟨h',z.g,z.dr,Qr,z.os⟩)->wpAny z.M A (assignInOrder (Ql.map λe=>assign e env) ys) Q E ⟨h,z.g,z.dr,tk,z.os⟩:=by
 intro is Ql vs ys L L1 B m X h tk Q r;induction r generalizing vs ys L B m X h tk with
 |nil=>
  intro rv e S zz ht k;induction rv using aL.casesOn with
  |nil=>obtain rfl:=aK e;exact Ub (k m X h tk S (by simpa using zz) ht)
  |cons _ _=>exact bl e
 |@cons i el is Ql h0 _ ih=>
  intro rv e S zz ht k;induction rv using aL.casesOn with
  |nil=>exact bl e
  |@cons v y vs ys h1 h2=>obtain ⟨x,q,rfl,hi,hl⟩:=h0;show wpAny _ A (holding ys (assign (.Name x q) env y)>>=λJ=>assignInOrder (Ql.map λe=>assign e env) ys) Q E _;refine T5 (Ud (rW (arm_assign_Name ..) (T5 (UG (wpAny_bindName (so hi hl h1 S zz λm' X' h' S' z'=>(ih h2 e S' z' (aF (fC 0xa1bb21 rfl )) λm2 X2 h2 Sf S2 z2 Qe=>k m2 X2 h2 Sf S2 ?_ Qe)))))));simpa using z2
theorem wc(g:Gs z){env names Z}(so:oN z σ ps env names Z){t P4}(tg:l8 z.W names t P4){v y L L1 B m X}{Q:Unit->Shared->Prop}
 (S:SR z.W z.c m X σ ps h) (zz:Z L B m X) (rv:VR (be ps) v y) (e:cU z.cx σ t v L=some L1) (ht:1<=tk) (hA:A.handled=none)
 (k:∀m' X' h' Qr,SR z.W z.c m' X' σ ps h'->Z L1 (ua t++B) m' X'->1<=Qr->Q () ⟨h',z.g,z.dr,Qr,z.os⟩):wpAny z.M A (assign P4 env y) Q E ⟨h,z.g,z.dr,tk,z.os⟩:=by
 induction tg with
 |one hi hl=>obtain rfl:=aK e;exact rW (arm_assign_Name ..) (T5 (UG (wpAny_bindName (so hi hl rv S zz λm' X' h' S' z'=>k m' X' h' _ S' z' (aF (fC 0xa1bb21 rfl ))))))
 |@many is Ql n p r=>
  replace e:=Option.bind_eq_some_iff.mp (show (d5 z.cx σ v).bind _=_ from e);obtain ⟨vs,e1,e2⟩:=e;have len:Ql.length=vs.length:=by
   have P':∀{is:aC}{vs:List V}{L L1:aR},eV z.cx is vs L=some L1->is.length=vs.length:=by
    intro is;induction is with
    |nil=>intro vs L L1 e;induction vs with
     |nil=>rfl
     |cons _ _=>exact bl e
    |cons a r ih=>intro vs L L1 e;induction vs with
     |nil=>exact bl e
     |cons b q=>exact Qg (· + 1) (ih (show eV z.cx r q _=_ from e))
   exact rW (P' e2 ..).symm (rW (r.len ..) rfl)
  refine rW (arm_assign_Tuple ..) (T5 (UG ?_));unfold unpack;refine rW (j5 r ..) ?_;have l1:(Ql.map λe=>(false,assign e env)).length=vs.length:=rW bA (rW len rfl);have l2:(Ql.map λe=>(false,assign e env)).findIdx? (·.1)=none:=by rw[List.findIdx?_eq_none_iff];intro x hx;obtain ⟨a,_,rfl⟩:=List.mem_map.mp hx;rfl
  have l3:(Ql.map λe=>(false,assign e env)).map (·.2)=Ql.map λe=>assign e env:=rW (Up ..) rfl;exact rW l1 (rW l2 (rW l3 (T5 (Ud (eY g S rv e1 ht hA λh' Qr ys S' Rk QT=>(BF so r Rk e2 S' zz QT λm2 X2 h2 Sf S2 z2 Qe=>k m2 X2 h2 Sf S2 z2 Qe))))))
end
end
section
section
variable {P7:Program}{w:World}{A:Around}{R:Result->Shared->Prop}{s:Shared}
theorem mT{Qt P4 Qk:Expr}{Rc scope PV QM it P0 env T}
 (Ru:compTurn (.ListComp Qt Rc scope PV) QM it P0 env=(standAt Qk.pos>>=λJ=>pyNext it>>=λr=>match r with
  |none=>pure (.done .next)
  |some v=>letOwnedTupleGo P4 it v>>=λJ=>assign P4 env v>>=λJ=>T))
 (h:wpAny (model P7 w) A (pyNext it) (λr s₁=>match r with
  |none=>R (.ok .next) s₁
  |some v=>wpAny (model P7 w) A (letOwnedTupleGo P4 it v) (λJ s₂=>wpAny (model P7 w) A (assign P4 env v) (λJ s₃=>wpAny (model P7 w) A T
   (λfin s'=>match fin with|.done f=>R (.ok f) s'|.again c'=>c'.quiet=true/\codeAny (model P7 w) A c' R s')
   (notedBy (model P7 w) A env λe s'=>R (.error e) s') s₃) (notedBy (model P7 w) A env λe s'=>R (.error e) s') s₂) (notedBy (model P7 w) A env λe s'=>R (.error e) s') s₁)
  (notedBy (model P7 w) A env λe s'=>R (.error e) s') s):
 codeAny (model P7 w) A (.compLoop (.ListComp Qt Rc scope PV) QM it P0 env) R s:=by
 refine codeAny_of_tree ?_;show wpAny _ A ((compTurn (.ListComp Qt Rc scope PV) QM it P0 env).onRaise (λx=>do noteFrame x env;theTreesLotGoes x)) _ _ s;refine wpAny_noted (rW (Ru ..) (T5 (UG (T5 (UX h (λr s₁ h₁=>?_) λJ J h'=>h')))));induction r with
 |none=>exact Ub h₁
 |some v=>exact T5 (UX h₁ (λJ s₂ h₂=>T5 (UX h₂ (λJ s₃ h₃=>h₃) λJ J h'=>h')) λJ J h'=>h')
noncomputable def Fe(Qt:Expr)(P0:Value)(env:Env):Sem Unit:=(eval Qt env>>=λx=>call (.builtin "list.append") [P0,x]>>=λJ=>pure ())
noncomputable def Nk(ifs:bJ)(env:Env):Sem Bool:=forIn ifs true λc ok=>if ok=true then isTrue c env (eval c env)>>=λb=>pure (ForInStep.yield b) else pure (ForInStep.yield ok)
noncomputable def B7(ifs:bJ)(env:Env)(a:Sem Unit)(b:Sem Fin):Sem Fin:=Nk ifs env>>=λok=>if ok=true then a>>=λJ=>b else b
theorem Ka(Qt P4 Qk:Expr)(ifs:bJ)(scope:Scope)(PV:Pos)(it P0:Value)(env:Env):
 compTurn (.ListComp Qt [⟨P4,Qk,ifs,0⟩] scope PV) 0 it P0 env=(standAt Qk.pos>>=λJ=>pyNext it>>=λr=>match r with
  |none=>pure (.done .next)
  |some v=>letOwnedTupleGo P4 it v>>=λJ=>assign P4 env v>>=λJ=>B7 ifs env (Fe Qt P0 env) (again (.compLoop (.ListComp Qt [⟨P4,Qk,ifs,0⟩] scope PV) 0 it P0 env))):=by rfl
end
theorem fW{bind PX Qt L σ}:dc bind PX Qt [] L σ=if PX σ then some ([],σ) else none:=rfl
theorem eR{bind:V->aR->St->Option aR}{PX}{Qt:aR->St->Option (List V×St)}{L σ v vs}:dc bind PX Qt (v::vs) L σ=if PX σ then (bind v L σ).bind λL1=>(Qt L1 σ).bind λ(xs,σ1)=>(dc bind PX Qt vs L1 σ1).bind λ(ys,σ2)=>some (xs++ys,σ2) else none:=rfl
theorem lq{β:Type}(i j:Nat)(v:β)(L:List (Nat×β))(h:j≠i):aJ j (aX i v L)=aJ j L:=by exact rW (br ..) (rW (T8 h ..) rfl)
theorem jr(cx:Cx):∀{is:aC}{vs:List V}{L L1:aR}{j:Nat},eV cx is vs L=some L1->j∉is->aJ j L1=aJ j L
 |[],[],L,L1,j,e,_=>by obtain rfl:=aK e;rfl
 |[],_::_,L,L1,j,e,_=>bl e
 |_::_,[],L,L1,j,e,_=>bl e
 |i::is,v::vs,L,L1,j,e,h=>(jr cx (show eV cx is vs (aX i v L)=_ from e) (λq=>h (.tail _ q))).trans (lq _ _ _ _ λq=>h (q▸.head _))
theorem tA{cx σ t v L L1 j}(e:cU cx σ t v L=some L1)(h:j∉ua t):aJ j L1=aJ j L:=by
 induction t with
 |one i=>obtain rfl:=aK e;exact lq _ _ _ _ (λq=>h (q▸.head _))
 |many is=>exact fI e λvs J e2=>jr cx e2 λq=>h (List.mem_reverse.mpr q)
theorem FB.put{tb:bq}{hs L m B}(nd:tb.Nodup)(lr:FB tb hs L m B){i x v y}(hi:tb[i]? = some x)(rv:VR hs v y):FB tb hs (aX i v L) (λz=>if z=x then some y else m z) (i::B):=by
 intro j hj u e;rw[br]at e;split at e
 ·rename_i q;clear hj;subst q;obtain rfl:=aK e;exact ⟨x,y,hi,by simp,rv⟩
 ·rename_i q;refine a7 λkC=>?_;rcases b8.mp hj with rfl|hj
  ·exact kC (Uj rfl q)
  ·obtain ⟨z,w,h1,h2,h3⟩:=lr j hj u e;refine kC ⟨z,w,h1,?_,h3⟩;have:¬z=x:=λe'=>q (oo nd (e'▸h1) hi);simp[this,h2]
section
variable {W:Wd}
theorem Ch.next{tb hs}{sc:Scope}{L L1 m}(r:Ch tb hs sc L m)(h:∀i x,tb[i]? = some x->sc.names.lookup x=some .free->aJ i L1=aJ i L):Ch tb hs sc L1 m:=λi x v h1 h2 e=>r i x v h1 h2 ((h i x h1 h2)▸e)
theorem qS{names:List (Str×NameKind)}{is:aC}{Ql:bJ}(r:aL (λi e=>∃x q,e=Expr.Name x q/\W.tb[i]? = some x/\names.lookup x=some .local) is Ql):∀j∈is,∃x,W.tb[j]? = some x/\names.lookup x=some .local:=by
 induction r with
 |nil=>intro j hj;cases hj
 |cons h0 _ ih=>
  intro j hj;cases hj with
  |head=>obtain ⟨x,q,_,h1,h2⟩:=h0;exact ⟨x,h1,h2⟩
  |tail _ q=>exact ih j q
theorem xn{names:List (Str×NameKind)}{t:Ft}{e:Expr}(g:l8 W names t e):∀j∈ua t,∃x,W.tb[j]? = some x/\names.lookup x=some .local:=by
 induction g with
 |one h1 h2=>intro j hj;obtain rfl:=cP.mp hj;exact ⟨_,h1,h2⟩
 |many r=>exact λj hj=>qS r j (List.mem_reverse.mp hj)
theorem vG{xs PQ:List V}{u i}(hd:xs.drop i=u::PQ):xs[i]? = some u/\xs.drop (i+1)=PQ:=by refine ⟨?_,by exact rW (UR ..).symm (rW hd rfl)⟩;have:(xs.drop i)[0]? = some u:=rW hd rfl;rwa [List.getElem?_drop]at this
theorem qp{bind:V->aR->St->Option aR}{PX:St->Bool}{Qt:aR->St->Option (List V×St)}{L:aR}{σ σ':St}{u:V}{PQ vs:List V}{P:Prop}(e:dc bind PX Qt (u::PQ) L σ=some (vs,σ'))
 (k:PX σ=true->∀L1,bind u L σ=some L1->∀w1 σ2,Qt L1 σ=some (w1,σ2)->∀Ta,dc bind PX Qt PQ L1 σ2=some (Ta,σ')->w1++Ta=vs->P):P:=
 jW (eR.symm.trans e) λQw e1=>fI e1 λL1 b1 e1=>cF e1 λw1 σ2 e2 e5=>cF e5 λTa σ3 b3 e6=>by obtain ⟨q,rfl⟩:=Prod.mk.inj (aK e6);exact k Qw L1 b1 w1 σ2 e2 Ta b3 q
end
section
variable {z:Am}{W:Wd}{cs:Scope}{cp:Option Cp}{m:bG}{X Y:bf}{σ:St}{ps:PZ}
noncomputable def Zc(z:Am)(ps:PZ)(m:bG)(C:Addr)(Y:bf):Zf:=λL B m' X'=>m'=m/\∃o mc,X'=(C,o)::Y/\xx o mc/\FB z.W.tb (be ps) L mc B
theorem DX(nd:z.W.tb.Nodup){C}{sc:Scope}(hf:sc.kind=.function):oN z σ ps (jA z.c sc C) sc.names (Zc z ps m C Y):=by
 intro i x v y L B m' X' h tk A Q E hi hl rv S zz k;refine a7 λkC=>?_;obtain ⟨rfl,o,mc,rfl,⟨es,ep,q1,q2,q3⟩,lr⟩:=zz;have gC:=(S.N (C,o) (dS _ (.head _))).1;refine kC (wpAny_storeName_local (m:=mc) (m7 hl nofun) ⟨o,es,ep,gC,q1,q2,q3⟩ (λh' Ti hs=>?_) ?_)
 ·refine a7 λkC=>?_;obtain ⟨o',Q8,ep',g',r⟩:=Ti;exact kC (k _ _ h' (S.putX (P:=[]) (cE hs) g') ⟨rfl,o',_,rfl,⟨Q8,ep',r⟩,lr.put nd hi rv⟩)
 ·show (sc.kind==.class||(sc.kind==.module&&_))=false;exact rW hf rfl
inductive rA(W:Wd)(cs:Scope)(cp:Option Cp):PE->bJ->Prop
 |no:rA W cs cp (.i (.bool true)) []
 |one {e:PE}{x:Expr}:mO W cs cp e x->rA W cs cp e [x]
theorem DC{e ifs}(o:rA W cs cp e ifs)(g:Ax W cs z)(p:Pt z){env L b σ' a d Q E}
 (N:Nm cp env p L) (e1:bR z.cx e L p.σ=some (b,σ')) (H:Hb p b σ' λb s=>wpAny z.M z.c.A (if b=true then a>>=λJ=>d else d) Q E s):wpAny z.M z.c.A (B7 ifs env a d) Q E p.sh:=by
 induction o with
 |no=>obtain ⟨rfl,rfl⟩:=Prod.mk.inj (aK (show some (true,p.σ)=some (b,σ') from e1));exact H p.S .rfl p.ht
 |one ho=>exact T5 (T5 (T5 (ho.h g p N b σ' e1 λS le ht=>Ub (Ub (H S le ht)))))
inductive OM(z:Am)(m:bG)(X:bf)(p0:HS)(sc:Scope)(t:Ft)(QW e:PE)(σ1:St)(v:V)(x:Value)(xs:List V)(C I D:Addr)(σ':St)(Tb:List V):List V->Shared->Prop
 |mk (PQ:List V) (i:Nat) (L:aR) (σ:St) (ps:PZ) (h:Heap) (tk:Nat) (ob o:Obj) (mc:bG) (ys:aO) (n:Nat) (P0 vs:List V):xs.drop i=PQ->i<=xs.length->SR z.W z.c m ((C,o)::(I,ob)::(D,listOf ys.toArray n)::X) σ ps h->xx o mc->gk z p0 σ1 v x i ob->aL (VR (be ps)) P0 ys->1<=tk->Ch z.W.tb (be ps) sc L m ->
  dc (λv L s=>cU z.cx s t v L) (λs=>cT z.cx σ1 s v) (λL1 s=>(bR z.cx QW L1 s).bind λ(b,s1)=>mK b s1 (aM z.cx e L1 s1)) PQ L σ=some (vs,σ')->P0++vs=Tb->p0.Le (be ps)->OM z m X p0 sc t QW e σ1 v x xs C I D σ' Tb PQ ⟨h,z.g,z.dr,tk,z.os⟩
theorem xm(g:Ax W cs z){sc:Scope}(hf:sc.kind=.function){t:Ft}{P4 Qk Qt:Expr}{Rc:List Comprehension}{ifs:bJ}{PV:Pos}{QM:Nat}{QW e:PE}{C I D:Addr}{R:Result->Shared->Prop}
 (tg:l8 W sc.names t P4) (Rr:rA W cs (some (sc,ua t)) QW ifs) (he:bK W cs (some (sc,ua t)) e Qt)
 (Ru:compTurn (.ListComp Qt Rc sc PV) QM (.ref I) (.ref D) (jA z.c sc C)=(standAt Qk.pos>>=λJ=>pyNext (.ref I)>>=λr=>match r with
  |none=>pure (.done .next)
  |some v=>letOwnedTupleGo P4 (.ref I) v>>=λJ=>assign P4 (jA z.c sc C) v>>=λJ=>B7 ifs (jA z.c sc C) (Fe Qt (.ref D) (jA z.c sc C)) (again (.compLoop (.ListComp Qt Rc sc PV) QM (.ref I) (.ref D) (jA z.c sc C)))))
 {v:V}{x:Value}{σ1 σ':St}{xs Tb:List V} (hx:dw z.cx σ1 v=some xs) {p0:HS} (rv0:VR p0 v x) (hz:Tb.length<=a8)
 (hR:∀{Qo h' Qr o' mc' Re n'},p0.Le (be Qo)->SR z.W z.c m ((C,o')::(D,listOf (List.toArray Re) n')::X) σ' Qo h'->xx o' mc'->aL (VR (be Qo)) Tb Re->1<=Qr->R (.ok .next) ⟨h',z.g,z.dr,Qr,z.os⟩):
 ∀(PQ:List V) (s:Shared),OM z m X p0 sc t QW e σ1 v x xs C I D σ' Tb PQ s->codeAny z.M z.c.A (.compLoop (.ListComp Qt Rc sc PV) QM (.ref I) (.ref D) (jA z.c sc C)) R s:=by
 obtain rfl:=g.W;intro PQ;induction PQ with
 |nil=>
  intro s J;induction J with
  |mk i L σ ps h tk ob o mc ys n P0 vs hd hi S RY it ra ht lf e1 q p=>
  refine jW (fW.symm.trans e1) λQw e1=>?_;obtain ⟨rfl,rfl⟩:=Prod.mk.inj (aK e1);exact mT Ru (sI (P:=[(C,o)]) g.g S p (rv0.mono p) ((f8 Qw).trans hx) (it.still Qw) (U4 (List.drop_eq_nil_iff.mp hd)) hi g.g.ok.hh λh' S'=>hR p S' RY ((bX P0).symm.trans q▸ra) ht)
 |cons u PQ ih=>
  intro s J;induction J with
  |mk i L σ ps h tk ob o mc ys n P0 vs hd hi S RY it ra ht lf e1 q p=>
  refine qp e1 λQw L1 b1 w1 σ2 e2 Ta b3 q2=>cF e2 λb σ2a b0 e2=>?_;have hui:=vG hd;refine mT Ru (nV (P:=[(C,o)]) g.g S p (rv0.mono p) ((f8 Qw).trans hx) (it.still Qw) hui.1 ht λRQ h1 y1 dU RA S1 ry1 Qd=>FW tg RA (S1.N (I,RQ) (dS _ (.tail _ (.head _)))).1 (wc (Z:=Zc z ps m C ((I,RQ)::(D,listOf ys.toArray n)::X)) g.g (DX g.g.G.co.nd hf) tg (B:=[]) S1 ⟨rfl,o,mc,rfl,RY,nofun⟩ ry1 b1 Qd g.g.ok.hh λm2 X2 h2 Sf S2 z2 Qe=>a7 λkC=>?_));obtain ⟨rfl,o2,mc2,rfl,TH,Rt⟩:=z2;have lf2:Ch z.W.tb (be ps) sc L1 m2:=lf.next λj x h1 h2=>tA b1 λq=>by refine a7 λkC=>?_;obtain ⟨x',h3,h4⟩:=xn tg j q;obtain rfl:=aK (h1.symm.trans h3);refine kC ?_;rw[h2]at h4;cases h4
  have QI:∀{Tw:PZ}{h4:Heap}{tk4:Nat}{Re:aO}{n':Nat},(be ps).Le (be Tw)->SR z.W z.c m2 ((C,o2)::(I,RQ)::(D,listOf Re.toArray n')::X) σ2 Tw h4->aL (VR (be Tw)) (P0++w1) Re->1<=tk4->codeAny z.M z.c.A (.compLoop (.ListComp Qt Rc sc PV) QM (.ref I) (.ref D) (jA z.c sc C)) R ⟨h4,z.g,z.dr,tk4,z.os⟩:=λp4 S4 ra4 QY=>
   ih _ (.mk PQ (i+1) L1 σ2 _ _ _ RQ o2 mc2 _ _ (P0++w1) Ta hui.2 (bY.mp hui.1).1 S4 TH (RA.still (mU Qw)) ra4 QY (lf2.mono p4) b3 (b9.trans (q2▸q)) (p.trans p4))
  have QQ:ys.length<=a8:=rW (ra.len ..).symm (aH (by exact rW q.symm (rW aP (bC ..))) hz);clear ih hR;have N2:Nm (some (sc,ua t)) (jA z.c sc C) (⟨_,_,_,_,_,_,S2,Qe⟩:Pt z) L1:=⟨C,o2,mc2,rfl,.head _,TH,(bX (ua t))▸Rt,lf2⟩
  refine kC (DC Rr g _ N2 b0 λS9 p9 ht9=>?_);clear b0 q2 b3;induction b with
  |false=>obtain ⟨rfl,rfl⟩:=Prod.mk.inj (aK e2);exact Ub ⟨rfl,QI p9 S9 (rW (bX ..) (AR.mono p9 ra)) ht9⟩
  |true=>
  refine zG e2 λw σ2' b2 q=>?_;obtain ⟨rfl,rfl⟩:=Prod.mk.inj (aK q);refine T5 (T5 (he.h g (Pt.to _ S9 ht9) (N2.up (Pt.leTo _ S9 ht9 p9)) w _ b2 λ{ps3 h3 tk3 y3} S3 p3 r3 QC=>T5 (append_at (s:=⟨h3,z.g,z.dr,tk3,z.os⟩) (S3.N (D,listOf ys.toArray n) (dS _ (.tail _ (.tail _ (.head _))))).1 (λh4 hs4 ho4=>Ub (Ub ⟨rfl,?_⟩)) (rW (UP ..) (rW (sizeLine_eq ..) (aH QQ (by decide)))))));rw[show ys.toArray.push y3=(ys++[y3]).toArray from List.push_toArray ..]at ho4;have p93:=HS.Le.trans p9 p3;exact QI p93 (S3.putX (P:=[(C,o2),(I,RQ)]) (cE hs4) ho4) ((AR.mono p93 ra).snoc r3) QC
end
end
section
section
variable {W:Wd}{cs:Scope}{cp:Option Cp}{c:Fc}{m:bG}{X X':bf}{σ:St}{ps:PZ}{h:Heap}{A:Around}
theorem SR.perm(S:SR W c m X σ ps h)(p:X.Perm X'):SR W c m X' σ ps h:=by
 refine ⟨S.F,λq hq=>S.N q ?_,?_,S.rel,S.fz⟩
 ·rcases List.mem_append.mp hq with hq|hq
  ·exact UO _ hq
  ·exact dS _ (p.mem_iff.mpr hq)
 ·have:((ps.flatten++X).map (·.1)).Perm ((ps.flatten++X').map (·.1)):=List.Perm.map _ (List.Perm.append_left _ p);exact this.nodup_iff.mp S.nd
theorem Cw{z P7 w E hs σ v x i ob I}{Q:bw}{s:Shared}(it:gk z hs σ v x i ob)(hI:s.heap.get? I=some ob)(h:Q (.ref I) s):
 wpAny (model P7 w) A (pyIter (.ref I)) Q E s:=by
 induction it with
 |str h1 h2 h3 h4=>
  rcases h3 with h3|h3
  ·exact wpAny_pyIter_striter_ascii ⟨ob,hI,h3,h4⟩ h
  ·exact wpAny_pyIter_striter_wide ⟨ob,hI,h3,h4⟩ h
 |list h1 h2 h3 h4=>exact wpAny_pyIter_listiter ⟨ob,hI,h3,h4⟩ h
 |tuple h1 h2 h3 h4=>exact wpAny_pyIter_tupleiter ⟨ob,hI,h3,h4⟩ h
 |rng h1 h2=>subst h2;exact wpAny_pyIter_rangeiter hI h
 |dict h1 h3 h4 h5 h6 h7=>exact wpAny_pyIter_keyiter ⟨ob,hI,h6,h7⟩ h
structure w5(cs:Scope)(cp:Option Cp)(sc:Scope):Prop where
 free:∀x∈sc.names,x.2=.free->cp=none/\cs.names.lookup x.1=some .cell
 cell:∀x∈sc.names,x.2≠.cell
 kind:sc.kind=.function
 names:∀x∈sc.names,x.2=.local->sc.names.lookup x.1=some .local
theorem uU{env:Env}{cl:List (Str×Addr)}{sc:Scope}(h:∀x∈sc.names,x.2=.free->∃A,env.cells.lookup x.1=some A/\cl.lookup x.1=some A):closureFor sc env=pure (iD cl sc.names []):=by
 unfold closureFor;have P':∀(l:List (Str×NameKind)) (P0:List (Str×Addr)),(∀x∈l,x.2=.free->∃A,env.cells.lookup x.1=some A/\cl.lookup x.1=some A) ->
  (forIn l P0 λ(x:Str×NameKind) (r:List (Str×Addr))=>(match x with
   |(name,Rz)=>if (Rz==NameKind.free)=true then do
    let c <-cellOf env name
    pure (ForInStep.yield ((name,c)::r))
    else pure (ForInStep.yield r):Sem _))=pure (iD cl l P0):=by
  intro l;induction l with
  |nil=>intro P0 _;rfl
  |cons p r ih=>
   intro P0 hl;obtain ⟨n,k⟩:=p;refine rW (List.forIn_cons ..) ?_;dsimp only;refine rW (show iD cl ((n,k)::r) P0=iD cl r (if k==.free then (n,(cl.lookup n).getD 0)::P0 else P0) from rfl ..) ?_;by_cases q:(k==NameKind.free)=true
   ·refine a7 λkC=>?_;obtain ⟨A,e1,e2⟩:=hl _ (.head _) (eq_of_beq q);refine kC ?_;have e1:env.cells.lookup n=some A:=e1;have e2:cl.lookup n=some A:=e2;refine rW (T6 q ..) (rW (T6 q ..) (rW e2 ?_));unfold cellOf;exact rW e1 (ih _ λx hx=>hl x (.tail _ hx))
   ·exact rW (T8 q ..) (rW (T8 q ..) (ih _ λx hx=>hl x (.tail _ hx)))
 exact (Qg (·>>=pure) (P' sc.names [] h)).trans rfl
theorem Vw.free{sc:Scope}(so:w5 cs cp sc)(hc:c.cs=cs)(ck:gy cs){env hs L}(V:Vw W cp c env m X hs L):closureFor sc env=pure (iD c.cl sc.names [])/\(∀C,compEnvC sc (iD c.cl sc.names []) C env=jA c sc C)/\Ch W.tb hs sc L m:=by
 subst hc;induction cp<;>unfold Vw at V
 ·obtain ⟨rfl,lr⟩:=V;refine ⟨uU λx hx hf=>?_,λJ=>rfl,λi x v h1 J e=>?_⟩
  ·obtain ⟨A,e⟩:=ck.cell (n:=c.L+1) (so.free x hx hf).2;exact ⟨A,(by show c.cl.lookup _=_;rw[Fc.cl,e];simp),by rw[Fc.cl,e];simp⟩
  ·refine a7 λkC=>?_;obtain ⟨x',y,q1,q2,q3⟩:=lr i v e;obtain rfl:=aK (h1.symm.trans q1);exact kC ⟨y,q2,q3⟩
 ·have nf:∀x∈sc.names,x.2≠.free:=λx hx hf=>nomatch (so.free x hx hf).1;refine a7 λkC=>?_;obtain ⟨_,_,_,rfl,_⟩:=V;refine kC ⟨uU λx hx hf=>Uj hf (nf x hx),λC=>?_,λi x v h1 h2 e=>Uj rfl (nf _ (mem_of_lookup h2))⟩;have e:∀env:Env,relabel sc env=sc:=λenv=>by
   unfold relabel;have:(sc.names.map λ(n,k)=>if (k==NameKind.free&&env.scope.kind==.function&&env.kindOf n==some .cell) then (n,NameKind.cell) else (n,k))=sc.names:=by refine (Un λx hx=>?_).trans (List.map_id _);have:(x.2==NameKind.free)=false:=beq_eq_false_iff_ne.mpr (nf x hx);dsimp only;exact rW this rfl
   exact rW this rfl
  show Env.mk (relabel sc _) ..=Env.mk (relabel sc _) ..;rw[e,e];rfl
end
section
variable {W:Wd}{cs:Scope}{cp:Option Cp}{z:Am}{X:bf}{p:Pt z}{env:Env}{L:aR}
theorem xL(a:Ax W cs z){sc}(so:w5 cs cp sc){e Qk Qt P4 ifs PV pp use Q E v σ1 xs}
 (hit:bK W cs cp e Qk) (hs:∀env x,foldedSetIterable Qk env x=pure x) (N:Nm cp env p L) (e1:aM z.cx e L p.σ=some (v,σ1)) (hx:dw z.cx σ1 v=some xs)
 (loop:∀{Q1 h1 dU}{x:Value}{C I D:Addr}{o ob:Obj},p.hs.Le (be Q1)->SR z.W z.c p.m ((C,o)::(I,ob)::(D,listOf ([]:aO).toArray 0)::p.X) σ1 Q1 h1->xx o (λJ=>none)->gk z (be Q1) σ1 v x 0 ob->VR (be Q1) v x->1<=dU ->
  codeAny z.M z.c.A (.compLoop (.ListComp Qt [⟨P4,Qk,ifs,0⟩] sc PV) 0 (.ref I) (.ref D) (jA z.c sc C)) (compPost z.M z.c.A E use Q (.ref D) C) ⟨h1,z.g,z.dr,dU,z.os⟩):
 wpAny z.M z.c.A (comprehension (.ListComp Qt [⟨P4,Qk,ifs,0⟩] sc PV) sc env pp (newList []) false (eval Qk env) use) Q E p.sh:=by
 refine a7 λkC=>?_;obtain ⟨fc,fe,_⟩:=Vw.free so a.cs (a.cs▸a.g.ok.ck) N;refine kC (wpAny_comprehension_free (use:=use) rfl (λx=>hs env x) fc so.kind so.names (hit.h a p N v σ1 e1 λ{Q1 h1 dU y1} S1 p1 r1 Qd=>(sS a.g S1 r1 hx λI ob h2 Sg S2=>wpAny_newObj_type (hd:=by size_fits) ?_)));have S3:=S2.take { cls:=.type "list",data:=.seq ([]:aO).toArray } rfl;refine wpAny_newFunctionEnv so.cell (by intro y hy;simp at hy) (λh4 RY hsb=>?_) so.kind;have S4:=S3.take { cls:=.type "dict",data:=.dict #[] } rfl;refine a7 λkC=>?_;obtain ⟨o,es,ep,go,q1,q2,q3⟩:=RY;refine kC ?_;have S5:=S4.putX (P:=[]) (cE hsb) go;have S6:=S5.perm (X':=(_,o)::(I,ob)::(h2.objs.size,listOf ([]:aO).toArray 0)::p.X) (List.Perm.cons _ (List.Perm.swap ..));have P':codeAny z.M z.c.A (.compLoop (.ListComp Qt [⟨P4,Qk,ifs,0⟩] sc PV) 0 (.ref I) (.ref h2.objs.size) (compEnvC sc (iD z.c.cl sc.names []) (h2.push { cls:=.type "list",data:=.seq ([]:aO).toArray }).objs.size env))
  (compPost z.M z.c.A E use Q (.ref h2.objs.size) (h2.push { cls:=.type "list",data:=.seq ([]:aO).toArray }).objs.size) ⟨h4,z.g,z.dr,dU,z.os⟩:=by
  rw[fe];exact loop p1 S6 ⟨es,ep,q1,q2,q3⟩ Sg r1 Qd
 exact codeAny_compStart_list P' (Cw Sg (S6.N (I,ob) (dS _ (.tail _ (.head _)))).1 P')
theorem sC{m}{σ:St}{ps:PZ}{h C D o}{ys:aO}{n}{vs:List V}(S:SR z.W z.c m ((C,o)::(D,listOf ys.toArray n)::X) σ ps h)(ra:aL (VR (be ps)) vs ys)(hl:vs.length<=a8):
 SR z.W z.c m ((C,o)::X) (σ++[.list vs]) (ps.add [(D,listOf ys.toArray n)]) h/\VR (be (ps.add [(D,listOf ys.toArray n)])) (.ref σ.length) (.ref D):=by
 exact ⟨SR.claim (S.perm (X':=(D,listOf ys.toArray n)::(C,o)::X) (List.Perm.swap ..)) (Heap.SameBut.refl _ _) (S.N (D,listOf ys.toArray n) (dS _ (.tail _ (.head _)))).1 (.list (AR.mono .add ra) (aH hl (bC _ _))),(rW (fP ..) (VR.last (ic.trans S.len.symm)))⟩
def OZ(p:Pt z)(E:bw)(use:Option (Value->Sem Unit))(Q:bw)(b:V)(σ':St):Prop:=
 ∀{ps:PZ}{h:Heap}{tk:Nat}{C:Addr}{o:Obj}{D:Addr}{mc:bG},SR z.W z.c p.m ((C,o)::p.X) σ' ps h->p.hs.Le (be ps)->xx o mc->VR (be ps) b (.ref D)->1<=tk->compPost z.M z.c.A E use Q (.ref D) C (.ok .next) ⟨h,z.g,z.dr,tk,z.os⟩
theorem uI(a:Ax W cs z){sc:Scope}(so:w5 cs cp sc){t e QW el P4 Qk Qt ifs PV pp use}(tg:l8 W sc.names t P4)(hit:bK W cs cp e Qk)(Rr:rA W cs (some (sc,ua t)) QW ifs)(he:bK W cs (some (sc,ua t)) el Qt)(hs:∀env x,foldedSetIterable Qk env x=pure x)
 (N:Nm cp env p L) {b:V}{σ':St} (ee:aM z.cx (.comp t e QW el) L p.σ=some (b,σ')) {Q E:bw}
 (H:OZ p E use Q b σ'):
 wpAny z.M z.c.A (comprehension (.ListComp Qt [⟨P4,Qk,ifs,0⟩] sc PV) sc env pp (newList []) false (eval Qk env) use) Q E p.sh:=
 cF (eQ.symm.trans ee) λv0 σ1 e1 e=>fI e λxs hx e=>cF e λvs σ2 e2 e3=>jW e3 λRp e3=>
  xL a so hit hs N e1 hx λp1 S1 RY RA rv Qd=>xm a so.kind tg Rr he (Ka ..) hx rv Rp (λp7 S7 hns7 ra7 ht7=>by obtain ⟨S9,r9⟩:=sC S7 ra7 Rp;exact pE (OZ p E use Q) e3 H S9 ((p1.trans p7).trans et) hns7 r9 ht7) xs _ (.mk xs 0 L σ1 _ _ _ _ _ _ [] 0 [] vs rfl (bu _) S1 RY RA .nil Qd ((Vw.free so a.cs (a.cs▸a.g.ok.ck) N).2.2.mono p1) e2 rfl .rfl)
theorem CE{sc:Scope}(so:w5 cs cp sc){t e QW el P4 Qk Qt ifs PV}(tg:l8 W sc.names t P4)(hit:bK W cs cp e Qk)(Rr:rA W cs (some (sc,ua t)) QW ifs)(he:bK W cs (some (sc,ua t)) el Qt)(hs:∀env x,foldedSetIterable Qk env x=pure x):
 bK W cs cp (.comp t e QW el) (.ListComp Qt [⟨P4,Qk,ifs,0⟩] sc PV):=by
 refine ⟨λa p env L N b σ' ee Q E H=>(rW (eval_ListComp ..) (uI a so tg hit Rr he hs N ee λ{_ _ _ _ o7 _ mc7} S p1 RY r ht=>a7 λkC=>?_))⟩;obtain ⟨es7,ep7,z1,z2,z3⟩:=RY;exact kC ⟨mc7,⟨o7,es7,ep7,(S.N (_,o7) (dS _ (.head _))).1,z1,z2,z3⟩,λh8 hs8=>H (S.dropX (P:=[]) (cE hs8)) p1 r ht⟩
end
end
section
inductive EF(hs:HS):Fl->Flow->Prop
 |next:EF hs .next .next
 |brk:EF hs .brk .brk
 |cont:EF hs .cont .cont
 |ret {v:V}{y:Value}:VR hs v y->EF hs (.ret v) (.ret y)
theorem EF.mono{hs QF:HS}{fl f}(r:EF hs fl f)(p:hs.Le QF):EF QF fl f:=by
 induction r with
 |next=>exact .next
 |brk=>exact .brk
 |cont=>exact .cont
 |ret h=>exact .ret (h.mono p)
section
variable {c:Cx}{L:aR}{σ:St}{z:Nat}
theorem Bm:PT c [] z L σ=some (.next,L,σ):=rfl
theorem cR{s r}:PT c (s::r) z L σ=(ms c s z L σ).bind λ(f,L1,σ1)=>match f with|.next=>PT c r z L1 σ1|f=>some (f,L1,σ1):=rfl
theorem lZ{e}:ms c (.expr e) z L σ=(aM c e L σ).map λ(_,σ1)=>(.next,L,σ1):=rfl
theorem dm{t e}:ms c (.j t e) z L σ=(aM c e L σ).bind λ(v,σ1)=>(mN c t v L σ1).map λ(L1,σ2)=>(.next,L1,σ2):=rfl
theorem ib{ts e}:ms c (.Z ts e) z L σ=(aM c e L σ).bind λ(v,σ1)=>(d5 c σ1 v).bind λvs=>(mh c ts vs L σ1).map λ(L1,σ2)=>(.next,L1,σ2):=rfl
theorem eT{i op e}:ms c (.aj i op e) z L σ=(aJ i L).bind λa=>(aM c e L σ).bind λ(b,σ1)=>(tC c op a b σ1).map λ(v,σ2)=>(.next,aX i v L,σ2):=rfl
theorem Aw{o e f op}:ms c (.au o f op e) z L σ=(aM c o L σ).bind λ(ov,σ1)=>(eP c ov f σ1).bind λ(a,σ2)=>(aM c e L σ2).bind λ(b,σ3)=>(tC c op a b σ3).bind λ(v,σ4)=>(gZ c ov f v σ4).map λs=>(.next,L,s):=rfl
theorem ql{o i e op}:ms c (.ai o i op e) z L σ=(aM c o L σ).bind λ(ov,σ1)=>(aM c i L σ1).bind λ(iv,σ2)=>(xI c σ2 ov iv).bind λa=>(aM c e L σ2).bind λ(b,σ3)=>(tC c op a b σ3).bind λ(v,σ4)=>(jn ov iv v σ4).map λs=>(.next,L,s):=rfl
theorem jp{t b o}:ms c (.ifs t b o) z L σ=(bR c t L σ).bind λ(x,σ1)=>match x with|true=>PT c b z L σ1|false=>PT c o z L σ1:=rfl
theorem uX{e}:ms c (.ret e) z L σ=(aM c e L σ).map λ(v,σ1)=>(.ret v,L,σ1):=rfl
theorem G'{o f v}:mN c (.a o f) v L σ=(aM c o L σ).bind λ(ov,σ1)=>(gZ c ov f v σ1).map λs=>(L,s):=rfl
theorem G7{o i v}:mN c (.s o i) v L σ=(aM c o L σ).bind λ(ov,σ1)=>(aM c i L σ1).bind λ(iv,σ2)=>(jn ov iv v σ2).map λs=>(L,s):=rfl
end
section
variable {z:Am}{p q:Pt z}{X:bf}{hz hs:HS}{L L':aR}{σ':St}{n:Nat}
def Hs(z:Am)(X:bf)(hz:HS)(fl:Fl)(L':aR)(σ':St)(Q:Flow->Shared->Prop):Prop:=
 ∀{m:bG}{ps:PZ}{h:Heap}{t:Nat}{f:Flow},SR z.W z.c m X σ' ps h->hz.Le (be ps)->LR z.W.tb (be ps) L' m->EF (be ps) fl f->1<=t->Q f ⟨h,z.g,z.dr,t,z.os⟩
theorem Hs.eq{fl f L σ Q}(k:Hs z X hz fl L' σ' Q)(e:some (f,L,σ)=some (fl,L',σ')):Hs z X hz f L σ Q:=xk (λf l s=>Hs z X hz f l s Q) e k
structure AU(hz:HS)(n:Nat)(p:Pt z)(L:aR):Prop where
 lr:LR z.W.tb p.hs L p.m
 len:hz.a.length=n
 le:hz.Le p.hs
theorem AU.up(s:AU hz n p L)(a:p.Le q):AU hz n q L:=⟨a.m▸s.lr.mono a.le,s.len,s.le.trans a.le⟩
theorem LR.nm(lr:LR z.W.tb p.hs L p.m):Nm none z.c.env p L:=⟨rfl,lr⟩
theorem AU.nm(s:AU hz n p L):Nm none z.c.env p L:=⟨rfl,s.lr⟩
theorem AU.out(s:AU hz n p L){fl f σ'}{Q:Flow->Shared->Prop}(k:Hs z p.X hz fl L σ' Q){ps h t}(S:SR z.W z.c p.m p.X σ' ps h)(le:p.hs.Le (be ps))(r:EF (be ps) fl f)(ht:1<=t):Q f ⟨h,z.g,z.dr,t,z.os⟩:=k S (s.le.trans le) (s.lr.mono le) r ht
def Ss(hz:HS)(p:Pt z)(a:Sem Flow)(o:Option (Fl×aR×St)):Prop:=∀fl L' σ',o=some (fl,L',σ')->∀{Q:Flow->Shared->Prop}{E:bw},Hs z p.X hz fl L' σ' Q->wpAny z.M z.c.A a Q E p.sh
def Ha(z:Am)(X:bf)(hs:HS)(L':aR)(σ':St)(Q:Unit->Shared->Prop):Prop:=
 ∀{m:bG}{ps:PZ}{h:Heap}{t:Nat},SR z.W z.c m X σ' ps h->hs.Le (be ps)->LR z.W.tb (be ps) L' m->1<=t->Q () ⟨h,z.g,z.dr,t,z.os⟩
theorem Ha.eq{L s Q}(k:Ha z X hs L' σ' Q)(e:some (L,s)=some (L',σ')):Ha z X hs L s Q:=pE (λl s=>Ha z X hs l s Q) e k
theorem ub{m X σ ps h tk A}(nd:z.W.tb.Nodup)(ck:gy z.c.cs)(S:SR z.W z.c m X σ ps h){L}(lr:LR z.W.tb (be ps) L m){i x v y}{Q:Unit->Shared->Prop}{E}(hi:z.W.tb[i]? = some x)(rv:VR (be ps) v y)(hk:z.c.cs.names.lookup x=some .cell)(hf:z.c.cs.kind=.function)
 (k:∀m' Qo h',be Qo=be ps->SR z.W z.c m' X σ Qo h'->LR z.W.tb (be ps) (aX i v L) m'->Q () ⟨h',z.g,z.dr,tk,z.os⟩):wpAny z.M A (storeName z.c.env x y) Q E ⟨h,z.g,z.dr,tk,z.os⟩:=by
 refine a7 λkC=>?_;obtain ⟨B,o,e1,e2,e3,e4⟩:=S.cell ck hk;refine kC ?_;have ef:∀o,(PZ.mk ps.p ps.zl ps.z [(B,o)]).flatten++X=(ps.p.flatten++ps.zl)++(B,o)::X:=λo=>by show (ps.p.flatten++(ps.zl++[(B,o)]))++X=_;simp
 have e0:ps.flatten++X=(ps.p.flatten++ps.zl)++(B,o)::X:=(ef o)▸e2▸rfl;have N:=S.N;have n0:=S.nd;rw[e0]at N n0;have nb:=N (B,o) (dS _ (.head _));have n1:=n0;rw[ba,Ul]at n1;refine a7 λkC=>?_;obtain ⟨_,n2,n3⟩:=List.nodup_append.mp n1;refine kC (wpAny_storeName_cell hf hk (c:=B) (by show z.c.cl.lookup _=_;refine rW e1 ?_;simp) ⟨o,e4,e3⟩ λh' ⟨o',g',d'⟩ hs=>?_);refine k (λw=>if w=x then some y else m w) ⟨ps.p,ps.zl,ps.z,[(B,o')]⟩ h' rfl ⟨?_,?_,?_,S.rel,S.fz.1,?_⟩ (lr.put nd hi rv)
 ·refine a7 λkC=>?_;obtain ⟨g0,G0,m0,QO,F0⟩:=S.F.change hs nb.2.1 nb.2.2;refine kC ⟨g0,G0,m0,λw hz=>(QO w hz).trans ?_,F0⟩;have:¬w=x:=λe=>by rw[e1,e]at hz;simp at hz
  dsimp only;exact rW (T8 this ..) rfl
 ·rw[ef];exact N.setAt (λp hp e=>n3 _ (UM hp) _ (.head _) e) (λp hp e=>(List.nodup_cons.mp n2).1 (List.mem_map.mpr ⟨p,hp,e⟩)) hs g'
 ·rw[ef];simpa using n0
 ·exact rW e1 (.cons (d'.trans (rW (T6 rfl ..) rfl)) .nil)
end
structure jX(W:Wd)(cs:Scope)(s:PS)(st:Stmt):Prop where
 h:∀{z:Am},Ax W cs z->∀(p:Pt z) {L:aR}{n:Nat}{hz:HS},AU hz n p L->Ss hz p (exec st z.c.env) (ms z.cx s n L p.σ)
structure fZ(W:Wd)(cs:Scope)(ss:List PS)(Qv:fh):Prop where
 h:∀{z:Am},Ax W cs z->∀(p:Pt z) {L:aR}{n:Nat}{hz:HS},AU hz n p L->Ss hz p (execs Qv z.c.env) (PT z.cx ss n L p.σ)
structure rB(W:Wd)(cs:Scope)(t:Tg)(x:Expr):Prop where
 h:∀{z:Am},Ax W cs z->∀(p:Pt z) {L:aR},LR z.W.tb p.hs L p.m->∀{v:V}{y:Value},VR p.hs v y->∀{L':aR}{σ':St},mN z.cx t v L p.σ=some (L',σ')->∀{Q:Unit->Shared->Prop}{E:bw},Ha z p.X p.hs L' σ' Q->wpAny z.M z.c.A (assign x z.c.env y) Q E p.sh
section
variable {W:Wd}{cs:Scope}
theorem Ar:fZ W cs [] []:=⟨λa p L n hz s fl L' σ' e Q E H=>wpAny_execs_nil (s.out (H.eq (Bm.symm.trans e)) p.S .rfl .next p.ht)⟩
theorem xd{s st ss Qv}(hs:jX W cs s st)(RG:fZ W cs ss Qv):fZ W cs (s::ss) (st::Qv):=by
 refine ⟨λa p L n hz i fl L' σ' e Q E H=>Dn (cR.symm.trans e) λf1 L1 σ1 e1 e2=>wpAny_execs_cons (hs.h a p i f1 L1 σ1 e1 λS le lr fr ht=>?_)⟩;clear e1;induction fr with
 |next=>exact RG.h a ⟨_,_,_,_,_,_,S,ht⟩ ⟨lr,i.len,le⟩ fl L' σ' e2 H
 |brk=>exact (H.eq e2) S le lr .brk ht
 |cont=>exact (H.eq e2) S le lr .cont ht
 |ret hv=>exact (H.eq e2) S le lr (.ret hv) ht
theorem BR{PV}:jX W cs .pass (.Pass PV):=⟨λa p L n hz s fl L' σ' e Q E H=>wpAny_Pass (s.out (H.eq e) p.S .rfl .next p.ht)⟩
theorem Ew{PV}:jX W cs .brk (.Break PV):=⟨λa p L n hz s fl L' σ' e Q E H=>wpAny_Break (s.out (H.eq e) p.S .rfl .brk p.ht)⟩
theorem yv{PV}:jX W cs .cont (.Continue PV):=⟨λa p L n hz s fl L' σ' e Q E H=>wpAny_Continue (s.out (H.eq e) p.S .rfl .cont p.ht)⟩
theorem Ea{e x PV}(he:bK W cs none e x):jX W cs (.ret e) (.Return (some x) PV):=
 ⟨λa p L n hz s fl L' σ' ee Q E H=>zG (uX.symm.trans ee) λv σ1 e1 e=>wpAny_Return_some (he.h a p s.nm v σ1 e1 λS le r ht=>s.out (H.eq e) S le (.ret r) ht)⟩
theorem AP{e x}{PV:Pos}(he:bK W cs none e x)(hs:∀env,swapsWith x none PV.line env=pure false):jX W cs (.expr e) (.Expr x PV):=
 ⟨λ{z} a p L n hz s fl L' σ' ee Q E H=>zG (lZ.symm.trans ee) λv σ1 e1 e=>wpAny_Expr_any (he.h a p s.nm v σ1 e1 λS le r ht=>s.out (H.eq e) S le .next ht) (by show (z.c.cs.kind==.module&&_)=false;exact rW (a.g.ok.kind ..) rfl) (hs _)⟩
theorem oF{i x pp}(hi:W.tb[i]? = some x)(hk:cs.names.lookup x=some .local\/cs.names.lookup x=some .cell):rB W cs (.l i) (.Name x pp):=by
 refine ⟨λa p L lr v y rv L' σ' e Q E H=>?_⟩;have H:Ha _ p.X p.hs _ _ Q:=H.eq e;obtain rfl:=a.W;obtain rfl:=a.cs;refine rW (arm_assign_Name ..) (T5 (UG (wpAny_bindName ?_)));rcases hk with hk|hk
 ·exact fR a.g.G.co.nd a.g.ok.ck p.S lr hi rv hk a.g.ok.kind λm' h' S' R9=>H S' .rfl R9 (dU 1 p.ht)
 ·exact ub a.g.G.co.nd a.g.ok.ck p.S lr hi rv hk a.g.ok.kind λm' Qo h' q S' R9=>H S' (q▸.rfl) (q▸R9) p.ht
theorem I9{o f x nm pp}(hn:W.tb[f]? = some nm)(ho:bK W cs none o x):rB W cs (.a o f) (.Attribute x nm pp):=by exact ⟨λa p L lr v y rv L' σ' e Q E H=>cF (G'.symm.trans e) λov σ1 e1 e=>xV e λs e2 e3=>(rW (arm_assign_Attribute ..) (T5 (Ud (ho.h a p lr.nm ov σ1 e1 λS1 p1 r1 Qd=>T5 (UG (T5 (Ud (lH (p:=p.to S1 Qd) a.g (a.W▸hn) r1 (rv.mono p1) e2 λS2 he Qe=>d7 ((H.eq e3) S2 (he▸p1) (he▸lr.mono p1) Qe)))))))))⟩
theorem IE{o i x y pp}(ho:bK W cs none o x)(hi:bK W cs none i y):rB W cs (.s o i) (.Subscript x y pp):=by refine ⟨λa p L lr v w rv L' σ' e Q E H=>cF (G7.symm.trans e) λov σ1 e1 e=>cF e λiv σ2 e2 e=>xV e λs e3 e4=>(rW (arm_assign_Subscript ..) (T5 (Ud (ho.h a p lr.nm ov σ1 e1 λS1 p1 r1 Qd=>T5 (Ud (hi.h a (p.to S1 Qd) (lr.nm.up (p.leTo S1 Qd p1)) iv σ2 e2 λS2 p2 r2 Qe=>T5 (UG (T5 (Ud ?_)))))))))⟩;have QZ:=p1.trans p2;exact m8 (p:=p.to S2 Qe) (r1.mono p2) r2 (rv.mono QZ) e3 λS3 he QC=>d7 ((H.eq e4) S3 (he▸QZ) (he▸lr.mono QZ) QC)
theorem sn{t e x y}{PV:Pos}(QT:rB W cs t x)(he:bK W cs none e y)(hs:∀env,swapsWithSole [x] y PV.line env=pure false)(hw:∀env,swappedStores [x] y env=pure none)
 (ha:∀env,assignEach [x] env=[(false,assign x env)]):jX W cs (.j t e) (.Assign [x] y PV):=by
 refine ⟨λa p L n hz i fl L' σ' ee Q E H=>cF (dm.symm.trans ee) λv σ1 e1 e=>zG e λL1 σ2 e2 e=>wpAny_Assign_stores (he.h a p i.nm v σ1 e1 λS1 p1 r1 Qd=>?_) (hs _) (hw _)⟩;rw[ha];exact QT.h a (p.to S1 Qd) (i.lr.mono p1) r1 e2 λS2 p2 Rt Qe=>(H.eq e) S2 (i.le.trans (HS.Le.trans p1 p2)) Rt .next Qe
theorem rT{sc:Scope}(so:w5 cs none sc){t e QW el P4 Qk Qt ifs i y}{py PV Ts:Pos}(tg:l8 W sc.names t P4)(hit:bK W cs none e Qk)(Rr:rA W cs (some (sc,ua t)) QW ifs)(he:bK W cs (some (sc,ua t)) el Qt)(hs:∀env x,foldedSetIterable Qk env x=pure x)
 (hi:W.tb[i]? = some y) (hk:cs.names.lookup y=some .local) (hln:(py.line==PV.line)=true) (hno:(sc.names.any λx=>x.1==y&&(x.2==.local||x.2==.cell))=false):
 jX W cs (.j (.l i) (.comp t e QW el)) (.Assign [.Name y py] (.ListComp Qt [⟨P4,Qk,ifs,0⟩] sc PV) Ts):=by
 refine ⟨λ{z} a p L n hz s fl L' σ' ee Q E H=>cF (dm.symm.trans ee) λv σ3 q1 q=>zG q λL1 σ4 q2 q3=>?_⟩;have hsw:swapsWith (.ListComp Qt [⟨P4,Qk,ifs,0⟩] sc PV) (some (.Name y py)) Ts.line z.c.env=pure true:=by show (pure (_&&_&&_ && !_):Sem Bool)=_;rw[show (z.c.env.blockKind==.function)=true by unfold Env.blockKind;rw[show z.c.env.scope.kind=.function from a.g.ok.kind];rfl,show z.c.env.kindOf y=some .local by show z.c.cs.names.lookup _=_;rw[a.cs];exact hk];show (pure (_&&(py.line==PV.line) && !(sc.names.any λx=>x.1==y&&(x.2==.local||x.2==.cell))):Sem Bool)=_;exact rW hln (rW hno rfl)
 refine rW (exec_Assign_Name_used _ _ _ _ hsw ..) (T5 (UG (T5 ?_)));show wpAny _ _ (do let _ <-comprehension (.ListComp Qt [⟨P4,Qk,ifs,0⟩] sc PV) sc z.c.env _ (newList []) false (eval Qk z.c.env) (some (assign (.Name y py) z.c.env))) _ _ _;refine T5 (UX (uI (Q:=λJ s'=>Q .next s') a so tg hit Rr he hs s.nm q1 λ{_ h _ _ o _ mc7} S p1 RY r ht=>?_) (λJ J hq=>Ub (Ub hq)) λJ J e=>e);show wpAny _ _ (assign (.Name y py) z.c.env _) _ _ _;refine (oF (pp:=py) hi (.inl hk)).h a ⟨_,_,_,_,_,_,S,ht⟩ (s.lr.mono p1) r q2 λS2 p2 Rt Qe=>a7 λkC=>?_;obtain ⟨es7,ep7,z1,z2,z3⟩:=RY;exact kC ⟨mc7,⟨o,es7,ep7,(S2.N (_,o) (dS _ (.head _))).1,z1,z2,z3⟩,λh8 hs8=>(H.eq q3) (S2.dropX (P:=[]) (cE hs8)) (s.le.trans (HS.Le.trans p1 p2)) Rt .next Qe⟩
theorem zZ{z:Am}(a:Ax W cs z){ts}{xs:bJ}(r:aL (rB W cs) ts xs):∀(p:Pt z) {L:aR},LR z.W.tb p.hs L p.m->∀{vs:List V}{ys:aO},aL (VR p.hs) vs ys->∀{L':aR}{σ':St}{Q:Unit->Shared->Prop}{E:bw},mh z.cx ts vs L p.σ=some (L',σ')->Ha z p.X p.hs L' σ' Q ->
 wpAny z.M z.c.A (assignInOrder (xs.map λe=>assign e z.c.env) ys) Q E p.sh:=by
 induction r with
 |nil=>
  intro p L lr vs ys rv L' σ' Q E e H;induction rv using aL.casesOn with
  |nil=>exact Ub ((H.eq e) p.S .rfl lr p.ht)
  |cons _ _=>exact bl e
 |@cons t x ts xs h0 _ ih=>
  intro p L lr vs ys rv L' σ' Q E e H;induction rv using aL.casesOn with
  |nil=>exact bl e
  |@cons v y vs ys h1 h2=>refine cF (show (mN z.cx t v L p.σ).bind _=_ from e) λL1 σ1 e1 e2=>?_;show wpAny _ z.c.A (holding ys (assign x z.c.env y)>>=λJ=>assignInOrder (xs.map λe=>assign e z.c.env) ys) Q E _;exact T5 (Ud (h0.h a p lr h1 e1 λS1 p1 RE Qd=>ih ⟨_,_,_,_,_,_,S1,Qd⟩ RE (AR.mono p1 h2) e2 λS2 p2=>H S2 (p1.trans p2)))
theorem rj{ts e}{Ql:bJ}{n tp y}{PV:Pos}(r:aL (rB W cs) ts Ql)(he:bK W cs none e y)(hs:∀env,swapsWithSole [.Tuple Ql n tp] y PV.line env=pure false)(hw:∀env,swappedStores [.Tuple Ql n tp] y env=pure none)
 (ha:∀env,assignEach Ql env=Ql.map λe=>(false,assign e env)):jX W cs (.Z ts e) (.Assign [.Tuple Ql n tp] y PV):=by
 refine ⟨λ{z} a p L n hz i fl L' σ' ee Q E H=>cF (ib.symm.trans ee) λv σ1 e1 e=>fI e λvs e2 e=>zG e λL1 σ2 e3 e=>Assign_Tuple (he.h a p i.nm v σ1 e1 λS1 p1 r1 Qd=>?_) (hs _) (hw _)⟩;have len:Ql.length=vs.length:=by
  have P':∀{ts:List Tg}{vs:List V}{L:aR}{σ:St}{r:aR×St},mh z.cx ts vs L σ=some r->ts.length=vs.length:=by
   intro ts;induction ts with
   |nil=>intro vs L σ r e;induction vs with
    |nil=>rfl
    |cons _ _=>exact bl e
   |cons a q ih=>intro vs L σ r e;induction vs with
    |nil=>exact bl e
    |cons b q'=>exact cF (show (mN z.cx a b L σ).bind _=_ from e) λJ J J e=>Qg Nat.succ (ih e)
  exact rW (P' e3 ..).symm (rW (r.len ..) rfl)
 refine rW (arm_assign_Tuple ..) (T5 (UG ?_));unfold unpack;rw[ha];have l1:(Ql.map λe=>(false,assign e z.c.env)).length=vs.length:=rW bA (rW len rfl);have l2:(Ql.map λe=>(false,assign e z.c.env)).findIdx? (·.1)=none:=by rw[List.findIdx?_eq_none_iff];intro x hx;obtain ⟨a,_,rfl⟩:=List.mem_map.mp hx;rfl
 have l3:(Ql.map λe=>(false,assign e z.c.env)).map (·.2)=Ql.map λe=>assign e z.c.env:=rW (Up ..) rfl;rw[l1,l2,l3];exact T5 (Ud (eY a.g S1 r1 e2 Qd a.g.ok.hh λh' Qr ys S' Rk QT=>zZ a r ⟨_,_,_,_,_,_,S',QT⟩ (i.lr.mono p1) Rk e3 λS2 p2 Rt Qe=>(H.eq e) S2 (i.le.trans (HS.Le.trans p1 p2)) Rt .next Qe))
theorem zd{i op e x y pp PV}(hi:W.tb[i]? = some x)(hk:cs.names.lookup x=some .local)(he:bK W cs none e y):jX W cs (.aj i op e) (.AugAssign (.Name x pp) (Ca op) y PV):=by
 refine ⟨λa p L n hz s fl L' σ' ee Q E H=>fI (eT.symm.trans ee) λw e0 e=>cF e λb σ1 e1 e=>zG e λv σ2 e2 e=>(a7 λkC=>?_)⟩;obtain rfl:=a.W;obtain rfl:=a.cs;obtain ⟨x',ya,h1,h2,h3⟩:=s.lr i w e0;obtain rfl:=aK (h1.symm.trans hi);obtain ⟨m0,q0,f0⟩:=p.S.F.ns;refine kC ?_;exact wpAny_AugAssign_Name (wpAny_loadName_local (m:=m0) a.g.ok.kind hk f0 ((q0 _ (a.g.ok.ck.q hk nofun)).trans h2) (he.h a p s.nm b σ1 e1 λS1 p1 r1 Qd=>tY (p:=p.to S1 Qd) (h3.mono p1) r1 v σ2 e2 λS2 p2 r2 Qe=>
  fR a.g.G.co.nd a.g.ok.ck S2 (s.lr.mono (HS.Le.trans p1 p2)) hi r2 hk a.g.ok.kind λm' h' S' R9=>(H.eq e) S' (s.le.trans (HS.Le.trans p1 p2)) R9 .next (dU 1 Qe)))
theorem yy{o f op e x y nm pp PV}(hn:W.tb[f]? = some nm)(ho:bK W cs none o x)(he:bK W cs none e y):jX W cs (.au o f op e) (.AugAssign (.Attribute x nm pp) (Ca op) y PV):=by refine ⟨λa p L n hz i fl L' σ' ee Q E H=>cF (Aw.symm.trans ee) λov σ1 e1 e=>cF e λw σ2 e2 e=>cF e λb σ3 e3 e=>cF e λv σ4 e4 e=>xV e λs e5 e=>?_⟩;obtain rfl:=a.W;refine wpAny_AugAssign_AttributeAny (ho.h a p i.nm ov σ1 e1 λS1 p1 r1 Qd=>iZ (p:=p.to S1 Qd) a.g hn r1 w σ2 e2 λS2 p2 r2 Qe=>?_);have QZ:=HS.Le.trans p1 p2;refine he.h a (p.to S2 Qe) (i.nm.up (p.leTo S2 Qe QZ)) b σ3 e3 λS3 p3 r3 QC=>tY (p:=p.to S3 QC) (r2.mono p3) r3 v σ4 e4 λS4 p4 r4 QY=>?_;have p34:=HS.Le.trans p3 p4;exact lH (p:=p.to S4 QY) a.g hn (r1.mono (HS.Le.trans p2 p34)) r4 e5 λS5 h5 Si=>i.out (H.eq e) S5 (h5▸HS.Le.trans QZ p34) .next Si
theorem BA{o i op e x y w pp PV}(ho:bK W cs none o x)(hi:bK W cs none i y)(he:bK W cs none e w)
 (Qw:∀ov iv new,augStore y ov iv new=(do holding [new,ov,iv] (setItem ov iv new);release [new,ov,iv] [];pure .next)):jX W cs (.ai o i op e) (.AugAssign (.Subscript x y pp) (Ca op) w PV):=by
 refine ⟨λa p L n hz s fl L' σ' ee Q E H=>cF (ql.symm.trans ee) λov σ1 e1 e=>cF e λiv σ2 e2 e=>fI e λu e3 e=>cF e λb σ3 e4 e=>cF e λv σ4 e5 e=>xV e λJ e6 e=>(wpAny_AugAssign_SubscriptAny (ho.h a p s.nm ov σ1 e1 λS1 p1 r1 Qd=>hi.h a (p.to S1 Qd) (s.nm.up (p.leTo S1 Qd p1)) iv σ2 e2 λS2 p2 r2 Qe=>?_) Qw)⟩;have QZ:=HS.Le.trans p1 p2;refine yx (p:=p.to S2 Qe) a.g (r1.mono p2) r2 e3 λr3 QC=>he.h a (p.to S2 QC) (s.nm.up (p.leTo S2 QC QZ)) b σ3 e4 λS4 p4 r4 QY=>tY (p:=p.to S4 QY) (r3.mono p4) r4 v σ4 e5 λS5 p5 r5 Si=>?_;have p45:=HS.Le.trans p4 p5;exact m8 (p:=p.to S5 Si) (r1.mono (HS.Le.trans p2 p45)) (r2.mono p45) r5 e6 λS6 h6 ht6=>s.out (H.eq e) S6 (h6▸HS.Le.trans QZ p45) .next ht6
theorem I'{t b o x bs os' PV}(QT:mO W cs none t x)(hb:fZ W cs b bs)(ho:fZ W cs o os'):jX W cs (.ifs t b o) (.If x bs os' PV):=by
 refine ⟨λa p L n hz i fl L' σ' ee Q E H=>cF (jp.symm.trans ee) λbb σ1 e1 e2=>wpAny_If (QT.h a p i.nm bb σ1 e1 λS le ht=>?_)⟩;clear e1;induction bb with
 |true=>exact hb.h a (p.to S ht) (i.up (p.leTo S ht le)) fl L' σ' e2 H
 |false=>exact ho.h a (p.to S ht) (i.up (p.leTo S ht le)) fl L' σ' e2 H
end
end
section
section
variable {c:Cx}{L:aR}{σ:St}{z:Nat}
theorem tP{t b}:ms c (.aa t b) z L σ=dR (λL s=>bR c t L s) (λL s=>PT c b z L s) c.fuel L σ:=rfl
theorem qu{t it b}:ms c (.al t it b) z L σ=(aM c it L σ).bind λ(v,σ1)=>(dw c σ1 v).bind λxs=>gv (λv L s=>cU c s t v L) (λs=>cT c σ1 s v) (λL s=>PT c b σ1.length L s) xs L σ1:=rfl
theorem ia{Qx:aR->St->Option (Bool×St)}{Qa:aR->St->Option (Fl×aR×St)}{n}:dR Qx Qa (n+1) L σ=(Qx L σ).bind λ(b,σ1)=>match b with
 |false=>some (.next,L,σ1)
 |true=>(Qa L σ1).bind λ(f,L2,σ2)=>match f with
  |.brk=>some (.next,L2,σ2)
  |.ret v=>some (.ret v,L2,σ2)
  |_=>dR Qx Qa n L2 σ2:=rfl
theorem rP{bind PX Qa}:gv bind PX Qa [] L σ=if PX σ then some (.next,L,σ) else none:=rfl
theorem mW{bind:V->aR->St->Option aR}{PX}{Qa:aR->St->Option (Fl×aR×St)}{v vs}:gv bind PX Qa (v::vs) L σ=if PX σ then
 (bind v L σ).bind λL1=>(Qa L1 σ).bind λ(f,L2,σ2)=>match f with
  |.brk=>some (.next,L2,σ2)
  |.ret v=>some (.ret v,L2,σ2)
  |_=>gv bind PX Qa vs L2 σ2
 else none:=rfl
end
section
variable {W:Wd}{cs:Scope}{z:Am}
inductive OA(z:Am)(X:bf)(hz:HS)(t:PE)(b:List PS)(k:Nat)(r:Fl×aR×St)(n:Nat):Shared->Prop
 |mk (m:bG) (L:aR) (σ:St) (ps:PZ) (h:Heap) (tk:Nat):SR z.W z.c m X σ ps h->LR z.W.tb (be ps) L m->1<=tk->hz.Le (be ps)->dR (λL s=>bR z.cx t L s) (λL s=>PT z.cx b k L s) n L σ=some r->OA z X hz t b k r n ⟨h,z.g,z.dr,tk,z.os⟩
theorem xj{t b x bs PV}(QT:mO W cs none t x)(hb:fZ W cs b bs):jX W cs (.aa t b) (.While x bs [] PV):=by
 refine ⟨λ{z} a p L n hz s fl L' σ' ee Q E H=>wpAny_While (codeAny_whileLoop (λn s=>OA z p.X hz t b _ (fl,L',σ') n s) (λn s' I=>?_) z.cx.fuel (.mk p.m L p.σ p.ps p.h p.t p.S s.lr p.ht s.le (tP.symm.trans ee)))⟩;induction I with
 |mk m1 L1 σ1 Q1 h1 dU S1 RE Qd p1 e1=>
 induction n with
 |zero=>exact bl e1
 |succ n=>
  refine cF (ia.symm.trans e1) λbb σ2 e2 e3=>QT.h a ⟨m1,_,_,_,_,_,S1,Qd⟩ (LR.nm (p:=⟨m1,_,_,_,_,_,S1,Qd⟩) RE) bb σ2 e2 λS2 p2 Qe=>?_;have QZ:=p1.trans p2;have Rt:=RE.mono p2;clear e2;induction bb with
  |false=>exact wpAny_execs_nil ((H.eq e3) S2 QZ Rt .next Qe)
  |true=>
   refine Dn e3 λf3 L3 σ3 e4 e5=>hb.h a ⟨m1,_,_,_,_,_,S2,Qe⟩ ⟨Rt,s.len,QZ⟩ f3 L3 σ3 e4 λS3 p3 RD fr3 QC=>?_;clear e4;induction fr3 with
   |next=>exact ⟨n,Ur _,.mk _ L3 σ3 _ _ _ S3 RD QC p3 e5⟩
   |cont=>exact ⟨n,Ur _,.mk _ L3 σ3 _ _ _ S3 RD QC p3 e5⟩
   |brk=>exact (H.eq e5) S3 p3 RD .next QC
   |ret hv=>exact (H.eq e5) S3 p3 RD (.ret hv) QC
noncomputable def Pa(z:Am)(ps:PZ)(X:bf):Zf:=λL B m' X'=>X'=X/\LR z.W.tb (be ps) L m'
inductive NU(z:Am)(X:bf)(h0:HS)(t:Ft)(b:List PS)(σ0:St)(v:V)(x:Value)(xs:List V)(I:Addr)(r:Fl×aR×St):Nat->Shared->Prop
 |mk (i:Nat) (PQ:List V) (m:bG) (L:aR) (σ:St) (ps:PZ) (h:Heap) (tk:Nat) (ob:Obj):xs.drop i=PQ->i<=xs.length->SR z.W z.c m ((I,ob)::X) σ ps h->LR z.W.tb (be ps) L m->gk z h0 σ0 v x i ob->1<=tk->h0.Le (be ps) ->
  gv (λv L s=>cU z.cx s t v L) (λs=>cT z.cx σ0 s v) (λL s=>PT z.cx b σ0.length L s) PQ L σ=some r->NU z X h0 t b σ0 v x xs I r (PQ.length+1) ⟨h,z.g,z.dr,tk,z.os⟩
theorem Dv{t e b P4 Qk bs PV}(tg:l8 W cs.names t P4)(he:bK W cs none e Qk)(hb:fZ W cs b bs)(hs:∀env x,foldedSetIterable Qk env x=pure x):
 jX W cs (.al t e b) (.For P4 Qk bs [] PV):=by
 refine ⟨λ{z} a p L n hz s fl L' σ' ee Q E H=>cF (qu.symm.trans ee) λv σ0 e1 e=>fI e λxs hx e2=>wpAny_For (he.h a p s.nm v σ0 e1 λ{ps0 h0 t0 x} S0 p0 r0 ht0=>?_) (hs _)⟩;clear he;obtain rfl:=a.W;obtain rfl:=a.cs;refine sS a.g S0 r0 hx λI ob h1 RA S1=>codeAny_forLoop_any (λn s=>NU z p.X (be ps0) t b σ0 v x xs I (fl,L',σ') n s) (λn s' J=>?_) (xs.length+1) (.mk 0 xs p.m L σ0 ps0 h1 t0 ob rfl (bu _) S1 (s.lr.mono p0) RA ht0 .rfl e2);have pz:=s.le.trans p0;induction J with
 |mk i PQ m1 L1 σ1 Q1 h1 dU RQ hd hi S1 RE RA Qd p1 e3=>
 have rv:=r0.mono p1;induction PQ with
 |nil=>exact jW (rP.symm.trans e3) λQw e3=>sI (P:=[]) a.g S1 p1 rv ((f8 Qw).trans hx) (RA.still Qw) (U4 (List.drop_eq_nil_iff.mp hd)) hi a.g.ok.hh λh' S'=>wpAny_execs_nil ((H.eq e3) S' (pz.trans p1) RE .next Qd)
 |cons u PQ=>
  refine jW (mW.symm.trans e3) λQw e3=>fI e3 λL2 b1 e3=>Dn e3 λf2 L3 σ3 e4 e5=>?_;have hu:=vG hd;refine nV (P:=[]) a.g S1 p1 rv ((f8 Qw).trans hx) (RA.still Qw) hu.1 Qd λob2 h2 y2 Sf Sg S2 ry2 Qe=>FW tg Sg (S2.N (I,ob2) (dS _ (.head _))).1 (wc (Z:=Pa z Q1 ((I,ob2)::p.X)) a.g ((by intro i x v y L B m' X' h tk A Q E hi hl rv S zz k;obtain ⟨rfl,lr⟩:=zz;exact fR a.g.G.co.nd a.g.ok.ck S lr hi rv hl a.g.ok.kind λm2 h2 S2 Rt=>k m2 _ h2 S2 ⟨rfl,Rt⟩)) tg (B:=[]) S2 ⟨rfl,RE⟩ ry2 b1 Qe a.g.ok.hh λm3 X3 h3 tk3 S3 z3 QC=>?_);obtain ⟨rfl,RD⟩:=z3;refine hb.h a ⟨m3,_,_,_,_,_,S3,QC⟩ ⟨RD,ic.trans S0.len.symm,p1⟩ f2 L3 σ3 e4 λ{m4 Tw h4 t4 ff} S4 p4 Tx fr4 QY=>?_;have I4:gv (λv L s=>cU z.cx s t v L) (λs=>cT z.cx σ0 s v) (λL s=>PT z.cx b σ0.length L s) PQ L3 σ3=some (fl,L',σ')->∃n,n<PQ.length+1+1/\NU z p.X (be ps0) t b σ0 v x xs I (fl,L',σ') n ⟨h4,z.g,z.dr,t4,z.os⟩:=λe5=>
   ⟨_,Ur _,.mk (i+1) PQ m4 L3 σ3 Tw h4 t4 ob2 hu.2 (bY.mp hu.1).1 S4 Tx (Sg.still (mU Qw)) QY p4 e5⟩
  clear e4;induction fr4 with
  |next=>exact I4 e5
  |cont=>exact I4 e5
  |brk=>exact (H.eq e5) (S4.dropX (P:=[]) λJ J J e=>e) (pz.trans p4) Tx .next QY
  |ret hv=>exact (H.eq e5) (S4.dropX (P:=[]) λJ J J e=>e) (pz.trans p4) Tx (.ret hv) QY
end
noncomputable def PZ.gc(ps:PZ)(σ:St)(n:Nat):PZ:=⟨ps.p.take n,ps.zl++(ps.p.drop n).flatten,λo p=>ps.z o p\/∃a k ob,n<=a/\σ[a]? = some ob/\ps.p[a]? = some p/\jj (rz σ n k) ob=.I o,ps.cs⟩
theorem aL.mapl{α β γ:Type}{R:α->β->Prop}{S:γ->β->Prop}{f:α->γ}{l:List α}{m}(h:aL R l m)(k:∀a b,R a b->S (f a) b):aL S (l.map f) m:=by
 induction h with
 |nil=>exact .nil
 |cons h _ ih=>exact .cons (k _ _ h) ih
theorem Co{α β γ:Type}{f:β->γ}(l:List (α×β)):(l.map λp=>(p.1,f p.2)).map (·.1)=l.map (·.1):=rW (Up ..) rfl
section
variable {W:Wd}{c:Fc}{m:bG}{X:bf}{σ:St}{ps:PZ}{h:Heap}{n:Nat}{v:V}{x:Value}
theorem Ih{f o}{P:V->Prop}(h:∀x,jj f o=.I x->P (.I x))(b:P .C):P (jj f o):=by
 induction o using O.casesOn with
 |list=>exact h _ rfl
 |tuple=>exact h _ rfl
 |dict=>exact h _ rfl
 |_=>exact b
noncomputable def Gq:V->O
 |.I o=>o
 |_=>.rng 0 0 0
theorem HM{f o ob}(e:jj f ob=.I o):fj f ob=o:=by
 induction ob using O.casesOn with
 |list=>exact Qg Gq e
 |tuple=>exact Qg Gq e
 |dict=>exact Qg Gq e
 |_=>cases e
theorem Fq{k}(r:VR (be ps) v x):VR ⟨[],(ps.gc σ n).z⟩ (rz σ n k v) x:=by
 induction r with
 |none=>induction k<;>exact .none
 |bool b=>induction k<;>exact .bool b
 |int i t=>induction k<;>exact .int i t
 |str s t h=>induction k<;>exact .str s t h
 |u a=>induction k<;>exact .u a
 |I z=>induction k<;>exact .I (.inl z)
 |C A=>induction k<;>exact .C A
 |@ref a A hA=>
  induction k with
  |zero=>exact .C A
  |succ k=>
   show VR _ (bif Nat.ble n a then (match σ[a]? with|some o=>jj (rz σ n k) o|none=>.C) else .C) _;generalize hb:Nat.ble n a=z3;induction z3 with
   |false=>exact .C A
   |true=>
    generalize ho:σ[a]? = z2;induction z2 with
    |none=>exact .C A
    |some ob=>show VR _ (jj (rz σ n k) ob) _;refine Ih (P:=λv=>VR _ v _) (λo hf=>(a7 λkC=>?_)) (.C A);obtain ⟨p,hp,rfl⟩:=Option.map_eq_some_iff.mp ((UV ..).symm.trans hA);exact kC (.I (.inr ⟨a,k,ob,cg hb,ho,hp,hf⟩))
theorem KJ:HS.Le ⟨[],(ps.gc σ n).z⟩ (be (ps.gc σ n)):=⟨⟨_,rfl⟩,λJ J h=>h⟩
theorem yZ(r:VR (be ps) v x):VR (be (ps.gc σ n)) (rv σ n v) x:=by
 induction r with
 |none=>exact .none
 |bool b=>exact .bool b
 |int i t=>exact .int i t
 |str s t h=>exact .str s t h
 |u a=>exact .u a
 |I z=>exact .I (.inl z)
 |C A=>exact .C A
 |@ref a A hA=>
  show VR _ (bif Nat.blt a n then .ref a else rz σ n 6 (.ref a)) _;generalize hb:Nat.blt a n=z1;induction z1 with
  |false=>exact (Fq (.ref hA)).mono KJ
  |true=>refine .ref ?_;show ((ps.p.take n).map i3)[a]? = _;refine rW (List.map_take ..) (rW (List.getElem?_take_of_lt (cg hb) ..) ?_);exact hA
theorem y6{hs QF}{f:V->V}(k:∀{v x},VR hs v x->VR QF (f v) x){o PW}(r:cr W.prog W.w W.tb hs o PW):cr W.prog W.w W.tb QF (fj f o) PW:=by
 induction r with
 |list h1 h2=>exact .list (h1.mapl λJ J=>k) (rW bA h2)
 |tuple h1 h2=>exact .tuple (h1.mapl λJ J=>k) (rW bA h2)
 |dict h1 h2 h3 h4=>exact .dict h1 (h2.mapl λJ J z=>⟨z.1,k z.2⟩) (rW bA h3) h4
 |inst h1 h2 h3=>exact .inst (h1.mapl λ_ _ ⟨x,t,q1,q2,q3⟩=>⟨x,t,q1,q2,k q3⟩) (rW (Co ..) h2) (rW bA h3)
 |meth h1=>exact .meth (k h1)
 |rng=>exact .rng
theorem Ic{hs QF}{f:V->V}(k:∀{v x},VR hs v x->VR QF (f v) x){o ob PW}(r:cr W.prog W.w W.tb hs ob PW)(e:jj f ob=.I o):cr W.prog W.w W.tb QF o PW:=HM e▸y6 k r
theorem vC:((ps.gc σ n).flatten++X).Perm (ps.flatten++X):=by refine List.Perm.append_right _ ?_;show ((ps.p.take n).flatten++((ps.zl++(ps.p.drop n).flatten)++ps.cs)).Perm (ps.p.flatten++(ps.zl++ps.cs));refine rW b9.symm (rW (UD ps.p.flatten ..).symm (List.Perm.append_right _ ((List.Perm.append_left _ List.perm_append_comm).trans ?_)));rw[<-UD,<-List.flatten_append,List.take_append_drop]
theorem SR.gc(S:SR W c m X σ ps h)(n:Nat):SR W c m X (iY σ n) (ps.gc σ n) h:=by
 refine ⟨S.F,λp hp=>S.N p (vC.mem_iff.mp hp),?_,(S.rel.take n).mapl λJ J=>y6 yZ,?_⟩
 ·have q:=(vC (X:=X) (ps:=ps) (σ:=σ) (n:=n)).map Prod.fst;exact q.nodup_iff.mpr S.nd
 ·refine ⟨?_,S.fz.2⟩;rintro o A (z|⟨a,k,ob,hn,ho,hA,hf⟩)
  ·obtain ⟨h2,h3⟩:=S.fz.1 o A z;exact ⟨λq hq=>UO _ (h2 q hq),h3.mono (⟨⟨_,rfl⟩,λJ J h=>Or.inl h⟩:HS.Le ⟨[],ps.z⟩ ⟨[],(ps.gc σ n).z⟩)⟩
  ·refine a7 λkC=>?_;obtain ⟨PW,hp,hr⟩:=S.obj ho;obtain rfl:=aK (hp.symm.trans hA);refine kC ⟨λq hq=>dS _ (List.mem_flatten.mpr ⟨PW,(List.mem_of_getElem? (i:=a-n) (rW (List.getElem?_drop ..) (rW (Nat.add_sub_cancel' hn ..) ?_))),hq⟩),Ic Fq hr hf⟩;exact hp
theorem LR.gc{tb L}(lr:LR tb (be ps) L m):LR tb (be (ps.gc σ n)) (gQ σ n L) m:=λi v e=>by refine a7 λkC=>?_;obtain ⟨w,hw,rfl⟩:=Option.map_eq_some_iff.mp ((fU i L).symm.trans e);obtain ⟨x,y,h1,h2,h3⟩:=lr i w hw;exact kC ⟨x,y,h1,h2,yZ h3⟩
theorem HS.Le.gc{hz:HS}(p:hz.Le (be ps))(hl:hz.a.length<=n):hz.Le (be (ps.gc σ n)):=by refine ⟨?_,λo A z=>.inl (p.z o A z)⟩;show hz.a<+:(ps.p.take n).map i3;exact rW (List.map_take ..) (List.prefix_take_iff.mpr ⟨p.a,hl⟩)
end
theorem DO{c L σ z k r}:PT c (.gc k::r) z L σ=PT c r z (gQ σ (z+k) L) (iY σ (z+k)):=rfl
section
variable {W:Wd}{cs:Scope}
theorem wx{k ss Qv}(RG:fZ W cs ss Qv):fZ W cs (.gc k::ss) Qv:=
 ⟨λa p L n hz i fl L' σ' e Q E H=>RG.h a ⟨p.m,p.X,_,_,p.h,p.t,p.S.gc (n+k),p.ht⟩ ⟨i.lr.gc,i.len,i.le.gc (i.len▸bC _ _)⟩ fl L' σ' (DO.symm.trans e) H⟩
theorem rC{c L σ z e}:ms c (.ae e) z L σ=(aM c e L σ).map λ(v,σ1)=>(.ret (rv σ1 z v),gQ σ1 z L,iY σ1 z):=rfl
theorem zg{e x PV}(he:bK W cs none e x):jX W cs (.ae e) (.Return (some x) PV):=
 ⟨λa p L n hz i fl L' σ' ee Q E H=>zG (rC.symm.trans ee) λv σ1 e1 e=>wpAny_Return_some (he.h a p i.nm v σ1 e1 λS1 p1 r1 Qd=>(H.eq e) (S1.gc n) (HS.Le.gc (i.le.trans p1) (i.len▸aQ _)) (LR.gc (i.lr.mono p1)) (.ret (yZ r1)) Qd)⟩
end
end
section
section
variable {W:Wd}{cs:Scope}
theorem xt{i j x y e n tp p1 p2 v}{PV:Pos}(hi:W.tb[i]? = some x)(hj:W.tb[j]? = some y)(hx:cs.names.lookup x=some .local)(hy:cs.names.lookup y=some .local)(Qs:x≠y)(he:bK W cs none e v)
 (hs:∀env,swapsWithSole [.Tuple [.Name x p1,.Name y p2] n tp] v PV.line env=pure false) (hw:∀c:Fc,c.cs=cs->swappedStores [.Tuple [.Name x p1,.Name y p2] n tp] v c.env=pure (some [x,y])):jX W cs (.Z [.l i,.l j] e) (.Assign [.Tuple [.Name x p1,.Name y p2] n tp] v PV):=by
 refine ⟨λ{z} a p L n hz s fl L' σ' ee Q E H=>cF (ib.symm.trans ee) λv σ1 e1 e=>fI e λvs e2 e=>Assign_Tuple_swapped (he.h a p s.nm v σ1 e1 λS1 p1 r1 Qd=>?_) (hs _) (hw _ a.cs)⟩;have hij:¬i=j:=λq=>Qs (aK (hi.symm.trans (q▸hj)));clear hw he;obtain rfl:=a.W;obtain rfl:=a.cs;cases vs with
 |nil=>exact bl e
 |cons w vs=>cases vs with
  |nil=>exact bl e
  |cons b vs=>cases vs with
   |cons _ _=>exact bl e
   |nil=>
    refine eY (vs:=[w,b]) a.g S1 r1 e2 Qd a.g.ok.hh λh' Qr ys S' Rk QT=>aL.consE Rk λya J ra Rk=>aL.consE Rk λyb J rb Rk=>aL.nilE Rk (T5 (Ud (wpAny_bindName (fR a.g.G.co.nd a.g.ok.ck S' (s.lr.mono p1) hj rb hy a.g.ok.kind λm2 h2 S2 Rt=>?_))));show wpAny _ _ (holding [] (bindName z.c.env x ya)>>=λJ=>assignInOrder [] []) _ _ _;refine T5 (Ud (wpAny_bindName (fR a.g.G.co.nd a.g.ok.ck S2 Rt hi ra hx a.g.ok.kind λm3 h3 S3 RD=>Ub ((H.eq e) S3 (s.le.trans p1) (λk u hk=>RD k u ?_) .next (dU 1 (dU 1 QT))))));rw[br]at hk ⊢;rw[br]at hk ⊢;by_cases q:k=i
    ·refine rW (T6 q ..) ?_;rw[T8 (λw=>hij (q.symm.trans w)),T6 q]at hk;exact hk
    ·rw[T8 q]at hk ⊢;exact hk
end
end
section
theorem Cj:Slot "KeyError" "__init__" "KeyError.__init__":=.of (owner:="KeyError") (n:="__init__") (by refine rW (typeLookup_type ..) (rW (builtinLookup_eq_fast ..) ?_);kernel_rfl) (by decide +kernel) (by decide +kernel) (by decide +kernel)
 (by first|exact .inl (by decide +kernel)|exact .inr (by decide +kernel)) (by refine rW (isSubtype_type ..) ?_;kernel_rfl)
theorem Bx:ExcRaiseFacts "KeyError" where
 isExc:=by refine rW (isSubtype_type ..) ?_;kernel_rfl
 plainMeta:=by kernel_rfl
theorem Ct:isSubtype (.type "KeyError") (.type "LookupError")=pure true:=by refine rW (isSubtype_type ..) ?_;kernel_rfl
theorem oQ:isSubtype (.type "KeyError") (.type "KeyError")=pure true:=by refine rW (isSubtype_type ..) ?_;kernel_rfl
theorem z0(PQ:aO):checkBuiltinCall "LookupError.__new__" ⟨.type "KeyError"::PQ,[]⟩=pure ():=by kernel_rfl
section
variable {P7:Program}{w:World}{A:Around}{R:Result->Shared->Prop}
theorem It{PQ:aO}{hp:Heap}{g d tk os}
 (h:R (.ok (.ret (.ref (hp.objs.size+1)))) ⟨(hp.push { cls:=.type "tuple",data:=.seq PQ.toArray }).push { cls:=.type "KeyError",data:=.fields #[.ref hp.objs.size,.none,.none,.none,.bool false,.none] },g,d,tk,os⟩)
 (QU:PQ.length<=sizeLine):codeAny (model P7 w) A (.builtin "LookupError.__new__" ⟨.type "KeyError"::PQ,[]⟩) R ⟨hp,g,d,tk,os⟩:=by
 have SO:=Ct;have hna:isSubtype (.type "KeyError") (.type "AttributeError")=pure false:=by refine rW (isSubtype_type ..) ?_;kernel_rfl
 have hnn:isSubtype (.type "KeyError") (.type "NameError")=pure false:=by refine rW (isSubtype_type ..) ?_;kernel_rfl
 have TJ:Bind.madeHere "BaseException.__new__" (.type "KeyError")=pure ():=by kernel_rfl
 have hown:("LookupError.__new__":String).dropRight 8="LookupError":=by decide +kernel
 have hends:("LookupError.__new__":String).endsWith ".__new__"=true:=by decide +kernel
 refine codeAny_builtinAt PySem.F.excCall_LookupError.entry ?_;unfold Builtin.«BaseException.__new__»;refine PySem.wpAt_bind ?_;show PySem.wpAt _ _ _ (stack>>=_) _ _ _;refine PySem.wpAt_bind (PySem.wpAt_stack λp below=>PySem.wpAt_of_wpAny ?_)
 wp_walk
 refine PySem.wpAt_of_wpAny (rW (hown ..) ?_)
 wp_walk
 show R _ _;exact rW (Heap.size_push ..) h
theorem BO{M A self PQ E}{Q:Unit->Shared->Prop}{s}(hT:Shared.TypeIs s self "KeyError")(h:Q () s):wpAny M A (checkBuiltinCall "KeyError.__init__" ⟨self::PQ,[]⟩) Q E s:=by
 have SO:=oQ;have hshort:("KeyError" != "*")=true:=by decide +kernel
 have k1:builtinKind "KeyError.__init__"=some .slot:=by kernel_rfl
 have k2:splitId "KeyError.__init__"=some ("KeyError","__init__"):=by kernel_rfl
 have k3:Manifest.signature? "KeyError.__init__"=some ⟨.positional,"*","KeyError",.self,[⟨"args",.varPos,false⟩]⟩:=by kernel_rfl
 simp only[checkBuiltinCall,k1,k2,k3];obtain ⟨hp,g,d,tk,os⟩:=s
 wp_walk
 refine wpAny_onRaise ?_;rw[show ∀(a b:String) (n:Nat),Bind.check ⟨.positional,"*","KeyError",.self,[⟨"args",.varPos,false⟩]⟩ a b n (List.map (λx=>x.fst) ({ pos:=self::PQ }:Args).kw)=pure () from
  λa b n=>check_star_args _ _ _ _ _ _]
 exact Ub h
structure OL(Qn Q0 QX:String):Prop where
 notType:(Value.type Qn==Value.type "type")=false
 canMake:((Manifest.find? Qn).bind λx=>List.findSome? (λt=>(Manifest.find? t).bind λb=>
  if b.noNew=true then some true else if (b.attrs.any λx=>x.fst=="__new__")=true then some false else none) x.mro).getD false=false
 noVec:∀P5,checkTypeCall Qn P5=pure ()
 mro:∃m,mroOf (.type Qn)=pure m/\m.isEmpty=false
 made:Bind.madeBy (.type Qn)=pure (some Q0)
 quiet:Q0.startsWith "lifetime."=false
 newOk:∀PQ,checkBuiltinCall Q0 ⟨.type Qn::PQ,[]⟩=pure ()
 sub:isSubtype (.type Qn) (.type Qn)=pure true
 init:Slot Qn "__init__" QX
 entry:entryFor table QX=some Builtin.«BaseException.__init__»
 new:∀{A:Around}{R:Result->Shared->Prop}{PQ:aO}{hp:Heap}{g:Array GenState}{d:Drawn}{tk:Nat}{os:OsState},R (.ok (.ret (.ref (hp.objs.size+1)))) ⟨(hp.push { cls:=.type "tuple",data:=.seq PQ.toArray }).push { cls:=.type Qn,data:=.fields #[.ref hp.objs.size,.none,.none,.none,.bool false,.none] },g,d,tk,os⟩ ->
  PQ.length<=sizeLine->codeAny (model P7 w) A (.builtin Q0 ⟨.type Qn::PQ,[]⟩) R ⟨hp,g,d,tk,os⟩
 check:∀{M:Model}{A:Around}{self:Value}{PQ:aO}{E:bw}{Q:Unit->Shared->Prop}{s:Shared},Shared.TypeIs s self Qn->Q () s->wpAny M A (checkBuiltinCall QX ⟨self::PQ,[]⟩) Q E s
theorem Ag{Qn Q0 QX}(F:OL (P7:=P7) (w:=w) Qn Q0 QX) {PQ E Q hp g d tk os}
 (h:∀h' e,Heap.MadeExc hp h' e Qn PQ->Q (.done (.ret (.ref e))) ⟨h',g,d,tk,os⟩) (QU:PQ.length<=sizeLine):
 wpAny (model P7 w) A (Builtin.«type.__call__» ⟨.type Qn::PQ,[]⟩) Q E ⟨hp,g,d,tk,os⟩:=by
 have hnt:=F.notType;have hcan:=F.canMake;have hchk:=F.noVec ⟨PQ,[]⟩;obtain ⟨m,hmro,Qs⟩:=F.mro;have TJ:=F.made
 wp_walk
 refine codeAny_call_builtin_code (Code.quiet_builtin _ F.quiet) (wpAny_of_eq (F.newOk PQ) (F.new ?_ QU));show wpAny _ _ _ _ _ _;have Sp:((hp.push { cls:=.type "tuple",data:=.seq PQ.toArray }).push
  { cls:=.type Qn,data:=.fields #[.ref hp.objs.size,.none,.none,.none,.bool false,.none] }).get? (hp.objs.size+1)=some
  { cls:=.type Qn,data:=.fields #[.ref hp.objs.size,.none,.none,.none,.bool false,.none] }:=by heap_get
 refine T5 (wpAny_isInstance ⟨_,Sp,rfl⟩ F.sub ?_)
 wp_step
 refine T5 (Ud (wpAny_callSpecial?_slot ⟨_,Sp,rfl⟩ F.init (wpAny_call (codeAny_call_builtin F.init.plain F.entry (F.check ⟨_,Sp,rfl⟩ ?_)))))
 wp_walk
 refine h _ _ ⟨λb o hb=>?_,Heap.get?_none_of_le (UT _),hp.objs.size+2,?_,Heap.get?_none_of_le (aF (fC 0x127018b61 rfl )),?_⟩
 ·refine rW (Heap.get?_update_other _ _ (Nat.ne_of_gt (Nat.lt_succ_of_lt (Heap.lt_size hb))) ..) ?_;exact UF _ (UF _ (UF _ hb))
 ·refine rW (Heap.get?_update_self _ (UF _ Sp) rfl ..) ?_;simp only[Heap.size_push];rfl
 ·refine rW (Heap.get?_update_other _ _ (show hp.objs.size+1≠hp.objs.size+2 by exact λq0=>fC 0xb12701851 rfl (aU q0.symm :)) ..) ?_;exact Heap.get?_push_at (by simp only[Heap.size_push]) rfl
theorem yz:OL (P7:=P7) (w:=w) "KeyError" "LookupError.__new__" "KeyError.__init__" where
 notType:=by decide +kernel
 canMake:=by kernel_rfl
 noVec:=λP5=>by kernel_rfl
 mro:=(⟨[.type "KeyError",.type "LookupError",.type "Exception",.type "BaseException",.type "object"],by refine rW (mroOf_type ..) ?_;kernel_rfl,rfl⟩)
 made:=(by kernel_rfl)
 quiet:=by decide +kernel
 newOk:=z0
 sub:=oQ
 init:=Cj
 entry:=(entryFor_alias (id':="BaseException.__init__") (by refine rW (fastTable_eq_tree ..) ?_;kernel_rfl) (by first|rfl|decide +kernel) (by decide +kernel) (by refine rW (fastTable_eq_tree ..) ?_;kernel_rfl))
 new:=It
 check:=BO
theorem CQ{PQ:aO}{E}{Q:bw}{hp g d tk os}
 (h:∀h' e,Heap.MadeExc hp h' e "KeyError" PQ->Q (.ref e) ⟨h',g,d,tk,os⟩) (QU:PQ.length<=sizeLine):wpAny (model P7 w) A (call (.type "KeyError") PQ) Q E ⟨hp,g,d,tk,os⟩:=by
 refine wpAny_call (codeAny_of_tree ?_);show wpAny _ _ (again (.builtin "type.__call__" ⟨.type "KeyError"::PQ,[]⟩)) _ _ _;exact Ub ⟨Code.quiet_builtin _ (by decide +kernel),codeAny_builtin entry_typeCall (Ag yz (λh' e hm=>h h' e hm) QU)⟩
end
end
section
def He(z:Am)(X:bf)(hz:HS)(σ':St)(E:bw):Prop:=
 ∀{m:bG}{ps:PZ}{h1 h:Heap}{e:Addr}{y:Value}{t:Nat},SR z.W z.c m X σ' ps h1->hz.Le (be ps)->Heap.MadeExc h1 h e "KeyError" [y]->1<=t->E (.ref e) ⟨h,z.g,z.dr,t,z.os⟩
structure nh(W:Wd)(cs:Scope)(ss:List PS)(Qv:fh):Prop where
 h:∀{z:Am},Ax W cs z->∀(p:Pt z) {L:aR}{n:Nat}{hz:HS},AU hz n p L->∀(fl:Fl) (L':aR) (σ':St),PT z.cx ss n L p.σ=some (fl,L',σ')->∀{Q:Flow->Shared->Prop}{E:bw},(fl≠.next->Hs z p.X hz fl L' σ' Q)->(fl=.next->He z p.X hz σ' E)->wpAny z.M z.c.A (execs Qv z.c.env) Q E p.sh
section
variable {W:Wd}{cs:Scope}
theorem tX{s st ss Qv}(hs:jX W cs s st)(RG:nh W cs ss Qv):nh W cs (s::ss) (st::Qv):=by
 refine ⟨λ{z} a p L n hz i fl L' σ' e Q E H HE=>Dn (cR.symm.trans e) λf1 L1 σ1 e1 e2=>wpAny_execs_cons (hs.h a p i f1 L1 σ1 e1 λS le lr fr ht=>?_)⟩;clear e1;induction fr with
 |next=>exact RG.h a ⟨_,_,_,_,_,_,S,ht⟩ ⟨lr,i.len,le⟩ fl L' σ' e2 H HE
 |brk=>exact xk (λf l s=>f≠.next->Hs z p.X hz f l s Q) e2 H nofun S le lr .brk ht
 |cont=>exact xk (λf l s=>f≠.next->Hs z p.X hz f l s Q) e2 H nofun S le lr .cont ht
 |ret hv=>exact xk (λf l s=>f≠.next->Hs z p.X hz f l s Q) e2 H nofun S le lr (.ret hv) ht
theorem rk{e x QB QD PV}(B:nU W cs none "KeyError" (.type "KeyError"))(he:bK W cs none e x)
 (hx:∀env,starEach [x] env=(false,eval x env)::starEach [] env)
 (SS:∀env,eval (.Call (.Name "KeyError" QB) [x] [] QD) env=(do callWith QD (<-eval (.Name "KeyError" QB) env) [] (backTo QD (starEach [x] env)) (backToKw QD (keywordEach [] env)))):
 nh W cs [.expr e] [.Raise (some (.Call (.Name "KeyError" QB) [x] [] QD)) none PV]:=by
 refine ⟨λ{z} a p L n hz i fl L' σ' ee Q E H HE=>Dn (cR.symm.trans ee) λf1 L1 σ1 e1 e2=>zG (lZ.symm.trans e1) λv σ2 e3 e4=>?_⟩;have HE:=xk (λf l s=>f=.next->He z p.X hz s E) (xk (λf l s=>(match f with|.next=>PT z.cx [] n l s|f=>some (f,l,s))=some (fl,L',σ')) e4 e2:some (Fl.next,L,σ2)=_) HE;refine wpAny_execs_cons (wpAny_Raise_made Bx a.g.ok.hh (Call_ (uJ a B i.nm (callWith_of (P:=wM z (.type "KeyError")) (by rw[hx];rfl) (λh' p=>p) (dQ (by rw[hx];rfl) ((jG he lG hx).h a p i.nm [v] σ2 (rW (bF ..) (rW e3 rfl)) λ{_ h2 t2 ys} S le r ht=>⟨hO (λa q=>nomatch q),?_⟩)))) (SS _)));refine aL.consE r λy J r2 rn=>aL.nilE rn (CQ (λh' ea hm=>(a7 λkC=>?_)) (show 1<=sizeLine by decide));obtain ⟨t,q1,q2,q3⟩:=hm.there;exact kC ⟨ea,t,rfl,q1,HE rfl S (i.le.trans le) hm ht⟩
end
end
section
noncomputable def PK(scope:Scope)(x:Str):Prop:=scope.names.lookup x=some .local\/scope.names.lookup x=some .cell
noncomputable def fp(W:Wd)(fn:Fn)(fd:FuncData)(scope:Scope):Prop:=
 ∀(P5:List V) (L:aR),cz fn.params P5 fn.dflt=some L->∀(hs:HS) (xs:aO),aL (VR hs) P5 xs ->
  ∃P2,(∀s:Shared,W.K.In s.heap->BindsTo s fd ⟨xs,[]⟩ P2)/\(∀y∈P2,PK scope y.1)/\LR W.tb hs L (λy=>P2.reverse.lookup y)
noncomputable def iS(W:Wd)(fn:Fn)(fd:FuncData)(scope:Scope):Prop:=
 ∀(P5:List V) (L:aR),cz fn.params P5 fn.dflt=some L->∀(hs:HS) (v0:Value) (vs:aO),aL (VR hs) P5 (v0::vs)->vs.length=W.kn.length ->
  ∃P2,(∀s:Shared,W.K.In s.heap->BindsTo s fd ⟨[v0],W.kn.zip vs⟩ P2)/\(∀y∈P2,PK scope y.1)/\LR W.tb hs L (λy=>P2.reverse.lookup y)
structure DG(W:Wd)(f:Nat)(fn:Fn)(Qp name:Str)(params:Arguments)(Qa:fh)(scope:Scope)(dV kV Ri pm QR ct oc:Value)(an od:Option Addr)(Rl:Array (Option Value)):Prop where
 at_:W.K.lookup f=some ⟨oc,od,.func (fnOf name Qp params Qa scope dV kV Ri pm an QR ct),Rl⟩
 code:codeIn W.K QR Qp=true
 kind:scope.kind=.function
 co:scope.isCoroutine=false
 gen:scope.isGenerator=false
 ck:gy scope
 bind:fp W fn (fnOf name Qp params Qa scope dV kV Ri pm an QR ct) scope
 kwb:f=W.kf->iS W fn (fnOf name Qp params Qa scope dV kV Ri pm an QR ct) scope
inductive Jc(W:Wd)(f:Nat)(fn:Fn)(Q:Scope->fh->Prop):Prop
 |mk {Qp name:Str}{params:Arguments}{Qa:fh}{scope:Scope}{dV kV Ri pm QR ct oc:Value}{an od:Option Addr}{Rl:Array (Option Value)}:DG W f fn Qp name params Qa scope dV kV Ri pm QR ct oc an od Rl->Q scope Qa->Jc W f fn Q
noncomputable abbrev zY(W:Wd)(f:Nat)(fn:Fn):Prop:=Jc W f fn λsc b=>fZ W sc fn.body b
noncomputable abbrev uw(W:Wd)(f:Nat)(fn:Fn):Prop:=Jc W f fn λsc b=>(∀x∈sc.names,x.2≠.cell)/\nh W sc fn.body b
theorem Kn{K:Frag}{f oc od fd Rl}(h:K.lookup f=some ⟨oc,od,.func fd,Rl⟩):fnIn K f=true:=by unfold fnIn;exact rW h rfl
theorem Jc.fn{W:Wd}{f fn Q}(x:Jc W f fn Q):fnIn W.K f=true:=by induction x with|mk o=>exact Kn o.at_
theorem fX{p:Pr}{Qj d f P5}{σ:St}:hQ p Qj (d+1) f P5 σ=(p.fns f).bind λfn=>(cz fn.params P5 fn.dflt).bind λL=>
 (PT (jk p Qj (hQ p Qj d)) fn.body σ.length L σ).bind λ(fl,_,σ1)=>qh f fl σ1:=rfl
theorem EJ{f fl σ}(h:f<eM):qh f fl σ=some ((match fl with|.ret v=>v|_=>.none),σ):=by unfold qh;exact rW (show Nat.blt f eM=true from Uf (p:=f<eM) h▸(Nat.blt_eq.mpr h) ..) rfl
theorem uY{f fl σ}:qh (f+eM) fl σ=match fl with
 |.next=>some (.none,σ)
 |.ret v=>(match v with|.none=>none|v=>some (v,σ))
 |_=>none:=by
 unfold qh;rw[show Nat.blt (f+eM) eM=false from by
  cases q:Nat.blt (f+eM) eM with
  |false=>rfl
  |true=>exact Uj (Nat.blt_eq.mp q) (λq0=>cV 0x111018b51 rfl q0)]
 rfl
theorem gy.isCell{cs:Scope}(k:gy cs){n x}(h:(cellsFrom n cs.names []).lookup x≠none):cs.names.lookup x=some .cell:=by
 refine a7 λkC=>?_;rcases k n with ⟨_,e⟩|⟨y,A,e,q,_⟩
 ·refine kC ?_;rw[e]at h;exact Uj rfl h
 ·rw[e,Uu]at h;refine kC ?_;cases z:x==y with
  |true=>exact eq_of_beq z▸q
  |false=>rw[z]at h;exact Uj rfl h
theorem mZ{P2:bD}{n x v o}:((((n,v)::P2).reverse).lookup x).or o=(P2.reverse.lookup x).or (if x=n then some v else o):=by
 refine rW (List.reverse_cons ..) (rW (List.lookup_append ..) (rW (Option.or_assoc ..) ?_));congr 1;refine rW (Uu ..) ?_;by_cases q:x=n
 ·subst q;simp
 ·exact rW (beq_eq_false_iff_ne.mpr q ..) (rW (T8 q ..) rfl)
theorem jM{k:Str->Option NameKind}{x}:∀{P2:bD}{m:bG},(∀p∈P2,p.1=x->k x=some .local)->bindL k P2 m x=(P2.reverse.lookup x).or (m x)
 |[],m,_=>rfl
 |(n,v)::r,m,h=>by
  unfold bindL;rw[jM (P2:=r) λp hp=>h p (.tail _ hp),mZ];congr 1;by_cases q:x=n
  ·rw[T6 q,<-q,T6 (h (n,v) (.head _) q.symm),T6 rfl]
  ·refine rW (T8 q ..) ?_;split
   ·dsimp only;exact rW (T8 q ..) rfl
   ·rfl
theorem jP{k:Str->Option NameKind}{x}:∀{P2:bD}{m:bG},(∀p∈P2,p.1=x->k x≠some .local)->bindC k P2 m x=(P2.reverse.lookup x).or (m x)
 |[],m,_=>rfl
 |(n,v)::r,m,h=>by
  unfold bindC;rw[jP (P2:=r) λp hp=>h p (.tail _ hp),mZ];congr 1;by_cases q:x=n
  ·rw[T6 q,<-q,T8 (h (n,v) (.head _) q.symm),T6 rfl]
  ·refine rW (T8 q ..) ?_;split
   ·rfl
   ·dsimp only;exact rW (T8 q ..) rfl
theorem gy.none{cs:Scope}(k:gy cs)(h:∀p∈cs.names,p.2≠.cell){n}:cellsFrom n cs.names []=[]:=by
 refine a7 λkC=>?_;rcases k n with ⟨_,e⟩|⟨y,A,_,q,_⟩
 ·exact kC e
 ·exact kC (Uj rfl (h _ (mem_of_lookup q)))
theorem mY{name}{cs:Scope}{L a cd}(e:cellsFrom (L+1) cs.names []=[]):envOfC name cs L a cd=envOf name cs L a cd:=by unfold envOfC envOf;exact rW e rfl
theorem RaisedS.less{base G l e t Qn vs Rm Sr h}(R:RaisedS base G l e Qn t vs Rm h)(q:∀{x},x∈Sr->x∈Rm):RaisedS base G l e Qn t vs Sr h:=by refine a7 λkC=>?_;obtain ⟨⟨B,hB,hBG,hl,SQ,Sk⟩,htup⟩:=R;exact kC ⟨⟨B,hB,hBG,λp hp=>hl p (q hp),SQ,Sk⟩,htup⟩
theorem Es{W:Wd}{c:Fc}{g0 g2 h h':Heap}{L':Addr}{m0 m2:bG}{Rm:bf}(G0:Gd c g0)(F0:Fr g0 c.L h m0)(FG:Fr g0 c.L (hideAll h (Rm.map (·.1))) m0)(T':KtsTurn ((c.env::c.outer).filterMap (·.frame)) (hideAll h (Rm.map (·.1))) g2)(F':Fr g2 L' h' m2):
 ∃g3,Gd c g3/\Fr g3 c.L h' m0/\∀l,News g2 L' h' l->News g3 c.L h' l:=by
 refine a7 λkC=>?_;obtain ⟨oL,es,ep,hLg,hLd,hLk,hLf⟩:=FG.ns;have nL₀:g0.get? c.L=none:=kts_self F0;obtain ⟨sl,hs⟩:=T'.up hLg;obtain ⟨T₁,S₁⟩:=kts_turn_at (h:=h') (fs:=CO c) (g:=g0)
  (λb hb=>by refine a7 λkC=>?_;obtain ⟨_,o,RJ,_⟩:=G0.B.frames.mem hb;exact kC ⟨o,RJ⟩)
  (λb o e nmem=>F'.keep b o (T'.other b o (FG.keep b o e) (λq=>by
   rcases kts_mem (name:=c.cn) (scope:=c.cs) (a:=c.a) (cd:=c.ccd) q with z|z
   ·rw[z,nL₀]at e;exact bl e
   ·exact nmem z)))
  (λb o e hm=>by obtain ⟨sl',QF⟩:=T'.up (FG.keep b o e);exact ⟨sl',F'.keep _ _ QF⟩)
 have B₃:Below c.A₀ c.base c.outer (ktsHeap h' (CO c) g0):=⟨G0.B.stack,λb o e=>T₁.other b o (G0.B.stays b o e) (λhm=>by
  rw[(G0.B.frames.mem hm).1]at e;exact bl e),G0.B.frames.of_keeps λb o e J=>by
  obtain ⟨sl',QF⟩:=T₁.up e;exact ⟨_,QF,rfl⟩⟩
 refine kC ⟨_,⟨G0.T.trans T₁,B₃,G0.D.turn T₁⟩,⟨⟨_,es,ep,F'.keep _ _ hs,hLd,hLk,hLf⟩,S₁,by exact rW (T₁.size ..) F0.above⟩,λl N' p hp=>⟨(N' p hp).1,λq=>?_,?_⟩⟩
 ·have:=(N' p hp).2.2;rw[q,hs]at this;exact bl this.symm
 ·refine T₁.none_ _ ?_;generalize q:g0.get? p.1=z4;induction z4 with
  |none=>rfl
  |some o=>obtain ⟨sl',QF⟩:=T'.up (FG.keep _ _ q);have:=(N' p hp).2.2;rw[QF]at this;exact bl this.symm
noncomputable def Fc.call(c:Fc)(Qp:Str)(scope:Scope)(h:Heap)(f:Addr)(QR:Value)(Rm:bf):Fc:=
 { cn:=Qp,cs:=scope,L:=h.objs.size,a:=f,ccd:=QR,h₀:=hideAll h (Rm.map (·.1)),A₀:=c.A,base:=c.base,outer:=c.env::c.outer,A:=c.A.deeper (envOfC Qp scope h.objs.size f QR) }
section
variable {W:Wd}{f:Nat}{fn:Fn}{Qp name:Str}{params:Arguments}{Qa:fh}{scope:Scope}{dV kV Ri pm QR ct oc:Value}{an od:Option Addr}{Rl:Array (Option Value)}
 {c:Fc}{d:Nat}{m:bG}{X:bf}{σ:St}{ps:PZ}{h:Heap}{tk:Nat}{g:Array GenState}{dr:Drawn}{os:OsState}{R:Result->Shared->Prop}
theorem El{α:Type}(a b c d:List α):(a++(b++c))++d=(a++b)++(c++d):=rW b9.symm (rW b9 rfl)
theorem i8{Qo:PZ}{l X}:((PZ.mk Qo.p Qo.zl Qo.z l).flatten++X).Sublist (Qo.flatten++(l++X)):=by show ((Qo.p.flatten++(Qo.zl++l))++X).Sublist ((Qo.p.flatten++(Qo.zl++Qo.cs))++(l++X));exact rW (El ..) (rW (El ..) ((List.Sublist.refl _).append (List.sublist_append_right _ _)))
theorem KT(s0:Shared){m':bG}{σ1:St}{Qo:PZ}{h':Heap}(ok:tI W c (d+1))(S:SR W c m X σ ps s0.heap)(S':SR W (c.call Qp scope s0.heap f QR (ps.flatten++X)) m' (ps.cs++X) σ1 Qo h'):SR W c m X σ1 ⟨Qo.p,Qo.zl,Qo.z,ps.cs⟩ h':=by refine a7 λkC=>?_;obtain ⟨g0,G0,m0,QO,F0⟩:=S.F;obtain ⟨FG,_,_,_⟩:=groundX (s:=s0) (R:=λJ J=>True) G0.B F0 (G0.news S.N) ok.frames (show c.env.frame=some c.L from rfl) ok.kind;obtain ⟨g2,G2,m2,_,F2⟩:=S'.F;obtain ⟨g3,G3,F3,N3⟩:=Es (W:=W) G0 F0 FG G2.T F2;exact kC ⟨⟨g3,G3,m0,QO,F3⟩,λp hp=>G3.back (N3 _ (G2.news S'.N)) p (i8.subset hp),S'.nd.sublist (i8.map _),S'.rel,S'.fz.1,S.fz.2⟩
theorem qx(s0:Shared){m' σ1}{Qo:PZ}{h1}{s':Shared}{ea y E}(ok:tI W c (d+1))(S:SR W c m X σ ps s0.heap)(nc:∀n,cellsFrom n scope.names []=[])(hk:scope.kind=.function)(S':SR W (c.call Qp scope s0.heap f QR (ps.flatten++X)) m' (ps.cs++X) σ1 Qo h1)(hm:Heap.MadeExc h1 s'.heap ea "KeyError" [y])
 (k:∀h2,Mf W c m X σ1 ⟨Qo.p,Qo.zl,Qo.z,ps.cs⟩ ea h2->R (.error (.ref ea)) { s' with heap:=h2 }):
 wpAny (model W.prog W.w) (c.call Qp scope s0.heap f QR (ps.flatten++X)).A (leaving (c.call Qp scope s0.heap f QR (ps.flatten++X)).env (.ref ea)) (λJ SI=>R (.error (.ref ea)) SI) E s':=by
 refine a7 λkC=>?_;obtain ⟨g0,G0,m0,QO,F0⟩:=S.F;obtain ⟨FG,_,_,_⟩:=groundX (s:=s0) (R:=λJ J=>True) G0.B F0 (G0.news S.N) ok.frames (show c.env.frame=some c.L from rfl) ok.kind;obtain ⟨g2,G2,m2,_,F2⟩:=S'.F;refine kC ?_;show wpAny _ (c.A.deeper (envOfC Qp scope s0.heap.objs.size f QR)) (leaving (envOfC Qp scope s0.heap.objs.size f QR) _) _ _ _;refine rW (mY (nc _) ..) (leave_raiseS G2.B ⟨hm.keeps,hm.new,hm.there⟩ F2 (G2.news S'.N) (λh2 t R1 J U=>(a7 λkC=>?_)) hk);obtain ⟨g3,T3,F3,B3⟩:=kts_ground (name:=c.cn) (scope:=c.cs) (a:=c.a) (cd:=c.ccd) (B:=g2) (h₅:=g2) G0.B FG (λb o e nm=>G2.T.other b o e nm) (λJ J e=>e) (λb o e J=>G2.T.up e);exact kC (k h2 ⟨⟨t,[y],g2,⟨g3,⟨G0.T.trans T3,B3,G0.D.turn T3⟩,m0,QO,F3⟩,RaisedS.less R1 (λz=>i8.subset z),U⟩,S'.nd.sublist (i8.map _),S'.rel,S'.fz.1,S.fz.2⟩)
theorem DG.any(o:DG W f fn Qp name params Qa scope dV kV Ri pm QR ct oc an od Rl){P5 L}(e:cz fn.params P5 fn.dflt=some L){hs xs ar}(ra:aL (VR hs) P5 xs)(hA:HG W f xs ar):
 ∃P2,(∀s:Shared,W.K.In s.heap->BindsTo s (fnOf name Qp params Qa scope dV kV Ri pm an QR ct) ar P2)/\(∀y∈P2,PK scope y.1)/\LR W.tb hs L (λy=>P2.reverse.lookup y):=by
 refine a7 λkC=>?_;rcases hA with rfl|⟨hf,v0,vs,rfl,hl,rfl⟩
 ·exact kC (o.bind P5 L e hs xs ra)
 ·exact kC (o.kwb hf P5 L e hs v0 vs ra hl)
theorem FC(o:DG W f fn Qp name params Qa scope dV kV Ri pm QR ct oc an od Rl)(ok:tI W c (d+1)){P5 xs ar}(hA:HG W f xs ar){L0}(e2:cz fn.params P5 fn.dflt=some L0)(S:SR W c m X σ ps h)(ra:aL (VR (be ps)) P5 xs)(ht:1<=tk)
 (k:∀(c':Fc) m' Qo h₁ Qr,c'.cs=scope->v7 W c' d->SR W c' m' (ps.cs++X) σ Qo h₁->LR W.tb (be Qo) L0 m'->be Qo=be ps->1<=Qr ->
  (∀{m2 σ1 Rw h2},SR W c' m2 (ps.cs++X) σ1 Rw h2->SR W c m X σ1 ⟨Rw.p,Rw.zl,Rw.z,ps.cs⟩ h2) ->
  (∀{m2 σ1 Rw h1 s' ea y E},(∀n,cellsFrom n scope.names []=[])->SR W c' m2 (ps.cs++X) σ1 Rw h1->Heap.MadeExc h1 (Shared.heap s') ea "KeyError" [y]->(∀h2,Mf W c m X σ1 ⟨Rw.p,Rw.zl,Rw.z,ps.cs⟩ ea h2->R (.error (.ref ea)) { s' with heap:=h2 })->wpAny (model W.prog W.w) c'.A (leaving c'.env (.ref ea)) (λJ SI=>R (.error (.ref ea)) SI) E s') ->
  wpAny (model W.prog W.w) c'.A (execs Qa c'.env) (λfl s'=>R (.ok (.ret (match fl with|.ret v=>v|_=>.none))) s')
   (λe s'=>wpAny (model W.prog W.w) c'.A (leaving c'.env e) (λJ SI=>R (.error e) SI) (λe' SI=>R (.error e') SI) s') ⟨h₁,g,dr,Qr,os⟩):
 codeAny (model W.prog W.w) c.A (.call (.ref f) ar) R ⟨h,g,dr,tk,os⟩:=by
 refine a7 λkC=>?_;obtain ⟨P2,b1,b2,b3⟩:=o.any e2 ra hA;obtain ⟨g0,G0,m0,QO,F0⟩:=S.F;have K:=ok.X.keeps S.F.base;have hd:=ok.depth;have hu:=ok.units;have N0:=G0.news S.N;obtain ⟨FG,BG,st,_⟩:=groundX (s:=⟨h,g,dr,tk,os⟩) (R:=R) G0.B F0 N0 ok.frames (show c.env.frame=some c.L from rfl) ok.kind;refine kC (codeAny_call_function (by show _<1000;exact Uo (cV 0x13e87413de74271b03901888c1 rfl hd)) (K _ _ o.at_) rfl o.co o.gen rfl (codeRec_of K o.code) (b1 _ K _ _ _ _ (U3 (n:=1) ht (wpAny_newFunctionEnv_cells o.kind (λx hx=>?_) λenv' he s' x QT=>?_))))
 ·rcases b2 x hx with q|q
  ·exact .inl q
  ·obtain ⟨A,e⟩:=o.ck.cell (n:=h.objs.size+1) q;exact .inr ⟨q,by refine rW e ?_;simp⟩
 subst he;refine ⟨(ok.T.keeps G0.B.stays).nolimit.keeps F0.keep |>.keeps x.toInCall.keep,codeAny_func (a7 λkC=>?_)⟩;obtain ⟨h₁,Qr,rfl,_⟩:=x.done;have hk₁:=x.toInCall.keep;have SS:∀n a,(n,a)∈cellsFrom (h.objs.size+1) scope.names []->(cellsFrom (h.objs.size+1) scope.names []).lookup n=some a:=λn a hm=>by
  refine a7 λkC=>?_;rcases o.ck (h.objs.size+1) with ⟨_,e⟩|⟨y,A,e,_⟩
  ·refine kC ?_;rw[e]at hm;cases hm
  ·refine kC ?_;rw[e]at hm ⊢;clear right_2 e;obtain ⟨rfl,rfl⟩:=Prod.mk.inj (cP.mp hm);simp
 obtain ⟨cells,NC,Y⟩:=Cl.news (h₀:=h) (aQ _) λn a hm=>⟨x.cell n a (SS n a hm),x.above n a hm⟩
 have Y':CellsAre (λy=>P2.reverse.lookup y) (cellsFrom (h.objs.size+1) scope.names []) cells:=CellsAre.mono Y λz hz=>by have q:=o.ck.isCell hz;refine (jP (m:=λJ=>none) λp J J e=>?_).trans (Option.or_none ..);have e:scope.names.lookup z=some .local:=e;rw[q]at e;cases e
 have nc:∀p∈cells,∀q∈ps.flatten++X,p.1≠q.1:=λp hp q hq e=>by have z:=(NC p hp).2.2;rw[e,(S.N q hq).1]at z;exact bl z.symm
 have e1:(PZ.mk ps.p ps.zl ps.z cells).flatten++(ps.cs++X)=(ps.p.flatten++ps.zl)++(cells++(ps.cs++X)):=El ..;have e3:ps.flatten++X=(ps.p.flatten++ps.zl)++(ps.cs++X):=El ..;have pm:((PZ.mk ps.p ps.zl ps.z cells).flatten++(ps.cs++X)).Perm (cells++(ps.flatten++X)):=by exact rW e1 (rW e3 (List.perm_append_comm_assoc ..))
 refine kC (k (c.call Qp scope h f QR (ps.flatten++X)) (λy=>P2.reverse.lookup y) ⟨ps.p,ps.zl,ps.z,cells⟩ h₁ Qr rfl ⟨?_,ok.hh,?_,?_,ok.X,ok.T,o.kind,o.ck,rfl⟩ ⟨⟨_,⟨.refl,BG,λb hb=>?_⟩,_,λz hz=>?_,x.toInCall.ns,λb o e=>hk₁ b o (of_hideAll _ e),aU (hideAll_size _ _)⟩,λp hp=>?_,?_,S.rel,S.fz.1,Y'⟩ b3 rfl QT (KT ⟨h,g,dr,tk,os⟩ ok S) (λnc=>qx ⟨h,g,dr,tk,os⟩ ok S nc o.kind))
 ·show c.A.frames.map (_::·)=_;exact rW (ok.frames ..) rfl
 ·show c.A.depth+1+3*d+3<=990;exact aF (cV 0x371039b1878b3de7b513de74271b03901888c1 rfl hd)
 ·show c.A.units+3+30*d+300<=9800;exact aF (lz [_,_] [(1,.a (.a Op (.m 30 (.a Jl Jv))) (.n 280),.n 9800),(1,.a (.n 9800) Jv,.a (.a (.a Op (.n 3)) (.m 30 Jl)) (.n 300))] rfl hu)
 ·rcases kts_mem (name:=c.cn) (scope:=c.cs) (a:=c.a) (cd:=c.ccd) hb with rfl|hb
  ·refine a7 λkC=>?_;obtain ⟨oL,es,ep,hLg,hLd,_⟩:=FG.ns;exact kC ⟨oL,es,ep,hLg,hLd⟩
  ·refine a7 λkC=>?_;obtain ⟨o,Q8,n',RJ,RB⟩:=G0.D b hb;exact kC ⟨o,Q8,n',st b o RJ,RB⟩
 ·refine (jM (m:=λJ=>none) λp hp e=>?_).trans (Option.or_none ..);rcases b2 p hp with q|q
  ·exact e▸q
  ·obtain ⟨A,ea⟩:=o.ck.cell (n:=h.objs.size+1) q;have hz:(cellsFrom (h.objs.size+1) scope.names []).lookup z=none:=hz;rw[ea,e]at hz;simp at hz
 ·rcases List.mem_append.mp (pm.mem_iff.mp hp) with hp|hp
  ·refine ⟨(NC p hp).1,(NC p hp).2.1,?_⟩;show (hideAll h _).get? p.1=none;generalize q:(hideAll h ((ps.flatten++X).map (·.1))).get? p.1=z3;induction z3 with
   |none=>rfl
   |some o=>have:=of_hideAll _ q;rw[(NC p hp).2.2]at this;exact bl this
  ·exact ⟨hk₁ _ _ (S.N p hp).1,Nat.ne_of_lt (Heap.lt_size (S.N p hp).1),hideAll_none _ (UM hp)⟩
 ·refine ((pm.map (·.1)).nodup_iff).mpr (rW ba (List.nodup_append.mpr ⟨?_,S.nd,λa ha b hb q=>?_⟩))
  ·refine a7 λkC=>?_;clear pm e1 nc Y' NC;rcases o.ck (h.objs.size+1) with ⟨_,e⟩|⟨y,A,e,_⟩
   ·refine kC ?_;rw[e]at Y;clear kC;cases Y;exact .nil
   ·rw[e]at Y;obtain ⟨o,rfl,_⟩:=Y.one;exact kC (List.nodup_cons.mpr ⟨nofun,.nil⟩)
  ·refine a7 λkC=>?_;obtain ⟨p,hp,rfl⟩:=List.mem_map.mp ha;obtain ⟨r,hr,rfl⟩:=List.mem_map.mp hb;exact kC (nc p hp r hr q)
end
theorem BX(W:Wd)(p:Pr)(hso:ol W p.so)(hco:∀Qj call,nw W (jk p Qj call))(hi:W.tb[p.init]? = some "__init__")(hf:∀f fn,f<eM->p.fns f=some fn->zY W f fn)(TS:∀f fn,p.fns (f+eM)=some fn->uw W f fn)(Qj:Nat):
 ∀d,GX W (jk p Qj (hQ p Qj d)) d:=by
 have fnE:∀d,(∀f' R8 σ2 r',f'<eM->hQ p Qj d f' R8 σ2=some r'->fnIn W.K f'=true)/\∀f' R8 σ2 r',hQ p Qj d (f'+eM) R8 σ2=some r'->fnIn W.K f'=true:=λd=>by
  induction d with
  |zero=>exact ⟨λJ J J J J e=>bl e,λJ J J J e=>bl e⟩
  |succ d=>exact ⟨λf' J J J hb e'=>fI (fX.symm.trans e') λfn' q J=>(hf f' fn' hb q).fn,λf' J J J e'=>fI (fX.symm.trans e') λfn' q J=>(TS f' fn' q).fn⟩
 have mk:∀d,zW W (hQ p Qj d) d/\vS W (hQ p Qj d) d->GX W (jk p Qj (hQ p Qj d)) d:=λd ih=>⟨⟨hso,hco _ _,ih.1,ih.2⟩,hi,(fnE d).1,(fnE d).2⟩
 refine λd=>mk d ?_;clear fnE hi hco hso;induction d with
 |zero=>exact ⟨λf P5 J z J J p xs ar J J b σ' e=>bl e,λf P5 v σ' z J J p xs R J e=>bl e⟩
 |succ d ih=>
  have gx:=mk d ih;clear ih;refine ⟨?_,?_⟩
  ·intro f P5 Qf z hW ok pt xs ar ra hA v σ' e R H;clear mk TS;subst hW;refine fI (fX.symm.trans e) λfn e1 e=>fI e λL0 e2 e=>Dn e λfl L1 σ1 e3 e4=>?_;have e4:=(EJ Qf).symm.trans e4;generalize hf f fn Qf e1=z2;induction z2 with
   |mk oa ob=>
   refine FC oa ok hA e2 pt.S ra pt.ht λc' mc Q1 h₁ Qr hc ok' S1 lr hh Qd RC J=>?_;have le:∀{h2:HS},(be Q1).Le h2->pt.hs.Le h2:=λq=>(show be Q1=pt.hs from hh)▸q;refine ob.h (z:=⟨z.W,c',jk p Qj (hQ p Qj d),d,z.g,z.dr,z.os⟩) ⟨rfl,hc,gx,ok'⟩ ⟨mc,_,pt.σ,Q1,h₁,Qr,S1,Qd⟩ ⟨lr,ic.trans S1.len.symm,.rfl⟩ fl L1 σ1 e3 λS' pp R9 fr QT=>(H.eq e4) (RC S') (le pp) ?_ QT;clear e3;induction fr with
   |ret hv=>exact hv
   |_=>exact .none
  ·intro f P5 v σ' z hW ok pt xs R ra e H HX;clear mk hf;subst hW;refine fI (fX.symm.trans e) λfn e1 e=>fI e λL0 e2 e=>Dn e λfl L1 σ1 e3 e4=>?_;have e4:=uY.symm.trans e4;generalize TS f fn e1=z1;induction z1 with
   |mk oa ob=>
   refine FC oa ok (.inl rfl) e2 pt.S ra pt.ht λc' mc Q1 h₁ Qr hc ok' S1 lr hh Qd RC Tu=>?_;have le:∀{h2:HS},(be Q1).Le h2->pt.hs.Le h2:=λq=>(show be Q1=pt.hs from hh)▸q;refine ob.2.h (z:=⟨z.W,c',jk p Qj (hQ p Qj d),d,z.g,z.dr,z.os⟩) ⟨rfl,hc,gx,ok'⟩ ⟨mc,_,pt.σ,Q1,h₁,Qr,S1,Qd⟩ ⟨lr,ic.trans S1.len.symm,.rfl⟩ fl L1 σ1 e3 (λQs {_ _ _ _ _} S' pp R9 fr QT=>?_) (λSQ {_ Qo _ _ _ _ _} S' pp hm QT=>?_)
   ·have S2:=RC S';clear S' e3;induction fr with
    |@ret v0 y0 hv=>
     have q:v0≠.none/\some (v0,σ1)=some (v,σ'):=by
      clear Qs hv;induction v0 using V.casesOn with
      |none=>exact bl e4
      |_=>exact ⟨nofun,e4⟩
     clear Qs;cases q.2;exact H q.1 S2 (le pp) hv QT
    |next=>exact Uj rfl Qs
    |_=>exact bl e4
   ·clear e3 H;subst SQ;cases e4;exact Tu (λn=>oa.ck.none ob.1) S' hm λh2 RX=>HX rfl (Qo:=⟨Qo.p,Qo.zl,Qo.z,pt.ps.cs⟩) (le pp) RX QT
end
section
section
variable {W:Wd}{cs:Scope}
theorem qd{c i j o m e z L σ}:ms c (.aw i j o m e) z L σ=(aM c o L σ).bind λ(ov,σ1)=>(qA c ov m σ1 (aM c e L)).bind λ(v,σ2)=>match v with
 |.none=>some (.next,aX i .none L,σ2)
 |.str s=>some (.next,aX j (.int s.length) (aX i (.str s) L),σ2)
 |_=>none:=rfl
theorem yB{mi o e ox ex nm}{Qh QD:Pos}(hn:W.tb[mi]? = some nm)(ho:bK W cs none o ox)(QL:gb W cs none [e] [ex])(hp:∀env,(backTo QD (starEach [ex] env)).any (·.1)=false)
 (he:∀env,∃pl,eval (.Call (.Attribute ox nm Qh) [ex] [] QD) env=(do
  let ov <-eval ox env
  standAt Qh.atName
  let (f,first) <-holding [ov] (getMethod ov nm pl)
  callWith QD f first (backTo QD (starEach [ex] env)) []))
 {z:Am} (a:Ax W cs z) {p:Pt z}{L:aR}{σ1 σ2:St}{v0 v:V}{Q E:bw} (N:Nm none z.c.env p L) (e1:aM z.cx o L p.σ=some (v0,σ1)) (e3:qA z.cx v0 mi σ1 (aM z.cx e L)=some (v,σ2))
 (Hq:v≠.none->Hd p VR v σ2 Q) (He:v=.none->∀{ea Qo h' t'},p.hs.Le (be Qo)->Mf z.W z.c p.m p.X σ2 Qo ea h'->1<=t'->E (.ref ea) ⟨h',z.g,z.dr,t',z.os⟩):
 wpAny z.M z.c.A (eval (.Call (.Attribute ox nm Qh) [ex] [] QD) z.c.env) Q E p.sh:=by
 obtain ⟨pl,hev⟩:=he z.c.env;refine MethodCall_ (pl:=pl) (ho.h a p N v0 σ1 e1 λ{Q1 h1 t1 y1} S1 p1 r1 Qd=>?_) hev;have l:=p.leTo S1 Qd p1;clear hev e1 he;induction r1 with
 |u b=>
  refine fI e3 λob Ro e=>pF e λcl fs q e5=>a7 λkC=>?_;clear e;subst q;obtain ⟨Q8,D1,n1,g1,g2,i1,_⟩:=a.g.G.so.ro (hs:=be Q1) (S1.K a.g.ok) Ro;have gl:=io a.g.G.co.nd (a.W▸hn) i1;clear i1 Ro;refine kC ?_;clear kC;generalize hq:aJ mi fs=z1;induction z1 with
  |some _=>rw[hq]at e5;exact bl e5
  |none=>rw[hq]at e5 gl;refine fI e5 λgg e6 e=>cF e λvv σ3 e7 e8=>a7 λkC=>?_;obtain ⟨x',Q6,hf,RS,_,_,_,hB⟩:=a.g.G.co.meth _ _ _ e6;obtain rfl:=aK (Q6.symm.trans (a.W▸hn));obtain ⟨⟨g3,g4⟩,_⟩:=a.g.G.co.plain cl mi (.inr (.inl (Qg Option.isSome e6)));refine kC (method_fn (S1.K a.g.ok) (⟨g1,rfl,rfl,g2⟩:InstAt h1 b (instObj cl D1) cl (some (dictOf Q8 n1))) g3 g4 hf RS (by show (lookIn x' (dictOf Q8 n1)).map _=_;exact rW (lookIn_dict ..) (rW gl rfl)) ?_);refine callWith_of (P:=wM z (.ref gg)) (by rw[hp];rfl) (λh' p=>p) (dQ (hp _) (QL.h a (p.to S1 Qd) (N.up l) [vv] σ3 (by refine rW (bF ..) ?_;show ((aM _ _ _ σ1).bind _)=_;exact rW e7 rfl) λ{Rw h2 t2 ys} S2 p2 r2 Qe=>⟨keeps_K (px (a.g.x.fnX _ _ _ _ e8)) h2 (S2.K a.g.ok),wpAny_call ?_⟩));have QZ:=HS.Le.trans p1 p2;exact a.g.G.callX gg [.u b,vv] v σ2 z rfl a.g.ok.toC (p.to S2 Qe) (.cons (.u b) r2) e8 (λQs=>Hd.up (Hq Qs) (p.leTo S2 Qe QZ)) λhv {_ _ _ _} p3 RX QC=>He hv (QZ.trans p3) RX QC
 |_=>exact bl e3
theorem zN{i j mi kk o e ox ex nm xi}{Qh QD p1 p3 hpos tpos np Sq SK kp:Pos}{st2}
 (hnc:∀p∈cs.names,p.2≠.cell) (hn:W.tb[mi]? = some nm) (hi:W.tb[i]? = some xi) (hk:cs.names.lookup xi=some .local) (B:nU W cs none "KeyError" (.type "KeyError")) (ho:bK W cs none o ox) (QL:gb W cs none [e] [ex]) (hp:∀env,(backTo QD (starEach [ex] env)).any (·.1)=false)
 (he:∀env,∃pl,eval (.Call (.Attribute ox nm Qh) [ex] [] QD) env=(do
  let ov <-eval ox env
  standAt Qh.atName
  let (f,first) <-holding [ov] (getMethod ov nm pl)
  callWith QD f first (backTo QD (starEach [ex] env)) []))
 (hs1:∀env,swapsWithSole [.Name xi Sq] (.Call (.Attribute ox nm Qh) [ex] [] QD) p1.line env=pure false) (Sh:∀env,swappedStores [.Name xi Sq] (.Call (.Attribute ox nm Qh) [ex] [] QD) env=pure none) (SV:∀env,assignEach [.Name xi Sq] env=[(false,assign (.Name xi Sq) env)])
 (h2:jX W cs (.j (.l j) (.un .len (.q i))) st2)
 (hs3:∀env,swapsWithSole [.Name xi SK] (.Constant .none kk kp) p3.line env=pure false) (hw3:∀env,swappedStores [.Name xi SK] (.Constant .none kk kp) env=pure none) (ha3:∀env,assignEach [.Name xi SK] env=[(false,assign (.Name xi SK) env)]):
 jX W cs (.aw i j o mi e) (.Try [.Assign [.Name xi Sq] (.Call (.Attribute ox nm Qh) [ex] [] QD) p1,st2] [.ExceptHandler (some (.Name "KeyError" np)) none [.Assign [.Name xi SK] (.Constant .none kk kp) p3] hpos] [] [] tpos):=by
 refine ⟨λ{z} a p L n hz s fl L' σ' ee Q E H=>cF (qd.symm.trans ee) λv0 σ1 e1 e2=>cF e2 λv σ2 e3 e4=>wpAny_Try_except (wpAny_execs_cons (wpAny_Assign_stores (yB hn ho QL hp he a s.nm e1 e3 (λQs {_ _ _ _} S3 p3 r3 QC=>?_) (λhv {_ _ _ _} p3 RX QC=>?_)) (hs1 _) (Sh _)))⟩
 ·clear e3;induction v using V.casesOn with
  |str w=>
   have RD:=s.lr.mono p3;show wpAny _ _ _ _ _ _;rw[SV];refine (oF (pp:=Sq) hi (.inl hk)).h a (p.to S3 QC) RD r3 rfl λS4 p4 Tx QY=>?_;have q2:ms z.cx (.j (.l j) (.un .len (.q i))) n (aX i (.str w) L) σ2=some (.next,aX j (.int w.length) (aX i (.str w) L),σ2):=by show ((aM z.cx (.un .len (.q i)) _ _).bind _)=_;rw[pB,pg,(br i i _ L).trans (T6 rfl)];rfl
   refine wpAny_execs_cons (h2.h a ⟨_,_,_,_,_,_,S4,QY⟩ ⟨Tx,s.len,s.le.trans (HS.Le.trans p3 p4)⟩ _ _ _ q2 λS5 p5 lr5 fr5 Si=>?_);cases fr5 with
   |next=>exact wpAny_execs_nil (wpAny_execs_nil ((H.eq e4) S5 p5 lr5 .next Si))
  |none=>exact Uj rfl Qs
  |_=>exact bl e4
 ·refine a7 λkC=>?_;clear e3;subst hv;obtain ⟨⟨t,vs,GG,⟨g0,G0,m0,QO,F0⟩,R0,U0⟩,nd0,rel0,fz0⟩:=RX;have hA:=a.g.ok.dp;have ev:z.c.env=envOf z.c.cn z.c.cs z.c.L z.c.a z.c.ccd:=mY (a.g.ok.ck.none (a.cs▸hnc));rw[ev]at R0;refine kC (rW hA (rW ev (UX (caught_S0 (E:=λJ J=>False) R0 F0 G0.B U0 a.g.ok.X a.g.ok.T G0.D G0.T (a.W▸B.hg) B.hv B.hn (by refine rW (isSubtype_type ..) ?_;kernel_rfl) (by refine rW (isSubtype_type ..) ?_;kernel_rfl) oQ (λh' g' news₂ T' F' N2 J N' B' J J D'=>?_) (a.cs▸B.hs) (by show z.c.cs.names.lookup _=_;exact rW (a.cs ..) B.hk) B.hd PassesOwnAt.never) (λJ s₂ h=>UX h (λJ s₃ h=>UX h (λJ J x=>x) (λJ J z=>z.elim)) (λJ J z=>z.elim)) (λJ J z=>z.elim))));refine rW ev.symm (rW hA.symm (wpAny_execs_cons (wpAny_Assign_stores (wpAny_Constant_none ?_) (hs3 _) (hw3 _))));rw[ha3];show wpAny _ _ (assign (.Name xi SK) z.c.env .none) _ _ _;exact rW (arm_assign_Name ..) (T5 (UG (wpAny_bindName (fR a.g.G.co.nd a.g.ok.ck ⟨⟨g',⟨T',B',D'⟩,m0,QO,F'⟩,(Gd.back ⟨T',B',D'⟩ N'),nd0,rel0,fz0⟩ (s.lr.mono p3) (a.W▸hi) .none (a.cs▸hk) a.g.ok.kind λm' h'' S' R9=>wpAny_execs_nil ((H.eq e4) S' (s.le.trans p3) R9 .next (dU 1 QC))))))
end
end
section
structure BE(K:Frag)(fd:FuncData)(vs:aO)(P2:bD):Prop where
 h:∀s:Shared,K.In s.heap->BindsTo s fd ⟨vs,[]⟩ P2
theorem BE.of_eq{K fd vs P2}(h:bindArgs fd ⟨vs,[]⟩=pure P2):BE K fd vs P2:=⟨λs X=>BindsTo.of_eq h⟩
noncomputable def lI(fd:FuncData)(vs:aO):{ k:Option (Array Value)->Sem (bD) // bindArgs fd ⟨vs,[]⟩=seqItems? fd.defaults>>=k }:=⟨_,rfl⟩
theorem BE.df{K:Frag}{fd:FuncData}{T vs P2}{its:aO}{n}(hd:fd.defaults=.ref T)(ho:K.lookup T=some { cls:=.type "tuple",data:=.seq its.toArray n })
 (h:(lI fd vs).1 (some its.toArray)=pure P2):BE K fd vs P2:=
 ⟨λs X=>BindsTo.of_defaults hd (X _ _ ho) rfl (lI fd vs).2 h⟩
section
variable {W:Wd}{fn:Fn}{fd:FuncData}{scope:Scope}
theorem Gk(hp:fn.params=[])(hb:BE W.K fd [] []):fp W fn fd scope:=by
 intro P5 L e hs xs ra;rw[hp]at e;induction ra using aL.casesOn with
 |nil=>obtain rfl:=aK e;exact ⟨[],⟨hb.h,⟨(λy hy=>nomatch hy),(λi v h=>bl h)⟩⟩⟩
 |cons _ _=>exact bl e
theorem G6{tb hs i x a va}(hi:tb[i]? = some x)(h1:VR hs a va):LR tb hs [(i,a)] (λz=>[(x,va)].reverse.lookup z):=by
 intro j v h;by_cases q:i=j
 ·subst q;obtain rfl:=aK ((IY i a []).symm.trans h);exact ⟨x,_,hi,by simp,h1⟩
 ·exact bl ((FK a [] q).symm.trans h)
theorem LR.cons{tb hs i x a va L}{P2:bD}(hi:tb[i]? = some x)(Qs:x∉P2.map (·.1))(h1:VR hs a va)(l:LR tb hs L (λz=>P2.reverse.lookup z)):LR tb hs ((i,a)::L) (λz=>((x,va)::P2).reverse.lookup z):=by
 intro j v h;by_cases q:i=j
 ·subst q;obtain rfl:=aK ((IY i a L).symm.trans h);refine ⟨x,va,hi,?_,h1⟩;have:P2.reverse.lookup x=none:=List.lookup_eq_none_iff.mpr λp hp=>by
   rw[bne_iff_ne];exact λe=>Qs (e▸UM (List.mem_reverse.mp hp))
  refine rW (List.reverse_cons ..) ?_;show List.lookup x (P2.reverse++[(x,va)])=_;refine rW (List.lookup_append ..) (rW this ?_);simp[List.lookup]
 ·replace h:=(FK a L q).symm.trans h;obtain ⟨y,w,h2,h3,h4⟩:=l j v h;refine ⟨y,w,h2,(rW (List.reverse_cons ..) ?_),h4⟩;show List.lookup y (P2.reverse++[(x,va)])=_;refine rW (List.lookup_append ..) ?_;show (List.lookup y P2.reverse).or _=_;exact rW (show List.lookup y P2.reverse=some w from h3 ..) rfl
theorem pi{tb hs is}{xs:bq}(h:aL (λi x=>tb[i]? = some x) is xs):∀{vs:List V}{ys:aO}{L:aR},xs.Nodup->aL (VR hs) vs ys->cz is vs []=some L->LR tb hs L (λz=>(xs.zip ys).reverse.lookup z)/\xs.length=ys.length:=by
 induction h with
 |nil=>
  intro vs ys L _ r e;induction r using aL.casesOn with
  |nil=>obtain rfl:=aK e;exact ⟨(λi v h=>bl h),rfl⟩
  |cons _ _=>exact bl e
 |@cons i x is xs h1 _ ih=>
  intro vs ys L nd r e;induction r using aL.casesOn with
  |nil=>exact bl e
  |@cons v y vs ys h2 r2=>refine EG (P:=λL=>LR tb hs L (λz=>((x::xs).zip (y::ys)).reverse.lookup z)/\(x::xs).length=(y::ys).length) (show (cz is vs ([].drop ([].length-is.length))).map ((i,v)::·)=some L from e) λL0 e0=>?_;obtain ⟨a,b⟩:=ih (List.nodup_cons.mp nd).2 r2 (show cz is vs []=some L0 by exact rW e0.symm (rW (List.drop_nil ..) rfl));refine ⟨LR.cons h1 (λhm=>(List.nodup_cons.mp nd).1 ?_) h2 a,Qg (· + 1) b⟩;clear nd h1;obtain ⟨p,hp,rfl⟩:=List.mem_map.mp hm;exact (List.of_mem_zip hp).1
noncomputable def LT(scope:Scope)(x:Str):Bool:=decide (scope.names.lookup x=some .local)||decide (scope.names.lookup x=some .cell)
theorem sZ{scope x}(h:LT scope x=true):PK scope x:=(Bool.or_eq_true_iff.mp h).imp T9 T9
noncomputable def Jd:Nat->(aO->Prop)->Prop
 |0,P=>P []
 |n+1,P=>∀v,Jd n λvs=>P (v::vs)
theorem bk{n}:∀{P:aO->Prop},Jd n P->∀{vs:aO},n=vs.length->P vs:=by
 induction n with
 |zero=>intro P h vs e;induction vs with|nil=>exact h|cons _ _=>cases e
 |succ n ih=>intro P h vs e;induction vs with|nil=>cases e|cons v vs=>exact ih (h v) (Nat.succ.inj e)
theorem uK{i is v P5}:cz (i::is) (v::P5) []=(cz is P5 []).map ((i,v)::·):=by show (cz is P5 ([].drop _)).map _=_;exact rW (List.drop_nil ..) rfl
theorem DF{i j is v d P5}:cz (i::j::is) (v::P5) [d]=(cz (j::is) P5 [d]).map ((i,v)::·):=by show (cz (j::is) P5 (List.drop _ [d])).map _=_;exact rW (show [d].length-(j::is).length=0 from Nat.sub_eq_zero_of_le (cO (bu _)) ..) rfl
theorem ul{d}:∀{is:aC}{P5:List V}{L:aR},cz is P5 [d]=some L->cz is P5 []=some L\/cz is (P5++[d]) []=some L
 |[],[],_,e=>.inl e
 |[],_::_,_,e=>bl e
 |[i],v::P5,_,e=>.inl e
 |i::j::is,v::P5,_,e=>by rw[DF]at e;exact EG (P:=λL=>cz (i::j::is) (v::P5) []=some L\/cz (i::j::is) ((v::P5)++[d]) []=some L) e λL0 e0=>(ul e0).imp (λh=>rW (uK ..) (rW h rfl)) λh=>rW (UZ ..) (rW (uK ..) (rW h rfl))
 |[i],[],_,e=>.inr e
 |i::j::is,[],_,e=>bl ((T8 (by simp)).symm.trans e)
theorem Cn{is}{xs:bq}{d dv}(hp:fn.params=is)(hd:fn.dflt=[d])(hdv:VR .nil d dv)(hi:aL (λi x=>W.tb[i]? = some x) is xs)(nd:xs.Nodup)(hl:(xs.all λx=>LT scope x)=true)
 (hb:Jd xs.length λvs=>BE W.K fd vs (xs.zip vs)) (hb1:Jd (xs.length-1) λvs=>BE W.K fd vs (xs.zip (vs++[dv]))):fp W fn fd scope:=by
 intro P5 L e hs ys ra;rw[hp,hd]at e;have loc:∀zs:aO,∀y∈xs.zip zs,PK scope y.1:=λzs y hy=>sZ (a9.mp hl _ (List.of_mem_zip hy).1);rcases ul e with e|e
 ·obtain ⟨a,b⟩:=pi hi nd ra e;exact ⟨_,(bk hb b).h,λy hy=>loc _ y hy,a⟩
 ·obtain ⟨a,b⟩:=pi hi nd (ra.snoc (hdv.mono .nil)) e;exact ⟨_,(bk hb1 (rW b (rW aP rfl))).h,λy hy=>loc _ y hy,a⟩
theorem Gn{is}{xs:bq}(hp:fn.params=is)(hd:fn.dflt=[])(hi:aL (λi x=>W.tb[i]? = some x) is xs)(nd:xs.Nodup)(hl:(xs.all λx=>LT scope x)=true)(hb:Jd xs.length λvs=>BE W.K fd vs (xs.zip vs)):fp W fn fd scope:=by intro P5 L e hs ys ra;rw[hp,hd]at e;obtain ⟨a,b⟩:=pi hi nd ra e;exact ⟨_,(bk hb b).h,λy hy=>sZ (a9.mp hl _ (List.of_mem_zip hy).1),a⟩
end
structure IS(K:Frag)(fd:FuncData)(v0:Value)(kw P2:bD):Prop where
 h:∀s:Shared,K.In s.heap->BindsTo s fd ⟨[v0],kw⟩ P2
theorem IS.of_eq{K fd v0 kw P2}(h:bindArgs fd ⟨[v0],kw⟩=pure P2):IS K fd v0 kw P2:=⟨λs X=>BindsTo.of_eq h⟩
theorem IS.df{K:Frag}{fd:FuncData}{T v0 kw P2}{its:aO}{n k}(hd:fd.defaults=.ref T)(ho:K.lookup T=some { cls:=.type "tuple",data:=.seq its.toArray n })
 (h0:bindArgs fd ⟨[v0],kw⟩=seqItems? fd.defaults>>=k) (h:k (some its.toArray)=pure P2):IS K fd v0 kw P2:=
 ⟨λs X=>BindsTo.of_defaults hd (X _ _ ho) rfl h0 h⟩
theorem M2{W:Wd}{fn:Fn}{fd scope is x0}(hp:fn.params=is)(hd:fn.dflt=[])(hi:aL (λi x=>W.tb[i]? = some x) is (x0::W.kn))(nd:(x0::W.kn).Nodup)(hl:((x0::W.kn).all λx=>LT scope x)=true)
 (hb:∀v0,Jd W.kn.length λvs=>IS W.K fd v0 (W.kn.zip vs) ((x0::W.kn).zip (v0::vs))):iS W fn fd scope:=by
 intro P5 L e hs v0 vs ra QQ;rw[hp,hd]at e;obtain ⟨a,b⟩:=pi hi nd ra e;exact ⟨_,(bk (hb v0) QQ.symm).h,λy hy=>sZ (a9.mp hl _ (List.of_mem_zip hy).1),a⟩
theorem iX{K xs:Frag}{a:Addr}{o:Obj}(h:List.lookup a K=some o):List.lookup a (K++xs)=some o:=by
 induction K with
 |nil=>simp at h
 |cons p r ih=>
  obtain ⟨b,ob⟩:=p;rw[UZ,Uu]at *;split
  ·rename_i q;rw[q]at h;exact h
  ·rename_i q;rw[q]at h;exact ih h
theorem rR{K:Frag}{a:Addr}{o:Obj}(h:List.lookup a K=none):List.lookup a (K++[(a,o)])=some o:=by
 induction K with
 |nil=>simp[List.lookup]
 |cons p r ih=>
  obtain ⟨b,ob⟩:=p;rw[UZ,Uu]at *;split
  ·rename_i q;rw[q]at h;simp at h
  ·rename_i q;rw[q]at h;exact ih h
end
section
theorem bU{p:Prop}(h:false=true):p:=nomatch h
theorem an{a b:Bool}{p:Prop}(h:(a&&b)=true)(k:a=true->b=true->p):p:=by
 induction a with
 |true=>exact k rfl h
 |false=>exact bU h
theorem bn{a b:Bool}{p:Prop}(k:a=true->b=true->p)(h:(a&&b)=true):p:=an h k
theorem Np{a b c:Bool}{p:Prop}(h:(a&&b&&c)=true)(k:a=true->b=true->c=true->p):p:=an h λh z=>an h λa b=>k a b z
theorem LO{a b c d:Bool}{p:Prop}(h:(a&&b&&c&&d)=true)(k:a=true->b=true->c=true->d=true->p):p:=an h λh z=>Np h λa b c=>k a b c z
theorem Ol{a b c d e:Bool}{p:Prop}(h:(a&&b&&c&&d&&e)=true)(k:a=true->b=true->c=true->d=true->e=true->p):p:=an h λh z=>LO h λa b c d=>k a b c d z
theorem O1{a b c d e f:Bool}{p:Prop}(h:(a&&b&&c&&d&&e&&f)=true)(k:a=true->b=true->c=true->d=true->e=true->f=true->p):p:=an h λh z=>Ol h λa b c d e=>k a b c d e z
theorem PD{a b c:Bool}{p:Prop}(k:a=true->b=true->c=true->p)(h:(a&&b&&c)=true):p:=Np h k
theorem Pb{a b c d e:Bool}{p:Prop}(k:a=true->b=true->c=true->d=true->e=true->p)(h:(a&&b&&c&&d&&e)=true):p:=Ol h k
theorem nt{b:Bool}(h:(!b)=true):b=false:=by
 induction b with
 |false=>rfl
 |true=>exact bU h
inductive cm(p:Prop):Type where
 |n
 |y (h:p)
section
variable {p q:Prop}
noncomputable def cm.ok(c:cm p):Bool:=c.casesOn false λJ=>true
theorem cm.t{c:cm p}(h:c.ok=true):p:=by
 induction c with
 |n=>exact bU h
 |y k=>exact k
noncomputable def cm.b(c:cm p)(k:p->cm q):cm q:=c.casesOn .n k
noncomputable def cm.m(c:cm p)(k:p->q):cm q:=c.b λh=>.y (k h)
noncomputable def cm.o(c d:cm p):cm p:=c.casesOn d .y
noncomputable def kB(b:Bool)(h:b=true->p):cm p:=Bool.rec (motive:=λb=>(b=true->p)->cm p) (λJ=>.n) (λh=>.y (h rfl)) b h
end
section
variable {α β γ δ ε:Type}
noncomputable def n0{P:α->Prop}(a:α):cm (P a):=.n
@[elab_as_elim]noncomputable def kD[DecidableEq α]{M:α->Type}(d:∀x,M x)(a b:α)(k:M b):M a:=if h:a=b then h▸k else d a
section
variable {τ:Type}{M:τ->Type}(d:∀x,M x)
include d
noncomputable def n1{f:α->τ}(a:α):M (f a):=d _
noncomputable def n2{f:α->β->τ}(a:α)(b:β):M (f a b):=d _
noncomputable def n3{f:α->β->γ->τ}(a:α)(b:β)(c:γ):M (f a b c):=d _
noncomputable def n4{f:α->β->γ->δ->τ}(a:α)(b:β)(c:γ)(e:δ):M (f a b c e):=d _
noncomputable def n5{f:α->β->γ->δ->ε->τ}(a:α)(b:β)(c:γ)(e:δ)(g:ε):M (f a b c e g):=d _
end
@[elab_as_elim]noncomputable def dy{M:List α->Type}(d:∀x,M x)(l:List α)(k:∀x r,M (x::r)):M l:=l.casesOn (d _) k
@[elab_as_elim]noncomputable def gf{M:List α->Type}(d:∀x,M x)(l:List α)(k:M []):M l:=l.casesOn k λJ J=>d _
@[elab_as_elim]noncomputable def c1{M:List α->Type}(d:∀x,M x)(l:List α)(k:∀x,M [x]):M l:=dy d l λx r=>gf (λJ=>d _) r (k x)
@[elab_as_elim]noncomputable def mS{M:Option α->Type}(d:∀x,M x)(l:Option α)(k:∀x,M (some x)):M l:=l.casesOn (d _) k
@[elab_as_elim]noncomputable def mV{M:Option α->Type}(d:∀x,M x)(l:Option α)(k:M none):M l:=l.casesOn k λJ=>d _
noncomputable def H3{R:α->β->Prop}(f:∀a b,cm (R a b))(l:List α):∀m,cm (aL R l m):=
 l.rec (λm=>gf n0 m (.y .nil)) λa l ih m=>dy n0 m λb m=>(f a b).b λh=>(ih m).m (.cons h)
noncomputable def pO(l:List α)(k:α->List α->Bool):Bool:=match l with|x::r=>k x r|[]=>false
@[elab_as_elim]theorem oD{P:List α->Prop}{l:List α}{k:α->List α->Bool}(h:pO l k=true)(H:∀x r,k x r=true->P (x::r)):P l:=by
 induction l with
 |nil=>exact bU h
 |cons x r=>exact H x r h
noncomputable def w7(l:List α):Bool:=match l with|[]=>true|_=>false
theorem qF{l:List α}(h:w7 l=true):l=[]:=by
 induction l with
 |nil=>rfl
 |cons _ _=>exact bU h
noncomputable def nv(l:Option α)(k:α->Bool):Bool:=match l with|some x=>k x|none=>false
@[elab_as_elim]theorem s9{P:Option α->Prop}{l:Option α}{k:α->Bool}(h:nv l k=true)(H:∀x,k x=true->P (some x)):P l:=by
 induction l with
 |none=>exact bU h
 |some x=>exact H x h
noncomputable def uC(l:Option α):Bool:=match l with|none=>true|some _=>false
theorem Bs{l:Option α}(h:uC l=true):l=none:=by
 induction l with
 |none=>rfl
 |some x=>exact bU h
end
@[elab_as_elim]noncomputable def si{M:Expr->Type}(d:∀x,M x)(x:Expr)(K0:∀n p,M (.Name n p))(K1:∀c j p,M (.Constant c j p))(K2:∀y n p,M (.Attribute y n p))(K3:∀y z p,M (.Subscript y z p))(K4:∀a b c p,M (.Slice a b c p))(K5:∀y op z p,M (.BinOp y op z p))(K6:∀op y p,M (.UnaryOp op y p))(K7:∀op l p,M (.BoolOp op l p))(K8:∀y Q4 l p,M (.Compare y Q4 l p))(K9:∀t b f p,M (.IfExp t b f p))(K10:∀l p,M (.List l p))(K11:∀l j p,M (.Tuple l j p))(K12:∀l m p,M (.Dict l m p))(K13:∀y g sc p,M (.ListComp y g sc p))(K14:∀f l kw p,M (.Call f l kw p)):M x:=by
 induction x using Expr.casesOn with
 |Name n p=>exact K0 n p
 |Constant c j p=>exact K1 c j p
 |Attribute y n p=>exact K2 y n p
 |Subscript y z p=>exact K3 y z p
 |Slice a b c p=>exact K4 a b c p
 |BinOp y op z p=>exact K5 y op z p
 |UnaryOp op y p=>exact K6 op y p
 |BoolOp op l p=>exact K7 op l p
 |Compare y Q4 l p=>exact K8 y Q4 l p
 |IfExp t b f p=>exact K9 t b f p
 |List l p=>exact K10 l p
 |Tuple l j p=>exact K11 l j p
 |Dict l m p=>exact K12 l m p
 |ListComp y g sc p=>exact K13 y g sc p
 |Call f l kw p=>exact K14 f l kw p
 |_=>exact d _
@[elab_as_elim]noncomputable def fK{M:Expr->Type}(d:∀x,M x)(x:Expr)(k:∀n p,M (.Name n p)):M x:=si d x k (n3 d) (n3 d) (n3 d) (n4 d) (n4 d) (n3 d) (n3 d) (n4 d) (n4 d) (n2 d) (n3 d) (n3 d) (n4 d) (n4 d)
@[elab_as_elim]noncomputable def ig{M:Expr->Type}(d:∀x,M x)(x:Expr)(k:∀c j p,M (.Constant c j p)):M x:=si d x (n2 d) k (n3 d) (n3 d) (n4 d) (n4 d) (n3 d) (n3 d) (n4 d) (n4 d) (n2 d) (n3 d) (n3 d) (n4 d) (n4 d)
@[elab_as_elim]noncomputable def fg{M:Expr->Type}(d:∀x,M x)(x:Expr)(k:∀y n p,M (.Attribute y n p)):M x:=si d x (n2 d) (n3 d) k (n3 d) (n4 d) (n4 d) (n3 d) (n3 d) (n4 d) (n4 d) (n2 d) (n3 d) (n3 d) (n4 d) (n4 d)
@[elab_as_elim]noncomputable def d3{M:Expr->Type}(d:∀x,M x)(x:Expr)(k:∀y z p,M (.Subscript y z p)):M x:=si d x (n2 d) (n3 d) (n3 d) k (n4 d) (n4 d) (n3 d) (n3 d) (n4 d) (n4 d) (n2 d) (n3 d) (n3 d) (n4 d) (n4 d)
@[elab_as_elim]noncomputable def A8{M:Expr->Type}(d:∀x,M x)(x:Expr)(k:∀a b c p,M (.Slice a b c p)):M x:=si d x (n2 d) (n3 d) (n3 d) (n3 d) k (n4 d) (n3 d) (n3 d) (n4 d) (n4 d) (n2 d) (n3 d) (n3 d) (n4 d) (n4 d)
@[elab_as_elim]noncomputable def GC{M:Expr->Type}(d:∀x,M x)(x:Expr)(k:∀y op z p,M (.BinOp y op z p)):M x:=si d x (n2 d) (n3 d) (n3 d) (n3 d) (n4 d) k (n3 d) (n3 d) (n4 d) (n4 d) (n2 d) (n3 d) (n3 d) (n4 d) (n4 d)
@[elab_as_elim]noncomputable def je{M:Expr->Type}(d:∀x,M x)(x:Expr)(k:∀op y p,M (.UnaryOp op y p)):M x:=si d x (n2 d) (n3 d) (n3 d) (n3 d) (n4 d) (n4 d) k (n3 d) (n4 d) (n4 d) (n2 d) (n3 d) (n3 d) (n4 d) (n4 d)
@[elab_as_elim]noncomputable def wl{M:Expr->Type}(d:∀x,M x)(x:Expr)(k:∀op l p,M (.BoolOp op l p)):M x:=si d x (n2 d) (n3 d) (n3 d) (n3 d) (n4 d) (n4 d) (n3 d) k (n4 d) (n4 d) (n2 d) (n3 d) (n3 d) (n4 d) (n4 d)
@[elab_as_elim]noncomputable def r6{M:Expr->Type}(d:∀x,M x)(x:Expr)(k:∀y Q4 l p,M (.Compare y Q4 l p)):M x:=si d x (n2 d) (n3 d) (n3 d) (n3 d) (n4 d) (n4 d) (n3 d) (n3 d) k (n4 d) (n2 d) (n3 d) (n3 d) (n4 d) (n4 d)
@[elab_as_elim]noncomputable def Ii{M:Expr->Type}(d:∀x,M x)(x:Expr)(k:∀t b f p,M (.IfExp t b f p)):M x:=si d x (n2 d) (n3 d) (n3 d) (n3 d) (n4 d) (n4 d) (n3 d) (n3 d) (n4 d) k (n2 d) (n3 d) (n3 d) (n4 d) (n4 d)
@[elab_as_elim]noncomputable def JN{M:Expr->Type}(d:∀x,M x)(x:Expr)(k:∀l p,M (.List l p)):M x:=si d x (n2 d) (n3 d) (n3 d) (n3 d) (n4 d) (n4 d) (n3 d) (n3 d) (n4 d) (n4 d) k (n3 d) (n3 d) (n4 d) (n4 d)
@[elab_as_elim]noncomputable def lR{M:Expr->Type}(d:∀x,M x)(x:Expr)(k:∀l j p,M (.Tuple l j p)):M x:=si d x (n2 d) (n3 d) (n3 d) (n3 d) (n4 d) (n4 d) (n3 d) (n3 d) (n4 d) (n4 d) (n2 d) k (n3 d) (n4 d) (n4 d)
@[elab_as_elim]noncomputable def JR{M:Expr->Type}(d:∀x,M x)(x:Expr)(k:∀l m p,M (.Dict l m p)):M x:=si d x (n2 d) (n3 d) (n3 d) (n3 d) (n4 d) (n4 d) (n3 d) (n3 d) (n4 d) (n4 d) (n2 d) (n3 d) k (n4 d) (n4 d)
@[elab_as_elim]noncomputable def m5{M:Expr->Type}(d:∀x,M x)(x:Expr)(k:∀y g sc p,M (.ListComp y g sc p)):M x:=si d x (n2 d) (n3 d) (n3 d) (n3 d) (n4 d) (n4 d) (n3 d) (n3 d) (n4 d) (n4 d) (n2 d) (n3 d) (n3 d) k (n4 d)
@[elab_as_elim]noncomputable def uu{M:Expr->Type}(d:∀x,M x)(x:Expr)(k:∀f l kw p,M (.Call f l kw p)):M x:=si d x (n2 d) (n3 d) (n3 d) (n3 d) (n4 d) (n4 d) (n3 d) (n3 d) (n4 d) (n4 d) (n2 d) (n3 d) (n3 d) (n4 d) k
@[elab_as_elim]noncomputable def xw{M:Stmt->Type}(d:∀x,M x)(x:Stmt)(K0:∀x p,M (.Expr x p))(K1:∀l y p,M (.Assign l y p))(K2:∀x op y p,M (.AugAssign x op y p))(K3:∀x a b p,M (.If x a b p))(K4:∀x a b p,M (.While x a b p))(K5:∀x y a b p,M (.For x y a b p))(K6:∀x p,M (.Return x p))(K7:∀p,M (.Pass p))(K8:∀p,M (.Break p))(K9:∀p,M (.Continue p))(K10:∀x m p,M (.Assert x m p))(K11:∀b hs oe fb p,M (.Try b hs oe fb p))(K12:∀ex c p,M (.Raise ex c p)):M x:=by
 induction x using PySem.Stmt.casesOn with
 |Expr x p=>exact K0 x p
 |Assign l y p=>exact K1 l y p
 |AugAssign x op y p=>exact K2 x op y p
 |If x a b p=>exact K3 x a b p
 |While x a b p=>exact K4 x a b p
 |For x y a b p=>exact K5 x y a b p
 |Return x p=>exact K6 x p
 |Pass p=>exact K7 p
 |Break p=>exact K8 p
 |Continue p=>exact K9 p
 |Assert x m p=>exact K10 x m p
 |Try b hs oe fb p=>exact K11 b hs oe fb p
 |Raise ex c p=>exact K12 ex c p
 |_=>exact d _
@[elab_as_elim]noncomputable def JX{M:Stmt->Type}(d:∀x,M x)(x:Stmt)(k:∀x p,M (.Expr x p)):M x:=xw d x k (n3 d) (n4 d) (n4 d) (n4 d) (n5 d) (n2 d) (n1 d) (n1 d) (n1 d) (n3 d) (n5 d) (n3 d)
@[elab_as_elim]noncomputable def oC{M:Stmt->Type}(d:∀x,M x)(x:Stmt)(k:∀l y p,M (.Assign l y p)):M x:=xw d x (n2 d) k (n4 d) (n4 d) (n4 d) (n5 d) (n2 d) (n1 d) (n1 d) (n1 d) (n3 d) (n5 d) (n3 d)
@[elab_as_elim]noncomputable def iK{M:Stmt->Type}(d:∀x,M x)(x:Stmt)(k:∀x op y p,M (.AugAssign x op y p)):M x:=xw d x (n2 d) (n3 d) k (n4 d) (n4 d) (n5 d) (n2 d) (n1 d) (n1 d) (n1 d) (n3 d) (n5 d) (n3 d)
@[elab_as_elim]noncomputable def Ph{M:Stmt->Type}(d:∀x,M x)(x:Stmt)(k:∀x a b p,M (.If x a b p)):M x:=xw d x (n2 d) (n3 d) (n4 d) k (n4 d) (n5 d) (n2 d) (n1 d) (n1 d) (n1 d) (n3 d) (n5 d) (n3 d)
@[elab_as_elim]noncomputable def Im{M:Stmt->Type}(d:∀x,M x)(x:Stmt)(k:∀x a b p,M (.While x a b p)):M x:=xw d x (n2 d) (n3 d) (n4 d) (n4 d) k (n5 d) (n2 d) (n1 d) (n1 d) (n1 d) (n3 d) (n5 d) (n3 d)
@[elab_as_elim]noncomputable def NZ{M:Stmt->Type}(d:∀x,M x)(x:Stmt)(k:∀x y a b p,M (.For x y a b p)):M x:=xw d x (n2 d) (n3 d) (n4 d) (n4 d) (n4 d) k (n2 d) (n1 d) (n1 d) (n1 d) (n3 d) (n5 d) (n3 d)
@[elab_as_elim]noncomputable def vV{M:Stmt->Type}(d:∀x,M x)(x:Stmt)(k:∀x p,M (.Return x p)):M x:=xw d x (n2 d) (n3 d) (n4 d) (n4 d) (n4 d) (n5 d) k (n1 d) (n1 d) (n1 d) (n3 d) (n5 d) (n3 d)
@[elab_as_elim]noncomputable def La{M:Stmt->Type}(d:∀x,M x)(x:Stmt)(k:∀p,M (.Pass p)):M x:=xw d x (n2 d) (n3 d) (n4 d) (n4 d) (n4 d) (n5 d) (n2 d) k (n1 d) (n1 d) (n3 d) (n5 d) (n3 d)
@[elab_as_elim]noncomputable def HF{M:Stmt->Type}(d:∀x,M x)(x:Stmt)(k:∀p,M (.Break p)):M x:=xw d x (n2 d) (n3 d) (n4 d) (n4 d) (n4 d) (n5 d) (n2 d) (n1 d) k (n1 d) (n3 d) (n5 d) (n3 d)
@[elab_as_elim]noncomputable def wS{M:Stmt->Type}(d:∀x,M x)(x:Stmt)(k:∀p,M (.Continue p)):M x:=xw d x (n2 d) (n3 d) (n4 d) (n4 d) (n4 d) (n5 d) (n2 d) (n1 d) (n1 d) k (n3 d) (n5 d) (n3 d)
@[elab_as_elim]noncomputable def En{M:Stmt->Type}(d:∀x,M x)(x:Stmt)(k:∀x m p,M (.Assert x m p)):M x:=xw d x (n2 d) (n3 d) (n4 d) (n4 d) (n4 d) (n5 d) (n2 d) (n1 d) (n1 d) (n1 d) k (n5 d) (n3 d)
@[elab_as_elim]noncomputable def Kw{M:Stmt->Type}(d:∀x,M x)(x:Stmt)(k:∀b hs oe fb p,M (.Try b hs oe fb p)):M x:=xw d x (n2 d) (n3 d) (n4 d) (n4 d) (n4 d) (n5 d) (n2 d) (n1 d) (n1 d) (n1 d) (n3 d) k (n3 d)
@[elab_as_elim]noncomputable def Ix{M:Stmt->Type}(d:∀x,M x)(x:Stmt)(k:∀ex c p,M (.Raise ex c p)):M x:=xw d x (n2 d) (n3 d) (n4 d) (n4 d) (n4 d) (n5 d) (n2 d) (n1 d) (n1 d) (n1 d) (n3 d) (n5 d) k
noncomputable def uS(x:Expr)(l:aC):Bool:=l.any (Nat.beq x.ctorIdx)
structure XF(x:Expr):Prop where
 star:uS x [26]=false->∀xs env,starEach (x::xs) env=(false,eval x env)::starEach xs env
 sub:uS x [26]=false->∀o i,subscripted x false o i=operate [o,i] (getItem o i)
 aug:uS x [26]=false->∀ov iv new,augStore x ov iv new=(do holding [new,ov,iv] (setItem ov iv new);release [new,ov,iv] [];pure .next)
 set:uS x [26]=false->∀env v,foldedSetIterable x env v=pure v
 mark:uS x [26]=false->∀op,behindInMarks op x=false
 comp:uS x [8]=false->∀t n env,swapsWith x t n env=pure false
 tup:uS x [25]=false->∀l n p env,swappedStores [.Tuple l n p] x env=pure none
 plain:uS x [0,3,5,15]=false->∀env w,isTrue x env w=(do let v <-w;standAt x.pos;holding [v] (truthy v))
 call:uS x [16]=false->∀nm env w,attributeBase x nm env w=w
 name:uS x [23]=false->∀l k p nm env w,attributeBase (.Call x l k p) nm env w=w
noncomputable def PB(x:Expr):cm (XF x):=by
 refine si n0 x (λa b=>.y ?_) (λa b c=>.y ?_) (λa b c=>.y ?_) (λa b c=>.y ?_) (λa b c d=>.y ?_) (λa b c d=>.y ?_) (λa b c=>.y ?_) (λa b c=>.y ?_) (λa b c d=>.y ?_) (λa b c d=>.y ?_) (λa b=>.y ?_) (λa b c=>.y ?_) (λa b c=>.y ?_) (λa b c d=>.y ?_) (λa b c d=>.y ?_)
 all_goals exact ⟨by first|exact λh=>bU h.symm|exact λh a b=>rfl,by first|exact λh=>bU h.symm|exact λh a b=>rfl,by first|exact λh=>bU h.symm|exact λh a b c=>rfl,by first|exact λh=>bU h.symm|exact λh a b=>rfl,by first|exact λh=>bU h.symm|exact λh a=>rfl,by first|exact λh=>bU h.symm|exact λh a b c=>rfl,by first|exact λh=>bU h.symm|exact λh a b c d=>rfl,by first|exact λh=>bU h.symm|exact λh a b=>rfl,by first|exact λh=>bU h.symm|exact λh a b c=>rfl,by first|exact λh=>bU h.symm|exact λh a b c d e f=>rfl⟩
noncomputable def Jx(x:Expr)(l:aC):cm (XF x/\uS x l=false):=(PB x).b λf=>(kB (!uS x l) nt).m λq=>⟨f,q⟩
noncomputable def jy(x:Expr):cm (XF x/\uS x [26]=false):=Jx x [26]
noncomputable def wZ(x:Expr):Bool:=(jy x).ok
theorem Kl{x:Expr}{p:Prop}(h:wZ x=true)(k:XF x->uS x [26]=false->p):p:=k (cm.t h).1 (cm.t h).2
noncomputable def lE(x:Expr):cm (∀t n env,swapsWith x t n env=pure false):=(Jx x [8]).m λh=>h.1.comp h.2
noncomputable def Ja(x:Expr):cm (∀env w,isTrue x env w=(do let v <-w;standAt x.pos;holding [v] (truthy v))):=(Jx x [0,3,5,15]).m λh=>h.1.plain h.2
noncomputable def NC(x:Expr):Prop:=∀nm env w,attributeBase x nm env w=w
noncomputable def tK(x:Expr):cm (NC x):=((Jx x [16]).m λh=>h.1.call h.2).o (uu n0 x λf l k p=>(Jx f [23]).m λh=>h.1.name h.2 l k p)
end
section
section
variable {c:Cx}{L:aR}{σ:St}
theorem DH{a b}:aM c (.ay a b) L σ=b2 (Qc c [a,b] L σ) λvs σ=>km vs λv r=>v1 r λw=>jo v w σ:=by
 rw[rU,b2,bF];generalize aM c a L σ=z4;induction z4 with
 |none=>rfl
 |some x=>show _=Option.bind (Option.bind (Qc c [b] L x.2) _) _;rw[bF];show (aM c b L x.2).bind _=_;generalize aM c b L x.2=z3;induction z3<;>rfl
theorem Eg{a b}:aM c (.ax a b) L σ=b2 (Qc c [a,b] L σ) λvs σ=>km vs λv r=>v1 r λw=>vH v w σ:=by
 rw[qI,b2,bF];generalize aM c a L σ=z2;induction z2 with
 |none=>rfl
 |some x=>show _=Option.bind (Option.bind (Qc c [b] L x.2) _) _;rw[bF];show (aM c b L x.2).bind _=_;generalize aM c b L x.2=z1;induction z1<;>rfl
end
section
variable {W:Wd}{cs:Scope}{cp:Option Cp}
theorem Ah{t x PV}(QT:mO W cs none t x):jX W cs (.az t) (.Assert x none PV):=by
 refine ⟨λ{z} a p L n hz s fl L' σ' ee Q E H=>cF (show (bR z.cx t L p.σ).bind _=_ from ee) λb σ1 e1 e2=>wpAny_Assert_new a.g.ok.hh (QT.h a p s.nm b σ1 e1 λS le ht=>?_)⟩;clear e1;induction b with
 |true=>exact s.out (H.eq e2) S le .next ht
 |false=>exact bl e2
variable {es:List PE}{xs:bJ}{QB PV:Pos}
theorem CN{a b}(B:nU W cs cp "range" (.type "range"))(QL:gb W cs cp [a,b] xs)(hp:∀env,(backTo PV (starEach xs env)).any (·.1)=false)
 (hc:∀env,eval (.Call (.Name "range" QB) xs [] PV) env=(do callWith PV (<-eval (.Name "range" QB) env) [] (backTo PV (starEach xs env)) (backToKw PV (keywordEach [] env)))):bK W cs cp (.ay a b) (.Call (.Name "range" QB) xs [] PV):=
 ⟨λG p env L N=>n8 B nofun QL hp hc G N DH λq vs ys J r=>.cons (a:=λys=>call (.type "range") ys) r λv y J Re r1 r=>.v1 (a:=λys=>call (.type "range") (y::ys)) r λw y' r2=>.int (a:=λy=>call (.type "range") [y,y']) r1 λi t=>.int (a:=λy=>call (.type "range") [_,y]) r2 λj u=>.guard λhl=>.any λk=>call_range_2 (k.push (o:=.rng _ _ _) rfl .rng (dU 1 q.ht))⟩
theorem uM{z:Am}(g:Gs z){p:Pt z}{mi:Nat}(hn:z.W.tb[mi]? = some "__contains__"){a b v:V}{x y:Value}{σ':St}{Q E:bw}(ra:VR p.hs a x)(rb:VR p.hs b y)(e:HL z.cx a b mi p.σ=some (v,σ'))(k:∀q,v=.bool q->∀{Qo h' t'},SR z.W z.c p.m p.X σ' Qo h'->p.hs.Le (be Qo)->1<=t'->Q (.bool q) ⟨h',z.g,z.dr,t',z.os⟩):
 wpAny z.M z.c.A (compareOp .In x y) Q E p.sh:=by
 induction rb with
 |u a0=>
  refine fI e λob Ro e=>pF e λcl fs q e=>fI e λgg e4 e=>cF e λr σ3 e5 e6=>a7 λkC=>?_;subst q;obtain ⟨Q8,D1,n1,g1,g2,i1,_⟩:=g.G.so.ro (hs:=p.hs) (g.K p) Ro;obtain ⟨x',Q6,hf,RS,_,_,_,hB⟩:=g.G.co.meth _ _ _ e4;clear left_2;obtain rfl:=aK (Q6.symm.trans hn);obtain ⟨g0,G0,m0,QO,F0⟩:=p.S.F;refine kC (in_K (s:=p.sh) F0 (g.ok.KR G0) (⟨g1,rfl,rfl,g2⟩:InstAt p.h a0 (instObj cl D1) cl (some (dictOf Q8 n1))) hf (by unfold isFn;exact rW RS rfl) (wpAny_call ?_));refine g.G.call gg [.u a0,a] hB z rfl g.ok.toC p _ _ (.cons (.u a0) (.cons ra .nil)) (.inl rfl) r σ3 e5 λS4 p4 r4 QY=>?_;clear e5;induction r4 with
  |bool bb=>cases e6;exact wpAny_truthy_bool (k bb rfl S4 p4 QY)
  |_=>exact bl e6
 |_=>exact bl e
theorem Iy{mi:Nat}{e o:PE}{x y:Expr}{PV:Pos}(hn:W.tb[mi]? = some "__contains__")(he:bK W cs cp e x)(ho:bK W cs cp o y)(hm:behindInMarks .In y=false):bK W cs cp (.ao e o mi) (.Compare x [.In] [y] PV):=
 ⟨λa p env L V=>CA (rfl) (λh=>wpAny_Compare1 h hm) (he.h a p V) (λq le=>ho.h a q (V.up le)) λq v x w y le r1 r2 b σ' e Q E H=>uM a.g (a.W▸hn) r1 r2 e λq hv {_ _ _} S le ht=>H S le (hv▸.bool q) ht⟩
theorem Dk{mi:Nat}{e o:PE}{x y:Expr}{PV:Pos}(hn:W.tb[mi]? = some "__contains__")(he:bK W cs cp e x)(ho:bK W cs cp o y)(hm:behindInMarks .In y=false):mO W cs cp (.ao e o mi) (.Compare x [.In] [y] PV):=by refine ⟨λ{z} a p env L V b σ' ee Q E H=>cF (show ((aM z.cx (.ao e o mi) L p.σ).bind λ(v,σ1)=>(b7 z.cx σ1 v).map λb=>(b,σ1))=_ from ee) λv0 σ0 e0 e7=>cF (v8.symm.trans e0) λw σ1 e1 e=>cF e λb σ2 e2 e3=>(wpAny_isTrue_Compare1 (he.h a p V w σ1 e1 λS1 p1 r1 Qd=>ho.h a (p.to S1 Qd) (V.up (p.leTo S1 Qd p1)) b σ2 e2 λS2 p2 r2 Qe=>uM (p:=p.to S2 Qe) a.g (a.W▸hn) (r1.mono p2) r2 e3 λq hv {_ _ _} S4 p4 QY=>wpAny_truthy_bool ?_) hm)⟩;clear e3 e e0;subst hv;exact (H.eq e7) S4 ((HS.Le.trans p1 p2).trans p4) QY
theorem wC(s p:aC):Txt.startswith (aT s) (aT p)=p.isPrefixOf s:=by
 have h:Builtin.Str.subAt (aT s) (aT p) 0=true↔p<+:s:=by rw[StrLaws.subAt_eq,eo,eo,bQ,List.drop_zero,beq_iff_eq,List.prefix_iff_eq_take];exact eq_comm
 rw[Bool.eq_iff_iff,List.isPrefixOf_iff_prefix,<-h];unfold Txt.startswith;exact rW (Us ..) ⟨λq=>q.2,λq=>⟨Uf (by have:=(h.mp q).length_le;exact rW (bQ ..) (rW (bQ ..) (aF (cV 0x71831b2111011 rfl this)))),q⟩⟩
theorem wQ:ku "str.startswith" λcx=>sE cx .starts:=λg p o x vs ys ra rs=>.v1 (a:=λys=>call (.builtin "str.startswith") (x::ys)) rs λv0 y0 r1=>.str (a:=λx=>call (.builtin "str.startswith") [x,y0]) ra λs ts hl=>.str (a:=λy=>call (.builtin "str.startswith") [_,y]) r1 λq t J=>.one λk=>SC.startswith (rW (wC ..) (k (.bool _) p.ht))
end
end
section
structure fF(W:Wd)(g:Nat)(T:List (Int×aC)):Prop where
 h:∃f:Int->Option Value,(∀h,W.K.In h->h.MapOf (PySem.intKind W.prog W.w) g f)/\(g==sysModules)=false/\∀i,match T.lookup i with
  |some s=>∃t,f i=some (.str (aT s) t)/\s.length<=a8
  |none=>f i=none
theorem qP{c L}:∀{es:List PE}{σ σ':St}{vs:List V},Qc c es L σ=some (vs,σ')->es.length=vs.length
 |[],σ,σ',vs,e=>Qg (λp=>List.length (Prod.fst p)) (aK (me.symm.trans e))
 |x::es,σ,σ',vs,e=>cF (bF.symm.trans e) λv0 σ0 e1 e=>cF e λv1 σ1 e2 e=>by obtain ⟨rfl,_⟩:=Prod.mk.inj (aK e);exact Qg (· + 1) (qP e2)
theorem sj{PV env}:∀{QA:List Keyword}{ns:bq},QA.map (·.arg)=ns.map some->(backToKw PV (keywordEach QA env)).all (·.1.isSome)=true/\(backToKw PV (keywordEach QA env)).filterMap (·.1)=ns/\(backToKw PV (keywordEach QA env)).any (·.1.isNone)=false
 |[],[],_=>⟨rfl,rfl,rfl⟩
 |[],_::_,h=>nomatch h
 |_::_,[],h=>nomatch h
 |k::QA,n::ns,h=>by refine a7 λkC=>?_;obtain ⟨h1,h2⟩:=U5 h;clear h;obtain ⟨a,b,c⟩:=sj (PV:=PV) (env:=env) h2;obtain ⟨arg,value,kp⟩:=k;have h1:arg=some n:=h1;clear h1;subst h1;refine kC ⟨a,?_,c⟩;show n::(backToKw PV (keywordEach QA env)).filterMap (·.1)=_;exact rW b rfl
section
variable {W:Wd}{cs:Scope}{cp:Option Cp}{z:Am}{p:Pt z}{QB PV:Pos}{xs:bJ}
theorem D7{a b}(B:nU W cs cp "int" (.type "int"))(QL:gb W cs cp [a,b] xs)(hp:∀env,(backTo PV (starEach xs env)).any (·.1)=false)
 (hc:∀env,eval (.Call (.Name "int" QB) xs [] PV) env=(do callWith PV (<-eval (.Name "int" QB) env) [] (backTo PV (starEach xs env)) (backToKw PV (keywordEach [] env)))):bK W cs cp (.ax a b) (.Call (.Name "int" QB) xs [] PV):=
 ⟨λG p env L N=>n8 B nofun QL hp hc G N Eg λq vs ys J r=>.cons (a:=λys=>call (.type "int") ys) r λv y J Re r1 r=>.v1 (a:=λys=>call (.type "int") (y::ys)) r λw y' r2=>.str (a:=λy=>call (.type "int") [y,y']) r1 λs t hl=>.int (a:=λy=>call (.type "int") [_,y]) r2 λj u=>.guard λhn=>.one λk=>by obtain ⟨n,rfl⟩:=Int.eq_ofNat_of_zero_le (show 0<=j by clear k;rcases hn.1 with rfl|rfl<;>decide);exact callType_new PySem.F.called_int PySem.F.newNe_int ((by kernel_rfl)) ((by kernel_rfl)) (λQ5=>PySem.F.args_object_init_3 Q5 _ _) PySem.F.entry_int_new (xb (hn.1.imp Int.ofNat.inj Int.ofNat.inj) hn.2.1 hn.2.2).meets (show (Made.int _).post _ _ from ⟨rfl,k (.int _ _) (dU 1 q.ht)⟩)⟩
theorem BN{g T}(hT:fF z.W g T)(G:Gs z){v r x σ' A Q E}(ra:VR p.hs v x)(e:w4 true T v p.σ=some (r,σ'))(H:Hd p VR r σ' Q):wpAny z.M A (compareOp .In x (.ref g)) Q E p.sh:=by
 refine a7 λkC=>?_;obtain ⟨f,h1,h2,h3⟩:=hT.h;refine kC (intE ra e λi t e=>wpAny_in_of (intKind_is z.W.prog z.W.w i t) h2 (h1 p.h (G.K p)) ?_);have h3:=h3 i;have H:Hd p VR _ _ Q:=H.eq e;generalize q:T.lookup i=z4;induction z4 with
 |none=>rw[q]at h3 H;exact rW h3 (H.stay (.bool _) (dU 1 p.ht))
 |some s=>rw[q]at h3 H;obtain ⟨t',h3,_⟩:=h3;exact rW h3 (H.stay (.bool _) (dU 1 p.ht))
theorem Db{g T e x y PV}(hT:fF W g T)(he:bK W cs cp e x)(hg:bK W cs cp (.Y (.u g)) y)(hm:behindInMarks .In y=false):bK W cs cp (.tab true T g e) (.Compare x [.In] [y] PV):=by refine ⟨λ{z} a p env L V v σ' ee Q E H=>cF (kY.symm.trans ee) λw σ1 e1 e3=>wpAny_Compare1 (he.h a p V w σ1 e1 λS1 p1 r1 Qd=>hg.h a (p.to S1 Qd) (V.up (p.leTo S1 Qd p1)) (.u g) σ1 rfl λS2 p2 r2 Qe=>(VR.srefE r2 ?_)) hm⟩;have QZ:=HS.Le.trans p1 p2;exact BN (p:=p.to S2 Qe) (a.W▸hT) a.g (r1.mono p2) e3 (H.up (p.leTo S2 Qe QZ))
theorem zC{g T e x y PV}(hT:fF W g T)(he:bK W cs cp e x)(hg:bK W cs cp (.Y (.u g)) y)(hm:behindInMarks .In y=false):mO W cs cp (.tab true T g e) (.Compare x [.In] [y] PV):=by
 refine ⟨λ{z} a p env L V v σ' ee Q E H=>cF (show ((aM z.cx (.tab true T g e) L p.σ).bind λ(v,σ1)=>(b7 z.cx σ1 v).map λb=>(b,σ1))=_ from ee) λv0 σ0 e0 e7=>cF (kY.symm.trans e0) λw σ1 e1 e3=>wpAny_isTrue_Compare1 (he.h a p V w σ1 e1 λS1 p1 r1 Qd=>hg.h a (p.to S1 Qd) (V.up (p.leTo S1 Qd p1)) (.u g) σ1 rfl λS2 p2 r2 Qe=>?_) hm⟩;clear e1 e0;refine VR.srefE r2 ?_;have QZ:=HS.Le.trans p1 p2;refine BN (p:=p.to S2 Qe) (a.W▸hT) a.g (r1.mono p2) e3 λS3 p3 r3 QC=>?_;clear r1;cases w with
 |int i=>obtain ⟨rfl,_⟩:=Prod.mk.inj (aK (show some (Internal.V.bool (T.lookup i).isSome,σ1)=some (v0,σ0) from e3));cases r3;exact wpAny_truthy_bool ((H.eq e7) S3 (QZ.trans p3) QC)
 |_=>exact bl e3
theorem EB{g T e x y PV}(hT:fF W g T)(he:bK W cs cp e y)(hg:bK W cs cp (.Y (.u g)) x)(hs:∀o i,subscripted y false o i=operate [o,i] (getItem o i)):bK W cs cp (.tab false T g e) (.Subscript x y PV):=by
 refine ⟨λ{z} a p env L V v σ' ee Q E H=>cF (kY.symm.trans ee) λw σ1 e1 e3=>Subscript_ (hg.h a p V (.u g) p.σ rfl λS1 p1 r1 Qd=>he.h a (p.to S1 Qd) (V.up (p.leTo S1 Qd p1)) w σ1 e1 λ{Rw h2 t2 y2} S2 p2 r2 Qe=>(VR.srefE r1 (a7 λkC=>?_)))⟩;obtain ⟨f,h1,_,h3⟩:=(a.W▸hT:fF z.W g T).h;have hm:=h1 h2 (S2.K a.g.ok);refine kC (ju (hm.typeIs (s:=⟨h2,z.g,z.dr,t2,z.os⟩)) slot_dict_getitem.lookup (hs _ _) (intE r2 e3 λi t e=>?_));have h3:=h3 i;generalize q:T.lookup i=z3;induction z3 with
 |none=>rw[q]at e;exact bl e
 |some s=>rw[q]at h3 e;refine a7 λkC=>?_;obtain ⟨t',h3,hl⟩:=h3;exact kC (wpAny_getItem_of (intKind_is z.W.prog z.W.w i t) hm h3 ((H.eq e) S2 (HS.Le.trans p1 p2) (.str _ _ hl) (dU 1 Qe)))
theorem N8(a:Ax W cs z){env L es QA}(h:aL (λe (k:Keyword)=>bK W cs cp e k.value) es QA):∀(p:Pt z),Nm cp env p L->Sm z.c.A p AR (evalAll ((backToKw PV (keywordEach QA env)).map (·.2))) (Qc z.cx es L p.σ):=by
 induction h with
 |nil=>exact λp V=>.one (p:=p) (R:=AR) λk=>Ub (k .nil p.ht)
 |@cons e k es QA he _ ih=>refine λp V b σ' ee Q E H=>cF (bF.symm.trans ee) λv0 σ0 e1 e=>cF e λv1 σ1 e2 e=>a7 λkC=>?_;obtain ⟨arg,value,kp⟩:=k;refine kC ?_;show wpAny _ _ ((do let v <-eval value env;standAt PV;pure v)>>=_) _ _ _;exact T5 (T5 (he.h a p V v0 σ0 e1 λS1 p1 r1 Qd=>T5 (UG (Ub (T5 (Ud (ih (p.to S1 Qd) (V.up (p.leTo S1 Qd p1)) v1 σ1 e2 λS2 p2 r2 Qe=>Ub ((H.eq e) S2 (HS.Le.trans p1 p2) (.cons (r1.mono p2) r2) Qe))))))))
theorem zH{o mi gg es x nm}{QA:List Keyword}{Qh PV:Pos}(hn:W.tb[mi]? = some nm)(ho:bK W cs cp o x)(QL:aL (λe (k:Keyword)=>bK W cs cp e k.value) es QA)
 (hk:QA.map (·.arg)=W.kn.map some) (hA:gg=W.kf)
 (he:∀env,∃pl,eval (.Call (.Attribute x nm Qh) [] QA PV) env=(do
  let ov <-eval x env
  standAt Qh.atName
  let (f,first) <-holding [ov] (getMethod ov nm pl)
  callWith PV f first (backTo PV (starEach [] env)) (backToKw PV (keywordEach QA env)))):bK W cs cp (.ap o mi gg es) (.Call (.Attribute x nm Qh) [] QA PV):=by
 refine ⟨λ{z} a p env L N v σ' ee Q E H=>cF (wN.symm.trans ee) λv0 σ0 e1 e=>?_⟩;obtain ⟨pl,he⟩:=he env;refine methodCall_KW (ho.h a p N v0 σ0 e1 λ{Q1 h1 t1 y1} S1 p1 r1 Qd=>?_) he;have l:=p.leTo S1 Qd p1;have Td:=r1;revert Td;induction v0 using V.casesOn with
 |ref b=>
  refine pA S1 r1 (show dz σ0 (.ref b) (λJ ob=>gr ob λcl fs=>match aJ mi fs with|some _=>none|none=>if z.cx.clsm cl mi=some gg then im z.cx cl mi (.ref b) σ0 (Qc z.cx es L) else none)=some (v,σ') from e) λa' A1 D1 Q8 n1 cl fs ha J hp g1 g2 i1 Te b1 e r1=>?_;have gl:=io a.g.G.co.nd (a.W▸hn) i1;generalize hq:aJ mi fs=z2;induction z2 with
  |some _=>rw[hq]at e;exact bl e
  |none=>
   rw[hq]at e gl;refine jW e λe2 e=>fI e λg' e2' e=>cF e λvs σ2 e3 e4=>a7 λkC=>?_;clear e;obtain rfl:=aK (e2.symm.trans e2');obtain ⟨x',Q6,hf,RS,_,_,_,hB⟩:=a.g.G.co.meth _ _ _ e2;obtain rfl:=aK (Q6.symm.trans (a.W▸hn));obtain ⟨⟨q1,q2⟩,_⟩:=a.g.G.co.plain cl mi (.inr (.inl (Qg Option.isSome e2)));refine kC (method_fn (S1.K a.g.ok) (⟨g1,rfl,rfl,g2⟩:InstAt h1 A1 (instObj cl D1) cl (some (dictOf Q8 n1))) q1 q2 hf RS (by show (lookIn x' (dictOf Q8 n1)).map _=_;exact rW (lookIn_dict ..) (rW gl rfl)) ?_);refine a7 λkC=>?_;obtain ⟨k1,k2,k3⟩:=sj (PV:=PV) (env:=env) hk;refine kC (callWith_of (P:=wM z (.ref gg)) (rW k3 rfl) (λh' p=>p) (evalArgs_kw2_nil k1 ?_));refine N8 a QL (p.to S1 Qd) (N.up l) vs σ2 e3 λ{Rw h2 t2 ys} S2 p2 r2 Qe=>⟨keeps_K (px (a.g.x.fn _ _ _ _ hB e4)) h2 (S2.K a.g.ok),(rW k2 ?_)⟩
   have hl:ys.length=W.kn.length:=by exact rW (aL.len r2 ..).symm (rW (show QA.length=W.kn.length by simpa using Qg List.length hk ..).symm (rW (QL.len ..).symm ((qP e3).symm)))
   have QZ:=HS.Le.trans p1 p2;exact wpAny_call (a.g.G.call gg (.ref b::vs) hB z rfl a.g.ok.toC (p.to S2 Qe) _ _ (.cons (r1.mono p2) r2) (.inr ⟨a.W▸hA,_,ys,rfl,a.W▸hl,a.W▸rfl⟩) v σ' e4 (H.up (p.leTo S2 Qe QZ)))
 |_=>exact bl e
end
section
variable {W:Wd}{cs:Scope}
theorem AA{b bs h0 hs PV}(hb:fZ W cs b bs):jX W cs (.aA b) (.Try bs (h0::hs) [] [] PV):=by
 refine ⟨λa p L n hz s fl L' σ' e Q E H=>wpAny_Try_except (hb.h a p s fl L' σ' e λS1 p1 RE fr1 Qd=>?_)⟩;clear e;induction fr1 with
 |next=>exact wpAny_execs_nil (H S1 p1 RE .next Qd)
 |brk=>exact H S1 p1 RE .brk Qd
 |cont=>exact H S1 p1 RE .cont Qd
 |ret hv=>exact H S1 p1 RE (.ret hv) Qd
theorem yC{i k s ss Qv}(RG:fZ W cs ss Qv):fZ W cs (.aB i s k::ss) Qv:=by
 refine ⟨λa p L n hz i0 fl L' σ' e Q E H=>Dn (cR.symm.trans e) λf1 L1 σ1 e1 e2=>fI (show ((aJ i L).bind λv=>dW v λx=>match decide (x=s) with|true=>some (.next,gQ p.σ (n+k) L,iY p.σ (n+k))|false=>some (.next,L,p.σ))=some (f1,L1,σ1) from e1) λv hv e1=>?_⟩;induction v using V.casesOn with
 |str x=>
  have e1:(match decide (x=s) with|true=>some (Fl.next,gQ p.σ (n+k) L,iY p.σ (n+k))|false=>some (.next,L,p.σ))=some (f1,L1,σ1):=e1;generalize q:decide (x=s)=z1;induction z1 with
  |true=>rw[q]at e1;cases e1;exact (wx (k:=k) RG).h a p i0 fl L' σ' e2 H
  |false=>rw[q]at e1;cases e1;exact RG.h a p i0 fl L' σ' e2 H
 |_=>exact bl e1
end
end
section
open PySem.W.Fast (sEq sEq_iff lEq lEq_iff)
structure Tc where
 tb:bq
 gl:List (Str×Option V)
 fa:aC
 ca:aC
 kf:Nat
 kn:bq
 it:List (Nat×List (Int×aC))
structure kE(W:Wd)(t:Tc):Prop where
 tb:W.tb=t.tb
 gl:∀x v,(x,some v)∈t.gl->∃y,VR .nil v y/\nsIn W.K mainGlobals x=some (some y)
 bt:∀x,(x,none)∈t.gl->nsIn W.K mainGlobals x=some none
 fa:∀f,t.fa.any (Nat.beq f)=true->keepIn W.K (.ref f)=true/\f<eM
 ca:∀c,t.ca.any (Nat.beq c)=true->keepIn W.K (.ref c)=true/\makesIn W.K c=true
 kf:W.kf=t.kf
 kn:W.kn=t.kn
 it:∀g T,aJ g t.it=some T->fF W g T
noncomputable def Cc{β:Type}(x:Str):List (Str×β)->Option β
 |[]=>none
 |(y,v)::r=>bif sEq x y then some v else Cc x r
theorem vd(x y:Str):sEq x y=(x==y):=by rw[Bool.eq_iff_iff,sEq_iff,beq_iff_eq]
theorem BP{β:Type}(x:Str):∀l:List (Str×β),Cc x l=l.lookup x
 |[]=>rfl
 |(y,v)::r=>by show (bif sEq x y then some v else Cc x r)=_;refine rW (Uu ..) (rW (vd ..) (rW (BP x r ..) ?_));cases x==y<;>rfl
theorem om{β:Type}{x v}:∀{l:List (Str×β)},Cc x l=some v->(x,v)∈l
 |[],h=>bl h
 |(y,w)::r,h=>by
  have h1:(bif sEq x y then some w else Cc x r)=some v:=h;clear h;generalize q:sEq x y=z7;induction z7 with
  |true=>rw[q]at h1;obtain rfl:=sEq_iff.mp q;obtain rfl:w=v:=aK h1;exact .head _
  |false=>rw[q]at h1;exact .tail _ (om h1)
noncomputable def x6(l:List (Str×NameKind))(x:Str)(k:NameKind):Bool:=match Cc x l with|some k'=>decide (k'=k)|none=>false
noncomputable def o3(l:List (Str×NameKind)):Bool:=l.all λp=>decide (p.2≠.cell)
theorem jQ{l}(h:o3 l=true):∀p∈l,p.2≠.cell:=λp hp=>T9 (a9.mp h p hp)
theorem gF{l:List (Str×NameKind)}{x k}(h:x6 l x k=true):l.lookup x=some k:=by
 unfold x6 at h;rw[BP]at h;generalize q:l.lookup x=z6;induction z6 with
 |none=>rw[q]at h;exact bU h
 |some k'=>rw[q]at h;exact rW (T9 h ..) rfl
noncomputable def Mc(tb:bq)(i:Nat)(x:Str):Bool:=match tb[i]? with|some y=>sEq y x|none=>false
theorem zS{tb i x}(h:Mc tb i x=true):tb[i]? = some x:=by
 unfold Mc at h;generalize q:tb[i]? = z5;induction z5 with
 |none=>rw[q]at h;exact bU h
 |some k'=>rw[q]at h;exact rW (sEq_iff.mp h ..) rfl
noncomputable def DY(v w:V):Bool:=match v with
 |.none=>(match w with|.none=>true|_=>false)
 |.bool a=>(match w with|.bool b=>decide (a=b)|_=>false)
 |.int a=>(match w with|.int b=>decide (a=b)|_=>false)
 |.str a=>(match w with|.str b=>lEq a b|_=>false)
 |.u a=>(match w with|.u b=>Nat.beq a b|_=>false)
 |_=>false
theorem nZ{v w}(h:DY v w=true):v=w:=by
 induction v using V.casesOn with
 |none=>induction w using V.casesOn<;>first|rfl|exact bU h
 |bool a=>induction w using V.casesOn<;>first|exact bU h|exact Qg V.bool (T9 h)
 |int a=>induction w using V.casesOn<;>first|exact bU h|exact Qg V.int (T9 h)
 |str a=>induction w using V.casesOn<;>first|exact bU h|exact Qg V.str (lEq_iff.mp h)
 |u a=>induction w using V.casesOn<;>first|exact bU h|exact Qg V.u (Uq h)
 |_=>exact bU h
noncomputable def AG(c:Const):Option V:=match c with
 |.none=>some .none
 |.bool b=>some (.bool b)
 |.int i=>some (.int i)
 |.str s=>bif Nat.ble s.cps.toList.length 100000 then some (.str s.cps.toList) else none
 |_=>none
noncomputable def LP(c:Const)(v:V):Bool:=match AG c with|some w=>DY w v|none=>false
section
variable {W:Wd}{cs:Scope}{cp:Option Cp}
theorem Bf{c v}(h:LP c v=true){k p}:bK W cs cp (.i v) (.Constant c k p):=by
 unfold LP at h;generalize q:AG c=z4;induction z4 with
 |none=>rw[q]at h;exact bU h
 |some w=>
  rw[q]at h;obtain rfl:=nZ h;clear h;induction c with
  |none=>obtain rfl:=aK q;exact B2
  |bool b=>obtain rfl:=aK q;exact Ab
  |int i=>obtain rfl:=aK q;exact Dg
  |str s=>
   have q:(bif Nat.ble s.cps.toList.length 100000 then some (V.str s.cps.toList) else none)=some w:=q;generalize hb:Nat.ble s.cps.toList.length 100000=z3;induction z3 with
   |false=>rw[hb]at q;exact bl q
   |true=>rw[hb]at q;obtain rfl:=aK q;exact Eo rfl (cg hb)
  |_=>exact bl q
end
noncomputable def Kt:Str:=Str.ofString "__debug__"
noncomputable def Mv(t:Tc)(x:Str)(v:V):Bool:=match Cc x t.gl with|some o=>(match o with|some w=>DY w v|none=>false)|none=>false
noncomputable def LK(t:Tc)(x:Str):Bool:=match Cc x t.gl with|some o=>uC o|none=>false
theorem AX{x}(h:(!sEq x Kt)=true):(x==("__debug__":Str))=false:=(vd x Kt).symm.trans (nt h)
section
variable {W:Wd}{t:Tc}(T:kE W t)
include T
theorem H9{x v}(h:Mv t x v=true):∃y,VR .nil v y/\nsIn W.K mainGlobals x=some (some y):=by
 unfold Mv at h;generalize q:Cc x t.gl=z2;induction z2 with
 |none=>rw[q]at h;exact bU h
 |some o=>
  rw[q]at h;induction o with
  |none=>exact bU h
  |some w=>obtain rfl:=nZ h;exact T.gl x w (om q)
theorem zT{x}(h:LK t x=true):nsIn W.K mainGlobals x=some none:=by
 unfold LK at h;generalize q:Cc x t.gl=z1;induction z1 with
 |none=>rw[q]at h;exact bU h
 |some o=>rw[q]at h;obtain rfl:=Bs h;exact T.bt x (om q)
end
noncomputable def KP(op:HQ):Str:=match op with
 |.len=>Str.ofString "len"|.ord=>Str.ofString "ord"|.chr=>Str.ofString "chr"|.sum=>Str.ofString "sum"|.listOf=>Str.ofString "list"|.dictOf=>Str.ofString "dict"|.range=>Str.ofString "range"
noncomputable def MP(op:HQ):Value:=match op with
 |.len=>.builtin "len"|.ord=>.builtin "ord"|.chr=>.builtin "chr"|.sum=>.builtin "sum"|.listOf=>.type "list"|.dictOf=>.type "dict"|.range=>.type "range"
structure N1(op:HQ):Prop where
 v:bootBuiltins (KP op)=some (MP op)
 n:KP op≠"__name__"
 d:(KP op==("__debug__":Str))=false
 r:∀a,MP op≠.ref a
theorem pq(op:HQ):N1 op:=by
 induction op with
 |len=>exact ⟨by show bootBuiltins (Str.ofString "len")=_;boot_by_name,by decide,by kernel_rfl,λa h=>nomatch h⟩
 |ord=>exact ⟨by show bootBuiltins (Str.ofString "ord")=_;boot_by_name,by decide,by kernel_rfl,λa h=>nomatch h⟩
 |chr=>exact ⟨by show bootBuiltins (Str.ofString "chr")=_;boot_by_name,by decide,by kernel_rfl,λa h=>nomatch h⟩
 |sum=>exact ⟨by show bootBuiltins (Str.ofString "sum")=_;boot_by_name,by decide,by kernel_rfl,λa h=>nomatch h⟩
 |listOf=>exact ⟨by show bootBuiltins (Str.ofString "list")=_;boot_by_name,by decide,by kernel_rfl,λa h=>nomatch h⟩
 |dictOf=>exact ⟨by show bootBuiltins (Str.ofString "dict")=_;boot_by_name,by decide,by kernel_rfl,λa h=>nomatch h⟩
 |range=>exact ⟨by show bootBuiltins (Str.ofString "range")=_;boot_by_name,by decide,by kernel_rfl,λa h=>nomatch h⟩
noncomputable def OF(op:Fu):Str:=match op with
 |.append=>Str.ofString "append"|.popAt=>Str.ofString "pop"|.join=>Str.ofString "join"|.count3=>Str.ofString "count"|.rfind3=>Str.ofString "rfind"|.split=>Str.ofString "split"|.update=>Str.ofString "update"|.starts=>Str.ofString "startswith"|.index=>Str.ofString "index"|.get=>Str.ofString "get"
noncomputable def Oo(op:Fu):String:=match op with
 |.append=>"list.append"|.popAt=>"list.pop"|.join=>"str.join"|.count3=>"str.count"|.rfind3=>"str.rfind"|.split=>"str.split"|.update=>"dict.update"|.starts=>"str.startswith"|.index=>"str.index"|.get=>"dict.get"
theorem GW(op:HQ):oG (MP op) λcx=>Jk cx op:=by
 induction op with
 |len=>exact Hl
 |ord=>exact Gv
 |chr=>exact IV
 |sum=>exact BW
 |listOf=>exact wD
 |dictOf=>exact wB
 |range=>exact Aq
theorem IK(op:Fu):zu (Oo op) (OF op) λo σ=>LX op σ o:=by
 induction op with
 |append=>exact rH PySem.F.slot_list_append PySem.F.type_list_append
 |popAt=>exact rH PySem.F.slot_list_pop PySem.F.type_list_pop
 |join=>exact iq PySem.F.slot_str_join PySem.F.type_str_join
 |count3=>exact iq PySem.F.slot_str_count PySem.F.type_str_count
 |rfind3=>exact iq PySem.F.slot_str_rfind PySem.F.type_str_rfind
 |split=>exact iq PySem.F.slot_str_split PySem.F.type_str_split
 |update=>exact qj PySem.F.slot_dict_update PySem.F.type_dict_update
 |starts=>exact iq PySem.F.slot_str_startswith PySem.F.type_str_startswith
 |index=>exact iq PySem.F.slot_str_index PySem.F.type_str_index
 |get=>exact qj PySem.F.slot_dict_get PySem.F.type_dict_get
theorem G1(op:Fu):ku (Oo op) λcx=>sE cx op:=by
 induction op with
 |append=>exact wJ
 |popAt=>exact yg
 |join=>exact CU
 |count3=>exact xf
 |rfind3=>exact xN
 |split=>exact y8
 |update=>exact wO
 |starts=>exact wQ
 |index=>exact B5
 |get=>exact DM
section
variable {W:Wd}{cs:Scope}{cp:Option Cp}
theorem eK{es}{xs:bJ}(h:aL (λe x=>bK W cs cp e x) es xs)(hs:xs.all wZ=true):gb W cs cp es xs/\∀PV env,(backTo PV (starEach xs env)).any (·.1)=false:=by
 induction h with
 |nil=>exact ⟨lG,λPV env=>rfl⟩
 |@cons e x es xs h _ ih=>refine an (show (wZ x&&xs.all wZ)=true from hs) λh1 h2=>Kl h1 λf q=>?_;obtain ⟨i1,i2⟩:=ih h2;exact ⟨jG h i1 (f.star q xs),λPV env=>(rW (f.star q ..) (i2 PV env))⟩
theorem I7{P:PE->Expr->Prop}:∀{ks:bg}{es:List PE}{keys:List (t8)}{QN:bJ},aL (λk x=>∃n PV,x=some (Expr.Constant (.str (aT k)) n PV)) ks keys->aL P es QN->ks.length=es.length ->
 ∃l:List (Expr×Expr),(keys=l.map λp=>some p.1)/\QN=l.map (·.2)/\o5 ks l/\aL (λe p=>P e p.2) es l:=by
 intro ks es keys QN h1;induction h1 generalizing es QN with
 |nil=>
  intro h2 hl;induction h2 using aL.casesOn with
  |nil=>exact ⟨[],rfl,rfl,.nil,.nil⟩
  |cons _ _=>cases hl
 |cons h _ ih=>
  intro h2 hl;induction h2 using aL.casesOn with
  |nil=>cases hl
  |@cons e x es xs h2 h3=>refine a7 λkC=>?_;obtain ⟨n,PV,rfl⟩:=h;obtain ⟨l,q1,q2,q3,q4⟩:=ih h3 (Nat.succ.inj hl);exact kC ⟨(_,x)::l,Qg (_::·) q1,Qg (x::·) q2,.cons ⟨n,PV,rfl⟩ q3,.cons h2 q4⟩
noncomputable def MA(x:Expr)(q p:Pos)(xs:bJ):Prop:=NC x/\Nat.blt xs.length 30=true/\Nat.beq q.endLine p.line=true
theorem kJ{x nm}{Qh PV:Pos}{xs}(A:MA x Qh PV xs)(hp:∀PV env,(backTo PV (starEach xs env)).any (·.1)=false):∀env,∃pl,eval (.Call (.Attribute x nm Qh) xs [] PV) env=(do
 let ov <-eval x env
 standAt Qh.atName
 let (f,first) <-holding [ov] (getMethod ov nm pl)
 callWith PV f first (backTo PV (starEach xs env)) []):=by
 refine λenv=>⟨(do return (<-importBound x env).getD true),?_⟩
 have e1:methodCallForm (xs.length+([]:List Keyword).length) (backTo PV (starEach xs env)) (backToKw PV (keywordEach [] env))=true:=by
  unfold methodCallForm;have:(backTo PV (starEach xs env)).all (!·.1)=true:=by have:=hp PV env;refine rW (List.all_eq_not_any_not ..) ?_;simpa using this
  refine rW this ?_;show (true&&true&&decide (xs.length+0+0<30))=true;exact rW (Uf (by simpa using A.2.1) ..) rfl
 have e2:methodCallPos true x env Qh PV=pure PV:=by unfold methodCallPos;have:(Qh.endLine==PV.line)=true:=beq_iff_eq.mpr (Uq A.2.2);exact rW this rfl
 show (do let ov <-attributeBase x nm env (eval x env);standAt Qh.atName;methodCall x nm Qh PV env ov (xs.length+([]:List Keyword).length) (backTo PV (starEach xs env)) (backToKw PV (keywordEach [] env)))=_;refine rW (A.1 ..) ?_;unfold methodCall;exact rW e1 (rW e2 rfl)
theorem B4{x nm}{Qh PV:Pos}{QA:List Keyword}{ns:bq}(h1:NC x)(hk:QA.map (·.arg)=ns.map some)(h3:Nat.blt QA.length 20=true)(h4:Nat.beq Qh.endLine PV.line=true):∀env,∃pl,eval (.Call (.Attribute x nm Qh) [] QA PV) env=(do
 let ov <-eval x env
 standAt Qh.atName
 let (f,first) <-holding [ov] (getMethod ov nm pl)
 callWith PV f first (backTo PV (starEach [] env)) (backToKw PV (keywordEach QA env))):=by
 refine λenv=>⟨(do return (<-importBound x env).getD true),?_⟩
 have e1:methodCallForm (([]:bJ).length+QA.length) (backTo PV (starEach [] env)) (backToKw PV (keywordEach QA env))=true:=by unfold methodCallForm;refine rW ((sj hk).1 ..) ?_;have h5:QA.length<20:=Nat.blt_eq.mp h3;refine Bool.and_eq_true_iff.mpr ⟨rfl,Uf ?_⟩;show 0+QA.length+_<30;split<;>lia
 have e2:methodCallPos true x env Qh PV=pure PV:=by unfold methodCallPos;have:(Qh.endLine==PV.line)=true:=beq_iff_eq.mpr (Uq h4);exact rW this rfl
 show (do let ov <-attributeBase x nm env (eval x env);standAt Qh.atName;methodCall x nm Qh PV env ov (([]:bJ).length+QA.length) (backTo PV (starEach [] env)) (backToKw PV (keywordEach QA env)))=_;refine rW (h1 _ _ _) ?_;unfold methodCall;exact rW e1 (rW e2 rfl)
theorem aL.unmap{α β γ:Type}{R:α->β->Prop}{f:γ->β}:∀{l:List α}{m:List γ},aL R l (m.map f)->aL (λa c=>R a (f c)) l m
 |_,[],h=>by cases h;exact .nil
 |_,c::m,h=>by
  cases h with
  |cons h1 h2=>exact .cons h1 (aL.unmap h2)
end
end
section
open PySem.W.Fast (sEq sEq_iff lEq lEq_iff)
noncomputable def Nb(cs:Scope):Bool:=match cellsFrom 0 cs.names [] with
 |[]=>o3 cs.names
 |q::r=>w7 r&&(x6 cs.names q.1 .cell&&cs.names.all λp=>decide (p.2≠.cell)||sEq p.1 q.1)
theorem IG{cs}(h:Nb cs=true):gy cs:=by
 intro n;have e:=cellsFrom_names cs.names n 0 [] [] rfl;unfold Nb at h;generalize q:cellsFrom 0 cs.names []=z3;induction z3 with
 |nil=>rw[q]at h e;exact .inl ⟨jQ h,List.map_eq_nil_iff.mp e⟩
 |cons p r=>rw[q]at h e;refine an h λh0=>bn λh1 h2=>?_;clear q h;cases qF h0;refine a7 λkC=>?_;obtain ⟨⟨y,A⟩,l,e1,e2,e3⟩:=List.map_eq_cons_iff.mp e;refine kC ?_;cases List.map_eq_nil_iff.mp e3;exact .inr ⟨p.1,A,e1.trans (rW (show p.1=y from e2.symm ..) rfl),gF h1,λz hz hc=>((Bool.or_eq_true_iff.mp (a9.mp h2 z hz)).elim (λk=>Uj hc (T9 k)) sEq_iff.mp)⟩
noncomputable def Jz(cp:Option Cp):Bool:=match cp with|none=>true|some _=>false
theorem D2{cp}(h:Jz cp=true):cp=none:=by
 induction cp with
 |none=>rfl
 |some p=>exact bU h
noncomputable def M3(cs:Scope)(cp:Option Cp)(sc:Scope):Bool:=decide (sc.kind=.function)&&sc.names.all λp=>(decide (p.2≠.free)||(Jz cp&&x6 cs.names p.1 .cell))&&decide (p.2≠.cell)&&(decide (p.2≠.local)||x6 sc.names p.1 .local)
theorem Fk{cs cp sc}(h:M3 cs cp sc=true):w5 cs cp sc:=by
 refine an h λh1 h2=>?_;have h2:=a9.mp h2;refine ⟨λx hx e=>?_,λx hx=>?_,T9 h1,λx hx e=>?_⟩
 ·exact an (h2 x hx) λh J=>an h λh J=>(Bool.or_eq_true_iff.mp h).elim (λk=>Uj e (T9 k)) (λk=>an k λa b=>⟨D2 a,gF b⟩)
 ·exact an (h2 x hx) λh J=>an h λJ h=>T9 h
 ·refine an (h2 x hx) λJ h=>?_;rw[e]at h;exact gF h
noncomputable def Ma:bq->List Keyword->Bool
 |[],ks=>ks.isEmpty
 |n::ns,ks=>match ks with|k::r=>nv k.arg (λx=>sEq x n)&&Ma ns r|[]=>false
theorem yj:∀{ns:bq}{QA:List Keyword},Ma ns QA=true->QA.map (·.arg)=ns.map some
 |[],[],_=>rfl
 |[],_::_,h=>bU h
 |n::ns,[],h=>bU h
 |n::ns,k::QA,h=>an (show (nv k.arg (λx=>sEq x n)&&Ma ns QA)=true from h) λh1 h2=>by exact rW (Ul ..) (rW (Ul ..) (rW (yj h2 ..) (s9 (P:=λa=>a::_=some n::_) h1 λx h=>rW (sEq_iff.mp h ..) rfl)))
@[elab_as_elim]noncomputable def kS{M:Str->Type}(d:∀x,M x)(a b:Str)(k:M b):M a:=if h:sEq a b=true then sEq_iff.mp h▸k else d a
noncomputable def vk(l:List (Str×NameKind))(x:Str)(k:NameKind):cm (l.lookup x=some k):=kB (x6 l x k) gF
noncomputable def Ky(x:Str):cm ((x==("__debug__":Str))=false):=kB (!sEq x Kt) AX
@[elab_as_elim]noncomputable def oJ{M:PE->Type}(d:∀x,M x)(e:PE)(v:V)(k:M (.i v)):M e:=by
 induction e using PE.casesOn with
 |i w=>exact if h:DY w v=true then nZ h▸k else d _
 |_=>exact d _
noncomputable def G9(x:Expr)(k:aC):cm (∃n PV,x=.Constant (.str (aT k)) n PV):=ig n0 x λc j p=>by
 induction c with
 |str s=>exact (kB (lEq k s.cps.toList) id).m λh=>⟨j,p,Qg (λs=>Expr.Constant (.str s) j p) ((gj s).symm.trans (Qg aT (lEq_iff.mp h).symm))⟩
 |_=>exact .n
@[elab_as_elim]noncomputable def Gc{M:List Comprehension->Type}(d:∀x,M x)(g:List Comprehension)(k:∀tg it ifs,M [⟨tg,it,ifs,0⟩]):M g:=
 c1 d g λc=>c.casesOn λtg it ifs a=>kD (λJ=>d _) a 0 (k tg it ifs)
@[elab_as_elim]noncomputable def nK{M:Expr->Type}(d:∀x,M x)(x:Expr)(k:∀n q xs p,M (.Call (.Name n q) xs [] p)):M x:=
 uu d x λf l kw p=>gf (λJ=>d _) kw (fK (λJ=>d _) f λn q=>k n q l p)
@[elab_as_elim]noncomputable def wb{M:Expr->Type}(d:∀x,M x)(x:Expr)(k:∀y n q xs p,M (.Call (.Attribute y n q) xs [] p)):M x:=
 uu d x λf l kw p=>gf (λJ=>d _) kw (fg (λJ=>d _) f λy n q=>k y n q l p)
@[elab_as_elim]noncomputable def IR{M:Expr->Type}(d:∀x,M x)(x:Expr)(k:∀y o z p,M (.Compare y [o] [z] p)):M x:=
 r6 d x λy os zs p=>c1 (λJ=>d _) os λo=>c1 (λJ=>d _) zs λz=>k y o z p
noncomputable def Dl(y:Expr)(q p:Pos)(xs:bJ):cm (MA y q p xs):=(tK y).b λh=>(kB (Nat.blt xs.length 30) id).b λh1=>(kB (Nat.beq q.endLine p.line) id).m λh2=>⟨h,h1,h2⟩
noncomputable def mF(xs:bJ):cm (xs.all wZ=true):=kB _ id
section
variable {W:Wd}{cs:Scope}{t:Tc}(T:kE W t)
structure pH(cs:Scope):Type where
 p:Option Cp
 h:(j6 cs p).kind=.function
noncomputable def KA(cp:Option Cp)(i:Nat)(n:Str):cm (NG cs cp i n):=by
 induction cp with
 |none=>exact ((vk cs.names n .local).m .inl).o ((vk cs.names n .cell).m .inr)
 |some p=>exact ((kB (p.2.any (Nat.beq i)) List.any_eq_true.mp).b λh1=>(vk p.1.names n .local).m λh2=>.inl ⟨h1.elim λj h=>Uq h.2▸h.1,h2⟩).o ((vk p.1.names n .free).b λh1=>(vk cs.names n .cell).m λh2=>.inr ⟨h1,h2⟩)
noncomputable def Fv{cp}(e:PE)(k:∀x,cm (bK W cs cp e x))(x:t8):cm (NI W cs cp e x):=by
 induction x with
 |some x=>exact (k x).m λh=>⟨h.h⟩
 |none=>exact oJ n0 e .none (.y ⟨λa p env L V=>Sm.ret (p:=p) (y:=Value.none) .none⟩)
noncomputable def OS{cp}(e:PE)(k:∀x,cm (mO W cs cp e x))(xs:bJ):cm (rA W cs cp e xs):=by
 induction xs with
 |nil=>exact oJ n0 e (.bool true) (.y .no)
 |cons x r=>exact gf n0 r ((k x).m .one)
noncomputable def Nd{cp}(x:Expr):cm (bK W cs cp (.neg (.i (.int 1))) x):=je n0 x λop y p=>kD n0 op .USub (cm.m (ig (M:=λy=>cm (bK W cs cp (.i (.int 1)) y)) n0 y λk j q=>kB (LP k (.int 1)) λh=>Bf h) zx)
include T
noncomputable def qy(i:Nat)(x:Str):cm (W.tb[i]? = some x):=kB (Mc t.tb i x) λh=>T.tb▸zS h
noncomputable def NK(l:List (Str×NameKind))(f:Ft)(x:Expr):cm (l8 W l f x):=by
 induction f with
 |one i=>exact fK n0 x λn p=>(qy T i n).b λh3=>(vk l n .local).m λh4=>.one h3 h4
 |many is=>exact lR n0 x λxs j p=>(H3 (λi e=>fK n0 e λn p=>(qy T i n).b λh3=>(vk l n .local).m λh4=>⟨n,p,rfl,h3,h4⟩) is xs).m .many
noncomputable def vh(c:pH cs)(v:V)(n:Str)(p:Pos):cm (bK W cs c.p (.Y v) (.Name n p)):=(kB (Mv t n v) (H9 T)).b λh=>(vk (j6 cs c.p).names n .globalImplicit).b λk=>(Ky n).m λd=>let ⟨y,r,g⟩:=h;Cu r g k c.h d
noncomputable def Fg(c:pH cs)(g:Nat)(z:Expr):cm (bK W cs c.p (.Y (.u g)) z):=fK n0 z (vh T c _)
noncomputable def Lr(c:pH cs)(n:Str)(v:Value)(hv:bootBuiltins n=some v)(hn:n≠"__name__")(hd:(n==("__debug__":Str))=false):cm (nU W cs c.p n v):=(kB (LK t n) (zT T)).b λh=>(vk (j6 cs c.p).names n .globalImplicit).m λk=>⟨h,hv,hn,k,c.h,hd⟩
noncomputable def Oz(g:Nat)(l:List (Int×aC)):cm (fF W g l):=(kB (decide (aJ g t.it=some l)) T9).m (T.it g l)
noncomputable def Ps(g:Nat)(QA:List Keyword):cm (QA.map (·.arg)=W.kn.map some/\g=W.kf):=(kB (Nat.beq g t.kf) Uq).b λh1=>(kB (Ma t.kn QA) yj).m λh2=>⟨T.kn▸h2,T.kf▸h1⟩
end
end
section
open PySem.W.Fast (sEq sEq_iff lEq lEq_iff)
section
variable {W:Wd}{cs:Scope}{t:Tc}
structure Ck(W:Wd)(cs:Scope)(pe:PE):Type where
 e:∀(c:pH cs) x,cm (bK W cs c.p pe x)
 t:∀(c:pH cs) x,cm (mO W cs c.p pe x)
 a:∀op (c:pH cs) xs,cm (E1 W cs c.p op pe xs)
 b:∀op (c:pH cs) xs,cm (ER W cs c.p op pe xs)
noncomputable def NB{e}(f:∀(c:pH cs) x,cm (bK W cs c.p e x))(g:∀(c:pH cs) x,cm (mO W cs c.p e x)):Ck W cs e:=
 ⟨f,g,λop c xs=>c1 n0 xs λx=>(g c x).m vB,λop c xs=>c1 n0 xs λx=>(f c x).m u9⟩
noncomputable def LU{e}(f:∀(c:pH cs) x,cm (bK W cs c.p e x/\mO W cs c.p e x)):Ck W cs e:=NB (λc x=>(f c x).m (·.1)) λc x=>(f c x).m (·.2)
noncomputable def kO{e}(hv:∀cx L σ,bR cx e L σ=b2 (aM cx e L σ) λv σ1=>(b7 cx σ1 v).map λb=>(b,σ1))(f:∀(c:pH cs) x,cm (bK W cs c.p e x)):Ck W cs e:=
 NB f λc x=>(Ja x).b λh=>(f c x).m λk=>DT k hv h
noncomputable def OC{e}(o:BoolOp)(a:∀(c:pH cs) xs,cm (E1 W cs c.p o e xs))(b:∀(c:pH cs) xs,cm (ER W cs c.p o e xs)):Ck W cs e:=
 let f (c:pH cs) (x:Expr):cm (bK W cs c.p e x):=wl n0 x λop xs p=>kD n0 op o ((b c xs).m EH);let g (c:pH cs) (x:Expr):cm (mO W cs c.p e x):=wl n0 x λop xs p=>kD n0 op o ((a c xs).m A9)
 ⟨f,g,λop c xs=>cm.o (kD n0 op o (a c xs)) (c1 n0 xs λx=>(g c x).m vB),λop c xs=>cm.o (kD n0 op o (b c xs)) (c1 n0 xs λx=>(f c x).m u9)⟩
noncomputable def ck(T:kE W t)(e:PE):Ck W cs e:=by
 refine PE.rec (motive_1:=Ck W cs) (motive_2:=λes=>∀(c:pH cs) xs,cm (aL (bK W cs c.p) es xs))
  ?i ?q ?Y ?attr ?sub ?O ?rev ?J ?E ?ab ?ah ?neg ?ac ?af ?ag ?Q ?H ?R ?comp ?call ?new ?meth ?ak ?un ?bm ?ay ?ao ?ax ?tab ?ap ?nil ?cons e
 case i=>exact λv=>kO (λJ J J=>rfl) λc x=>ig n0 x λk j p=>kB (LP k v) λh=>Bf h
 case q=>exact λi=>kO (λJ J J=>rfl) λc x=>fK n0 x λn p=>(Ky n).b λh1=>(qy T i n).b λh2=>(KA c.p i n).m λh4=>HO h2 h4 c.h h1
 case Y=>exact λv=>kO (λJ J J=>rfl) λc x=>fK n0 x (vh T c v)
 case attr=>exact λe f ih=>kO (λJ J J=>rfl) λc x=>fg n0 x λy n p=>(ih.e c y).b λh1=>(qy T f n).b λh2=>(tK y).m λh3=>Ek h2 h1 (h3 n)
 case sub=>exact λe i ih QE=>kO (λJ J J=>rfl) λc x=>d3 n0 x λy z p=>(ih.e c y).b λh1=>(QE.e c z).b λh2=>(jy z).m λo=>Iw h1 h2 (o.1.sub o.2)
 case O=>exact λe lo hi ih QE Ty=>kO (λJ J J=>rfl) λc x=>d3 n0 x λy z p=>A8 n0 z λl h s q=>mV n0 s ((ih.e c y).b λh1=>(Fv lo (QE.e c) l).b λh2=>(Fv hi (Ty.e c) h).m λh3=>yI h1 h2 h3)
 case rev=>exact λe ih=>kO (λJ J J=>rfl) λc x=>d3 n0 x λy z p=>A8 n0 z λl h s q=>mV n0 l (mV n0 h (mS n0 s λs=>(ih.e c y).b λh1=>(Nd s).m (Hp h1)))
 case J=>exact λop l r ih QE=>kO (λJ J J=>rfl) λc x=>GC n0 x λy o z p=>kD n0 o (Ca op) ((ih.e c y).b λh2=>(QE.e c z).m (GD h2))
 case E=>exact λop l r ih QE=>LU λc x=>IR n0 x λy o z p=>kD n0 o (mH op) ((ih.e c y).b λh2=>(QE.e c z).b λh3=>(jy z).m λq=>⟨HW h2 h3 (q.1.mark q.2 _),Dm h2 h3 (q.1.mark q.2 _)⟩)
 case ab=>exact λo1 o2 u v w ih QE Ty=>LU λc x=>r6 n0 x λy os zs p=>dy n0 os λa r=>c1 n0 r λb=>dy n0 zs λz r=>c1 n0 r λk=>kD n0 a (mH o1) (kD n0 b (mH o2) ((ih.e c y).b λh1=>(QE.e c z).b λh2=>(Ty.e c k).b λh3=>(jy k).m λq=>⟨As h1 h2 h3 (q.1.mark q.2 _),xc h1 h2 h3 (q.1.mark q.2 _)⟩))
 case ah=>exact λe ih=>NB (λc x=>je n0 x λop y p=>kD n0 op .Not ((ih.e c y).m Hf)) λc x=>je n0 x λop y p=>kD n0 op .Not ((ih.t c y).m C4)
 case neg=>exact λe ih=>kO (λJ J J=>rfl) λc x=>cm.o (oJ n0 e .none (.y ⟨λa p env L V b σ' e=>bl e⟩)) (je n0 x λop y p=>kD n0 op .USub ((ih.e c y).m zx))
 case ac=>exact λl r ih QE=>OC .And (λc xs=>dy n0 xs λx r=>(ih.t c x).b λh1=>(QE.a _ c r).m (C5 h1)) λc xs=>dy n0 xs λx r=>dy n0 r λy ys=>(ih.e c x).b λh1=>(QE.b _ c (y::ys)).m (CV h1)
 case af=>exact λl r ih QE=>OC .Or (λc xs=>dy n0 xs λx r=>(ih.t c x).b λh1=>(QE.a _ c r).m (Hx h1)) λc xs=>dy n0 xs λx r=>dy n0 r λy ys=>(ih.e c x).b λh1=>(QE.b _ c (y::ys)).m (GA h1)
 case ag=>exact λu b o ih QE Ty=>kO (λJ J J=>rfl) λc x=>Ii n0 x λy z w p=>(ih.t c y).b λh1=>(QE.e c z).b λh2=>(Ty.e c w).m (I5 h1 h2)
 case Q=>exact λes ih=>kO (λJ J J=>rfl) λc x=>JN n0 x λxs p=>(ih c xs).b λh1=>(mF xs).m λh2=>CP (eK h1 h2).1
 case H=>exact λes ih=>kO (λJ J J=>rfl) λc x=>lR n0 x λxs j p=>(ih c xs).b λh1=>(mF xs).m λh2=>Ij (eK h1 h2).1
 case R=>
  refine λks es ih=>kO (λJ J J=>rfl) λc x=>JR n0 x λkeys vs p=>?_;induction ks with
  |nil=>exact gf n0 keys (gf n0 vs (gf n0 es (.y AC)))
  |cons k ks=>exact (kB (Nat.beq (k::ks).length es.length) Uq).b λh2=>(H3 (λk x=>mS n0 x λx=>(G9 x k).m λ⟨j,p,e⟩=>⟨j,p,Qg some e⟩) (k::ks) keys).b λh3=>(ih c vs).m λh4=>let ⟨l,q1,q2,q3,q4⟩:=I7 h3 h4 h2;Cr q3 q4 q1 q2 λe=>nomatch e
 case comp=>exact λf it QW el ih ih1 QE=>kO (λJ J J=>rfl) λc x=>m5 n0 x λy g sc p=>Gc n0 g λtg z ifs=>(kB (M3 cs c.p sc) Fk).b λso=>let c':pH cs:=⟨some (sc,ua f),so.kind⟩;(jy z).b λq=>(NK T sc.names f tg).b λh4=>(ih.e c z).b λh5=>(OS QW (ih1.t c') ifs).b λh3=>(QE.e c' y).m λh6=>CE so h4 h5 h3 h6 (q.1.set q.2)
 case call=>exact λf es ih=>kO (λJ J J=>rfl) λc x=>nK n0 x λn q xs p=>(vh T c (.u f) n q).b λh1=>(kB _ (T.fa f)).b λk=>(ih c xs).b λh3=>(mF xs).m λhs=>let o:=eK h3 hs;Ds h1 o.1 k.1 k.2 (o.2 p) λenv=>rfl
 case new=>exact λf es ih=>kO (λJ J J=>rfl) λc x=>nK n0 x λn q xs p=>(vh T c (.u f) n q).b λh1=>(kB _ (T.ca f)).b λk=>(ih c xs).b λh3=>(mF xs).m λhs=>let o:=eK h3 hs;HR h1 o.1 k.1 k.2 (o.2 p) λenv=>rfl
 case meth=>exact λo m es ih QE=>kO (λJ J J=>rfl) λc x=>wb n0 x λy n q xs p=>(Dl y q p xs).b λA=>(ih.e c y).b λh1=>(qy T m n).b λh2=>(QE c xs).b λh3=>(mF xs).m λhs=>let o:=eK h3 hs;CM h2 h1 o.1 (o.2 p) (kJ A o.2)
 case ak=>
  refine λo a b ih=>kO (λJ J J=>rfl) λc x=>wb n0 x λy n q xs p=>kS n0 n (Str.ofString "replace") (dy n0 xs λu r=>c1 n0 r λw=>(Dl y q p [u,w]).b λA=>(ih.e c y).b λh=>(G9 u a).b λh1=>(G9 w b).m λh2=>?_);obtain ⟨_,_,rfl⟩:=h1;obtain ⟨_,_,rfl⟩:=h2;exact CZ rfl rfl h (kJ A (λPV env=>rfl))
 case un=>exact λop e ih=>kO (λJ J J=>rfl) λc x=>nK n0 x λn q xs p=>let u:=pq op;kS n0 n (KP op) (c1 n0 xs λy=>(Lr T c _ _ u.v u.n u.d).b λB=>(ih.e c y).b λh=>(mF [y]).m λhs=>let o:=eK (.cons h .nil) hs;Ly B u.r (GW op) o.1 (o.2 p) λenv=>rfl)
 case bm=>exact λop o es ih QE=>kO (λJ J J=>rfl) λc x=>wb n0 x λy n q xs p=>kS n0 n (OF op) ((Dl y q p xs).b λA=>(ih.e c y).b λh1=>(QE c xs).b λh3=>(mF xs).m λhs=>let o:=eK h3 hs;JQ (IK op) (G1 op) h1 o.1 (o.2 p) (kJ A o.2))
 case ay=>exact λa b ih QE=>kO (λJ J J=>rfl) λc x=>nK n0 x λn q xs p=>let u:=pq .range;kS n0 n (KP .range) (dy n0 xs λy r=>c1 n0 r λz=>(Lr T c _ _ u.v u.n u.d).b λB=>(ih.e c y).b λh=>(QE.e c z).b λh2=>(mF [y,z]).m λhs=>let o:=eK (.cons h (.cons h2 .nil)) hs;CN B o.1 (o.2 p) λenv=>rfl)
 case ao=>exact λe o m ih QE=>LU λc x=>IR n0 x λy r z p=>kD n0 r .In ((qy T m "__contains__").b λh1=>(ih.e c y).b λh2=>(QE.e c z).b λh3=>(jy z).m λq=>⟨Iy h1 h2 h3 (q.1.mark q.2 _),Dk h1 h2 h3 (q.1.mark q.2 _)⟩)
 case ax=>exact λa b ih QE=>kO (λJ J J=>rfl) λc x=>nK n0 x λn q xs p=>kS n0 n (Str.ofString "int") (dy n0 xs λy r=>c1 n0 r λz=>(Lr T c _ _ (by boot_by_name) (by decide) (by kernel_rfl)).b λB=>(ih.e c y).b λh=>(QE.e c z).b λh2=>(mF [y,z]).m λhs=>let o:=eK (.cons h (.cons h2 .nil)) hs;D7 B o.1 (o.2 p) λenv=>rfl)
 case tab=>
  intro m T' g e ih;induction m with
  |true=>exact LU λc x=>IR n0 x λy r z p=>kD n0 r .In ((Oz T g T').b λh1=>(ih.e c y).b λh2=>(Fg T c g z).b λh3=>(jy z).m λq=>⟨Db h1 h2 h3 (q.1.mark q.2 _),zC h1 h2 h3 (q.1.mark q.2 _)⟩)
  |false=>exact kO (λJ J J=>rfl) λc x=>d3 n0 x λy z p=>(Oz T g T').b λh1=>(ih.e c z).b λh2=>(Fg T c g y).b λh3=>(jy z).m λq=>EB h1 h2 h3 (q.1.sub q.2)
 case ap=>exact λo m g es ih QE=>kO (λJ J J=>rfl) λc x=>uu n0 x λf xs QA p=>gf n0 xs (fg n0 f λy n q=>(Ps T g QA).b λk=>(kB (Nat.blt QA.length 20) id).b λh3=>(tK y).b λh=>(kB (Nat.beq q.endLine p.line) id).b λh6=>(ih.e c y).b λh1=>(qy T m n).b λh2=>(QE c (QA.map (·.value))).m λh5=>zH h2 h1 h5.unmap k.1 k.2 (B4 h k.1 h3 h6))
 case nil=>exact λc xs=>gf n0 xs (.y .nil)
 case cons=>exact λe es ih QE c xs=>dy n0 xs λx r=>(ih.e c x).b λh=>(QE c r).m (.cons h)
end
end
section
open PySem.W.Fast (sEq sEq_iff lEq lEq_iff)
section
variable {W:Wd}{cs:Scope}{t:Tc}
structure OE(W:Wd)(cs:Scope)(g:Tg)(x:Expr):Prop where
 ok:rB W cs g x
 sw:∀y env,swappedStores [x] y env=pure none
 ea:∀xs env,assignEach (x::xs) env=(false,assign x env)::assignEach xs env
theorem Bp{gs}{xs:bJ}(h:aL (OE W cs) gs xs):aL (rB W cs) gs xs/\∀env,assignEach xs env=xs.map λe=>(false,assign e env):=by
 induction h with
 |nil=>exact ⟨.nil,λJ=>rfl⟩
 |cons x1 _ x2=>exact ⟨.cons x1.ok x2.1,λenv=>(x1.ea _ env).trans (Qg (_::·) (x2.2 env))⟩
theorem wu:bootBuiltins (Str.ofString "KeyError")=some (.type "KeyError"):=by boot_by_name
noncomputable def Mn(l:bJ)(y:Expr):cm (∀n p env,swappedStores [.Tuple l n p] y env=pure none):=
 ((Jx y [25]).m λh=>h.1.tup h.2 l).o (lR n0 y λvs j r=>(kB (!(l.length==2||l.length==3)) id).m λh n p env=>T6 (show (!(l.length==2||l.length==3)||vs.length != l.length||env.blockKind != ScopeKind.function)=true by exact rW h rfl))
noncomputable def OQ(cs:Scope)(Rx:Nat)(x:Expr):Option Str:=match x with
 |.Name id PV=>if (cs.names.lookup id==some .local&&PV.line==Rx)=true then some id else none
 |_=>none
noncomputable def KW(cs:Scope)(l:bJ)(Rx:Nat):bq:=l.filterMap (OQ cs Rx)
theorem Bz{cs:Scope}{a}{p:Pos}{Rx}(ha:cs.names.lookup a=some .local)(hl:(p.line==Rx)=true):OQ cs Rx (.Name a p)=some a:=T6 (rW ha (rW hl rfl))
theorem I2{cs:Scope}{a b}{p1 p2:Pos}(ha:cs.names.lookup a=some .local)(hb:cs.names.lookup b=some .local)(hl:(p2.line==p1.line)=true):KW cs [.Name a p1,.Name b p2] p1.line=[a,b]:=
 (List.filterMap_cons_some (Bz ha (Ua _))).trans (Qg (a::·) (List.filterMap_cons_some (Bz hb hl)))
theorem CS{c:Fc}(hk:c.cs.kind=.function){a b}{p1 p2:Pos}{vs:bJ}{n j p r}(ha:c.cs.names.lookup a=some .local)(hb:c.cs.names.lookup b=some .local)(Qs:a≠b)(hl:(p2.line==p1.line)=true)(h2:(vs.length==2)=true)(ho:vs.all wZ=true)(hf:vs.all (foldedForSure 8)=false)(hc:vs.all (constantsAlone 8)=false):
 swappedStores [.Tuple [.Name a p1,.Name b p2] n p] (.Tuple vs j r) c.env=pure (some [a,b]):=by
 have e1:((vs.length != 2)||c.env.blockKind != ScopeKind.function)=false:=by
  have hb:c.env.blockKind=.function:=by show (if c.cs.kind.isAnnotationScope then ScopeKind.function else c.cs.kind)=_;exact rW hk rfl
  exact rW hb (rW (eq_of_beq h2 ..) rfl)
 have e2:(vs.any λx=>match x with|.Starred ..=>true|_=>false)=false:=by
  rw[List.any_eq_false];refine λx hx=>Kl (a9.mp ho x hx) λf g=>?_;clear g f;induction x using Expr.casesOn with
  |Starred _ _=>exact bU (a9.mp ho _ hx)
  |_=>exact Bool.false_ne_true
 have nf:∀{b:Bool},b=false->¬b=true:=λh=>rW h Bool.false_ne_true;have e3:=I2 ha hb hl;have e4:[a,b].eraseDups=[a,b]:=by have:(b==a)=false:=beq_eq_false_iff_ne.mpr (Ne.symm Qs);simp[List.eraseDups_cons,this]
 have P':swappedStores [.Tuple [.Name a p1,.Name b p2] n p] (.Tuple vs j r) c.env=pure (some (KW c.cs [.Name a p1,.Name b p2] p1.line)):=by unfold swappedStores;refine (T8 (nf e1)).trans ((T8 (nf e2)).trans ((T8 (nf ?_)).trans ((T8 (nf hf)).trans (T8 (nf hc)))));show ((KW c.cs [.Name a p1,.Name b p2] p1.line).length != 2||(KW c.cs [.Name a p1,.Name b p2] p1.line).eraseDups.length != (KW c.cs [.Name a p1,.Name b p2] p1.line).length)=false;exact rW e3 (rW e4 rfl)
 exact rW P' (rW e3 rfl)
noncomputable def JF(s:PS)(ss:List PS)(Qv:fh)(k:cm (fZ W cs ss Qv)):cm (fZ W cs (s::ss) Qv):=by
 induction s using PS.casesOn with
 |gc _=>exact k.m wx
 |aB _ _ _=>exact k.m yC
 |expr e=>induction e using PE.casesOn with
  |neg e=>exact oJ n0 e .none (.y ⟨λa p L n hz s fl L' σ' e Q E H=>bl e⟩)
  |_=>exact .n
 |_=>exact .n
@[elab_as_elim]noncomputable def O8{M:ExceptHandler->Type}(d:∀x,M x)(h:ExceptHandler)(k:∀n np s hp,M (.ExceptHandler (some (.Name n np)) none [s] hp)):M h:=by
 induction h using PySem.ExceptHandler.casesOn with
 |ExceptHandler ty nm b hp=>exact mV (λJ=>d _) nm (mS (λJ=>d _) ty λx=>fK (λJ=>d _) x λn np=>c1 (λJ=>d _) b λs=>k n np s hp)
@[elab_as_elim]noncomputable def M6{M:Tg->Type}(d:∀x,M x)(g:Tg)(k:∀i,M (.l i)):M g:=by
 induction g with
 |l i=>exact k i
 |_=>exact d _
variable (T:kE W t)(hk:cs.kind=.function)
include T hk
noncomputable def mP(e:PE)(x:Expr):cm (bK W cs none e x):=(ck T e).e ⟨none,hk⟩ x
noncomputable def JZ(g:Tg)(x:Expr):cm (OE W cs g x):=by
 induction g with
 |l i=>exact fK n0 x λn p=>(qy T i n).b λh1=>(KA none i n).m λh2=>⟨oF h1 h2,λJ J=>rfl,λJ J=>rfl⟩
 |a o f=>exact fg n0 x λy n p=>(qy T f n).b λh1=>(mP T hk o y).m λh2=>⟨I9 h1 h2,λJ J=>rfl,λJ J=>rfl⟩
 |s o i=>exact d3 n0 x λy z p=>(mP T hk o y).b λh1=>(mP T hk i z).m λh2=>⟨IE h1 h2,λJ J=>rfl,λJ J=>rfl⟩
noncomputable def Nf(g:Tg)(e:PE)(x y:Expr)(p:Pos):cm (jX W cs (.j g e) (.Assign [x] y p)):=by
 refine M6 n0 g λi=>?_;induction e using PE.casesOn with
 |comp f it QW el=>exact fK n0 x λn np=>m5 n0 y λy g sc q=>Gc n0 g λtg z ifs=>(qy T i n).b λh1=>(vk cs.names n .local).b λh2=>(kB (M3 cs none sc) Fk).b λso=>let c':pH cs:=⟨some (sc,ua f),so.kind⟩;(jy z).b λo=>(NK T sc.names f tg).b λh4=>(mP T hk it z).b λh5=>(OS QW ((ck T QW).t c') ifs).b λh3=>((ck T el).e c' y).b λh6=>(kB (np.line==q.line) id).b λh7=>(kB (!(sc.names.any λp=>p.1==n&&(p.2==.local||p.2==.cell))) nt).m λh8=>rT so h4 h5 h3 h6 (o.1.set o.2) h1 h2 h7 h8
 |_=>exact .n
noncomputable def KC(g:Tg)(e:PE)(st:Stmt):cm (jX W cs (.j g e) st):=oC n0 st λxs y p=>c1 n0 xs λx=>
 cm.o ((lE y).b λh2=>(JZ T hk g x).b λx1=>(mP T hk e y).m λh1=>sn (PV:=p) x1.ok h1 (λenv=>h2 (some x) p.line env) (λenv=>x1.sw y env) λenv=>x1.ea [] env) (Nf T hk g e x y p)
noncomputable def Mu(gs:List Tg)(e:PE)(l:bJ)(n:Nat)(q:Pos)(y:Expr)(p:Pos):cm (jX W cs (.Z gs e) (.Assign [.Tuple l n q] y p)):=
 dy n0 gs λg r=>c1 n0 r λg2=>M6 n0 g λi=>M6 n0 g2 λj=>dy n0 l λu r=>c1 n0 r λv=>fK n0 u λa p1=>fK n0 v λb p2=>lR n0 y λvs k r=>
  (qy T i a).b λh1=>(qy T j b).b λh2=>(vk cs.names a .local).b λh3=>(vk cs.names b .local).b λh4=>(kB (!sEq a b) nt).b λh5=>(kB (p2.line==p1.line) id).b λh6=>(kB (vs.length==2) id).b λh8=>(mF vs).b λh9=>(kB (!(vs.all (foldedForSure 8))) nt).b λTk=>(kB (!(vs.all (constantsAlone 8))) nt).b λRM=>(lE (.Tuple vs k r)).b λhs=>(mP T hk e (.Tuple vs k r)).m λhe=>by
  have Qs:a≠b:=λz=>by rw[sEq_iff.mpr z]at h5;exact bU h5.symm
  exact xt h1 h2 h3 h4 Qs he (λenv=>hs (some (.Tuple [.Name a p1,.Name b p2] n q)) p.line env) λc hc=>by subst hc;exact CS hk h3 h4 Qs h6 h8 h9 Tk RM
@[elab_as_elim]noncomputable def KM{M:Stmt->Type}(d:∀x,M x)(s:Stmt)(k:∀n np y p,M (.Assign [.Name n np] y p)):M s:=oC d s λxs y p=>c1 (λJ=>d _) xs λx=>fK (λJ=>d _) x λn np=>k n np y p
noncomputable def LW(ss:List PS):∀Qv,cm (fZ W cs ss Qv):=by
 refine PS.rec_1 (motive_1:=λs=>∀st,cm (jX W cs s st)) (motive_2:=λss=>∀Qv,cm (fZ W cs ss Qv))
  ?expr ?j ?Z ?aj ?au ?ai ?ifs ?aa ?al ?az ?aw ?ret ?brk ?cont ?pass ?gc ?ae ?aA ?aB ?nil ?cons ss
 case expr=>exact λe st=>JX n0 st λx p=>(lE x).b λh=>(mP T hk e x).m λh1=>AP h1 (h _ _)
 case j=>exact KC T hk
 case Z=>exact λgs e st=>oC n0 st λxs y p=>c1 n0 xs λx=>lR n0 x λl n q=>cm.o ((lE y).b λh2=>(Mn l y).b λh3=>(H3 (JZ T hk) gs l).b λh=>(mP T hk e y).m λh1=>rj (PV:=p) (Bp h).1 h1 (λenv=>h2 (some (.Tuple l n q)) p.line env) (h3 n q) (Bp h).2) (Mu T hk gs e l n q y p)
 case aj=>exact λi op e st=>iK n0 st λx o y p=>kD n0 o (Ca op) (fK n0 x λn q=>(qy T i n).b λh5=>(vk cs.names n .local).b λh6=>(mP T hk e y).m λh=>zd h5 h6 h)
 case au=>exact λu f op e st=>iK n0 st λx o y p=>kD n0 o (Ca op) (fg n0 x λz n q=>(mP T hk u z).b λh5=>(qy T f n).b λh6=>(mP T hk e y).m λh=>yy h6 h5 h)
 case ai=>exact λu i op e st=>iK n0 st λx o y p=>kD n0 o (Ca op) (d3 n0 x λz w q=>(jy w).b λf=>(mP T hk u z).b λh5=>(mP T hk i w).b λh6=>(mP T hk e y).m λh=>BA h5 h6 h (f.1.aug f.2))
 case ifs=>exact λu b o ih QE st=>Ph n0 st λx p q l=>((ck T u).t ⟨none,hk⟩ x).b λh1=>(ih p).b λh2=>(QE q).m λh3=>I' h1 h2 h3
 case aa=>exact λu b ih st=>Im n0 st λx p q l=>gf n0 q (((ck T u).t ⟨none,hk⟩ x).b λh1=>(ih p).m λh2=>xj h1 h2)
 case al=>exact λf it b ih st=>NZ n0 st λx y p q l=>gf n0 q ((jy y).b λo=>(NK T cs.names f x).b λh4=>(mP T hk it y).b λh1=>(ih p).m λh2=>Dv h4 h1 h2 (o.1.set o.2))
 case az=>exact λe st=>En n0 st λx m p=>mV n0 m (((ck T e).t ⟨none,hk⟩ x).m Ah)
 case aw=>
  exact λi j o m e st=>Kw n0 st λb hs oe fb p=>gf n0 oe (gf n0 fb (dy n0 b λs1 r=>c1 n0 r λs2=>c1 n0 hs λh=>O8 n0 h λn np s3 hp=>kS n0 n (Str.ofString "KeyError") (KM n0 s3 λn3 SK y3 p3=>KM n0 s1 λn1 Sq y1 p1=>ig n0 y3 λk3 j3 q3=>wb n0 y1 λy nn q xs cp=>c1 n0 xs λex=>kD n0 k3 .none ((lE (.Call (.Attribute y nn q) [ex] [] cp)).b λb3=>(Dl y q cp [ex]).b λA=>(qy T m nn).b λRM=>(qy T i n3).b λe3=>(qy T i n1).b λe2=>(vk cs.names n1 .local).b λb2=>(Lr T ⟨none,hk⟩ _ _ wu (by decide) (by kernel_rfl)).b λB=>(mP T hk o y).b λho=>(jy ex).b λf=>(mP T hk e ex).b λhe=>(kB (o3 cs.names) jQ).b λnc=>(KC T hk (.l j) (.un .len (.q i)) s2).m λh2=>by
   obtain rfl:=aK (e3.symm.trans e2);exact zN nc RM e2 b2 B ho (jG he lG (f.1.star f.2 [])) (λenv=>rW (f.1.star f.2 [] ..) rfl) (kJ A (λPV env=>rW (f.1.star f.2 [] ..) rfl))
    (λenv=>b3 (some (.Name n3 Sq)) p1.line env) (λJ=>rfl) (λJ=>rfl) h2 (λenv=>rfl) (λJ=>rfl) (λJ=>rfl)))))
 case ret=>exact λe st=>vV n0 st λx p=>mS n0 x λx=>(mP T hk e x).m Ea
 case brk=>exact λst=>HF n0 st λp=>.y Ew
 case cont=>exact λst=>wS n0 st λp=>.y yv
 case pass=>exact λst=>La n0 st λp=>.y BR
 case gc=>exact λJ J=>.n
 case ae=>exact λe st=>vV n0 st λx p=>mS n0 x λx=>(mP T hk e x).m zg
 case aA=>exact λb ih st=>Kw n0 st λb' hs oe fb p=>dy n0 hs λh hs=>gf n0 oe (gf n0 fb ((ih b').m AA))
 case aB=>exact λJ J J J=>.n
 case nil=>exact λQv=>gf n0 Qv (.y Ar)
 case cons=>exact λs ss ih QE Qv=>cm.o (JF s ss Qv (QE Qv)) (dy n0 Qv λst r=>(ih st).b λh1=>(QE r).m (xd h1))
end
end
section
open PySem.W.Fast (sEq sEq_iff lEq lEq_iff)
theorem qc{M A st env Q E s}(h:wpAny M A (execs [st] env) Q E s):wpAny M A (exec st env) Q E s:=λΓ p hΓ=>by have h:=h Γ p hΓ;rw[execs_cons,Sem.wp_bind']at h;refine Sem.wp_mono M Γ _ (λf p' s' h'=>?_) (λJ J J h'=>h') _ _ h;induction f<;>exact h'
section
variable {W:Wd}{cs:Scope}{t:Tc}
theorem s5{s st}(h:fZ W cs [s] [st]):jX W cs s st:=by refine ⟨λa p L n hz i fl L' σ' e Q E H=>qc (h.h a p i fl L' σ' (cR.trans (rW e ?_)) H)⟩;clear H e;induction fl<;>rfl
variable (T:kE W t)(hk:cs.kind=.function)
include T hk
noncomputable def H8(s:PS)(Qv:fh):cm (nh W cs [s] Qv):=by
 induction s using PS.casesOn with
 |expr e=>exact c1 n0 Qv λst=>Ix n0 st λex c p=>mV n0 c (mS n0 ex λy=>nK n0 y λn q xs cp=>kS n0 n (Str.ofString "KeyError") (c1 n0 xs λx=>(Lr T ⟨none,hk⟩ _ _ wu (by decide) (by kernel_rfl)).b λB=>(jy x).b λo=>(mP T hk e x).m λh=>rk B h (o.1.star o.2 []) λenv=>rfl))
 |_=>exact .n
noncomputable def Pv(ss:List PS):∀Qv,cm (nh W cs ss Qv):=
 ss.rec (λJ=>.n) λs ss ih Qv=>cm.o (gf n0 ss (H8 T hk s Qv)) (dy n0 Qv λst r=>(LW T hk [s] [st]).b λh1=>(ih r).m (tX (s5 h1)))
end
end
section
open PySem.W.Fast (sEq sEq_iff lEq lEq_iff)
theorem cM{β:Type}{k v}:∀{l:List (Nat×β)},aJ k l=some v->(k,v)∈l
 |[],h=>bl h
 |(i,w)::r,h=>by
  have h1:(bif Nat.beq i k then some w else aJ k r)=some v:=h;clear h;generalize hb:Nat.beq i k=Tm;induction Tm with
  |true=>rw[hb]at h1;obtain rfl:w=v:=aK h1;exact rW (Uq hb ..) (.head _)
  |false=>rw[hb]at h1;exact .tail _ (cM h1)
theorem u6{β:Type}{l:List (Nat×List (Nat×β))}{a b v}(h:se l a b=some v){f:Nat->Nat->β->Bool}(hf:(l.all λp=>p.2.all λq=>f p.1 q.1 q.2)=true):f a b v=true:=by
 unfold se at h;generalize q:aJ a l=Tn;induction Tn with
 |none=>rw[q]at h;exact bl h
 |some r=>rw[q]at h;exact a9.mp (a9.mp hf _ (cM q)) _ (cM h)
theorem yR{l:List (Nat×aC)}{a b}(h:DV l a b=true){f:Nat->Nat->Bool}(hf:(l.all λp=>p.2.all λq=>f p.1 q)=true):f a b=true:=by
 unfold DV at h;generalize q:aJ a l=To;induction To with
 |none=>rw[q]at h;exact bU h
 |some r=>rw[q]at h;exact a9.mp (a9.mp hf _ (cM q)) _ (List.contains_iff_mem.mp h)
noncomputable def DD(v:V)(y:Value):Bool:=match v with
 |.none=>decide (y=.none)
 |.bool b=>decide (y=.bool b)
 |.int i=>(match y with|.int j _=>decide (i=j)|_=>false)
 |.str s=>(match y with|.str x _=>lEq s x.cps.toList&&Nat.ble s.length 100000|_=>false)
 |.u a=>decide (y=.ref a)
 |_=>false
theorem jZ{hs v y}(h:DD v y=true):VR hs v y:=by
 induction v using V.casesOn with
 |none=>exact rW (T9 h ..) .none
 |bool b=>exact rW (T9 h ..) (.bool b)
 |u b=>exact rW (T9 h ..) (.u b)
 |int i=>induction y with
  |int j t=>obtain rfl:i=j:=T9 h;exact .int i t
  |_=>exact bU h
 |str s=>induction y with
  |str x t=>refine an (show (lEq s x.cps.toList&&Nat.ble s.length 100000)=true from h) λh1 h2=>?_;have e:x=aT s:=rW (lEq_iff.mp h1 ..) ((gj x).symm);exact rW e (.str s t (cg h2))
  |_=>exact bU h
 |_=>exact bU h
noncomputable def Ml:List V->aO->Bool
 |[],ys=>w7 ys
 |v::vs,ys=>pO ys λy r=>DD v y&&Ml vs r
theorem tf{hs}:∀{vs:List V}{ys:aO},Ml vs ys=true->aL (VR hs) vs ys
 |[],ys,h=>rW (qF h ..) .nil
 |v::vs,ys,h=>oD (P:=λys=>aL (VR hs) (v::vs) ys) h λy r=>bn λh1 h2=>.cons (jZ h1) (tf h2)
noncomputable def MO(K:Frag)(p:Str×Option V):Bool:=match p.2 with
 |some v=>(match nsIn K mainGlobals p.1 with|some o=>nv o λy=>DD v y|none=>false)
 |none=>(match nsIn K mainGlobals p.1 with|some o=>uC o|none=>false)
noncomputable def OP(K:Frag)(t:Tc):Bool:=t.gl.all (MO K)&&t.fa.all (λf=>keepIn K (.ref f)&&Nat.blt f 1000000)&&t.ca.all λc=>keepIn K (.ref c)&&makesIn K c
theorem AB{K x v}(h:MO K (x,some v)=true):∃y,VR .nil v y/\nsIn K mainGlobals x=some (some y):=by
 have h1:(match nsIn K mainGlobals x with|some o=>nv o λy=>DD v y|none=>false)=true:=h;generalize q:nsIn K mainGlobals x=z9;induction z9 with
 |none=>rw[q]at h1;exact bU h1
 |some o=>rw[q]at h1;exact s9 (P:=λo=>∃y,VR .nil v y/\some o=some (some y)) h1 λy h=>⟨y,jZ h,rfl⟩
theorem Aa{K x}(h:MO K (x,none)=true):nsIn K mainGlobals x=some none:=by
 have h1:(match nsIn K mainGlobals x with|some o=>uC o|none=>false)=true:=h;generalize q:nsIn K mainGlobals x=z8;induction z8 with
 |none=>rw[q]at h1;exact bU h1
 |some o=>rw[q]at h1;exact rW (Bs h1 ..) rfl
theorem nS{l:aC}{f}{k:Nat->Bool}(h:l.any (Nat.beq f)=true)(ha:l.all k=true):k f=true:=by refine a7 λkC=>?_;obtain ⟨j,hj,e⟩:=List.any_eq_true.mp h;exact kC (rW (Uq e ..) (a9.mp ha j hj))
theorem HI{W:Wd}{t:Tc}(ht:W.tb=t.tb)(hf:W.kf=t.kf)(hn:W.kn=t.kn)(hi:∀g T,aJ g t.it=some T->fF W g T)(h:OP W.K t=true):kE W t:=
 Np h λh1 h2 h3=>⟨ht,λx v hm=>AB (a9.mp h1 _ hm),λx hm=>Aa (a9.mp h1 _ hm),
  λf hf=>an (nS hf h2) λa b=>⟨a,cg b⟩,λc hc=>an (nS hc h3) λa b=>⟨a,b⟩,hf,hn,hi⟩
noncomputable def Kc(r:Option Obj):FuncData:=match r with|some o=>(match o.data with|.func fd=>fd|_=>default)|none=>default
noncomputable def dX(K:Frag)(f:Nat):FuncData:=Kc (K.lookup f)
noncomputable def Ot{W:Wd}{Q:Scope->fh->Prop}(k:∀sc b,sc.kind=.function->cm (Q sc b))(f:Nat)(fn:Fn)(r:Option Obj):cm (W.K.lookup f=r->fp W fn (Kc r) (Kc r).scope->(f=W.kf->iS W fn (Kc r) (Kc r).scope)->Jc W f fn Q):=by
 induction r with
 |none=>exact .n
 |some o=>
  obtain ⟨oc,od,dt,Rl⟩:=o;induction dt with
  |func fd=>
   obtain ⟨name,Qp,params,Qa,sc,gl,cl,dV,kV,Ri,pm,an,QR,ct,bt⟩:=fd;induction Qa with
   |stmts b=>exact kD n0 gl mainGlobals (gf n0 cl (kD n0 bt builtinsNs ((kB (decide (sc.kind=.function)) T9).b λh1=>(kB (!sc.isCoroutine) nt).b λh2=>(kB (!sc.isGenerator) nt).b λh3=>(kB (Nb sc) IG).b λh4=>(kB (codeIn W.K QR Qp) id).b λh5=>(k sc b h1).m λh q hb hk=>.mk ⟨q,h5,h1,h2,h3,h4,hb,hk⟩ h)))
   |expr _=>exact .n
  |_=>exact .n
section
variable {W:Wd}{t:Tc}(T:kE W t)(f:Nat)(fn:Fn)
noncomputable def OG:cm (fp W fn (dX W.K f) (dX W.K f).scope->(f=W.kf->iS W fn (dX W.K f) (dX W.K f).scope)->zY W f fn):=(Ot (λsc b h=>LW T h fn.body b) f fn (W.K.lookup f)).m λh=>h rfl
noncomputable def Lg:cm (fp W fn (dX W.K f) (dX W.K f).scope->(f=W.kf->iS W fn (dX W.K f) (dX W.K f).scope)->uw W f fn):=(Ot (λsc b h=>(kB (o3 sc.names) jQ).b λh1=>(Pv T h fn.body b).m λh2=>⟨h1,h2⟩) f fn (W.K.lookup f)).m λh=>h rfl
end
noncomputable def J'(tb:bq)(f:Nat)(k:Str->Bool):Bool:=match tb[f]? with|some x=>k x|none=>false
theorem su{tb f}{k:Str->Bool}(h:J' tb f k=true):∃x,tb[f]? = some x/\k x=true:=by
 unfold J' at h;generalize q:tb[f]? = z5;induction z5 with
 |none=>rw[q]at h;exact bU h
 |some x=>rw[q]at h;exact ⟨x,rfl,h⟩
noncomputable def Pc(K:Frag)(cl:Nat):Bool:=decide (findIn K (.ref cl) "__getattribute__"=some (some (.builtin "object.__getattribute__")))&&decide (findIn K (.ref cl) "__getattr__"=some none)&&hasDictIn K cl&&decide (findIn K (.ref cl) "__setattr__"=some (some (.builtin "object.__setattr__")))&&plainOver K cl
noncomputable def Nh(tb:bq)(K:Frag)(cl f:Nat):Bool:=J' tb f λx=>decide (findIn K (.ref cl) x=some none)&&decide (takerIn K cl x=some none)
noncomputable def MZ(tb:bq)(K:Frag)(cl f g:Nat):Bool:=J' tb f λx=>decide (findIn K (.ref cl) x=some (some (.ref g)))&&decide (typeIn K (.ref g)=some (.type "function"))&&decide (specialIn K (.ref g) "__get__"=some (some (.builtin "function.__get__")))&&decide (takesIn K (.ref g)=some false) && !copiedNames.contains x&&Nat.blt g 1000000
noncomputable def Nx(tb:bq)(K:Frag)(cl f:Nat)(v:V):Bool:=J' tb f λx=>(match findIn K (.ref cl) x with|some o=>nv o λa=>decide (specialIn K a "__get__"=some none)&&handedIn a && !copiedNames.contains x&&DD v a|none=>false)
noncomputable def ON(tb:bq)(K:Frag)(cs:aC)(tm:List (Nat×List (Nat×Nat)))(tv:List (Nat×List (Nat×V)))(ti:List (Nat×aC)):Bool:=
 cs.all (Pc K)&&(tm.all λp=>p.2.all λq=>cs.any (Nat.beq p.1)&&MZ tb K p.1 q.1 q.2)&&(tv.all λp=>p.2.all λq=>cs.any (Nat.beq p.1)&&Nx tb K p.1 q.1 q.2)&&(ti.all λp=>p.2.all λq=>cs.any (Nat.beq p.1)&&Nh tb K p.1 q)
theorem GS{W:Wd}{cx:Cx}{cs tm tv ti}(nd:W.tb.Nodup)(e1:cx.clsm=se tm)(e2:cx.clsv=se tv)(e3:cx.clsi=DV ti)(h:ON W.tb W.K cs tm tv ti=true):nw W cx:=by
 refine LO h λh1 h2 h3 h4=>?_;have M:∀cl f g,cx.clsm cl f=some g->cs.any (Nat.beq cl)=true/\MZ W.tb W.K cl f g=true:=λcl f g h=>by rw[e1]at h;exact an (u6 (f:=λa b c=>cs.any (Nat.beq a)&&MZ W.tb W.K a b c) h h2) λa b=>⟨a,b⟩
 have Vv:∀cl f v,cx.clsv cl f=some v->cs.any (Nat.beq cl)=true/\Nx W.tb W.K cl f v=true:=λcl f g h=>by rw[e2]at h;exact an (u6 (f:=λa b c=>cs.any (Nat.beq a)&&Nx W.tb W.K a b c) h h3) λa b=>⟨a,b⟩
 have I:∀cl f,cx.clsi cl f=true->cs.any (Nat.beq cl)=true/\Nh W.tb W.K cl f=true:=λcl f h=>by rw[e3]at h;exact an (yR (f:=λa b=>cs.any (Nat.beq a)&&Nh W.tb W.K a b) h h4) λa b=>⟨a,b⟩
 refine ⟨nd,λcl f h=>?_,λcl f h=>?_,λcl f g h=>?_,λcl f v h=>?_⟩
 ·obtain ⟨x,hx,h⟩:=su (I cl f h).2;exact an h λa b=>⟨x,hx,T9 a,T9 b⟩
 ·have hc:cs.any (Nat.beq cl)=true:=by
   rcases h with h|h|h
   ·exact (I cl f h).1
   ·obtain ⟨g,hg⟩:=Option.isSome_iff_exists.mp h;exact (M cl f g hg).1
   ·obtain ⟨g,hg⟩:=Option.isSome_iff_exists.mp h;exact (Vv cl f g hg).1
  exact an (nS hc h1) λh h9=>LO h λh5 h6 h7 h8=>⟨⟨T9 h5,T9 h6⟩,h7,T9 h8,h9⟩
 ·obtain ⟨x,hx,h⟩:=su (M cl f g h).2;exact O1 h λh4 h5 h6 h7 h8 h9=>⟨x,hx,T9 h4,T9 h5,T9 h6,T9 h7,nt h8,cg h9⟩
 ·obtain ⟨x,hx,h⟩:=su (Vv cl f v h).2;generalize q:findIn W.K (.ref cl) x=z4;induction z4 with
  |none=>rw[q]at h;exact bU h
  |some o=>rw[q]at h;exact s9 (P:=λo=>findIn W.K (.ref cl) x=some o->_) h (λa h q=>LO h λh6 h7 h8 h9=>⟨x,a,hx,q,T9 h6,h7,nt h8,jZ h9⟩) q
noncomputable def j7(K:Frag)(a:Nat):aO:=match K.lookup a with|some o=>(match o.data with|.seq its _=>its.toList|_=>[])|none=>[]
noncomputable def mr(K:Frag)(a:Nat):Nat:=match K.lookup a with|some o=>(match o.data with|.seq _ n=>n|.dict _ n=>n|_=>0)|none=>0
noncomputable def i9(K:Frag)(a:Nat):List DictEntry:=match K.lookup a with|some o=>(match o.data with|.dict es _=>es.toList|_=>[])|none=>[]
noncomputable def HV(e:DictEntry):Str:=match e.key with|.str x _=>x|_=>Str.empty
noncomputable def Pq(p:aC×V)(e:DictEntry):Bool:=match e.key with|.str x _=>lEq p.1 x.cps.toList&&DD p.2 e.val|_=>false
noncomputable def ND:List (aC×V)->List DictEntry->Bool
 |[],ys=>w7 ys
 |v::vs,ys=>pO ys λy r=>Pq v y&&ND vs r
structure mx(W:Wd)(a:Nat)(o:O):Prop where
 h:∃PW:gu,i3 PW=a/\(∀q∈PW,W.K.lookup q.1=some q.2)/\cr W.prog W.w W.tb HS.nil o PW
theorem oX{W:Wd}{a o ob}(h:W.K.lookup a=some ob)(r:cr W.prog W.w W.tb HS.nil o [(a,ob)]):mx W a o:=⟨_,rfl,λq hq=>rW (cP.mp hq ..) h,r⟩
theorem Ir{W:Wd}{a}{vs:List V}(h:W.K.lookup a=some { cls:=.type "tuple",data:=.seq (j7 W.K a).toArray (mr W.K a) }) (hv:(Ml vs (j7 W.K a)&&Nat.ble vs.length 100000)=true):mx W a (.tuple vs):=
 oX h (an hv λh1 h2=>.tuple (tf h1) (aH (cg h2) (bC _ _)))
theorem CB{W:Wd}{a}{vs:List V}(h:W.K.lookup a=some (listOf (j7 W.K a).toArray (mr W.K a)))(hv:(Ml vs (j7 W.K a)&&Nat.ble vs.length 100000)=true):mx W a (.list vs):=
 oX h (an hv λh1 h2=>.list (tf h1) (aH (cg h2) (bC _ _)))
noncomputable def Nt(tb:bq):List (Nat×V)->List DictEntry->Bool
 |[],ys=>w7 ys
 |p::vs,ys=>pO ys λe r=>(match e.key with|.str x _=>Mc tb p.1 x|_=>false)&&DD p.2 e.val&&Nt tb vs r
theorem C8{W:Wd}{a C D}{fs:List (Nat×V)}(h:W.K.lookup a=some (instObj C D))(h2:W.K.lookup D=some (dictOf (i9 W.K D) (mr W.K D)))(hv:aL (AV W.tb HS.nil) fs (i9 W.K D))(nd:(fs.map (·.1)).Nodup)(hl:Nat.ble fs.length 900=true):mx W a (.inst C fs):=
 ⟨[(a,instObj C D),(D,dictOf (i9 W.K D) (mr W.K D))],rfl,λq hq=>by
  rcases b8.mp hq with rfl|hq
  ·exact h
  ·exact rW (cP.mp hq ..) h2,.inst hv nd (cg hl)⟩
theorem Df{W:Wd}{a}{kvs:List (aC×V)}(h:W.K.lookup a=some { cls:=.type "dict",data:=.dict (i9 W.K a).toArray (mr W.K a) }) (hh:(i9 W.K a).map (·.hash)=(i9 W.K a).map λe=>PyData.keyHash W.w.params (HV e)) (hv:ND kvs (i9 W.K a)=true) (nd:(kvs.map (·.1)).Nodup) (hl:Nat.ble kvs.length 100000=true) (hA:(a==sysModules)=false):mx W a (.dict kvs):=by
 refine oX h (a7 λkC=>?_);have P':∀{kvs:List (aC×V)}{es:List DictEntry},es.map (·.hash)=es.map (λe=>PyData.keyHash W.w.params (HV e))->ND kvs es=true ->
  ∃ks:bD,(∀e∈es,∃k,(strKind W.prog W.w).is k e.key=true/\e.hash=PyData.keyHash W.w.params k)/\Pairs (strKind W.prog W.w) es ks/\aL (KV HS.nil) kvs ks/\ks.map (·.1)=(kvs.map (·.1)).map aT:=by
  intro kvs;induction kvs with
  |nil=>intro es _ hv;exact rW (qF hv ..) ⟨[],(λe he=>nomatch he),Pairs.nil,.nil,rfl⟩
  |cons p r ih=>
   intro es hh hv;refine oD (P:=λes=>es.map (·.hash)=es.map (λe=>PyData.keyHash W.w.params (HV e))->∃ks:bD,(∀e∈es,∃k,(strKind W.prog W.w).is k e.key=true/\e.hash=PyData.keyHash W.w.params k)/\Pairs (strKind W.prog W.w) es ks/\aL (KV HS.nil) (p::r) ks/\ks.map (·.1)=((p::r).map (·.1)).map aT) hv (λe es h hh=>an h λh1 h2=>(a7 λkC=>?_)) hh;clear h;obtain ⟨Ra,P',val⟩:=e;obtain ⟨hh1,hh2⟩:=U5 hh;clear hh;obtain ⟨ks,q1,q2,q3,q4⟩:=ih hh2 h2;induction P' with
   |str x t=>
    refine kC (an (show (lEq p.1 x.cps.toList&&DD p.2 val)=true from h1) λh3 h4=>?_);have e:x=aT p.1:=rW (lEq_iff.mp h3 ..) ((gj x).symm);refine ⟨(x,val)::ks,λe' he=>?_,Pairs.cons (strKind_is W.prog W.w x t) rfl q2,.cons ⟨e,jZ h4⟩ q3,?_⟩
    ·rcases b8.mp he with rfl|he
     ·exact ⟨x,strKind_is W.prog W.w x t,hh1⟩
     ·exact q1 e' he
    ·show x::ks.map (·.1)=aT p.1::_;exact rW q4 (rW e rfl)
   |_=>exact kC (bU h1)
 obtain ⟨ks,h1,h2,h3,h4⟩:=P' hh hv;refine kC (cr.dict (ks:=ks) ⟨(i9 W.K a).toArray,mr W.K a,⟨rfl,rfl,rfl⟩,rfl,λe he=>?_,by simpa using h2,?_⟩ h3 (cg hl) hA)
 ·refine a7 λkC=>?_;obtain ⟨k,h5,h6⟩:=h1 e (by simpa using he);exact kC ⟨k,h5,h6.trans rfl⟩
 ·exact rW h4 (List.pairwise_map.mpr (nd.imp λQs he=>Qs (kW he)))
noncomputable def Ku(v:Value)(k:Int->Bool):Bool:=match v with|.int j _=>k j|_=>false
theorem Gx{P:Value->Prop}{v}{k:Int->Bool}(h:Ku v k=true)(H:∀j t,k j=true->P (.int j t)):P v:=by
 induction v with
 |int j t=>exact H j t h
 |_=>exact bU h
noncomputable def Ms:List (Int×aC)->List DictEntry->Bool
 |[],ys=>w7 ys
 |p::vs,ys=>pO ys λe r=>Ku e.key (λj=>decide (j=p.1)&&decide (e.hash=hashInt j))&&DD (.str p.2) e.val&&Ms vs r
noncomputable def LY(es:List DictEntry)(i:Int):Option Value:=(es.find? λe=>e.key.isInt i).map (·.val)
structure Jq(T:List (Int×aC))(es:List DictEntry):Prop where
 k:∀e∈es,∃k:Int,e.key.isInt k=true/\e.hash=hashInt k
 f:∀i,match T.lookup i with
   |some s=>∃t,LY es i=some (.str (aT s) t)/\s.length<=a8
   |none=>LY es i=none
theorem Jq.cons{T es}(h:Jq T es){j s t y Ra}(h1:Ra=hashInt j)(h2:VR HS.nil (.str s) y):Jq ((j,s)::T) (⟨Ra,.int j t,y⟩::es):=by
 have hj:∀i,(Value.int j t).isInt i=(j==i):=λi=>rfl;refine ⟨λe he=>?_,λi=>?_⟩
 ·rcases b8.mp he with rfl|he
  ·exact ⟨j,(hj j).trans (Ua j),h1⟩
  ·exact h.k e he
 ·have h0:=h.f i;unfold LY;refine rW (Uu ..) (rW (List.find?_cons ..) ?_);show match (match i==j with|true=>some s|false=>List.lookup i T) with|some s=>_|none=>_
  refine rW (show (DictEntry.mk Ra (.int j t) y).key.isInt i=(j==i) from hj i ..) ?_;by_cases q:i=j
  ·clear hj h1;subst q;refine rW (Ua ..) ?_;cases h2 with
   |str _ u h3=>exact ⟨u,rfl,h3⟩
  ·exact rW (beq_eq_false_iff_ne.mpr q ..) (rW (beq_eq_false_iff_ne.mpr (Ne.symm q) ..) h0)
theorem IF(T:List (Int×aC)):∀es,Ms T es=true->Jq T es:=by
 induction T with
 |nil=>exact λes h=>rW (qF h ..) ⟨λe he=>Uj he US,λi=>rfl⟩
 |cons p T ih=>refine λes h=>oD (P:=λes=>Jq (p::T) es) h λe r=>PD λh1 h2 h3=>a7 λkC=>?_;obtain ⟨Ra,k,y⟩:=e;exact kC (Gx (P:=λk=>Jq (p::T) (⟨Ra,k,y⟩::r)) h1 λj t=>bn λq1 q2=>T9 q1▸(ih r h3).cons (T9 q1▸T9 q2) (jZ h2))
theorem DA{W:Wd}{g T}(h:W.K.lookup g=some { cls:=.type "dict",data:=.dict (i9 W.K g).toArray (mr W.K g) }) (hv:Ms T (i9 W.K g)=true) (hA:(g==sysModules)=false):fF W g T:=by have P':=IF _ _ hv;exact ⟨LY (i9 W.K g),λh' X=>⟨_,(i9 W.K g).toArray,mr W.K g,X _ _ h,⟨rfl,rfl,rfl⟩,rfl,λe he=>P'.k e (List.mem_toArray.mp he),λk=>Qg (Option.map DictEntry.val) (List.find?_toArray ..)⟩,hA,P'.f⟩
noncomputable def Cd(K:Frag)(f:Nat):Nat:=match (dX K f).defaults with|.ref T=>T|_=>0
theorem Pk{K:Frag}{f vs P2}(hd:(dX K f).defaults=.ref (Cd K f))(ho:K.lookup (Cd K f)=some { cls:=.type "tuple",data:=.seq (j7 K (Cd K f)).toArray (mr K (Cd K f)) })
 (h:(lI (dX K f) vs).1 (some (j7 K (Cd K f)).toArray)=pure P2):BE K (dX K f) vs P2:=.df hd ho h
theorem NX{K:Frag}{f v0 kw P2 k}(hd:(dX K f).defaults=.ref (Cd K f))(ho:K.lookup (Cd K f)=some { cls:=.type "tuple",data:=.seq (j7 K (Cd K f)).toArray (mr K (Cd K f)) })
 (h0:bindArgs (dX K f) ⟨[v0],kw⟩=seqItems? (dX K f).defaults>>=k) (h:k (some (j7 K (Cd K f)).toArray)=pure P2):IS K (dX K f) v0 kw P2:=.df hd ho h0 h
noncomputable def po{α:Type}(P:α->Prop):List α->Prop
 |[]=>True
 |x::r=>P x/\po P r
theorem gN{α:Type}{P:α->Prop}:∀{l:List α},po P l->∀x∈l,P x
 |y::r,h,x,hx=>by
  rcases b8.mp hx with e|hx
  ·exact e▸h.1
  ·exact gN h.2 x hx
theorem IN{W:Wd}{t}(T:kE W t){l:List (Nat×Fn)}(h:(l.all λp=>(OG T p.1 p.2).ok)=true)(hb:po (λp:Nat×Fn=>fp W p.2 (dX W.K p.1) (dX W.K p.1).scope) l)(hk:∀fn,aJ W.kf l=some fn->iS W fn (dX W.K W.kf) (dX W.K W.kf).scope)(f:Nat)(fn:Fn)(e:aJ f l=some fn):zY W f fn:=
 cm.t (a9.mp h _ (cM e)) (gN hb _ (cM e)) λq=>by subst q;exact hk fn e
theorem Kf{W l sp o}(h:po (λp:Nat×O=>mx W p.1 p.2) l)(hs:mx W sp o):ol W (λa=>match aJ a l with|some o=>some o|none=>aJ a [(sp,o)]):=by
 refine ⟨λa o' e=>?_⟩;have k:mx W a o':=by
  have e1:(match aJ a l with|some o=>some o|none=>aJ a [(sp,o)])=some o':=e;clear e;generalize q:aJ a l=z3;induction z3 with
  |some o2=>rw[q]at e1;obtain rfl:=aK e1;exact gN h _ (cM q)
  |none=>rw[q]at e1;have e2:(bif Nat.beq sp a then some o else none)=some o':=e1;exact E4 e2 λh1 h2=>rW (Uq h1 ..).symm (rW (aK h2 ..).symm hs)
 exact k.h
theorem Bq{vs}{is:List Int}(h:IntsAre vs is):aL (VR HS.nil) (is.map V.int) vs:=by
 induction h with
 |nil=>exact .nil
 |cons n t _ ih=>exact .cons (.int n t) ih
theorem xr{P}{h:Heap}{sp d}(w1:Well P h (.ref sp) d)(hd:∃xs,d=.list xs){vs:aO}(hL:h.IsList sp vs.toArray):∃n,h.get? sp=some (listOf vs.toArray n):=by
 refine a7 λkC=>?_;obtain ⟨xs,rfl⟩:=hd;cases w1 with
 |list h1 _=>clear a_1;obtain ⟨o,h2,_,n,h3⟩:=hL;rw[h1]at h2;refine kC ?_;clear left;obtain rfl:=aK h2;cases h3;exact ⟨_,h1⟩
theorem wL{K:Frag}{a o}{h:Heap}(k:K.In h)(e:h.get? a=some o):List.lookup a (K++[(a,o)])=some o:=by
 generalize q:List.lookup a K=z2;induction z2 with
 |none=>exact rR q
 |some o'=>obtain rfl:=aK (e.symm.trans (k _ _ q));exact iX q
theorem za{K:Frag}{a o}{h:Heap}(k:K.In h)(e:h.get? a=some o):Frag.In (K++[(a,o)]) h:=by
 intro b x hb;cases q:List.lookup b K with
 |some o'=>rw[iX q]at hb;obtain rfl:=aK hb;exact k _ _ q
 |none=>
  rw[List.lookup_append,q]at hb;have hb:(List.lookup b [(a,o)])=some x:=hb;rw[Uu]at hb;cases SU:b==a with
  |true=>rw[SU]at hb;obtain rfl:=aK hb;exact rW (beq_iff_eq.mp SU ..) e
  |false=>rw[SU]at hb;exact bl hb
set_option tactic.hygienic true in
theorem Dw{W:Wd}{f}{fn:Fn}(x:zY W f fn){Qp name params Qa}{scope:Scope}{dV kV Ri pm QR ct oc an od Rl}
 (h:W.K.lookup f=some ⟨oc,od,.func (fnOf name Qp params Qa scope dV kV Ri pm an QR ct),Rl⟩):scope.kind=.function/\gy scope/\fZ W scope fn.body Qa:=by
 obtain ⟨oa,ob⟩:=x;rename_i qual' name' params' T1 SH dV' kV' doc' pm' cdv' ct' oc' an' od' osl';have e:=Data.func.inj (Qg Obj.data (aK (oa.at_.symm.trans h)));clear h;obtain rfl:T1=Qa:=FuncBody.stmts.inj (Qg FuncData.body e);obtain rfl:SH=scope:=Qg FuncData.scope e;exact ⟨oa.kind,oa.ck,ob⟩
theorem yT{W:Wd}{cs:Scope}{zm:Am}(a:Ax W cs zm)(p:Pt zm){L nn hz}(s:AU hz nn p L){i j kn n x z p1 p2 p3 p4 p5 p6 p7 p8 ss Qv}(B:nU W cs none "sum" (.builtin "sum"))(hi:W.tb[i]? = some x)(hx:cs.names.lookup x=some .local)(hj:W.tb[j]? = some z)(hz':cs.names.lookup z=some .local)(hzd:(z==("__debug__":Str))=false)(RG:fZ W cs ss Qv)
 {tk:Nat}{fl:Fl}{L':aR}{σ':St} (ee:PT zm.cx (.j (.l i) (.un .sum (.O (.q j) (.i .none) (.i (.int n))))::ss) nn L p.σ=some (fl,L',σ')) {Q:Flow->Shared->Prop}{E:bw} (H:Hs zm p.X hz fl L' σ' Q):
 wpAny zm.M zm.c.A (execs (.Assign [.Name x p1] (.Call (.Name "sum" p2) [.Subscript (.Name z p3) (.Slice none (some (.Constant (.int n) kn p4)) none p5) p6] [] p7) p8::Qv) zm.c.env) Q E ⟨p.h,zm.g,zm.dr,tk,zm.os⟩:=by
 refine Dn (cR.symm.trans ee) λf1 L1 σ1 e1 e2=>cF (dm.symm.trans e1) λv σ2 e3 e4=>cF (IT.symm.trans e3) λv0 σ3 e5 e6=>cF (d4.symm.trans e5) λvo σ4 e7 e8=>xV (pg.symm.trans e7) λu hu e7=>zG e4 λL3 σ5 b1 b2=>?_;obtain ⟨rfl,rfl⟩:=Prod.mk.inj (aK e7);have e8:oz zm.cx u .none (.int n) p.σ=some (v0,σ3):=e8;have N:=s.nm;refine wpAny_execs_cons (wpAny_Assign_stores (Call_ (Calls.Name_function_global (a.sc B.hs N) (Vw.kindOf N a.cs B.hk nofun) (Calls.loadGlobal_builtin (mg:=zm.W.mg) (mb:=zm.W.mb) ?_ (mg_none_of a.g.ok.X (topRead_of a.g.ok.T).g (a.W▸B.hg)) ?_ (((topRead_of a.g.ok.T).builtins "sum" B.hn).trans B.hv) ?_) B.hd) rfl) rfl rfl)
 ·exact rW ((Vw.scope N).2.1 ..) ((topRead_of a.g.ok.T).g.keeps p.S.F.base)
 ·exact rW ((Vw.scope N).2.2 ..) ((topRead_of a.g.ok.T).b.keeps p.S.F.base)
 refine callWith_of (P:=λh'=>∃k,(k=Keeper.frame\/k=Keeper.machine\/k=Keeper.boundFrame)/\Looks (model zm.W.prog zm.W.w) h' (keeperOf (.builtin "sum")) k) rfl (λh' p=>p) (dQ rfl (wpAny_items_cons (Subscript_ (wpAny_Name (Vw.read (s:=⟨p.h,zm.g,zm.dr,tk,zm.os⟩) N p.S a.cs (a.cs▸a.g.ok.kind) B.hs (a.cs▸a.g.ok.ck) (a.W▸hj) (.inl hz') hu λy r=>(wpAny_Slice (rW (evalPart_none ..) (Ub (rW (evalPart_some ..) (wpAny_Constant_int (Ub (a7 λkC=>?_)))))))) hzd)) rfl));have S4:=p.S.garb { cls:=.type "slice",data:=.fields #[.none,.int n tk,.none] };have QY:=Nat.le_add_left 1 tk;obtain ⟨T,id,hT,TM⟩:=tO (p:=p.to S4 QY) a.g r (show sob _ _ _ _ _=_ from e8) (λob e=>l6 e λvs q J=>q▸rfl);refine kC (ju (Q4:=[.ref p.h.objs.size,y]) hT TM rfl (pN (p:=p.to S4 QY) a.g r .none (.int n tk) ⟨_,Heap.get?_push_size _ rfl,rfl,rfl⟩ v0 σ3 e8 λS1 q1 r1 Qd=>?_));refine wpAny_items_nil ⟨hO nofun,(BW a.g (p.to S1 Qd) r1 v σ2 e6 λS2 q2 r2 Qe=>?_)⟩;have q2:=HS.Le.trans q1 q2;refine (oF hi (.inl hx)).h a (p.to S2 Qe) (s.lr.mono q2) r2 b1 λS3 q3 RD QC=>a7 λkC=>?_;obtain ⟨rfl,b3⟩:=Prod.mk.inj (aK b2);clear b2;obtain ⟨rfl,rfl⟩:=Prod.mk.inj b3;exact kC (RG.h a ⟨_,p.X,_,_,_,_,S3,QC⟩ ⟨RD,s.len,s.le.trans (HS.Le.trans q2 q3)⟩ fl L' σ' e2 H)
theorem Ei{W:Wd}{p:Pr}{Ry sp}{fn:Fn}{Qj d}(hso:ol W p.so)(hco:∀Qj call,nw W (jk p Qj call))(hi:W.tb[p.init]? = some "__init__")(hf:∀f fn,f<eM->p.fns f=some fn->zY W f fn)(TS:∀f fn,p.fns (f+eM)=some fn->uw W f fn)
 {t:Tc} (TC:kE W t) {Qp name:Str}{params:Arguments}{scope:Scope}{dV kV Ri pm QR ct oc:Value}{av od:Option Addr}{Rl:Array (Option Value)}{i i1 kn:Nat}{n:Int}{x x1:Str}{p1 p2 p3 p4 p5 p6 p7 p8:Pos}{ss:List PS}{Qv:fh}
 (R7:W.K.lookup Ry=some ⟨oc,od,.func (fnOf name Qp params (.Assign [.Name x1 p1] (.Call (.Name "sum" p2) [.Subscript (.Name x p3) (.Slice none (some (.Constant (.int n) kn p4)) none p5) p6] [] p7) p8::Qv) scope dV kV Ri pm av QR ct),Rl⟩) (hB:Ry<eM) (TT:p.fns Ry=some fn)
 (hfb:fn.body=.j (.l i1) (.un .sum (.O (.q i) (.i .none) (.i (.int n))))::ss) (hck:∀hk:scope.kind=.function,((LW TC hk ss Qv).ok&&(x6 scope.names x .local&&x6 scope.names x1 .local&&x6 scope.names "sum" .globalImplicit&&LK t "sum" && !sEq x Kt))=true)
 (hx:W.tb[i]? = some x) (hx1:W.tb[i1]? = some x1) {s₁:Shared} (T:Top W.p W.loose W.mean W.mg W.mb s₁.heap) (KX:W.K.In s₁.heap) {fa:Addr}{cd:Value}{h₁:Heap}{nm:Str}{g:Array GenState}{dr:Drawn}{tk:Nat}{os:OsState}{cells:bf}
 (F:PyProof.Rows.Fr s₁.heap s₁.heap.objs.size h₁ (bindL (envOfC nm scope s₁.heap.objs.size fa cd).kindOf [(x,Value.ref sp)] λJ=>none)) (N0:News s₁.heap s₁.heap.objs.size h₁ cells)
 (X0:CellsAre (bindC (envOfC nm scope s₁.heap.objs.size fa cd).kindOf [(x,Value.ref sp)] λJ=>none) (cellsFrom (s₁.heap.objs.size+1) scope.names []) cells) (hd:d<=100)
 (he:∃L' σ',PT (jk p Qj (hQ p Qj d)) fn.body 0 [(i,.u sp)] []=some (.ret (.bool true),L',σ')) {Q:Flow->Shared->Prop}{E:bw}
 (H:∀h' t',(∀b o,s₁.heap.get? b=some o->h'.get? b=some o)->Q (.ret (.bool true)) ⟨h',g,dr,t',os⟩):
 wpAny (model W.prog W.w) (callerA.deeper (envOfC nm scope s₁.heap.objs.size fa cd)) (execs (.Assign [.Name x1 p1] (.Call (.Name "sum" p2) [.Subscript (.Name x p3) (.Slice none (some (.Constant (.int n) kn p4)) none p5) p6] [] p7) p8::Qv) (envOfC nm scope s₁.heap.objs.size fa cd)) Q E ⟨h₁,g,dr,tk,os⟩:=by
 refine a7 λkC=>?_;obtain ⟨L',σ',he⟩:=he;obtain ⟨hk,ck,_⟩:=Dw (hf _ _ hB TT) R7;rw[hfb]at he;refine kC (an (hck hk) λh0=>Pb λh1 h2 h3 h4 h5=>?_);have u:=pq .sum;let c:Fc:={ cn:=nm,cs:=scope,L:=s₁.heap.objs.size,a:=fa,ccd:=cd,h₀:=s₁.heap,A₀:=callerA,base:=s₁.heap,outer:=[],A:=callerA.deeper (envOfC nm scope s₁.heap.objs.size fa cd) }
 let z:Am:=⟨W,c,jk p Qj (hQ p Qj d),d,g,dr,os⟩
 have fo:v7 W c d:=⟨Around.frames_deeper rfl,rfl,show 1+300+1+3*d+3<=990 by exact aF (lz [_] [(3,Jl,.n 100),(1,.a (.n 990) Jv,.a (.a (.a (.a Jv (.n 300)) Jv) (.m 3 Jl)) (.n 3))] rfl hd),show 4+3+30*d+300<=9800 by exact aF (lz [_] [(30,Jl,.n 100),(1,.a (.n 9800) Jv,.a (.a (.a (.n 4) (.n 3)) (.m 30 Jl)) (.n 300))] rfl hd),KX,T,hk,ck,rfl⟩
 have S:SR W c (λz=>[(x,Value.ref sp)].reverse.lookup z) [] [] ⟨[],[],λJ J=>False,cells⟩ h₁:=by
  refine ⟨⟨s₁.heap,⟨.refl,below_caller s₁.heap,ktsDicts_nil⟩,_,λz hz=>?_,F⟩,λq hq=>N0 q ?_,?_,.nil,λJ J h=>h.elim,CellsAre.mono X0 λz hz=>?_⟩
  ·refine (jM (m:=λJ=>none) λq hq e=>?_).trans (Option.or_none ..);obtain rfl:=cP.mp hq;exact e▸gF h1
  ·simpa [PZ.flatten,PZ.zc] using hq
  ·show (((([]:List gu).flatten++([]++cells))++[]).map Prod.fst).Nodup;refine rW (bX ..) (a7 λkC=>?_);clear N0;rcases ck (s₁.heap.objs.size+1) with ⟨_,e⟩|⟨y,A,e,_⟩
   ·refine kC ?_;rw[e]at X0;clear kC;cases X0;exact .nil
   ·rw[e]at X0;obtain ⟨o,rfl,_⟩:=X0.one;exact kC (List.nodup_cons.mpr ⟨nofun,.nil⟩)
  ·have q:=ck.isCell hz;refine (jP (m:=λJ=>none) λp J J e=>?_).trans (Option.or_none ..);have e:scope.names.lookup z=some .local:=e;rw[q]at e;cases e
 refine yT (zm:=z) ⟨rfl,rfl,BX W p hso hco hi hf TS Qj d,fo⟩ ⟨_,[],[],_,h₁,1,S,.refl⟩ (hz:=HS.nil) ⟨G6 hx (.u sp),rfl,.rfl⟩ ⟨zT TC h4,u.v,u.n,gF h3,hk,u.d⟩ hx1 (gF h2) hx (gF h1) (AX h5) (cm.t h0) he λ{m' Qo h' t' f} S' le R9 fr QT=>?_;cases fr with
 |ret r=>cases r;refine a7 λkC=>?_;obtain ⟨_,G,_,_,F2⟩:=S'.F;exact kC (H h' t' λb o e=>F2.keep b o (G.T.other b o e λq=>nomatch q))
theorem Ex{P7 w tb hs o PW}{its:aO}{n}(r:cr P7 w tb hs o PW)(h:∀q∈PW,q.1=i3 PW->q.2=listOf its.toArray n):∃vs,o=.list vs/\aL (VR hs) vs its:=by
 refine a7 λkC=>?_;have ty:∀{q:Addr×Obj}{k:String},q∈PW->q.1=i3 PW->q.2.cls=.type k->k≠"list"->False:=λhm e hc Qs=>Qs (Value.type.inj (hc.symm.trans (Qg Obj.cls (h _ hm e))));induction r with
 |@list vs Qy A n' h1 h2=>refine kC ⟨vs,rfl,?_⟩;have e:=h _ (.head _) rfl;have e2:=Qg (λo:Obj=>match o.data with|.seq a _=>a.toList|_=>[]) e;clear e h kC;obtain rfl:Qy=its:=e2;exact h1
 |tuple=>exact kC ((ty (.head _) rfl rfl (by decide)).elim)
 |dict h1 h2 h3 h4=>obtain ⟨es,n',⟨q1,_⟩,_⟩:=h1;exact kC ((ty (.head _) rfl q1 (by decide)).elim)
 |inst=>exact kC (nomatch (Qg Obj.cls (h _ (.head _) rfl)))
 |meth=>exact kC ((ty (.head _) rfl rfl (by decide)).elim)
 |rng=>exact kC ((ty (.head _) rfl rfl (by decide)).elim)
noncomputable def KI(o:O):Bool:=match o with|.list vs=>(match vs with|v::_=>uh v|[]=>false)|_=>true
theorem Cz{W:Wd}{l:List (Nat×O)}(h:po (λq:Nat×O=>mx W q.1 q.2) l)(hn:(l.all λq=>KI q.2)=true){g:Heap}(X:W.K.In g){sp n}{its:aO}{is}(hI:IntsAre its is)(e:g.get? sp=some (listOf its.toArray n)):aJ sp l=none:=by
 generalize q:aJ sp l=z1;induction z1 with
 |none=>rfl
 |some o=>
  refine a7 λkC=>?_;obtain ⟨PW,h0,h1,h2⟩:=(gN h _ (cM q)).h;obtain ⟨vs,rfl,i⟩:=Ex (its:=its) (n:=n) h2 λq hq he=>aK ((X _ _ (h1 q hq)).symm.trans (rW he (rW h0 e)));have h3:KI (.list vs)=true:=a9.mp hn _ (cM q);clear h2 h0 q e;induction i using aL.casesOn with
  |nil=>exact kC (bU h3)
  |cons r _=>
   cases hI with
   |cons=>refine kC ?_;clear kC;cases r with|int=>exact bU h3
end
theorem C9{W:Wd}{t}(T:kE W t){l:List (Nat×Fn)}(h:(l.all λp=>(Lg T p.1 p.2).ok)=true)(hb:po (λp:Nat×Fn=>fp W p.2 (dX W.K p.1) (dX W.K p.1).scope) l)(hk:(l.all λp=>!Nat.beq p.1 W.kf)=true)(f:Nat)(fn:Fn)(e:aJ f l=some fn):uw W f fn:=
 cm.t (a9.mp h _ (cM e)) (gN hb _ (cM e)) λq=>by have:=nt (a9.mp hk _ (cM e));rw[show f=W.kf from q,ME]at this;exact bU this.symm
noncomputable def tN(l lx:List (Nat×Fn))(f:Nat):Option Fn:=bif Nat.blt f eM then aJ f l else aJ (f-eM) lx
theorem Dy{l lx f}(h:f<eM):tN l lx f=aJ f l:=by unfold tN;exact rW (Nat.blt_eq.mpr h ..) rfl
theorem D5{l lx f}:tN l lx (f+eM)=aJ f lx:=by
 unfold tN;rw[show Nat.blt (f+eM) eM=false from by
  generalize q:Nat.blt (f+eM) eM=z1;induction z1 with
  |false=>rfl
  |true=>exact Uj (Nat.blt_eq.mp q) (λq0=>cV 0x111018b51 rfl q0),Nat.add_sub_cancel]
 rfl
noncomputable abbrev aY:PE:=.q 34
noncomputable abbrev cb:PE:=.i (.int 1)
noncomputable abbrev cI:PE:=.i (.int 0)
noncomputable abbrev yt:PE:=.i (.str [105,110,118,97,108,105,100,45,99,111,100,101,112,111,105,110,116])
noncomputable abbrev cf:PE:=.q 29
noncomputable abbrev GN:aC:=[61,48,49,50,51,52,53,54,55,56,57,97,98,99,100,101,102,103,104,105,106,107,108,109,110,111,112,113,114,115,116,117,118,119,120,121,122,65,66,67,68,69,70,71,72,73,74,75,76,77,78,79,80,81,82,83,84,85,86,87,88,89,90]
noncomputable abbrev dT:PE:=.i .none
noncomputable abbrev ft:PE:=.attr aY 13
noncomputable abbrev dG:PE:=.q 101
noncomputable abbrev eg:PE:=.i (.str [38])
noncomputable abbrev cX:aC:=[100,97,116,97]
noncomputable abbrev dd:aC:=[116,121,112,101]
noncomputable abbrev yw:aC:=[117,110,101,120,112,101,99,116,101,100,45,99,104,97,114,97,99,116,101,114,45,105,110,45,117,110,113,117,111,116,101,100,45,97,116,116,114,105,98,117,116,101,45,118,97,108,117,101]
noncomputable abbrev Al:aC:=[8364,129,8218,402,8222,8230,8224,8225,710,8240,352,8249,338,141,381,143,144,8216,8217,8220,8221,8226,8211,8212,732,8482,353,8250,339,157,382,376]
noncomputable abbrev di:PE:=.attr aY 12
noncomputable abbrev eh:PE:=.i (.str [])
noncomputable abbrev rm:aC:=[48,49,50,51,52,53,54,55,56,57,97,98,99,100,101,102,65,66,67,68,69,70]
noncomputable abbrev AE:aC:=[101,111,102,45,105,110,45,97,116,116,114,105,98,117,116,101,45,118,97,108,117,101,45,115,105,110,103,108,101,45,113,117,111,116,101]
noncomputable abbrev Ae:aC:=[101,111,102,45,105,110,45,97,116,116,114,105,98,117,116,101,45,118,97,108,117,101,45,100,111,117,98,108,101,45,113,117,111,116,101]
noncomputable abbrev zk:aC:=[101,113,117,97,108,115,45,105,110,45,117,110,113,117,111,116,101,100,45,97,116,116,114,105,98,117,116,101,45,118,97,108,117,101]
noncomputable abbrev cZ:PE:=.neg cb
noncomputable abbrev BV:aC:=[110,117,109,101,114,105,99,45,101,110,116,105,116,121,45,119,105,116,104,111,117,116,45,115,101,109,105,99,111,108,111,110]
noncomputable abbrev mw:PE:=.meth ft 21 []
noncomputable abbrev zt:aC:=[101,111,102,45,105,110,45,97,116,116,114,105,98,117,116,101,45,118,97,108,117,101,45,110,111,45,113,117,111,116,101,115]
noncomputable abbrev fB:PE:=.i (.str [62])
noncomputable abbrev Bv:aC:=[110,97,109,101,100,45,101,110,116,105,116,121,45,119,105,116,104,111,117,116,45,115,101,109,105,99,111,108,111,110]
noncomputable abbrev ma:PS:=.j (.a aY 38) (.attr aY 39)
noncomputable abbrev zJ:PE:=.i (.str [103,105,118,101,110])
noncomputable abbrev du:PE:=.q 18
noncomputable abbrev kh:PE:=.E .is cf (.Y .none)
noncomputable abbrev kr:PE:=.i (.str [0])
noncomputable abbrev gK:PE:=.i (.str [39])
noncomputable abbrev hJ:PE:=.i (.str [34])
noncomputable abbrev Be:aC:=[101,120,112,101,99,116,101,100,45,110,117,109,101,114,105,99,45,101,110,116,105,116,121]
noncomputable abbrev cY:PE:=.q 98
noncomputable abbrev dD:PE:=.Q []
noncomputable abbrev dq:PE:=.q 25
noncomputable abbrev mR:PE:=.sub du (.i (.str cX))
noncomputable abbrev zU:aC:=[101,120,112,101,99,116,101,100,45,110,97,109,101,100,45,101,110,116,105,116,121]
noncomputable abbrev B6:aC:=[97,116,116,114,105,98,117,116,101,115,45,105,110,45,101,110,100,45,116,97,103]
noncomputable abbrev nk:PE:=.Y (.u 22)
noncomputable abbrev de:PE:=.q 87
noncomputable abbrev y9:PE:=.ac (.E .U dq (.q 146)) (.E .am dq (.Y .none))
noncomputable abbrev dY:PE:=.q 128
noncomputable abbrev A6:aC:=[105,108,108,101,103,97,108,45,99,111,100,101,112,111,105,110,116,45,102,111,114,45,110,117,109,101,114,105,99,45,101,110,116,105,116,121]
noncomputable abbrev gJ:PE:=.attr aY 47
noncomputable abbrev iG:PE:=.attr aY 46
noncomputable abbrev eb:PE:=.q 20
noncomputable abbrev dN:PE:=.q 11
noncomputable abbrev kq:PE:=.i (.str [60])
noncomputable abbrev E8:aC:=[101,120,112,101,99,116,101,100,45,97,116,116,114,105,98,117,116,101,45,118,97,108,117,101,45,98,117,116,45,103,111,116,45]
noncomputable abbrev kg:PE:=.sub dG cI
noncomputable abbrev jl:PE:=.i (.int 2)
noncomputable abbrev FY:PS:=.j (.l 20) (.J .add (.O eb dT cZ) (.Q [(.H [(.sub (.sub eb cZ) cI),(.q 27)])]))
noncomputable abbrev dM:PE:=.q 3
noncomputable abbrev uE:PS:=.expr (.meth ft 103 [(.pop dG)])
noncomputable abbrev vJ:PE:=.J .mod (.q 31) (.i (.int 32))
noncomputable abbrev mj:PE:=.join [] dG
noncomputable abbrev u7:PS:=.j (.a aY 38) (.attr aY 136)
noncomputable abbrev lP:PE:=.i (.str [59])
noncomputable abbrev Fp:PS:=.j (.l 4) (.bm .get (.R [[],[62]] [(.i (.str [108,111,115,116])),zJ]) [cY,eh])
noncomputable abbrev eZ:PE:=.q 86
noncomputable abbrev fS:PE:=.q 16
noncomputable abbrev fv:PE:=.q 149
noncomputable abbrev nE:PE:=.i (.int 10)
noncomputable abbrev rY:PE:=.ah (.meth aY 14 [])
noncomputable abbrev wr:PE:=.sub du (.i (.str dd))
noncomputable abbrev zB:aC:=[114,105,103,104,116,45,98,114,97,99,107,101,116]
noncomputable abbrev fY:PE:=.q 92
noncomputable abbrev dH:PS:=.gc 1
noncomputable abbrev nu:PE:=.i (.str [96])
noncomputable abbrev lN:PE:=.i (.str [61])
noncomputable abbrev qH:PE:=.E .U cf nk
noncomputable abbrev qe:PS:=.j (.l 29) mw
noncomputable abbrev yJ:aC:=[115,101,108,102,67,108,111,115,105,110,103]
noncomputable abbrev E6:PE:=.ag (.E .eq (.q 127) nE) (.i (.str [38,35])) (.i (.str [38,35,88]))
noncomputable abbrev dZ:aC:=[65533]
noncomputable abbrev hM:PE:=.q 139
noncomputable abbrev yE:PS:=.j (.l 100) (.J .add eg mj)
noncomputable abbrev Gb:aC:=[45,97,102,116,101,114,45,97,116,116,114,105,98,117,116,101,45,118,97,108,117,101]
noncomputable abbrev eB:PE:=.q 9
noncomputable abbrev qQ:PE:=.E .eq cf kr
noncomputable abbrev qZ:PE:=.E .eq cf eg
noncomputable abbrev rZ:PE:=.append dG mw
noncomputable abbrev vN:PE:=.Y (.str [32,10,9,12])
noncomputable abbrev zP:PS:=.j (.a aY 38) (.attr aY 143)
noncomputable abbrev EP:PE:=.ac (.E .gt (.len (.q 8)) (.len (.q 93))) (.starts fY (.q 8))
noncomputable abbrev iz:PE:=.q 4
noncomputable abbrev iC:PE:=.q 130
noncomputable abbrev qY:PE:=.i (.str [88])
noncomputable abbrev eO:PS:=.gc 0
noncomputable abbrev fk:PE:=.q 26
noncomputable abbrev l7:PE:=.Y (.u 236)
noncomputable abbrev ui:PE:=.i (.str [98,101,103,105,110])
noncomputable abbrev lC:PE:=.sub dG cZ
noncomputable abbrev j0:PE:=.Y (.u 48)
noncomputable abbrev th:aC:=[112,97,114,97,108,108,101,108,59]
noncomputable abbrev Ad:PE:=.ac (.E .am (.q 102) dT) (.E .eq (.q 102) kg)
noncomputable abbrev t7:aC:=[99,104,97,114,97,99,116,101,114]
noncomputable abbrev pv:PE:=.E .eq iz zJ
noncomputable abbrev sP:PS:=.expr (.meth ft 103 [cf])
noncomputable abbrev uk:PE:=.i (.str [110,97,109,101])
noncomputable abbrev ym:PS:=.j (.l 98) (.O dM fS (.J .add fS cb))
noncomputable abbrev nY:PE:=.i (.str [120])
noncomputable abbrev pd:PE:=.i (.int 55296)
noncomputable abbrev f9:PE:=.q 38
noncomputable abbrev gH:PE:=.q 131
noncomputable abbrev gi:PE:=.q 110
noncomputable abbrev oS:aC:=[100,97,116,97,118,97,114,115]
noncomputable abbrev tZ:PE:=.O dG (.q 106) dT
noncomputable abbrev tB:aC:=[83,116,97,114,116,84,97,103]
noncomputable abbrev gw:PE:=.sub j0 (.i (.str [80,97,114,115,101,69,114,114,111,114]))
noncomputable abbrev rX:PE:=.sub (.sub (.attr aY 19) (.i (.str cX))) cZ
noncomputable abbrev I0:PS:=.expr (.append di (.R [dd,cX,oS] [gw,(.i (.str A6)),(.R [[99,104,97,114,65,115,73,110,116]] [fv])]))
noncomputable abbrev ko:PE:=.i (.str dZ)
noncomputable abbrev FJ:PE:=.af (.E .U (.sub dG (.q 106)) (.Y (.u 27))) (.af (.E .U (.sub dG (.q 106)) (.Y (.u 32))) (.E .eq (.sub dG (.q 106)) lN))
noncomputable abbrev vz:PS:=.expr (.append di (.R [dd,cX] [gw,yt]))
noncomputable abbrev qs:PE:=.O gi dT (.neg (.q 84))
noncomputable abbrev EZ:PE:=.ac (.E .ne eB (.attr aY 41)) (.E .eq (.E .U (.sub iG eB) (.q 79)) (.q 80))
noncomputable abbrev ut:PS:=.ai rX cb .add ko
namespace L3
noncomputable def tab46:List (Int×aC):=[(0,dZ),(13,[13]),(128,[8364]),(129,[129]),(130,[8218]),(131,[402]),(132,[8222]),(133,[8230]),(134,[8224]),(135,[8225]),(136,[710]),(137,[8240]),(138,[352]),(139,[8249]),(140,[338]),(141,[141]),(142,[381]),(143,[143]),(144,[144]),(145,[8216]),(146,[8217]),(147,[8220]),(148,[8221]),(149,[8226]),(150,[8211]),(151,[8212]),(152,[732]),(153,[8482]),(154,[353]),(155,[8250]),(156,[339]),(157,[157]),(158,[382]),(159,[376])]
noncomputable def O2:List PS:=[(.ret (.join [] (.comp (.one 25) dM (.i (.bool true)) (.ag (.ab .le .le (.i (.str [65])) dq (.i (.str [90]))) (.chr (.J .add (.ord dq) (.i (.int 32)))) dq))))]
noncomputable def Pg:List PS:=[(.j (.a aY 3) dM),
 (.j (.a aY 16) cI)]
noncomputable def PC:List PS:=[(.j (.l 56) (.O (.attr aY 3) (.attr aY 16) (.J .add (.attr aY 16) (.q 76)))),
 (.au aY 16 .add (.len (.q 56))),
 (.ret (.q 56))]
noncomputable def Pe:List PS:=[(.ret (.af (.ab .le .le cb (.q 82) (.i (.int 8))) (.af (.E .eq (.q 82) (.i (.int 11))) (.af (.ab .le .le (.i (.int 14)) (.q 82) (.i (.int 31))) (.af (.ab .le .le (.i (.int 127)) (.q 82) (.i (.int 159))) (.af (.ab .le .le (.i (.int 64976)) (.q 82) (.i (.int 65007))) (.af (.E .U (.J .mod (.q 82) (.i (.int 65536))) (.H [(.i (.int 65534)),(.i (.int 65535))])) (.ab .le .le pd (.q 82) (.i (.int 57343))))))))))]
noncomputable def PA:List PS:=[(.j (.a aY 52) (.attr aY 66)),
 (.j (.a aY 67) (.Q [cI])),
 (.j (.a aY 48) (.meth aY 68 [(.q 69)])),
 (.expr (.meth aY 70 []))]
noncomputable def M5:List PS:=[(.j (.a aY 46) eh),
 (.j (.a aY 41) cI),
 (.j (.a aY 47) cI),
 (.j (.a aY 77) dD),
 (.j (.a aY 43) cI),
 (.j (.a aY 44) cI),
 (.j (.a aY 50) dT)]
noncomputable def Ob:List PS:=[(.j (.l 13) (.new 73 [(.q 69)])),
 (.ret (.q 13))]
noncomputable def NV:List PS:=[(.j (.l 46) iG),
 (.j (.l 71) (.count3 (.q 46) [10] cI (.q 72))),
 (.j (.l 73) (.J .add (.attr aY 43) (.q 71))),
 (.j (.l 74) (.rfind3 (.q 46) [10] cI (.q 72))),
 (.ifs (.E .eq (.q 74) cZ) [(.j (.l 75) (.J .add (.attr aY 44) (.q 72)))] [(.j (.l 75) (.J .sub (.q 72) (.J .add (.q 74) cb)))]),
 (.ret (.H [(.q 73),(.q 75)]))]
noncomputable def Nq:List PS:=[(.Z [(.l 53),(.l 54)] (.meth aY 45 [gJ])),
 (.ret (.H [(.J .add (.q 53) cb),(.q 54)]))]
noncomputable def f133:List PS:=[(.ifs (.E .ge gJ (.attr aY 41)) [(.ifs rY [(.ret (.Y .none))] [])] []),
 (.j (.l 47) gJ),
 (.j (.l 21) (.sub iG (.q 47))),
 (.j (.a aY 47) (.J .add (.q 47) cb)),
 (.ret (.q 21))]
noncomputable def f141:List PS:=[(.ifs (.E .is (.q 41) dT) [(.j (.l 41) (.attr aY 42))] []),
 (.Z [(.a aY 43),(.a aY 44)] (.meth aY 45 [(.attr aY 41)])),
 (.j (.a aY 46) eh),
 (.j (.a aY 41) cI),
 (.j (.a aY 47) cI),
 (.j (.l 29) (.meth (.attr aY 48) 49 [(.q 41)])),
 (.ifs (.attr aY 50) [(.j (.l 29) (.J .add (.attr aY 50) cf)),
 (.j (.a aY 50) dT)] [(.ifs (.ah cf) [(.ret (.i (.bool false)))] [])]),
 (.ifs (.E .gt (.len cf) cb) [(.j (.l 51) (.ord (.sub cf cZ))),
 (.ifs (.af (.E .eq (.q 51) (.i (.int 13))) (.ab .le .le pd (.q 51) (.i (.int 56319)))) [(.j (.a aY 50) (.sub cf cZ)),
 (.j (.l 29) (.O cf dT cZ))] [])] []),
 (.ifs (.attr aY 52) [(.expr (.meth aY 52 [cf]))] []),
 (.j (.l 29) (.ak cf [13,10] [10])),
 (.j (.l 29) (.ak cf [13] [10])),
 (.j (.a aY 46) cf),
 (.j (.a aY 41) (.len cf)),
 (.ret (.i (.bool true)))]
noncomputable def MM:List PS:=[(.al (.one 25) cf [(.ifs (.call 84 [(.ord dq)]) [(.expr (.append (.attr aY 77) yt))] [])])]
noncomputable def f156:List PS:=[(.j (.l 78) dD),
 (.aa (.i (.bool true)) [(.j (.l 9) gJ),
 (.aa EZ [(.aj 9 .add cb)]),
 (.ifs (.E .eq eB gJ) [(.ifs (.E .ne gJ (.attr aY 41)) [.brk] [])] [(.ifs (.E .ne eB (.attr aY 41)) [(.expr (.append (.q 78) (.O iG gJ eB))),
 (.j (.a aY 47) eB),
 .brk] [])]),
 (.expr (.append (.q 78) (.O iG gJ dT))),
 (.ifs rY [.brk] [])]),
 (.j (.l 81) (.join [] (.q 78))),
 (.ae (.q 81))]
noncomputable def M9:List PS:=[(.ifs (.E .am (.q 21) (.Y .none)) [(.ifs (.E .eq gJ cI) [(.j (.a aY 46) (.J .add (.q 21) iG)),
 (.au aY 41 .add cb)] [(.au aY 47 .sub cb),
 (.az (.E .eq (.sub iG gJ) (.q 21)))])] [])]
noncomputable def N9:List PS:=[(.ifs (.E .is (.q 118) dT) [(.j (.l 118) (.len (.q 55)))] []),
 (.aa (.E .lt (.q 119) (.q 118)) [(.j (.l 120) (.J .fdiv (.J .add (.q 119) (.q 118)) jl)),
 (.ifs (.E .lt (.sub (.q 55) (.q 120)) fk) [(.j (.l 119) (.J .add (.q 120) cb))] [(.j (.l 118) (.q 120))])]),
 (.ret (.q 119))]
noncomputable def Mt:List PS:=[(.ret (.E .U fk (.attr aY 111)))]
noncomputable def M0:List PS:=[(.ifs (.E .U gi (.attr aY 111)) [(.ret (.i (.bool true)))] []),
 (.ifs (.starts gi (.attr aY 112)) [(.Z [(.l 113),(.l 114)] (.attr aY 115)),
 (.j (.l 84) (.call 178 [(.attr aY 116),gi,(.q 113),(.q 114)]))] [(.j (.l 84) (.neg dT))]),
 (.ifs (.E .eq (.q 84) (.len (.attr aY 116))) [(.ret (.i (.bool false)))] []),
 (.ret (.starts (.sub (.attr aY 116) (.q 84)) gi))]
noncomputable def M1:List PS:=[(.ifs (.ao gi aY 117) [(.ret gi)] []),
 (.al (.one 84) (.ay cb (.J .add (.len gi) cb)) [(.ifs (.ao qs aY 117) [(.ret qs)] [])]),
 (.expr gi)]
noncomputable def Od:List PS:=[(.j (.a aY 13) (.new 166 [(.q 13)])),
 (.j (.a aY 35) (.q 35)),
 (.j (.a aY 36) (.i (.bool false))),
 (.j (.a aY 37) dD),
 ma,
 (.j (.a aY 40) (.i (.bool false))),
 (.j (.a aY 19) dT)]
noncomputable def f275:List PS:=[(.j (.l 146) (.Y (.u 32))),
 (.j (.l 147) nE),
 (.ifs (.q 148) [(.j (.l 146) (.Y (.u 37))),
 (.j (.l 147) (.i (.int 16)))] []),
 (.j (.l 101) dD),
 (.j (.l 25) mw),
 (.aa y9 [(.expr (.append dG dq)),
 (.j (.l 25) mw)]),
 (.j (.l 149) (.ax mj (.q 147))),
 eO,
 (.ifs (.tab true tab46 46 fv) [(.j (.l 21) (.tab false tab46 46 fv)),
 I0,
 eO] [(.ifs (.af (.ab .le .le pd fv (.i (.int 57343))) (.E .gt fv (.i (.int 1114111)))) [(.j (.l 21) ko),
 I0,
 eO] [(.ifs (.af (.ab .le .le cb fv (.i (.int 8))) (.af (.ab .le .le (.i (.int 14)) fv (.i (.int 31))) (.af (.ab .le .le (.i (.int 127)) fv (.i (.int 159))) (.af (.ab .le .le (.i (.int 64976)) fv (.i (.int 65007))) (.E .U fv (.H [(.i (.int 11)),(.i (.int 65534)),(.i (.int 65535)),(.i (.int 131070)),(.i (.int 131071)),(.i (.int 196606)),(.i (.int 196607)),(.i (.int 262142)),(.i (.int 262143)),(.i (.int 327678)),(.i (.int 327679)),(.i (.int 393214)),(.i (.int 393215)),(.i (.int 458750)),(.i (.int 458751)),(.i (.int 524286)),(.i (.int 524287)),(.i (.int 589822)),(.i (.int 589823)),(.i (.int 655358)),(.i (.int 655359)),(.i (.int 720894)),(.i (.int 720895)),(.i (.int 786430)),(.i (.int 786431)),(.i (.int 851966)),(.i (.int 851967)),(.i (.int 917502)),(.i (.int 917503)),(.i (.int 983038)),(.i (.int 983039)),(.i (.int 1048574)),(.i (.int 1048575)),(.i (.int 1114110)),(.i (.int 1114111))])))))) [I0,
 eO] []),
 (.aA [(.j (.l 21) (.chr fv))])])]),
 (.ifs (.E .ne dq lP) [(.expr (.append di (.R [dd,cX] [gw,(.i (.str BV))]))),
 eO,
 (.expr (.meth ft 103 [dq]))] []),
 (.ae (.q 21))]
noncomputable def f283:List PS:=[(.j (.l 100) eg),
 (.j (.l 101) (.Q [mw])),
 (.ifs (.af (.E .U kg nk) (.af (.E .U kg (.H [(.Y .none),kq,eg])) Ad)) [(.expr (.meth ft 103 [kg]))] [(.ifs (.E .eq kg (.i (.str [35]))) [(.j (.l 144) (.i (.bool false))),
 (.expr rZ),
 (.ifs (.E .U lC (.H [nY,qY])) [(.j (.l 144) (.i (.bool true))),
 (.expr rZ)] []),
 (.ifs (.af (.ac (.q 144) (.E .U lC (.Y (.u 37)))) (.ac (.ah (.q 144)) (.E .U lC (.Y (.u 32))))) [(.expr (.meth ft 103 [lC])),
 (.j (.l 100) (.meth aY 145 [(.q 144)]))] [(.expr (.append di (.R [dd,cX] [gw,(.i (.str Be))]))),
 dH,
 uE,
 yE])] [(.aa (.E .am lC (.Y .none)) [(.ifs (.ah (.meth l7 104 [mj])) [.brk] []),
 (.expr rZ)]),
 (.aw 105 106 l7 107 (.join [] (.O dG dT cZ))),
 dH,
 (.ifs (.E .am (.q 105) dT) [(.ifs (.E .ne (.sub (.q 105) cZ) lP) [(.expr (.append di (.R [dd,cX] [gw,(.i (.str Bv))])))] []),
 dH,
 (.ifs (.ac (.E .ne (.sub (.q 105) cZ) lP) (.ac (.q 108) FJ)) [uE,
 yE] [(.j (.l 100) (.sub (.Y (.u 43)) (.q 105))),
 uE,
 (.aj 100 .add (.join [] tZ)),
 dH])] [(.expr (.append di (.R [dd,cX] [gw,(.i (.str zU))]))),
 dH,
 uE,
 yE])])]),
 (.ifs (.q 108) [(.ai rX cb .add (.q 100))] [(.ifs (.E .U (.q 100) nk) [(.j (.l 109) (.i (.str [83,112,97,99,101,67,104,97,114,97,99,116,101,114,115])))] [(.j (.l 109) (.i (.str [67,104,97,114,97,99,116,101,114,115])))]),
 (.expr (.append di (.R [dd,cX] [(.sub j0 (.q 109)),(.q 100)])))]),
 eO]
noncomputable def MS:List PS:=[(.expr (.ap aY 95 283 [(.q 102),(.i (.bool true))]))]
noncomputable def f297:List PS:=[(.j (.l 18) (.attr aY 19)),
 (.ifs (.E .U wr (.Y (.u 49))) [(.j (.s du uk) (.call 42 [(.sub du uk)])),
 (.ifs (.E .eq wr (.sub j0 (.i (.str tB)))) [(.j (.l 65) mR),
 (.j (.l 29) (.dictOf (.q 65))),
 (.ifs (.E .gt (.len (.q 65)) (.len cf)) [(.expr (.update cf (.rev (.q 65))))] []),
 (.j (.s du (.i (.str cX))) cf)] []),
 (.ifs (.E .eq wr (.sub j0 (.i (.str [69,110,100,84,97,103])))) [(.ifs mR [(.expr (.append di (.R [dd,cX] [gw,(.i (.str B6))]))),
 eO] []),
 (.ifs (.sub du (.i (.str yJ))) [(.expr (.append di (.R [dd,cX] [gw,(.i (.str [115,101,108,102,45,99,108,111,115,105,110,103,45,102,108,97,103,45,111,110,45,101,110,100,45,116,97,103]))]))),
 eO] [])] [])] []),
 (.expr (.append di du)),
 ma,
 eO]
noncomputable def NP:List PS:=[qe,
 (.ifs qH [(.expr (.meth ft 60 [nk,(.i (.bool true))]))] [(.ifs (.E .eq cf hJ) [(.j (.a aY 38) (.attr aY 134))] [(.ifs qZ [u7,
 sP] [(.ifs (.E .eq cf gK) [(.j (.a aY 38) (.attr aY 135))] [(.ifs (.E .eq cf fB) [(.expr (.append di (.R [dd,cX] [gw,(.i (.str [101,120,112,101,99,116,101,100,45,97,116,116,114,105,98,117,116,101,45,118,97,108,117,101,45,98,117,116,45,103,111,116,45,114,105,103,104,116,45,98,114,97,99,107,101,116]))]))),
 eO,
 (.expr (.meth aY 28 []))] [(.ifs qQ [vz,
 eO,
 ut,
 u7] [(.ifs (.E .U cf (.H [lN,kq,nu])) [(.expr (.append di (.R [dd,cX] [gw,(.i (.str zk))]))),
 eO,
 (.ai rX cb .add cf),
 u7] [(.ifs kh [(.expr (.append di (.R [dd,cX] [gw,(.i (.str [101,120,112,101,99,116,101,100,45,97,116,116,114,105,98,117,116,101,45,118,97,108,117,101,45,98,117,116,45,103,111,116,45,101,111,102]))]))),
 eO,
 ma] [(.ai rX cb .add cf),
 u7])])])])])])])]),
 (.ae (.i (.bool true)))]
noncomputable def NW:List PS:=[qe,
 (.ifs (.E .eq cf hJ) [(.j (.a aY 38) (.attr aY 137))] [(.ifs qZ [(.expr (.meth aY 142 [hJ]))] [(.ifs qQ [vz,
 ut] [(.ifs kh [(.expr (.append di (.R [dd,cX] [gw,(.i (.str Ae))]))),
 ma] [(.ai rX cb .add (.J .add cf (.meth ft 60 [(.H [hJ,eg,kr])])))])])])]),
 (.ae (.i (.bool true)))]
noncomputable def Mr:List PS:=[qe,
 (.ifs (.E .eq cf gK) [(.j (.a aY 38) (.attr aY 137))] [(.ifs qZ [(.expr (.meth aY 142 [gK]))] [(.ifs qQ [vz,
 ut] [(.ifs kh [(.expr (.append di (.R [dd,cX] [gw,(.i (.str AE))]))),
 ma] [(.ai rX cb .add (.J .add cf (.meth ft 60 [(.H [gK,eg,kr])])))])])])]),
 (.ae (.i (.bool true)))]
noncomputable def NJ:List PS:=[qe,
 (.ifs qH [zP] [(.ifs qZ [(.expr (.meth aY 142 [fB]))] [(.ifs (.E .eq cf fB) [(.expr (.meth aY 28 []))] [(.ifs (.E .U cf (.H [hJ,gK,lN,kq,nu])) [(.expr (.append di (.R [dd,cX] [gw,(.i (.str yw))]))),
 (.ai rX cb .add cf)] [(.ifs qQ [vz,
 ut] [(.ifs kh [(.expr (.append di (.R [dd,cX] [gw,(.i (.str zt))]))),
 ma] [(.ai rX cb .add (.J .add cf (.meth ft 60 [(.J .add (.H [eg,fB,hJ,gK,lN,kq,nu,kr]) nk)])))])])])])])]),
 (.ae (.i (.bool true)))]
noncomputable def MG:List PS:=[qe,
 (.ifs qH [zP] [(.ifs (.E .eq cf fB) [(.expr (.meth aY 28 []))] [(.ifs (.E .eq cf (.i (.str [47]))) [(.j (.a aY 38) (.attr aY 62))] [(.ifs kh [(.expr (.append di (.R [dd,cX] [gw,(.i (.str [117,110,101,120,112,101,99,116,101,100,45,69,79,70,45,97,102,116,101,114,45,97,116,116,114,105,98,117,116,101,45,118,97,108,117,101]))]))),
 sP,
 ma] [(.expr (.append di (.R [dd,cX] [gw,(.i (.str [117,110,101,120,112,101,99,116,101,100,45,99,104,97,114,97,99,116,101,114,45,97,102,116,101,114,45,97,116,116,114,105,98,117,116,101,45,118,97,108,117,101]))]))),
 sP,
 zP])])])]),
 (.ae (.i (.bool true)))]
noncomputable def f773:List PS:=[(.ae (.Q [(.i (.str [97])),(.i (.str [38,97,109,112,59])),(.i (.str [38,108,116])),hJ,lN,(.i (.str [38,110,111,116,105,110,59])),(.i (.str [49])),gK,(.i (.str [38,35])),(.i (.str [32])),(.i (.str [52])),kr,(.i (.str [38,110,111,116,105])),(.i (.str [38,35,120])),(.i (.str [70])),kq,lP,nu,eg,(.i (.str [38,99,111,112,121])),(.i (.str [32,34])),(.i (.str [10])),(.i (.str [38,35,49,51,59])),(.i (.str [38,35,120,56,48])),(.i (.str [233])),(.i (.str [38,35,120,68,56,48,48,59])),(.i (.str [47])),(.i (.str [38,115,117,112])),(.i (.str [13])),fB]))]
noncomputable def NQ:List PS:=[(.ae (.Q [fB,eh,(.i (.str [34,62])),(.i (.str [39,62]))]))]
noncomputable def M4:List PS:=[(.ae (.Q [(.i (.str [97])),(.i (.str [98])),(.i (.str [97])),(.i (.str [99]))]))]
noncomputable def MR:List PS:=[(.ae (.R [[34],[39],[62]] [(.i (.str Ae)),(.i (.str AE)),(.i (.str zt))]))]
noncomputable def f801:List PS:=[(.ifs (.E .lt vJ (.i (.int 30))) [(.ret (.sub (.call 773 []) vJ))] []),
 (.j (.l 127) (.ag (.E .eq vJ (.i (.int 30))) nE (.i (.int 16)))),
 (.Z [(.l 128),(.l 129)] (.H [(.J .mod (.J .fdiv (.q 31) (.i (.int 32))) (.i (.int 1300000))),eh])),
 (.aa (.af (.E .gt dY cI) (.E .eq (.q 129) eh)) [(.j (.l 129) (.J .add (.sub (.i (.str [48,49,50,51,52,53,54,55,56,57,97,98,67,68,101,70])) (.J .mod dY (.q 127))) (.q 129))),
 (.aj 128 .fdiv (.q 127))]),
 (.ret (.J .add E6 (.q 129)))]
noncomputable def No:List PS:=[(.j (.l 55) (.splitC (.q 56) [10])),
 (.ae (.H [(.len (.q 55)),(.len (.sub (.q 55) cZ))]))]
noncomputable def N6:List PS:=[(.ifs (.af (.E .U dY (.H [cI,(.i (.int 13))])) (.ab .le .le (.i (.int 128)) dY (.i (.int 159)))) [(.ret (.H [(.ag (.E .gt dY (.i (.int 13))) (.sub (.Y (.str Al)) (.J .sub dY (.i (.int 128)))) (.ag (.E .eq dY (.i (.int 13))) (.i (.str [13])) ko)),(.i (.bool true))]))] []),
 (.ifs (.af (.E .gt dY (.i (.int 1114111))) (.ab .le .le pd dY (.i (.int 57343)))) [(.ret (.H [ko,(.i (.bool true))]))] []),
 (.ret (.H [(.chr dY),(.af (.ac (.E .lt dY (.i (.int 32))) (.E .aq dY (.H [(.i (.int 9)),nE,(.i (.int 12))]))) (.af (.E .eq dY (.i (.int 127))) (.af (.ab .le .le (.i (.int 64976)) dY (.i (.int 65007))) (.E .gt (.J .mod dY (.i (.int 65536))) (.i (.int 65533))))))]))]
noncomputable def f822:List PS:=[(.ifs (.E .U (.O fY dT cb) (.H [eh,eg,kq,(.i (.str [32])),(.i (.str [10])),(.i (.str [9])),(.i (.str [12]))])) [(.ae (.H [eg,cI,dD]))] []),
 (.ifs (.E .eq (.sub fY cI) (.i (.str [35]))) [(.j (.l 86) (.ag (.E .U (.O fY cb jl) (.H [nY,qY])) jl cb)),
 (.Z [(.l 139),(.l 128)] (.H [eZ,cI])),
 (.aa (.ac (.E .lt hM (.len fY)) (.E .U (.sub fY hM) (.ag (.E .eq eZ jl) (.Y (.str rm)) (.O (.Y (.str rm)) dT nE)))) [(.j (.l 140) (.bm .index (.Y (.str rm)) [(.sub fY hM)])),
 (.j (.l 128) (.J .sub (.J .add (.J .mul dY (.ag (.E .eq eZ jl) (.i (.int 16)) nE)) (.q 140)) (.ag (.E .gt (.q 140) (.i (.int 15))) (.i (.int 6)) cI))),
 (.aj 139 .add cb)]),
 (.ifs (.E .eq hM eZ) [(.ae (.H [(.J .add eg (.O fY dT eZ)),eZ,(.Q [(.H [(.i (.str Be)),cI])])]))] []),
 (.Z [(.l 98),(.l 141)] (.call 815 [dY])),
 (.j (.l 87) (.ag (.q 141) (.Q [(.H [(.i (.str A6)),dY])]) dD)),
 (.ifs (.E .eq (.O fY hM (.J .add hM cb)) lP) [(.ae (.H [cY,(.J .add hM cb),de]))] []),
 (.ae (.H [cY,hM,(.J .add de (.Q [(.H [(.i (.str BV)),cI])]))]))] []),
 (.j (.l 93) eh),
 (.al (.one 8) (.Y (.u 43)) [(.ifs EP [(.j (.l 93) (.q 8))] [])]),
 (.ifs (.E .eq (.q 93) eh) [(.ae (.H [eg,cI,(.Q [(.H [(.i (.str zU)),cI])])]))] []),
 (.j (.l 87) (.ag (.E .eq (.sub (.q 93) cZ) lP) dD (.Q [(.H [(.i (.str Bv)),cI])]))),
 (.j (.l 124) (.O fY (.len (.q 93)) (.J .add (.len (.q 93)) cb))),
 (.ifs (.ac de (.ac (.E .ne (.q 124) eh) (.E .U (.q 124) (.Y (.str GN))))) [(.ae (.H [(.J .add eg (.q 93)),(.len (.q 93)),de]))] []),
 (.ae (.H [(.sub (.Y (.u 43)) (.q 93)),(.len (.q 93)),de]))]
noncomputable def f829:List PS:=[(.Z [(.l 130),(.l 87),(.l 20),(.l 16)] (.H [dD,dD,dD,cI])),
 dH,
 (.aa (.i (.bool true)) [(.j (.l 20) (.J .add eb (.Q [(.H [(.sub (.call 787 []) (.J .mod (.len eb) (.i (.int 4)))),eh])]))),
 dH,
 (.expr (.append iC (.H [(.i (.str [107,101,121])),fS,fS,de,eb,eh]))),
 (.aa (.ac (.E .lt fS (.len dM)) (.E .U (.sub dM fS) vN)) [(.aj 16 .add cb)]),
 ym,
 (.ifs (.af (.E .eq cY eh) (.E .eq cY fB)) [(.j (.l 87) (.J .add de (.Q [(.H [(.J .add (.i (.str E8)) (.ag cY (.i (.str zB)) (.i (.str [101,111,102])))),cI])]))),
 dH,
 (.expr (.append iC (.H [ui,fS,(.J .add fS (.len cY)),de,eb,(.ag cY zJ (.i (.str [108,111,115,116])))]))),
 (.ae iC)] []),
 (.j (.l 131) (.ag (.E .U cY (.H [hJ,gK])) cY fB)),
 (.j (.l 27) (.ag (.E .U cY (.H [hJ,gK,eg])) eh (.ag (.E .eq cY kr) ko cY))),
 (.ifs (.E .eq cY kr) [(.j (.l 87) (.J .add de (.Q [(.H [yt,cI])]))),
 dH] [(.ifs (.E .U cY (.H [lN,kq,nu])) [(.j (.l 87) (.J .add de (.Q [(.H [(.i (.str zk)),cI])]))),
 dH] [])]),
 FY,
 dH,
 (.j (.l 86) (.J .add fS (.ag (.E .eq cY eg) cI cb))),
 (.expr (.append iC (.H [ui,fS,eZ,de,eb,eh]))),
 (.j (.l 9) eZ),
 (.aa (.ac (.E .lt eB (.len dM)) (.E .aq (.sub dM eB) (.ag (.E .eq gH fB) (.J .add vN fB) gH))) [(.aj 9 .add cb)]),
 (.aa (.E .lt eZ eB) [(.j (.l 25) (.sub dM eZ)),
 (.aj 86 .add cb),
 (.ifs (.E .eq dq kr) [(.Z [(.l 25),(.l 87)] (.H [ko,(.J .add de (.Q [(.H [yt,cI])]))]))] [(.ifs (.E .eq dq eg) [(.Z [(.l 25),(.l 76),(.l 132)] (.call 822 [(.O dM eZ eB)])),
 (.Z [(.l 86),(.l 87)] (.H [(.J .add eZ (.q 76)),(.J .add de (.q 132))]))] [(.ifs (.ac (.E .eq gH fB) (.E .U dq (.H [hJ,gK,lN,kq,nu]))) [(.j (.l 87) (.J .add de (.Q [(.H [(.i (.str yw)),cI])]))),
 dH] [])])]),
 (.j (.l 27) (.J .add (.q 27) dq)),
 dH]),
 FY,
 dH,
 (.j (.l 98) (.O dM eB (.J .add eB cb))),
 Fp,
 dH,
 (.j (.l 87) (.J .add de (.ag cY dD (.Q [(.H [(.sub (.call 794 []) gH),cI])])))),
 dH,
 (.j (.l 16) (.J .add eB (.len cY))),
 (.expr (.append iC (.H [gH,eB,fS,de,eb,iz]))),
 (.ifs iz [(.ae iC)] []),
 (.ifs (.E .ne gH fB) [ym,
 (.j (.l 133) (.ac (.E .ne cY eh) (.E .U cY (.J .add vN (.i (.str [47,62])))))),
 (.ifs (.ah (.q 133)) [(.j (.l 87) (.J .add de (.Q [(.H [(.J .add (.J .add (.i (.str [117,110,101,120,112,101,99,116,101,100,45])) (.ag cY (.i (.str t7)) (.i (.str [69,79,70])))) (.i (.str Gb))),cI])]))),
 dH] []),
 Fp,
 dH,
 (.expr (.append iC (.H [(.i (.str [98,101,104,105,110,100])),fS,(.J .add fS (.ag (.q 133) cb cI)),de,eb,iz]))),
 (.ifs iz [(.ae iC)] []),
 (.aj 16 .add (.ag (.q 133) cb cI))] [])])]
noncomputable def Oe:List PS:=[(.ifs (.E .eq f9 ui) [(.ret (.meth dN 59 []))] []),
 (.ifs (.E .eq f9 hJ) [(.ret (.meth dN 134 []))] []),
 (.ifs (.E .eq f9 gK) [(.ret (.meth dN 135 []))] []),
 (.ifs (.E .eq f9 fB) [(.ret (.meth dN 136 []))] []),
 (.ifs (.E .eq f9 (.i (.str [98,101,104,105,110,100]))) [(.ret (.meth dN 137 []))] []),
 (.j (.l 125) (.sub (.attr dN 19) (.i (.str cX)))),
 (.expr (.append (.q 125) (.Q [(.sub (.call 787 []) (.J .mod (.len (.q 125)) (.i (.int 4)))),eh]))),
 (.ret (.i (.bool true)))]
noncomputable def Nl:List PS:=[(.ifs (.E .ne wr gw) [(.ret du)] []),
 (.ret (.H [mR,(.ag (.E .U (.i (.str oS)) du) (.sub (.sub du (.i (.str oS))) (.i (.str [99,104,97,114,65,115,73,110,116]))) cI)]))]
noncomputable def f848:List PS:=[(.j (.l 138) dD),
 (.al (.many [26,27]) eb [(.ifs (.E .aq fk (.comp (.many [126,63]) (.q 138) (.i (.bool true)) (.q 126))) [(.expr (.append (.q 138) (.H [fk,(.q 27)])))] []),
 eO]),
 (.ae (.q 138))]
noncomputable def f853:List PS:=[(.j (.l 121) (.sum (.O (.q 2) dT (.i (.int 12))))),
 (.j (.l 3) (.J .add (.join [] (.comp (.one 31) (.O (.q 2) dT (.i (.int 12))) (.i (.bool true)) (.call 801 [(.q 31)]))) (.sub (.call 780 []) (.J .mod (.J .fdiv (.q 121) jl) (.i (.int 4)))))),
 (.j (.l 10) (.ak (.ak dM [13,10] [10]) [13] [10])),
 eO,
 (.j (.l 122) (.E .eq (.J .mod (.q 121) jl) cb)),
 (.j (.l 11) (.new 762 [dM])),
 (.gc 7),
 (.j (.a dN 12) dD),
 (.j (.a dN 19) (.R [dd,[110,97,109,101],cX,yJ] [(.sub j0 (.ag (.q 122) (.i (.str [69,110,100,84,97,103])) (.i (.str tB)))),qY,dD,(.i (.bool false))])),
 (.expr (.meth (.attr dN 13) 14 [(.J .add jl (.J .mod (.J .fdiv (.q 121) (.i (.int 8))) (.i (.int 20))))])),
 (.al (.many [38,123,124,87,20,4]) (.call 829 [(.q 10)]) [(.aB 38 [107,101,121] 0),
 (.j (.l 22) cI),
 (.aa (.ac (.E .lt (.q 22) (.i (.int 99))) (.E .ne (.meth (.attr dN 13) 23 []) (.call 808 [(.O (.q 10) dT (.q 123))]))) [(.expr (.call 836 [dN,f9])),
 (.aj 22 .add cb)]),
 (.ifs (.af (.E .ne (.call 836 [dN,f9]) (.i (.bool true))) (.E .ne (.meth (.attr dN 13) 23 []) (.call 808 [(.O (.q 10) dT (.q 124))]))) [(.ret (.i (.bool false)))] []),
 (.j (.l 18) (.attr dN 19)),
 (.j (.l 15) (.listOf de)),
 (.ifs (.ac pv (.q 122)) [(.expr (.append (.q 15) (.H [(.i (.str B6)),cI])))] []),
 (.ifs pv [(.expr (.append (.q 15) du))] []),
 (.ifs (.ac pv (.ah (.q 122))) [(.j (.l 20) (.call 848 [eb])),
 (.j (.l 125) (.comp (.one 26) mR (.i (.bool true)) (.H [fk,(.sub mR fk)])))] [(.j (.l 125) (.comp (.many [26,27]) mR (.i (.bool true)) (.H [fk,(.q 27)])))]),
 (.ifs (.af (.E .ne (.comp (.one 126) (.attr dN 12) (.i (.bool true)) (.call 843 [(.q 126)])) (.q 15)) (.af (.E .ne (.q 125) eb) (.E .ne (.sub du uk) (.ag pv nY qY)))) [(.ret (.i (.bool false)))] []),
 dH]),
 (.ret (.i (.bool true)))]
noncomputable def Me:List (Nat×Fn):=[
 (42,⟨[3],[],O2⟩),
 (63,⟨[34,3],[],Pg⟩),
 (70,⟨[34,76],[],PC⟩),
 (84,⟨[82],[],Pe⟩),
 (98,⟨[34,69],[],PA⟩),
 (105,⟨[34],[],M5⟩),
 (112,⟨[34,69],[],Ob⟩),
 (119,⟨[34,72],[],NV⟩),
 (126,⟨[34],[],Nq⟩),
 (133,⟨[34],[],f133⟩),
 (141,⟨[34,41],[.none],f141⟩),
 (148,⟨[34,29],[],MM⟩),
 (156,⟨[34,79,80],[(.bool false)],f156⟩),
 (163,⟨[34,21],[],M9⟩),
 (178,⟨[55,26,119,118],[],N9⟩),
 (199,⟨[34,26],[],Mt⟩),
 (220,⟨[34,110],[],M0⟩),
 (261,⟨[34,13,35],[.none],Od⟩),
 (275,⟨[34,148],[],f275⟩),
 (283,⟨[34,102,108],[],f283⟩),
 (290,⟨[34,102],[],MS⟩),
 (297,⟨[34],[],f297⟩),
 (556,⟨[34],[],NP⟩),
 (563,⟨[34],[],NW⟩),
 (570,⟨[34],[],Mr⟩),
 (577,⟨[34],[],NJ⟩),
 (584,⟨[34],[],MG⟩),
 (773,⟨[],[],f773⟩),
 (780,⟨[],[],NQ⟩),
 (787,⟨[],[],M4⟩),
 (794,⟨[],[],MR⟩),
 (801,⟨[31],[],f801⟩),
 (808,⟨[56],[],No⟩),
 (815,⟨[128],[],N6⟩),
 (822,⟨[92],[],f822⟩),
 (829,⟨[3],[],f829⟩),
 (836,⟨[11,38],[],Oe⟩),
 (843,⟨[18],[],Nl⟩),
 (848,⟨[20],[],f848⟩),
 (853,⟨[2],[],f853⟩)]
noncomputable def GK:List (Nat×Fn):=[
 (227,⟨[34,110],[],M1⟩)]
noncomputable def FH:List (Nat×List (Nat×Nat)):=[
 (73,[(0,63),(49,70)]),
 (166,[(0,98),(70,105),(68,112),(45,119),(23,126),(21,133),(14,141),(66,148),(60,156),(103,163)]),
 (230,[(0,192),(117,199),(104,220),(107,227)]),
 (762,[(0,261),(145,275),(95,283),(142,290),(28,297),(39,304),(143,535),(24,542),(61,549),(59,556),(134,563),(135,570),(136,577),(137,584),(62,591)])]
noncomputable def E9:List (Nat×List (Nat×V)):=[
 (73,[]),
 (166,[(42,(.int 10240))]),
 (230,[]),
 (762,[])]
noncomputable def FN:List (Nat×aC):=[(73,[16,3]),(166,[50,46,47,41,48,77,67,44,43,52]),(230,[115,112,111,116]),(762,[19,40,36,37,35,38,13,12])]
noncomputable def Nw:List (Nat×O):=[
 (22,.tuple [(.str [9]),(.str [10]),(.str [12]),(.str [32]),(.str [13])]),
 (27,.tuple [(.str [97]),(.str [98]),(.str [99]),(.str [100]),(.str [101]),(.str [102]),(.str [103]),(.str [104]),(.str [105]),(.str [106]),(.str [107]),(.str [108]),(.str [109]),(.str [110]),(.str [111]),(.str [112]),(.str [113]),(.str [114]),(.str [115]),(.str [116]),(.str [117]),(.str [118]),(.str [119]),(.str [120]),(.str [121]),(.str [122]),(.str [65]),(.str [66]),(.str [67]),(.str [68]),(.str [69]),(.str [70]),(.str [71]),(.str [72]),(.str [73]),(.str [74]),(.str [75]),(.str [76]),(.str [77]),(.str [78]),(.str [79]),(.str [80]),(.str [81]),(.str [82]),(.str [83]),(.str [84]),(.str [85]),(.str [86]),(.str [87]),(.str [88]),(.str [89]),(.str [90])]),
 (32,.tuple [(.str [48]),(.str [49]),(.str [50]),(.str [51]),(.str [52]),(.str [53]),(.str [54]),(.str [55]),(.str [56]),(.str [57])]),
 (37,.tuple [(.str [48]),(.str [49]),(.str [50]),(.str [51]),(.str [52]),(.str [53]),(.str [54]),(.str [55]),(.str [56]),(.str [57]),(.str [97]),(.str [98]),(.str [99]),(.str [100]),(.str [101]),(.str [102]),(.str [65]),(.str [66]),(.str [67]),(.str [68]),(.str [69]),(.str [70])]),
 (43,.dict [([65,77,80],(.str [38])),([65,77,80,59],(.str [38])),([69,97,99,117,116,101],(.str [201])),([69,97,99,117,116,101,59],(.str [201])),([77,111,112,102,59],(.str [120132])),([97,99,59],(.str [8766])),([97,99,69,59],(.str [8766,819])),([97,99,117,116,101],(.str [180])),([97,99,117,116,101,59],(.str [180])),([97,109,112],(.str [38])),([97,109,112,59],(.str [38])),([97,110,103,59],(.str [8736])),([97,110,103,108,101,59],(.str [8736])),([98,110,101,59],(.str [61,8421])),([99,111,112,121],(.str [169])),([99,111,112,121,59],(.str [169])),([101,97,99,117,116,101],(.str [233])),([101,97,99,117,116,101,59],(.str [233])),([102,114,97,99,49,50],(.str [189])),([102,114,97,99,49,50,59],(.str [189])),([103,116],(.str [62])),([103,116,59],(.str [62])),([108,116],(.str [60])),([108,116,59],(.str [60])),([110,98,115,112],(.str [160])),([110,98,115,112,59],(.str [160])),([110,111,116],(.str [172])),([110,111,116,59],(.str [172])),([110,111,116,105,110,59],(.str [8713])),([110,111,116,110,105,59],(.str [8716])),([112,97,114,97],(.str [182])),([112,97,114,97,59],(.str [182])),(th,(.str [8741])),([113,117,111,116],(.str [34])),([113,117,111,116,59],(.str [34])),([115,117,112,49],(.str [185])),([115,117,112,49,59],(.str [185])),([115,117,112,50],(.str [178])),([115,117,112,50,59],(.str [178])),([115,117,112,59],(.str [8835])),([116,105,109,101,115],(.str [215])),([116,105,109,101,115,59],(.str [215])),([116,105,109,101,115,98,59],(.str [8864]))]),
 (48,.dict [([68,111,99,116,121,112,101],(.int 0)),([67,104,97,114,97,99,116,101,114,115],(.int 1)),([83,112,97,99,101,67,104,97,114,97,99,116,101,114,115],(.int 2)),(tB,(.int 3)),([69,110,100,84,97,103],(.int 4)),([69,109,112,116,121,84,97,103],(.int 5)),([67,111,109,109,101,110,116],(.int 6)),([80,97,114,115,101,69,114,114,111,114],(.int 7))]),
 (49,.tuple [(.int 3),(.int 4),(.int 5)]),
 (243,.list [(.str [65,77,80]),(.str [65,77,80,59]),(.str [69,97,99,117,116,101]),(.str [69,97,99,117,116,101,59]),(.str [77,111,112,102,59]),(.str [97,99,59]),(.str [97,99,69,59]),(.str [97,99,117,116,101]),(.str [97,99,117,116,101,59]),(.str [97,109,112]),(.str [97,109,112,59]),(.str [97,110,103,59]),(.str [97,110,103,108,101,59]),(.str [98,110,101,59]),(.str [99,111,112,121]),(.str [99,111,112,121,59]),(.str [101,97,99,117,116,101]),(.str [101,97,99,117,116,101,59]),(.str [102,114,97,99,49,50]),(.str [102,114,97,99,49,50,59]),(.str [103,116]),(.str [103,116,59]),(.str [108,116]),(.str [108,116,59]),(.str [110,98,115,112]),(.str [110,98,115,112,59]),(.str [110,111,116]),(.str [110,111,116,59]),(.str [110,111,116,105,110,59]),(.str [110,111,116,110,105,59]),(.str [112,97,114,97]),(.str [112,97,114,97,59]),(.str th),(.str [113,117,111,116]),(.str [113,117,111,116,59]),(.str [115,117,112,49]),(.str [115,117,112,49,59]),(.str [115,117,112,50]),(.str [115,117,112,50,59]),(.str [115,117,112,59]),(.str [116,105,109,101,115]),(.str [116,105,109,101,115,59]),(.str [116,105,109,101,115,98,59])]),
 (246,.tuple [(.int 0),(.int 43)]),
 (236,.inst 230 [(111,(.u 43)),(116,(.u 243)),(112,(.str [])),(115,(.u 246))])]
noncomputable def pr(sx:List (Nat×O)):Pr:={ so:=λa=>match aJ a Nw with|some o=>some o|none=>aJ a sx,clsm:=se FH,clsv:=se E9,clsi:=DV FN,init:=0,fns:=tN Me GK }
noncomputable def tab:List String:=["__init__","tags","script","text","kind","title","closing","names","name","end","mended","reader","tokenQueue","stream","readChunk","due","place","count","token","currentToken","row","char","rounds","position","attributeNameState","c","key","value","emitCurrentToken","data","tape","n","k","m","self","parser","escapeFlag","lastFourChars","state","dataState","escape","chunkSize","_defaultChunkSize","prevNumLines","prevNumCols","_position","chunk","chunkOffset","dataStream","read","_bufferedCharacter","lastv","reportCharacterErrors","line","col","rows","part","leavingThisState","emitToken","beforeAttributeValueState","charsUntil","afterAttributeNameState","selfClosingStartTagState","_","word","raw","characterErrorsUCS4","newLines","openStream","source","reset","nLines","offset","positionLine","lastLinePos","positionColumn","size","errors","rv","characters","opposite","r","codepoint","numbers","i","cut","first","told","second","more","parts","signs","rest","best","stays","consumeEntity","head","tail","sign","words","output","charStack","allowedChar","unget","has_keys_with_prefix","entityName","entityLength","longest_prefix","fromAttribute","tokenType","prefix","_data","_cachestr","lo","hi","_cachepoints","_keys","__contains__","high","low","middle","turn","ending","until","behind","pairs","other","base","number","figures","steps","stop","faults","taken","attributeValueDoubleQuotedState","attributeValueSingleQuotedState","attributeValueUnQuotedState","afterAttributeValueState","kept","last","figure","odd","processEntityInAttribute","beforeAttributeNameState","hex","consumeNumberEntity","allowed","radix","isHex","charAsInt"]
noncomputable def Ry:Nat:=853
end L3
section
open Builtin.Str StrLaws
noncomputable def fJ(c:Nat):aC->bg
 |[]=>[[]]
 |x::r=>if x=c then []::fJ c r else match fJ c r with
  |[]=>[[x]]
  |p::q=>(x::p)::q
theorem xe(c:Nat)(r:aC):fJ c (c::r)=[]::fJ c r:=T6 rfl
theorem tR{c x r p q}(h:¬x=c)(e:fJ c r=p::q):fJ c (x::r)=(x::p)::q:=(T8 h).trans (rW e rfl)
theorem lY(c:Nat):∀l,fJ c l≠[]:=by
 intro l;induction l with
 |nil=>exact Uv _ _
 |cons x r ih=>
  by_cases h:x=c
  ·subst h;exact rW (xe ..) (Uv _ _)
  ·generalize e:fJ c r=z6;induction z6 with
   |nil=>exact Uj e (ih)
   |cons p q=>exact rW (tR h e ..) (Uv _ _)
theorem q7(c:Nat):∀l,c∉l->fJ c l=[l]:=by
 intro l;induction l with
 |nil=>exact λJ=>rfl
 |cons x r ih=>intro h;have h1:x≠c:=λe=>h (e▸List.mem_cons_self ..);have h2:c∉r:=λe=>h (List.mem_cons_of_mem _ e);exact tR h1 (ih h2)
theorem DN(c:Nat):∀a b,c∉a->fJ c (a++c::b)=a::fJ c b:=by
 intro a;induction a with
 |nil=>exact λb J=>xe c b
 |cons x r ih=>intro b h;have h1:x≠c:=λe=>h (e▸List.mem_cons_self ..);have h2:c∉r:=λe=>h (List.mem_cons_of_mem _ e);exact tR h1 (ih b h2)
theorem qU(c:Nat):∀P3:bq,P3≠[]->(∀p∈P3,c∉p.cps.toList)->fJ c (Str.join ⟨#[c]⟩ P3).cps.toList=P3.map kZ
 |[],h,_=>Uj rfl h
 |[x],_,h=>by show fJ c x.cps.toList=_;exact rW (q7 c _ (h x (List.mem_cons_self ..)) ..) rfl
 |x::y::r,_,h=>by
  show fJ c (x++⟨#[c]⟩++Str.join ⟨#[c]⟩ (y::r)).cps.toList=_;have ih:=qU c (y::r) (by simp) (λp hp=>h p (List.mem_cons_of_mem _ hp));have e:(x++⟨#[c]⟩++Str.join ⟨#[c]⟩ (y::r)).cps.toList=x.cps.toList++c::(Str.join ⟨#[c]⟩ (y::r)).cps.toList:=by simp[Str.cps_append]
  exact rW e (rW (DN c _ _ (h x (List.mem_cons_self ..)) ..) (rW ih rfl))
theorem B1(l:aC):kZ (aT l)=l:=by simp[aT,kZ]
theorem zK(x y:Str):Txt.split x y≠[]:=by
 unfold Txt.split;split
 ·simp
 ·split
  ·simp
  ·refine rW (partsBetween_eq ..) ?_;obtain ⟨p,r,h⟩:=partsFrom_ne x y.length 0 (occurrences x y 0 x.length (x.length+1));refine rW h ?_;simp
theorem q6(l:aC)(c:Nat):(Txt.split (aT l) (aT [c])).map kZ=fJ c l:=by have h1:=qU c (Txt.split (aT l) (aT [c])) (zK _ _) (split_free (aT l) c);refine rW h1.symm ?_;have h2:Str.join (aT [c]) (Txt.split (aT l) (aT [c]))=aT l:=join_split (aT l) (aT [c]);have h3:Str.join ⟨#[c]⟩ (Txt.split (aT l) (aT [c]))=aT l:=h2;refine rW h3 ?_;simp[aT]
noncomputable def lX(d:aC):bg->aC
 |[]=>[]
 |[x]=>x
 |x::y::r=>x++d++lX d (y::r)
theorem qD(d:Nat):∀P3:bq,(Str.join ⟨#[d]⟩ P3).cps.toList=lX [d] (P3.map kZ)
 |[]=>rfl
 |[x]=>rfl
 |x::y::r=>by show (x++⟨#[d]⟩++Str.join ⟨#[d]⟩ (y::r)).cps.toList=_;simp only[Str.cps_append,Array.toList_append,qD d (y::r)];rfl
theorem sX(d x:Nat):∀p q,lX [d] ((x::p)::q)=x::lX [d] (p::q):=by
 intro p q;induction q generalizing p with
 |nil=>exact rfl
 |cons y r ih=>exact rfl
theorem xF(d:Nat):∀q,q≠[]->lX [d] ([]::q)=d::lX [d] q:=by
 intro q;induction q with
 |nil=>exact λh=>Uj rfl h
 |cons y r ih=>exact λJ=>rfl
theorem lv(c d:Nat):∀l,lX [d] (fJ c l)=l.map λx=>if x=c then d else x
 |[]=>rfl
 |x::r=>by
  by_cases h:x=c
  ·subst h;exact rW (xe ..) (rW (xF d _ (lY x r) ..) (rW (lv x d r ..) (rW (Ul ..) (rW (T6 rfl ..) rfl))))
  ·have ih:=lv c d r;generalize hs:fJ c r=z5;induction z5 with
   |nil=>exact Uj hs (lY c r)
   |cons p q=>exact rW (tR h hs ..) (rW (sX ..) (rW hs.symm (rW ih (rW (Ul ..) (rW (T8 h ..) rfl)))))
theorem Bu(l:aC)(c d:Nat):kZ (Txt.replace (aT l) (aT [c]) (aT [d]))=l.map λx=>if x=c then d else x:=by have h:Txt.replace (aT l) (aT [c]) (aT [d])=Str.join ⟨#[d]⟩ (Txt.split (aT l) (aT [c])):=replace_one (aT l) (aT [d]) c;refine rW h ?_;show (Str.join ⟨#[d]⟩ _).cps.toList=_;exact rW (qD ..) (rW (q6 ..) (rW (lv ..) rfl))
theorem na(c hi:Nat):∀(l:aC) (m bk:Nat),l.length<=m->hi<=m+bk->(List.range' bk m).countP (λi=>decide (i+1<=hi)&&decide (l[i-bk]? = some c))=(l.take (hi-bk)).count c
 |[],m,bk,_,_=>by simp
 |x::l,0,bk,h,_=>by simp at h
 |x::l,m+1,bk,h,h2=>by
  refine rW (List.range'_succ ..) (rW (List.countP_cons ..) ?_);have ih:=na c hi l m (bk+1) (Nat.le_of_succ_le_succ h) (aH h2 (aU (Nat.add_right_comm m 1 bk)));have e:(List.range' (bk+1) m).countP (λi=>decide (i+1<=hi)&&decide ((x::l)[i-bk]? = some c))=(List.range' (bk+1) m).countP (λi=>decide (i+1<=hi)&&decide (l[i-(bk+1)]? = some c)):=by refine List.countP_congr λi Sd=>?_;have h4:i-bk=(i-(bk+1))+1:=(Nat.sub_add_cancel (Nat.sub_pos_of_lt (List.mem_range'_1.mp Sd).1)).symm;rw[h4,List.getElem?_cons_succ]
  refine rW e (rW ih ?_);by_cases hc:bk+1<=hi
  ·have h5:hi-bk=(hi-(bk+1))+1:=(Nat.sub_add_cancel (Nat.sub_pos_of_lt hc)).symm;refine rW h5 (rW (List.take_succ_cons ..) (rW (List.count_cons ..) ?_));simp[hc]
  ·have h5:hi-bk=0:=Nat.sub_eq_zero_of_le (Nat.le_of_lt_succ (Nat.not_le.mp hc));have h6:hi-(bk+1)=0:=Nat.sub_eq_zero_of_le (Nat.le_of_lt (Nat.not_le.mp hc));simp[h5,h6,hc]
theorem fM(s:Str)(c i:Nat):subAt s ⟨#[c]⟩ i=true↔s.cps.toList[i]? = some c:=by exact rW (subAt_eq ..) take1_drop
theorem Ed(s:Str)(c hi limit:Nat)(hl:hi<limit):∀(m bk:Nat) (st:Array Nat×Nat),bk+m=hi+1->st.2<=bk->st.1.size<=bk ->
 (forIn (List.range' bk m) st (occBody s ⟨#[c]⟩ hi limit)).run.fst.size=st.1.size+(List.range' bk m).countP (λi=>decide (i+1<=hi)&&decide (s.cps.toList[i]? = some c)):=by
 intro m;induction m with
 |zero=>intro bk st _ _ _;simp
 |succ m ih=>
  refine λbk st h0 h1 h2=>rW (List.range'_succ ..) (rW (List.forIn_cons ..) (rW (List.countP_cons ..) ?_));unfold occBody;by_cases hc:bk+(⟨#[c]⟩:Str).length<=hi/\subAt s ⟨#[c]⟩ bk=true
  ·refine rW (T6 ⟨⟨⟨by exact Uo (xg 0x4111111b11b13b2185121411 rfl h2 (aU h0 :) hl),h1⟩,hc.1⟩,hc.2⟩ ..) (Eq.trans (ih (bk+1) (st.fst.push bk,bk+(⟨#[c]⟩:Str).length) (ce (aF (c9 0x21b285bb21b12b11851 rfl (aU h0 :))) (aF (c9 0xb121b28b612b1185b11 rfl (aU h0.symm :)))) (by show bk+1<=bk+1;exact aF (fC 0xb1bb21 rfl )) (by simp;exact aF (cV 0x11b1101111 rfl h2))) ?_);have hx:s.cps.toList[bk]? = some c:=(fM s c bk).mp hc.2;have h4:bk+1<=hi:=hc.1;have h5:(decide (bk+1<=hi)&&decide (s.cps.toList[bk]? = some c))=true:=by simp only[hx,h4,decide_true,Bool.and_self]
   refine rW h5 ?_;simp;exact ce (aF (cV 0x1b1841b018b61 rfl )) (aF (cV 0x1b01851b18b51 rfl ))
  ·refine rW (T8 (λh=>hc ⟨h.1.2,h.2⟩) ..) (Eq.trans (ih (bk+1) (st.fst,st.snd) (ce (aF (c9 0x21b285bb21b12b11851 rfl (aU h0 :))) (aF (c9 0xb121b28b612b1185b11 rfl (aU h0.symm :)))) (by show st.2<=_;exact aF (cV 0x11bb2101111 rfl h1)) (by show st.1.size<=_;exact aF (cV 0x11bb2101111 rfl h2))) ?_);have hx:(decide (bk+1<=hi)&&decide (s.cps.toList[bk]? = some c))=false:=by
    generalize hd:(decide (bk+1<=hi)&&decide (s.cps.toList[bk]? = some c))=z4;induction z4 with
    |false=>rfl
    |true=>simp only[Us,decide_eq_true_eq]at hd;exact Uj ⟨hd.1,(fM s c bk).mpr hd.2⟩ hc
   refine rW hx ?_;simp
theorem B8(l:aC)(c hi:Nat)(hh:hi<=l.length):(occurrences (aT l) (aT [c]) 0 (min hi l.length) (l.length+1)).length=(l.take hi).count c:=by
 refine rW (Ue hh ..) (rW (occ_eq ..) ?_);have h0:(forIn (List.range' 0 (hi+1-0)) (#[],0) (occBody (aT l) (aT [c]) hi (l.length+1))).run.fst.toList.length=_:=Ed (aT l) c hi (l.length+1) (Uo (cV 0x11b2111011 rfl hh)) (hi+1-0) 0 (#[],0) (ce (aF (cV 0x17184bb21b1111 rfl (UQ _ _))) (aF (cV 0xb11718b5171184b11 rfl (Cg _ _)))) (aQ _) (aQ _);refine rW h0 ?_;have h2:(List.range' 0 (hi+1-0)).countP (λi=>decide (i+1<=hi)&&decide ((aT l).cps.toList[i]? = some c))=(List.range' 0 (hi+1-0)).countP (λi=>decide (i+1<=hi)&&decide ((l.take hi)[i-0]? = some c)):=by
  refine List.countP_congr λi J=>?_;simp only[aT,Nat.sub_zero,Us,decide_eq_true_eq];constructor<;>rintro ⟨a,b⟩<;>refine ⟨a,?_⟩
  ·refine rW (List.getElem?_take_of_lt (Uo (cV 0x11011011b21 rfl a)) ..) ?_;exact T9 b
  ·rw[List.getElem?_take_of_lt (by exact Uo (cV 0x11011011b21 rfl a))]at b;exact Uf b
 refine rW h2 (rW (na c hi (l.take hi) (hi+1-0) 0 (by simp;lia) (by lia) ..) (rW (Nat.sub_zero ..) (rW (List.take_take ..) (rW (Nat.min_self ..) ?_))));show 0+_=_;exact ce (aF (fC 0x7183b11 rfl )) (aF (fC 0x1718b41 rfl ))
def bL(c:Nat):aC->Option Nat
 |[]=>none
 |x::r=>match bL c r with
  |some i=>some (i+1)
  |none=>if x=c then some 0 else none
theorem ii(s:Str)(c hi:Nat):∀(l:aC) (m bk:Nat) (st:Option Nat),l.length<=m->(∀i,bk<=i->(i+1<=hi/\s.cps.toList[i]? = some c↔l[i-bk]? = some c)) ->
 (forIn (List.range' bk m) st (lastBody s ⟨#[c]⟩ hi)).run=match bL c l with|some i=>some (i+bk)|none=>st
 |[],0,bk,st,_,_=>rfl
 |[],m+1,bk,st,_,h=>by
  refine rW (List.range'_succ ..) (rW (List.forIn_cons ..) ?_);unfold lastBody;rw[T8]
  ·exact ii s c hi [] m (bk+1) st (by simp) (λi Sd=>by have:=h i (aF (cV 0x11b2111b11 rfl Sd));rw[List.getElem?_nil]at this ⊢;exact this)
  ·rintro ⟨a,b⟩;have:=(h bk (aQ _)).mp ⟨a,(fM s c bk).mp b⟩;simp at this
 |x::l,0,bk,st,hl,_=>by simp at hl
 |x::l,m+1,bk,st,hl,h=>by
  refine rW (List.range'_succ ..) (rW (List.forIn_cons ..) ?_);have h0:=h bk (aQ _);have hn:∀i,bk+1<=i->(i+1<=hi/\s.cps.toList[i]? = some c↔l[i-(bk+1)]? = some c):=λi Sd=>by have h1:=h i (aF (cV 0x11b2111b11 rfl Sd));have e:i-bk=(i-(bk+1))+1:=(Nat.sub_add_cancel (Nat.sub_pos_of_lt Sd)).symm;rw[e,List.getElem?_cons_succ]at h1;exact h1
  rw[Nat.sub_self,List.getElem?_cons_zero]at h0;have e:bL c (x::l)=match bL c l with|some i=>some (i+1)|none=>if x=c then some 0 else none:=rfl
  refine rW e ?_;unfold lastBody;by_cases hx:x=c
  ·have h2:bk+1<=hi/\s.cps.toList[bk]? = some c:=h0.mpr (rW hx rfl);refine rW (T6 ⟨h2.1,(fM s c bk).mpr h2.2⟩ ..) (Eq.trans (ii s c hi l m (bk+1) (some bk) (by simpa using hl) hn) ?_);generalize bL c l=z3;induction z3 with
   |none=>simp[hx]
   |some i=>simp;exact ce (aF (cV 0xb11841b28b51 rfl )) (aF (cV 0x1b284b118b51 rfl ))
  ·rw[T8]
   ·refine Eq.trans (ii s c hi l m (bk+1) st (by simpa using hl) hn) ?_;generalize bL c l=z2;induction z2 with
    |none=>simp[hx]
    |some i=>simp;exact ce (aF (cV 0x1b01851b18b51 rfl )) (aF (cV 0x1b1841b018b61 rfl ))
   ·rintro ⟨a,b⟩;have:=h0.mp ⟨a,(fM s c bk).mp b⟩;exact hx (aK this)
theorem AZ(l:aC)(c hi:Nat)(hh:hi<=l.length):lastOccurrence (aT l) (aT [c]) 0 (min hi l.length)=bL c (l.take hi):=by
 refine rW (Ue hh ..) (rW (last_eq ..) (Eq.trans (ii (aT l) c hi (l.take hi) (hi+1-0) 0 none (rW (Uh ..) (aF (c9 0x112b2172184b1101111 rfl (Nat.min_le_left _ _) (Cg _ _)))) (λi J=>?_)) ?_))
 ·simp only[aT,Nat.sub_zero];constructor
  ·rintro ⟨a,b⟩;refine rW (List.getElem?_take_of_lt (Uo (cV 0x11011011b21 rfl a)) ..) ?_;exact b
  ·intro b;by_cases h:i<hi
   ·rw[List.getElem?_take_of_lt h]at b;exact ⟨h,b⟩
   ·rw[List.getElem?_take_eq_none (by exact aF (cV 0x11b2111011 rfl (aF h :)))]at b;simp at b
 ·generalize bL c (l.take hi)=z1;induction z1<;>simp
end
section
open Builtin.Str StrLaws
noncomputable def c8:aC->aC
 |[]=>[]
 |x::r=>if x=13/\r.head? = some 10 then c8 r else x::c8 r
theorem rL:∀{a b:aC},¬(a.getLast? = some 13/\b.head? = some 10)->c8 (a++b)=c8 a++c8 b
 |[],b,_=>rfl
 |[x],b,h=>by show (if x=13/\b.head? = some 10 then c8 b else x::c8 b)=(if x=13/\_ then [] else [x])++c8 b;exact rW (T8 λq=>h ⟨Qg some q.1,q.2⟩ ..) (rW (T8 λq=>nomatch q.2 ..) rfl)
 |x::y::a,b,h=>by
  have ih:=rL (a:=y::a) (b:=b) λq=>h ⟨(List.getLast?_cons_cons ..).trans q.1,q.2⟩;show (if x=13/\some y=some 10 then c8 (y::a++b) else x::c8 (y::a++b))=(if x=13/\some y=some 10 then c8 (y::a) else x::c8 (y::a))++c8 b;by_cases q:x=13/\some y=some 10
  ·exact rW (T6 q ..) (rW (T6 q ..) (rW ih rfl))
  ·exact rW (T8 q ..) (rW (T8 q ..) (rW ih rfl))
theorem ji:∀l:aC,(c8 l).length<=l.length:=by
 intro l;induction l with
 |nil=>exact aQ _
 |cons x r ih=>
  show (if x=13/\r.head? = some 10 then c8 r else x::c8 r).length<=r.length+1;by_cases q:x=13/\r.head? = some 10
  ·exact rW (T6 q ..) (Nat.le_succ_of_le (ih))
  ·exact rW (T8 q ..) (cO (ih))
noncomputable def gY:aC->Nat->aC
 |[],_=>[]
 |x::r,bk=>if x=13/\r.head? = some 10 then bk::gY r (bk+1) else gY r (bk+1)
theorem Gm{l:aC}{bk}:subAt (aT l) (aT [13,10]) bk=true↔∃r,l.drop bk=13::10::r:=by
 refine rW (subAt_eq ..) ?_;show ((l.toArray.toList.drop bk).take 2==[13,10])=true↔_;rw[show l.toArray.toList=l from rfl,beq_iff_eq];constructor
 ·intro h
  match q:l.drop bk with
  |[]=>rw[q]at h;cases h
  |[_]=>rw[q]at h;clear q;cases h
  |x::y::r=>rw[q]at h;clear q;obtain ⟨rfl,h1⟩:=U5 h;clear h;obtain ⟨rfl,_⟩:=U5 h1;exact ⟨r,rfl⟩
 ·rintro ⟨r,h⟩;exact rW h rfl
theorem CL{l:aC}(limit:Nat)(hl:l.length<limit):∀(w:aC) (bk:Nat) (st:Array Nat×Nat),l.drop bk=w->bk<=l.length->st.1.size<=bk->(st.2<=bk\/(st.2=bk+1/\w.head? = some 10)) ->
 (forIn (List.range' bk (w.length+1)) st (occBody (aT l) (aT [13,10]) l.length limit)).run.fst.toList=st.1.toList++gY w bk:=by
 intro w;induction w with
 |nil=>refine λbk st hw hc J J=>rW (show List.range' bk (([]:aC).length+1)=[bk] from rfl ..) (rW (List.forIn_cons ..) ?_);unfold occBody;exact rW (T8 (λh=>by obtain ⟨r,e⟩:=Gm.mp h.2;rw[hw]at e;cases e) ..) ((bX _).symm)
 |cons x r ih=>
  intro bk st hw hc hs hf;have hd:l.drop (bk+1)=r:=rW (UR ..).symm (rW hw rfl);have Qf:bk<l.length:=by have:=Qg List.length hw;rw[bV,Ug]at this;exact Uo (mD 0x11011213b2101121841 rfl (pL (aF (cV 0x11b1101111 rfl hc))) (aU this.symm :))
  refine rW (show (x::r).length+1=(r.length+1)+1 from rfl ..) (rW (List.range'_succ ..) (rW (List.forIn_cons ..) ?_));unfold occBody;show _=st.1.toList++(if x=13/\r.head? = some 10 then bk::gY r (bk+1) else gY r (bk+1));by_cases q:x=13/\r.head? = some 10
  ·have Qw:st.2<=bk:=hf.elim id λh=>by have:=h.2;rw[List.head?_cons,q.1]at this;cases this
   have h2:subAt (aT l) (aT [13,10]) bk=true:=Gm.mpr (by
    clear hd hf;cases r with
    |nil=>exact bl q.2
    |cons y r'=>exact ⟨r',by exact rW hw (rW q.1 (rW (aK q.2 ..) rfl))⟩)
   have h3:bk+2<=l.length:=by
    clear hf hw;cases r with
    |nil=>exact bl q.2
    |cons y r'=>have:=Qg List.length hd;rw[bV,Ug]at this;exact aF (mD 0x271185b11213b21011b21851 rfl (pL (aF (cV 0x1b2b11011b21 rfl Qf))) (aU this.symm :))
   refine rW (T6 ⟨⟨⟨Um hs (Nat.lt_trans Qf hl),Qw⟩,h3⟩,h2⟩ ..) (rW (T6 q ..) ((ih (bk+1) (st.fst.push bk,bk+2) hd Qf (rW (Array.size_push ..) (aF (cV 0x1b2bb2101111 rfl hs))) (.inr ⟨rfl,q.2⟩)).trans ?_));exact rW (Array.toList_push ..) (rW b9 rfl)
  ·refine rW (T8 (λh=>q (by clear q hd hf;obtain ⟨r',e⟩:=Gm.mp h.2;rw[hw]at e;clear hw;cases e;exact ⟨rfl,rfl⟩)) ..) (rW (T8 q ..) (ih (bk+1) (st.fst,st.snd) hd Qf (Nat.le_succ_of_le hs) (.inl ?_)));rcases hf with h|h
   ·exact Nat.le_succ_of_le h
   ·exact aU h.1
theorem zp(l:aC):occurrences (aT l) (aT [13,10]) 0 (aT l).length ((aT l).length+1)=gY l 0:=by have hl:(aT l).length=l.length:=rfl;exact rW (occ_eq ..) (rW hl (CL (l.length+1) (Ur _) l 0 (#[],0) rfl (bu _) (aQ _) (.inl (aQ _))))
theorem wh(l:aC)(i j:Nat):(strSub (aT l) i j).cps.toList=(l.drop i).take (j-i):=by unfold strSub;simp[aT]
theorem iM{l:aC}:∀(w:aC) (a bk:Nat),l.drop bk=w->a<=bk->bk<=l.length->(Str.join ⟨#[10]⟩ (partsFrom (aT l) 2 a (gY w bk))).cps.toList=(l.drop a).take (bk-a)++c8 w
 |[],a,bk,hw,ha,hc=>by show (strSub (aT l) a (aT l).length).cps.toList=_;have SS:bk=l.length:=ce hc (List.drop_eq_nil_iff.mp hw);rw[wh,SS];exact (bX _).symm
 |x::r,a,bk,hw,ha,hc=>by
  have hd:l.drop (bk+1)=r:=rW (UR ..).symm (rW hw rfl);have Qf:bk<l.length:=by have:=Qg List.length hw;rw[bV,Ug]at this;exact Uo (mD 0x1111213b211121831 rfl (pL (aF (cV 0x11b2111011 rfl hc))) (aU this.symm :))
  show (Str.join ⟨#[10]⟩ (partsFrom (aT l) 2 a (if x=13/\r.head? = some 10 then bk::gY r (bk+1) else gY r (bk+1)))).cps.toList=_++(if x=13/\r.head? = some 10 then c8 r else x::c8 r);have hnx:(l.drop a).take (bk+1-a)=(l.drop a).take (bk-a)++[x]:=by
   have h1:(l.drop a)[bk-a]? = some x:=by refine rW (List.getElem?_drop ..) (rW (Nat.add_sub_cancel' ha ..) ?_);have:=Qg (λq=>q[0]?) hw;simpa using this
   rw[show bk+1-a=(bk-a)+1 by exact ce (aF (mD 0x213bb3131831111b221831 rfl (pL (aF (cV 0x11bb3111011 rfl ha))) (Cg _ _))) (aF (mD 0x3b22b2121831b211131831 rfl (pL (aF (cV 0x11b2111011 rfl ha))) (Cg _ _))),List.take_add_one,h1];rfl
  by_cases q:x=13/\r.head? = some 10
  ·refine rW (T6 q ..) (rW (T6 q ..) ?_);clear hw;cases r with
   |nil=>exact bl q.2
   |cons y r=>
    obtain rfl:y=10:=aK q.2;have hd2:l.drop (bk+2)=r:=(UR (l:=l) (i:=1) (j:=bk+1)).symm.trans (Qg (List.drop 1) hd);have Q7:bk+2<=l.length:=by have:=Qg List.length hd;rw[bV,Ug]at this;exact aF (mD 0x2701851b21213b2111b21841 rfl (pL (aF (cV 0xb11b2111b11 rfl Qf))) (aU this.symm :))
    have e1:gY (10::r) (bk+1)=gY r (bk+2):=T8 (λh=>by cases h.1);have e2:c8 (10::r)=10::c8 r:=T8 (λh=>by cases h.1);obtain ⟨p,t,hp⟩:=partsFrom_ne (aT l) 2 (bk+2) (gY r (bk+2));have ih:=iM r (bk+2) (bk+2) hd2 (aQ _) Q7;refine rW e1 (rW e2 ?_);show (Str.join ⟨#[10]⟩ (strSub (aT l) a bk::partsFrom (aT l) 2 (bk+2) (gY r (bk+2)))).cps.toList=_;rw[Nat.sub_self,List.take_zero,List.nil_append]at ih;rw[hp]at ih ⊢;show (strSub (aT l) a bk++⟨#[10]⟩++Str.join ⟨#[10]⟩ (p::t)).cps.toList=_;exact rW (Str.cps_append ..) (rW (Str.cps_append ..) (rW (Array.toList_append ..) (rW (Array.toList_append ..) (rW ih (rW (wh ..) (rW b9 rfl))))))
  ·exact rW (T8 q ..) (rW (T8 q ..) ((iM r a (bk+1) hd (Nat.le_succ_of_le ha) Qf).trans (rW hnx (rW b9 rfl))))
theorem AH:∀(w:aC) (bk:Nat),gY w bk=[]->c8 w=w:=by
 intro w;induction w with
 |nil=>exact λJ J=>rfl
 |cons x r ih=>
  intro bk h;have h:(if x=13/\r.head? = some 10 then bk::gY r (bk+1) else gY r (bk+1))=[]:=h;show (if x=13/\r.head? = some 10 then c8 r else x::c8 r)=_;by_cases q:x=13/\r.head? = some 10
  ·rw[T6 q]at h;cases h
  ·rw[T8 q]at h ⊢;exact rW (ih _ h ..) rfl
theorem xG(l:aC):kZ (Txt.replace (aT l) (aT [13,10]) (aT [10]))=c8 l:=by
 unfold Txt.replace;refine rW (zp ..) ?_;cases h:gY l 0 with
 |nil=>exact rW (AH l 0 h ..) (B1 l)
 |cons i t=>exact (Qg kZ (T8 (by simp[aT,Str.length]))).trans (rW (glued_eq_join ..) (rW h.symm (rW (partsBetween_eq ..) ((iM l 0 0 rfl (aQ _) (bu _)).trans rfl))))
end
section
inductive W(x:Option (Fl×aR×St))(K:Fl->aR->St->Prop):Prop
 |mk {f:Fl}{L:aR}{σ:St}:x=some (f,L,σ)->K f L σ->W x K
inductive G{α:Type}(x:Option (α×St))(K:α->St->Prop):Prop
 |mk {v:α}{σ:St}:x=some (v,σ)->K v σ->G x K
theorem W.eq{x y K}(e:x=y)(h:W y K):W x K:=e▸h
theorem G.eq{α:Type}{x y:Option (α×St)}{K:α->St->Prop}(e:x=y)(h:G y K):G x K:=e▸h
theorem W.mono{x}{K Q:Fl->aR->St->Prop}(h:W x K)(k:∀f L σ,K f L σ->Q f L σ):W x Q:=by induction h with|mk e h=>exact .mk e (k _ _ _ h)
theorem G.mono{α:Type}{x}{K Q:α->St->Prop}(h:G x K)(k:∀v σ,K v σ->Q v σ):G x Q:=by induction h with|mk e h=>exact .mk e (k _ _ h)
theorem G.bd{α β:Type}{x:Option (α×St)}{f:α×St->Option (β×St)}{K}(h:G x λv σ=>G (f (v,σ)) K):G (x.bind f) K:=by induction h with|mk e h=>subst e;exact h
theorem W.bd{α:Type}{x:Option (α×St)}{f:α×St->Option (Fl×aR×St)}{K}(h:G x λv σ=>W (f (v,σ)) K):W (x.bind f) K:=by induction h with|mk e h=>subst e;exact h
noncomputable def sq(c:Cx)(r:List PS)(z:Nat)(K:Fl->aR->St->Prop)(f:Fl)(L:aR)(σ:St):Prop:=match f with
 |.next=>W (PT c r z L σ) K
 |f=>K f L σ
theorem W.bs{x:Option (Fl×aR×St)}{c r z K}(h:W x (sq c r z K)):W (x.bind λ(f,L1,σ1)=>match f with|.next=>PT c r z L1 σ1|f=>some (f,L1,σ1)) K:=by
 induction h with
 |@mk f L σ e h=>
  subst e;induction f with
  |next=>exact h
  |_=>exact .mk rfl h
section
variable {c:Cx}{L L1:aR}{σ σ1 σ2:St}{z i:Nat}{r b o:List PS}{e t:PE}{v w:V}{K:Fl->aR->St->Prop}{s:PS}
theorem nW(k:K .next L σ):W (PT c [] z L σ) K:=.mk rfl k
theorem sW(h:ms c s z L σ=some (.next,L1,σ1))(k:W (PT c r z L1 σ1) K):W (PT c (s::r) z L σ) K:=.bs (h▸.mk rfl k)
theorem aW(h:aM c e L σ=some (v,σ1))(k:W (PT c r z (aX i v L) σ1) K):W (PT c (.j (.l i) e::r) z L σ) K:=sW (dm.trans (h▸rfl)) k
theorem aV(h:aM c e L σ=some (v,σ))(k:W (PT c r z (aX i v L) σ) K):W (PT c (.j (.l i) e::r) z L σ) K:=aW h k
theorem aG(g:G (aM c e L σ) λv σ1=>W (PT c r z (aX i v L) σ1) K):W (PT c (.j (.l i) e::r) z L σ) K:=by induction g with|mk e k=>exact aW e k
theorem JU{t}(h:aM c e L σ=some (v,σ1))(h2:mN c t v L σ1=some (L1,σ2))(k:W (PT c r z L1 σ2) K):W (PT c (.j t e::r) z L σ) K:=sW (dm.trans (by refine rW h (rW aS ?_);show Option.map _ (mN c t v L σ1)=_;exact rW h2 rfl)) k
theorem eW(h:aM c e L σ=some (v,σ1))(k:W (PT c r z L σ1) K):W (PT c (.expr e::r) z L σ) K:=sW (lZ.trans (h▸rfl)) k
theorem eG(g:G (aM c e L σ) λJ σ1=>W (PT c r z L σ1) K):W (PT c (.expr e::r) z L σ) K:=by induction g with|mk e k=>exact eW e k
theorem iT(h:bR c t L σ=some (true,σ1))(k:W (PT c b z L σ1) (sq c r z K)):W (PT c (.ifs t b o::r) z L σ) K:=.bs (.eq (jp.trans (rW h rfl)) k)
theorem iF(h:bR c t L σ=some (false,σ1))(k:W (PT c o z L σ1) (sq c r z K)):W (PT c (.ifs t b o::r) z L σ) K:=.bs (.eq (jp.trans (rW h rfl)) k)
theorem iN(h:bR c t L σ=some (false,σ1))(k:W (PT c r z L σ1) K):W (PT c (.ifs t b []::r) z L σ) K:=iF h (nW k)
theorem iW{x}(h:bR c t L σ=some (x,σ1))(k1:x=true->W (PT c b z L σ1) (sq c r z K))(k2:x=false->W (PT c o z L σ1) (sq c r z K)):W (PT c (.ifs t b o::r) z L σ) K:=by
 induction x with
 |true=>exact iT h (k1 rfl)
 |false=>exact iF h (k2 rfl)
theorem iB{x}(h:bR c t L σ=some (x,σ))(k1:x=true->W (PT c b z L σ) (sq c r z K))(k2:x=false->W (PT c o z L σ) (sq c r z K)):W (PT c (.ifs t b o::r) z L σ) K:=iW h k1 k2
theorem one:PT c [s] z L σ=ms c s z L σ:=cR.trans (by
 generalize ms c s z L σ=z3;induction z3 with
 |none=>rfl
 |some p=>obtain ⟨f,_⟩:=p;induction f<;>rfl)
theorem jT(h:bR c t L σ=some (true,σ1))(k:W (PT c b z L σ1) K):W (PT c [.ifs t b o] z L σ) K:=.eq (one.trans (jp.trans (rW h rfl))) k
theorem jF(h:bR c t L σ=some (false,σ1))(k:W (PT c o z L σ1) K):W (PT c [.ifs t b o] z L σ) K:=.eq (one.trans (jp.trans (rW h rfl))) k
theorem jB{x}(h:bR c t L σ=some (x,σ))(k1:x=true->W (PT c b z L σ) K)(k2:x=false->W (PT c o z L σ) K):W (PT c [.ifs t b o] z L σ) K:=by
 induction x with
 |true=>exact jT h (k1 rfl)
 |false=>exact jF h (k2 rfl)
theorem jD(h:aM c e L σ=some (v,σ1))(k:K (.ret v) L σ1):W (PT c (.ret e::r) z L σ) K:=.mk (cR.trans (uX▸h▸rfl)) k
theorem rG(g:G (aM c e L σ) λv σ1=>K (.ret v) L σ1):W (PT c (.ret e::r) z L σ) K:=by induction g with|mk e k=>exact jD e k
theorem Cb(h:aM c e L σ=some (v,σ1))(hr:rv σ1 z v=w)(hg:iY σ1 z=σ2)(k:K (.ret w) (gQ σ1 z L) σ2):W (PT c (.ae e::r) z L σ) K:=.mk (cR.trans (rC▸h▸rfl)) (hr▸hg▸k)
theorem pJ{k}(hg:iY σ (z+k)=σ1)(h:W (PT c r z (gQ σ (z+k) L) σ1) K):W (PT c (.gc k::r) z L σ) K:=sW (s:=.gc k) rfl (hg▸h)
theorem x5(h:W (dR (λL s=>bR c t L s) (λL s=>PT c b z L s) c.fuel L σ) (sq c r z K)):W (PT c (.aa t b::r) z L σ) K:=.bs h
theorem Kb{it f xs}(h1:aM c it L σ=some (v,σ1))(h2:dw c σ1 v=some xs)(h:W (gv (λv L s=>cU c s f v L) (λs=>cT c σ1 s v) (λL s=>PT c b σ1.length L s) xs L σ1) (sq c r z K)):W (PT c (.al f it b::r) z L σ) K:=.bs (by have q:ms c (.al f it b) z L σ=gv (λv L s=>cU c s f v L) (λs=>cT c σ1 s v) (λL s=>PT c b σ1.length L s) xs L σ1:=qu.trans (rW h1 (Qg (Option.bind · _) h2));exact rW q h)
theorem Py(h:bR c e L σ=some (true,σ1))(k:W (PT c r z L σ1) K):W (PT c (.az e::r) z L σ) K:=sW (show ((bR c e L σ).bind _)=_ by exact rW h rfl) k
theorem tW{ts vs}(h1:aM c e L σ=some (v,σ1))(h2:d5 c σ1 v=some vs)(h3:mh c ts vs L σ1=some (L1,σ2))(k:W (PT c r z L1 σ2) K):W (PT c (.Z ts e::r) z L σ) K:=sW (ib.trans (by refine rW h1 (rW aS ?_);show Option.bind (d5 c σ1 v) _=_;refine rW h2 (rW aS ?_);show Option.map _ (mh c ts vs L σ1)=_;exact rW h3 rfl)) k
theorem bW(k:K .brk L σ):W (PT c (.brk::r) z L σ) K:=.mk rfl k
theorem Nr{i j m o e}(h1:aM c o L σ=some (w,σ1))(g:G (qA c w m σ1 (aM c e L)) λv σ2=>match v with|.none=>W (PT c r z (aX i .none L) σ2) K|.str s=>W (PT c r z (aX j (.int s.length) (aX i (.str s) L)) σ2) K|_=>False):W (PT c (.aw i j o m e::r) z L σ) K:=by
 induction g with
 |@mk v σ2 e g=>
  have q:=qd (c:=c) (i:=i) (j:=j) (z:=z) (L:=L) (σ:=σ) (o:=o) (m:=m) (e:=‹PE›);rw[h1,UB]at q;have q:=q.trans (Qg (λx=>Option.bind x _) e);clear e;induction v using V.casesOn with
  |none=>exact sW q g
  |str s=>exact sW q g
  |_=>exact g.elim
end
section
variable {Qx:aR->St->Option (Bool×St)}{Qa:aR->St->Option (Fl×aR×St)}{n:Nat}{L:aR}{σ σ1:St}{K:Fl->aR->St->Prop}
noncomputable def Lp(K:Fl->aR->St->Prop)(I:aR->St->Prop):Fl->aR->St->Prop
 |.brk,L,σ=>K .next L σ
 |.ret v,L,σ=>K (.ret v) L σ
 |_,L,σ=>I L σ
theorem Jw(h:Qx L σ=some (false,σ1))(k:K .next L σ1):W (dR Qx Qa (n+1) L σ) K:=.mk (ia.trans (rW h rfl)) k
theorem MK(h:Qx L σ=some (true,σ1))(k:W (Qa L σ1) (Lp K λL s=>W (dR Qx Qa n L s) K)):W (dR Qx Qa (n+1) L σ) K:=by
 refine rW (ia ..) (rW h ?_);induction k with
 |@mk f L2 σ2 e k=>
  show W ((Qa L σ1).bind _) K;refine rW e ?_;clear e;induction f with
  |brk=>exact .mk rfl k
  |ret v=>exact .mk rfl k
  |_=>exact k
theorem lW(I:Nat->aR->St->Prop)(hs:∀{n L σ},I n L σ->G (Qx L σ) λx σ1=>match x with|false=>K .next L σ1|true=>W (Qa L σ1) (Lp K λL2 σ2=>∃m,m<n/\I m L2 σ2)):
 ∀{k n:Nat}{L:aR}{σ:St},n<k->I n L σ->W (dR Qx Qa k L σ) K
 |0,n,L,σ,hk,_=>Uj hk (Nat.not_lt_zero _)
 |k+1,n,L,σ,hk,h=>by
  generalize hs h=z2;induction z2 with
  |@mk x σ1 e h1=>induction x with
   |false=>exact Jw e h1
   |true=>exact MK e (h1.mono λf L σ h=>match f,h with
    |.brk,h=>h
    |.ret v,h=>h
    |.next,⟨m,hm,h⟩=>lW I hs (Uk hm (Nat.le_of_lt_succ hk)) h
    |.cont,⟨m,hm,h⟩=>lW I hs (Uk hm (Nat.le_of_lt_succ hk)) h)
variable {bind:V->aR->St->Option aR}{PX:St->Bool}{L1:aR}{v:V}{vs:List V}
theorem E2(hs:PX σ=true)(k:K .next L σ):W (gv bind PX Qa [] L σ) K:=.mk (rP.trans (T6 hs)) k
theorem J3(hs:PX σ=true)(hb:bind v L σ=some L1)(k:W (Qa L1 σ) (Lp K λL s=>W (gv bind PX Qa vs L s) K)):W (gv bind PX Qa (v::vs) L σ) K:=by
 refine rW (mW ..) (rW (T6 hs ..) (rW hb ?_));induction k with
 |@mk f L2 σ2 e k=>
  show W ((Qa L1 σ).bind _) K;refine rW e ?_;clear e;induction f with
  |brk=>exact .mk rfl k
  |ret v=>exact .mk rfl k
  |_=>exact k
end
noncomputable def xS:Fl->V|.ret v=>v|_=>.none
section
variable {c:Cx}{L L1:aR}{σ σ1 σ2:St}{l r e:PE}{a b v w:V}{x y:Bool}{i:Nat}{K:V->St->Prop}
theorem EI{f es}:bR c (.call f es) L σ=(aM c (.call f es) L σ).bind λ(v,σ1)=>(b7 c σ1 v).map λb=>(b,σ1):=rfl
theorem og{o f es}:bR c (.meth o f es) L σ=(aM c (.meth o f es) L σ).bind λ(v,σ1)=>(b7 c σ1 v).map λb=>(b,σ1):=rfl
theorem lO{op}(h1:aM c l L σ=some (a,σ1))(h2:aM c r L σ1=some (b,σ2))(h3:gV c σ2 op a b=some x):aM c (.E op l r) L σ=some (.bool x,σ2):=by refine rW (ve ..) (rW h1 (rW aS ?_));show (aM c r L σ1).bind _=_;exact rW h2 (rW aS (Qg (Option.map _) h3))
theorem bi{op}(h1:aM c l L σ=some (a,σ1))(h2:aM c r L σ1=some (b,σ2))(h3:gV c σ2 op a b=some x):bR c (.E op l r) L σ=some (x,σ2):=by exact rW (wg ..) (rW (lO h1 h2 h3 ..) rfl)
theorem i'(h1:bR c l L σ=some (true,σ1))(h2:bR c r L σ1=some (x,σ2)):bR c (.ac l r) L σ=some (x,σ2):=rW (jm ..) (rW h1 h2)
theorem jb(h1:bR c l L σ=some (false,σ1)):bR c (.ac l r) L σ=some (false,σ1):=rW (jm ..) (rW h1 rfl)
theorem mC(h1:bR c l L σ=some (false,σ1))(h2:bR c r L σ1=some (x,σ2)):bR c (.af l r) L σ=some (x,σ2):=rW (oI ..) (rW h1 h2)
theorem JY(h1:bR c l L σ=some (true,σ1)):bR c (.af l r) L σ=some (true,σ1):=rW (oI ..) (rW h1 rfl)
theorem sN(h1:bR c l L σ=some (x,σ))(h2:bR c r L σ=some (y,σ)):bR c (.af l r) L σ=some (x||y,σ):=by
 induction x with
 |true=>exact JY h1
 |false=>exact mC h1 h2
theorem sU(h1:bR c l L σ=some (x,σ))(h2:bR c r L σ=some (y,σ)):bR c (.ac l r) L σ=some (x&&y,σ):=by
 induction x with
 |true=>exact i' h1 h2
 |false=>exact jb h1
theorem Ak(h1:bR c l L σ=some (x,σ1)):bR c (.ah l) L σ=some (!x,σ1):=rW (rh ..) (rW h1 rfl)
theorem aN(h:aJ i L=some v):aM c (.q i) L σ=some (v,σ):=pg.trans (Qg (Option.map λv=>(v,σ)) h)
theorem mJ{a}{vs:List V}{σ'}(h1:aM c l L σ=some (.ref a,σ1))(hg0:σ1[a]? = some (.list vs))(h2:aM c r L σ1=some (v,σ2))(hg:σ2[a]? = some (.list vs))(hl:vs.length<=a8)(hs:σ2.set a (.list (vs++[v]))=σ'):aM c (.append l r) L σ=some (.none,σ'):=by
 subst hs;have h3:d6 σ1 (.ref a)=true:=by show (match σ1[a]? with|some o=>Kr o|none=>false)=true;exact rW hg0 rfl
 refine rW (uj ..) (rW h1 (rW aS ?_));show (bif d6 σ1 (.ref a) then (aM c r L σ1).bind _ else none)=_;refine rW h3 (rW (cond_true ..) (rW h2 (rW aS ?_)));show (σ2[a]?).bind _=_;exact rW hg (rW aS (T6 hl))
theorem Mx{a}{vs:List V}{Q:V->St->Prop}(h1:aM c l L σ=some (.ref a,σ1))(hg0:σ1[a]? = some (.list vs))(g:G (aM c r L σ1) λv σ2=>σ2[a]? = some (.list vs)/\vs.length<=a8/\Q .none (σ2.set a (.list (vs++[v])))):G (aM c (.append l r) L σ) Q:=by
 induction g with
 |mk e g=>exact .mk (mJ h1 hg0 e g.1 g.2.1 rfl) g.2.2
theorem Jh(h1:aM c l L σ=some (.bool x,σ))(h2:aM c r L σ=some (.bool y,σ)):aM c (.af l r) L σ=some (.bool (x||y),σ):=by
 refine rW (o8 ..) (rW h1 ?_);clear h1;induction x with
 |true=>rfl
 |false=>exact h2
theorem gP{a e x}(h:aJ i L=some (.int x)):aM c (.ab .le .le (.i (.int a)) (.q i) (.i (.int e))) L σ=some (.bool (decide (a<=x)&&decide (x<=e)),σ):=by refine rW (jV ..) (rW (aD ..) (rW aS ?_));show ((aM c (.q i) L σ).bind _)=_;refine rW (aN h ..) (rW aS ?_);show ((some (decide (a<=x))).bind _)=_;generalize decide (a<=x)=z1;induction z1<;>rfl
theorem fL{n}(h:0<n):d9 n (-1)=some (n-1):=(T8 (by decide)).trans (T6 (Int.ofNat_le.mpr h))
theorem vE{n j}(h:j<n):d9 n (j:Nat)=some j:=(T6 (UH _)).trans (T6 h)
theorem last_eq{D:aC}{x}(hL:aJ i L=some (.str D))(hx:D.getLast? = some x):aM c (.sub (.q i) cZ) L σ=some (.str [x],σ):=by refine rW (cu ..) (rW (aN hL ..) (rW aS ?_));show Option.map _ (((d9 D.length (-1)).bind _))=_;refine rW (fL (List.length_pos_iff.mpr λe=>by rw[e]at hx;exact bl hx) ..) (rW aS (rW (List.getLast?_eq_getElem? ..).symm (rW hx ?_)));rfl
theorem eJ{s j x}(h1:aM c l L σ=some (.str s,σ))(h2:aM c r L σ=some (.int (j:Nat),σ))(hx:s[j]? = some x):aM c (.sub l r) L σ=some (.str [x],σ):=by refine rW (cu ..) (rW h1 (rW aS ?_));show ((aM c r L σ).bind _)=_;refine rW h2 (rW aS ?_);show Option.map _ (((d9 s.length (j:Nat)).bind _))=_;refine rW (vE (bY.mp hx).1 ..) (rW aS (rW hx ?_));rfl
theorem dh(h:aM c e L σ=some (v,σ1)):Qc c [e] L σ=some ([v],σ1):=rW (bF ..) (rW h rfl)
theorem ed(h1:aM c l L σ=some (v,σ1))(h2:aM c r L σ1=some (w,σ2)):Qc c [l,r] L σ=some ([v,w],σ2):=by refine rW (bF ..) (rW h1 (rW aS ?_));show (Qc c [r] L σ1).bind _=_;exact rW (dh h2 ..) rfl
end
theorem bZ{β:Type}{i v}:∀{L:List (Nat×β)},aJ i (aX i v L)=some v:=(br i i v _).trans (T6 rfl)
theorem bE{β:Type}{i j:Nat}{v:β}{w:Option β}(h:i≠j){L:List (Nat×β)}(e:aJ i L=w):aJ i (aX j v L)=w:=(br j i v L).trans ((T8 h).trans e)
theorem bh{σ:St}{o}:(σ++[o])[σ.length]? = some o:=List.getElem?_concat_length
noncomputable def j'(σ:St):Prop:=∀s,σ.map (fj (rv s σ.length))=σ
theorem eE{σ τ:St}(h:j' σ):iY (σ++τ) σ.length=σ:=by show ((σ++τ).take σ.length).map _=σ;exact rW (List.take_left' rfl ..) (h _)
theorem Iz{σ:St}(h:j' σ):iY σ σ.length=σ:=by have:=eE (τ:=[]) h;rwa [bX]at this
theorem bx{vs:List V}{σ:St}(h:vs.length<=a8):bO vs σ=some (.ref σ.length,σ++[.list vs]):=T6 h
theorem wX:∀ps:bg,nL (ps.map V.str)=some ps:=by
 intro ps;induction ps with
 |nil=>exact rfl
 |cons p r ih=>exact Qg (Option.map (p::·)) (ih)
theorem mX:∀ps:bg,ml [] ps=ps.flatten
 |[]=>rfl
 |[x]=>(bX x).symm
 |x::y::r=>by show x++[]++ml [] (y::r)=_;exact rW (mX (y::r) ..) (rW (bX ..) rfl)
theorem jh{c σ v}{ps:bg}(e:b6 c σ v=some (.list (ps.map V.str)))(hl:ps.flatten.length<=a8):vf c [] v σ=some (.str ps.flatten,σ):=by show ((b6 c σ v).bind nR).bind _=_;refine rW e ?_;show (nL (ps.map V.str)).bind _=_;exact rW (wX ..) (rW aS (rW (mX ..) (rW (List.length_flatten ..).symm (rW (List.length_nil ..) (rW (Nat.mul_zero ..) (rW (Nat.add_zero ..) (T6 ⟨hl,hl⟩)))))))
end
section
open Builtin.Str StrLaws
noncomputable def FU:Nat:=2001
noncomputable def d0:Nat:=0
noncomputable def Dz(p:Nat×List Int):List (Nat×O):=[(p.1,.list (p.2.map .int))]
noncomputable def Bd(p:Nat×List Int):Prop:=(L3.pr (Dz p)).so p.1=some (.list (p.2.map V.int))/\¬∃L' σ',PT (jk (L3.pr (Dz p)) FU (hQ (L3.pr (Dz p)) FU (d0+10))) L3.f853 0 [(2,.u p.1)] []=some (.ret (.bool true),L',σ')
noncomputable def pI:Nat×List Int:=@dite _ (∃p,Bd p) (Classical.propDecidable _) (λh=>h.choose) λJ=>(0,[])
noncomputable def pX:Pr:=L3.pr (Dz pI)
theorem Kh:pX.so pI.1=some (.list (pI.2.map V.int)):=by
 unfold pX pI;by_cases h:∃p,Bd p
 ·exact rW (dif_pos h ..) h.choose_spec.1
 ·exact rW (dif_neg h ..) rfl
noncomputable abbrev rF(d:Nat):Nat->List V->St->Option (V×St):=hQ pX FU d
noncomputable abbrev cD(d:Nat):Cx:=jk pX FU (rF d)
section
variable {d f:Nat}{P5:List V}{σ σ':St}{fn:Fn}{L:aR}{v:V}
theorem J0{L' fl}(h1:pX.fns f=some fn)(h2:cz fn.params P5 fn.dflt=some L)(e:PT (cD d) fn.body σ.length L σ=some (fl,L',σ')):rF (d+1) f P5 σ=qh f fl σ':=by exact rW (show rF (d+1) f P5 σ=_ from fX ..) (rW h1 (rW aS (rW h2 (rW aS (rW e rfl)))))
theorem xP{K:V->St->Prop}(h1:pX.fns f=some fn/\Nat.blt f eM=true)(h2:cz fn.params P5 fn.dflt=some L)(k:W (PT (cD d) fn.body σ.length L σ) λfl J s=>K (xS fl) s):G (rF (d+1) f P5 σ) K:=by
 induction k with
 |@mk fl L2 σ2 e k=>refine .mk ((J0 h1.1 h2 e).trans ?_) k;unfold qh;refine rW (h1.2 ..) ?_;clear k e;induction fl<;>rfl
noncomputable def xK(Q:V->St->Prop)(fl:Fl)(s:St):Prop:=match fl with|.next=>Q .none s|.ret v=>v≠.none/\Q v s|_=>False
theorem fnX{K:V->St->Prop}(h1:pX.fns (f+eM)=some fn)(h2:cz fn.params P5 fn.dflt=some L)(k:W (PT (cD d) fn.body σ.length L σ) λfl J s=>xK K fl s):G (rF (d+1) (f+eM) P5 σ) K:=by
 induction k with
 |@mk fl _ s e k=>
  refine .eq ((J0 h1 h2 e).trans uY) ?_;clear e;induction fl with
  |next=>exact .mk rfl k
  |ret v=>induction v using V.casesOn with
   |none=>exact Uj rfl k.1
   |_=>exact .mk rfl k.2
  |_=>exact k.elim
theorem kX(h1:pX.fns f=some fn/\Nat.blt f eM=true)(h2:cz fn.params P5 fn.dflt=some L)(k:W (PT (cD d) fn.body σ.length L σ) λfl J s=>xS fl=v/\s=σ'):rF (d+1) f P5 σ=some (v,σ'):=by
 generalize xP (K:=λw s=>w=v/\s=σ') h1 h2 k=z8;induction z8 with
 |mk e k=>exact rW e (rW k.1 (rW k.2 rfl))
end
noncomputable def cW(p:Nat)(l:aC):Nat:=match bL 10 l with|none=>p+l.length|some i=>l.length-(i+1)
noncomputable def xZ(m:aC):O:=.tuple [.int ((m.count 10+1:Nat)),.int (cW 0 m:Nat)]
theorem Fx{s:aC}{hi}(h1:hi<=s.length)(h2:s.length<=a8):(0:Int)=0/\(0:Int)<=(hi:Nat)/\((hi:Nat):Int)<=a8:=⟨rfl,UH _,Int.ofNat_le.mpr (aH h1 h2)⟩
theorem wF{s:aC}{c hi σ}(h1:hi<=s.length)(h2:s.length<=a8):wy [c] (.str s) (.int 0) (.int (hi:Nat)) σ=some (.int ((s.take hi).count c:Nat),σ):=
 (T6 (Fx h1 h2)).trans (Qg (λn:Nat=>some (V.int n,σ)) (B8 s c hi h1))
theorem xo{s:aC}{c hi σ}(h1:hi<=s.length)(h2:s.length<=a8):u0 [c] (.str s) (.int 0) (.int (hi:Nat)) σ=some (.int (match bL c (s.take hi) with|some i=>(i:Int)|none=>-1),σ):=by
 refine (T6 (Fx h1 h2)).trans (rW (Int.toNat_natCast ..) (rW (AZ s c hi h1 ..) ?_))
 try (generalize bL c (s.take hi)=z7;induction z7<;>rfl)
theorem ke(c x:Nat)(r:aC):bL c (x::r)=match bL c r with|some i=>some (i+1)|none=>if x=c then some 0 else none:=rfl
theorem jH(c:Nat):∀(l:aC) (i:Nat),bL c l=some i->i<l.length
 |x::r,i,h=>by
  rw[ke]at h;generalize hr:bL c r=z6;induction z6 with
  |none=>
   rw[hr]at h;have h:(if x=c then some 0 else none)=some i:=h;by_cases q:x=c
   ·rw[T6 q]at h;obtain rfl:=aK h;exact Nat.succ_pos _
   ·rw[T8 q]at h;exact bl h
  |some j=>rw[hr]at h;obtain rfl:=aK h;exact Nat.succ_lt_succ (jH c r j hr)
theorem s4(c:Nat)(b:aC):∀a:aC,bL c (a++b)=match bL c b with|some i=>some (i+a.length)|none=>bL c a:=by
 intro a;induction a with
 |nil=>show bL c b=_;generalize bL c b=z5;induction z5<;>rfl
 |cons x a ih=>refine rW (UZ ..) (rW (ke ..) (rW ih ?_));generalize bL c b=z4;induction z4<;>rfl
theorem kQ(a b:aC):cW (cW 0 a) b=cW 0 (a++b):=by
 unfold cW;refine rW (s4 ..) ?_;generalize bL 10 b=z3;induction z3 with
 |none=>
  generalize ha:bL 10 a=z2;induction z2 with
  |none=>show 0+a.length+b.length=0+(a++b).length;exact rW aP (UA ..)
  |some i=>show a.length-(i+1)+b.length=(a++b).length-(i+1);exact rW aP ((Nat.sub_add_comm (jH 10 a i ha)).symm)
 |some i=>show b.length-(i+1)=(a++b).length-(i+a.length+1);exact rW aP (rW (UJ i a.length ..) ((Nat.add_sub_add_left ..).symm))
noncomputable def cL:Option Nat->V|none=>.none|some x=>.str [x]
noncomputable def Nc(PU:aC)(i:Int)(pl pc:Nat)(Q3:V):List (Nat×V):=[(52,.ref 2),(67,.ref 3),(48,.ref 4),(46,.str PU),(41,.int (PU.length:Nat)),(47,.int i),(77,.ref 5),(43,.int (pl:Nat)),(44,.int (pc:Nat)),(50,Q3)]
noncomputable def Oq(PU:aC)(i:Int)(pl pc:Nat)(Q3:V):O:=.inst 166 (Nc PU i pl pc Q3)
noncomputable def gB(PU:aC)(P8 pl pc:Nat)(Q3:V):O:=Oq PU (P8:Nat) pl pc Q3
noncomputable def fV(t:aC)(p:Nat):O:=.inst 73 [(3,.str t),(16,.int (p:Nat))]
noncomputable def hS(x0 sm tx:O)(PQ:List O):St:=x0::sm::.meth 148 (.ref 1)::.list [.int 0]::tx::.list []::PQ
noncomputable def inv(c:Nat):Bool:=(decide (1<=(c:Int))&&decide ((c:Int)<=8))||(((c:Int)==11)||((decide (14<=(c:Int))&&decide ((c:Int)<=31))||((decide (127<=(c:Int))&&decide ((c:Int)<=159))||((decide (64976<=(c:Int))&&decide ((c:Int)<=65007))||(((65534==Int.fmod c 65536)||((65535==Int.fmod c 65536)||false))||(decide (55296<=(c:Int))&&decide ((c:Int)<=57343)))))))
section
variable {d:Nat}{σ:St}
theorem O7{x}:rF (d+1) 84 [.int (x:Nat)] σ=some (.bool (inv x),σ):=
 have h:aJ 82 [(82,V.int (x:Nat))]=some (.int (x:Nat)):=rfl
 kX ⟨rfl,rfl⟩ rfl (jD (Jh (gP h) (Jh rfl (Jh (gP h) (Jh (gP h) (Jh (gP h) (Jh rfl (gP h))))))) ⟨rfl,rfl⟩)
theorem FM{b}{PX:St->Bool}{z}(hb:b=[.ifs (.call 84 [.ord dq]) [.expr (.append (.attr aY 77) yt)] []])(hs:PX σ=true){K:Fl->aR->St->Prop}(k:∀L',K .next L' σ):∀{D:aC} (L:aR),(∀c∈D,inv c=false)->W (gv (λv L s=>cU (cD (d+1)) s (.one 25) v L) PX (λL s=>PT (cD (d+1)) b z L s) (D.map λch=>V.str [ch]) L σ) K
 |[],_,_=>E2 hs (k _)
 |x::D,L,hi=>by
  refine J3 hs rfl ?_;have h1:aM (cD (d+1)) dq (aX 25 (.str [x]) L) σ=some (.str [x],σ):=aN bZ;have h2:bR (cD (d+1)) (.call 84 [.ord dq]) (aX 25 (.str [x]) L) σ=some (false,σ):=by refine rW (EI ..) (rW (lb ..) (rW (bF ..) (rW (uz ..) (rW h1 ?_))));show (rF (d+1) 84 [.int (x:Nat)] σ).bind _=_;rw[O7,hi x (.head _)];rfl
  subst hb;exact iN h2 (nW (FM rfl hs k _ λc hc=>hi c (.tail _ hc)))
theorem Nj{D}(hi:∀c∈D,inv c=false):rF (d+2) 148 [.ref 1,.str D] σ=some (.none,σ):=
 kX ⟨rfl,rfl⟩ rfl (Kb (v:=.str D) rfl rfl (FM rfl (bN.mpr rfl) (λJ=>nW ⟨rfl,rfl⟩) _ hi))
theorem yH{t:aC}{p n:Nat}(hp:p<=t.length):iA t (bP t.length (p:Int)) (bP t.length ((p:Int)+(n:Int)))=(t.drop p).take n:=by
 unfold iA bP;have h3:((p:Int)+(n:Int)).toNat=p+n:=rfl;rw[T8 (Int.not_lt.mpr (UH _)),T8 (show ¬(p:Int)+(n:Int)<0 from Int.not_lt.mpr (UH (p+n))),h3,Int.toNat_natCast,Ue hp];by_cases h4:p+n<=t.length
 ·exact rW (Ue h4 ..) (rW (Nat.add_sub_cancel_left ..) rfl)
 ·have h5:=Nat.le_of_lt (Nat.not_le.mp h4);exact rW (Nat.min_eq_right h5 ..) (rW (UY (aU bV) ..) (rW (UY (by rw[bV];exact Nat.sub_le_iff_le_add'.mpr h5) ..) rfl))
variable {x0 sm tx:O}{PU t:aC}{P8 pl pc n p:Nat}{Q3:V}{PQ:List O}
theorem Pp(hp:p<=t.length):rF (d+1) 70 [.ref 4,.int (n:Nat)] (hS x0 sm (fV t p) PQ)=some (.str ((t.drop p).take n),hS x0 sm (fV t (p+((t.drop p).take n).length)) PQ):=by exact rW (yH hp ..).symm (kX ⟨rfl,rfl⟩ rfl (sW rfl (sW rfl (jD rfl ⟨rfl,rfl⟩))))
theorem Ld{o}(h1:o<=PU.length)(h2:PU.length<=a8):rF (d+1) 119 [.ref 1,.int (o:Nat)] (hS x0 (gB PU P8 pl pc Q3) tx PQ) =
 some (.I (.tuple [.int ((pl+(PU.take o).count 10:Nat)),.int (cW pc (PU.take o):Nat)]),hS x0 (gB PU P8 pl pc Q3) tx PQ):=by
 refine kX ⟨rfl,rfl⟩ rfl (aW rfl (aW (wF h1 h2) (aW rfl (aW (xo h1 h2) ?_))));unfold cW;generalize hl:bL 10 (PU.take o)=z1;induction z1 with
 |none=>exact rW (Uh ..) (rW (Ue h1 ..) (iT rfl (sW rfl (nW (jD rfl ⟨rfl,rfl⟩)))))
 |some i=>have hi:=jH 10 _ i hl;rw[Uh,Ue h1]at hi ⊢;exact iF rfl (sW rfl (nW (jD rfl ⟨(rW (Int.ofNat_sub hi ..) rfl),rfl⟩)))
theorem N4(h1:P8<=PU.length)(h2:PU.length<=a8):rF (d+2) 126 [.ref 1] (hS x0 (gB PU P8 pl pc Q3) tx PQ) =
 some (.I (.tuple [.int ((pl+(PU.take P8).count 10+1:Nat)),.int (cW pc (PU.take P8):Nat)]),hS x0 (gB PU P8 pl pc Q3) tx PQ):=by
 refine kX ⟨rfl,rfl⟩ rfl (tW (Ld h1 h2) rfl rfl (jD rfl ⟨rfl,rfl⟩))
end
end
section
open Builtin.Str StrLaws
noncomputable def bc(l:aC):aC×Option Nat:=match l.getLast? with
 |none=>(l,none)
 |some x=>if 1<l.length/\(x=13\/55296<=x/\x<=56319) then (l.dropLast,some x) else (l,none)
noncomputable def DZ(x:Nat):Nat:=if x=13 then 10 else x
noncomputable def eI(l:aC):aC:=(c8 l).map DZ
theorem u8:∀{l:aC},l≠[]->c8 l≠[]
 |[],h=>Uj rfl h
 |[x],_=>by show (if x=13/\_ then [] else [x])≠[];exact rW (T8 λq=>nomatch q.2 ..) (Uv _ _)
 |x::y::r,_=>by
  show (if x=13/\_ then c8 (y::r) else x::c8 (y::r))≠[];by_cases q:x=13/\(y::r).head? = some 10
  ·exact rW (T6 q ..) (u8 (Uv _ _))
  ·exact rW (T8 q ..) (Uv _ _)
theorem o4{l}(h:l≠[]):eI l≠[]:=λe=>u8 h (List.map_eq_nil_iff.mp e)
theorem lL(l:aC):(eI l).length<=l.length:=aH (aU (UC _)) (ji l)
theorem Ap{a b:aC}(h:¬(a.getLast? = some 13/\b.head? = some 10)):eI (a++b)=eI a++eI b:=by unfold eI;exact rW (rL h ..) (rW ba rfl)
theorem lT{α:Type}(l:List α)(h:0<l.length):iA l 0 (bP l.length (-1))=l.dropLast:=by unfold iA bP;refine rW (T6 (by decide) ..) (rW (List.drop_zero ..) (rW (List.dropLast_eq_take ..) ?_));congr 1;exact rW (Int.add_comm ..) (Int.toNat_sub l.length 1)
set_option tactic.hygienic true in
theorem lQ(l:aC):(bc l).1++(bc l).2.toList=l:=by
 unfold bc;split
 ·simp
 ·rename_i x hx;split
  ·simp only[Option.toList_some];obtain ⟨Qs,e⟩:=List.getLast?_eq_some_iff.mp hx;refine rW e ?_;simp
  ·simp
theorem tU{l R:aC}(h:l.length=1->R=[]):¬((bc l).1.getLast? = some 13/\((bc l).2.toList++R).head? = some 10):=by
 unfold bc;generalize hx:l.getLast? = z3;induction z3 with
 |none=>exact λq=>by rw[List.getLast?_eq_none_iff]at hx;clear h;subst hx;exact bl q.1
 |some x=>
  by_cases hq:1<l.length/\(x=13\/55296<=x/\x<=56319)
  ·refine λq=>?_;have q2:((if 1<l.length/\(x=13\/55296<=x/\x<=56319) then (l.dropLast,some x) else (l,none):aC×Option Nat).2.toList++R).head? = some 10:=q.2;rw[T6 hq]at q2;clear q hx;obtain rfl:x=10:=aK q2;rcases hq.2 with h|⟨h,_⟩<;>exact Uj h (by decide)
  ·refine λq=>?_;have q1:(if 1<l.length/\(x=13\/55296<=x/\x<=56319) then (l.dropLast,some x) else (l,none):aC×Option Nat).1.getLast? = some 13:=q.1;have q2:((if 1<l.length/\(x=13\/55296<=x/\x<=56319) then (l.dropLast,some x) else (l,none):aC×Option Nat).2.toList++R).head? = some 10:=q.2;rw[T8 hq]at q1 q2;clear q;obtain rfl:x=13:=aK (hx.symm.trans q1);have h1:l.length=1:=by
    clear q2 q1 h;induction l with
    |nil=>exact bl hx
    |cons y r=>clear hx;induction r with
     |nil=>rfl
     |cons z r=>exact Uj ⟨Nat.succ_lt_succ (Nat.succ_pos _),.inl rfl⟩ hq
   rw[h h1]at q2;exact bl q2
set_option tactic.hygienic true in
theorem xA{l}(h:l≠[]):(bc l).1≠[]:=by
 unfold bc;split
 ·exact h
 ·split
  ·rename_i x hx hq;intro e;have:=Qg List.length e;simp at this;exact cV 0x711111b201101ab21 rfl hq.1 (Cg _ _) (aU this :)
  ·exact h
noncomputable def Md(QJ m:aC):Prop:=(∀c∈QJ,inv c=false)/\QJ.length<=200/\m=eI QJ
theorem Md.step{b:Option Nat}{R m:aC}{n}(hn:2<=n)(h:Md (b.toList++R) m):
 m=eI (bc (b.toList++R.take n)).1++eI ((bc (b.toList++R.take n)).2.toList++R.drop n) /\
 Md ((bc (b.toList++R.take n)).2.toList++R.drop n) (eI ((bc (b.toList++R.take n)).2.toList++R.drop n)) /\
 (bc (b.toList++R.take n)).1.length<=200/\(b.toList++R.take n).length<=200/\(∀c∈(bc (b.toList++R.take n)).1,inv c=false):=by
 refine a7 λkC=>?_;obtain ⟨h2,h3,h4⟩:=h;refine kC ?_;have e:b.toList++R=(bc (b.toList++R.take n)).1++((bc (b.toList++R.take n)).2.toList++R.drop n):=by exact rW b9.symm (rW (lQ ..) (rW b9 (rW (List.take_append_drop ..) rfl)))
 have el:=Qg List.length e;rw[aP (as:=(bc (b.toList++R.take n)).1)]at el;have hl:=(by have:=Qg List.length (lQ (b.toList++R.take n));rw[aP]at this;exact aF (c9 0x12b2121101841 rfl (aU this :)))
 have Q7:(b.toList++R.take n).length<=(b.toList++R).length:=by exact rW aP (rW aP (rW (Uh ..) (UK (Nat.min_le_right _ _) _)))
 refine ⟨((h4.trans (Qg eI e)).trans (Ap (tU λh1=>?_))),⟨λc hc=>h2 c (rW e (dS _ hc)),by exact aF (c9 0x21c87b41c87301101211841 rfl (aU el.symm :) h3),rfl⟩,by exact aF (c9 0x11c87b41c87301101211841 rfl (aU el.symm :) h3),by exact aF (cV 0x11c87b41c87301101111 rfl Q7 h3),λc hc=>h2 c (rW e (UO _ hc))⟩;rw[aP,Uh]at h1;refine List.drop_eq_nil_iff.mpr (aF λq=>?_);rw[Ue (Nat.le_of_lt q)]at h1;exact Uj (aH hn (aH (Nat.le_add_left ..) (aU h1))) (by decide)
theorem rV{s:aC}{σ}(hl:s.length<=200):vy [13,10] [10] (.str s) σ=some (.str (c8 s),σ):=by
 have e:=xG s;refine Eq.trans (T6 ⟨?_,by decide,by decide⟩) ?_
 ·exact rW e rfl
 ·exact rW e (aH (ji s) (aH hl (by decide)))
theorem rO{s:aC}{a b σ}(hl:s.length<=a8)(SU:a≠b):vy [a] [b] (.str s) σ=some (.str (s.map λx=>if x=a then b else x),σ):=by
 have e:=Bu s a b;refine Eq.trans (T6 ⟨?_,λh=>SU (U5 h).1,(by decide:1<=14)⟩) ?_
 ·exact rW e rfl
 ·exact rW e (rW bA hl)
theorem sT{c:Cx}{cl m q g self σ σ2}{as:St->Option (List V×St)}{vs}(hc:c.clsi cl m=true)(hq:σ[q]? = some (.meth g self))(ha:as σ=some (vs,σ2))(h2:σ2[q]? = some (.meth g self))(hB:g<eM):
 wv c cl m (.ref q) σ as=c.call g (self::vs) σ2:=by
 show (if c.clsi cl m=true then (σ[q]?).bind _ else none)=_;refine rW (T6 hc ..) (rW hq (rW aS ?_));show (as σ).bind _=_;exact rW ha (rW aS (@T6 _ (Classical.propDecidable _) ⟨h2,hB⟩ _ _ _))
section
variable {d:Nat}{σ:St}{x0 sm tx:O}{PU t E:aC}{P8 pl pc n p z:Nat}{Q3 Tp:V}{PQ:List O}{L2:aR}{K:Fl->aR->St->Prop}
theorem Az(hi:∀c∈E,inv c=false)(hr:E.length<=200)(k:∀L',K (.ret (.bool true)) L' (hS x0 (gB (eI E) 0 pl pc Q3) tx PQ)):W (PT (cD (d+2)) (L3.f141.drop 8) z ((34,.ref 1)::(41,Tp)::(29,.str E)::L2) (hS x0 (gB [] 0 pl pc Q3) tx PQ)) K:=by exact iT rfl (eW ((sT (c:=cD (d+2)) (cl:=166) (m:=52) (q:=2) (g:=148) (self:=.ref 1) (σ:=hS x0 (gB [] 0 pl pc Q3) tx PQ) (as:=Qc (cD (d+2)) [.q 29] ((34,.ref 1)::(41,Tp)::(29,.str E)::L2)) (vs:=[.str E]) rfl rfl rfl rfl (by decide:148<eM)).trans (Nj hi)) (nW (aW (rV hr) (aW (rO (aH (ji E) (aH hr (by decide))) (by decide)) (sW rfl (sW rfl (jD rfl (k _))))))))
theorem w9{D:aC}(h:¬1<D.length):bc D=(D,none):=by
 unfold bc;generalize D.getLast? = z2;induction z2 with
 |none=>rfl
 |some x=>exact T8 λh'=>h h'.1
theorem vZ{x:Nat}:((x:Int)==13||(decide (55296<=(x:Int))&&decide ((x:Int)<=56319)))=decide (x=13\/55296<=x/\x<=56319):=by refine Bool.eq_iff_iff.mpr ?_;rw[Bool.or_eq_true,Us,beq_iff_eq,decide_eq_true_iff,decide_eq_true_iff,decide_eq_true_iff];exact ⟨λh=>h.imp Int.ofNat.inj λh=>⟨Int.ofNat_le.mp h.1,Int.ofNat_le.mp h.2⟩,λh=>h.imp (Qg Int.ofNat) λh=>⟨Int.ofNat_le.mpr h.1,Int.ofNat_le.mpr h.2⟩⟩
theorem Fw{D:aC}(hi:∀c∈(bc D).1,inv c=false)(hr:(bc D).1.length<=200)(k:∀L',K (.ret (.bool true)) L' (hS x0 (gB (eI (bc D).1) 0 pl pc (cL (bc D).2)) tx PQ)):W (PT (cD (d+2)) (L3.f141.drop 7) z [(34,.ref 1),(41,Tp),(29,.str D)] (hS x0 (gB [] 0 pl pc .none) tx PQ)) K:=by
 by_cases hl:1<D.length
 ·refine iT (Qg (λb=>some (b,_)) (Uf (Int.ofNat_lt.mpr hl))) ?_;generalize hx:D.getLast? = z1;induction z1 with
  |none=>rw[List.getLast?_eq_none_iff]at hx;clear k hr hi;subst hx;cases hl
  |some x=>
   have h51:aM (cD (d+2)) (.ord (.sub cf cZ)) [(34,.ref 1),(41,Tp),(29,.str D)] (hS x0 (gB [] 0 pl pc .none) tx PQ)=some (.int (x:Nat),hS x0 (gB [] 0 pl pc .none) tx PQ):=by exact rW (uz ..) (rW (last_eq rfl hx ..) rfl)
   refine aW h51 (iW (sN rfl (jO.trans (rW (gP (x:=(x:Int)) rfl ..) rfl))) (λh=>?_) λh=>?_)
   ·rw[vZ,decide_eq_true_iff]at h;rw[show bc D=(D.dropLast,some x) by unfold bc;exact rW hx (T6 ⟨hl,h⟩)]at hi hr k;exact JU (last_eq rfl hx) rfl (aW (Qg (λl=>some (V.str l,_)) (lT D (Nat.lt_trans Nat.zero_lt_one hl))) (nW (nW (Az hi hr k))))
   ·rw[vZ,decide_eq_false_iff_not]at h;rw[show bc D=(D,none) by unfold bc;exact rW hx (T8 λq=>h q.2)]at hi hr k;exact nW (nW (Az hi hr k))
 ·rw[w9 hl]at hi hr k;exact iN (Qg (λb=>some (b,_)) (Ux λh=>hl (Int.ofNat_lt.mp h))) (Az hi hr k)
theorem FO(hp:p<=t.length)(hc:PU.length<=a8)(k:W (PT (cD (d+2)) (L3.f141.drop 6) z [(34,.ref 1),(41,.int (n:Nat)),(29,.str ((t.drop p).take n))] (hS x0 (gB [] 0 (pl+PU.count 10) (cW pc PU) Q3) (fV t (p+((t.drop p).take n).length)) PQ)) K):W (PT (cD (d+2)) (L3.f141.drop 1) z [(34,.ref 1),(41,.int (n:Nat))] (hS x0 (gB PU P8 pl pc Q3) (fV t p) PQ)) K:=by have e:=Ld (d:=d+1) (x0:=x0) (P8:=P8) (pl:=pl) (pc:=pc) (Q3:=Q3) (tx:=fV t p) (PQ:=PQ) (aQ _) hc;rw[List.take_length]at e;exact tW e rfl rfl (sW rfl (sW rfl (sW (L1:=[(34,.ref 1),(41,.int (n:Nat))]) (σ1:=hS x0 (gB [] 0 (pl+PU.count 10) (cW pc PU) Q3) (fV t p) PQ) rfl (aW (Pp (d:=d+1) hp) k))))
theorem Fh{b:Option Nat}{T}(hi:∀c∈(bc (b.toList++T)).1,inv c=false)(hr:(bc (b.toList++T)).1.length<=200)(hT:(b.toList++T).length<=a8)(k:∀L',K (.ret (.bool (!(b.toList++T).isEmpty))) L' (hS x0 (gB (eI (bc (b.toList++T)).1) 0 pl pc (cL (bc (b.toList++T)).2)) tx PQ)):W (PT (cD (d+2)) (L3.f141.drop 6) z [(34,.ref 1),(41,Tp),(29,.str T)] (hS x0 (gB [] 0 pl pc (cL b)) tx PQ)) K:=by
 induction b with
 |none=>
  clear hT;induction T with
  |nil=>exact iF rfl (iT rfl (jD rfl (k _)))
  |cons x r=>exact iF rfl (iN rfl (nW (Fw hi hr k)))
 |some x=>exact iT rfl (aW (v:=.str (x::T)) (T6 (aH (aU (UJ 1 _)) hT)) (sW rfl (nW (Fw hi hr k))))
noncomputable def dF(t:aC)(n p:Nat)(b:Option Nat):aC:=b.toList++(t.drop p).take n
theorem Kj{b}(hp:p<=t.length)(hc:PU.length<=a8)(hi:∀c∈(bc (dF t n p b)).1,inv c=false)(hr:(bc (dF t n p b)).1.length<=200)(hT:(dF t n p b).length<=a8):
 rF (d+3) 141 [.ref 1,.int (n:Nat)] (hS x0 (gB PU P8 pl pc (cL b)) (fV t p) PQ)=some (.bool (!(dF t n p b).isEmpty),hS x0 (gB (eI (bc (dF t n p b)).1) 0 (pl+PU.count 10) (cW pc PU) (cL (bc (dF t n p b)).2)) (fV t (p+((t.drop p).take n).length)) PQ):=
 kX ⟨rfl,rfl⟩ rfl (iN rfl (FO hp hc (Fh hi hr hT λJ=>⟨rfl,rfl⟩)))
theorem MN{b}(hp:p<=t.length)(hc:PU.length<=a8)(hi:∀c∈(bc (dF t 10240 p b)).1,inv c=false)(hr:(bc (dF t 10240 p b)).1.length<=200)(hT:(dF t 10240 p b).length<=a8):
 rF (d+3) 141 [.ref 1] (hS x0 (gB PU P8 pl pc (cL b)) (fV t p) PQ)=some (.bool (!(dF t 10240 p b).isEmpty),hS x0 (gB (eI (bc (dF t 10240 p b)).1) 0 (pl+PU.count 10) (cW pc PU) (cL (bc (dF t 10240 p b)).2)) (fV t (p+((t.drop p).take 10240).length)) PQ):=
 kX ⟨rfl,rfl⟩ rfl (iT rfl (sW rfl (nW (FO (n:=10240) hp hc (Fh hi hr hT λJ=>⟨rfl,rfl⟩)))))
end
end
section
open Builtin.Str StrLaws
noncomputable def ga(c:Nat):Bool:=(([34]:aC)==[c])||((([39]:aC)==[c])||((([61]:aC)==[c])||((([60]:aC)==[c])||((([96]:aC)==[c])||false))))
noncomputable def gA(c:Nat):Bool:=c==0||(c==38||ga c)
structure Tok(QJ:aC):Prop where
 iv:∀c∈QJ,inv c=false
 ln:QJ.length<=200
 sp:2*(eI QJ).countP gA+1<=98
noncomputable def Mi(r:aC):Prop:=Tok r/\∃S,PT (cD (d0+10)) L3.f853 0 [(2,.u pI.1)] []=PT (cD (d0+10)) (L3.f853.drop 4) 0 [(2,.u pI.1),(121,.int S),(3,.str r),(10,.str (eI r))] []
noncomputable def tt:aC:=@dite _ (∃r,Mi r) (Classical.propDecidable _) (λh=>h.choose) λJ=>[]
noncomputable def mm:aC:=eI tt
theorem wd:Tok tt:=by
 unfold tt;by_cases h:∃r,Mi r
 ·exact rW (dif_pos h ..) h.choose_spec.1
 ·exact rW (dif_neg h ..) ⟨λc h=>(US h).elim,bu _,by decide⟩
theorem cS:mm.length<=200:=aH (lL _) wd.ln
theorem DE(l:aC):13∉eI l:=λh=>by
 obtain ⟨x,_,hx⟩:=List.mem_map.mp h;unfold DZ at hx;by_cases q:x=13
 ·rw[T6 q]at hx;cases hx
 ·rw[T8 q]at hx;exact q hx
theorem j9:13∉mm:=DE _
noncomputable abbrev lm(Qb PU:aC)(P8:Nat)(b:Option Nat):O:=gB PU P8 (Qb.count 10) (cW 0 Qb) (cL b)
structure sd(Qb PU:aC)(P8:Nat)(b:Option Nat)(p:Nat)(Qq:aC):Prop where
 ho:P8<=PU.length
 hc:PU.length<=200
 hm:mm=Qb++(PU++Qq)
 hr:Md (b.toList++tt.drop p) Qq
 hp:p<=tt.length
inductive Sv(k:Nat):O->O->Prop
 |mk {Qb PU Qq:aC}{P8 p:Nat}{b:Option Nat}:sd Qb PU P8 b p Qq->k=Qb.length+P8->Sv k (lm Qb PU P8 b) (fV tt p)
noncomputable def QI(k:Nat):Nat:=match mm[k]? with|some _=>k+1|none=>k
section
variable {Qb PU Qq:aC}{P8 p k n:Nat}{b:Option Nat}{sm tx:O}{t:aC}
theorem sd.at(H:sd Qb PU P8 b p Qq):mm.drop (Qb.length+P8)=PU.drop P8++Qq:=by exact rW (H.hm ..) (rW (UR ..).symm (rW (List.drop_left ..) (rW (List.drop_append_of_le_length H.ho ..) rfl)))
theorem sd.rl(H:sd Qb PU P8 b p Qq):Qq.length<=200:=by exact rW (H.hr.2.2 ..) (aH (lL _) H.hr.2.1)
theorem sd.lt(H:sd Qb PU P8 b p Qq)(h:P8<PU.length):sd Qb PU (P8+1) b p Qq:=⟨h,H.hc,H.hm,H.hr,H.hp⟩
theorem Sv.le(H:Sv k sm tx):k<=mm.length:=by induction H with|mk h q=>exact rW q (rW (h.hm ..) (rW aP (rW aP (UK (aH h.ho (bC _ _)) _))))
theorem ud:t.drop (p+((t.drop p).take n).length)=(t.drop p).drop n:=by
 refine rW (UR ..).symm (rW (Uh ..) ?_);rcases Nat.le_total n (t.drop p).length with h|h
 ·exact rW (Ue h ..) rfl
 ·exact rW (Nat.min_eq_right h ..) (rW (List.drop_length ..) (rW (Uz h ..) rfl))
theorem Ez(hp:p<=t.length):p+((t.drop p).take n).length<=t.length:=by have:=List.length_take_le' n (t.drop p);rw[bV]at this;exact Nat.add_le_of_le_sub' hp this
end
section
variable {d:Nat}{x0 sm tx:O}{PU Qb Qq:aC}{P8 n p k z:Nat}{pl pc:Nat}{b:Option Nat}{bv:V}{PQ:List O}{K:Fl->aR->St->Prop}{Q:V->St->Prop}
noncomputable def tu(k:Nat)(sm tx:O):Prop:=∀{d:Nat}{x0:O}{PQ:List O}{Q:V->St->Prop},(∀P6,Sv k P6 tx->Q .none (hS x0 P6 tx PQ))->G (rF (d+1) 163 [.ref 1,cL mm[k]?] (hS x0 sm tx PQ)) Q
theorem KH{x}(hx:PU[P8]? = some x):rF (d+1) 163 [.ref 1,.str [x]] (hS x0 (gB PU (P8+1) pl pc bv) tx PQ)=some (.none,hS x0 (gB PU P8 pl pc bv) tx PQ):=by
 refine kX ⟨rfl,rfl⟩ rfl (iT rfl (iF rfl (sW (L1:=[(34,.ref 1),(21,.str [x])]) (σ1:=hS x0 (gB PU P8 pl pc bv) tx PQ) ?_ (Py (bi (eJ (s:=PU) (j:=P8) rfl rfl hx) (b:=.str [x]) rfl ?_) (nW (nW (nW ⟨rfl,rfl⟩)))))))
 ·exact Qg (λi=>some (Fl.next,[(34,V.ref 1),(21,V.str [x])],hS x0 (Oq PU i pl pc bv) tx PQ)) (Int.add_sub_cancel (P8:Int) 1)
 ·exact Qg some (Ua [x])
theorem vL{x}(hx:PU[P8]? = some x)(k:∀L',K (.ret (.str [x])) L' (hS x0 (gB PU (P8+1) pl pc bv) tx PQ)):W (PT (cD d) (L3.f133.drop 1) z [(34,.ref 1)] (hS x0 (gB PU P8 pl pc bv) tx PQ)) K:=
 sW rfl (aW (eJ (s:=PU) (j:=P8) rfl rfl hx) (sW rfl (jD rfl (k _))))
theorem rJ{α:Type}{l r:List α}{k x}(h:l.drop k=x::r):l[k]? = some x/\l.drop (k+1)=r/\k<l.length:=by
 have h1:l[k]? = some x:=by have:=Qg (λq=>q[0]?) h;simpa using this
 refine ⟨h1,?_,(bY.mp h1).1⟩;exact rW (UR ..).symm (rW h rfl)
theorem FD(H:sd Qb PU P8 b p Qq)(Qf:P8<PU.length):mm[Qb.length+P8]? = some PU[P8]:=by
 have h:=H.at
 rw[Uc Qf]at h;exact (rJ h).1
theorem uR(n:Nat)(hn:2<=n)(hc:PU.length<=200)(hm:mm=Qb++(PU++Qq))(hr:Md (b.toList++tt.drop p) Qq)(hp:p<=tt.length){Z:Prop}(k:∀Qz b' p' RP,
 rF (d+3) 141 [.ref 1,.int (n:Nat)] (hS x0 (lm Qb PU P8 b) (fV tt p) PQ)=some (.bool (!(dF tt n p b).isEmpty),hS x0 (lm (Qb++PU) Qz 0 b') (fV tt p') PQ) ->
 (n=10240->rF (d+3) 141 [.ref 1] (hS x0 (lm Qb PU P8 b) (fV tt p) PQ)=some (.bool (!Qq.isEmpty),hS x0 (lm (Qb++PU) Qz 0 b') (fV tt p') PQ)/\(Qq≠[]->Qz≠[]))->Qq=Qz++RP->sd (Qb++PU) Qz 0 b' p' RP->Z):Z:=by
 have hr0:=hr;obtain ⟨g1,g2,g3,g4,g5⟩:=hr.step hn;rw[<-ud]at g1 g2;have g6:=lL (bc (dF tt n p b)).1;have g7:=aH hc (by decide:200<=a8);have g8:(dF tt n p b).length<=a8:=aH g4 (by decide);refine k (eI (bc (dF tt n p b)).1) (bc (dF tt n p b)).2 _ _ ?_ (λe=>?_) g1 ⟨bu _,aH g6 g3,by exact rW hm (rW b9 (Qg (λq=>Qb++(PU++q)) g1)),g2,Ez hp⟩
 ·rw[lm,Kj hp g7 g5 g3 g8,lm,List.count_append,<-kQ]
 ·clear g6 g4 g2 g1 hr hn k;subst e;have hn:(dF tt 10240 p b).isEmpty=Qq.isEmpty:=by
   refine rW (hr0.2.2 ..) ?_;unfold dF;clear g8 g5 g3 hr0;induction b with
   |some y=>exact (Bool.eq_false_iff.mpr λh=>o4 (Uv _ _) (List.isEmpty_iff.mp h)).symm
   |none=>
    generalize e:tt.drop p=z1;induction z1 with
    |nil=>rfl
    |cons y r=>exact (Bool.eq_false_iff.mpr λh=>o4 (Uv _ _) (List.isEmpty_iff.mp h)).symm
  refine ⟨?_,λQs=>o4 (xA λe=>?_)⟩
  ·rw[lm,MN hp g7 g5 g3 g8,hn,lm,List.count_append,<-kQ]
  ·rw[e]at hn;exact Qs (List.isEmpty_iff.mp hn.symm)
theorem qG(H:sd Qb PU P8 b p Qq){Z:Prop}(k:∀Qz b' p' RP,rF (d+3) 141 [.ref 1] (hS x0 (lm Qb PU P8 b) (fV tt p) PQ)=some (.bool (!Qq.isEmpty),hS x0 (lm (Qb++PU) Qz 0 b') (fV tt p') PQ)->(Qq≠[]->Qz≠[])->Qq=Qz++RP->sd (Qb++PU) Qz 0 b' p' RP->Z):Z:=
 uR (d:=d) (x0:=x0) (PQ:=PQ) (P8:=P8) 10240 (by decide) H.hc H.hm H.hr H.hp λJ J J J J h=>k _ _ _ _ (h rfl).1 (h rfl).2
theorem Av(hn:2<=n)(k:∀sm tx v,Sv 0 sm tx->Q v (hS x0 sm tx PQ)):G (rF (d+3) 141 [.ref 1,.int (n:Nat)] (hS x0 (gB [] 0 0 0 .none) (fV tt 0) PQ)) Q:=
 uR (d:=d) (x0:=x0) (PQ:=PQ) (P8:=0) (Qb:=[]) (PU:=[]) (Qq:=mm) (p:=0) (b:=none) n hn (bu _) rfl ⟨wd.iv,wd.ln,rfl⟩ (bu _) λJ J J J h J J h4=>.mk h (k _ _ _ (.mk h4 rfl))
theorem Cy(H:Sv k sm tx)(q:∀P6 P9,Sv (QI k) P6 P9->tu k P6 P9->Q (cL mm[k]?) (hS x0 P6 P9 PQ)):G (rF (d+4) 133 [.ref 1] (hS x0 sm tx PQ)) Q:=by
 induction H with|@mk Qb PU Qq P8 p b H hk=>
 subst hk;unfold QI at q;by_cases Qf:P8<PU.length
 ·have hx:=da Qf;refine xP ⟨rfl,rfl⟩ rfl (iN (Qg (λb=>some (b,_)) (Ux λh=>Nat.not_le.mpr Qf (Int.ofNat_le.mp h))) (vL hx λJ=>?_));rw[FD H Qf]at q;exact q _ _ (.mk (H.lt Qf) (UA ..)) λk=>rW (FD H Qf ..) (.mk (KH hx) (k _ (.mk H rfl)))
 ·obtain rfl:P8=PU.length:=ce H.ho (aF Qf);have hd:=H.at
  rw[List.drop_length,List.nil_append]at hd;refine xP ⟨rfl,rfl⟩ rfl (iT (Qg (λb=>some (b,_)) (Uf (Int.le_refl _))) (qG (d:=d) (x0:=x0) (PQ:=PQ) H λc' b' p' r' e1 Qs e2 H'=>?_));have Qe:bR (cD (d+3)) rY [(34,.ref 1)] (hS x0 (lm Qb PU PU.length b) (fV tt p) PQ)=some (!!Qq.isEmpty,hS x0 (lm (Qb++PU) c' 0 b') (fV tt p') PQ):=Ak (og.trans (Qg (λx=>Option.bind x _) e1));have hl:Qb.length+PU.length=(Qb++PU).length+0:=aP.symm;clear e1 H;induction Qq with
  |nil=>clear Qs;obtain ⟨rfl,rfl⟩:=List.append_eq_nil_iff.mp e2.symm;have S:Sv (Qb.length+PU.length) (lm (Qb++PU) [] 0 b') (fV tt p'):=.mk H' hl;rw[U4 (List.drop_eq_nil_iff.mp hd)]at q;refine iT Qe (jD rfl (q _ _ S λk=>(rW (U4 (List.drop_eq_nil_iff.mp hd) ..) ?_)));exact xP ⟨rfl,rfl⟩ rfl (iN rfl (nW (k _ S)))
  |cons x r=>
   induction c' with
   |nil=>exact Uj rfl (Qs (Uv _ _))
   |cons x' r2=>clear Qs;obtain rfl:=(U5 e2).1;rw[(rJ hd).1]at q;exact iN Qe (nW (vL (PU:=x::r2) (P8:=0) rfl λJ=>q _ _ (.mk (H'.lt (Nat.succ_pos _)) (Qg (· + 1) hl)) λk=>(rW ((rJ hd).1 ..) (.mk (KH (PU:=x::r2) (P8:=0) rfl) (k _ (.mk H' hl))))))
theorem Jb(H:Sv k sm tx):rF (d+2) 126 [.ref 1] (hS x0 sm tx PQ)=some (.I (xZ (mm.take k)),hS x0 sm tx PQ):=by
 induction H with|@mk Qb PU Qq P8 p b H hk=>
 have e:mm.take (Qb.length+P8)=Qb++PU.take P8:=by exact rW (H.hm ..) (rW (List.take_length_add_append ..) (rW (List.take_append_of_le_length H.ho ..) rfl))
 rw[hk,lm,N4 H.ho (aH H.hc (by decide)),e];unfold xZ;exact rW (List.count_append ..) (rW (kQ ..) rfl)
end
end
section
open Builtin.Str StrLaws
theorem lu{p}:∀(l:aC),l.take (l.takeWhile p).length=l.takeWhile p:=by
 intro l;induction l with
 |nil=>exact rfl
 |cons x r ih=>
  refine rW (Ui ..) ?_;generalize p x=z3;induction z3 with
  |true=>exact Qg (x::·) (ih)
  |false=>rfl
theorem yN{p}(l:aC):l.drop (l.takeWhile p).length=l.dropWhile p:=by have h:=List.takeWhile_append_dropWhile (p:=p) (l:=l);have e:l.drop (l.takeWhile p).length=(l.takeWhile p++l.dropWhile p).drop (l.takeWhile p).length:=rW h rfl;exact rW e (rW (List.drop_left ..) rfl)
theorem oO{p:Nat->Bool}:∀(l:aC),l.dropWhile p=[]\/∃c r,l.dropWhile p=c::r/\p c=false:=by
 intro l;induction l with
 |nil=>exact .inl rfl
 |cons x r ih=>
  refine rW (List.dropWhile_cons ..) ?_;generalize h:p x=z2;induction z2 with
  |true=>exact ih
  |false=>exact .inr ⟨x,r,rfl,h⟩
theorem lS{p:Nat->Bool}:∀{a:aC} (b:aC),(∀c∈a,p c=true)->(a++b).takeWhile p=a++b.takeWhile p
 |[],b,_=>rfl
 |x::a,b,h=>by show (x::(a++b)).takeWhile p=_;exact rW (Ui ..) (rW (h x (.head _) ..) (Qg (x::·) (lS b λc hc=>h c (.tail _ hc))))
theorem mv{p:Nat->Bool}:∀{l:aC}{c:Nat},c∈l.takeWhile p->p c=true
 |x::l,c,h=>by
  rw[Ui]at h;generalize hx:p x=z1;induction z1 with
  |false=>rw[hx]at h;cases h
  |true=>
   rw[hx]at h;rcases b8.mp h with rfl|h
   ·exact hx
   ·exact mv h
theorem jc{o o'}:∀{PQ:List O},(PQ++[o]).set PQ.length o'=PQ++[o']
 |[]=>rfl
 |x::r=>Qg (x::·) jc
noncomputable def Io(x0:O)(PQ:List O):Prop:=∀s,fj (rv s (PQ.length+6)) x0=x0/\PQ.map (fj (rv s (PQ.length+6)))=PQ
theorem fm{s a n}(h:a<n):rv s n (.ref a)=.ref a:=by show (bif Nat.blt a n then V.ref a else _)=_;exact rW (show Nat.blt a n=true from Uw h ..) rfl
theorem gM{s n}(b:Option Nat):rv s n (cL b)=cL b:=by cases b<;>rfl
theorem HB{x0 sm tx PQ k}(h:Sv k sm tx)(hR:Io x0 PQ):j' (hS x0 sm tx PQ):=λs=>by
 induction h with|@mk Qb PU Qq P8 p b _ _=>
 have r2:∀a,a<6->rv s (PQ.length+6) (.ref a)=.ref a:=λa ha=>fm (Uk ha (Nat.le_add_left _ _));show fj (rv s (PQ.length+6)) x0::O.inst 166 [(52,rv s (PQ.length+6) (.ref 2)),(67,rv s (PQ.length+6) (.ref 3)),(48,rv s (PQ.length+6) (.ref 4)),_,_,_,(77,rv s (PQ.length+6) (.ref 5)),_,_,(50,rv s (PQ.length+6) (cL b))]::.meth 148 (rv s (PQ.length+6) (.ref 1))::_::_::_::PQ.map (fj (rv s (PQ.length+6)))=_;exact rW ((hR s).1 ..) (rW ((hR s).2 ..) (rW (r2 2 (by decide) ..) (rW (r2 3 (by decide) ..) (rW (r2 4 (by decide) ..) (rW (r2 5 (by decide) ..) (rW (r2 1 (by decide) ..) (rW (gM ..) rfl)))))))
theorem v6{α:Type}{l:List α}{i}(h:i<=l.length):iA l (bP l.length (i:Nat)) l.length=l.drop i:=by unfold iA bP;exact rW (T8 (λq0=>fC 0x71b11 rfl (Int.ofNat_lt.mp q0)) ..) (rW (Int.toNat_natCast ..) (rW (Ue h ..) (rW (UY (rW bV (aQ _)) ..) rfl)))
theorem Eu{α:Type}{l:List α}{i j}(h:i+j<=l.length):iA l (bP l.length (i:Nat)) (bP l.length ((i+j:Nat):Int))=(l.drop i).take j:=by unfold iA bP;exact rW (T8 (λq0=>cV 0x711018b51 rfl (Int.ofNat_lt.mp q0)) ..) (rW (T8 (λq0=>fC 0x71b11 rfl (Int.ofNat_lt.mp q0)) ..) (rW (Int.toNat_natCast ..) (rW (Int.toNat_natCast ..) (rW (Ue h ..) (rW (Ue (aH (bC _ _) h) ..) (rW (Nat.add_sub_cancel_left ..) rfl))))))
theorem DS{P3:bg}{q}:O.list (P3.map V.str++[.str q])=.list ((P3++[q]).map V.str):=rW ba rfl
section
variable {d:Nat}{x0 sm tx:O}{PQ:List O}{k:Nat}{pl pc:Nat}{bv cv:V}{g:Nat->Bool}{op:Bool}{K:Fl->aR->St->Prop}{Q:V->St->Prop}
noncomputable def LQ(cv:V)(g:Nat->Bool):Prop:=∀(d:Nat) (σ:St) (x:Nat),gV (cD d) σ .U (.str [x]) cv=some (g x)
noncomputable def uL(cv:V)(op:Bool)(N:Nat)(L9:aR):aR:=(34,.ref 1)::(79,cv)::(80,.bool op)::(78,.ref N)::L9
theorem qX(hg:LQ cv g){PU:aC}{P8 N z Qx Qa}(ht:Qx=λL s=>bR (cD d) EZ L s)(hb:Qa=λL s=>PT (cD d) [.aj 9 .add cb] z L s):∀(w:aC) (j k:Nat),PU.drop j=w->w.length<k->j<=PU.length ->
 K .next (uL cv op N [(9,.int ((j+(w.takeWhile (λx=>g x==op)).length:Nat)))]) (hS x0 (gB PU P8 pl pc bv) tx PQ)->W (dR Qx Qa k (uL cv op N [(9,.int (j:Nat))]) (hS x0 (gB PU P8 pl pc bv) tx PQ)) K
 |_,_,0,_,h,_,_=>Uj h (Nat.not_lt_zero _)
 |[],j,n+1,hw,_,hj,q=>by obtain rfl:j=PU.length:=ce hj (List.drop_eq_nil_iff.mp hw);subst ht;exact Jw (jb (Qg (λb=>some (!b,_)) (Ua ((PU.length:Nat):Int)))) q
 |x::w,j,n+1,hw,hk,hj,q=>by
  obtain ⟨hx,hw',hj'⟩:=rJ hw;have t:Qx (uL cv op N [(9,.int (j:Nat))]) (hS x0 (gB PU P8 pl pc bv) tx PQ)=some (g x==op,hS x0 (gB PU P8 pl pc bv) tx PQ):=by subst ht;exact i' (Qg (λb=>some (!b,_)) (T7 λe=>Nat.ne_of_lt hj' (Int.ofNat.inj e))) (bi (lO (eJ (s:=PU) (j:=j) rfl rfl hx) (b:=cv) rfl (hg d _ x)) (b:=.bool op) rfl rfl)
  rw[Ui]at q;cases hc:g x==op with
  |false=>rw[hc]at t q;exact Jw t q
  |true=>rw[hc]at t q;rw[show j+(if true=true then x::w.takeWhile (λx=>g x==op) else []).length=j+1+(w.takeWhile (λx=>g x==op)).length from (Nat.add_right_comm j 1 _).symm]at q;refine MK t ?_;have ih:=qX hg (P8:=P8) ht hb w (j+1) n hw' (Nat.lt_of_succ_lt_succ hk) hj' q;subst hb;exact sW rfl (nW ih)
theorem sQ{l}:(hS x0 sm tx (PQ++[l]))[PQ.length+6]? = some l:=bh (σ:=PQ)
theorem GR{l l'}:(hS x0 sm tx (PQ++[l])).set (PQ.length+6) l'=hS x0 sm tx (PQ++[l']):=Qg (λr=>x0::sm::O.meth 148 (.ref 1)::O.list [.int 0]::tx::O.list []::r) jc
inductive UI(x0:O)(PQ:List O)(cv:V)(g:Nat->Bool)(op:Bool)(k:Nat):Nat->aR->St->Prop
 |mk {P8 p:Nat}{Qb PU Qq:aC}{b:Option Nat}{P3:bg}{L9:aR}:(L9=[]\/∃v,L9=[(9,v)])->sd Qb PU P8 b p Qq->k+P3.flatten.length=Qb.length+P8->mm.drop k=P3.flatten++mm.drop (Qb.length+P8)->(∀c∈P3.flatten,(g c==op)=true)->P3.length+Qq.length<=2000 ->
  UI x0 PQ cv g op k Qq.length (uL cv op (PQ.length+6) L9) (hS x0 (lm Qb PU P8 b) (fV tt p) (PQ++[.list (P3.map .str)]))
noncomputable def UE(x0:O)(PQ:List O)(cv:V)(g:Nat->Bool)(op:Bool)(k:Nat)(K:Fl->aR->St->Prop):Prop:=∀{sm tx:O}{P3:bg}{L9:aR},P3.flatten=(mm.drop k).takeWhile (λx=>g x==op)->Sv (k+((mm.drop k).takeWhile (λx=>g x==op)).length) sm tx->K .next (uL cv op (PQ.length+6) L9) (hS x0 sm tx (PQ++[.list (P3.map .str)]))
theorem yk{PU Qb Qq:aC}{P8 p b}{P3:bg}{L9}(q:UE x0 PQ cv g op k K)(H:sd Qb PU P8 b p Qq)(hk:k+P3.flatten.length=Qb.length+P8)(hd:mm.drop k=P3.flatten++mm.drop (Qb.length+P8))(hn:∀c∈P3.flatten,(g c==op)=true)(he:mm.drop (Qb.length+P8)=[]\/∃c q,mm.drop (Qb.length+P8)=c::q/\(g c==op)=false):
 K .next (uL cv op (PQ.length+6) L9) (hS x0 (lm Qb PU P8 b) (fV tt p) (PQ++[.list (P3.map .str)])):=by
 have e:P3.flatten=(mm.drop k).takeWhile (λx=>g x==op):=by
  refine rW hd (rW (lS (p:=λx=>g x==op) _ hn ..) ?_);rcases he with h|⟨c,q,h,hc⟩
  ·exact rW h ((bX _).symm)
  ·exact rW h (rW (Ui ..) (rW hc ((bX _).symm)))
 exact q e (e▸.mk H hk)
theorem fO{P3:bg}{q}:(P3++[q]).flatten=P3.flatten++q:=rW (List.flatten_append ..) (rW (List.flatten_cons ..) (rW (List.flatten_nil ..) (rW (bX ..) rfl)))
theorem rS{P3:bg}{q}{P:Nat->Prop}(h1:∀c∈P3.flatten,P c)(h2:∀c∈q,P c):∀c∈(P3++[q]).flatten,P c:=λc hc=>(List.mem_append.mp (fO▸hc)).elim (h1 c) (h2 c)
theorem pM{PU Qb Qq q:aC}{P8 p b}{P3:bg}{lo hi L9}(RH:P3.length+Qq.length<=2000)(e:aM (cD d) (.O iG lo hi) (uL cv op (PQ.length+6) L9) (hS x0 (lm Qb PU P8 b) (fV tt p) (PQ++[.list (P3.map .str)]))=some (.str q,hS x0 (lm Qb PU P8 b) (fV tt p) (PQ++[.list (P3.map .str)]))):
 aM (cD d) (.append (.q 78) (.O iG lo hi)) (uL cv op (PQ.length+6) L9) (hS x0 (lm Qb PU P8 b) (fV tt p) (PQ++[.list (P3.map .str)]))=some (.none,hS x0 (lm Qb PU P8 b) (fV tt p) (PQ++[.list ((P3++[q]).map .str)])):=
 mJ (a:=PQ.length+6) rfl sQ e sQ (aH (aU (UC _)) (aH (aH (bC _ _) RH) (by decide))) (GR.trans (rW (DS ..) rfl))
theorem lJ{PU Qb Qq:aC}{P8 p:Nat}{b:Option Nat}{P3:bg}{v9:V}{z:Nat}(q:UE x0 PQ cv g op k K)(H:sd Qb PU P8 b p Qq)(hk:k+P3.flatten.length=Qb.length+P8)(hd:mm.drop k=P3.flatten++mm.drop (Qb.length+P8))(hn:∀c∈P3.flatten,(g c==op)=true)(RH:P3.length+Qq.length<=2000)(hn2:∀c∈PU.drop P8,(g c==op)=true):
 W (PT (cD (d+3)) [.expr (.append (.q 78) (.O iG gJ dT)),.ifs rY [.brk] []] z (uL cv op (PQ.length+6) [(9,v9)]) (hS x0 (lm Qb PU P8 b) (fV tt p) (PQ++[.list (P3.map .str)])))
  (Lp K λL2 σ2=>∃n,n<Qq.length/\UI x0 PQ cv g op k n L2 σ2):=by
 refine eW (pM RH (Qg (λl=>some (V.str l,_)) (v6 H.ho))) (qG (d:=d) (x0:=x0) (PQ:=PQ++[.list ((P3++[PU.drop P8]).map .str)]) H λc' b' p' r' e1 Qs e2 H'=>?_);have h3:bR (cD (d+3)) rY (uL cv op (PQ.length+6) [(9,v9)]) (hS x0 (lm Qb PU P8 b) (fV tt p) (PQ++[.list ((P3++[PU.drop P8]).map .str)]))=some (!!Qq.isEmpty,_):=Ak (og.trans (Qg (λx=>Option.bind x _) e1));have QO:mm.drop (Qb++PU).length=Qq:=rW (H.hm ..) (rW b9.symm (rW (List.drop_left ..) rfl));have hd3:mm.drop k=(P3++[PU.drop P8]).flatten++mm.drop ((Qb++PU).length+0):=rW hd (rW (fO ..) (rW b9 (rW (H.at ..) (rW (Nat.add_zero ..) (rW QO rfl)))));have hk3:k+(P3++[PU.drop P8]).flatten.length=(Qb++PU).length+0:=by exact rW (fO ..) (rW aP (rW bV (rW (UA ..).symm (rW hk (rW (UA ..) (rW (Nat.add_sub_cancel' H.ho ..) (rW aP rfl)))))))
 have hn3:=rS hn hn2;clear e1 hn hn2 hd hk H;induction Qq with
 |nil=>clear Qs;obtain ⟨rfl,rfl⟩:=List.append_eq_nil_iff.mp e2.symm;exact iT h3 (bW (yk q H' hk3 hd3 hn3 (.inl QO)))
 |cons y r=>
  have hl:r'.length<(y::r).length:=by exact rW e2 (rW aP (Nat.lt_add_of_pos_left (List.length_pos_iff.mpr (Qs (Uv _ _)))))
  exact iN h3 (nW ⟨r'.length,hl,.mk (.inr ⟨_,rfl⟩) H' hk3 hd3 hn3 (rW aP (rW (Nat.add_right_comm ..) (rW (UA ..) (aH (UK hl _) RH))))⟩)
noncomputable def uB:List PS:=match (L3.f156[1]? : Option PS) with|some (PS.aa _ b)=>b|_=>[]
theorem Lj{a b:Nat}{σ:St}(h:a=b):some (((a:Int)==(b:Nat)),σ)=some (true,σ):=Qg (λb=>some (b,σ)) (beq_iff_eq.mpr (Qg Int.ofNat h))
theorem JP{a b:Nat}{σ:St}(h:a≠b):some (((a:Int)==(b:Nat)),σ)=some (false,σ):=Qg (λb=>some (b,σ)) (T7 λe=>h (Int.ofNat.inj e))
theorem E0{a b:Nat}{σ:St}(h:a=b):some (!((a:Int)==(b:Nat)),σ)=some (false,σ):=Qg (λb=>some (!b,σ)) (beq_iff_eq.mpr (Qg Int.ofNat h))
theorem EO{a b:Nat}{σ:St}(h:a≠b):some (!((a:Int)==(b:Nat)),σ)=some (true,σ):=Qg (λb=>some (!b,σ)) (T7 λe=>h (Int.ofNat.inj e))
theorem tS(hg:LQ cv g){n z:Nat}{L:aR}{σ:St}(q:UE x0 PQ cv g op k K)(h:UI x0 PQ cv g op k n L σ):W (PT (cD (d+3)) uB z L σ) (Lp K λL2 σ2=>∃n',n'<n/\UI x0 PQ cv g op k n' L2 σ2):=by
 induction h with|@mk P8 p Qb PU Qq b P3 L9 h9 H hk hd hn RH=>
 have ho:=H.ho;have e9:aX 9 (.int (P8:Nat)) (uL cv op (PQ.length+6) L9)=uL cv op (PQ.length+6) [(9,.int (P8:Nat))]:=by rcases h9 with rfl|⟨v,rfl⟩<;>rfl
 refine aW (v:=.int (P8:Nat)) rfl (rW e9 ?_);clear e9 h9;refine x5 (qX hg rfl rfl (PU.drop P8) P8 _ rfl (Um (aH (aU bV) (aH (UQ _ _) H.hc)) (by decide:200<FU)) ho ?_);have hqt:=lu (p:=λx=>g x==op) (PU.drop P8);have hqd:=yN (p:=λx=>g x==op) (PU.drop P8);have Sx:=oO (p:=λx=>g x==op) (PU.drop P8);have hqs:∀c∈(PU.drop P8).takeWhile (λx=>g x==op),(g c==op)=true:=λc hc=>mv hc;have Th:=List.takeWhile_append_dropWhile (p:=λx=>g x==op) (l:=PU.drop P8);rw[<-hqd]at Sx Th;clear hqd;generalize (PU.drop P8).takeWhile (λx=>g x==op)=w at *;rw[UR]at Sx Th;have Qi:=Qg List.length Th;rw[aP,bV,bV]at Qi;have whole:P8+w.length=PU.length->∀c∈PU.drop P8,(g c==op)=true:=λh c hc=>by rw[h,List.drop_length,bX]at Th;exact hqs c (Th▸hc)
 have H2:sd Qb PU (P8+w.length) b p Qq:=⟨Nat.add_le_of_le_sub' ho (aH (bC _ _) (aU Qi)),H.hc,H.hm,H.hr,H.hp⟩
 clear Qi;have PO:P8+w.length≠PU.length->∃c r,mm.drop (Qb.length+(P8+w.length))=c::r/\(g c==op)=false:=λh=>by
  refine rW (H2.at ..) ?_;rcases Sx with h0|⟨c,r,h0,h1⟩
  ·exact Uj (ce H2.ho (List.drop_eq_nil_iff.mp h0)) h
  ·exact ⟨c,r++Qq,by exact rW h0 rfl,h1⟩
 clear Sx;by_cases hq:w.length=0
 ·have e0:P8+w.length=P8:=Qg (P8+·) hq;rw[e0]at whole PO;refine iT (Lj e0) ?_;by_cases Sj:P8=PU.length
  ·exact iN (E0 Sj) (nW (lJ q H hk hd hn RH (whole Sj)))
  ·exact iT (EO Sj) (bW (yk q H hk hd hn (.inr (PO Sj))))
 ·refine iF (JP λe=>hq (Nat.add_left_cancel (e:P8+w.length=P8+0))) ?_;by_cases Sj:P8+w.length=PU.length
  ·exact iN (E0 Sj) (nW (lJ q H hk hd hn RH (whole Sj)))
  ·refine iT (EO Sj) (eW (pM RH (Qg (λl=>some (V.str l,_)) ((Eu (l:=PU) (i:=P8) (j:=w.length) H2.ho).trans hqt))) (sW rfl (bW (yk q H2 ?_ ?_ (rS hn hqs) (.inr (PO Sj))))))
   ·exact rW (fO ..) (rW aP (rW (UA ..).symm (rW hk (rW (UA ..) rfl))))
   ·exact rW hd (rW (fO ..) (rW b9 (rW (H.at ..) (rW (H2.at ..) (rW (UD w ..).symm (rW Th rfl))))))
theorem qb(hg:LQ cv g)(H:Sv k sm tx)(hR:Io x0 PQ){P5}(ha:cz [34,79,80] P5 [.bool false]=some [(34,.ref 1),(79,cv),(80,.bool op)])(q:∀P6 P9,Sv (k+((mm.drop k).takeWhile (λx=>g x==op)).length) P6 P9->Q (.str ((mm.drop k).takeWhile (λx=>g x==op))) (hS x0 P6 P9 PQ)):G (rF (d+4) 156 P5 (hS x0 sm tx PQ)) Q:=by
 have Rv:((mm.drop k).takeWhile (λx=>g x==op)).length<=a8:=by have:=(Uy (p:=λx=>g x==op) (l:=mm.drop k)).length_le;rw[bV]at this;exact aH this (aH (UQ _ _) (aH cS (by decide)))
 refine xP ⟨rfl,rfl⟩ ha (aW (v:=.ref (PQ.length+6)) (σ1:=hS x0 sm tx (PQ++[.list []])) rfl (x5 ?_));induction H with|@mk Qb PU Qq P8 p b H hk=>
 refine lW (UI x0 PQ cv g op k) (λh=>.mk (v:=true) rfl (tS hg (λ{P6 P9 P3 L9} e S=>?_) h)) (Um H.rl (by decide:200<FU)) (.mk (P3:=[]) (.inl rfl) H hk (rW hk rfl) (λc hc=>Uj hc US) (aH (aU (UU _)) (aH H.rl (by decide))));have hj:aM (cD (d+3)) (.join [] (.q 78)) (uL cv op (PQ.length+6) L9) (hS x0 P6 P9 (PQ++[.list (P3.map .str)]))=some (.str P3.flatten,hS x0 P6 P9 (PQ++[.list (P3.map .str)])):=jh sQ (e▸Rv);rw[e]at hj;exact aW hj (Cb (aN bZ) rfl (eE (HB S hR)) (q _ _ S))
end
end
section
open Builtin.Str StrLaws
noncomputable def Ay:aZ:=[([65,77,80],[38]),([65,77,80,59],[38]),([69,97,99,117,116,101],[201]),([69,97,99,117,116,101,59],[201]),([77,111,112,102,59],[120132]),([97,99,59],[8766]),([97,99,69,59],[8766,819]),([97,99,117,116,101],[180]),([97,99,117,116,101,59],[180]),([97,109,112],[38]),([97,109,112,59],[38]),([97,110,103,59],[8736]),([97,110,103,108,101,59],[8736]),([98,110,101,59],[61,8421]),([99,111,112,121],[169]),([99,111,112,121,59],[169]),([101,97,99,117,116,101],[233]),([101,97,99,117,116,101,59],[233]),([102,114,97,99,49,50],[189]),([102,114,97,99,49,50,59],[189]),([103,116],[62]),([103,116,59],[62]),([108,116],[60]),([108,116,59],[60]),([110,98,115,112],[160]),([110,98,115,112,59],[160]),([110,111,116],[172]),([110,111,116,59],[172]),([110,111,116,105,110,59],[8713]),([110,111,116,110,105,59],[8716]),([112,97,114,97],[182]),([112,97,114,97,59],[182]),(th,[8741]),([113,117,111,116],[34]),([113,117,111,116,59],[34]),([115,117,112,49],[185]),([115,117,112,49,59],[185]),([115,117,112,50],[178]),([115,117,112,50,59],[178]),([115,117,112,59],[8835]),([116,105,109,101,115],[215]),([116,105,109,101,115,59],[215]),([116,105,109,101,115,98,59],[8864])]
noncomputable def iP:bg:=Ay.map (·.1)
noncomputable def xU(u:aC):Option (aC):=bM u Ay
noncomputable def mem(u:aC):Bool:=(xU u).isSome
noncomputable def hp(u:aC):Bool:=iP.any λx=>u.isPrefixOf x
theorem rK{β γ:Type}(f:β->γ)(u:aC):∀l:List (aC×β),bM u (l.map λp=>(p.1,f p.2))=(bM u l).map f
 |[]=>rfl
 |(k,v)::r=>by
  show (if k=u then some (f v) else bM u (r.map λp=>(p.1,f p.2)))=(if k=u then some v else bM u r).map f;by_cases h:k=u
  ·exact rW (T6 h ..) (rW (T6 h ..) rfl)
  ·exact rW (T8 h ..) (rW (T8 h ..) (rW (rK f u r ..) rfl))
theorem rq{β:Type}(u:aC):∀l:List (aC×β),(bM u l).isSome=true↔u∈l.map (·.1)
 |[]=>⟨(λh=>nomatch h),(λh=>nomatch h)⟩
 |(k,v)::r=>by
  show (if k=u then some v else bM u r).isSome=true↔u∈k::r.map (·.1);by_cases h:k=u
  ·refine rW (T6 h ..) ?_;simp[h]
  ·rw[T8 h,rq u r,b8];exact ⟨.inr,λq=>q.resolve_left λe=>h e.symm⟩
theorem mem_iff{u}:mem u=true↔u∈iP:=rq u Ay
theorem uZ:∀{u x y:aC},u.isPrefixOf y=true->¬x<u->¬y<x->u.isPrefixOf x=true
 |[],x,y,_,_,_=>rfl
 |a::u,[],y,_,h,_=>Uj (List.Lex.nil) h
 |a::u,b::x,[],h,_,_=>bU h
 |a::u,b::x,c::y,h,h1,h2=>by simp only[List.isPrefixOf_cons₂,Us,beq_iff_eq]at h ⊢;obtain ⟨rfl,h⟩:=h;have e1:¬b<a:=λq=>h1 (List.Lex.rel q);have e2:¬a<b:=λq=>h2 (List.Lex.rel q);obtain rfl:a=b:=ce (aF (cV 0x11b2111011 rfl (aF e1 :))) (aF (cV 0x11b1101111 rfl (aF e2 :)));exact ⟨rfl,uZ h (λq=>h1 (List.Lex.cons q)) λq=>h2 (List.Lex.cons q)⟩
theorem tz:∀{u y:aC},u.isPrefixOf y=true->¬y<u
 |[],y,_=>(λh=>nomatch h)
 |a::u,[],h=>bU h
 |a::u,b::y,h=>by
  simp only[List.isPrefixOf_cons₂,Us,beq_iff_eq]at h;obtain ⟨rfl,h⟩:=h;intro q;cases q with
  |rel q=>exact Nat.lt_irrefl _ q
  |cons q=>exact tz h q
theorem zv:∀{x y z:aC},x<y->y<z->x<z
 |x,y,z,h1,h2=>List.lt_trans h1 h2
end
section
open Builtin.Str StrLaws
noncomputable def kvs:List (aC×V):=Ay.map λp=>(p.1,V.str p.2)
theorem qg(u:aC):bM u kvs=(xU u).map V.str:=rK V.str u Ay
theorem kM{vs:List V}{i v}(h:vs[i]? = some v):(d9 vs.length (i:Nat)).bind (λj=>vs[j]?)=some v:=by refine rW (vE (bY.mp h).1 ..) ?_;exact h
section
variable {d:Nat}{σ:St}{u:aC}
theorem Lh:gV (cD d) σ .U (.str u) (.u 43)=some (mem u):=by show some (bM u kvs).isSome=_;exact rW (qg ..) (rW (Option.isSome_map ..) rfl)
theorem Mq:rF (d+1) 199 [.u 236,.str u] σ=some (.bool (mem u),σ):=kX ⟨rfl,rfl⟩ rfl (jD (lO (b:=.u 43) rfl rfl Lh) ⟨rfl,rfl⟩)
structure BS(u:aC)(lo hi:Nat):Prop where
 lo:∀{j x},j<lo->iP[j]? = some x->x<u
 hi:∀{j x},hi<=j->iP[j]? = some x->¬x<u
inductive BI(u:aC)(σ:St):Nat->aR->St->Prop
 |mk {lo hi:Nat}{Lm:aR}:(Lm=[]\/∃v,Lm=[(120,v)])->lo<=hi->hi<=43->BS u lo hi->BI u σ (hi-lo) ((55,.u 243)::(26,.str u)::(119,.int (lo:Nat))::(118,.int (hi:Nat))::Lm) σ
theorem ue{i j:Nat}{x y:aC}(h:i<j)(hx:iP[i]? = some x)(hy:iP[j]? = some y):x<y:=by obtain ⟨a,rfl⟩:=bY.mp hx;obtain ⟨b,rfl⟩:=bY.mp hy;exact List.pairwise_iff_getElem.mp (by decide +kernel) i j a b h
theorem Iv{i j:Nat}{x y:aC}(h:i<=j)(hx:iP[i]? = some x)(hy:iP[j]? = some y):¬y<x:=λq=>by
 rcases Nat.eq_or_lt_of_le h with h|h
 ·obtain rfl:=aK ((h▸hx).symm.trans hy);exact List.lt_irrefl _ q
 ·exact List.lt_irrefl _ (zv (ue h hx hy) q)
theorem yM{i:Nat}{x:aC}(hx:iP[i]? = some x):(iP.map V.str)[i]? = some (.str x):=by rw[UV,hx];rfl
theorem MB{Q:V->St->Prop}(q:∀i:Nat,i<=43->BS u i i->Q (.int i) σ):G (rF (d+1) 178 [.u 243,.str u,.int 0,.int 43] σ) Q:=by
 refine xP ⟨rfl,rfl⟩ rfl (iN rfl (x5 (lW (BI u σ) (λ{n L s} h=>?_) (by decide:43<FU) (.mk (lo:=0) (hi:=43) (.inl rfl) (by decide) (by decide) ⟨λh=>Uj h (Nat.not_lt_zero _),λ{j x} h hx=>Uj (Uk (bY.mp hx).1 h) (Nat.lt_irrefl _)⟩))));induction h with|@mk lo hi Lm hL h1 h2 B=>
 refine .mk (v:=decide ((lo:Int)<(hi:Nat))) rfl ?_;by_cases Qf:lo<hi
 ·refine rW (Uf (Int.ofNat_lt.mpr Qf) ..) ?_;have e:Int.fdiv ((lo:Int)+(hi:Nat)) 2=((lo+hi)/2:Nat):=Int.fdiv_eq_ediv_of_nonneg _ (by decide);refine aW (v:=.int ((lo+hi)/2:Nat)) (Qg (λi=>some (V.int i,_)) e) ?_;clear e;have hm1:lo<=(lo+hi)/2:=(Nat.le_div_iff_mul_le (by decide)).mpr (rW (Nat.mul_two ..) (UK h1 lo));have TK:(lo+hi)/2<hi:=(Nat.div_lt_iff_lt_mul (by decide)).mpr (rW (Nat.mul_two ..) (Nat.add_lt_add_right Qf hi));rw[show aX 120 (.int ((lo+hi)/2:Nat)) ((55,.u 243)::(26,.str u)::(119,.int (lo:Nat))::(118,.int (hi:Nat))::Lm)=(55,.u 243)::(26,.str u)::(119,.int (lo:Nat))::(118,.int (hi:Nat))::[(120,.int ((lo+hi)/2:Nat))] by rcases hL with rfl|⟨v,rfl⟩<;>rfl];generalize (lo+hi)/2=m at *;clear hL;have hx:iP[m]? = some (iP[m]'(Uk TK h2)):=da _;generalize iP[m]'(Uk TK h2)=x at hx;refine iW (bi (a:=.str x) (b:=.str u) (σ1:=σ) (Qg (Option.map λv=>(v,σ)) (kM (yM hx))) rfl rfl) (λh=>?_) λh=>?_
  ·exact sW rfl (nW (nW ⟨_,Nat.sub_lt_sub_left Qf (Nat.lt_succ_of_le hm1),.mk (lo:=m+1) (.inr ⟨_,rfl⟩) TK h2 ⟨λ{j y} hj hy=>by
    rcases Nat.eq_or_lt_of_le (Nat.le_of_lt_succ hj) with h3|h3
    ·obtain rfl:=aK ((h3▸hy).symm.trans hx);exact T9 h
    ·exact zv (ue h3 hy hx) (T9 h),B.hi⟩⟩))
  ·exact sW rfl (nW (nW ⟨_,Nat.sub_lt_sub_right hm1 TK,.mk (hi:=m) (.inr ⟨_,rfl⟩) hm1 (aH (Nat.le_of_lt TK) h2) ⟨B.lo,λ{j y} hj hy q=>by
    rcases Nat.eq_or_lt_of_le hj with h3|h3
    ·obtain rfl:=aK ((h3▸hx).symm.trans hy);exact of_decide_eq_false h q
    ·exact of_decide_eq_false h (zv (ue h3 hx hy) q)⟩⟩))
 ·refine rW (Ux λh=>Qf (Int.ofNat_lt.mp h) ..) ?_;obtain rfl:lo=hi:=ce h1 (aF Qf);exact jD rfl (q lo h2 B)
theorem JJ{i:Nat}(B:BS u i i):hp u=match iP[i]? with|some x=>u.isPrefixOf x|none=>false:=by
 generalize hx:iP[i]? = z1;induction z1 with
 |none=>refine Bool.eq_false_iff.mpr λq=>?_;obtain ⟨y,hy,hu⟩:=List.any_eq_true.mp q;obtain ⟨j,hj⟩:=List.getElem?_of_mem hy;exact tz hu (B.lo (Uk (bY.mp hj).1 (List.getElem?_eq_none_iff.mp hx)) hj)
 |some x=>refine Bool.eq_iff_iff.mpr ⟨λq=>?_,λhu=>List.any_eq_true.mpr ⟨x,List.mem_of_getElem? hx,hu⟩⟩;obtain ⟨y,hy,hu⟩:=List.any_eq_true.mp q;obtain ⟨j,hj⟩:=List.getElem?_of_mem hy;exact uZ hu (B.hi (aQ _) hx) (Iv (aF λq=>tz hu (B.lo q hj)) hx hj)
theorem NH:rF (d+2) 220 [.u 236,.str u] σ=some (.bool (hp u),σ):=by
 refine kX ⟨rfl,rfl⟩ rfl (iW (bi (b:=.u 43) rfl rfl Lh) (λh=>jD rfl ⟨Qg V.bool ((List.any_eq_true.mpr ⟨u,mem_iff.mp h,List.isPrefixOf_iff_prefix.mpr (List.prefix_refl u)⟩)).symm,rfl⟩) λJ=>nW (iT rfl (sW rfl (aG (MB λi hi B=>nW (rW (JJ B ..) (iW (x:=((i:Int)==(43:Nat))) rfl (λh=>jD rfl ⟨?_,rfl⟩) λh=>nW (jD (v:=.bool (u.isPrefixOf (iP[i]'?_))) ?_ ⟨?_,rfl⟩))))))))
 ·clear B hi;obtain rfl:i=43:=Int.ofNat.inj (eq_of_beq h);rfl
 ·exact Nat.lt_of_le_of_ne hi λe=>by rw[e]at h;exact bU h.symm
 ·exact rW (jI ..) (Qg (λx=>Option.bind x _) (Qg (Option.map λv=>(v,σ)) (kM (yM (da _)))))
 ·rw[da];rfl
end
end
section
open Builtin.Str StrLaws
noncomputable def BQ(u:aC):Nat->Option (aC)
 |0=>none
 |m+1=>if mem (u.take m)=true then some (u.take m) else BQ u m
theorem HC{cx L σ x o m}:bR cx (.ao x o m) L σ=(aM cx (.ao x o m) L σ).bind λ(v,σ1)=>(b7 cx σ1 v).map λb=>(b,σ1):=rfl
section
variable {d:Nat}{σ:St}{u:aC}
noncomputable def Po:Option (aC)->Fl|some b=>.ret (.str b)|none=>.next
noncomputable def Pf:Option (aC)->V|some b=>.str b|none=>.none
theorem yh{i}(h1:1<=i)(h2:i<=u.length):iA u 0 (bP u.length (-(i:Int)))=u.take (u.length-i):=by unfold iA bP;have e:(-(i:Int)+u.length).toNat=u.length-i:=rW (Int.add_comm ..) (rW (Int.sub_eq_add_neg ..).symm (rW (Int.toNat_sub ..) rfl));exact rW (T6 (Int.neg_neg_of_pos (Int.ofNat_lt.mpr h1)) ..) (rW (List.drop_zero ..) (rW e rfl))
theorem Fy{L e}(Rb:aJ 34 L=some (.u 236))(h:aM (cD (d+1)) e L σ=some (.str u,σ)):bR (cD (d+1)) (.ao e aY 117) L σ=some (mem u,σ):=by refine rW (HC ..) (rW (v8 ..) (rW h (rW aS ?_)));show Option.bind (Option.bind (aM (cD (d+1)) aY L σ) _) _=_;refine rW (aN Rb ..) ?_;show Option.bind (Option.bind (rF (d+1) 199 [.u 236,.str u] σ) _) _=_;exact rW (Mq ..) rfl
theorem wz{z b}{PX:St->Bool}{K:Fl->aR->St->Prop}(hb:b=[.ifs (.ao qs aY 117) [.ret qs] []])(hs:PX σ=true):
 ∀(m j:Nat) (Tl:aR),j+m=u.length->(Tl=[]\/∃v,Tl=[(84,v)])->(∀L',K (Po (BQ u m)) ((34,.u 236)::(110,.str u)::L') σ)->W (gv (λv L s=>cU (cD (d+1)) s (.one 84) v L) PX (λL s=>PT (cD (d+1)) b z L s) ((List.range' j m).map λk=>V.int (1+1*Int.ofNat k)) ((34,.u 236)::(110,.str u)::Tl) σ) K
 |0,j,Tl,_,_,q=>E2 hs (q _)
 |m+1,j,Tl,hj,hL,q=>by
  have e1:aX 84 (V.int (1+1*Int.ofNat j)) ((34,.u 236)::(110,.str u)::Tl)=[(34,.u 236),(110,.str u),(84,.int ((j+1:Nat)))]:=by refine rW (Int.one_mul ..) (rW (Int.add_comm ..) ?_);rcases hL with rfl|⟨v,rfl⟩<;>rfl
  have h:=yh (u:=u) (i:=j+1) (Nat.le_add_left ..) (hj▸UK (Nat.le_add_left 1 m) j);rw[<-hj,Nat.add_sub_add_left,Nat.add_sub_cancel,hj]at h;have hc:aM (cD (d+1)) qs [(34,.u 236),(110,.str u),(84,.int ((j+1:Nat)))] σ=some (.str (u.take m),σ):=Qg (λl=>some (V.str l,σ)) h;rw[show BQ u (m+1)=if mem (u.take m)=true then some (u.take m) else BQ u m from rfl]at q;refine J3 hs (Qg some e1) ?_;have ih:=wz (z:=z) (K:=K) hb hs m (j+1) [(84,.int ((j+1:Nat)))] (rW (UA ..) (rW (UJ 1 ..) (rW hj rfl))) (.inr ⟨_,rfl⟩);subst hb;refine iW (Fy rfl hc) (λh=>jD hc ?_) λh=>nW (nW (ih ?_))
  ·rw[T6 h]at q;exact q _
  ·rw[T8 (Bool.eq_false_iff.mp h)]at q;exact q
theorem tJ{i j}{σ:St}(h:(-(a8:Int)<=i/\i<=a8)/\(-(a8:Int)<=j/\j<=a8)):jo (.int i) (.int j) σ=some (.ref σ.length,σ++[.rng i j 1]):=T6 h
theorem yf{v a b s}(h:(-(a8:Int)<=a/\a<=a8)/\(-(a8:Int)<=b/\b<=a8)/\(s=1\/s = -1)):gq v (.rng a b s)=some ((List.range (jY a b s)).map λk=>.int (a+s*Int.ofNat k)):=T6 h
theorem sJ{n:Nat}(h:n<=200):(-(a8:Int)<=(1:Int)/\(1:Int)<=a8)/\(-(a8:Int)<=(n:Int)+1/\(n:Int)+1<=a8):=⟨⟨by decide,by decide⟩,UW (by decide) (UH (n+1)),Int.ofNat_le.mpr (aH (cO h) (by decide))⟩
theorem JI{c L σ1 σ2 σ3 a b v w x}(h1:aM c a L σ=some (v,σ1))(h2:aM c b L σ1=some (w,σ2))(h3:jo v w σ2=some (x,σ3)):aM c (.ay a b) L σ=some (x,σ3):=by refine rW (rU ..) (rW h1 (rW aS ?_));show Option.bind (aM c b L σ1) _=_;exact rW h2 h3
theorem xM{n:Nat}{v:V}(h:n<=200):gq v (.rng 1 ((n:Int)+1) 1)=some ((List.range' 0 n).map λk=>V.int (1+1*Int.ofNat k)):=by rw[yf ⟨(sJ h).1,(sJ h).2,.inl rfl⟩,show jY 1 ((n:Int)+1) 1=n by unfold jY;rw[T6 rfl];exact Qg Int.toNat (Int.add_sub_cancel _ _),List.range_eq_range']
theorem NY(hl:u.length<=200){Q:V->St->Prop}(q:∀τ,Q (Pf (BQ u (u.length+1))) (σ++τ)):G (rF (d+2) (227+eM) [.u 236,.str u] σ) Q:=by
 rw[show BQ u (u.length+1)=if mem (u.take u.length)=true then some (u.take u.length) else BQ u u.length from rfl]at q;rw[List.take_length]at q;refine fnX (f:=227) (L:=[(34,.u 236),(110,.str u)]) rfl rfl (iW (Fy rfl rfl) (λh=>jD rfl ⟨nofun,?_⟩) λh=>nW (Kb (v:=.ref σ.length) (σ1:=σ++[.rng 1 ((u.length:Int)+1) 1]) ?_ ?_ (wz rfl (bN.mpr rfl) u.length 0 [] (UU _) (.inl rfl) λL'=>?_)))
 ·rw[T6 h]at q;exact bX σ▸q []
 ·exact JI (v:=.int 1) (w:=.int ((u.length:Int)+1)) rfl rfl (tJ (sJ hl))
 ·show Option.bind ((σ++[O.rng 1 ((u.length:Int)+1) 1])[σ.length]?) (gq (.ref σ.length))=_;exact rW (bh ..) (rW aS (rW (xM hl ..) rfl))
 ·rw[T8 (Bool.eq_false_iff.mp h)]at q;generalize hq:BQ u u.length=z1;induction z1 with
  |some b=>rw[hq]at q;exact ⟨nofun,q _⟩
  |none=>rw[hq]at q;exact eW (v:=.str u) rfl (nW (q _))
end
end
section
open Builtin.Str StrLaws
theorem f7(c:Nat)(l:aC):v5 [c] l=l.contains c:=by have h:=StrLaws.found_one (aT l) c;refine Eq.trans h ?_;show decide (c∈l.toArray.toList)=_;exact rW (List.contains_eq_mem ..) rfl
section
variable {c:Cx}{L:aR}{σ σ1 σ2 σ3:St}{l r e lo hi t o:PE}{v w a b:V}{s x y:aC}{i j k:Nat}{vs:List V}{p q:Bool}
theorem fQ{f es}(h:Qc c es L σ=some (vs,σ1))(h2:c.call f vs σ1=some (v,σ2)):aM c (.call f es) L σ=some (v,σ2):=rW (lb ..) (rW h h2)
theorem Dx(h:aM c e L σ=some (.str s,σ1)):aM c (.len e) L σ=some (.int (s.length:Nat),σ1):=rW (pB ..) (rW h rfl)
theorem jz{op}(h1:aM c l L σ=some (a,σ1))(h2:aM c r L σ1=some (b,σ2))(h:Ec c op a b σ2=some (v,σ3)):aM c (.J op l r) L σ=some (v,σ3):=by refine rW (wf ..) (rW h1 (rW aS ?_));show Option.bind (aM c r L σ1) _=_;exact rW h2 h
theorem iw(h1:aM c l L σ=some (.str x,σ1))(h2:aM c r L σ1=some (.str y,σ2))(hl:x.length+y.length<=a8):aM c (.J .add l r) L σ=some (.str (x++y),σ2):=jz h1 h2 (T6 hl)
theorem j8{p q}(h1:aM c l L σ=some (.int p,σ1))(h2:aM c r L σ1=some (.int q,σ2)):aM c (.J .add l r) L σ=some (.int (p+q),σ2):=jz h1 h2 rfl
theorem tE(h1:aM c e L σ=some (.str s,σ1))(h2:aM c lo L σ1=some (v,σ2))(h3:aM c hi L σ2=some (w,σ3))(Sd:fy s.length v=some i)(hj:eL s.length w=some j):aM c (.O e lo hi) L σ=some (.str (iA s i j),σ3):=by refine rW (d4 ..) (rW h1 (rW aS ?_));show Option.bind (aM c lo L σ1) _=_;refine rW h2 (rW aS ?_);show Option.bind (aM c _ L σ2) _=_;refine rW h3 (rW aS ?_);show ((fy s.length v).bind λi=>(eL s.length w).bind λj=>some (V.str (iA s i j),σ3))=_;exact rW Sd (rW aS (rW hj rfl))
theorem jS{es}(h:Qc c es L σ=some (vs,σ1))(h2:(if vs.length<=a8 then tH vs σ1 else none)=some (v,σ2)):aM c (.H es) L σ=some (v,σ2):=rW (lV ..) (rW h h2)
theorem fD(h:bR c t L σ=some (q,σ1))(h1:q=true->aM c l L σ1=some (v,σ2))(h2:q=false->aM c r L σ1=some (v,σ2)):aM c (.ag t l r) L σ=some (v,σ2):=by
 refine rW (uq ..) (rW h ?_);clear h;induction q with
 |true=>exact h1 rfl
 |false=>exact h2 rfl
theorem GB(h:bR c t L σ=some (q,σ))(h1:q=true->aM c l L σ=some (v,σ2))(h2:q=false->aM c r L σ=some (v,σ2)):aM c (.ag t l r) L σ=some (v,σ2):=fD h h1 h2
theorem Na(h1:aM c l L σ=some (.bool p,σ1))(h2:p=false->aM c r L σ1=some (.bool q,σ1)):aM c (.af l r) L σ=some (.bool (p||q),σ1):=by
 refine rW (o8 ..) (rW h1 ?_);clear h1;induction p with
 |true=>rfl
 |false=>exact h2 rfl
theorem GZ(h1:aM c l L σ=some (.bool p,σ1))(h2:p=true->aM c r L σ1=some (.bool q,σ1)):aM c (.ac l r) L σ=some (.bool (p&&q),σ1):=by
 refine rW (pU ..) (rW h1 ?_);clear h1;induction p with
 |true=>exact h2 rfl
 |false=>rfl
theorem ES(h1:bR c l L σ=some (p,σ1))(h2:p=true->bR c r L σ1=some (q,σ1)):bR c (.ac l r) L σ=some (p&&q,σ1):=by
 refine rW (jm ..) (rW h1 ?_);clear h1;induction p with
 |true=>exact h2 rfl
 |false=>rfl
theorem O4(h:aM c e L σ=some (.bool p,σ1)):aM c (.ah e) L σ=some (.bool (!p),σ1):=rW (yc ..) (rW h rfl)
theorem MV:iA s 0 j=s.take j:=by unfold iA;exact rW (List.drop_zero ..) (rW (Nat.sub_zero ..) rfl)
theorem lM{n k}:bP n (k:Nat)=min k n:=T8 (Int.not_lt.mpr (UH k))
theorem zr:s.take (min k s.length)=s.take k:=by
 rcases Nat.le_total k s.length with h|h
 ·exact rW (Ue h ..) rfl
 ·exact rW (Nat.min_eq_right h ..) (rW (List.take_length ..) (rW (UY h ..) rfl))
theorem oY(h1:aM c e L σ=some (.str s,σ))(h3:aM c hi L σ=some (.int (k:Nat),σ)):aM c (.O e dT hi) L σ=some (.str (s.take k),σ):=by have:=tE (v:=.none) (i:=0) (j:=bP s.length (k:Nat)) h1 aD h3 rfl rfl;rwa [MV,lM,zr]at this
theorem oU(h1:aM c e L σ=some (.str s,σ))(h2:aM c lo L σ=some (.int (k:Nat),σ))(h3:aM c hi L σ=some (.int ((k:Nat)+1),σ)):aM c (.O e lo hi) L σ=some (.str ((s.drop k).take 1),σ):=by
 have:=tE (i:=bP s.length (k:Nat)) (j:=bP s.length ((k+1:Nat):Int)) h1 h2 h3 rfl rfl;rw[lM,lM]at this;refine this.trans (Qg (λl=>some (V.str l,σ)) ?_);unfold iA;rcases Nat.lt_or_ge k s.length with h|h
 ·exact rW (Ue (Nat.le_of_lt h) ..) (rW (Ue h ..) (rW (Nat.succ_sub (aQ k) ..) (rW (Nat.sub_self ..) rfl)))
 ·exact rW (Nat.min_eq_right h ..) (rW (Nat.min_eq_right (Nat.le_succ_of_le h) ..) (rW (Nat.sub_self ..) (rW (Uz h ..) rfl)))
end
section
variable {d:Nat}{σ:St}{s:aC}
theorem q8(c x:Nat)(r:aC):fJ c (x::r)=if x=c then []::fJ c r else match fJ c r with|[]=>[[x]]|p::q=>(x::p)::q:=by rfl
theorem vW(c:Nat):∀m:aC,((fJ c m).map λp=>p.length+1).sum=m.length+1
 |[]=>rfl
 |x::r=>by
  have ih:=vW c r;refine rW (q8 ..) ?_;by_cases hx:x=c
  ·refine rW (T6 hx ..) (rW (Ul ..) (rW (List.sum_cons ..) (rW ih (rW (Ug ..) ?_))));show 0+1+_=_;exact ce (aF (fC 0xb7b285bbb31 rfl )) (aF (fC 0xbb2b7b28b61 rfl ))
  ·refine rW (T8 hx ..) ?_;generalize q:fJ c r=z3;induction z3 with
   |nil=>exact Uj q (lY c r)
   |cons p ps=>rw[q,Ul,List.sum_cons]at ih;show (List.map (λp=>p.length+1) ((x::p)::ps)).sum=_;exact rW (Ul ..) (rW (List.sum_cons ..) (rW (Ug ..) (rW (Ug ..) (ce (aF (c9 0x1bb2852bbb412b21b1841 rfl (aU ih :))) (aF (c9 0x2bb31bb28b611b1842b21 rfl (aU ih.symm :)))))))
theorem vU(c:Nat):∀m:aC,(fJ c m).length<=m.length+1
 |[]=>aQ _
 |x::r=>by
  have ih:=vU c r;refine rW (q8 ..) ?_;by_cases hx:x=c
  ·exact rW (T6 hx ..) (rW (Ug ..) (rW (Ug ..) (aF (cV 0xb11bbb411b2011 rfl ih))))
  ·refine rW (T8 hx ..) ?_;generalize q:fJ c r=z2;induction z2 with
   |nil=>exact Uj q (lY c r)
   |cons p ps=>rw[q,Ug]at ih;exact rW (Ug ..) (rW (Ug ..) (aF (cV 0xb11bbb411b2b11 rfl ih)))
theorem xJ{c}{l:aC}{B}(hl:l.length<=B):∀p∈fJ c l,p.length<=B:=λp hp=>by
 have h1:p.length+1<=((fJ c l).map λp=>p.length+1).sum:=by
  have:∀{ls:bg},p∈ls->p.length+1<=(ls.map λp=>p.length+1).sum:=λ{ls} h=>by
   induction ls with
   |nil=>cases h
   |cons q ls ih=>
    refine rW (Ul ..) (rW (List.sum_cons ..) ?_);rcases b8.mp h with rfl|h
    ·exact aF (cV 0xb11b18b51 rfl )
    ·have:=ih h;exact aF (c9 0xb112b28b6111b11 rfl this)
  exact this hp
 rw[vW]at h1;exact aF (c9 0x211b2111011b12b21 rfl h1 hl)
theorem wA{c}{s:aC}(hs:s.length<=200):zb [c] (.str s) σ=some (.ref σ.length,σ++[.list ((fJ c s).map V.str)]):=by
 have e:=q6 s c;show (if _ then bO _ σ else none)=_;have h1:((Txt.split (aT s) (aT [c])).all λx=>decide (x.length<=a8))=true:=by
  refine a9.mpr λx hx=>Uf ?_;have:kZ x∈fJ c s:=rW e.symm (UM hx);have:=xJ hs _ this;have q:x.length=(kZ x).length:=by show x.cps.size=x.cps.toList.length;exact rW (Array.length_toList ..) rfl
  refine rW q ?_;unfold a8;exact aF (fC 0x1186a07b71c873011 rfl this)
 refine rW (T6 ⟨Uv _ _,h1⟩ ..) ?_;have e2:(Txt.split (aT s) (aT [c])).map (λx=>V.str (kZ x))=(fJ c s).map V.str:=by exact rW e.symm (rW (Up ..) rfl)
 exact rW e2 (bx (by refine rW bA ?_;have:=vU c s;unfold a8;exact aF (cV 0x11186a07b71c873011b1111 rfl this hs)))
end
theorem n9(c:Nat):∀l,(fJ c l).length=l.count c+1
 |[]=>rfl
 |x::r=>by
  have ih:=n9 c r;by_cases h:x=c
  ·subst h;exact rW (xe ..) (rW (Ug ..) (rW ih (rW (List.count_cons_self ..) rfl)))
  ·refine rW (List.count_cons_of_ne h ..) ?_;generalize hs:fJ c r=z1;induction z1 with
   |nil=>exact Uj hs (lY c r)
   |cons p q=>refine rW (tR h hs ..) ?_;rw[hs]at ih;exact ih
theorem Bh:∀l,(bL 10 l=none/\fJ 10 l=[l])\/∃i p q t,bL 10 l=some i/\fJ 10 l=p::t/\t.getLast? = some q/\q.length=l.length-(i+1):=by
 intro l;induction l with
 |nil=>exact .inl ⟨rfl,rfl⟩
 |cons x r ih=>
  have e:bL 10 (x::r)=match bL 10 r with|some i=>some (i+1)|none=>if x=10 then some 0 else none:=rfl
  rcases ih with ⟨h1,h2⟩|⟨i,p,q,t,h1,h2,h3,h4⟩<;>rw[h1]at e
  ·by_cases h:x=10
   ·subst h;exact .inr ⟨0,[],r,[r],e,(xe 10 r).trans (rW h2 rfl),rfl,rfl⟩
   ·exact .inl ⟨e.trans (T8 h),tR h h2⟩
  ·have h5:q.length=(x::r).length-(i+1+1):=h4.trans (Nat.add_sub_add_right ..).symm;by_cases h:x=10
   ·subst h;exact .inr ⟨_,[],q,p::t,e,(xe 10 r).trans (rW h2 rfl),by refine rW (List.getLast?_cons ..) (rW h3 ?_);rfl,h5⟩
   ·exact .inr ⟨_,x::p,q,t,e,tR h h2,h3,h5⟩
theorem AK(l:aC):∃q,(fJ 10 l).getLast? = some q/\q.length=cW 0 l:=by
 unfold cW;rcases Bh l with ⟨h1,h2⟩|⟨i,p,q,t,h1,h2,h3,h4⟩<;>rw[h1,h2]
 ·exact ⟨l,rfl,(UU _).symm⟩
 ·exact ⟨q,by refine rW (List.getLast?_cons ..) (rW h3 ?_);rfl,h4⟩
set_option tactic.hygienic true in
theorem Ef{m:aC}{a b}(hb:b<=m.length)(h:a<=b)(e:xZ (m.take a)=xZ (m.take b)):a=b:=by
 have hm:m.take b=m.take a++(m.drop a).take (b-a):=by exact rW (List.take_add ..).symm (rW (Nat.add_sub_cancel' h ..) rfl)
 have e1:(m.take a).count 10+1=(m.take b).count 10+1/\cW 0 (m.take a)=cW 0 (m.take b):=by
  unfold xZ at e;injection e with h1
  injection h1 with h2 h3
  injection h3 with h3 _
  injection h2 with h2
  injection h3 with h3
  exact ⟨Int.ofNat.inj h2,Int.ofNat.inj h3⟩
 obtain ⟨e1,e2⟩:=e1;rw[hm,List.count_append]at e1;rw[hm,<-kQ]at e2;have h0:((m.drop a).take (b-a)).count 10=0:=ce (aF (cV 0x117b21b11018b51 rfl (aU e1.symm :))) (aF (fC 0x71b11 rfl ));have hn:10∉(m.drop a).take (b-a):=List.count_eq_zero.mp h0;have hl:bL 10 ((m.drop a).take (b-a))=none:=by
  refine a7 λkC=>?_;rcases Bh ((m.drop a).take (b-a)) with ⟨h1,_⟩|⟨i,p,q,t,h1,h2,_⟩
  ·exact kC h1
  ·rw[q7 10 _ hn]at h2;obtain ⟨rfl,rfl⟩:=U5 h2;refine kC ?_;rename_i h3;exact bl h3.1
 unfold cW at e2;rw[hl]at e2;have:((m.drop a).take (b-a)).length=0:=by have e3:cW 0 (m.take a)=cW 0 (m.take a)+((m.drop a).take (b-a)).length:=e2;exact ce (aF (cV 0x117b2101101841 rfl (aU e3.symm :))) (aF (fC 0x71b11 rfl ))
 rw[Uh,bV,Ue (Nat.sub_le_sub_right hb a)]at this;exact ce h (Nat.sub_eq_zero_iff_le.mp this)
section
variable {d:Nat}{σ:St}{s:aC}
theorem NE(hC:j' σ)(hs:s.length<=200):rF (d+1) 808 [.str s] σ=some (.I (xZ s),σ):=by
 obtain ⟨q,h1,h2⟩:=AK s;have hg:∀{L:aR},aJ 55 L=some (.ref σ.length)->aM (cD d) (.len (.q 55)) L (σ++[O.list ((fJ 10 s).map V.str)])=some (.int ((s.count 10+1:Nat)),σ++[O.list ((fJ 10 s).map V.str)]):=λh=>by refine rW (pB ..) (rW (aN h ..) ?_);show ((σ++[O.list ((fJ 10 s).map V.str)])[σ.length]?).bind _=_;exact rW (bh ..) (rW (n9 ..).symm (rW (UC (as:=fJ 10 s) V.str ..).symm rfl))
 have e2:aM (cD d) (.len (.sub (.q 55) cZ)) [(56,.str s),(55,.ref σ.length)] (σ++[O.list ((fJ 10 s).map V.str)])=some (.int (cW 0 s:Nat),σ++[O.list ((fJ 10 s).map V.str)]):=by refine rW h2.symm (Dx (show (((σ++[O.list ((fJ 10 s).map V.str)])[σ.length]?).bind _).map _=_ from (rW (bh ..) (rW aS ?_))));show Option.map _ ((d9 ((fJ 10 s).map V.str).length (-1)).bind _)=_;refine rW (fL (by rw[UC,n9];exact Nat.succ_pos _) ..) (rW aS (rW bA (rW (UV ..) (rW (List.getLast?_eq_getElem? ..).symm (rW h1 ?_)))));rfl
 exact kX ⟨rfl,rfl⟩ rfl (aW (show aM (cD d) (.splitC (.q 56) [10]) [(56,.str s)] σ=_ from wA hs) (Cb (v:=.I (xZ s)) (jS (ed (hg rfl) e2) rfl) rfl (eE hC) ⟨rfl,rfl⟩))
end
end
section
open Builtin.Str StrLaws
inductive bS where|w (s:aC)|n (k:Nat)
noncomputable def ew:aC:=dd
noncomputable def EX:aC:=[110,97,109,101]
noncomputable def cQ:aC:=cX
noncomputable def JO:aC:=yJ
noncomputable def wk:aC:=oS
noncomputable def qi:aC:=[99,104,97,114,65,115,73,110,116]
noncomputable def o9:aC:=A6
noncomputable def xR:aC:=Be
noncomputable def qN:aC:=BV
noncomputable def Jr:aC:=zU
noncomputable def sf:aC:=Bv
noncomputable def ir:aC:=[105,110,118,97,108,105,100,45,99,111,100,101,112,111,105,110,116]
noncomputable def rg:aC:=yw
noncomputable def dE:bS->V
 |.w s=>.I (.tuple [.str s,.int 0])
 |.n k=>.I (.tuple [.str o9,.int (k:Nat)])
noncomputable def cy:bS->V
 |.w s=>.I (.dict [(ew,.int 7),(cQ,.str s)])
 |.n k=>.I (.dict [(ew,.int 7),(cQ,.str o9),(wk,.I (.dict [(qi,.int (k:Nat))]))])
theorem BH{σ n}(l:List bS):(l.map cy).map (rv σ n)=l.map cy:=by refine rW (Up ..) ?_;exact Un λf J=>by induction f<;>rfl
noncomputable def jJ(s:aC):Bool:=((([]:aC)==s)||((([38]:aC)==s)||((([60]:aC)==s)||((([32]:aC)==s)||((([10]:aC)==s)||((([9]:aC)==s)||((([12]:aC)==s)||false)))))))
noncomputable def iV:aC:=GN
noncomputable def iL(s:aC):Bool:=!(s==[])&&v5 s iV
noncomputable def gz:aC:=rm
noncomputable def kz:aC:=[48,49,50,51,52,53,54,55,56,57]
noncomputable def er:aC:=[97,98,99,100,101,102,103,104,105,106,107,108,109,110,111,112,113,114,115,116,117,118,119,120,121,122,65,66,67,68,69,70,71,72,73,74,75,76,77,78,79,80,81,82,83,84,85,86,87,88,89,90]
noncomputable def eU(PY:Bool):aC:=bif PY then gz else kz
noncomputable def base(PY:Bool):Nat:=bif PY then 16 else 10
noncomputable def dB(PY:Bool)(l:aC):Nat:=xq (base PY) l
noncomputable def iy(n:Nat):Bool:=n==0||(n==13||(Nat.ble 128 n&&Nat.ble n 159))
noncomputable def r7(n:Nat):Bool:=Nat.blt 1114111 n||(Nat.ble 55296 n&&Nat.ble n 57343)
noncomputable def tr(n:Nat):Bool:=(Nat.blt n 32 && !(n==9||(n==10||n==12)))||(n==127||((Nat.ble 64976 n&&Nat.ble n 65007)||Nat.blt 65533 (n%65536)))
noncomputable def sD(n:Nat):aC:=match L3.tab46.lookup (n:Int) with|some s=>s|none=>[]
noncomputable def eD(n:Nat):aC×Bool:=bif iy n then (sD n,true) else bif r7 n then (dZ,true) else ([n],tr n)
noncomputable def cJ(w b x:aC):aC:=bif decide ((b.length:Int)<(x.length:Nat))&&x.isPrefixOf w then x else b
noncomputable def db(w:aC):aC:=iP.foldl (cJ w) []
noncomputable def dA(b:aC):Bool:=match b.getLast? with|some x=>([x]:aC)==[59]|none=>true
noncomputable def Mj(s:aC):Bool:=(([120]:aC)==s)||((([88]:aC)==s)||false)
noncomputable def ny(s:aC):Bool:=s==[35]
noncomputable def xB(PQ:aC):Bool:=Mj ((PQ.drop 1).take 1)
noncomputable def fst(PY:Bool):Nat:=bif PY then 2 else 1
noncomputable def gh(PY:Bool)(PQ:aC):aC:=(PQ.drop (fst PY)).takeWhile λc=>(eU PY).contains c
noncomputable def kG(PY:Bool)(PQ:aC):aC×Nat×List bS:=
 bif (gh PY PQ).isEmpty then (38::PQ.take (fst PY),fst PY,[.w xR])
 else
  bif (PQ.drop (fst PY+(gh PY PQ).length)).take 1==[59] then ((eD (dB PY (gh PY PQ))).1,fst PY+(gh PY PQ).length+1,bif (eD (dB PY (gh PY PQ))).2 then [.n (dB PY (gh PY PQ))] else [])
  else ((eD (dB PY (gh PY PQ))).1,fst PY+(gh PY PQ).length,(bif (eD (dB PY (gh PY PQ))).2 then [.n (dB PY (gh PY PQ))] else [])++[.w qN])
noncomputable def xY(PQ:aC):aC×Nat×List bS:=
 bif db PQ==[] then ([38],0,[.w Jr])
 else bif !dA (db PQ)&&iL ((PQ.drop (db PQ).length).take 1) then (38::db PQ,(db PQ).length,[.w sf])
 else ((xU (db PQ)).getD [],(db PQ).length,bif dA (db PQ) then [] else [.w sf])
noncomputable def cK(PQ:aC):aC×Nat×List bS:=
 bif jJ (PQ.take 1) then ([38],0,[]) else bif ny (PQ.take 1) then kG (xB PQ) PQ else xY PQ
noncomputable def w6(PO:Nat):aC:=bif PO==62 then [32,10,9,12,62] else [PO]
noncomputable def pn(PO c:Nat):Bool:=!(w6 PO).contains c
noncomputable def xT(PO:Nat):Nat->aC->aC×List bS
 |0,_=>([],[])
 |_+1,[]=>([],[])
 |k+1,c::r=>
  if c=0 then (65533::(xT PO k r).1,.w ir::(xT PO k r).2)
  else if c=38 then ((cK r).1++(xT PO k (r.drop (cK r).2.1)).1,(cK r).2.2++(xT PO k (r.drop (cK r).2.1)).2)
  else (c::(xT PO k r).1,(bif PO==62&&ga c then [.w rg] else [])++(xT PO k r).2)
noncomputable def rd(PO:Nat)(p:aC):aC×List bS:=xT PO p.length p
theorem vF{PO}:∀k,xT PO k []=([],[]):=by
 intro k;induction k with
 |zero=>exact rfl
 |succ _ ih=>exact rfl
theorem tV{PO}:∀(a b:Nat) (p:aC),p.length<=a->p.length<=b->xT PO a p=xT PO b p
 |_,_,[],_,_=>(vF _).trans (vF _).symm
 |a+1,b+1,c::r,ha,hb=>by have ha:=Nat.le_of_succ_le_succ ha;have hb:=Nat.le_of_succ_le_succ hb;have h1:=tV (PO:=PO) a b r ha hb;have hd:(r.drop (cK r).2.1).length<=r.length:=rW bV (UQ ..);have h2:=tV (PO:=PO) a b (r.drop (cK r).2.1) (aH hd ha) (aH hd hb);show (if c=0 then _ else if c=38 then _ else _)=(if c=0 then _ else if c=38 then _ else _);exact rW h1 (rW h2 rfl)
theorem yq{PO}:rd PO []=([],[]):=rfl
theorem k6{PO r}:rd PO (0::r)=(65533::(rd PO r).1,.w ir::(rd PO r).2):=rfl
theorem uf{PO}{r:aC}:rd PO (38::r)=((cK r).1++(rd PO (r.drop (cK r).2.1)).1,(cK r).2.2++(rd PO (r.drop (cK r).2.1)).2):=by have h:=tV (PO:=PO) r.length (r.drop (cK r).2.1).length (r.drop (cK r).2.1) (rW bV (UQ ..)) (aQ _);show ((cK r).1++(xT PO r.length _).1,(cK r).2.2++(xT PO r.length _).2)=_;exact rW h rfl
theorem oj{PO c r}(h1:c≠0)(h2:c≠38):rd PO (c::r)=(c::(rd PO r).1,(bif PO==62&&ga c then [.w rg] else [])++(rd PO r).2):=
 (T8 h1).trans (T8 h2)
theorem t9{PO b}:∀{a:aC},(∀c∈a,c≠0/\c≠38/\(PO=62->ga c=false))->rd PO (a++b)=(a++(rd PO b).1,(rd PO b).2)
 |[],_=>rfl
 |c::a,h=>by
  refine a7 λkC=>?_;obtain ⟨h1,h2,h3⟩:=h c (.head _);have:(PO==62&&ga c)=false:=by
   by_cases q:PO=62
   ·exact rW (h3 q ..) (rW (Bool.and_false ..) rfl)
   ·exact rW (T7 q ..) rfl
  exact kC (rW (UZ ..) (rW (oj h1 h2 ..) (rW this (rW (t9 λc hc=>h c (.tail _ hc) ..) rfl))))
end
section
open Builtin.Str StrLaws
theorem cw(a b:Nat):(([a]:aC)==[b])=(a==b):=by
 by_cases h:a=b
 ·subst h;exact rW (Ua ..) (rW (Ua ..) rfl)
 ·exact rW (T7 h ..) (rW (T7 λe=>h (U5 e).1 ..) rfl)
noncomputable def pK:aC:=er++(kz++[59,35])
theorem AS:(pK.all λc=>(pn 34 c&&(pn 39 c&&pn 62 c))&&(!(c==0)&&(!(c==38) && !ga c)))=true:=by decide +kernel
noncomputable def i4(PO:Nat):Prop:=PO=34\/PO=39\/PO=62
theorem kt{PO c}(hs:i4 PO)(h:c∈pK):pn PO c=true:=by
 have:=a9.mp AS c h;simp only[Us]at this;rcases hs with rfl|rfl|rfl
 ·exact this.1.1
 ·exact this.1.2.1
 ·exact this.1.2.2
theorem Kg{PO c}(h:c∈pK):c≠0/\c≠38/\(PO=62->ga c=false):=by have:=a9.mp AS c h;simp only[Us,Bool.not_eq_true',beq_eq_false_iff_ne]at this;exact ⟨this.2.1,this.2.2.1,λJ=>this.2.2.2⟩
theorem zA(w:aC):∀(xs:bg) (b:aC),(xs.foldl (cJ w) b=b\/xs.foldl (cJ w) b∈xs)/\(b<+:w->xs.foldl (cJ w) b<+:w)/\b.length<=(xs.foldl (cJ w) b).length/\∀x∈xs,x<+:w->x.length<=(xs.foldl (cJ w) b).length:=by
 intro xs;induction xs with
 |nil=>exact λb=>⟨.inl rfl,id,aQ _,λx h=>Uj h US⟩
 |cons y xs ih=>
  intro b;obtain ⟨h1,h2,h3,h4⟩:=ih (cJ w b y);show ((xs.foldl (cJ w) (cJ w b y))=b\/(xs.foldl (cJ w) (cJ w b y))∈y::xs)/\(b<+:w->(xs.foldl (cJ w) (cJ w b y))<+:w)/\b.length<=(xs.foldl (cJ w) (cJ w b y)).length/\∀x∈y::xs,x<+:w->x.length<=(xs.foldl (cJ w) (cJ w b y)).length;have hs:(cJ w b y=y/\y<+:w/\b.length<y.length)\/(cJ w b y=b/\(y<+:w->y.length<=b.length)):=by
   unfold cJ;cases hq:decide ((b.length:Int)<(y.length:Nat))&&y.isPrefixOf w with
   |true=>rw[Us,List.isPrefixOf_iff_prefix]at hq;have:=T9 hq.1;exact .inl ⟨rfl,hq.2,by exact Uo (cV 0x111111b11 rfl (Int.ofNat_lt.mp this :))⟩
   |false=>refine .inr ⟨rfl,λhp=>?_⟩;rw[List.isPrefixOf_iff_prefix.mpr hp,Bool.and_true]at hq;have:=of_decide_eq_false hq;exact aF λq=>this (Int.ofNat_lt.mpr q)
  generalize xs.foldl (cJ w) (cJ w b y)=r at h1 h2 h3 h4 ⊢;generalize cJ w b y=c at h1 h2 h3 hs;refine ⟨?_,λhb=>h2 ?_,?_,λx hx hp=>?_⟩
  ·rcases h1 with h1|h1
   ·rcases hs with ⟨e,_⟩|⟨e,_⟩
    ·exact .inr (rW h1 (rW e (.head _)))
    ·exact .inl (h1.trans e)
   ·exact .inr (.tail _ h1)
  ·rcases hs with ⟨e,hp,_⟩|⟨e,_⟩
   ·exact e▸hp
   ·exact e▸hb
  ·rcases hs with ⟨e,_,hl⟩|⟨e,_⟩
   ·rw[e]at h3;exact aF (c9 0x211b2111011012b21 rfl hl h3)
   ·rw[e]at h3;exact h3
  ·rcases b8.mp hx with rfl|hx
   ·rcases hs with ⟨e,_⟩|⟨e,hl⟩
    ·rw[e]at h3;exact h3
    ·rw[e]at h3;exact aH (hl hp) h3
   ·exact h4 x hx hp
structure De(w b:aC):Prop where
 nm:b=[]\/b∈iP
 pre:b<+:w
 max:∀x∈iP,x<+:w->x.length<=b.length
theorem ez(w:aC):De w (db w):=by refine a7 λkC=>?_;obtain ⟨h1,h2,_,h4⟩:=zA w iP [];exact kC ⟨h1,h2 (List.nil_prefix),h4⟩
theorem De.uniq{w b c}(h:De w b)(k:De w c):b=c:=by
 have e:b.length=c.length:=by
  refine ce ?_ ?_
  ·rcases h.nm with rfl|q
   ·exact bu _
   ·exact k.max b q h.pre
  ·rcases k.nm with rfl|q
   ·exact bu _
   ·exact h.max c q k.pre
 exact rW (List.prefix_iff_eq_take.mp h.pre ..) (rW (List.prefix_iff_eq_take.mp k.pre ..) (rW e rfl))
theorem De.eq{w b}(h:De w b):db w=b:=(ez w).uniq h
theorem wa:(iP.all λx=>match xU x with|some v=>Nat.ble v.length x.length&&x.all λc=>pK.contains c|none=>false)=true:=by decide +kernel
theorem AW:([]:aC)∉iP:=by decide +kernel
theorem v4{x:aC}(hx:x∈iP):∃v,xU x=some v/\v.length<=x.length:=by
 have:=a9.mp wa x hx;generalize q:xU x=z5;induction z5 with
 |none=>rw[q]at this;exact bU this
 |some v=>rw[q]at this;exact ⟨v,rfl,cg (Bool.and_eq_true_iff.mp this).1⟩
theorem KU{x}(hx:x∈iP):∀c∈x,c∈pK:=λc hc=>by
 have:=a9.mp wa x hx;generalize q:xU x=z4;induction z4 with
 |none=>rw[q]at this;exact bU this
 |some v=>rw[q]at this;exact List.contains_iff_mem.mp (a9.mp (Bool.and_eq_true_iff.mp this).2 c hc)
structure Rd(w:aC)(n:Nat):Prop where
 le:n<=w.length
 all:∀j,1<=j->j<=n->hp (w.take j)=true
 stop:n=w.length\/hp (w.take (n+1))=false
theorem wW{x w:aC}(hx:x∈iP)(hw:x<+:w){j}(hj:j<=x.length):hp (w.take j)=true:=by
 refine List.any_eq_true.mpr ⟨x,hx,List.isPrefixOf_iff_prefix.mpr ?_⟩;have:w.take j=x.take j:=by obtain ⟨r,rfl⟩:=hw;exact rW (List.take_append_of_le_length hj ..) rfl
 exact rW this (List.take_prefix j x)
theorem Rd.nm{w n}(h:Rd w n){x:aC}(hx:x∈iP)(hw:x<+:w):x.length<=n:=by
 rcases h.stop with e|e
 ·exact rW e hw.length_le
 ·refine aF λq=>?_;rw[wW hx hw q]at e;exact bU e.symm
theorem Rd.ok{w:aC}{n}(h:Rd w n):∀c∈w.take n,c∈pK:=λc hc=>by
 refine a7 λkC=>?_;induction n with
 |zero=>refine kC ?_;rw[List.take_zero]at hc;cases hc
 |succ n=>obtain ⟨x,hx,hp⟩:=List.any_eq_true.mp (h.all (n+1) (cO (bu _)) (aQ _));exact kC (KU hx c ((List.isPrefixOf_iff_prefix.mp hp).subset hc))
noncomputable abbrev bT(PO:Nat)(w:aC):aC:=w.takeWhile (pn PO)
theorem nM{PO n}{w:aC}(hs:i4 PO)(h:∀c∈w.take n,c∈pK):bT PO w=w.take n++bT PO (w.drop n):=by have:=lS (p:=pn PO) (w.drop n) λc hc=>kt hs (h c hc);rwa [List.take_append_drop]at this
theorem rD{PO}(hs:i4 PO)(w:aC):db (bT PO w)=db w:=by
 have h:=ez w;refine De.eq (b:=db w) ⟨h.nm,?_,λx hx hp=>h.max x hx (hp.trans (List.takeWhile_prefix _))⟩;rcases h.nm with e|e
 ·exact rW e List.nil_prefix
 ·obtain ⟨r,hr⟩:=h.pre;have hx:bT PO (db w++r)=db w++bT PO r:=lS r λc hc=>kt hs (KU e c hc);rw[hr]at hx;exact rW hx (List.prefix_append _ _)
theorem Bj(u:aC):∀m,m<=u.length+1->(∀x∈iP,x<+:u->x.length<m)->BQ u m=if db u=[] then none else some (db u):=by
 intro m;induction m with
 |zero=>
  intro _ h;have h1:=ez u;rcases h1.nm with e|e
  ·rw[T6 e];rfl
  ·exact Uj (h _ e h1.pre) (Nat.not_lt_zero _)
 |succ m ih=>
  intro hm h;show (if mem (u.take m)=true then some (u.take m) else BQ u m)=_;by_cases q:mem (u.take m)=true
  ·rw[T6 q];have hx:=mem_iff.mp q;have hl:(u.take m).length=m:=rW (Uh ..) (Ue (Nat.le_of_succ_le_succ hm));have e:db u=u.take m:=De.eq ⟨.inr hx,List.take_prefix m u,λx hx hp=>rW hl (Nat.le_of_lt_succ (h x hx hp))⟩;exact rW e (rW (T8 (show ¬u.take m=[] from λe=>AW (e▸hx)) ..) rfl)
  ·rw[T8 q];refine ih (Nat.le_of_succ_le hm) λx hx hp=>?_;have:=h x hx hp;refine Nat.lt_of_le_of_ne (Nat.le_of_lt_succ this) λe=>q (mem_iff.mpr ?_);rw[<-e,<-List.prefix_iff_eq_take.mp hp];exact hx
theorem Rd.lp{w:aC}{n}(h:Rd w n):BQ (w.take n) (n+1)=if db w=[] then none else some (db w):=by
 have hl:(w.take n).length=n:=rW (Uh ..) (Ue h.le);have e:db (w.take n)=db w:=by
  have k:=ez w;refine De.eq ⟨k.nm,?_,λx hx hp=>k.max x hx (hp.trans (List.take_prefix n w))⟩;rcases k.nm with e|e
  ·exact rW e List.nil_prefix
  ·refine List.prefix_of_prefix_length_le k.pre (List.take_prefix n w) ?_;rw[hl];exact h.nm e k.pre
 rw[Bj (w.take n) (n+1) (by rw[hl];exact aQ _) λx hx hp=>Nat.lt_succ_of_le (hl▸hp.length_le),e]
noncomputable def cc(w:aC)(i:Nat):List V:=(List.range i).map λj=>cL w[j]?
theorem hU(w:aC)(i:Nat):cc w (i+1)=cc w i++[cL w[i]?]:=by unfold cc;exact rW (List.range_succ ..) (rW ba rfl)
theorem d8(w:aC)(i:Nat):(cc w i).length=i:=by unfold cc;exact rW bA (rW (List.length_range ..) rfl)
theorem gT(w:aC):∀{i:Nat},i<=w.length->cc w i=((w.take i).map λc=>[c]).map V.str
 |0,_=>rfl
 |i+1,h=>by have hx:w[i]? = some w[i]:=da h;exact rW (hU ..) (rW (gT w (Nat.le_of_succ_le h) ..) (rW (List.take_succ_eq_append_getElem h ..) (rW ba (rW ba (rW hx rfl)))))
theorem ey:∀l:aC,(l.map λc=>[c]).flatten=l:=by
 intro l;induction l with
 |nil=>exact rfl
 |cons x l ih=>exact rW (Ul ..) (rW (List.flatten_cons ..) (rW ih rfl))
theorem n7{w i j}(h:j<i):(cc w i)[j]? = some (cL w[j]?):=by unfold cc;refine rW (UV ..) (rW (List.getElem?_range h ..) ?_);rfl
theorem Br{w:aC}{n j}(h:n<=w.length):(cc w n).drop j=(((w.take n).drop j).map λc=>[c]).map V.str:=by exact rW (gT w h ..) (rW (List.map_drop ..) (rW (List.map_drop ..) rfl))
noncomputable def mz(c:Nat):Bool:=(([9]:aC)==[c])||((([10]:aC)==[c])||((([12]:aC)==[c])||((([32]:aC)==[c])||((([13]:aC)==[c])||false))))
noncomputable def J2(c:Nat):Bool:=false||((([60]:aC)==[c])||((([38]:aC)==[c])||false))
noncomputable def JK(PO:Nat)(c0:Option Nat):Bool:=match c0 with|none=>true|some c=>mz c||(J2 c||(([PO]:aC)==[c]))
theorem C7:([34,39,62].all λs=>(List.range 63).all λc=>c==13||((mz c||(J2 c||(([s]:aC)==[c])))==(bif pn s c then jJ [c] else true)))=true:=by decide +kernel
theorem JB{p f g:Nat->Bool}(h:((List.range 63).all λc=>p c||f c==g c)=true)(k:∀n,f (n+63)=g (n+63)){x}(hp:p x=false):f x=g x:=by
 by_cases hc:x<63
 ·exact (Bool.or_eq_true_iff.mp (a9.mp h x (List.mem_range.mpr hc))).elim (λq=>Uj (q.symm.trans hp) (by decide)) eq_of_beq
 ·obtain ⟨n,rfl⟩:=Nat.exists_eq_add_of_le' (aF hc);exact k n
theorem NA{PO c}(hs:i4 PO)(h:c≠13):(mz c||(J2 c||(([PO]:aC)==[c])))=(bif pn PO c then jJ [c] else true):=by
 have hm:PO∈[34,39,62]:=by rcases hs with rfl|rfl|rfl<;>decide
 exact JB (p:=λc=>c==13) (f:=λc=>mz c||(J2 c||(([PO]:aC)==[c]))) (g:=λc=>bif pn PO c then jJ [c] else true) (a9.mp C7 PO hm) (by rcases hs with rfl|rfl|rfl<;>exact λJ=>rfl) (T7 h)
theorem AM{PO}(hs:i4 PO){w}(hw:13∉w):JK PO w[0]? = jJ ((bT PO w).take 1):=by
 induction w with
 |nil=>rfl
 |cons c r=>show _=jJ (((c::r).takeWhile (pn PO)).take 1);refine (NA hs λe=>hw (e▸.head _)).trans (rW (Ui ..) ?_);generalize pn PO c=z3;induction z3<;>rfl
noncomputable def xz(c:Nat):Bool:=er.contains c||(kz.contains c||c==61)
noncomputable def mL:Option Nat->Bool|none=>false|some c=>xz c
theorem Du:(iV.all xz&&(er++(kz++[61])).all λc=>iV.contains c)=true:=by decide +kernel
theorem Gr{c}:iL [c]=xz c:=by
 have h:=Bool.and_eq_true_iff.mp Du;show (!([c]==[])&&v5 [c] iV)=_;refine rW (show (([c]:aC)==[])=false from rfl ..) (rW (f7 ..) ?_);show (true&&iV.contains c)=_;refine rW (Bool.true_and ..) ?_;generalize hq:iV.contains c=z2;induction z2 with
 |true=>exact (a9.mp h.1 c (List.contains_iff_mem.mp hq)).symm
 |false=>
  refine (Bool.eq_false_iff.mpr λq=>?_).symm;have:c∈er++(kz++[61]):=by unfold xz at q;simp only[Bool.or_eq_true,List.contains_iff_mem,beq_iff_eq]at q;simpa using q
  rw[a9.mp h.2 c this]at hq;exact bU hq.symm
theorem Ib:((er++(kz++[61])).all λc=>pn 34 c&&(pn 39 c&&pn 62 c))=true:=by decide +kernel
theorem Ai{PO c}(hs:i4 PO)(h:xz c=true):pn PO c=true:=by
 have:c∈er++(kz++[61]):=by unfold xz at h;simp only[Bool.or_eq_true,List.contains_iff_mem,beq_iff_eq]at h;simpa using h
 have:=a9.mp Ib c this;simp only[Us]at this;rcases hs with rfl|rfl|rfl
 ·exact this.1
 ·exact this.2.1
 ·exact this.2.2
theorem kL(PO:Nat)(w:aC):∃r,w=bT PO w++r/\∀c q,r=c::q->pn PO c=false:=by
 refine ⟨w.dropWhile (pn PO),List.takeWhile_append_dropWhile.symm,λc q h=>?_⟩;rcases oO (p:=pn PO) w with e|⟨c',r',e,hc⟩
 ·rw[e]at h;cases h
 ·rw[e]at h;clear e;cases h;exact hc
theorem kU{PO j w}{A:Option Nat->Bool}(h0:A none=false)(hA:∀c,A (some c)=true->pn PO c=true)(hj:j<=(bT PO w).length):A w[j]? = A (bT PO w)[j]?:=by
 refine a7 λkC=>?_;obtain ⟨r,hw,hr⟩:=kL PO w;by_cases h:j<(bT PO w).length
 ·have:w[j]? = (bT PO w)[j]?:=by
   have:(bT PO w++r)[j]? = (bT PO w)[j]?:=List.getElem?_append_left h;rwa [<-hw]at this
  exact kC (rW this rfl)
 ·have h2:(bT PO w)[j]? = none:=U4 (aF h);have TP:j=(bT PO w).length:=ce hj (aF h);have h3:w[j]? = r[0]?:=by
   have:(bT PO w++r)[j]? = r[0]?:=rW (List.getElem?_append_right (aU TP.symm) ..) (rW TP (rW (Nat.sub_self ..) rfl));rwa [<-hw]at this
  refine kC (rW h2 (rW h0 (rW h3 ?_)));clear h3 hw;induction r with
  |nil=>exact h0
  |cons c q=>exact Bool.eq_false_iff.mpr λe=>Bool.noConfusion ((hA c e).symm.trans (hr c q rfl))
noncomputable def kA:Option Nat->aC|some c=>[c]|none=>[]
theorem gR{l:aC}{j}:(l.drop j).take 1=kA l[j]?:=by
 generalize h:l[j]? = z1;induction z1 with
 |none=>refine rW (Uz (List.getElem?_eq_none_iff.mp h) ..) ?_;rfl
 |some c=>obtain ⟨hl,e⟩:=bY.mp h;exact rW (Uc hl ..) (rW e rfl)
end
section
open Builtin.Str StrLaws
structure Ce(PO:Nat)(w:aC)(n:Nat)(out:aC)(fs:List bS):Prop where
 le:n<=w.length
 ok:∀c∈w.take n,c∈pK
 rd:rd PO (38::bT PO w)=(out++(rd PO (bT PO (w.drop n))).1,fs++(rd PO (bT PO (w.drop n))).2)
section
variable {PO n s:Nat}{w o:aC}{fs:List bS}
theorem nI(hs:i4 PO)(le:n<=w.length)(ok:∀c∈w.take n,c∈pK)(hr:cK (bT PO w)=(o,s,fs))(hsn:s<=n):Ce PO w n (o++(w.take n).drop s) fs:=by refine ⟨le,ok,(rW (uf ..) (rW hr ?_))⟩;show (o++(rd PO ((bT PO w).drop s)).1,fs++(rd PO ((bT PO w).drop s)).2)=_;exact rW (nM hs ok ..) (rW (List.drop_append_of_le_length (rW (Uh ..) (rW (Ue le ..) hsn)) ..) (rW (t9 λc hc=>Kg (ok c (List.mem_of_mem_drop hc)) ..) (rW b9 rfl)))
theorem Ik(hs:i4 PO)(h:jJ ((bT PO w).take 1)=true):Ce PO w 0 [38] []:=
 nI (o:=[38]) hs (bu _) (λc hc=>by rw[List.take_zero]at hc;cases hc) (by unfold cK;exact rW h rfl) (aQ _)
theorem iU(hs:i4 PO):ny ((bT PO w).take 1)=(w[0]? == some 35):=by
 induction w with
 |nil=>rfl
 |cons c r=>
  show ny (((c::r).takeWhile (pn PO)).take 1)=((some c:Option Nat)==some 35);refine rW (Ui ..) ?_;by_cases h:c=35
  ·subst h;exact rW (kt hs (by decide +kernel:35∈pK) ..) rfl
  ·have e:((some c:Option Nat)==some 35)=false:=T7 λe=>h (aK e);refine rW e ?_;generalize pn PO c=Tm;induction Tm with
   |true=>exact (cw c 35).trans (T7 h)
   |false=>rfl
theorem Ba(hs:i4 PO){j}(hj:j<=(bT PO w).length):iL (((bT PO w).drop j).take 1)=mL w[j]?:=by
 have h:∀o:Option Nat,iL (kA o)=mL o:=λo=>by
  cases o with
  |none=>rfl
  |some c=>exact Gr
 rw[gR,h,kU (A:=mL) rfl (λc=>Ai hs) hj]
theorem Hh(hs:i4 PO)(R:Rd w n)(h1:jJ ((bT PO w).take 1)=false)(h2:w[0]?≠some 35)(hb:db w=[]):Ce PO w n (38::w.take n) [.w Jr]:=by refine nI (o:=[38]) (s:=0) hs R.le R.ok ?_ (bu _);unfold cK;refine rW h1 (rW (iU hs ..) (rW (T7 h2 ..) (rW (cond_false ..) (rW (cond_false ..) ?_))));unfold xY;rw[rD hs,hb];rfl
theorem IX(hs:i4 PO)(R:Rd w n)(h1:jJ ((bT PO w).take 1)=false)(h2:w[0]?≠some 35)(hb:db w≠[]):
 (db w).length<=n/\(∃v,xU (db w)=some v)/\Ce PO w n (bif !dA (db w)&&mL w[(db w).length]? then 38::w.take n else (xU (db w)).getD []++(w.take n).drop (db w).length) (bif dA (db w) then [] else [.w sf]):=by
 refine a7 λkC=>?_;have hm:db w∈iP:=(ez w).nm.resolve_left hb;have R4:=R.nm hm (ez w).pre;obtain ⟨v,ev,hv⟩:=v4 hm;refine kC ⟨R4,⟨v,ev⟩,?_⟩;have hbp:(db w).length<=(bT PO w).length:=by rw[nM hs R.ok,aP,Uh,Ue R.le];exact aH R4 (bC _ _)
 have hr:cK (bT PO w)=bif !dA (db w)&&mL w[(db w).length]? then (38::db w,(db w).length,[.w sf]) else ((xU (db w)).getD [],(db w).length,bif dA (db w) then [] else [.w sf]):=by unfold cK;rw[h1,iU hs,T7 h2,cond_false,cond_false];unfold xY;rw[rD hs,T7 hb,cond_false,Ba hs hbp]
 cases hq : !dA (db w)&&mL w[(db w).length]? with
 |true=>
  rw[hq]at hr;have hse:dA (db w)=false:=by
   generalize h:dA (db w)=Tn;induction Tn with
   |true=>rw[h]at hq;exact bU hq
   |false=>rfl
  have C:=nI hs R.le R.ok hr R4;have e:db w++(w.take n).drop (db w).length=w.take n:=by
   have h1:=List.prefix_iff_eq_take.mp (List.prefix_of_prefix_length_le (ez w).pre (List.take_prefix n w) (by rw[Uh,Ue R.le];exact R4))
   conv=>lhs;lhs;rw[h1]
   exact List.take_append_drop ..
  rw[hse];have C:Ce PO w n (38::(db w++(w.take n).drop (db w).length)) [.w sf]:=C;rw[e]at C;exact C
 |false=>rw[hq]at hr;exact nI hs R.le R.ok hr R4
noncomputable def xO:Option Nat->Bool|none=>false|some c=>Mj [c]
noncomputable def i7:Option Nat->Bool|none=>false|some c=>c==59
noncomputable def cG(PY:Bool)(w:aC):aC:=(w.drop (fst PY)).takeWhile λc=>(eU PY).contains c
theorem vw:(gz.all λc=>pK.contains c&&gz.contains c)=true/\(kz.all λc=>pK.contains c&&gz.contains c)=true:=by decide +kernel
theorem sO{PY c}(h:(eU PY).contains c=true):c∈pK/\c∈gz:=by
 have h:=List.contains_iff_mem.mp h;have:(pK.contains c&&gz.contains c)=true:=by
  induction PY with
  |true=>exact a9.mp vw.1 c h
  |false=>exact a9.mp vw.2 c h
 rw[Us,List.contains_iff_mem,List.contains_iff_mem]at this;exact this
theorem Lf{c}(h:Mj [c]=true):c∈pK:=by unfold Mj at h;simp only[cw,Bool.or_false,Bool.or_eq_true,beq_iff_eq]at h;rcases h with rfl|rfl<;>decide +kernel
theorem EC{A:Nat->Bool}{r}(hr:∀c q,r=c::q->A c=false):∀x:aC,(x++r).takeWhile A=x.takeWhile A:=by
 intro x;induction x with
 |nil=>
  induction r with
  |nil=>rfl
  |cons c q=>show (c::q).takeWhile A=[];exact rW (Ui ..) (rW (hr c q rfl ..) rfl)
 |cons c x ih=>show (c::(x++r)).takeWhile A=_;exact rW (Ui ..) (rW (Ui ..) (rW ih rfl))
theorem y5(hs:i4 PO){PY}(h:fst PY<=(bT PO w).length):gh PY (bT PO w)=cG PY w:=by
 refine a7 λkC=>?_;obtain ⟨r,hw,hr⟩:=kL PO w;have e:cG PY (bT PO w++r)=gh PY (bT PO w):=by unfold cG gh;exact rW (List.drop_append_of_le_length h ..) (EC (λc q e=>(Bool.eq_false_iff.mpr λk=>Bool.noConfusion ((kt hs (sO k).1).symm.trans (hr c q e)))) _)
 rw[<-hw]at e;exact kC e.symm
theorem Hu(hs:i4 PO)(h0:w[0]? = some 35):
 fst (xO w[1]?)+(cG (xO w[1]?) w).length<=w.length/\(∀c∈cG (xO w[1]?) w,(eU (xO w[1]?)).contains c=true) /\
 (cG (xO w[1]?) w=[]->Ce PO w (fst (xO w[1]?)) (38::w.take (fst (xO w[1]?))) [.w xR]) /\
 (cG (xO w[1]?) w≠[]->Ce PO w (fst (xO w[1]?)+(cG (xO w[1]?) w).length+bif i7 w[fst (xO w[1]?)+(cG (xO w[1]?) w).length]? then 1 else 0) (eD (dB (xO w[1]?) (cG (xO w[1]?) w))).1
  ((bif (eD (dB (xO w[1]?) (cG (xO w[1]?) w))).2 then [.n (dB (xO w[1]?) (cG (xO w[1]?) w))] else [])++bif i7 w[fst (xO w[1]?)+(cG (xO w[1]?) w).length]? then [] else [.w qN])):=by
 have p1:1<=(bT PO w).length:=by
  have:=kU (PO:=PO) (j:=0) (w:=w) (A:=λo=>o==some 35) rfl (λc h=>by have:c=35:=aK (eq_of_beq h);clear h;subst this;exact kt hs (by decide +kernel)) (bu _);rw[h0]at this;have:=eq_of_beq this.symm;exact (bY.mp this).1
 have hx:xO w[1]? = xO (bT PO w)[1]?:=kU rfl (λc h=>kt hs (Lf h)) p1;have Tz:xB (bT PO w)=xO w[1]?:=by refine rW hx ?_;unfold xB;refine rW (gR ..) ?_;generalize (bT PO w)[1]? = To;induction To<;>rfl
 generalize So:xO w[1]? = PY at hx Tz ⊢;have pf:fst PY<=(bT PO w).length:=by
  clear Tz So;induction PY with
  |false=>exact p1
  |true=>
   generalize h:(bT PO w)[1]? = z9;induction z9 with
   |none=>rw[h]at hx;exact bU hx.symm
   |some c=>exact (bY.mp h).1
 have RZ:=y5 (w:=w) hs pf;have hfa:∀c∈cG PY w,(eU PY).contains c=true:=λc hc=>mv hc;have Rg:(bT PO w).length<=w.length:=(Uy _).length_le;have pl:fst PY+(cG PY w).length<=(bT PO w).length:=by have:=(Uy (p:=λc=>(eU PY).contains c) (l:=(bT PO w).drop (fst PY))).length_le;refine rW (RZ ..).symm ?_;unfold gh;rw[bV]at this;exact aF (mD 0x21184b113121101131841 rfl (pL (aF (cV 0x11b1101111 rfl pf))) this)
 have hsm:((((bT PO w).drop (fst PY+(cG PY w).length)).take 1==[59]):Bool)=i7 w[fst PY+(cG PY w).length]?:=by
  rw[kU (A:=i7) rfl (λc h=>by have:c=59:=eq_of_beq h;clear h;subst this;exact kt hs (by decide +kernel)) pl,gR];generalize (bT PO w)[fst PY+(cG PY w).length]? = z8;induction z8 with
  |none=>rfl
  |some c=>exact cw c 59
 have Rq:jJ ((bT PO w).take 1)=false:=by
  refine a7 λkC=>?_;obtain ⟨r,hw,hr⟩:=kL PO w;refine kC ?_;generalize hp:bT PO w=z7;induction z7 with
  |nil=>rw[hp]at p1;cases p1
  |cons c q=>have:w[0]? = some c:=rW hw (rW hp rfl);rw[h0]at this;clear hp;obtain rfl:=aK this;rfl
 have hr:cK (bT PO w)=kG PY (bT PO w):=by unfold cK;exact rW (Rq ..) (rW (iU hs ..) (rW h0 (rW Tz rfl)))
 have hw0:∃r0,w=35::r0:=by
  clear hr Rq hsm pl Rg hfa RZ pf Tz hx So p1;induction w with
  |nil=>exact bl h0
  |cons c r=>obtain rfl:=aK h0;exact ⟨r,rfl⟩
 have TG:∀c∈w.take (fst PY),c∈pK:=λc hc=>by
  clear hr Rq hsm pl Rg hfa RZ pf Tz hx p1 h0;obtain ⟨r0,rfl⟩:=hw0;induction PY with
  |false=>obtain rfl:c=35:=cP.mp hc;decide +kernel
  |true=>
   induction r0 with
   |nil=>exact bU So
   |cons y r=>
    rcases b8.mp hc with rfl|hc
    ·decide +kernel
    ·obtain rfl:c=y:=cP.mp hc;exact Lf So
 have hft:∀c∈w.take (fst PY+(cG PY w).length),c∈pK:=λc hc=>by
  rw[List.take_add]at hc;rcases List.mem_append.mp hc with hc|hc
  ·exact TG c hc
  ·unfold cG at hc;rw[lu]at hc;exact (sO (hfa c hc)).1
 refine ⟨aH pl Rg,hfa,λhg=>?_,λhg=>?_⟩
 ·have e:kG PY (bT PO w)=(38::(bT PO w).take (fst PY),fst PY,[.w xR]):=by
   unfold kG;exact rW (RZ ..) (rW hg rfl)
  have e2:(bT PO w).take (fst PY)=w.take (fst PY):=by refine a7 λkC=>?_;obtain ⟨r,hw,_⟩:=kL PO w;have:(bT PO w++r).take (fst PY)=(bT PO w).take (fst PY):=List.take_append_of_le_length pf;rw[<-hw]at this;exact kC this.symm
  have C:=nI hs (aH pf Rg) TG (hr.trans e) (aQ _);rw[List.drop_take,Nat.sub_self,List.take_zero,bX,e2]at C;exact C
 ·have TQ:(cG PY w).isEmpty=false:=by
   generalize h:cG PY w=z6;induction z6 with
   |nil=>exact Uj h hg
   |cons=>rfl
  have e:kG PY (bT PO w)=((eD (dB PY (cG PY w))).1,fst PY+(cG PY w).length+(bif i7 w[fst PY+(cG PY w).length]? then 1 else 0),
   (bif (eD (dB PY (cG PY w))).2 then [.n (dB PY (cG PY w))] else [])++bif i7 w[fst PY+(cG PY w).length]? then [] else [.w qN]):=by
   unfold kG;refine rW (RZ ..) (rW TQ (rW hsm ?_));generalize i7 w[fst PY+(cG PY w).length]? = z5;induction z5 with
   |true=>exact rW (show (bif true then ([]:List bS) else [.w qN])=[] from rfl ..) (rW (bX ..) rfl)
   |false=>rfl
  have Rv:fst PY+(cG PY w).length+(bif i7 w[fst PY+(cG PY w).length]? then 1 else 0)<=w.length:=by
   generalize h:w[fst PY+(cG PY w).length]? = z4;induction z4 with
   |none=>exact aH pl Rg
   |some c=>
    have:=(bY.mp h).1;generalize i7 (some c)=z3;induction z3 with
    |true=>exact this
    |false=>exact Nat.le_of_lt this
  have SP:∀c∈w.take (fst PY+(cG PY w).length+(bif i7 w[fst PY+(cG PY w).length]? then 1 else 0)),c∈pK:=λc hc=>by
   rw[List.take_add]at hc;rcases List.mem_append.mp hc with hc|hc
   ·exact hft c hc
   ·generalize h:w[fst PY+(cG PY w).length]? = z2;induction z2 with
    |none=>rw[h]at hc;cases hc
    |some y=>
     rw[h]at hc;generalize hy:i7 (some y)=z1;induction z1 with
     |false=>rw[hy]at hc;cases hc
     |true=>rw[hy]at hc;have hc:c∈(w.drop (fst PY+(cG PY w).length)).take 1:=hc;rw[gR,h]at hc;clear h;obtain rfl:=cP.mp hc;obtain rfl:c=59:=eq_of_beq hy;decide +kernel
  have C:=nI hs Rv SP (hr.trans e) (aQ _);rw[List.drop_take,Nat.sub_self,List.take_zero,bX]at C;exact C
end
end
section
structure G0 where
 ty:Int
 nm:aC
 ps:aZ
 key:aC
noncomputable def pV(p:aC×aC):V:=.I (.list [.str p.1,.str p.2])
noncomputable def mo(st:V):O:=.inst 762 [(13,.ref 1),(35,.none),(36,.bool false),(37,.ref 6),(38,st),(40,.bool false),(19,.ref 9),(12,.ref 7)]
noncomputable abbrev Nn:O:=mo .C
noncomputable def BU(ty:Int)(nm:aC)(dt:V):O:=.dict [(ew,.int ty),(EX,.str nm),(cQ,dt),(JO,.bool false)]
noncomputable abbrev MI(g:G0):O:=BU g.ty g.nm (.ref 8)
noncomputable def gX(g:G0):List V:=g.ps.map pV++[.ref 10]
noncomputable abbrev Qq(g:G0)(q:List V)(s:aC)(τ:List O):List O:=.list []::.list q::.list (gX g)::MI g::.list [.str g.key,.str s]::τ
noncomputable abbrev hA(st:V)(g:G0)(sm tx:O)(q:List V)(s:aC)(τ:List O):St:=hS (mo st) sm tx (Qq g q s τ)
noncomputable abbrev hZ(st:V)(g:G0)(sm tx:O)(q:List V)(s:aC)(nm:aC)(dt:V)(τ:List O):St:=hS (mo st) sm tx (.list []::.list q::.list (gX g)::BU g.ty nm dt::.list [.str g.key,.str s]::τ)
noncomputable abbrev hE(g:G0)(sm tx:O)(q:List V)(s:aC)(st:List V)(τ:List O):St:=hA .C g sm tx q s (.list st::τ)
noncomputable abbrev hR(g:G0)(sm tx:O)(q:List V)(s:aC):St:=hA .C g sm tx q s []
noncomputable def Cq(q:List V):Prop:=∀σ n,q.map (rv σ n)=q
theorem cj(l:List bS):Cq (l.map cy):=λJ J=>BH l
theorem dO{a b}(ha:Cq a)(hb:Cq b):Cq (a++b):=λσ n=>by rw[ba,ha,hb]
theorem zL:Cq []:=λJ J=>rfl
theorem hH{w i}:Cq (cc w i):=λσ n=>by unfold cc;exact rW (Up ..) (Un λj J=>gM _)
theorem J6{σ n}(g:G0)(h:10<n):(gX g).map (rv σ n)=gX g:=by unfold gX;refine rW ba (rW (Up ..) ?_);show List.map _ g.ps++[rv σ n (.ref 10)]=_;exact rW (fm h ..) rfl
theorem oW{σ n st dt g sm tx}{q:List V}{s nm}{τ:List O}{k}(H:Sv k sm tx)(h:11<=n):
 (hZ st g sm tx q s nm dt τ).map (fj (rv σ n))=hZ (rv σ n st) g sm tx (q.map (rv σ n)) s nm (rv σ n dt) (τ.map (fj (rv σ n))):=by
 induction H with|@mk Qb PU Qq P8 p b _ _=>
 have r:∀a,a<11->rv σ n (.ref a)=.ref a:=λa ha=>fm (Uk ha h);show O.inst 762 [(13,rv σ n (.ref 1)),_,_,(37,rv σ n (.ref 6)),(38,rv σ n st),_,(19,rv σ n (.ref 9)),(12,rv σ n (.ref 7))]::O.inst 166 [(52,rv σ n (.ref 2)),(67,rv σ n (.ref 3)),(48,rv σ n (.ref 4)),_,_,_,(77,rv σ n (.ref 5)),_,_,(50,rv σ n (cL b))]::.meth 148 (rv σ n (.ref 1))::_::_::_::_::_::.list ((gX g).map (rv σ n))::.dict [_,_,(cQ,rv σ n dt),_]::_::τ.map (fj (rv σ n))=_;exact rW (r 1 (by decide) ..) (rW (r 6 (by decide) ..) (rW (r 9 (by decide) ..) (rW (r 7 (by decide) ..) (rW (r 2 (by decide) ..) (rW (r 3 (by decide) ..) (rW (r 4 (by decide) ..) (rW (r 5 (by decide) ..) (rW (gM ..) (rW (J6 g h ..) rfl)))))))))
theorem jK{σ n st g sm tx}{q:List V}{s}{τ:List O}{k}(H:Sv k sm tx)(h:11<=n):
 (hA st g sm tx q s τ).map (fj (rv σ n))=hA (rv σ n st) g sm tx (q.map (rv σ n)) s (τ.map (fj (rv σ n))):=
 (oW (dt:=.ref 8) (nm:=g.nm) H h).trans (rW (fm (Uk (by decide) h) ..) rfl)
theorem ij{σ τ:St}{n}(h:σ.length=n):iY (σ++τ) n=σ.map (fj (rv (σ++τ) n)):=by unfold iY;exact rW (List.take_left' h ..) rfl
section
variable {d:Nat}{g:G0}{sm tx:O}{k j n z:Nat}{q st:List V}{sv:V}{s w:aC}{τ r r':List O}{X:aR}{K:Fl->aR->St->Prop}{Q:V->St->Prop}{i:Nat}{es:List PE}
theorem Mh(H:Sv k sm tx)(Qw:Cq st)(hq:Cq q):iY (hE g sm tx q s st τ) 12=hE g sm tx q s st []:=by refine (ij (σ:=hE g sm tx q s st []) (τ:=τ) rfl).trans ?_;show (hA .C g sm tx q s [.list st]).map (fj (rv (hE g sm tx q s st τ) 12))=_;rw[jK H (by decide),hq];show hA .C g sm tx _ s [O.list (st.map (rv (hE g sm tx q s st τ) 12))]=_;rw[Qw]
theorem LF(H:Sv k sm tx):iY (hA sv g sm tx q s τ) 11=hA (rv (hA sv g sm tx q s τ) 11 sv) g sm tx (q.map (rv (hA sv g sm tx q s τ) 11)) s []:=by exact (ij (n:=11) (σ:=hA sv g sm tx q s []) (τ:=τ) rfl).trans (jK H (by decide))
theorem Kd{st}(hi:aJ i X=some (.ref 0)):aM (cD d) (.attr (.q i) 13) X (hS (mo st) sm tx r)=some (.ref 1,hS (mo st) sm tx r):=rW (eS ..) (rW (aN hi ..) rfl)
theorem KF{mt f}(H:Sv k sm tx)(hi:aJ i X=some (.ref 0))(h1:∀{c o p l b},aJ mt (Nc c o p l b)=none)(h2:pX.clsm 166 mt=some f):aM (cD d) (.meth (.attr (.q i) 13) mt es) X (hS (mo sv) sm tx r)=(Qc (cD d) es X (hS (mo sv) sm tx r)).bind λ(vs,σ2)=>rF d f (.ref 1::vs) σ2:=by
 refine rW (ja ..) (rW (Kd hi ..) ?_);induction H with|@mk Qb PU Qq P8 p b _ _=>
 show (match aJ mt (Nc PU P8 (Qb.count 10) (cW 0 Qb) (cL b)) with|some v=>_|none=>im (cD d) 166 mt _ _ _)=_;refine rW h1 ?_;show (pX.clsm 166 mt).bind _=_;exact rW h2 rfl
theorem ll(H:Sv k sm tx)(hi:aJ i X=some (.ref 0))(q:∀{P6 P9},Sv (QI k) P6 P9->tu k P6 P9->Q (cL mm[k]?) (hS (mo sv) P6 P9 r)):G (aM (cD (d+4)) (.meth (.attr (.q i) 13) 21 []) X (hS (mo sv) sm tx r)) Q:=.eq (KF H hi rfl rfl) (Cy H λJ J=>q)
theorem nC{e:PE}(H:Sv j sm tx)(U:tu k sm tx)(hi:aJ i X=some (.ref 0))(he:aM (cD (d+1)) e X (hS (mo sv) sm tx r)=some (cL mm[k]?,hS (mo sv) sm tx r'))(q:∀{P6},Sv k P6 tx->Q .none (hS (mo sv) P6 tx r')):G (aM (cD (d+1)) (.meth (.attr (.q i) 13) 103 [e]) X (hS (mo sv) sm tx r)) Q:=
 .eq ((KF (f:=163) H hi rfl rfl).trans (rW (dh he ..) rfl)) (U λJ=>q)
theorem Ho(hi:aJ i X=some (.ref 0)):aM (cD d) (.attr (.q i) 12) X (hS (mo sv) sm tx r)=some (.ref 7,hS (mo sv) sm tx r):=rW (eS ..) (rW (aN hi ..) rfl)
noncomputable def IC:PE:=.sub j0 (.i (.str [80,97,114,115,101,69,114,114,111,114]))
noncomputable def rI(e:aC):PS:=.expr (.append di (.R [ew,cQ] [IC,.i (.str e)]))
noncomputable def MT:PS:=.expr (.append di (.R [ew,cQ,wk] [IC,.i (.str o9),.R [qi] [.q 149]]))
theorem jf{e r}(Rb:aJ 34 X=some (.ref 0))(hl:q.length<=a8)(k:W (PT (cD d) r z X (hA sv g sm tx (q++[.ref (11+τ.length)]) s (τ++[.dict [(ew,.int 7),(cQ,.str e)]]))) K):W (PT (cD d) (rI e::r) z X (hA sv g sm tx q s τ)) K:=by have hn:(hA sv g sm tx q s τ).length=11+τ.length:=UJ τ.length 11;have e2:aM (cD d) (.R [ew,cQ] [IC,.i (.str e)]) X (hA sv g sm tx q s τ)=some (.ref (11+τ.length),hA sv g sm tx q s (τ++[.dict [(ew,.int 7),(cQ,.str e)]])):=rW hn.symm rfl;exact eW (mJ (a:=7) (Ho Rb) rfl e2 rfl hl rfl) k
theorem FQ{e}(H:Sv k sm tx)(Qw:Cq st)(hq:Cq q):iY (hE g sm tx (q++[.ref 12]) s st [.dict [(ew,.int 7),(cQ,.str e)]]) 12=hE g sm tx (q++[cy (.w e)]) s st []:=by refine (ij (n:=12) (σ:=hE g sm tx (q++[.ref 12]) s st []) (τ:=[.dict [(ew,.int 7),(cQ,.str e)]]) rfl).trans ?_;show (hA .C g sm tx (q++[.ref 12]) s [.list st]).map (fj (rv _ 12))=_;rw[jK H (by decide),ba,hq];show hA .C g sm tx _ s [O.list (st.map (rv _ 12))]=_;rw[Qw];rfl
theorem E'{e r i}(hz:z+i=12)(Rb:aJ 34 X=some (.ref 0))(H:Sv k sm tx)(Qw:Cq st)(hq:Cq q)(hl:q.length<=a8)(k:∀σ,W (PT (cD d) r z (gQ σ 12 X) (hE g sm tx (q++[cy (.w e)]) s st [])) K):W (PT (cD d) (rI e::.gc i::r) z X (hE g sm tx q s st [])) K:=by exact jf Rb hl (pJ (rW hz (FQ H Qw hq)) (hz▸k _))
theorem zy{r n}(Rb:aJ 34 X=some (.ref 0))(h149:aJ 149 X=some (.int (n:Nat)))(H:Sv k sm tx)(Qw:Cq st)(hq:Cq q)(hl:q.length<=a8)(k:∀σ,W (PT (cD d) r 12 (gQ σ 12 X) (hE g sm tx (q++[cy (.n n)]) s st [])) K):W (PT (cD d) (MT::.gc 0::r) 12 X (hE g sm tx q s st [])) K:=by
 refine eW (mJ (a:=7) (Ho Rb) rfl (v:=.ref 13) (σ2:=hE g sm tx q s st [.dict [(qi,.int (n:Nat))],.dict [(ew,.int 7),(cQ,.str o9),(wk,.ref 12)]]) ?_ rfl hl rfl) (pJ ?_ (k _))
 ·refine rW (jE ..) (rW (bF ..) ?_);show Option.bind (Option.bind (Qc _ [.i (.str o9),.R [qi] [.q 149]] X _) _) _=_;exact rW (ed aD (by rw[jE,dh (aN h149)];rfl) ..) rfl
 ·refine (ij (n:=12) (σ:=hE g sm tx (q++[.ref 13]) s st []) (τ:=[.dict [(qi,.int (n:Nat))],.dict [(ew,.int 7),(cQ,.str o9),(wk,.ref 12)]]) rfl).trans ?_;show (hA .C g sm tx (q++[.ref 13]) s [.list st]).map (fj (rv _ 12))=_;rw[jK H (by decide),ba,hq];show hA .C g sm tx _ s [O.list (st.map (rv _ 12))]=_;rw[Qw];rfl
end
end
section
theorem vA:(gz.all λc=>match NumText.digit? c with|some d=>Nat.blt d 16|none=>false)=true/\(kz.all λc=>match NumText.digit? c with|some d=>Nat.blt d 10|none=>false)=true:=by decide +kernel
theorem Kp{PY q}(Qs:q≠[])(h:∀c∈q,(eU PY).contains c=true):wP (base PY) q=true:=by
 unfold wP;refine rW (Us ..) ⟨?_,a9.mpr λc hc=>?_⟩
 ·clear h;induction q with
  |nil=>exact Uj rfl Qs
  |cons=>rfl
 ·have h:=List.contains_iff_mem.mp (h c hc);induction PY with
  |true=>exact a9.mp vA.1 c h
  |false=>exact a9.mp vA.2 c h
theorem uF{i}:∀{T:List (Int×aC)},(∀p∈T,p.1≠i)->T.lookup i=none
 |[],_=>rfl
 |(a,b)::T,h=>by have h1:(i==a)=false:=T7 λe=>h _ (.head _) e.symm;exact rW (Uu ..) (rW h1 (uF λp hp=>h p (.tail _ hp)))
theorem wE:((List.range 160).all λn=>(L3.tab46.lookup (n:Int)).isSome==iy n)=true:=by decide +kernel
theorem An:(L3.tab46.all λp=>decide (p.1<160))=true:=by decide +kernel
theorem zf(n:Nat):(L3.tab46.lookup (n:Int)).isSome=iy n:=by
 by_cases h:n<160
 ·exact eq_of_beq (a9.mp wE n (List.mem_range.mpr h))
 ·have:L3.tab46.lookup (n:Int)=none:=uF λp hp=>by
   have:=T9 (a9.mp An p hp);exact λe=>h ((Int.ofNat_lt (m:=160)).mp (e▸this))
  refine rW this ?_;have e0:(n==0)=false:=T7 (λq0=>fC 0x7101101a0731 rfl (aF h :) (aU q0 :));have e13:(n==13)=false:=T7 (λq0=>fC 0xd7201101a0731 rfl (aF h :) (aU q0 :));have e9:Nat.ble n 159=false:=Bool.eq_false_iff.mpr λq=>h (Nat.lt_succ_of_le (cg q));unfold iy;exact rW e0 (rW e13 (rW e9 (rW (Bool.and_false ..) rfl)))
theorem LM{n σ}:w4 true L3.tab46 (.int (n:Nat)) σ=some (.bool (iy n),σ):=by show some (V.bool (L3.tab46.lookup (n:Int)).isSome,σ)=_;exact rW (zf ..) rfl
theorem JT{n σ}(h:iy n=true):w4 false L3.tab46 (.int (n:Nat)) σ=some (.str (sD n),σ):=by
 rw[<-zf]at h;show (L3.tab46.lookup (n:Int)).map (λs=>(V.str s,σ))=_;unfold sD;generalize hq:L3.tab46.lookup (n:Int)=z6;induction z6 with
 |none=>rw[hq]at h;exact bU h
 |some s=>rfl
noncomputable def sG:aC:=[11,65534,65535,131070,131071,196606,196607,262142,262143,327678,327679,393214,393215,458750,458751,524286,524287,589822,589823,655358,655359,720894,720895,786430,786431,851966,851967,917502,917503,983038,983039,1048574,1048575,1114110,1114111]
theorem nT:(sG.all λn=>n==11||Nat.blt 65533 (n%65536))=true/\((List.range 17).all λq=>sG.contains (65536*q+65534)&&sG.contains (65536*q+65535))=true/\sG.contains 11=true:=by decide +kernel
theorem H7{n}(h:n<=1114111):sG.contains n=(n==11||Nat.blt 65533 (n%65536)):=by
 generalize hb:sG.contains n=z5;induction z5 with
 |true=>exact (a9.mp nT.1 n (List.contains_iff_mem.mp hb)).symm
 |false=>
  refine (Bool.eq_false_iff.mpr λq=>?_).symm;rcases Bool.or_eq_true_iff.mp q with q|q
  ·rw[eq_of_beq q,nT.2.2]at hb;exact bU hb.symm
  ·have h1:65533<n%65536:=cg q;have h2:=Nat.mod_lt n (by decide:0<65536);have h3:=Nat.div_add_mod n 65536;have h4:n/65536<17:=Nat.div_lt_of_lt_mul (Um h (by decide));have:=Bool.and_eq_true_iff.mp (a9.mp nT.2.1 _ (List.mem_range.mpr h4));have h5:n=65536*(n/65536)+65534\/n=65536*(n/65536)+65535:=(Nat.eq_or_lt_of_le h1).imp (λe=>h3.symm.trans (Qg _ e.symm)) λq=>h3.symm.trans (Qg _ (ce (Nat.le_of_lt_succ h2) q));rcases h5 with e|e
   ·rw[<-e,hb]at this;exact bU this.1
   ·rw[<-e,hb]at this;exact bU this.2
theorem ww(n:Nat):∀l:aC,Cm (.int (n:Nat)) (l.map λx=>V.int (x:Nat))=some (l.contains n):=by
 intro l;induction l with
 |nil=>exact rfl
 |cons x r ih=>
  have e:(((x:Nat):Int)==((n:Nat):Int))=(n==x):=by
   by_cases h:n=x
   ·exact rW h (rW (Ua ..) (rW (Ua ..) rfl))
   ·exact rW (T7 h ..) (T7 λe=>h (Int.ofNat.inj e).symm)
  show (some (((x:Nat):Int)==((n:Nat):Int))).bind _=_;exact rW aS (rW ih (rW (List.contains_cons ..) (rW (Option.map_some ..) (rW e rfl))))
theorem ie(c:Nat):∀l:aC,Cm (.str [c]) (l.map λx=>V.str [x])=some (l.contains c):=by
 intro l;induction l with
 |nil=>exact rfl
 |cons x r ih=>show (some (([x]:aC)==[c])).bind _=_;exact rW aS (rW ih (rW (List.contains_cons ..) (rW (Option.map_some ..) (rW (cw ..) (rW (Bool.beq_comm ..) rfl)))))
theorem wt{a b}:decide (((a:Nat):Int)<=((b:Nat):Int))=Nat.ble a b:=by
 generalize h:Nat.ble a b=z4;induction z4 with
 |true=>exact Uf (Int.ofNat_le.mpr (cg h))
 |false=>exact Ux λq=>by rw[Uw (Int.ofNat_le.mp q)]at h;exact bU h.symm
theorem vO{a b}:decide (((a:Nat):Int)<((b:Nat):Int))=Nat.blt a b:=by
 generalize h:Nat.blt a b=z3;induction z3 with
 |true=>exact Uf (Int.ofNat_lt.mpr (cg h))
 |false=>exact Ux λq=>by rw[show Nat.blt a b=true from Uw (Int.ofNat_lt.mp q)]at h;exact bU h.symm
theorem m6{a b}:(((a:Nat):Int)==((b:Nat):Int))=(a==b):=by
 by_cases h:a=b
 ·exact rW h (rW (Ua ..) (rW (Ua ..) rfl))
 ·exact rW (T7 h ..) (T7 λe=>h (Int.ofNat.inj e))
section
variable {c:Cx}{L:aR}{σ:St}{i n a b:Nat}
theorem H6(h:aJ i L=some (.int (n:Nat))):bR c (.ab .le .le (.i (.int (a:Nat))) (.q i) (.i (.int (b:Nat)))) L σ=some (Nat.ble a n&&Nat.ble n b,σ):=by exact rW (jO ..) (rW (gP h ..) (rW (wt ..) (rW (wt ..) rfl)))
theorem O0(h:aJ i L=some (.int (n:Nat))):aM c (.ab .le .le (.i (.int (a:Nat))) (.q i) (.i (.int (b:Nat)))) L σ=some (.bool (Nat.ble a n&&Nat.ble n b),σ):=by exact rW (gP h ..) (rW (wt ..) (rW (wt ..) rfl))
theorem JV(h:aJ i L=some (.int (n:Nat))):bR c (.E .gt (.q i) (.i (.int (a:Nat)))) L σ=some (Nat.blt a n,σ):=
 bi (aN h) aD (Qg some vO)
theorem MU(h:aJ i L=some (.int (n:Nat))):bR c (.E .eq (.q i) (.i (.int (a:Nat)))) L σ=some (n==a,σ):=
 bi (aN h) aD (Qg some m6)
theorem OV{l:aC}{es}(h:aJ i L=some (.int (n:Nat)))(he:aM c (.H es) L σ=some (.I (.tuple (l.map λx=>V.int (x:Nat))),σ)):bR c (.E .U (.q i) (.H es)) L σ=some (l.contains n,σ):=
 bi (aN h) he (ww n l)
end
theorem GI{n}(h1:iy n=false)(h2:r7 n=false):((Nat.ble 1 n&&Nat.ble n 8)||((Nat.ble 14 n&&Nat.ble n 31)||((Nat.ble 127 n&&Nat.ble n 159)||((Nat.ble 64976 n&&Nat.ble n 65007)||sG.contains n))))=tr n:=by
 have Rv:n<=1114111:=aF λq=>by unfold r7 at h2;rw[show Nat.blt 1114111 n=true from Uw q]at h2;exact bU h2.symm
 refine rW (H7 Rv ..) ?_;unfold tr;by_cases h:n<160
 ·have tb:((List.range 160).all λn=>iy n||(((Nat.ble 1 n&&Nat.ble n 8)||((Nat.ble 14 n&&Nat.ble n 31)||((Nat.ble 127 n&&Nat.ble n 159)||((Nat.ble 64976 n&&Nat.ble n 65007)||(n==11||Nat.blt 65533 (n%65536))))))==((Nat.blt n 32 && !(n==9||(n==10||n==12)))||(n==127||((Nat.ble 64976 n&&Nat.ble n 65007)||Nat.blt 65533 (n%65536))))))=true:=by decide +kernel
  have:=a9.mp tb n (List.mem_range.mpr h);rw[h1,Bool.false_or]at this;exact eq_of_beq this
 ·have f:∀{b:Nat},b<160->Nat.ble n b=false:=λhb=>Bool.eq_false_iff.mpr λq=>h (Um (cg q) hb);have e1:(n==11)=false:=T7 (λq0=>fC 0xb7201101a0731 rfl (aF h :) (aU q0 :));have e2:(n==127)=false:=T7 (λq0=>fC 0x7f7301101a0731 rfl (aF h :) (aU q0 :));have e3:Nat.blt n 32=false:=Bool.eq_false_iff.mpr λq=>by have:n<32:=cg q;exact fC 0x2073b1101a0731 rfl (aF h :) this
  refine rW (f (by decide) ..) (rW (f (by decide) ..) (rW (f (by decide) ..) (rW e1 (rW e2 (rW e3 ?_)))));simp only[Bool.and_false,Bool.false_or,Bool.false_and]
section
variable {d:Nat}{g:G0}{sm tx:O}{k j n z:Nat}{q st:List V}{s w:aC}{τ:List O}{X:aR}{PY:Bool}{K:Fl->aR->St->Prop}
noncomputable def Gw(PY:Bool):V:=bif PY then .u 37 else .u 32
theorem E5{c:Nat}{σ:St}:gV (cD d) σ .U (.str [c]) (Gw PY)=some ((eU PY).contains c):=by
 induction PY with
 |true=>exact ie c gz
 |false=>exact ie c kz
theorem EL{σ:St}:gV (cD d) σ .U .none (Gw PY)=some false:=by induction PY<;>rfl
noncomputable def LN(PY:Bool)(c:Option Nat):aR:=[(34,.ref 0),(148,.bool PY),(146,Gw PY),(147,.int (base PY:Nat)),(101,.ref 12),(25,cL c)]
noncomputable def Ox(PY:Bool):Option Nat->Bool|some c=>(eU PY).contains c|none=>false
theorem O'{c σ}:bR (cD d) y9 (LN PY c) σ=some (Ox PY c,σ):=by
 induction c with
 |none=>exact jb (bi (a:=.none) rfl (b:=Gw PY) rfl EL)
 |some c=>exact (sU (bi (a:=.str [c]) rfl (b:=Gw PY) rfl E5) (y:=true) (bi (a:=.str [c]) rfl bH rfl)).trans (Qg (λb=>some (b,σ)) (Bool.and_true _))
theorem qf{Qx Qa}(ht:Qx=λL s=>bR (cD (d+4)) y9 L s)(hb:Qa=λL s=>PT (cD (d+4)) [.expr (.append dG dq),.j (.l 25) mw] z L s)(hw:w=mm.drop k):∀(f:Nat) (l:aC) (i:Nat) (sm tx:O),l.length<f->i<=w.length->(w.drop i).takeWhile (λc=>(eU PY).contains c)=l->Sv (QI (k+i)) sm tx->tu (k+i) sm tx ->
 (∀{P6 P9},Sv (QI (k+(i+l.length))) P6 P9->tu (k+(i+l.length)) P6 P9->K .next (LN PY mm[k+(i+l.length)]?) (hE g P6 P9 q s st [.list (cc w (i+l.length))]))->W (dR Qx Qa f (LN PY mm[k+i]?) (hE g sm tx q s st [.list (cc w i)])) K
 |0,_,_,_,_,h,_,_,_,_,_=>Uj h (Nat.not_lt_zero _)
 |f+1,l,i,sm,tx,hf,hi,hl,H,U,qq=>by
  have ha:mm[k+i]? = w[i]?:=rW hw (rW (List.getElem?_drop ..) rfl);have t:Qx (LN PY mm[k+i]?) (hE g sm tx q s st [.list (cc w i)])=some (Ox PY w[i]?,hE g sm tx q s st [.list (cc w i)]):=by subst ht;exact rW ha.symm O'
  generalize hx:w[i]? = z2;induction z2 with
  |none=>rw[Uz (List.getElem?_eq_none_iff.mp hx)]at hl;rw[hx]at t;subst hl;exact Jw t (qq H U)
  |some c=>
   obtain ⟨Qf,e⟩:=bY.mp hx;rw[Uc Qf,Ui,e]at hl;rw[hx]at t;generalize hc:(eU PY).contains c=z1;induction z1 with
   |false=>rw[hc]at hl;subst hl;exact Jw (t.trans (Qg (λb=>some (b,_)) hc)) (qq H U)
   |true=>
    rw[hc]at hl;subst hl;refine MK (t.trans (Qg (λb=>some (b,_)) hc)) ?_;have hn:QI (k+i)=k+(i+1):=by unfold QI;exact rW ha (rW hx rfl)
    rw[hn]at H;have ih:=λsm tx=>qf ht hb hw f _ (i+1) sm tx (Nat.lt_of_succ_lt_succ hf) Qf rfl;subst hb;refine eW (mJ (a:=12) rfl rfl (v:=cL mm[k+i]?) (σ2:=hE g sm tx q s st [.list (cc w i)]) rfl rfl (rW (d8 ..) (aH hi (rW hw (rW bV (aH (UQ _ _) (aH cS (by decide))))))) (σ':=hE g sm tx q s st [.list (cc w (i+1))]) (rW (hU ..) (rW ha rfl))) (aG (ll H rfl λ{fu QK} h1 U1=>nW (ih fu QK h1 U1 λ{P6 P9} H' U'=>?_)));have e2:i+1+((w.drop (i+1)).takeWhile λc=>(eU PY).contains c).length=i+(c::(w.drop (i+1)).takeWhile λc=>(eU PY).contains c).length:=rW (Ug ..) (rW (UA ..) (rW (UJ 1 ..) rfl));rw[e2]at H' U' ⊢;exact qq H' U'
end
end
section
theorem CG{i:Int}{σ}(e:0<=i/\i<1114112):yY (.int i) σ=some (.str [i.toNat],σ):=T6 e
theorem LI{c e L σ σ1 n}(h:aM c e L σ=some (.int (n:Nat),σ1))(hn:(0:Int)<=(n:Nat)/\((n:Nat):Int)<1114112):aM c (.chr e) L σ=some (.str [n],σ1):=by refine rW (CT ..) (rW h (rW aS ?_));show yY (.int (n:Nat)) σ1=_;exact rW (CG hn ..) rfl
theorem mu{i n v w σ X}(h:aJ i X=some v)(hv:rv σ n v=w):aJ i (gQ σ n X)=some w:=(fU i X).trans ((Qg (Option.map (rv σ n)) h).trans (Qg some hv))
section
variable {d:Nat}{g:G0}{sm tx:O}{k j n z:Nat}{q st:List V}{s w:aC}{τ:List O}{X:aR}{r:List PS}{K:Fl->aR->St->Prop}{Q:V->St->Prop}
structure NL(n:Nat)(c:Option Nat)(X:aR):Prop where
 l34:aJ 34 X=some (.ref 0)
 l25:aJ 25 X=some (cL c)
 l149:aJ 149 X=some (.int (n:Nat))
theorem NL.gc{c}(h:NL n c X)(σ:St):NL n c (gQ σ 12 X):=⟨mu h.l34 (fm (by decide)),mu h.l25 (gM c),mu h.l149 rfl⟩
theorem NL.put{c:Option Nat}{v:V}(h:NL n c X):NL n c (aX 21 v X):=⟨bE (by decide) h.l34,bE (by decide) h.l25,bE (by decide) h.l149⟩
noncomputable def nF(n:Nat):List bS:=bif (eD n).2 then [.n n] else []
theorem Ks{m T y v w σ c}(h:aJ n X=some v)(h2:w4 m T v σ=some (w,σ)):aM c (.tab m T y (.q n)) X σ=some (w,σ):=rW (kY ..) (rW (aN h ..) h2)
theorem Lw{c}(H:Sv k sm tx)(Qw:Cq st)(hq:Cq q)(hl:q.length<=a8)(hX:NL n c X)(k:∀{X' v b},eD n=(v,b)->NL n c X'->aJ 21 X'=some (.str v)->W (PT (cD d) (L3.f275.drop 9) 12 X' (hE g sm tx (q++(bif b then [bS.n n] else []).map cy) s st [])) K):W (PT (cD d) (L3.f275.drop 8) 12 X (hE g sm tx q s st [])) K:=by
 unfold eD at k;refine iB (x:=iy n) ?_ (λho=>?_) λho=>?_
 ·show ((aM (cD d) (.tab true L3.tab46 46 fv) X (hE g sm tx q s st [])).bind _)=_;exact rW (Ks hX.l149 LM ..) rfl
 ·rw[ho]at k;exact aW (Ks hX.l149 (JT ho)) (zy (r:=[]) hX.put.l34 hX.put.l149 H Qw hq hl λσ=>nW (k rfl (hX.put.gc σ) (mu bZ rfl)))
 rw[ho]at k;refine iB (x:=r7 n) ((sN (H6 (a:=55296) (b:=57343) hX.l149) (JV (a:=1114111) hX.l149)).trans (Qg (λb=>some (b,_)) (Bool.or_comm ..))) (λhf=>?_) λhf=>?_
 ·rw[hf]at k;exact aW (v:=.str dZ) rfl (zy (r:=[]) hX.put.l34 hX.put.l149 H Qw hq hl λσ=>nW (nW (k rfl (hX.put.gc σ) (mu bZ rfl))))
 rw[hf]at k;have hn:(0:Int)<=(n:Nat)/\((n:Nat):Int)<1114112:=by
  unfold r7 at hf;have:¬1114111<n:=λq=>by rw[show Nat.blt 1114111 n=true from Uw q]at hf;exact bU hf.symm
  exact ⟨UH _,(Int.ofNat_lt (m:=1114112)).mpr (Nat.lt_succ_of_le (aF this))⟩
 have last:∀{q:List V}{X:aR}{K:Fl->aR->St->Prop},NL n c X->(∀{X'},NL n c X'->aJ 21 X'=some (.str [n])->K .next X' (hE g sm tx q s st []))->W (PT (cD d) [.aA [.j (.l 21) (.chr fv)]] 12 X (hE g sm tx q s st [])) K:=λ{q X K} hX k=>by refine sW (L1:=aX 21 (.str [n]) X) (σ1:=hE g sm tx q s st []) ?_ (nW (k hX.put bZ));show ((ms (cD d) (.j (.l 21) (.chr fv)) 12 X (hE g sm tx q s st [])).bind _)=_;exact rW (dm ..) (rW (LI (aN hX.l149) hn ..) rfl)
 refine iB (x:=tr n) ((sN (H6 (a:=1) (b:=8) hX.l149) (sN (H6 (a:=14) (b:=31) hX.l149) (sN (H6 (a:=127) (b:=159) hX.l149) (sN (H6 (a:=64976) (b:=65007) hX.l149) (OV hX.l149 rfl))))).trans (Qg (λb=>some (b,_)) (GI ho hf))) (λhd=>?_) λhd=>?_
 ·rw[hd]at k;exact zy (r:=[]) hX.l34 hX.l149 H Qw hq hl λσ=>nW (last (hX.gc σ) λh h2=>nW (k rfl h h2))
 ·rw[hd]at k;refine nW (last hX λh h2=>nW ?_);have:=k rfl h h2;rwa [show q++(bif false then [bS.n n] else []).map cy=q from bX q]at this
theorem Gh{n}:(nF n).length<=1:=by
 unfold nF;generalize (eD n).2=z3;induction z3 with
 |true=>exact aQ _
 |false=>exact bu _
noncomputable def sF(c:Option Nat):List bS:=bif i7 c then [] else [.w qN]
theorem NM{PY}{l:aC}(H:Sv k sm tx)(hw:w=mm.drop k)(hL:w.takeWhile (λc=>(eU PY).contains c)=l)(hl:l≠[])(Qw:Cq st)(hq:Cq q)(Qi:q.length+1<=a8)
 (kk:∀{P6 P9},Sv (k+(l.length+bif i7 w[l.length]? then 1 else 0)) P6 P9->Q (.str (eD (dB PY l)).1) (hE g P6 P9 (q++(nF (dB PY l)++sF w[l.length]?).map cy) s st [])):
 G (rF (d+5) 275 [.ref 0,.bool PY] (hE g sm tx q s st [])) Q:=by
 have hwl:w.length<=200:=rW hw (rW bV (aH (UQ _ _) cS));have ST:∀c∈l,(eU PY).contains c=true:=λc hc=>mv (hL▸hc);have TE:w.take l.length=l:=hL▸lu w;have RK:l.length<=w.length:=hL▸(Uy _).length_le;refine xP ⟨rfl,rfl⟩ rfl (.eq (y:=PT (cD (d+4)) (L3.f275.drop 4) 12 [(34,.ref 0),(148,.bool PY),(146,Gw PY),(147,.int (base PY:Nat)),(101,.ref 12)] (hE g sm tx q s st [.list []])) (by clear kk;clear ST hL;induction PY<;>rfl) (aG (ll H rfl λ{fu QK} h1 U1=>x5 (qf (i:=0) rfl rfl hw FU l fu QK (Um (aH RK hwl) (by decide)) (bu _) hL h1 U1 λ{Q9 Rj} h2 U2=>?_))));rw[UU]at h2 U2 ⊢;have hla:mm[k+l.length]? = w[l.length]?:=rW hw (rW (List.getElem?_drop ..) rfl);refine rW hla ?_;have ej:aM (cD (d+4)) mj (LN PY w[l.length]?) (hE g Q9 Rj q s st [.list (cc w l.length)])=some (.str l,hE g Q9 Rj q s st [.list (cc w l.length)]):=by have:=jh (c:=cD (d+4)) (v:=.ref 12) (σ:=hE g Q9 Rj q s st [.list (cc w l.length)]) (ps:=(w.take l.length).map λc=>[c]) (rW (gT w RK ..).symm rfl) (rW (ey ..) (rW (TE ..) (aH (aH RK hwl) (by decide))));rw[ey,TE]at this;exact this
 have ei:aM (cD (d+4)) (.ax mj (.q 147)) (LN PY w[l.length]?) (hE g Q9 Rj q s st [.list (cc w l.length)])=some (.int (dB PY l:Nat),hE g Q9 Rj q s st [.list (cc w l.length)]):=by
  refine rW (qI ..) (rW ej (rW aS (T6 ⟨?_,?_,aH (aH RK hwl) (by decide)⟩:vH (.str l) (.int (base PY:Nat)) _=_)))
  ·clear ej ST kk hL;induction PY with
   |true=>exact .inr rfl
   |false=>exact .inl rfl
  ·exact rW (Int.toNat_natCast ..) (Kp hl ST)
 refine aW ei (pJ (Mh h2 Qw hq) (Lw h2 Qw hq (Nat.le_of_succ_le Qi) (NL.gc (c:=w[l.length]?) ⟨rfl,rfl,rfl⟩ _) λ{X2 v b} e n2 n21=>?_));rw[e]at kk;have RU:=dO hq (cj (bif b then [bS.n (dB PY l)] else []));have hF:nF (dB PY l)=bif b then [bS.n (dB PY l)] else []:=by unfold nF;exact rW e rfl
 rw[hF]at kk;refine iB (x:=!i7 w[l.length]?) (bi (aN n2.l25) aD ?_) (λhs=>?_) λhs=>?_
 ·clear kk e hF n2;generalize w[l.length]? = z2;induction z2 with
  |none=>rfl
  |some c=>show some (!([c]==[59]))=_;exact rW (cw ..) rfl
 ·rw[Bool.not_eq_true']at hs;rw[show sF w[l.length]? = [.w qN] by unfold sF;exact rW hs rfl,ba,<-UD,hs]at kk;refine E' rfl n2.l34 h2 Qw RU ?_ λσ=>eG (nC h2 U2 (n2.gc σ).l34 (hla▸aN (n2.gc σ).l25) λ{sm3} h3=>nW (Cb (aN (mu n21 rfl)) rfl (Mh h3 Qw (dO RU (cj [.w qN]))) (kk h3)));have:=Gh (n:=dB PY l);rw[hF]at this;exact rW aP (rW bA (aH (UK this _) Qi))
 ·rw[Bool.not_eq_false']at hs;rw[show sF w[l.length]? = [] by unfold sF;exact rW hs rfl,bX,hs]at kk;have hx:QI (k+l.length)=k+(l.length+1):=by
   unfold QI;refine rW hla ?_;generalize h:w[l.length]? = z1;induction z1 with
   |none=>rw[h]at hs;exact bU hs
   |some c=>rfl
  rw[hx]at h2;exact nW (Cb (aN n21) rfl (Mh h2 Qw RU) (kk h2))
end
end
section
noncomputable def nB:List PS:=match (L3.f283[2]? : Option PS) with|some (PS.ifs _ _ [.ifs _ b _])=>b|_=>[]
noncomputable def bB:List PS:=match (L3.f283[2]? : Option PS) with|some (PS.ifs _ _ [.ifs _ _ b])=>b|_=>[]
noncomputable def cB:List PS:=match (bB[3]? : Option PS) with|some (PS.ifs _ b _)=>b|_=>[]
noncomputable def LA(PO:Nat)(o:aC)(Y:aR):aR:=(34,.ref 0)::(102,.str [PO])::(108,.bool true)::(100,.str o)::(101,.ref 11)::Y
theorem KN{PO o Y σ}(hY:gQ σ 12 Y=Y):gQ σ 12 (LA PO o Y)=LA PO o Y:=by show (34,V.ref 0)::(102,V.str [PO])::(108,.bool true)::(100,.str o)::(101,.ref 11)::gQ σ 12 Y=_;exact rW hY rfl
noncomputable def zh:PE:=.sub dG cZ
section
variable {d:Nat}{g:G0}{sm tx:O}{k i j n z PO:Nat}{q st:List V}{s w b o:aC}{τ:List O}{X L Y:aR}{e:PE}{r:List PS}{K:Fl->aR->St->Prop}{Q:V->St->Prop}{σ:St}{sv:V}
theorem oH(hw:w=mm.drop k):w.length<=200:=rW hw (rW bV (aH (UQ _ _) cS))
theorem tL(hw:w=mm.drop k):mm[k+j]? = w[j]?:=rW hw (rW (List.getElem?_drop ..) rfl)
theorem pj(hw:w=mm.drop k){c}(h:w[i]? = some c):QI (k+i)=k+(i+1):=by unfold QI;exact rW (tL hw ..) (rW h rfl)
theorem Ge(hL:aJ 101 L=some (.ref 11)):aM (cD d) (.pop dG) L (hE g sm tx q s (cc w (n+1)) τ)=some (cL w[n]?,hE g sm tx q s (cc w n) τ):=by refine rW (DU ..) (rW (aN hL ..) ?_);show ((d9 (cc w (n+1)).length (-1)).bind λj=>((cc w (n+1))[j]?).map λv=>(v,(hE g sm tx q s (cc w (n+1)) τ).set 11 (.list ((cc w (n+1)).eraseIdx j))))=_;exact rW (d8 ..) (rW (fL (Nat.succ_pos n) ..) (rW aS (rW (Nat.succ_sub_one ..) (rW (n7 (Ur n) ..) (rW (Option.map_some ..) (rW (hU ..) (rW (List.eraseIdx_append_of_length_le (aU (d8 w n)) ..) (rW (d8 ..) (rW (Nat.sub_self ..) (rW (show cc w n++([cL w[n]?]).eraseIdx 0=cc w n from bX _ ..) rfl))))))))))
theorem kT{vs}{ps:bg}{a}(h:aM (cD d) e L σ=some (.ref a,τ))(hg:τ[a]? = some (.list vs))(hv:vs=ps.map V.str)(hl:ps.flatten.length<=200):aM (cD d) (.join [] e) L σ=some (.str ps.flatten,τ):=by refine rW (qJ ..) (rW h ?_);subst hv;exact jh hg (aH hl (by decide))
theorem qV(hL:aJ 101 L=some (.ref 11))(hn:n<=w.length)(hw:w.length<=200):aM (cD d) mj L (hE g sm tx q s (cc w n) τ)=some (.str (w.take n),hE g sm tx q s (cc w n) τ):=by have:=kT (aN (σ:=hE g sm tx q s (cc w n) τ) hL) (d:=d) rfl (gT w hn) (rW (ey ..) (rW (Uh ..) (aH (Nat.min_le_right ..) hw)));rwa [ey]at this
theorem jx(hL:aJ 101 L=some (.ref 11)):aM (cD d) zh L (hE g sm tx q s (cc w (n+1)) τ)=some (cL w[n]?,hE g sm tx q s (cc w (n+1)) τ):=by show aM _ (.sub _ _) _ _=_;refine rW (cu ..) (rW (aN hL ..) ?_);show Option.map _ ((d9 (cc w (n+1)).length (-1)).bind λj=>(cc w (n+1))[j]?)=_;exact rW (d8 ..) (rW (fL (Nat.succ_pos n) ..) (rW aS (rW (Nat.succ_sub_one ..) (rW (n7 (Ur n) ..) rfl))))
theorem GH(hL:aJ 101 L=some (.ref 11))(hi:aJ 106 L=some (.int (j:Nat)))(h:j<n):aM (cD d) (.sub dG (.q 106)) L (hE g sm tx q s (cc w n) τ)=some (cL w[j]?,hE g sm tx q s (cc w n) τ):=by refine rW (cu ..) (rW (aN hL ..) (rW aS ?_));show Option.bind (aM (cD d) (.q 106) L (hE g sm tx q s (cc w n) τ)) _=_;refine rW (aN hi ..) (rW aS ?_);show Option.map _ ((d9 (cc w n).length (j:Nat)).bind λj=>(cc w n)[j]?)=_;exact rW (kM (n7 h) ..) rfl
theorem tT(hw:w=mm.drop k)(H:Sv (k+n) sm tx)(Rb:aJ 34 L=some (.ref 0))(hL:aJ 101 L=some (.ref 11))(hn:n<=200)(kk:∀{P6 P9},Sv (QI (k+n)) P6 P9->tu (k+n) P6 P9->Q .none (hE g P6 P9 q s (cc w (n+1)) [])):G (aM (cD (d+4)) rZ L (hE g sm tx q s (cc w n) [])) Q:=
 Mx (a:=11) (aN hL) rfl (ll H Rb λ{P6 P9} h1 h2=>⟨rfl,by exact rW (d8 ..) (aH hn (by decide)),by refine rW (tL hw ..) ?_;have:=kk h1 h2;rwa [hU]at this⟩)
theorem JC{u}(he:aM (cD (d+2)) e L σ=some (.str u,σ)):bR (cD (d+2)) (.ah (.meth l7 104 [e])) L σ=some (!hp u,σ):=by refine Ak (rW (og ..) (rW (ja ..) (rW (bH ..) (rW aS ?_))));show Option.bind ((Qc (cD (d+2)) [e] L σ).bind _) _=_;refine rW (dh he ..) ?_;show Option.bind (rF (d+2) 220 [.u 236,.str u] σ) _=_;exact rW (NH ..) rfl
noncomputable def Ov:List PS:=[.ifs (.ah (.meth l7 104 [.join [] dG])) [.brk] [],.expr rZ]
inductive CI(w:aC)(k:Nat)(g:G0)(q:List V)(s:aC)(L0:aR):Nat->aR->St->Prop
 |mk {i:Nat}{sm tx:O}:i<=w.length->(∀j,1<=j->j<=i->hp (w.take j)=true)->Sv (QI (k+i)) sm tx->tu (k+i) sm tx->CI w k g q s L0 (w.length-i) L0 (hE g sm tx q s (cc w (i+1)) [])
theorem ED(hw:w=mm.drop k)(Rb:aJ 34 X=some (.ref 0))(hX:aJ 101 X=some (.ref 11))(H0:Sv (QI k) sm tx)(U0:tu k sm tx)(kk:∀{n P6 P9},Rd w n->Sv (QI (k+n)) P6 P9->tu (k+n) P6 P9->K .next X (hE g P6 P9 q s (cc w (n+1)) [])):
 W (dR (λL s=>bR (cD (d+4)) (.E .am zh (.Y .none)) L s) (λL s=>PT (cD (d+4)) Ov z L s) FU X (hE g sm tx q s (cc w 1) [])) K:=by
 refine lW (CI w k g q s X) (λ{n L σ} h=>?_) (Um (aH (UQ _ 0) (oH hw)) (by decide)) (.mk (bu _) (λj h1 h2=>Uj (Uk h1 h2) (Nat.lt_irrefl _)) H0 U0);induction h with|@mk i sm tx hi ha H U=>
 refine .mk (v:=w[i]?.isSome) (bi (jx hX) bH (by generalize w[i]? = z2;induction z2<;>rfl)) ?_;generalize hx:w[i]? = z1;induction z1 with
 |none=>exact kk ⟨hi,ha,.inl (ce hi (List.getElem?_eq_none_iff.mp hx))⟩ H U
 |some x=>
  have Qf:=(bY.mp hx).1;rw[pj hw hx]at H;refine iB (JC (qV hX Qf (oH hw))) (λhh=>bW (kk ⟨hi,ha,.inr (Bool.not_eq_true' _▸hh)⟩ (rW (pj hw hx ..) H) U)) λhh=>nW (eG (tT hw H Rb hX (aH Qf (oH hw)) λh1 h2=>nW ⟨_,Nat.sub_lt_sub_left Qf (Ur i),.mk Qf (λj h3 h4=>?_) h1 h2⟩));rcases Nat.eq_or_lt_of_le h4 with e|e
  ·exact rW e (Bool.not_eq_false' _▸hh)
  ·exact ha j h3 (Nat.le_of_lt_succ e)
theorem M'{as:St->Option (V×St)}:qA (cD d) (.u 236) 107 σ as=(as σ).bind λ(v,σ2)=>rF d (227+eM) [.u 236,v] σ2:=rfl
theorem MC(hR:Rd w n)(hw:w.length<=200)(hX:aJ 101 X=some (.ref 11))(kk:∀τ,W (PT (cD (d+2)) r z (if db w=[] then aX 105 .none X else aX 106 (.int ((db w).length:Nat)) (aX 105 (.str (db w)) X)) (hE g sm tx q s (cc w (n+1)) τ)) K):
 W (PT (cD (d+2)) (.aw 105 106 l7 107 (.join [] (.O dG dT cZ))::r) z X (hE g sm tx q s (cc w (n+1)) [])) K:=by
 have hl:(w.take n).length=n:=rW (Uh ..) (Ue hR.le);have hn6:n<=200:=aH hR.le hw;have es:aM (cD (d+2)) (.O dG dT cZ) X (hE g sm tx q s (cc w (n+1)) [])=some (.ref 12,hE g sm tx q s (cc w (n+1)) [.list (cc w n)]):=by
  refine rW (d4 ..) (rW (aN hX ..) ?_);show (some (bP (cc w (n+1)).length (-1))).bind (λj=>bO (iA (cc w (n+1)) 0 j) _)=_;have e:iA (cc w (n+1)) 0 (bP (cc w (n+1)).length (-1))=cc w n:=by exact rW (lT _ (by rw[d8];exact Nat.succ_pos n) ..) (rW (hU ..) (rW (List.dropLast_concat ..) rfl))
  exact rW aS (rW e (bx (rW (d8 ..) (aH hn6 (by decide)))))
 have ej:=kT es rfl (gT w hR.le) (rW (ey ..) (rW hl hn6));rw[ey]at ej;refine Nr bH (.eq (y:=rF (d+2) (227+eM) [.u 236,.str (w.take n)] (hE g sm tx q s (cc w (n+1)) [.list (cc w n)])) ?_ (NY (rW hl hn6) λτ=>?_))
 ·exact rW (M' ..) (rW ej rfl)
 ·refine rW hl (rW (hR.lp ..) ?_);generalize db w=b at kk ⊢;by_cases hq:b=[]
  ·rw[T6 hq]at kk ⊢;exact kk (.list (cc w n)::τ)
  ·rw[T8 hq]at kk ⊢;exact kk (.list (cc w n)::τ)
theorem EN{e}(H:Sv k sm tx)(Qw:Cq st)(hq:Cq q)(hl:q.length<=50000)(hY:∀σ,gQ σ 12 Y=Y)(kk:W (PT (cD d) r 11 (LA PO o Y) (hE g sm tx (q++[cy (.w e)]) s st [])) K):W (PT (cD d) (rI e::.gc 1::r) 11 (LA PO o Y) (hE g sm tx q s st [])) K:=
 E' rfl rfl H Qw hq (aH hl (by decide)) λσ=>(KN (hY σ)).symm▸kk
theorem Em(H:Sv k sm tx)(Qw:Cq st)(hq:Cq q)(hY:∀σ,gQ σ 12 Y=Y)(kk:W (PT (cD d) r 11 (LA PO o Y) (hE g sm tx q s st [])) K):W (PT (cD d) (.gc 1::r) 11 (LA PO o Y) (hE g sm tx q s st τ)) K:=
 pJ (Mh H Qw hq) ((KN (hY _)).symm▸kk)
noncomputable def rE:PE:=.sub (.sub (.attr aY 19) (.i (.str cQ))) cZ
theorem Ll(Rb:aJ 34 L=some (.ref 0)):aM (cD d) rE L (hA sv g sm tx q s τ)=some (.ref 10,hA sv g sm tx q s τ):=by unfold rE;refine rW (cu ..) (rW (cu ..) (rW (eS ..) (rW (aN Rb ..) ?_)));show Option.map _ ((d9 (gX g).length (-1)).bind λj=>(gX g)[j]?)=_;rw[show (gX g).length=(g.ps.map pV).length+1 from aP,fL (Nat.succ_pos _),UB,Nat.succ_sub_one,show (gX g)[(g.ps.map pV).length]? = some (.ref 10) from List.getElem?_concat_length ..];rfl
theorem l5{P6 P9}(Rb:aJ 34 L=some (.ref 0))(he:aM (cD d) e L (hA sv g sm tx q s τ)=some (.str o,hA sv g P6 P9 q s τ))(hl:s.length+o.length<=a8)(kk:W (PT (cD d) r z L (hA sv g P6 P9 q (s++o) τ)) K):
 W (PT (cD d) (.ai rE cb .add e::r) z L (hA sv g sm tx q s τ)) K:=by
 refine sW (rW (ql ..) (rW (Ll Rb ..) (rW aS ?_))) kk;show Option.bind (aM (cD d) e L (hA sv g sm tx q s τ)) _=_;refine rW he (rW aS ?_);show Option.bind (if s.length+o.length<=a8 then some (V.str (s++o),hA sv g P6 P9 q s τ) else none) _=_;exact rW (T6 hl ..) rfl
end
end
section
section
variable {d:Nat}{g:G0}{sm tx:O}{k i j n z PO:Nat}{q st:List V}{s w b o:aC}{τ:List O}{X L Y:aR}{e:PE}{r:List PS}{K:Fl->aR->St->Prop}{Q:V->St->Prop}{σ:St}{PY:Bool}
theorem D4:bR (cD d) (.af (.E .U kg nk) (.af (.E .U kg (.H [.Y .none,.i (.str [60]),.i (.str [38])])) Ad)) (LA PO [38] []) (hE g sm tx q s (cc w 1) [])=some (JK PO w[0]?,hE g sm tx q s (cc w 1) []):=by
 have e0:aM (cD d) kg (LA PO [38] []) (hE g sm tx q s (cc w 1) [])=some (cL w[0]?,hE g sm tx q s (cc w 1) []):=rfl;generalize w[0]? = c0 at e0;induction c0 with
 |none=>exact mC (bi e0 bH rfl) (JY (bi e0 (b:=.I (.tuple [.none,.str [60],.str [38]])) rfl rfl))
 |some c=>exact sN (bi e0 bH (x:=mz c) rfl) (sN (bi e0 (b:=.I (.tuple [.none,.str [60],.str [38]])) rfl (x:=J2 c) rfl) (i' (bi rfl aD rfl) (bi (a:=.str [PO]) rfl e0 rfl)))
theorem Lk(h:j<n)(hL:aJ 101 L=some (.ref 11))(hi:aJ 106 L=some (.int (j:Nat))):bR (cD d) FJ L (hE g sm tx q s (cc w n) τ)=some (mL w[j]?,hE g sm tx q s (cc w n) τ):=by
 have e0:=GH (d:=d) (g:=g) (sm:=sm) (tx:=tx) (q:=q) (s:=s) (w:=w) (τ:=τ) hL hi h;generalize w[j]? = c0 at e0;induction c0 with
 |none=>exact mC (bi e0 bH rfl) (mC (bi e0 bH rfl) (bi e0 aD rfl))
 |some c=>exact sN (bi e0 bH (x:=er.contains c) (ie c er)) (sN (bi e0 bH (x:=kz.contains c) (ie c kz)) (bi e0 aD (Qg some (cw c 61))))
theorem H5{c}{x y:aC}{σ1}(hi:aJ i L=some (.str x))(he:aM c e L σ=some (.str y,σ1))(hl:x.length+y.length<=a8)(k:W (PT c r z (aX i (.str (x++y)) L) σ1) K):W (PT c (.aj i .add e::r) z L σ) K:=by refine sW (rW (eT ..) (rW hi (rW aS (rW he (rW aS ?_))))) k;show Option.map _ (if x.length+y.length<=a8 then some (V.str (x++y),σ1) else none)=_;exact rW (T6 hl ..) rfl
theorem II(hw:w.length<=200):((w.take n).drop j).length<=200:=rW bV (rW (Uh ..) (aH (UQ ..) (aH (Nat.min_le_right ..) hw)))
theorem IJ(hL:aJ 101 L=some (.ref 11))(hi:aJ 106 L=some (.int (j:Nat)))(hj:j<=n)(hn:n<=w.length)(hw:w.length<=200):aM (cD d) (.join [] tZ) L (hE g sm tx q s (cc w n) [])=some (.str ((w.take n).drop j),hE g sm tx q s (cc w n) [.list ((cc w n).drop j)]):=by
 have es:aM (cD d) tZ L (hE g sm tx q s (cc w n) [])=some (.ref 12,hE g sm tx q s (cc w n) [.list ((cc w n).drop j)]):=by refine rW (d4 ..) (rW (aN hL ..) (rW aS ?_));show Option.bind (aM (cD d) (.q 106) L (hE g sm tx q s (cc w n) [])) _=_;refine rW (aN hi ..) (rW aS ?_);show bO (iA (cc w n) (bP (cc w n).length (j:Nat)) (cc w n).length) _=_;exact rW (v6 (by rw[d8];exact hj) ..) (bx (rW bV (rW (d8 ..) (aH (UQ ..) (aH hn (aH hw (by decide)))))))
 have:=kT es rfl (Br hn) (rW (ey ..) (II hw));rwa [ey]at this
theorem HP(hw:w=mm.drop k)(hn:n<=w.length)(H:Sv j sm tx)(U:tu (k+n) sm tx)(hY:aJ 101 (LA PO o Y)=some (.ref 11))(kk:∀{P6},Sv (k+n) P6 tx->W (PT (cD (d+1)) r 11 (LA PO (38::w.take n) Y) (hE g P6 tx q s (cc w n) [])) K):
 W (PT (cD (d+1)) (.expr (.meth ft 103 [.pop dG])::.j (.l 100) (.J .add eg mj)::r) 11 (LA PO o Y) (hE g sm tx q s (cc w (n+1)) [])) K:=
 eG (nC H U rfl (rW (tL hw ..) (Ge hY)) λh=>aW (v:=.str (38::w.take n)) (iw (y:=w.take n) aD (qV hY hn (oH hw)) ((aH (UK (II (j:=0) (oH hw)) 1) (by decide)))) (kk h))
theorem zE(hb:aJ i L=some (.str b))(Qs:b≠[]){c}:bR c (.E .ne (.sub (.q i) cZ) lP) L σ=some (!dA b,σ):=by
 generalize hx:b.getLast? = z7;induction z7 with
 |none=>exact Uj (List.getLast?_eq_none_iff.mp hx) Qs
 |some x=>exact bi (last_eq hb hx) aD (by unfold dA;exact rW hx rfl)
theorem Fb{v}(hb:aJ i L=some (.str b))(e:xU b=some v):aM (cD d) (.sub (.Y (.u 43)) (.q i)) L σ=some (.str v,σ):=by refine rW (cu ..) (rW (bH ..) (rW aS ?_));show Option.bind (aM _ (.q i) L σ) _=_;refine rW (aN hb ..) ?_;show Option.map _ (bM b kvs)=_;exact rW (qg ..) (rW e rfl)
theorem JH(hw:w=mm.drop k)(hn:n<=w.length)(hq:Cq q)(Qi:q.length<=50000)(H:Sv j sm tx)(U:tu (k+n) sm tx)(hb:b∈iP)(R4:b.length<=n)(kk:∀{P6},Sv (k+n) P6 tx->K .next (LA PO (bif !dA b&&mL w[b.length]? then 38::w.take n else (xU b).getD []++(w.take n).drop b.length) [(105,.str b),(106,.int (b.length:Nat))]) (hE g P6 tx (q++(bif dA b then [] else [.w sf]).map cy) s (cc w n) [])):
 W (PT (cD (d+1)) cB 11 (LA PO [38] [(105,.str b),(106,.int (b.length:Nat))]) (hE g sm tx q s (cc w (n+1)) [])) K:=by
 have Qs:b≠[]:=λe=>AW (e▸hb);obtain ⟨v,ev,RF⟩:=v4 hb;have PQ:∀{q},Cq q->(∀{P6},Sv (k+n) P6 tx->K .next (LA PO (bif !dA b&&mL w[b.length]? then 38::w.take n else v++(w.take n).drop b.length) [(105,.str b),(106,.int (b.length:Nat))]) (hE g P6 tx q s (cc w n) []))->W (PT (cD (d+1)) (cB.drop 2) 11 (LA PO [38] [(105,.str b),(106,.int (b.length:Nat))]) (hE g sm tx q s (cc w (n+1)) [])) K:=λ{q} hq kk=>by
  refine iB (x:=!dA b&&(true&&mL w[b.length]?)) (ES (zE rfl Qs) λJ=>ES rfl λJ=>Lk (Nat.lt_succ_of_le R4) rfl rfl) (λhc=>?_) λhc=>?_
  ·rw[Bool.true_and]at hc;rw[hc]at kk;exact HP hw hn H U rfl λh=>nW (nW (kk h))
  ·rw[Bool.true_and]at hc;rw[hc]at kk;exact aW (Fb rfl ev) (eG (nC H U rfl (rW (tL hw ..) (Ge rfl)) λh=>H5 (x:=v) rfl (IJ rfl rfl R4 hn (oH hw)) (aH (Nat.add_le_add (aH RF (aH R4 (aH hn (oH hw)))) (II (oH hw))) (by decide)) (Em (o:=v++(w.take n).drop b.length) h hH hq (λJ=>rfl) (nW (nW (kk h))))))
 rw[ev]at kk;refine iB (zE rfl Qs) (λhs=>?_) λhs=>?_
 ·rw[Bool.not_eq_true']at hs;rw[show (bif dA b then [] else [bS.w sf])=[.w sf] by exact rW hs rfl]at kk;exact jf rfl (aH Qi (by decide)) (nW (pJ (FQ H hH hq) (PQ (dO hq (cj [.w sf])) kk)))
 ·rw[Bool.not_eq_false']at hs;rw[show q++(bif dA b then [] else [bS.w sf]).map cy=q by exact rW hs (bX q)]at kk;exact nW (Em H hH hq (λJ=>rfl) (PQ hq kk))
theorem Lo(hs:i4 PO)(hw:w=mm.drop k)(hq:Cq q)(Qi:q.length<=50000)(H:Sv (QI k) sm tx)(U:tu k sm tx)(he:jJ ((bT PO w).take 1)=false)(SE:w[0]?≠some 35)(kk:∀{P6 P9 n i out fs Y},Sv (k+n) P6 P9->Ce PO w n out fs->K .next (LA PO out Y) (hE g P6 P9 (q++fs.map cy) s (cc w i) [])):
 W (PT (cD (d+4)) bB 11 (LA PO [38] []) (hE g sm tx q s (cc w 1) [])) K:=by
 refine x5 (b:=Ov) (ED hw rfl rfl H U λ{n fu QK} hR h1 h2=>MC hR (oH hw) rfl λτ=>?_);by_cases hb:db w=[]
 ·exact rW (T6 hb ..) (Em (Y:=[(105,.none)]) h1 hH hq (λJ=>rfl) (iF (bi (a:=.none) rfl aD rfl) (EN (e:=Jr) h1 hH hq Qi (λJ=>rfl) (HP hw hR.le h1 h2 rfl λh=>nW (nW (kk (fs:=[.w Jr]) h (Hh hs hR he SE hb)))))))
 ·refine rW (T8 hb ..) ?_;obtain ⟨R4,_,C⟩:=IX hs hR he SE hb;exact Em (Y:=[(105,.str (db w)),(106,.int ((db w).length:Nat))]) h1 hH hq (λJ=>rfl) (iT (bi (a:=.str (db w)) rfl aD rfl) (JH (d:=d+3) hw hR.le hq Qi h1 h2 ((ez w).nm.resolve_left hb) R4 λh=>nW (kk h C)))
noncomputable def HD(PY:Bool):Option Nat->Bool|none=>false|some c=>(eU PY).contains c
theorem uy:HD PY w[fst PY]? = !(cG PY w).isEmpty:=by
 unfold cG;generalize h:w[fst PY]? = z6;induction z6 with
 |none=>refine rW (Uz (List.getElem?_eq_none_iff.mp h) ..) ?_;rfl
 |some c=>obtain ⟨hl,e⟩:=bY.mp h;refine rW (Uc hl ..) (rW (Ui ..) (rW e ?_));show (eU PY).contains c=_;generalize (eU PY).contains c=z5;induction z5<;>rfl
theorem Lb:bR (cD d) (.af (.ac (.q 144) (.E .U zh (.Y (.u 37)))) (.ac (.ah (.q 144)) (.E .U zh (.Y (.u 32))))) (LA PO [38] [(144,.bool PY)]) (hE g sm tx q s (cc w (n+1)) [])=some (HD PY w[n]?,hE g sm tx q s (cc w (n+1)) []):=by
 have e1:∀{h:Bool},bR (cD d) (.E .U zh (.Y (Gw h))) (LA PO [38] [(144,.bool PY)]) (hE g sm tx q s (cc w (n+1)) [])=some (HD h w[n]?,hE g sm tx q s (cc w (n+1)) []):=λ{h}=>by
  refine bi (jx rfl) bH ?_;generalize w[n]? = z4;induction z4 with
  |none=>exact EL
  |some c=>exact E5
 induction PY with
 |true=>exact (sN (sU (x:=true) rfl (e1 (h:=true))) (jb rfl)).trans (rW (Bool.true_and ..) (rW (Bool.or_false ..) rfl))
 |false=>exact mC (jb rfl) (i' rfl (e1 (h:=false)))
theorem Ki(hs:i4 PO)(hw:w=mm.drop k)(hq:Cq q)(Qi:q.length<=50000)(H:Sv (QI k) sm tx)(SE:w[0]? = some 35)(kk:∀{P6 P9 n i out fs Y},Sv (k+n) P6 P9->Ce PO w n out fs->K .next (LA PO out Y) (hE g P6 P9 (q++fs.map cy) s (cc w i) [])):
 W (PT (cD (d+6)) nB 11 (LA PO [38] []) (hE g sm tx q s (cc w 1) [])) K:=by
 rw[show QI k=k+1 from pj (i:=0) hw SE]at H;obtain ⟨c1,c2,c3,c4⟩:=Hu hs SE;refine aW (v:=.bool false) rfl (eG (tT (n:=1) hw H rfl rfl (by decide) λ{fu QK} h1 U1=>?_));have PQ:∀{Q9 Rj},Sv (QI (k+fst (xO w[1]?))) Q9 Rj->tu (k+fst (xO w[1]?)) Q9 Rj->W (PT (cD (d+6)) (nB.drop 3) 11 (LA PO [38] [(144,.bool (xO w[1]?))]) (hE g Q9 Rj q s (cc w (fst (xO w[1]?)+1)) [])) K:=λ{Q9 Rj} h2 U2=>by
  generalize xO w[1]? = PY at *;refine iB Lb (λhg=>?_) λhg=>?_
  ·rw[uy,Bool.not_eq_true']at hg;have Qs:cG PY w≠[]:=λe=>by rw[e]at hg;exact bU hg.symm
   have C:=c4 Qs;rw[<-List.getElem?_drop]at C;refine eG (nC h2 U2 rfl (rW (tL hw ..) (jx rfl)) λ{sm3} h3=>aG (.eq rfl (NM (d:=d+1) (l:=cG PY w) h3 (w:=w.drop (fst PY)) (rW hw (rW (UR ..) rfl)) rfl Qs hH hq (aH (cO Qi) (by decide)) λ{sm4 tx4} h4=>nW (nW (kk ?_ C)))));rwa [UA,<-UA (fst PY)]at h4
  ·rw[uy,Bool.not_eq_false']at hg;exact EN (e:=xR) h2 hH hq Qi (λJ=>rfl) (HP hw (aH (bC _ _) c1) h2 U2 rfl λh=>nW (nW (kk (fs:=[.w xR]) h (c3 (List.isEmpty_iff.mp hg)))))
 refine iB (x:=xO w[1]?) (bi (jx rfl) (b:=.I (.tuple [.str [120],.str [88]])) rfl (by generalize w[1]? = z3;induction z3<;>rfl)) (λhx=>?_) λhx=>nW ?_
 ·rw[hx]at PQ;obtain ⟨c,hc⟩:∃c,w[1]? = some c:=by
   generalize h:w[1]? = z2;induction z2 with
   |none=>rw[h]at hx;exact bU hx
   |some c=>exact ⟨c,rfl⟩
  rw[pj hw hc]at h1;exact aW (v:=.bool true) rfl (eG (tT (n:=2) hw h1 rfl rfl (by decide) λh2 U2=>nW (PQ h2 U2)))
 ·rw[hx]at PQ;exact PQ h1 U1
theorem Gz{c}(g:G (aM c e L σ) λv σ1=>Q (.ref σ1.length) (σ1++[.list [v]])):G (aM c (.Q [e]) L σ) Q:=by
 induction g with
 |mk h k=>exact .mk (jL.trans (rW (dh h ..) rfl)) k
theorem Ng(hs:i4 PO)(hw:w=mm.drop k)(hq:Cq q)(Qi:q.length<=50000)(QP:s.length+(rd PO (38::bT PO w)).1.length<=a8)(H:Sv k sm tx)(kk:∀{P6 P9 n out fs},Sv (k+n) P6 P9->Ce PO w n out fs->Q .none (hR g P6 P9 (q++fs.map cy) (s++out))):
 G (rF (d+7) 283 [.ref 0,.str [PO],.bool true] (hR g sm tx q s)) Q:=by
 have w0:mm[k]? = w[0]?:=tL (j:=0) hw;refine xP ⟨rfl,rfl⟩ rfl (aW (v:=.str [38]) rfl (aG (Gz (ll H rfl λ{fu QK} h1 U1=>(rW w0 ?_)))));show W (PT (cD (d+6)) (L3.f283.drop 2) 11 (LA PO [38] []) (hE g fu QK q s (cc w 1) [])) _;have fin:∀{P6 P9 n i out fs Y},Sv (k+n) P6 P9->Ce PO w n out fs->sq (cD (d+6)) (L3.f283.drop 3) 11 (λfl J s=>Q (xS fl) s) .next (LA PO out Y) (hE g P6 P9 (q++fs.map cy) s (cc w i) []):=λ{P6 P9 n i out fs Y} H' C=>by
  have hol:s.length+out.length<=a8:=by have:=Qg (λp=>p.1.length) C.rd;simp only[aP]at this;rw[this]at QP;exact aF (mD 0x101843b2131211801871 rfl QP)
  exact iT rfl (l5 (o:=out) rfl rfl hol (nW (pJ ((LF (sv:=.C) (τ:=[.list (cc w i)]) H').trans (rW (dO hq (cj fs) ..) rfl)) (nW (kk H' C)))))
 refine iB (D4.trans (Qg (λb=>some (b,_)) (AM hs (hw▸λh=>j9 (List.mem_of_mem_drop h))))) (λhe=>?_) λhe=>?_
 ·refine eG (nC h1 U1 rfl (rW w0 rfl) λh=>nW ?_);have:=fin (n:=0) (i:=1) (fs:=[]) (Y:=[]) h (Ik hs he);rwa [show q++([]:List bS).map cy=q from bX q]at this
 ·refine iB (x:=w[0]? == some 35) (bi (a:=cL w[0]?) rfl aD ?_) (λh=>Ki hs hw hq Qi h1 (eq_of_beq h) λh C=>nW (fin h C)) λh=>Lo (d:=d+2) hs hw hq Qi h1 U1 he (λe=>by rw[e]at h;exact bU h.symm) λh C=>nW (fin h C);generalize w[0]? = z1;induction z1 with
  |none=>rfl
  |some c=>exact Qg some (cw c 35)
theorem Lq(hs:i4 PO)(hw:w=mm.drop k)(hq:Cq q)(Qi:q.length<=50000)(QP:s.length+(rd PO (38::bT PO w)).1.length<=a8)(H:Sv k sm tx)(kk:∀{P6 P9 n out fs},Sv (k+n) P6 P9->Ce PO w n out fs->Q .none (hR g P6 P9 (q++fs.map cy) (s++out))):
 G (rF (d+8) 290 [.ref 0,.str [PO]] (hR g sm tx q s)) Q:=
 xP ⟨rfl,rfl⟩ rfl (eG (.eq (T6 (e:=none) (rfl:(cD (d+7)).clsm 762 95=some 283)) (Ng hs hw hq Qi QP H λh C=>nW (kk h C))))
end
end
section
open Builtin.Str StrLaws
section
variable {β:Type}
theorem dj(k j:aC)(v:β)(r:List (aC×β)):bM k ((j,v)::r)=if j=k then some v else bM k r:=rfl
theorem oR(k j:aC)(v:β):∀d,bM k (cH j v d)=if j=k then some v else bM k d
 |[]=>rfl
 |(i,w)::r=>by
  show bM k (if i=j then (i,v)::r else (i,w)::cH j v r)=_;by_cases h:i=j
  ·subst h;refine rW (T6 rfl ..) (rW (dj ..) (rW (dj ..) ?_));by_cases h2:i=k
   ·exact rW (T6 h2 ..) (rW (T6 h2 ..) rfl)
   ·exact rW (T8 h2 ..) (rW (T8 h2 ..) (rW (T8 h2 ..) rfl))
  ·refine rW (T8 h ..) (rW (dj ..) (rW (oR k j v r ..) (rW (dj ..) ?_)));by_cases h2:i=k
   ·exact rW (T6 h2 ..) (rW (T6 h2 ..) (rW (T8 λe=>h (h2.trans e.symm) ..) rfl))
   ·exact rW (T8 h2 ..) (rW (T8 h2 ..) rfl)
noncomputable def ks(d:List (aC×β)):bg:=d.map Prod.fst
theorem fN{j:aC}{v:β}:∀{d},j∈ks d->ks (cH j v d)=ks d/\(cH j v d).length=d.length
 |(i,w)::r,h=>by
  show ks (if i=j then (i,v)::r else (i,w)::cH j v r)=_/\(if i=j then (i,v)::r else (i,w)::cH j v r).length=_;by_cases h1:i=j
  ·exact rW (T6 h1 ..) ⟨rfl,rfl⟩
  ·refine rW (T8 h1 ..) ?_;have:=fN (v:=v) ((b8.mp h).resolve_left (Ne.symm h1));exact ⟨Qg (i::·) this.1,Qg Nat.succ this.2⟩
theorem eX{j:aC}{v:β}:∀{d},j∉ks d->cH j v d=d++[(j,v)]
 |[],_=>rfl
 |(i,w)::r,h=>by have h:=not_or.mp λh'=>h (b8.mpr h');show (if i=j then (i,v)::r else (i,w)::cH j v r)=_;exact rW (T8 (Ne.symm h.1) ..) (rW (eX h.2 ..) rfl)
theorem fw{k}:∀{d:List (aC×β)},k∉ks d->bM k d=none
 |[],_=>rfl
 |(i,w)::r,h=>by have h:=not_or.mp λh'=>h (b8.mpr h');exact rW (dj ..) (rW (T8 (Ne.symm h.1) ..) (fw h.2))
theorem jq{k}:∀{d:List (aC×β)},k∈ks d->(bM k d).isSome=true
 |(i,w)::r,h=>by
  refine rW (dj ..) ?_;by_cases h1:i=k
  ·exact rW (T6 h1 ..) rfl
  ·exact rW (T8 h1 ..) (jq ((b8.mp h).resolve_left (Ne.symm h1)))
theorem qC{k j:aC}{v:β}{d:List (aC×β)}(h:k∈ks d\/k=j):k∈ks (cH j v d):=by
 by_cases hj:j∈ks d
 ·exact rW ((fN hj).1 ..) (h.elim id λ(e:k=j)=>e▸hj)
 ·rw[eX hj,ks,ba];exact List.mem_append.mpr (h.imp id λ(e:k=j)=>e▸.head _)
theorem FZ:∀{d d':List (aC×β)},ks d=ks d'->(ks d).Nodup->(∀k,bM k d=bM k d')->d=d'
 |[],[],_,_,_=>rfl
 |[],_::_,h,_,_=>nomatch h
 |_::_,[],h,_,_=>nomatch h
 |(i,v)::r,(j,w)::t,h,hn,he=>by
  obtain ⟨h1,h2⟩:=U5 h;clear h;obtain rfl:i=j:=h1;obtain ⟨hn1,hn2⟩:=List.nodup_cons.mp hn;have h3:=he i;rw[dj,dj,T6 rfl,T6 rfl]at h3;obtain rfl:=aK h3;refine Qg ((i,v)::·) (FZ h2 hn2 λk=>?_);by_cases hk:i=k
  ·subst hk;exact rW (fw hn1 ..) (rW (fw ((show ks r=ks t from h2)▸hn1) ..) rfl)
  ·have:=he k;rwa [dj,dj,T8 hk,T8 hk]at this
end
noncomputable def kH(kvs d:List (aC×V)):List (aC×V):=kvs.foldl (λd p=>if (bM p.1 d).isSome then d else cH p.1 p.2 d) d
theorem oi(k:aC):∀l d:List (aC×V),bM k (kH l d)=(bM k d).or (bM k l)
 |[],d=>by show bM k d=_;generalize bM k d=z3;induction z3<;>rfl
 |(j,v)::r,d=>by
  show bM k (kH r (if (bM j d).isSome then d else cH j v d))=_;refine rW (oi k r ..) (rW (dj ..) ?_);generalize hj:bM j d=z2;induction z2 with
  |some w=>
   show (bM k d).or _=_;by_cases h:j=k
   ·subst h;exact rW hj rfl
   ·exact rW (T8 h ..) rfl
  |none=>
   show (bM k (cH j v d)).or _=_;refine rW (oR ..) ?_;by_cases h:j=k
   ·subst h;exact rW (T6 rfl ..) (rW (T6 rfl ..) (rW hj rfl))
   ·exact rW (T8 h ..) (rW (T8 h ..) rfl)
theorem wi:∀(l d d':List (aC×V)),ks d=ks d'->(ks d).Nodup->ks (bj l d)=ks (kH l d')/\(ks (bj l d)).Nodup
 |[],d,d',h,n=>⟨h,n⟩
 |(j,v)::r,d,d',h,n=>by
  refine wi r (cH j v d) (if (bM j d').isSome then d' else cH j v d') ?_ ((by
   by_cases hj:j∈ks d
   ·exact rW ((fN hj).1 ..) n
   ·rw[eX hj,ks,ba];exact List.nodup_append.mpr ⟨n,List.nodup_cons.mpr ⟨US,.nil⟩,λa ha b hb e=>hj ((e.trans (cP.mp hb):a=j)▸ha)⟩))
  by_cases hj:j∈ks d
  ·exact rW ((fN hj).1 ..) (rW (T6 (jq (h▸hj)) ..) h)
  ·refine rW (fw (h▸hj) ..) (rW (eX hj ..) ?_);show _=ks (cH j v d');rw[eX (h▸hj),ks,ks,ba,ba];exact Qg (·++[j]) h
theorem l9{k:aC}:∀{l d:List (aC×V)},k∈ks d\/k∈ks l->k∈ks (bj l d)
 |[],d,h=>h.elim id λh=>nomatch h
 |(j,v)::r,d,h=>l9 (l:=r) (d:=cH j v d) (h.elim (λh=>.inl (qC (.inl h))) λh=>(b8.mp h).elim (λe=>.inl (qC (.inr e))) .inr)
theorem RC(k:aC)(D:List (aC×V)):∀l,(∀p∈l,p.1∈ks D)->ks (l.foldr (λp d=>cH p.1 p.2 d) D)=ks D/\bM k (l.foldr (λp d=>cH p.1 p.2 d) D)=(bM k l).or (bM k D)
 |[],_=>⟨rfl,rfl⟩
 |(j,v)::r,h=>by
  obtain ⟨h1,h2⟩:=RC k D r λp hp=>h p (.tail _ hp);refine ⟨?_,?_⟩
  ·show ks (cH j v (r.foldr _ D))=_;exact rW ((fN (h1▸h (j,v) (.head _))).1 ..) h1
  ·show bM k (cH j v (r.foldr _ D))=_;refine rW (oR ..) (rW (dj ..) (rW h2 ?_));by_cases e:j=k
   ·exact rW (T6 e ..) (rW (T6 e ..) rfl)
   ·exact rW (T8 e ..) (rW (T8 e ..) rfl)
theorem iR:∀(l d:List (aC×V)),(bj l d).length<=d.length+l.length/\(d.length+l.length<=(bj l d).length->bj l d=kH l d)
 |[],d=>⟨aQ _,λJ=>rfl⟩
 |(j,v)::r,d=>by
  obtain ⟨h1,h2⟩:=iR r (cH j v d);show (bj r (cH j v d)).length<=d.length+(r.length+1)/\(d.length+(r.length+1)<=(bj r (cH j v d)).length->bj r (cH j v d)=kH r (if (bM j d).isSome then d else cH j v d));by_cases hj:j∈ks d
  ·rw[(fN hj).2]at h1;exact ⟨by exact aF (c9 0x12b118b6121184011 rfl h1),λh=>Uj h (λq0=>c9 0x21184011012b11851 rfl h h1)⟩
  ·have hl:(cH j v d).length=d.length+1:=by exact rW (eX hj ..) (rW aP rfl)
   rw[hl]at h1 h2;exact ⟨by exact aF (c9 0x12b118b6121b285011 rfl h1),λh=>(rW (h2 (aF (c9 0x21b285b11012b11851 rfl h)) ..) (rW (fw hj ..) rfl))⟩
theorem yX(l:List (aC×V)):(if (bj l []).length<l.length then bj l.reverse (bj l []) else bj l [])=kH l []:=by
 split
 ·have h0:=wi l [] [] rfl .nil;have hr:bj l.reverse (bj l [])=l.foldr (λp d=>cH p.1 p.2 d) (bj l []):=List.foldl_reverse;have hm:∀p∈l,p.1∈ks (bj l []):=λp hp=>l9 (.inr (UM hp));refine rW hr ?_;have hb:=λk=>RC k (bj l []) l hm;refine FZ ((hb []).1.trans h0.1) ((hb []).1▸h0.2) λk=>rW ((hb k).2 ..) (rW (oi ..) ?_);by_cases hk:k∈ks l
  ·have:=jq hk;generalize h:bM k l=z1;induction z1 with
   |none=>rw[h]at this;exact bU this
   |some v=>rfl
  ·have hn:k∉ks (bj l []):=λh=>by
    have h1:(bM k (kH l [])).isSome=true:=jq (h0.1▸h);rw[oi,fw hk]at h1;exact bU h1
   exact rW (fw hk ..) (rW (fw hn ..) rfl)
 ·rename_i h;exact (iR l []).2 (rW (List.length_nil ..) (rW (UU ..) (aF h)))
end
section
noncomputable def bo(kvs:aZ):List (aC×V):=kvs.map λp=>(p.1,V.str p.2)
noncomputable def qW:aC:=B6
noncomputable def PF:List PS:=match (L3.f297[1]? : Option PS) with|some (PS.ifs _ b _)=>b|_=>[]
noncomputable def Pj:List PS:=match (PF[1]? : Option PS) with|some (PS.ifs _ b _)=>b|_=>[]
noncomputable def P1(g:G0)(s:aC):aZ:=g.ps++[(g.key,s)]
section
variable {d:Nat}{g:G0}{sm tx o:O}{k j n z:Nat}{q q':List V}{sv dt T0:V}{s nm:aC}{τ:List O}{X L:aR}{σ:St}{r:List PS}{K:Fl->aR->St->Prop}
theorem OO:rF (d+1) 42 [.str [88]] σ=some (.str [120],σ++[.list [.str [120]]]):=by refine kX ⟨rfl,rfl⟩ rfl (jD (v:=.str [120]) (σ1:=σ++[.list [.str [120]]]) (kT (ps:=[[120]]) (a:=σ.length) (eQ.trans ?_) bh rfl (by decide)) ⟨rfl,rfl⟩);show Option.bind (dc _ _ _ [V.str [88]] [(3,.str [88])] σ) _=_;have hs:cT (cD d) σ σ (.str [88])=true:=bN.mpr rfl;refine rW (eR ..) (rW (T6 hs ..) ?_);show Option.bind (Option.bind (dc _ _ _ [] _ σ) _) _=_;exact rW (fW ..) (rW (T6 hs ..) rfl)
theorem nG{σ}{l:aZ}:dJ σ (l.map pV)=some (bo l):=by
 induction l with
 |nil=>rfl
 |cons p l ih=>show (some (p.1,V.str p.2)).bind (λp=>(dJ σ (l.map pV)).map (p::·))=_;exact rW ih rfl
theorem iQ{σ}:∀{a b:List V}{x y:List (aC×V)},dJ σ a=some x->dJ σ b=some y->dJ σ (a++b)=some (x++y)
 |[],b,x,y,ha,hb=>by obtain rfl:=aK ha;exact hb
 |v::a,b,x,y,ha,hb=>by
  have ha:(((mB σ v).bind q9).bind λp=>(dJ σ a).map (p::·))=some x:=ha;show (((mB σ v).bind q9).bind λp=>(dJ σ (a++b)).map (p::·))=_;generalize hv:(mB σ v).bind q9=z2;induction z2 with
  |none=>rw[hv]at ha;exact bl ha
  |some p=>
   rw[hv,UB]at ha;refine rW aS ?_;generalize hx:dJ σ a=z1;induction z1 with
   |none=>rw[hx]at ha;exact bl ha
   |some x'=>rw[hx]at ha;obtain rfl:=aK ha;exact rW (iQ hx hb ..) rfl
theorem EK:bo (P1 g s)=bo g.ps++[(g.key,.str s)]:=ba ..
theorem xC:dJ (hZ sv g sm tx q s nm dt τ) (gX g)=some (bo (P1 g s)):=by exact rW (EK ..) (iQ nG rfl)
theorem wU:dJ (hZ sv g sm tx q s nm dt τ) (gX g).reverse=some (bo (P1 g s)).reverse:=by rw[EK,List.reverse_append,show (gX g).reverse=[.ref 10]++(g.ps.reverse).map pV by unfold gX;rw[List.reverse_append,List.map_reverse];rfl,show (bo g.ps).reverse=bo g.ps.reverse from (List.map_reverse ..).symm];exact iQ (x:=[(g.key,.str s)]) rfl nG
theorem BZ(hk:g.ps.length+1<=201)(kk:∀ex,K .next [(34,.ref 0),(18,.ref 9),(65,.ref 8),(29,.ref 12)] (hZ .C g sm tx q s nm (.ref 12) (o::.dict (kH (bo (P1 g s)) [])::ex))):
 W (PT (cD d) Pj z [(34,.ref 0),(18,.ref 9)] (hZ .C g sm tx q s nm (.ref 8) [o])) K:=by
 have hl:(bo (P1 g s)).length=g.ps.length+1:=by unfold bo P1;exact rW bA (rW aP rfl)
 have hd:(gX g).length=g.ps.length+1:=by unfold gX;exact rW aP (rW bA rfl)
 have hp:=(iR (bo (P1 g s)) []).1;rw[List.length_nil,UU]at hp;refine aW (v:=.ref 8) rfl (aW (v:=.ref 12) (σ1:=hZ .C g sm tx q s nm (.ref 8) [o,.dict (bj (bo (P1 g s)) [])]) ?_ ?_)
 ·show (Option.bind (dJ (hZ .C g sm tx q s nm (.ref 8) [o]) (gX g)) _)=_;exact rW (xC ..) (T6 (aH (hl▸hk) (by decide)))
 have Sl:=yX (bo (P1 g s));refine iB (x:=decide ((bj (bo (P1 g s)) []).length<(bo (P1 g s)).length)) (bi (a:=.int ((gX g).length:Nat)) rfl (b:=.int ((bj (bo (P1 g s)) []).length:Nat)) rfl ?_) (λh=>?_) λh=>?_
 ·show some (decide (((bj (bo (P1 g s)) []).length:Int)<((gX g).length:Nat)))=_;exact rW hd (rW hl (Qg some (decide_eq_decide.mpr Int.ofNat_lt)))
 ·rw[T6 (T9 h)]at Sl;refine eW (v:=.none) (σ1:=hZ .C g sm tx q s nm (.ref 8) [o,.dict (kH (bo (P1 g s)) []),.list (gX g).reverse]) (sy.trans ((Qg (λx=>Option.bind x _) (bx (rW (List.length_reverse ..) (rW hd (aH hk (by decide)))):bO (gX g).reverse (hZ .C g sm tx q s nm (.ref 8) [o,.dict (bj (bo (P1 g s)) [])])=some (.ref 13,hZ .C g sm tx q s nm (.ref 8) [o,.dict (bj (bo (P1 g s)) []),.list (gX g).reverse]))).trans ?_)) (nW (sW rfl (nW (kk [.list (gX g).reverse]))));refine (Qg (λx=>Option.bind x _) (wU (τ:=[o,.dict (bj (bo (P1 g s)) []),.list (gX g).reverse]))).trans ((T6 (?_:(bj (bo (P1 g s)) []).length+(bo (P1 g s)).reverse.length<=sY)).trans ?_)
  ·refine rW (List.length_reverse ..) (rW hl ?_);rw[hl]at hp;show _<=500;exact aF (cV 0xb11841f47b51c973b12b1111 rfl hp hk)
  ·exact rW (Sl ..).symm rfl
 ·rw[T8 (of_decide_eq_false h)]at Sl;exact nW (sW rfl (nW (Sl▸kk [])))
theorem zI(H:Sv k sm tx)(hq:q.length<=50000+1)(hq':∀σ,σ=hZ (.ref (11+τ.length)) g sm tx (q++[.ref 9]) s nm dt (τ++[.meth 304 (.ref 0)])->q.map (rv σ 11)=q'/\rv σ 11 dt=T0/\rv σ 11 (.ref (11+τ.length))=.C)(kk:∀L',K .next L' (hZ .C g sm tx (q'++[.ref 9]) s nm T0 [])):
 W (PT (cD d) (L3.f297.drop 2) 11 ((34,.ref 0)::(18,.ref 9)::L) (hZ .C g sm tx q s nm dt τ)) K:=by
 obtain ⟨h1,h2,h3⟩:=hq' _ rfl;have hn:(hZ .C g sm tx (q++[.ref 9]) s nm dt τ).length=11+τ.length:=UJ τ.length 11;refine eW (mJ (a:=7) (Ho rfl) rfl (v:=.ref 9) rfl rfl (aH hq (by decide)) (σ':=hZ .C g sm tx (q++[.ref 9]) s nm dt τ) rfl) (JU (v:=.ref (11+τ.length)) (σ1:=hZ .C g sm tx (q++[.ref 9]) s nm dt (τ++[.meth 304 (.ref 0)])) (rW hn.symm rfl) rfl (pJ (σ1:=hZ .C g sm tx (q'++[.ref 9]) s nm T0 []) ?_ (nW (kk _))));refine (ij (n:=11) (σ:=hZ (.ref (11+τ.length)) g sm tx (q++[.ref 9]) s nm dt []) (τ:=τ++[.meth 304 (.ref 0)]) rfl).trans ?_;have e:=oW (σ:=hZ (.ref (11+τ.length)) g sm tx (q++[.ref 9]) s nm dt (τ++[.meth 304 (.ref 0)])) (n:=11) (st:=.ref (11+τ.length)) (dt:=dt) (nm:=nm) (g:=g) (q:=q++[.ref 9]) (s:=s) (τ:=[]) H (aQ _);rw[h2,h3,ba,h1]at e;exact e
end
end
section
noncomputable def eH(l d:aZ):aZ:=l.foldl (λd p=>if (d.map (·.1)).contains p.1 then d else d++[p]) d
theorem nO(k:aC):∀d:aZ,(bM k (bo d)).isSome=(d.map (·.1)).contains k
 |[]=>rfl
 |(j,v)::d=>by
  show (if j=k then some (V.str v) else bM k (bo d)).isSome=(j::d.map (·.1)).contains k;refine rW (List.contains_cons ..) ?_;by_cases h:j=k
  ·exact rW (T6 h ..) (rW h (rW (Ua ..) rfl))
  ·exact rW (T8 h ..) (rW (nO k d ..) (rW (T7 λe=>h e.symm ..) rfl))
theorem sR:∀l d:aZ,kH (bo l) (bo d)=bo (eH l d)
 |[],d=>rfl
 |(j,v)::l,d=>by
  show kH (bo l) (if (bM j (bo d)).isSome then bo d else cH j (.str v) (bo d))=bo (eH l (if (d.map (·.1)).contains j then d else d++[(j,v)]));refine rW (nO ..) ?_;generalize h:(d.map (·.1)).contains j=z2;induction z2 with
  |true=>exact sR l d
  |false=>
   have hn:j∉ks (bo d):=λq=>by have:=jq q;rw[nO,h]at this;exact bU this
   rw[T8 Bool.false_ne_true,T8 Bool.false_ne_true,eX hn,show bo d++[(j,V.str v)]=bo (d++[(j,v)]) by unfold bo;rw[ba];rfl];exact sR l (d++[(j,v)])
theorem CR{σ n k}(l:aZ):(bo l).map (λp=>(p.1,rz σ n k p.2))=bo l:=by unfold bo;refine rW (Up ..) ?_;exact Un λp J=>by induction k<;>rfl
section
variable {d:Nat}{sm tx:O}{k j n z:Nat}{q:List V}{s P':aC}{ps:aZ}{Q:V->St->Prop}
theorem Id{σ n}{τ:List O}(h:σ[n+τ.length]? = some (.meth 304 (.ref 0))):rv σ n (.ref (n+τ.length))=.C:=by show (bif Nat.blt (n+_) n then _ else bif Nat.ble n (n+_) then (match σ[n+τ.length]? with|some o=>jj (rz σ n 5) o|none=>.C) else .C)=V.C;exact rW h (rW (show Nat.blt (n+τ.length) n=false from Bool.eq_false_iff.mpr λq=>Nat.not_lt.mpr (bC n _) (cg q) ..) (rW (Uw (bC n _) ..) rfl))
theorem JA(H:Sv k sm tx)(hq:Cq q)(Qi:q.length<=50000)(hk:ps.length+1<=201):
 rF (d+2) 297 [.ref 0] (hA .C ⟨3,[88],ps,P'⟩ sm tx q s [])=some (.none,hZ .C ⟨3,[88],ps,P'⟩ sm tx (q++[.ref 9]) s [120] (.I (.dict (bo (eH (ps++[(P',s)]) [])))) []):=by
 have SQ:kH (bo (P1 ⟨3,[88],ps,P'⟩ s)) []=bo (eH (ps++[(P',s)]) []):=sR (ps++[(P',s)]) [];refine kX ⟨rfl,rfl⟩ rfl (aW (v:=.ref 9) rfl (iT rfl (JU (v:=.str [120]) (σ1:=hZ .C ⟨3,[88],ps,P'⟩ sm tx q s [88] (.ref 8) [.list [.str [120]]]) (OO (d:=d)) rfl (iT rfl (BZ (g:=⟨3,[88],ps,P'⟩) (nm:=[120]) (o:=.list [.str [120]]) hk λex=>iN rfl (nW (zI (q':=q) (T0:=.I (.dict (bo (eH (ps++[(P',s)]) [])))) H (Nat.le_succ_of_le Qi) (λσ hσ=>⟨hq _ _,?_,Id ?_⟩) λJ=>⟨rfl,rfl⟩)))))))
 ·subst hσ;refine rW SQ ?_;show V.I (.dict ((bo (eH (ps++[(P',s)]) [])).map λp=>(p.1,rz _ 11 5 p.2)))=_;exact rW (CR ..) rfl
 ·subst hσ;exact rW (UJ ..) (List.getElem?_concat_length (l:=ex))
theorem Ke(g:G0):(gX g).isEmpty=false:=by unfold gX;generalize g.ps=z1;induction z1<;>rfl
theorem Lc(H:Sv k sm tx)(hq:Cq q)(Qi:q.length<=50000):
 rF (d+2) 297 [.ref 0] (hA .C ⟨4,[88],ps,P'⟩ sm tx q s [])=some (.none,hZ .C ⟨4,[88],ps,P'⟩ sm tx (q++[cy (.w qW)]++[.ref 9]) s [120] (.ref 8) []):=by
 refine kX ⟨rfl,rfl⟩ rfl (aW (v:=.ref 9) rfl (iT rfl (JU (v:=.str [120]) (σ1:=hZ .C ⟨4,[88],ps,P'⟩ sm tx q s [88] (.ref 8) [.list [.str [120]]]) (OO (d:=d)) rfl (iN rfl (iT rfl (iT (Qg (λb=>some (!b,_)) (Ke ⟨4,[120],ps,P'⟩)) (jf (g:=⟨4,[120],ps,P'⟩) (τ:=[.list [.str [120]]]) rfl (aH Qi (by decide)) (pJ (σ1:=hA .C ⟨4,[120],ps,P'⟩ sm tx (q++[cy (.w qW)]) s []) ?_ (nW (iN rfl (nW (nW (zI (g:=⟨4,[88],ps,P'⟩) (nm:=[120]) (τ:=[]) (dt:=.ref 8) (T0:=.ref 8) (q':=q++[cy (.w qW)]) H (rW aP (cO Qi)) (λσ hσ=>⟨dO hq (cj [.w qW]) _ _,rfl,by subst hσ;rfl⟩) λJ=>⟨rfl,rfl⟩)))))))))))));have e4:=LF (g:=⟨4,[120],ps,P'⟩) (sv:=.C) (q:=q++[.ref 12]) (s:=s) (τ:=[.list [.str [120]],.dict [(ew,.int 7),(cQ,.str qW)]]) H;rw[ba,hq]at e4;exact e4
end
end
section
noncomputable def Jm:aC->Nat|[]=>0|c::_=>bif gA c then 0 else 1
noncomputable def yi(p:aC):Nat:=2*p.countP gA+Jm p
theorem yo(p:aC):Jm p<=1:=by
 induction p with
 |nil=>exact bu _
 |cons c r=>show (bif gA c then 0 else 1)<=1;generalize gA c=Tm;induction Tm<;>decide
theorem nX{a b c}(hc:gA c=true):yi b<yi ((c::a)++b):=by
 unfold yi;have h:((c::a)++b).countP gA=a.countP gA+b.countP gA+1:=by exact rW (UZ ..) (rW (List.countP_cons_of_pos hc ..) (rW (List.countP_append ..) rfl))
 refine rW h ?_;have:=yo b;exact Uo (mD 0x2102948731018b02988b1a1211 rfl this)
theorem Dh{a b c}(hb:Jm b=0):yi b<yi ((c::a)++b):=by
 generalize hc:gA c=Tn;induction Tn with
 |true=>exact nX hc
 |false=>
  unfold yi;have h:((c::a)++b).countP gA=a.countP gA+b.countP gA:=by exact rW (UZ ..) (rW (List.countP_cons_of_neg (by exact rW hc Bool.false_ne_true) ..) (rW (List.countP_append ..) rfl))
  have h1:Jm ((c::a)++b)=1:=by show (bif gA c then 0 else 1)=1;exact rW hc rfl
  exact rW h (rW hb (rW h1 (Uo (cV 0x710294871018029b81 rfl ))))
structure Cv(PO:Nat)(w:aC)(n:Nat)(out:aC)(fs:List bS):Prop where
 le:n<=w.length
 ok:∀c∈w.take n,pn PO c=true
 rd:rd PO (bT PO w)=(out++(rd PO (bT PO (w.drop n))).1,fs++(rd PO (bT PO (w.drop n))).2)
 lt:yi (bT PO (w.drop n))<yi (bT PO w)
section
variable {PO n c:Nat}{w r out:aC}{fs:List bS}
theorem uP(h:∀c∈w.take n,pn PO c=true):bT PO w=w.take n++bT PO (w.drop n):=by have:=lS (p:=pn PO) (w.drop n) h;rwa [List.take_append_drop]at this
theorem ug(hc:gA c=true)(hp:pn PO c=true)(h:∀r,rd PO (c::r)=(out++(rd PO r).1,fs++(rd PO r).2)):Cv PO (c::r) 1 out fs:=by
 have e:bT PO (c::r)=c::bT PO r:=Ut hp;refine ⟨cO (bu _),λx hx=>by clear e h hc;obtain rfl:=cP.mp hx;exact hp,?_,?_⟩
 ·rw[e,h];rfl
 ·exact rW e (nX (a:=[]) hc)
theorem AI(hs:i4 PO)(C:Ce PO r n out fs)(hp:pn PO 38=true):Cv PO (38::r) (n+1) out fs:=by
 have e:bT PO (38::r)=38::bT PO r:=Ut hp;refine ⟨cO C.le,λx hx=>?_,?_,?_⟩
 ·rcases b8.mp hx with rfl|hx
  ·exact hp
  ·exact kt hs (C.ok x hx)
 ·exact rW e C.rd
 ·exact rW e (rW (nM hs C.ok ..) (nX (c:=38) (a:=r.take n) rfl))
noncomputable def oM(PO:Nat):aC:=bif PO==62 then [38,62,34,39,61,60,96,0,9,10,12,32,13] else [PO,38,0]
noncomputable abbrev run(PO:Nat)(w:aC):aC:=w.takeWhile λx=>(oM PO).contains x==false
theorem CH{x}:ga x=(x==34||(x==39||(x==61||(x==60||x==96)))):=by unfold ga;simp only[cw,Bool.or_false];exact rW (Bool.beq_comm (a:=34) ..) (rW (Bool.beq_comm (a:=39) ..) (rW (Bool.beq_comm (a:=61) ..) (rW (Bool.beq_comm (a:=60) ..) (rW (Bool.beq_comm (a:=96) ..) rfl))))
theorem Ig(hs:i4 PO){x}(h:((oM PO).contains x==false)=true):pn PO x=true/\x≠0/\x≠38/\(PO=62->ga x=false):=by
 have h:(oM PO).contains x=false:=eq_of_beq h;have hm:∀y,y∈oM PO->x≠y:=λy hy e=>by rw[<-e]at hy;rw[List.contains_iff_mem.mpr hy]at h;exact bU h.symm
 have RH:(∀y∈w6 PO,y∈oM PO)->pn PO x=true:=λSO=>by
  unfold pn;generalize hq:(w6 PO).contains x=To;induction To with
  |false=>rfl
  |true=>exact Uj rfl (hm x (SO x (List.contains_iff_mem.mp hq)))
 rcases hs with rfl|rfl|rfl
 ·exact ⟨RH (by decide +kernel),hm _ (by decide +kernel),hm _ (by decide +kernel),λe=>by cases e⟩
 ·exact ⟨RH (by decide +kernel),hm _ (by decide +kernel),hm _ (by decide +kernel),λe=>by cases e⟩
 ·exact ⟨RH (by decide +kernel),hm _ (by decide +kernel),hm _ (by decide +kernel),λJ=>(rW (CH ..) (rW (T7 (hm 34 (by decide +kernel)) ..) (rW (T7 (hm 39 (by decide +kernel)) ..) (rW (T7 (hm 61 (by decide +kernel)) ..) (rW (T7 (hm 60 (by decide +kernel)) ..) (rW (T7 (hm 96 (by decide +kernel)) ..) rfl))))))⟩
theorem vR(hs:i4 PO){x}(h:(oM PO).contains x=true)(hp:pn PO x=true)(SF:x≠13):gA x=true:=by
 have tb:((oM PO).all λx=>x==13||(!pn PO x||gA x))=true:=by clear hp h;rcases hs with rfl|rfl|rfl<;>decide +kernel
 have:=a9.mp tb x (List.contains_iff_mem.mp h);rw[T7 SF,hp]at this;exact this
theorem yS(hs:i4 PO)(SF:13∉w)(h:run PO w≠[]):Cv PO w (run PO w).length (run PO w) []:=by
 have Rv:(run PO w).length<=w.length:=(Uy _).length_le;have ht:w.take (run PO w).length=run PO w:=lu w;have hq:∀x∈run PO w,pn PO x=true/\x≠0/\x≠38/\(PO=62->ga x=false):=λx hx=>Ig hs (mv (p:=λx=>(oM PO).contains x==false) hx);have SP:∀c∈w.take (run PO w).length,pn PO c=true:=λc hc=>by rw[ht]at hc;exact (hq c hc).1
 have RV:=uP SP;rw[ht]at RV;have hb:Jm (bT PO (w.drop (run PO w).length))=0:=by
  refine rW (yN (p:=λx=>(oM PO).contains x==false) w ..) ?_;rcases oO (p:=λx=>(oM PO).contains x==false) w with e|⟨c,q,e,hc⟩
  ·exact rW e rfl
  ·refine rW e ?_;have hc1:(oM PO).contains c=true:=by
    generalize h:(oM PO).contains c=z9;induction z9 with
    |true=>rfl
    |false=>rw[h]at hc;exact bU hc.symm
   have hcw:c∈w:=(List.dropWhile_sublist _).subset (rW e (.head _));show Jm ((c::q).takeWhile (pn PO))=0;refine rW (Ui ..) ?_;generalize hp:pn PO c=z8;induction z8 with
   |false=>rfl
   |true=>show (bif gA c then 0 else 1)=0;exact rW (vR hs hc1 hp λe=>SF (e▸hcw) ..) rfl
 refine ⟨Rv,SP,?_,?_⟩
 ·exact rW RV (rW (t9 λc hc=>(hq c hc).2 ..) rfl)
 ·generalize he:run PO w=z1;induction z1 with
  |nil=>exact Uj he h
  |cons c a=>rw[he]at RV hb;exact rW RV (Dh hb)
theorem Eh(r:aC):(xY r).1.length+(r.drop (xY r).2.1).length<=r.length+1/\(xY r).2.2.length<=2:=by
 refine a7 λkC=>?_;have hl:=(ez r).pre.length_le;by_cases hb:db r=[]
 ·have e:xY r=([38],0,[.w Jr]):=by unfold xY;exact rW hb rfl
  exact kC (rW e ⟨aU (UJ 1 r.length),UT _⟩)
 ·obtain ⟨v,ev,hv⟩:=v4 ((ez r).nm.resolve_left hb);have e:xY r=bif !dA (db r)&&iL ((r.drop (db r).length).take 1) then (38::db r,(db r).length,[.w sf]) else (v,(db r).length,bif dA (db r) then [] else [.w sf]):=by
   unfold xY;rw[T7 hb,cond_false,ev,Option.getD_some]
  refine kC ?_;rw[e];have hd:(r.drop (db r).length).length=r.length-(db r).length:=bV;generalize db r=b at hl hv hd;cases !dA b&&iL ((r.drop b.length).take 1) with
  |true=>refine rW (cond_true ..) ⟨?_,UT _⟩;show b.length+1+(r.drop b.length).length<=_;exact aF (mD 0x2b1841bb31312111131831 rfl (pL (aF (cV 0x11b2111011 rfl hl))) (aU hd :))
  |false=>
   refine rW (cond_false ..) ⟨?_,?_⟩
   ·show v.length+(r.drop b.length).length<=_;exact aF (xg 0x321841bb3141311114183101211 rfl hv (pL (aF (cV 0x11b2111011 rfl hl))) (aU hd :))
   ·show (bif dA b then [] else [bS.w sf]).length<=2;generalize dA b=z7;induction z7 with
    |true=>exact bu _
    |false=>exact UT _
theorem Bc{k}:(eD k).1.length<=1:=by
 unfold eD;generalize iy k=z6;induction z6 with
 |true=>
  show (sD k).length<=1;unfold sD;have tb:(L3.tab46.all λp=>Nat.ble p.2.length 1)=true:=by decide +kernel
  generalize h:L3.tab46.lookup (k:Int)=z5;induction z5 with
  |none=>exact bu _
  |some s=>
   have:∀{T:List (Int×aC)},T.lookup (k:Int)=some s->∃i,(i,s)∈T:=λ{T} hT=>by
    clear h;induction T with
    |nil=>exact bl hT
    |cons p T ih=>
     rw[show p=(p.1,p.2) from rfl,Uu]at hT;generalize hq:((k:Int)==p.1)=z4;induction z4 with
     |true=>rw[hq]at hT;clear ih;obtain rfl:=aK hT;exact ⟨p.1,.head _⟩
     |false=>rw[hq]at hT;obtain ⟨i,hi⟩:=ih hT;exact ⟨i,.tail _ hi⟩
   obtain ⟨i,hi⟩:=this h;exact cg (a9.mp tb _ hi)
 |false=>generalize r7 k=z3;induction z3<;>exact aQ _
theorem vM{k}:(bif (eD k).2 then [bS.n k] else []).length<=1:=by
 generalize (eD k).2=z2;induction z2 with
 |true=>exact aQ _
 |false=>exact bu _
theorem B9(PY:Bool)(r:aC):(kG PY r).1.length+(r.drop (kG PY r).2.1).length<=r.length+1/\(kG PY r).2.2.length<=2:=by
 have hd:∀k,(r.drop k).length=r.length-k:=λk=>bV;have ht:∀k,(r.take k).length=min k r.length:=λk=>Uh;have h1:=Bc (k:=dB PY (gh PY r));have h2:=vM (k:=dB PY (gh PY r));unfold kG;generalize gh PY r=g at h1 h2 ⊢;generalize (bif (eD (dB PY g)).2 then [bS.n (dB PY g)] else [])=f at h2 ⊢;generalize (eD (dB PY g)).1=o at h1 ⊢;cases g.isEmpty with
 |true=>refine rW (cond_true ..) ⟨?_,UT _⟩;show (r.take (fst PY)).length+1+(r.drop (fst PY)).length<=_;rw[hd,ht,Nat.add_right_comm,UJ (min _ _),Nat.min_comm,Nat.sub_add_min_cancel];exact aQ _
 |false=>
  refine rW (cond_false ..) ?_;cases (r.drop (fst PY+g.length)).take 1==[59] with
  |true=>refine rW (cond_true ..) ⟨?_,Nat.le_succ_of_le h2⟩;show o.length+(r.drop _).length<=_;rw[hd];exact aF (c9 0x101842bb3121111a1011 rfl h1 (UQ _ _))
  |false=>
   refine rW (cond_false ..) ⟨?_,?_⟩
   ·show o.length+(r.drop _).length<=_;rw[hd];exact aF (c9 0x101842bb3121111a1011 rfl h1 (UQ _ _))
   ·show (f++[bS.w qN]).length<=2;exact rW aP (cO h2)
theorem DJ(r:aC):(cK r).1.length+(r.drop (cK r).2.1).length<=r.length+1/\(cK r).2.2.length<=2:=by
 unfold cK;generalize jJ (r.take 1)=z1;induction z1 with
 |true=>exact rW (cond_true ..) ⟨aU (UJ 1 r.length),bu _⟩
 |false=>
  refine rW (cond_false ..) ?_;cases ny (r.take 1) with
  |true=>exact rW (cond_true ..) (B9 _ _)
  |false=>exact rW (cond_false ..) (Eh _)
theorem lU{PO}:∀(k:Nat) (p:aC),p.length<=k->(rd PO p).1.length<=p.length/\(rd PO p).2.length<=2*p.length
 |_,[],_=>⟨aQ _,aQ _⟩
 |k+1,c::r,h'=>by
  have h:r.length<=k:=Nat.le_of_succ_le_succ h';clear h';obtain ⟨h1,h2⟩:=lU (PO:=PO) k r h;by_cases c0:c=0
  ·subst c0;exact rW (k6 ..) ⟨cO h1,by show _+1<=2*(r.length+1);exact aF (cV 0x1b2b029b51292111 rfl h2)⟩
  ·by_cases c38:c=38
   ·clear c0;subst c38;refine rW (uf ..) (a7 λkC=>?_);obtain ⟨g1,g2⟩:=DJ r;have hd:(r.drop (cK r).2.1).length<=r.length:=rW bV (UQ ..);obtain ⟨h3,h4⟩:=lU (PO:=PO) k (r.drop (cK r).2.1) (aH hd h);refine kC ⟨?_,?_⟩
    ·show ((cK r).1++_).length<=r.length+1;exact rW aP (aF (mD 0x31184bb2121311b1211841 rfl g1 h3))
    ·show ((cK r).2.2++_).length<=2*(r.length+1);exact rW aP (aF (mD 0x32184b029b510111210294311272211 rfl g2 h4 hd))
   ·refine rW (oj c0 c38 ..) ⟨cO h1,?_⟩;show ((bif PO==62&&ga c then [bS.w rg] else [])++_).length<=2*(r.length+1);refine rW aP ?_;have:(bif PO==62&&ga c then [bS.w rg] else []).length<=1:=by
     cases PO==62&&ga c with
     |true=>exact aQ _
     |false=>exact bu _
    exact aF (c9 0x12184b029b51a1211292111 rfl h2 this)
end
end
section
noncomputable def LS(c:Option Nat):aR:=[(34,.ref 0),(29,cL c)]
noncomputable def OT:Option Nat->Bool|none=>false|some c=>mz c
noncomputable def ML:Option Nat->Bool|none=>false|some c=>ga c
noncomputable def LZ(f:Nat):PS:=.j (.a aY 38) (.attr aY f)
noncomputable def OD:PS:=.j (.l 29) mw
noncomputable def FP:PS:=.ae (.i (.bool true))
section
variable {d:Nat}{g:G0}{sm tx:O}{k j n z PO f fn:Nat}{q q' st:List V}{sv b':V}{s w b lost:aC}{τ:List O}{X L:aR}{σ:St}{c:Option Nat}{cx:Cx}{r:List PS}{e:PE}{K:Fl->aR->St->Prop}{Q:V->St->Prop}
theorem OK{x}:bR cx (.E .eq cf (.i (.str [x]))) (LS c) σ=some (c==some x,σ):=by
 refine bi (a:=cL c) rfl aD ?_;induction c with
 |none=>rfl
 |some y=>exact Qg some (cw y x)
theorem JM:bR (cD d) qH (LS c) σ=some (OT c,σ):=by refine bi (a:=cL c) rfl bH ?_;induction c<;>rfl
theorem IW:bR cx kh (LS c) σ=some (c.isNone,σ):=by refine bi (a:=cL c) rfl bH ?_;induction c<;>rfl
theorem LG:bR cx (.E .U cf (.H [.i (.str [34]),.i (.str [39]),.i (.str [61]),.i (.str [60]),.i (.str [96])])) (LS c) σ=some (ML c,σ):=by refine bi (a:=cL c) rfl (b:=.I (.tuple [.str [34],.str [39],.str [61],.str [60],.str [96]])) rfl ?_;induction c<;>rfl
theorem C1(H:Sv k sm tx)(hq:q.map (rv (hA sv g sm tx q s τ) 11)=q')(hs:rv (hA sv g sm tx q s τ) 11 sv=.C)(kk:∀L',K (.ret (.bool true)) L' (hA .C g sm tx q' s [])):W (PT (cD d) [FP] 11 X (hA sv g sm tx q s τ)) K:=
 Cb rfl rfl (rW (LF H ..) (rW hs (rW hq rfl))) (kk _)
theorem qT{l b}(hq:Cq l)(hb:rv σ 11 b=b'):(l++[b]).map (rv σ 11)=l++[b']:=by rw[ba,hq];exact Qg (λx=>l++[x]) hb
theorem oE{e}(H:Sv k sm tx)(hq:Cq q)(kk:∀L',K (.ret (.bool true)) L' (hA .C g sm tx (q++[bS.w e].map cy) s [])):W (PT (cD d) [FP] 11 X (hA .C g sm tx (q++[.ref 11]) s [.dict [(ew,.int 7),(cQ,.str e)]])) K:=C1 H (qT hq rfl) rfl kk
theorem iJ{e}(H:Sv k sm tx)(hq:Cq q)(kk:∀L',K (.ret (.bool true)) L' (hA .C g sm tx (q++[bS.w e].map cy) s [])):W (PT (cD d) [FP] 11 X (hA (.ref 12) g sm tx (q++[.ref 11]) s [.dict [(ew,.int 7),(cQ,.str e)],.meth fn (.ref 0)])) K:=C1 H (qT hq rfl) rfl kk
theorem dP(H:Sv k sm tx)(hq:Cq q)(kk:∀L',K (.ret (.bool true)) L' (hA .C g sm tx q s [])):W (PT (cD d) [FP] 11 X (hA (.ref 11) g sm tx q s [.meth fn (.ref 0)])) K:=C1 H (hq _ _) rfl kk
theorem lA(H:Sv k sm tx)(hq:Cq q)(kk:∀L',K (.ret (.bool true)) L' (hA .C g sm tx q s [])):W (PT (cD d) [FP] 11 X (hA .C g sm tx q s [])) K:=C1 H (hq _ _) rfl kk
theorem mI:q++([]:List bS).map cy=q:=bX q
theorem fA(hf:pX.clsm 762 f=some fn)(hn:aJ f [(13,V.ref 1),(35,.none),(36,.bool false),(37,.ref 6),(38,sv),(40,.bool false),(19,.ref 9),(12,.ref 7)]=none)(kk:W (PT (cD d) r z (LS c) (hA (.ref (11+τ.length)) g sm tx q s (τ++[.meth fn (.ref 0)]))) K):
 W (PT (cD d) (LZ f::r) z (LS c) (hA sv g sm tx q s τ)) K:=by
 have hl:(hA sv g sm tx q s τ).length=11+τ.length:=UJ τ.length 11;have e:aM (cD d) (.attr aY f) (LS c) (hA sv g sm tx q s τ)=some (.ref (11+τ.length),hA sv g sm tx q s (τ++[.meth fn (.ref 0)])):=?_
 ·exact JU e rfl kk
 refine rW (eS ..) (rW (show aM (cD d) aY (LS c) (hA sv g sm tx q s τ)=some (.ref 0,hA sv g sm tx q s τ) from rfl ..) (rW aS ?_));show qa (cD d) 762 f _ _ (match pX.clsm 762 f with|some g'=>fG (.meth g' (.ref 0)) (hA sv g sm tx q s τ)|none=>(pX.clsv 762 f).map λv=>(v,hA sv g sm tx q s τ))=_;refine rW hf ?_;unfold qa;exact rW hn (rW hl.symm rfl)
theorem KD(hq:Cq q)(H:Sv k sm tx):Io Nn (Qq g q s []):=λσ=>by have h:=jK (σ:=σ) (n:=11) (st:=.C) (g:=g) (q:=q) (s:=s) (τ:=[]) H (aQ _);rw[hq]at h;have h2:=Qg (List.drop 6) h;exact ⟨(U5 h).1,h2⟩
theorem Ey{l:aC}:LQ (.I (.tuple (l.map λx=>V.str [x]))) l.contains:=λd σ x=>ie x l
theorem Oc(Rb:aJ 34 L=some (.ref 0))(g0:G (aM (cD d) e L (hA sv g sm tx q s τ)) λv σ=>∃o P6 P9,v=.str o/\σ=hA sv g P6 P9 q s τ/\s.length+o.length<=a8/\W (PT (cD d) r z L (hA sv g P6 P9 q (s++o) τ)) K):W (PT (cD d) (.ai rE cb .add e::r) z L (hA sv g sm tx q s τ)) K:=by
 induction g0 with
 |mk he h=>obtain ⟨o,P6,P9,rfl,rfl,hl,h⟩:=h;exact l5 Rb he hl h
theorem MX{c l r}{x:aC}{σ1}(h1:aM c l L σ=some (.str x,σ1))(g0:G (aM c r L σ1) λv σ2=>∃y,v=.str y/\x.length+y.length<=a8/\Q (.str (x++y)) σ2):G (aM c (.J .add l r) L σ) Q:=by
 induction g0 with
 |mk h2 h=>obtain ⟨y,rfl,hl,h⟩:=h;exact .mk (iw h1 h2 hl) h
theorem ET{x}{l:aC}(hq:Cq q)(H:Sv k sm tx)(he:aM (cD (d+4)) e (LS (some x)) (hA .C g sm tx q s [])=some (.I (.tuple (l.map λx=>V.str [x])),hA .C g sm tx q s []))
 (hl:s.length+(((mm.drop k).takeWhile λx=>l.contains x==false).length+1)<=a8) (kk:∀{P6 P9},Sv (k+((mm.drop k).takeWhile λx=>l.contains x==false).length) P6 P9->W (PT (cD (d+4)) r z (LS (some x)) (hA .C g P6 P9 q (s++x::(mm.drop k).takeWhile λx=>l.contains x==false) [])) K):
 W (PT (cD (d+4)) (.ai rE cb .add (.J .add cf (.meth ft 60 [e]))::r) z (LS (some x)) (hA .C g sm tx q s [])) K:=by
 have Q7:([x]:aC).length+((mm.drop k).takeWhile λx=>l.contains x==false).length<=a8:=aH (aU (UJ ..)) (aH (Nat.le_add_left ..) hl);exact Oc rfl (MX (x:=[x]) rfl (.eq (y:=rF (d+4) 156 [.ref 1,.I (.tuple (l.map λx=>V.str [x]))] (hA .C g sm tx q s [])) ((KF H rfl rfl rfl).trans (rW (dh he ..) rfl)) (qb (g:=l.contains) (op:=false) Ey H (KD hq H) rfl λP6 P9 h=>⟨_,rfl,Q7,_,P6,P9,rfl,rfl,hl,kk h⟩)))
theorem AT{bd}(hf:pX.fns f=some ⟨[34],[],OD::bd⟩/\Nat.blt f eM=true)(H:Sv k sm tx)(h:∀{fu QK},Sv (QI k) fu QK->tu k fu QK->W (PT (cD (d+4)) bd 11 (LS mm[k]?) (hA .C g fu QK q s [])) λfl J s=>Q (xS fl) s):G (rF (d+5) f [.ref 0] (hA .C g sm tx q s [])) Q:=xP hf rfl (aG (ll H rfl h))
theorem tG(hw:w=mm.drop k):mm[k]? = w[0]?:=tL (j:=0) hw
theorem FE{Z:Prop}(hw:w=mm.drop k)(hp:bT PO w≠[])(h:∀{c r},w=c::r->pn PO c=true->mm[k]? = some c->QI k=k+1->r=mm.drop (k+1)->Z):Z:=by
 induction w with
 |nil=>exact Uj rfl hp
 |cons c r=>
  have RR:mm[k]? = some c:=tG hw;refine h rfl ?_ RR (by unfold QI;exact rW RR rfl) (rW (UR ..).symm (rW hw.symm rfl));generalize h:pn PO c=z1;induction z1 with
  |true=>rfl
  |false=>exact Uj (List.takeWhile_cons_of_neg (by exact rW h Bool.false_ne_true)) hp
theorem lg{out:aC}{fs}(C:Cv PO w n out fs)(QP:s.length+(rd PO (bT PO w)).1.length<=a8):s.length+out.length<=a8:=by have:=Qg (λp=>p.1.length) C.rd;simp only[aP]at this;exact aF (xg 0x301842b211143184121101841 rfl QP (aU this.symm :))
end
end
section
noncomputable def Jj:aC:=Ae
noncomputable def Jg:aC:=AE
noncomputable def Ju:aC:=zt
theorem NR{vs ws σ}(h1:vs≠[])(h2:ws≠[])(hl:(vs++ws).length<=a8):pZ (.tuple vs) (.tuple ws) σ=tH (vs++ws) σ:=T6 ⟨⟨h1,h2⟩,hl⟩
structure Hi(g:G0):Prop where
 ty:g.ty=3\/g.ty=4
 nm:g.nm=[88]
 ps:g.ps.length+1<=201
noncomputable def zF(g:G0):List bS:=if g.ty=3 then [] else [.w qW]
noncomputable def zQ(g:G0)(q:List V):List V:=q++(zF g).map cy++[.ref 9]
noncomputable def zD(g:G0)(s:aC):V:=if g.ty=3 then .I (.dict (bo (eH (g.ps++[(g.key,s)]) []))) else .ref 8
noncomputable def Fd(PO:Nat)(lost:aC):List PS:=[OD,.ifs (.E .eq cf (.i (.str [PO]))) [LZ 137] [.ifs qZ [.expr (.meth aY 142 [.i (.str [PO])])] [.ifs qQ [rI ir,.ai rE cb .add ko] [.ifs kh [rI lost,LZ 39] [.ai rE cb .add (.J .add cf (.meth ft 60 [.H [.i (.str [PO]),.i (.str [38]),.i (.str [0])]]))]]]],FP]
section
variable {d:Nat}{g:G0}{sm tx:O}{k j n z PO f fn x:Nat}{q q' st:List V}{sv b':V}{s w b lost:aC}{τ:List O}{X L:aR}{σ:St}{c:Option Nat}{cx:Cx}{r:List PS}{e:PE}{K:Fl->aR->St->Prop}{Q:V->St->Prop}
theorem jR(h:c=some x):bR cx (.E .eq cf (.i (.str [x]))) (LS c) σ=some (true,σ):=OK.trans (Qg (λb=>some (b,σ)) (beq_iff_eq.mpr h))
theorem dC(h:c≠some x):bR cx (.E .eq cf (.i (.str [x]))) (LS c) σ=some (false,σ):=OK.trans (Qg (λb=>some (b,σ)) (T7 h))
theorem FR(Qi:q.length<=50000)(QP:s.length+1<=a8)(kk:W (PT (cD d) r 11 (LS c) (hA .C g sm tx (q++[.ref 11]) (s++dZ) [.dict [(ew,.int 7),(cQ,.str ir)]])) K):W (PT (cD d) (rI ir::.ai rE cb .add ko::r) 11 (LS c) (hA .C g sm tx q s [])) K:=
 jf rfl (aH Qi (by decide)) (l5 (o:=dZ) rfl rfl QP kk)
theorem yL{b}(Qi:q.length<=50000)(H:Sv k sm tx)(hq:Cq q)(kk:∀L',K (.ret (.bool true)) L' (hA .C g sm tx (q++[bS.w lost].map cy) s [])):W (PT (cD d) [.ifs kh [rI lost,LZ 39] b] 11 (LS none) (hA .C g sm tx q s [])) (sq (cD d) [FP] 11 K):=
 jT IW (jf rfl (aH Qi (by decide)) (fA (fn:=304) rfl rfl (nW (iJ H hq kk))))
theorem yr(hs:i4 PO)(hn:PO≠62)(hf:pX.fns f=some ⟨[34],[],Fd PO lost⟩/\Nat.blt f eM=true)(hw:w=mm.drop k)(hp:bT PO w≠[])(hq:Cq q)(Qi:q.length<=50000)(QP:s.length+(rd PO (bT PO w)).1.length<=a8)(H:Sv k sm tx)(kk:∀{P6 P9 n out fs},Sv (k+n) P6 P9->Cv PO w n out fs->Q (.bool true) (hA .C g P6 P9 (q++fs.map cy) (s++out) [])):
 G (rF (d+9) f [.ref 0] (hA .C g sm tx q s [])) Q:=by
 refine AT hf H λ{fu QK} h1 U=>FE hw hp λ{c r} e hc RR hk1 Sh=>rW RR ?_;rw[hk1]at h1;clear RR hp hf;subst e;refine iF (dC λe=>?_) ?_
 ·clear kk QP hw hn;obtain rfl:=aK e;clear e;rcases hs with rfl|rfl|rfl<;>exact Uj hc (by decide +kernel)
 by_cases Rh:c=38
 ·clear hw;subst Rh;rw[show bT PO (38::r)=38::bT PO r from Ut hc]at QP;refine jT (jR rfl) (eG (Lq hs Sh hq Qi QP h1 λ{Q9 Rj n out fs} h2 C=>?_));rw[UA,UJ 1]at h2;exact nW (lA h2 (dO hq (cj fs)) λJ=>kk h2 (AI hs C hc))
 refine jF (dC λe=>Rh (aK e)) ?_;by_cases h0:c=0
 ·clear Rh hw;subst h0;have C:Cv PO (0::r) 1 dZ [.w ir]:=ug rfl hc λr=>k6;exact jT (jR rfl) (FR Qi (lg C QP) (nW (oE h1 hq λJ=>kk h1 C)))
 have Sx:oM PO=[PO,38,0]:=by unfold oM;exact rW (T7 hn ..) rfl
 have hqn:(oM PO).contains c=false:=by refine rW Sx ?_;simp only[List.contains_cons,List.contains_nil,T7 Rh,T7 h0,Bool.or_false];refine T7 λe=>?_;clear Sx h0 Rh kk QP hw hn;subst e;rcases hs with rfl|rfl|rfl<;>exact Uj hc (by decide +kernel)
 have RT:run PO (c::r)=c::run PO r:=Ut (rW hqn rfl);have C:=yS (w:=c::r) hs (λh=>j9 (List.mem_of_mem_drop (hw▸h))) (rW (RT ..) (Uv _ _));rw[RT]at C;have QQ:=lg C QP;rw[Sh]at QQ;refine jF (dC λe=>h0 (aK e)) (jF IW (ET (d:=d+4) (l:=oM PO) hq h1 (rW Sx rfl) QQ λ{Q9 Rj} h2=>?_));rw[<-Sh]at h2 ⊢;rw[UA,UJ 1]at h2;have:=kk h2 C;rw[mI]at this;exact nW (lA h2 hq λJ=>this)
noncomputable def Of(c:Option Nat)(lost:aC):List bS:=bif c.isNone then [.w lost] else []
theorem vT(hn:PO≠62)(hf:pX.fns f=some ⟨[34],[],Fd PO lost⟩/\Nat.blt f eM=true)(hw:w=mm.drop k)(hp:bT PO w=[])(hq:Cq q)(Qi:q.length<=50000)(H:Sv k sm tx)(kk:∀{P6 P9},Sv (QI k) P6 P9->Q (.bool true) (hA .C g P6 P9 (q++(Of mm[k]? lost).map cy) s [])):
 G (rF (d+9) f [.ref 0] (hA .C g sm tx q s [])) Q:=by
 refine AT hf H λ{fu QK} h1 U=>?_;have kk:=kk h1;rw[tG hw]at kk ⊢;clear hw;induction w with
 |nil=>exact iF (dC nofun) (jF (dC nofun) (jF (dC nofun) (yL Qi h1 hq λJ=>kk)))
 |cons c r=>
  have hc:c=PO:=by
   have h:pn PO c=false:=by
    generalize h:pn PO c=z1;induction z1 with
    |false=>rfl
    |true=>rw[show bT PO (c::r)=c::bT PO r from Ut h]at hp;cases hp
   have:(w6 PO).contains c=true:=(Bool.not_eq_false' (b:=(w6 PO).contains c)).mp h;rw[show w6 PO=[PO] by unfold w6;exact rW (T7 hn ..) rfl]at this;exact cP.mp (List.contains_iff_mem.mp this)
  have kk:Q (.bool true) (hA .C g fu QK (q++([]:List bS).map cy) s []):=kk;rw[mI]at kk;exact iT (jR (Qg some hc)) (fA (fn:=584) (c:=some c) rfl rfl (nW (dP h1 hq λJ=>kk)))
end
end
section
section
variable {d:Nat}{g:G0}{sm tx:O}{k j n z PO f fn x:Nat}{q q' st:List V}{s w b lost:aC}{τ:List O}{X L:aR}{σ:St}{c:Option Nat}{cx:Cx}{r:List PS}{e:PE}{K:Fl->aR->St->Prop}{Q:V->St->Prop}
theorem MQ(hg:Hi g)(H:Sv k sm tx)(hq:Cq q)(Qi:q.length<=50000):
 rF (d+2) 297 [.ref 0] (hA .C g sm tx q s [])=some (.none,hZ .C g sm tx (zQ g q) s [120] (zD g s) []):=by
 obtain ⟨ty,nm,ps,P'⟩:=g;obtain ⟨h1,h2,h3⟩:=hg;obtain rfl:nm=[88]:=h2;rcases (h1:ty=3\/ty=4) with rfl|rfl
 ·have:=JA (d:=d) (ps:=ps) (P':=P') (s:=s) H hq Qi h3;unfold zQ zF;exact rW (T6 rfl ..) (rW (mI ..) this)
 ·exact Lc (d:=d) (ps:=ps) (P':=P') (s:=s) H hq Qi
theorem Gy(hg:Hi g)(H:Sv k sm tx)(hq:Cq q)(Qi:q.length<=50000)(kk:∀L',K (.ret (.bool true)) L' (hZ .C g sm tx (zQ g q) s [120] (zD g s) [])):W (PT (cD (d+2)) [.expr (.meth aY 28 [])] 11 (LS c) (hA .C g sm tx q s [])) (sq (cD (d+2)) [FP] 11 K):=
 eW (MQ hg H hq Qi) (nW ((by
     refine Cb (v:=.bool true) rfl rfl ?_ (kk _);have e:=(ij (n:=11) (σ:=hZ .C g sm tx (zQ g q) s [120] (zD g s) []) (τ:=[]) rfl).trans (oW (σ:=hZ .C g sm tx (zQ g q) s [120] (zD g s) []++[]) (n:=11) (st:=.C) (dt:=zD g s) (nm:=[120]) (g:=g) (q:=zQ g q) (s:=s) (τ:=[]) H (aQ _));rw[bX]at e;refine e.trans ?_;rw[show (zQ g q).map (rv (hZ .C g sm tx (zQ g q) s [120] (zD g s) []) 11)=zQ g q by unfold zQ;rw[ba,dO hq (cj _)];rfl];unfold zD;by_cases h:g.ty=3
     ·exact rW (T6 h ..) rfl
     ·exact rW (T8 h ..) rfl)))
theorem iE(h:OT c=b'):bR (cD d) qH (LS c) σ=some (b',σ):=h▸JM
theorem HJ(hw:w=mm.drop k)(hp:bT 62 w≠[])(hq:Cq q)(Qi:q.length<=50000)(QP:s.length+(rd 62 (bT 62 w)).1.length<=a8)(H:Sv k sm tx)(kk:∀{P6 P9 n out fs},Sv (k+n) P6 P9->Cv 62 w n out fs->Q (.bool true) (hA .C g P6 P9 (q++fs.map cy) (s++out) [])):
 G (rF (d+9) 577 [.ref 0] (hA .C g sm tx q s [])) Q:=by
 refine AT ⟨rfl,rfl⟩ H λ{fu QK} h1 U=>FE hw hp λ{c r} e hc RR hk1 Sh=>rW RR ?_;rw[hk1]at h1;clear hp;subst e;have hs:i4 62:=.inr (.inr rfl);have Qs:∀y∈w6 62,c≠y:=λy hy e=>by subst e;unfold pn at hc;rw[List.contains_iff_mem.mpr hy]at hc;exact bU hc
 have R3:c≠13:=λe=>j9 (e▸List.mem_of_getElem? RR);have hsp:mz c=false:=by unfold mz;simp only[cw];exact rW (T7 (Ne.symm (Qs 9 (by decide +kernel))) ..) (rW (T7 (Ne.symm (Qs 10 (by decide +kernel))) ..) (rW (T7 (Ne.symm (Qs 12 (by decide +kernel))) ..) (rW (T7 (Ne.symm (Qs 32 (by decide +kernel))) ..) (rW (T7 (Ne.symm R3) ..) rfl))))
 refine iF (iE hsp) ?_;by_cases Rh:c=38
 ·clear hsp R3 Qs hw RR;subst Rh;rw[show bT 62 (38::r)=38::bT 62 r from Ut hc]at QP;refine jT (jR rfl) (eG (Lq hs Sh hq Qi QP h1 λ{Q9 Rj n out fs} h2 C=>?_));rw[UA,UJ 1]at h2;exact nW (lA h2 (dO hq (cj fs)) λJ=>kk h2 (AI hs C hc))
 refine jF (dC λe=>Rh (aK e)) (jF (dC λe=>Qs 62 (by decide +kernel) (aK e)) (jB LG (λhu=>?_) λhu=>?_))
 ·have hu:ga c=true:=hu;have C:Cv 62 (c::r) 1 [c] [.w rg]:=ug (by unfold gA;exact rW hu (rW (Bool.or_true ..) (rW (Bool.or_true ..) rfl))) hc λr=>by
   exact rW (oj (λe=>by clear hu Rh hsp R3 Qs kk QP hw RR hc;subst e;exact bU hu) Rh ..) (rW hu rfl)
  exact jf rfl (aH Qi (by decide)) (l5 (o:=[c]) rfl rfl (lg C QP) (nW (oE h1 hq λJ=>kk h1 C)))
 by_cases h0:c=0
 ·clear hu Rh hsp R3 Qs hw RR;subst h0;have C:Cv 62 (0::r) 1 dZ [.w ir]:=ug rfl hc λr=>k6;exact jT (jR rfl) (FR Qi (lg C QP) (nW (oE h1 hq λJ=>kk h1 C)))
 have hqn:(oM 62).contains c=false:=by
  generalize hq:(oM 62).contains c=z2;induction z2 with
  |false=>rfl
  |true=>have:=vR hs hq hc R3;unfold gA at this;rw[T7 h0,T7 Rh,show ga c=false from hu]at this;exact bU this
 have RT:run 62 (c::r)=c::run 62 r:=Ut (rW hqn rfl);have C:=yS (w:=c::r) hs (λh=>j9 (List.mem_of_mem_drop (hw▸h))) (rW (RT ..) (Uv _ _));rw[RT]at C;have QQ:=lg C QP;rw[Sh]at QQ;refine jF (dC λe=>h0 (aK e)) (jF IW (ET (d:=d+4) (l:=oM 62) hq h1 ?_ QQ λ{Q9 Rj} h2=>?_))
 ·exact (NR (Uv _ _) (Uv _ _) (by decide):pZ (.tuple [.str [38],.str [62],.str [34],.str [39],.str [61],.str [60],.str [96],.str [0]]) (.tuple [.str [9],.str [10],.str [12],.str [32],.str [13]]) (hA .C g fu QK q s [])=_)
 rw[<-Sh]at h2 ⊢;rw[UA,UJ 1]at h2;have:=kk h2 C;rw[mI]at this;exact nW (lA h2 hq λJ=>this)
theorem C3(hw:w=mm.drop k)(hp:bT 62 w=[])(QH:mm[k]?≠some 62)(hq:Cq q)(Qi:q.length<=50000)(H:Sv k sm tx)(kk:∀{P6 P9},Sv (QI k) P6 P9->Q (.bool true) (hA .C g P6 P9 (q++(Of mm[k]? Ju).map cy) s [])):
 G (rF (d+9) 577 [.ref 0] (hA .C g sm tx q s [])) Q:=by
 refine AT ⟨rfl,rfl⟩ H λ{fu QK} h1 U=>?_;have kk:=kk h1;rw[tG hw]at kk QH ⊢;clear hw;induction w with
 |nil=>exact iF (iE rfl) (jF (dC nofun) (jF (dC nofun) (jF LG (jF (dC nofun) (yL Qi h1 hq λJ=>kk)))))
 |cons c r=>
  have hc:mz c=true:=by
   have h:pn 62 c=false:=by
    generalize h:pn 62 c=z1;induction z1 with
    |false=>rfl
    |true=>rw[show bT 62 (c::r)=c::bT 62 r from Ut h]at hp;cases hp
   have:(w6 62).contains c=true:=(Bool.not_eq_false' (b:=(w6 62).contains c)).mp h;have tb:((w6 62).all λx=>x==62||mz x)=true:=by decide +kernel
   have:=a9.mp tb c (List.contains_iff_mem.mp this);rw[T7 λe=>QH (Qg some e)]at this;exact this
  have kk:Q (.bool true) (hA .C g fu QK (q++([]:List bS).map cy) s []):=kk;rw[mI]at kk;exact iT (iE (c:=some c) hc) (fA (fn:=535) (c:=some c) rfl rfl (nW (dP h1 hq λJ=>kk)))
theorem Hk(hg:Hi g)(hw:mm[k]? = some 62)(hq:Cq q)(Qi:q.length<=50000)(H:Sv k sm tx)(kk:∀{P6 P9},Sv (QI k) P6 P9->Q (.bool true) (hZ .C g P6 P9 (zQ g q) s [120] (zD g s) [])):G (rF (d+9) 577 [.ref 0] (hA .C g sm tx q s [])) Q:=
 AT ⟨rfl,rfl⟩ H λ{fu QK} h1 U=>hw▸iF (iE rfl) (jF (dC (by decide)) (jT (jR rfl) (Gy hg h1 hq Qi λJ=>kk h1)))
end
end
section
noncomputable def Dc:aC:=E8
noncomputable def JL:aC:=Dc++zB
noncomputable def Bk:aC:=Dc++[101,111,102]
noncomputable def Ow:aC:=zk
noncomputable def Ji:aC:=[117,110,101,120,112,101,99,116,101,100,45]
noncomputable def Mb:aC:=Gb
noncomputable def O3:aC:=Ji++[69,79,70]++Mb
noncomputable def O6:aC:=Ji++t7++Mb
noncomputable def wT:Option Nat->aC|none=>O3|some _=>O6
noncomputable def Jy(c:Nat):Bool:=(([61]:aC)==[c])||((([60]:aC)==[c])||((([96]:aC)==[c])||false))
noncomputable def Pi:Option Nat->Bool|none=>false|some c=>Jy c
noncomputable def kI(c:Nat):aC:=if c=34\/c=39\/c=38 then [] else if c=0 then dZ else [c]
noncomputable def yF(c:Nat):List bS:=if c=0 then [.w ir] else bif Jy c then [.w Ow] else []
noncomputable def xv(c:Nat):Nat:=if c=38 then 0 else 1
section
variable {d:Nat}{g:G0}{sm tx:O}{k j n z PO f fn x:Nat}{q q' st:List V}{sv:V}{s w b lost e0:aC}{τ rs:List O}{X L:aR}{σ:St}{c:Option Nat}{cx:Cx}{r:List PS}{e:PE}{K:Fl->aR->St->Prop}{Q:V->St->Prop}
theorem LC:bR cx (.E .U cf (.H [.i (.str [61]),.i (.str [60]),.i (.str [96])])) (LS c) σ=some (Pi c,σ):=by refine bi (a:=cL c) rfl (b:=.I (.tuple [.str [61],.str [60],.str [96]])) rfl ?_;induction c<;>rfl
theorem vn(H:Sv k sm tx)(hq:Cq q)(Qi:q.length<=50000)(kk:W (PT (cD d) r 11 (LS c) (hA .C g sm tx (q++[bS.w e0].map cy) s [])) K):W (PT (cD d) (rI e0::.gc 0::r) 11 (LS c) (hA .C g sm tx q s [])) K:=by refine jf rfl (aH Qi (by decide)) (pJ (σ1:=hA .C g sm tx (q++[bS.w e0].map cy) s []) (rW (LF H ..) (rW (qT hq rfl ..) rfl)) ?_);show W (PT (cD d) r 11 [(34,V.ref 0),(29,rv _ 11 (cL c))] _) _;exact rW (gM ..) kk
theorem zX(H:Sv j sm tx)(U:tu k sm tx)(hc:mm[k]? = c)(kk:∀{P6},Sv k P6 tx->W (PT (cD (d+1)) r z (LS c) (hS (mo sv) P6 tx rs)) K):W (PT (cD (d+1)) (.expr (.meth ft 103 [.q 29])::r) z (LS c) (hS (mo sv) sm tx rs)) K:=
 eG (nC H U rfl (rW hc rfl) kk)
theorem nq(h:mm[k]? = some x):QI k=k+1:=by unfold QI;exact rW h rfl
theorem Ht(hc:mm[k]? = some x)(hx:mz x=true)(hq:Cq q)(H:Sv k sm tx)(kk:∀{P6 P9},Sv (k+((mm.drop k).takeWhile λx=>mz x==true).length) P6 P9->Q (.bool true) (hA .C g P6 P9 q s [])):G (rF (d+9) 556 [.ref 0] (hA .C g sm tx q s [])) Q:=by refine AT ⟨rfl,rfl⟩ H λ{fu QK} h1 U=>?_;rw[nq hc]at h1;obtain ⟨hl,e⟩:=bY.mp hc;rw[Uc hl,e,Ut (by exact rW hx rfl),Ug]at kk;refine rW hc (iT (iE (c:=some x) hx) (eG (.eq (y:=rF (d+8) 156 [.ref 1,.u 22,.bool true] (hA .C g fu QK q s [])) ((KF h1 rfl rfl rfl).trans rfl) (qb (d:=d+4) (g:=mz) (op:=true) (λd σ x=>rfl) h1 (KD hq h1) rfl λQ9 Rj h2=>?_))));rw[UA,UJ 1]at h2;exact nW (lA h2 hq λJ=>kk h2)
theorem Gg(hc:mm[k]? = some x)(hx:mz x=false)(QH:x≠62)(hq:Cq q)(Qi:q.length<=50000)(QP:s.length+1<=a8)(H:Sv k sm tx)(kk:∀{P6 P9},Sv (k+xv x) P6 P9->Q (.bool true) (hA .C g P6 P9 (q++(yF x).map cy) (s++kI x) [])):G (rF (d+9) 556 [.ref 0] (hA .C g sm tx q s [])) Q:=by
 refine AT ⟨rfl,rfl⟩ H λ{fu QK} h1 U=>?_;rw[nq hc]at h1;refine rW hc (iF (iE (c:=some x) hx) ?_);have s0:s++([]:aC)=s:=bX s;by_cases T4:x=34
 ·clear QH hx hc;subst T4;have kk:Q (.bool true) (hA .C g fu QK (q++([]:List bS).map cy) (s++[]) []):=kk h1;rw[mI,s0]at kk;exact jT (jR rfl) (fA (fn:=563) (c:=some 34) rfl rfl (nW (dP h1 hq λJ=>kk)))
 refine jF (dC λe=>T4 (aK e)) ?_;by_cases T2:x=38
 ·clear T4 QH hx;subst T2;refine jT (jR rfl) (fA (fn:=577) (c:=some 38) rfl rfl (zX (d:=d+7) h1 U hc λ{Q9} h3=>nW (dP h3 hq λJ=>?_)));have kk:Q (.bool true) (hA .C g Q9 QK (q++([]:List bS).map cy) (s++[]) []):=kk h3;rwa [mI,s0]at kk
 refine jF (dC λe=>T2 (aK e)) ?_;by_cases a39:x=39
 ·clear T2 T4 QH hx hc;subst a39;have kk:Q (.bool true) (hA .C g fu QK (q++([]:List bS).map cy) (s++[]) []):=kk h1;rw[mI,s0]at kk;exact jT (jR rfl) (fA (fn:=570) (c:=some 39) rfl rfl (nW (dP h1 hq λJ=>kk)))
 refine jF (dC λe=>a39 (aK e)) (jF (dC λe=>QH (aK e)) ?_);rw[show kI x=if x=0 then dZ else [x] from T8 λh=>h.elim T4 λh=>h.elim a39 T2,show xv x=1 from T8 T2]at kk;unfold yF at kk;by_cases a0:x=0
 ·rw[T6 a0,T6 a0]at kk;exact jT (jR (Qg some a0)) (vn h1 hq Qi (l5 (o:=dZ) rfl rfl QP (fA (fn:=577) (c:=some x) rfl rfl (nW (dP h1 (dO hq (cj [.w ir])) λJ=>kk h1)))))
 rw[T8 a0,T8 a0]at kk;refine jF (dC λe=>a0 (aK e)) (jB LC (λhe=>?_) λhe=>jF IW ?_)
 ·rw[show Jy x=true from he]at kk;exact vn h1 hq Qi (l5 (o:=[x]) rfl rfl QP (fA (fn:=577) (c:=some x) rfl rfl (nW (dP h1 (dO hq (cj [.w Ow])) λJ=>kk h1))))
 ·rw[show Jy x=false from he]at kk;have kk:Q (.bool true) (hA .C g fu QK (q++([]:List bS).map cy) (s++[x]) []):=kk h1;rw[mI]at kk;exact l5 (o:=[x]) rfl rfl QP (fA (fn:=577) (c:=some x) rfl rfl (nW (dP h1 hq λJ=>kk)))
theorem Hv(hc:mm[k]? = none)(hq:Cq q)(Qi:q.length<=50000)(H:Sv k sm tx)(kk:∀{P6 P9},Sv k P6 P9->Q (.bool true) (hA .C g P6 P9 (q++[bS.w Bk].map cy) s [])):G (rF (d+9) 556 [.ref 0] (hA .C g sm tx q s [])) Q:=by refine AT ⟨rfl,rfl⟩ H λ{fu QK} h1 U=>?_;rw[show QI k=k by unfold QI;exact rW hc rfl]at h1;exact rW hc (iF (iE rfl) (jF (dC nofun) (jF (dC nofun) (jF (dC nofun) (jF (dC nofun) (jF (dC nofun) (jF LC (jT IW (vn h1 hq Qi (fA (fn:=304) (c:=none) rfl rfl (nW (dP h1 (dO hq (cj [.w Bk])) λJ=>kk h1))))))))))))
theorem Hj(hg:Hi g)(hc:mm[k]? = some 62)(hq:Cq q)(Qi:q.length+1<=50000)(H:Sv k sm tx)(kk:∀{P6 P9},Sv (k+1) P6 P9->Q (.bool true) (hZ .C g P6 P9 (zQ g (q++[bS.w JL].map cy)) s [120] (zD g s) [])):G (rF (d+9) 556 [.ref 0] (hA .C g sm tx q s [])) Q:=by refine AT ⟨rfl,rfl⟩ H λ{fu QK} h1 U=>?_;rw[nq hc]at h1;exact rW hc (iF (iE rfl) (jF (dC (by decide)) (jF (dC (by decide)) (jF (dC (by decide)) (jT (jR rfl) (vn h1 hq (Nat.le_of_succ_le Qi) (Gy hg h1 (dO hq (cj [.w JL])) (rW aP Qi) λJ=>kk h1)))))))
noncomputable def J7:Option Nat->Bool|none=>false|some c=>mz c||c==47
theorem Ia(hc:mm[k]? = c)(QH:c≠some 62)(hq:Cq q)(Qi:q.length<=50000)(H:Sv k sm tx)(kk:∀{P6 P9},Sv (k+bif J7 c then 1 else 0) P6 P9->Q (.bool true) (hA .C g P6 P9 (q++(bif J7 c then [] else [bS.w (wT c)]).map cy) s [])):G (rF (d+9) 584 [.ref 0] (hA .C g sm tx q s [])) Q:=by
 refine AT ⟨rfl,rfl⟩ H λ{fu QK} h1 U=>rW hc ?_;induction c with
 |none=>exact iF (iE rfl) (jF (dC nofun) (jF (dC nofun) (jT IW (jf rfl (aH Qi (by decide)) (zX (d:=d+7) h1 U hc λh3=>fA (fn:=304) (c:=none) rfl rfl (nW (iJ h3 hq λJ=>kk h3)))))))
 |some x=>
  rw[nq hc]at h1;have tk:mz x=true\/x=47->Q (.bool true) (hA .C g fu QK q s []):=λh=>by rw[show J7 (some x)=true from Bool.or_eq_true_iff.mpr (h.imp id beq_iff_eq.mpr)]at kk;have kk:Q (.bool true) (hA .C g fu QK (q++([]:List bS).map cy) s []):=kk h1;rwa [mI]at kk
  refine iB JM (λhx=>fA (fn:=535) (c:=some x) rfl rfl (nW (dP h1 hq λJ=>tk (.inl hx)))) λhx=>jF (dC QH) ?_;by_cases h47:x=47
  ·exact jT (jR (Qg some h47)) (fA (fn:=591) (c:=some x) rfl rfl (nW (dP h1 hq λJ=>tk (.inr h47))))
  rw[show J7 (some x)=false by show (mz x||x==47)=false;exact rW (show mz x=false from hx ..) (rW (T7 h47 ..) rfl)]at kk;exact jF (dC λe=>h47 (aK e)) (jF IW (jf rfl (aH Qi (by decide)) (zX (d:=d+7) h1 U hc λh3=>fA (fn:=535) (c:=some x) rfl rfl (nW (iJ h3 hq λJ=>kk h3)))))
theorem I1(hg:Hi g)(hc:mm[k]? = some 62)(hq:Cq q)(Qi:q.length<=50000)(H:Sv k sm tx)(kk:∀{P6 P9},Sv (k+1) P6 P9->Q (.bool true) (hZ .C g P6 P9 (zQ g q) s [120] (zD g s) [])):G (rF (d+9) 584 [.ref 0] (hA .C g sm tx q s [])) Q:=by refine AT ⟨rfl,rfl⟩ H λ{fu QK} h1 U=>?_;rw[nq hc]at h1;exact rW hc (iF (iE rfl) (jT (jR rfl) (Gy hg h1 hq Qi λJ=>kk h1)))
end
end
section
noncomputable def IO:aC:=Al
theorem DP:((List.range 160).all λn=>!iy n||(sD n==(if 13<n then (match IO[n-128]? with|some c=>[c]|none=>[]) else if n=13 then [13] else dZ)))=true:=by decide +kernel
theorem IL{n}(h:iy n=true):n<160/\(13<n->128<=n):=by
 unfold iy at h;rcases Bool.or_eq_true_iff.mp h with h|h
 ·obtain rfl:=eq_of_beq h;decide
 ·rcases Bool.or_eq_true_iff.mp h with h|h
  ·obtain rfl:=eq_of_beq h;decide
  ·have h:=Bool.and_eq_true_iff.mp h;exact ⟨Nat.lt_succ_of_le (cg h.2),λJ=>cg h.1⟩
section
variable {d:Nat}{σ τ:St}{L:aR}{n:Nat}{PQ:aC}
theorem MJ:rF (d+1) 815 [.int (n:Nat)] σ=some (.I (.tuple [.str (eD n).1,.bool (eD n).2]),σ):=by
 have hn:aJ 128 [(128,V.int (n:Nat))]=some (.int (n:Nat)):=rfl;have h0:iy n=(([0,13]:aC).contains n||(Nat.ble 128 n&&Nat.ble n 159)):=by unfold iy;simp only[List.contains_cons,List.contains_nil,Bool.or_false,Bool.or_assoc]
 unfold eD;refine kX ⟨rfl,rfl⟩ rfl (iB (x:=iy n) (h0▸sN (OV (l:=[0,13]) hn rfl) (H6 (a:=128) (b:=159) hn)) (λho=>?_) λho=>nW (iB (x:=r7 n) (sN (JV (a:=1114111) hn) (H6 (a:=55296) (b:=57343) hn)) (λhf=>?_) λhf=>nW ?_))<;>clear h0
 ·obtain ⟨TY,SY⟩:=IL ho;have hs:=a9.mp DP n (List.mem_range.mpr TY);rw[ho,Bool.not_true,Bool.false_or]at hs;have hs:=eq_of_beq hs;refine rW ho (jD (jS (ed (v:=.str (sD n)) (fD (JV (a:=13) hn) (λhq=>?_) λhq=>?_) aD) rfl) ⟨rfl,rfl⟩)
  ·have SF:13<n:=cg hq;have h1:=SY SF;have hl:n-128<IO.length:=by show n-128<32;exact Uo (cV 0x1120731a073b110180711861 rfl (pL (aF (fC 0x8073b110180731 rfl h1))) TY)
   refine rW hs (rW (T6 SF ..) (rW (da hl ..) ?_));refine eJ (s:=IO) (j:=n-128) bH ?_ (da hl);show some (V.int ((n:Nat)-128),σ)=_;exact rW (Int.ofNat_sub h1 ..) rfl
  ·refine rW hs (rW (T8 λq=>by rw[show Nat.blt 13 n=true from Uw q]at hq;cases hq ..) (fD (MU (a:=13) hn) (λhq=>?_) λhq=>?_))
   ·exact rW (T6 (eq_of_beq hq) ..) aD
   ·exact rW (T8 λe=>by rw[e]at hq;cases hq ..) aD
 ·exact rW ho (rW hf (jD rfl ⟨rfl,rfl⟩))
 ·refine rW ho (rW hf ?_);have Qf:(0:Int)<=(n:Nat)/\((n:Nat):Int)<1114112:=by
   unfold r7 at hf;have:¬1114111<n:=λq=>by rw[show Nat.blt 1114111 n=true from Uw q]at hf;exact bU hf.symm
   exact ⟨UH _,(Int.ofNat_lt (m:=1114112)).mpr (Nat.lt_succ_of_le (aF this))⟩
  have h1:tr n=(Nat.blt n 32 && !([9,10,12]:aC).contains n||(n==127||((Nat.ble 64976 n&&Nat.ble n 65007)||Nat.blt 65533 (n%65536)))):=by unfold tr;simp only[List.contains_cons,List.contains_nil,Bool.or_false]
  refine jD (jS (ed (LI (aN hn) Qf) (w:=.bool (tr n)) (h1▸Na (GZ (lO (aN hn) aD (Qg some (vO (b:=32)))) λJ=>lO (aN hn) (b:=.I (.tuple [.int 9,.int 10,.int 12])) rfl ?_) λJ=>Na (p:=n==127) (lO (aN hn) aD (Qg some (m6 (b:=127)))) λJ=>Na (O0 (a:=64976) (b:=65007) hn) λJ=>lO (a:=.int ((n%65536:Nat))) ?_ aD (Qg some (vO (a:=65533))))) rfl) ⟨rfl,rfl⟩
  ·exact Qg (Option.map λb=>!b) (ww n [9,10,12])
  ·refine rW (wf ..) (rW (aN hn ..) ?_);show some (V.int (Int.fmod (n:Nat) 65536),σ)=_;exact rW (Int.fmod_eq_emod_of_nonneg _ (by decide) ..) rfl
end
end
section
open Builtin.Str StrLaws
noncomputable def xE(r:aC×Nat×List bS):V:=.I (.tuple [.str r.1,.int (r.2.1:Nat),.I (.list (r.2.2.map dE))])
theorem FF{σ n k}(l:List bS):(l.map dE).map (rz σ n k)=l.map dE:=by refine rW (Up ..) ?_;exact Un λf J=>by induction f<;>induction k<;>rfl
section
variable {d:Nat}{σ σ' τ s s':St}{L:aR}{n i:Nat}{PQ o:aC}{fs:List bS}{c:Cx}{e e1 e2 e3:PE}{PY:Bool}{r:List PS}{K:Fl->aR->St->Prop}
theorem Hr{N a}(hN:N<=σ'.length)(ha:N<=a)(hl:σ'[a]? = some (.list (fs.map dE))):rv (σ'++[.tuple [.str o,.int (n:Nat),.ref a]]) N (.ref σ'.length)=xE (o,n,fs):=by
 have hb:Nat.blt σ'.length N=false:=Bool.eq_false_iff.mpr λq=>Nat.not_lt.mpr hN (cg q);have h1:(σ'++[O.tuple [.str o,.int (n:Nat),.ref a]])[σ'.length]? = some (.tuple [.str o,.int (n:Nat),.ref a]):=bh;have h2:(σ'++[O.tuple [.str o,.int (n:Nat),.ref a]])[a]? = some (.list (fs.map dE)):=by refine rW (List.getElem?_append_left (bY.mp hl).1 ..) ?_;exact hl
 generalize σ'++[O.tuple [.str o,.int (n:Nat),.ref a]]=s at h1 h2;have e5:rz s N 5 (.ref a)=.I (.list (fs.map dE)):=by show (bif Nat.ble N a then (match s[a]? with|some o=>jj (rz s N 4) o|none=>.C) else .C)=_;refine rW (Uw ha ..) (rW h2 ?_);show V.I (.list ((fs.map dE).map (rz s N 4)))=_;exact rW (FF ..) rfl
 show (bif Nat.blt σ'.length N then V.ref σ'.length else bif Nat.ble N σ'.length then (match s[σ'.length]? with|some o=>jj (rz s N 5) o|none=>.C) else .C)=_;refine rW hb (rW (Uw hN ..) (rW h1 ?_));show V.I (.tuple [rz s N 5 (.str o),rz s N 5 (.int (n:Nat)),rz s N 5 (.ref a)])=_;exact rW e5 rfl
theorem tn{a}(hC:j' σ)(h1:aM c e1 L s=some (.str o,s))(h2:aM c e2 L s=some (.int (n:Nat),s))(h3:aM c e3 L s=some (.ref a,s'))(hs:s'=σ++τ)(ha:σ.length<=a)(hl:s'[a]? = some (.list (fs.map dE)))(kk:∀L',K (.ret (xE (o,n,fs))) L' σ):W (PT c (.ae (.H [e1,e2,e3])::r) σ.length L s) K:=by subst hs;refine Cb (v:=.ref (σ++τ).length) (σ1:=(σ++τ)++[.tuple [.str o,.int (n:Nat),.ref a]]) (rW (lV ..) (rW (bF ..) (rW h1 (rW aS ?_)))) (Hr (rW aP (bC _ _)) ha hl) (rW b9 (rW (eE hC ..) rfl)) (kk _);show Option.bind (Option.bind (Qc c [e2,e3] L s) _) _=_;exact rW (ed h2 h3 ..) rfl
theorem s6{vs:List V}{es}(h:Qc c es L σ=some (vs,σ))(hl:vs.length<=a8):aM c (.Q es) L σ=some (.ref σ.length,σ++[.list vs]):=by exact rW (jL ..) (rW h (bx hl))
theorem nilE:aM c dD L σ=some (.ref σ.length,σ++[.list []]):=s6 rfl (bu _)
theorem Dq{w}:aM c (.Q [.H [.i (.str w),.i (.int 0)]]) L σ=some (.ref σ.length,σ++[.list [dE (.w w)]]):=s6 (dh rfl) (show 1<=a8 by decide)
theorem Hg:(gz.all λc=>match occurrences (aT gz) (aT [c]) 0 (aT gz).length 1 with|i::_=>(i-if 15<i then 6 else 0)==(NumText.digit? c).getD 0&&Nat.ble 6 (i+if 15<i then 0 else 6)|[]=>false)=true:=by decide +kernel
theorem MW{x}(h:x∈gz):∃i:Nat,tD (.str [x]) (.str gz) σ=some (.int (i:Nat),σ)/\i-(if 15<i then 6 else 0)=(NumText.digit? x).getD 0:=by
 have:=a9.mp Hg x h;refine rW (show tD (.str [x]) (.str gz) σ=match occurrences (aT gz) (aT [x]) 0 (aT gz).length 1 with|i::_=>some (.int (i:Nat),σ)|[]=>none from rfl ..) ?_;generalize hq:occurrences (aT gz) (aT [x]) 0 (aT gz).length 1=z2;induction z2 with
 |nil=>rw[hq]at this;exact bU this
 |cons i r=>rw[hq]at this;exact ⟨i,rfl,eq_of_beq (Bool.and_eq_true_iff.mp this).1⟩
noncomputable def FL(PQ:aC)(PY:Bool)(i n:Nat)(X:aR):aR:=(92,.str PQ)::(86,.int (fst PY:Nat))::(139,.int (i:Nat))::(128,.int (n:Nat))::X
theorem J9{X a b x}(h1:PY=true->aM c a (FL PQ PY i n X) σ=some (x,σ))(h2:PY=false->aM c b (FL PQ PY i n X) σ=some (x,σ)):aM c (.ag (.E .eq eZ jl) a b) (FL PQ PY i n X) σ=some (x,σ):=
 fD (bi (a:=.int (fst PY:Nat)) rfl aD (by clear h2 h1;induction PY<;>rfl)) h1 h2
theorem CC:((base PY:Nat):Int).natAbs<=a8:=by induction PY<;>decide
inductive FI(PQ:aC)(PY:Bool)(e r:Nat)(σ:St):Nat->aR->St->Prop
 |mk {i n:Nat}{X:aR}{l:aC}:(X=[]\/∃v,X=[(140,v)])->(PQ.drop i).takeWhile (λx=>(eU PY).contains x)=l->i+l.length=e->l.foldl (λn c=>n*base PY+(NumText.digit? c).getD 0) n=r->FI PQ PY e r σ l.length (FL PQ PY i n X) σ
noncomputable def CJ:List PS:=match (L3.f822[1]? : Option PS) with|some (PS.ifs _ b _)=>b|_=>[]
theorem Dr{z}{l:aC}(hl:(PQ.drop i).takeWhile (λx=>(eU PY).contains x)=l)(hr:PQ.length<=200)(kk:∀X,W (PT (cD d) (CJ.drop 3) z (FL PQ PY (i+l.length) (dB PY l) X) σ) K):W (PT (cD d) (CJ.drop 2) z (FL PQ PY i 0 []) σ) K:=by
 have RK:l.length<=200:=hl▸aH (Uy _).length_le (by rw[bV];exact aH (UQ ..) hr);refine x5 (lW (FI PQ PY (i+l.length) (dB PY l) σ) (λ{n0 L0 s0} h=>?_) (Um RK (by decide:200<FU)) (.mk (.inl rfl) hl rfl rfl));induction h with|@mk i n X l hX hl he hr=>
 have t1:bR (cD d) (.E .lt hM (.len fY)) (FL PQ PY i n X) σ=some (decide (i<PQ.length),σ):=bi (a:=.int (i:Nat)) rfl (b:=.int (PQ.length:Nat)) rfl (Qg some (decide_eq_decide.mpr Int.ofNat_lt));have PO:l=[]->W (PT (cD d) (CJ.drop 3) z (FL PQ PY i n X) σ) K:=λe=>by clear t1 hl;subst e;subst he hr;exact kk X
 by_cases Qf:i<PQ.length
 ·rw[Uf Qf]at t1;have es:∀{X},aM (cD d) (.sub fY hM) (FL PQ PY i n X) σ=some (.str [PQ[i]],σ):=eJ (s:=PQ) (j:=i) rfl rfl (da Qf);rw[Uc Qf,Ui]at hl;refine .mk (i' t1 (bi es (b:=.str (eU PY)) (J9 (λh=>rW h rfl) λh=>rW h rfl) (Qg some (f7 ..)))) ?_;clear t1;generalize hc:(eU PY).contains PQ[i]=z1;induction z1 with
  |false=>rw[hc]at hl;exact PO hl.symm
  |true=>
   rw[hc]at hl;clear PO;obtain ⟨ix,e1,hix⟩:=MW (σ:=σ) (sO hc).2;refine aV (v:=.int (ix:Nat)) ?_ ?_
   ·refine rW (jI ..) (rW (bH ..) (rW aS ?_));show Option.bind (Qc (cD d) [.sub fY hM] (FL PQ PY i n X) σ) _=_;exact rW (dh es ..) e1
   rw[show aX 140 (.int (ix:Nat)) (FL PQ PY i n X)=FL PQ PY i n [(140,.int (ix:Nat))] by rcases hX with rfl|⟨v,rfl⟩<;>rfl];refine aV (v:=.int ((n*base PY+(NumText.digit? PQ[i]).getD 0:Nat):Int)) (jz (σ2:=σ) (a:=.int ((n:Int)*(base PY:Nat)+(ix:Nat))) (j8 (jz (a:=.int (n:Nat)) rfl (J9 (x:=.int (base PY:Nat)) (λh=>rW h rfl) λh=>rW h rfl) (T6 (.inr CC))) rfl) (fD (v:=.int ((if 15<ix then 6 else 0:Nat):Int)) (JV (a:=15) rfl) (λh=>?_) λh=>?_) ?_) (sW rfl (nW ⟨_,?_,.mk (l:=(PQ.drop (i+1)).takeWhile λx=>(eU PY).contains x) (.inr ⟨_,rfl⟩) rfl ?_ ?_⟩))
   ·exact rW (T6 (show 15<ix from cg h) ..) rfl
   ·exact rW (T8 λq=>by rw[show Nat.blt 15 ix=true from Uw q]at h;cases h ..) rfl
   ·refine Qg (λi=>some (V.int i,σ)) (rW hix.symm (rW (Int.natCast_add ..) (rW (Int.natCast_mul ..) ?_)));generalize (n:Int)*(base PY:Nat)=y;by_cases h:15<ix
    ·exact rW (T6 h ..) (rW (Int.ofNat_sub (aH (by decide) h) ..) (Int.add_sub_assoc ..))
    ·exact rW (T8 h ..) (Int.sub_zero _)
   ·exact rW hl.symm (Ur _)
   ·exact rW he.symm (rW hl.symm (Nat.add_right_comm ..))
   ·exact rW hr.symm (rW hl.symm rfl)
 ·rw[Ux Qf]at t1;rw[Uz (aF Qf)]at hl;exact .mk (jb t1) (PO hl.symm)
end
end
section
section
variable {d:Nat}{σ σ' τ s s':St}{L:aR}{n i:Nat}{PQ o:aC}{fs:List bS}{c:Cx}{e e1 e2 e3:PE}{PY:Bool}{r:List PS}{K:Fl->aR->St->Prop}
theorem Af{x v}(h:aJ i L=some v)(h2:b7 c σ v=some x):bR c (.q i) L σ=some (x,σ):=by show Option.bind (aM c (.q i) L σ) _=_;exact rW (aN h ..) (Qg (Option.map _) h2)
theorem BM{o1 o2}:(σ++[o1,o2])[σ.length+1]? = some o2:=by refine rW (List.getElem?_append_right (UT _) ..) (rW (Nat.succ_sub (aQ _) ..) (rW (Nat.sub_self ..) ?_));rfl
theorem D6{a w}(h:aM c e L σ=some (.ref a,σ))(ha:σ[a]? = some (.list (fs.map dE)))(hl:fs.length<=5000):aM c (.J .add e (.Q [.H [.i (.str w),.i (.int 0)]])) L σ=some (.ref (σ.length+1),σ++[.list [dE (.w w)],.list ((fs++[bS.w w]).map dE)]):=by refine jz h Dq ?_;show ((σ++[O.list [dE (.w w)]])[a]?).bind (λo=>((σ++[O.list [dE (.w w)]])[σ.length]?).bind λp=>pZ o p _)=_;refine rW (List.getElem?_append_left (bY.mp ha).1 ..) (rW ha (rW (bh ..) ?_));show bO (fs.map dE++[dE (.w w)]) _=_;exact rW (bx (by rw[aP,UC];exact aH (cO hl) (by decide)) ..) (rW ba (rW b9 (rW aP rfl)))
theorem Dj(hC:j' σ)(hl:PQ.length<=200)(SE:ny (PQ.take 1)=true)(kk:∀L',K (.ret (xE (kG (xB PQ) PQ))) L' σ):W (PT (cD (d+1)) CJ σ.length [(92,.str PQ)] σ) K:=by
 have hpf:fst (xB PQ)<=PQ.length:=by
  clear kk hl;induction PQ with
  |nil=>exact bU SE
  |cons c r=>
   clear SE;generalize hx:xB (c::r)=z5;induction z5 with
   |false=>exact cO (bu _)
   |true=>
    induction r with
    |nil=>exact bU hx
    |cons y r=>exact cO (cO (bu _))
 refine aW (v:=.int (fst (xB PQ):Nat)) (σ1:=σ) (GB (q:=xB PQ) (bi (oU (k:=1) rfl aD aD) (b:=.I (.tuple [.str [120],.str [88]])) rfl rfl) (λh=>rW h rfl) λh=>rW h rfl) ?_;unfold kG at kk;generalize xB PQ=PY at *;refine sW (L1:=FL PQ PY (fst PY) 0 []) (σ1:=σ) rfl (Dr (l:=gh PY PQ) rfl hl λX=>?_);generalize gh PY PQ=l at *;refine iB (x:=l.isEmpty) (bi (a:=.int ((fst PY+l.length:Nat):Int)) rfl (b:=.int (fst PY:Nat)) rfl ?_) (λhe=>?_) λhe=>nW (tW (fQ (dh (v:=.int (dB PY l:Nat)) rfl) MJ) rfl rfl ?_)
 ·clear kk;refine Qg some (m6.trans ?_);induction l with
  |nil=>exact Ua _
  |cons y r=>exact T7 λe=>by rw[Ug]at e;exact cV 0x11b01851 rfl (aU e :)
 ·rw[he]at kk;exact tn hC (iw (x:=[38]) aD (oY (k:=fst PY) rfl rfl) (rW (Uh ..) (aH (UK (aH (Nat.min_le_right ..) hl) 1) (by decide)))) rfl Dq rfl (aQ _) (bh (o:=.list ([bS.w xR].map dE))) kk
 rw[he]at kk;generalize hi:(bif (eD (dB PY l)).2 then [bS.n (dB PY l)] else [])=fl at *;refine aW (v:=.ref σ.length) (σ1:=σ++[.list (fl.map dE)]) (GB (q:=(eD (dB PY l)).2) (Af bZ rfl) (λh=>?_) λh=>?_) (iB (x:=(PQ.drop (fst PY+l.length)).take 1==[59]) (bi (oU (k:=fst PY+l.length) rfl rfl rfl) aD rfl) (λhs=>?_) λhs=>?_)
 ·exact rW hi.symm (rW h (s6 (dh rfl) (show 1<=a8 by decide)))
 ·exact rW hi.symm (rW h nilE)
 ·rw[hs]at kk;exact tn hC (aN (bE (by decide) (bE (by decide) bZ))) (n:=fst PY+l.length+1) rfl (aN bZ) rfl (aQ _) bh kk
 ·rw[hs]at kk;exact nW (tn hC (aN (bE (by decide) (bE (by decide) bZ))) (n:=fst PY+l.length) rfl (D6 (aN bZ) bh (hi▸aH vM (by decide))) b9 (rW aP (rW (UA ..) (bC ..))) BM kk)
theorem wn{z w b}{PX:St->Bool}(hb:b=[.ifs EP [.j (.l 93) (.q 8)] []])(hs:PX σ=true):∀(xs:bg) (u:aC) (L8:aR),(L8=[]\/∃v,L8=[(8,v)])->(∀L8',K .next ((92,.str w)::(93,.str (xs.foldl (cJ w) u))::L8') σ)->W (gv (λv L s=>cU (cD d) s (.one 8) v L) PX (λL s=>PT (cD d) b z L s) (xs.map V.str) ((92,.str w)::(93,.str u)::L8) σ) K
 |[],u,L8,_,q=>E2 hs (q _)
 |x::xs,u,L8,hL,q=>by
  refine J3 (L1:=[(92,.str w),(93,.str u),(8,.str x)]) hs (by rcases hL with rfl|⟨v,rfl⟩<;>rfl) ?_;have ih:=λ(u:aC) (q:∀L8',K .next ((92,.str w)::(93,.str (xs.foldl (cJ w) u))::L8') σ)=>wn (z:=z) hb hs xs u [(8,.str x)] (.inr ⟨_,rfl⟩) q;subst hb;unfold List.foldl cJ at q;refine iB (x:=decide ((u.length:Int)<(x.length:Nat))&&x.isPrefixOf w) (sU rfl rfl) (λh=>?_) λh=>?_
  ·rw[h]at q;exact sW rfl (nW (nW (ih x q)))
  ·rw[h]at q;exact nW (nW (ih u q))
theorem Ip:dw (cD d) σ (.u 43)=some (iP.map V.str):=rfl
theorem IA(hC:j' σ)(hl:PQ.length<=200)(kk:∀L',K (.ret (xE (xY PQ))) L' σ):W (PT (cD (d+1)) (L3.f822.drop 2) σ.length [(92,.str PQ)] σ) K:=by
 have hp:=(ez PQ).pre.length_le;have hnm:=(ez PQ).nm;unfold xY at kk;refine aW (v:=.str []) (σ1:=σ) rfl (Kb (v:=.u 43) rfl Ip (wn (w:=PQ) rfl (bN.mpr rfl) iP [] [] (.inl rfl) λL8=>?_));show W (PT (cD (d+1)) (L3.f822.drop 4) σ.length ((92,.str PQ)::(93,.str (db PQ))::L8) σ) _;generalize db PQ=b at *;refine iB (x:=b==[]) (bi rfl aD rfl) (λhb=>?_) λhb=>nW ?_
 ·rw[hb]at kk;exact tn hC aD (n:=0) aD Dq rfl (aQ _) (bh (o:=.list ([bS.w Jr].map dE))) kk
 have R6:b≠[]:=λe=>by rw[e]at hb;exact bU hb.symm
 obtain ⟨v,ev,hv⟩:=v4 (hnm.resolve_left R6);rw[hb,ev]at kk;have hse:dA b=(b.getLast? == some 59):=by
  unfold dA;generalize hx:b.getLast? = z4;induction z4 with
  |none=>exact Uj (List.getLast?_eq_none_iff.mp hx) R6
  |some x=>exact cw x 59
 obtain ⟨x,hx⟩:∃x,b.getLast? = some x:=by
  generalize hx:b.getLast? = z3;induction z3 with
  |none=>exact Uj (List.getLast?_eq_none_iff.mp hx) R6
  |some x=>exact ⟨x,rfl⟩
 generalize hf:(bif dA b then [] else [bS.w sf])=fl at *;have hbl:b.length<=200:=aH hp hl;refine aW (v:=.ref σ.length) (σ1:=σ++[.list (fl.map dE)]) (GB (q:=dA b) (bi (last_eq rfl hx) aD (by unfold dA;exact rW hx rfl)) (λh=>?_) λh=>?_) (aW (oU (k:=b.length) rfl rfl rfl) (iB (x:=!dA b&&iL ((PQ.drop b.length).take 1)) (sU (Af (bE (by decide) bZ) ?_) (sU (bi (aN bZ) aD rfl) (bi (aN bZ) (b:=.str iV) bH rfl))) (λhq=>?_) λhq=>?_))
 ·exact rW hf.symm (rW h nilE)
 ·exact rW hf.symm (rW h Dq)
 ·show ((σ++[O.list (fl.map dE)])[σ.length]?).bind Mm=_;refine rW (bh ..) (rW hf.symm ?_);clear kk ev hf;generalize dA b=z2;induction z2<;>rfl
 ·rw[hq]at kk;have hse:fl=[.w sf]:=by
   refine rW hf.symm ?_;generalize h:dA b=z1;induction z1 with
   |true=>rw[h]at hq;exact bU hq
   |false=>rfl
  exact rW hse (tn hC (iw (x:=[38]) (y:=b) aD rfl (aH (UK hbl 1) (by decide))) (n:=b.length) rfl (aN (bE (by decide) bZ)) rfl (aQ _) bh kk)
 ·rw[hq]at kk;exact nW (tn hC (Fb (i:=93) rfl ev) (n:=b.length) rfl (aN (bE (by decide) bZ)) rfl (aQ _) bh kk)
theorem NO(hC:j' σ)(hl:PQ.length<=200):rF (d+2) 822 [.str PQ] σ=some (xE (cK PQ),σ):=by
 unfold cK;refine kX ⟨rfl,rfl⟩ rfl (iB (x:=jJ (PQ.take 1)) (bi (oY (k:=1) rfl aD) (b:=.I (.tuple [.str [],.str [38],.str [60],.str [32],.str [10],.str [9],.str [12]])) rfl rfl) (λhe=>?_) λhe=>nW ?_)
 ·exact rW he (rW (cond_true ..) (tn hC aD (n:=0) aD nilE rfl (aQ _) (bh (o:=.list (([]:List bS).map dE))) λJ=>⟨rfl,rfl⟩))
 ·refine rW he (rW (cond_false ..) ?_);induction PQ with
  |nil=>exact bU he.symm
  |cons x r=>
   refine iB (x:=ny ((x::r).take 1)) (bi (a:=.str [x]) rfl aD rfl) (λhs=>?_) λhs=>nW ?_
   ·exact rW hs (rW (cond_true ..) (Dj hC hl hs λJ=>⟨rfl,rfl⟩))
   ·exact rW hs (rW (cond_false ..) (IA hC hl λJ=>⟨rfl,rfl⟩))
end
end
section
structure c6 where
 kind:aC
 a:Nat
 b:Nat
 told:List bS
 row:aZ
 ende:aC
noncomputable def cA(p:aC×aC):V:=.I (.tuple [.str p.1,.str p.2])
noncomputable def gp(l:List bS):V:=.I (.list (l.map dE))
noncomputable def fH(l:aZ):V:=.I (.list (l.map cA))
noncomputable def oZ(s:c6):V:=.I (.tuple [.str s.kind,.int (s.a:Nat),.int (s.b:Nat),gp s.told,fH s.row,.str s.ende])
noncomputable def B0:bg:=[[97],[98],[97],[99]]
noncomputable def ky(n:Nat):aC:=match B0[n%4]? with|some k=>k|none=>[]
noncomputable def eA:aC:=[108,111,115,116]
noncomputable def bz:aC:=[103,105,118,101,110]
noncomputable def iu:aC:=[107,101,121]
noncomputable def cC:aC:=[98,101,103,105,110]
noncomputable def c7:aC:=[98,101,104,105,110,100]
noncomputable def KK(vs:List V):Prop:=∀σ n k,vs.map (rz σ n k)=vs
theorem sL{α:Type}{f:α->O}:∀l:List α,KK (l.map λa=>V.I (f a))
 |[],_,_,_=>rfl
 |x::l,σ,n,k=>by have:=sL (f:=f) l σ n k;show rz σ n k (.I (f x))::_=_;refine rW this ?_;clear this;induction k<;>rfl
theorem o0(l:aZ):KK (l.map cA):=sL (f:=λp:aC×aC=>.tuple [.str p.1,.str p.2]) l
theorem kR(l:List bS):KK (l.map dE):=λJ J J=>FF l
structure Fs(N:Nat)(L fs:aR):Prop where
 g:∀{i v},aJ i fs=some v->aJ i L=some v
 cl:∀{i v},aJ i fs=some v->∀σ,rv σ (N+1) v=v
section
variable {d N i a n:Nat}{L fs:aR}{v:V}{σ τ:St}{c:Cx}{r:List PS}{P0:List c6}{vs:List V}{e:PE}{K:Fl->aR->St->Prop}
theorem Fs.put(h:Fs N L fs)(hv:∀σ,rv σ (N+1) v=v):Fs N (aX i v L) (aX i v fs):=by
 refine ⟨λ{j w} hj=>?_,λ{j w} hj σ=>?_⟩
 ·rw[br]at hj ⊢;by_cases q:j=i
  ·rw[T6 q]at hj ⊢;exact hj
  ·rw[T8 q]at hj ⊢;exact h.g hj
 ·rw[br]at hj;by_cases q:j=i
  ·rw[T6 q]at hj;obtain rfl:=aK hj;exact hv σ
  ·rw[T8 q]at hj;exact h.cl hj σ
theorem Fs.gcP(h:Fs N L fs)(s:St){w}(hw:rv s (N+1) w=v)(hv:∀σ,rv σ (N+1) v=v):Fs N (gQ s (N+1) (aX i w L)) (aX i v fs):=by
 refine ⟨λ{j u} hj=>?_,λ{j u} hj σ=>?_⟩
 ·rw[br]at hj;show aJ j ((aX i w L).map λp=>(p.1,rv s (N+1) p.2))=_;refine rW (fU ..) (rW (br ..) ?_);by_cases q:j=i
  ·rw[T6 q]at hj ⊢;obtain rfl:=aK hj;exact Qg some hw
  ·rw[T8 q]at hj ⊢;exact rW (h.g hj ..) (Qg some (h.cl hj s))
 ·exact (h.put hv).cl hj σ
theorem Fs.gc(h:Fs N L fs)(s:St):Fs N (gQ s (N+1) L) fs:=
 ⟨λ{j u} hj=>by show aJ j (L.map λp=>(p.1,rv s (N+1) p.2))=_;exact rW (fU ..) (rW (h.g hj ..) (Qg some (h.cl hj s))),h.cl⟩
noncomputable abbrev hL(σ:St)(P0:List c6):St:=σ++[.list (P0.map oZ)]
structure Cs(σ:St):Prop where
 c0:j' σ
 c1:∀P0,j' (hL σ P0)
theorem dn:(hL σ P0).length=σ.length+1:=aP
theorem C6(hC:Cs σ):iY (hL σ P0++τ) (σ.length+1)=hL σ P0:=by exact rW (dn (σ:=σ) (P0:=P0) ..).symm (eE (hC.c1 P0))
theorem nP{s b o}(ha:b<=a)(hl:s[a]? = some o):rv s b (.ref a)=jj (rz s b 5) o:=by show (bif Nat.blt a b then V.ref a else bif Nat.ble b a then (match s[a]? with|some o=>jj (rz s b 5) o|none=>.C) else .C)=_;exact rW (show Nat.blt a b=false from Bool.eq_false_iff.mpr λq=>Nat.not_lt.mpr ha (cg q) ..) (rW (Uw ha ..) (rW hl rfl))
theorem jw(ha:σ.length+1<=a)(hl:(hL σ P0++τ)[a]? = some (.list vs))(hf:KK vs):rv (hL σ P0++τ) (σ.length+1) (.ref a)=.I (.list vs):=
 (nP ha hl).trans (Qg (λvs=>V.I (.list vs)) (hf _ _ _))
theorem lK(hC:Cs σ)(hF:Fs σ.length L fs)(he:aM c e L (hL σ P0)=some (.ref a,hL σ P0++τ))(ha:σ.length+1<=a)(hl:(hL σ P0++τ)[a]? = some (.list vs))(hf:KK vs)(kk:∀L',Fs σ.length L' (aX i (.I (.list vs)) fs)->W (PT c r σ.length L' (hL σ P0)) K):W (PT c (.j (.l i) e::.gc 1::r) σ.length L (hL σ P0)) K:=
 aW he (pJ (C6 hC) (kk _ (hF.gcP _ (jw ha hl hf) λJ=>rfl)))
theorem BJ(hC:Cs σ)(hF:Fs σ.length L fs)(he:aM c e L (hL σ P0)=some (v,hL σ P0++τ))(hv:∀σ n,rv σ n v=v)(kk:∀L',Fs σ.length L' (aX i v fs)->W (PT c r σ.length L' (hL σ P0)) K):W (PT c (.j (.l i) e::.gc 1::r) σ.length L (hL σ P0)) K:=
 aW he (pJ (C6 hC) (kk _ (hF.gcP _ (hv _ _) λJ=>hv _ _)))
theorem jt(hF:Fs σ.length L fs)(he:aM c e L (hL σ P0)=some (v,hL σ P0))(hv:∀σ n,rv σ n v=v)(kk:∀L',Fs σ.length L' (aX i v fs)->W (PT c r σ.length L' (hL σ P0)) K):W (PT c (.j (.l i) e::r) σ.length L (hL σ P0)) K:=
 aW he (kk _ (hF.put λJ=>hv _ _))
theorem A5{l x}{us:List V}{w}{s:St}(h1:aM c l L s=some (.I (.list us),s))(h2:aM c x L s=some (w,s))(hl:us.length+1<=a8):aM c (.J .add l (.Q [x])) L s=some (.ref (s.length+1),s++[.list [w],.list (us++[w])]):=by refine jz h1 (s6 (dh h2) (show 1<=a8 by decide)) ?_;show (((s++[O.list [w]])[s.length]?).bind λp=>pZ (.list us) p _)=_;refine rW (bh ..) ?_;show bO (us++[w]) _=_;exact rW (bx (by rw[aP];exact hl) ..) (rW b9 (rW aP rfl))
theorem lw{x}{PR:List bS}{w}(hC:Cs σ)(hF:Fs σ.length L fs)(h87:aJ 87 fs=some (gp PR))(hx:aM c x L (hL σ P0)=some (.str w,hL σ P0))(hl:PR.length<=5000)(kk:∀L',Fs σ.length L' (aX 87 (gp (PR++[.w w])) fs)->W (PT c r σ.length L' (hL σ P0)) K):
 W (PT c (.j (.l 87) (.J .add de (.Q [.H [x,.i (.int 0)]]))::.gc 1::r) σ.length L (hL σ P0)) K:=by
 have hm:PR.map dE++[dE (.w w)]=(PR++[bS.w w]).map dE:=rW ba rfl;have e:=A5 (x:=.H [x,.i (.int 0)]) (w:=dE (.w w)) (aN (hF.g h87)) (jS (ed hx (w:=.int 0) rfl) rfl) (rW bA (aH (cO hl) (by decide)));exact lK hC hF e (rW (dn ..) (UT _)) (BM.trans (Qg (λvs=>some (O.list vs)) hm)) (kR _) kk
theorem pP{x s}(hF:Fs σ.length L fs)(SX:aJ 130 fs=some (.ref σ.length))(hx:aM c x L (hL σ P0)=some (oZ s,hL σ P0))(hl:P0.length<=5000)(kk:W (PT c r σ.length L (hL σ (P0++[s]))) K):W (PT c (.expr (.append iC x)::r) σ.length L (hL σ P0)) K:=by refine eW (mJ (a:=σ.length) (aN (hF.g SX)) bh hx bh (rW bA (aH hl (by decide))) ?_) kk;show (σ++[O.list (P0.map oZ)]).set σ.length (.list (P0.map oZ++[oZ s]))=σ++[.list ((P0++[s]).map oZ)];exact rW ba (rW (jc ..) rfl)
theorem zV(hC:Cs σ)(hF:Fs σ.length L fs)(SX:aJ 130 fs=some (.ref σ.length))(kk:∀L',K (.ret (.I (.list (P0.map oZ)))) L' σ):W (PT c (.ae iC::r) σ.length L (hL σ P0)) K:=
 Cb (aN (hF.g SX)) ((nP (aQ _) bh).trans (Qg (λvs=>V.I (.list vs)) ((sL (f:=λs:c6=>.tuple [.str s.kind,.int (s.a:Nat),.int (s.b:Nat),gp s.told,fH s.row,.str s.ende]) _) _ _ _))) (eE hC.c0) (kk _)
theorem vQ{o}(hC:j' σ)(h:aM c e L σ=some (.ref σ.length,σ++[o]))(hf:∀s,jj (rz s σ.length 5) o=v)(kk:∀L',K (.ret v) L' σ):W (PT c (.ae e::r) σ.length L σ) K:=
 Cb h ((nP (aQ _) bh).trans (hf _)) (eE hC) (kk _)
theorem Ny(hC:j' σ):rF (d+1) 787 [] σ=some (.I (.list (B0.map V.str)),σ):=
 kX ⟨rfl,rfl⟩ rfl (vQ (o:=.list (B0.map V.str)) hC rfl (λs=>rfl) λJ=>⟨rfl,rfl⟩)
theorem MF(hC:j' σ):rF (d+1) 794 [] σ=some (.I (.dict [([34],.str Jj),([39],.str Jg),([62],.str Ju)]),σ):=
 kX ⟨rfl,rfl⟩ rfl (vQ (o:=.dict [([34],.str Jj),([39],.str Jg),([62],.str Ju)]) hC rfl (λs=>rfl) λJ=>⟨rfl,rfl⟩)
theorem HU{l x s s1 us j w}(h1:aM c l L s=some (.I (.list us),s))(h2:aM c x L s=some (.int (j:Nat),s1))(hj:us[j]? = some w):aM c (.sub l x) L s=some (w,s1):=by refine rW (cu ..) (rW h1 (rW aS ?_));show Option.bind (aM c x L s) _=_;exact rW h2 (rW aS (Qg (Option.map λv=>(v,s1)) (kM hj)))
@[elab_as_elim]theorem m4{P:Nat->Prop}(h0:P 0)(h1:P 1)(h2:P 2)(h3:P 3)(n:Nat):P (n%4):=by have h:=Nat.mod_lt n (show 0<4 by decide);revert h;exact match n%4 with|0=>λJ=>h0|1=>λJ=>h1|2=>λJ=>h2|3=>λJ=>h3|k+4=>λh=>Uj h (Nat.not_lt.mpr (Nat.le_add_left ..))
theorem EV{x s}(hC:j' s)(h:aM (cD (d+1)) (.len x) L s=some (.int (n:Nat),s)):aM (cD (d+1)) (.sub (.call 787 []) (.J .mod (.len x) (.i (.int 4)))) L s=some (.str (ky n),s):=by refine HU (j:=n%4) (fQ rfl (Ny (d:=d) hC)) (jz h aD (Qg (λi=>some (V.int i,s)) (Int.fmod_eq_emod_of_nonneg _ (by decide)))) ?_;unfold ky;refine m4 ?_ ?_ ?_ ?_ n<;>rfl
theorem qv{P1:aZ}{k v v':aC}(hF:Fs σ.length L fs)(h20:aJ 20 fs=some (fH (P1++[(k,v)])))(TX:aJ 27 fs=some (.str v'))(hl:P1.length<=5000){Z:Prop}
 (kk:∀τ,aM c (.J .add (.O eb dT cZ) (.Q [.H [.sub (.sub eb cZ) cI,.q 27]])) L (hL σ P0)=some (.ref (σ.length+3),hL σ P0++τ)->(hL σ P0++τ)[σ.length+3]? = some (.list ((P1++[(k,v')]).map cA))->Z):Z:=by
 have QQ:((P1++[(k,v)]).map cA).length=P1.length+1:=rW bA (rW aP rfl);have hm:∀{v},(P1++[(k,v)]).map cA=P1.map cA++[cA (k,v)]:=by intro v;exact rW ba rfl
 have h1:(hL σ P0++[O.list (P1.map cA)]).length=σ.length+2:=rW aP (rW (dn ..) rfl);refine kk [.list (P1.map cA),.list [cA (k,v')],.list ((P1++[(k,v')]).map cA)] (jz (a:=.ref (σ.length+1)) (σ1:=hL σ P0++[.list (P1.map cA)]) ?_ (s6 (dh (jS (ed (v:=.str k) ?_ (aN (hF.g TX))) rfl)) (show 1<=a8 by decide)) ?_) ?_
 ·refine rW (d4 ..) (rW (aN (hF.g h20) ..) (rW aS ?_));show bO (iA ((P1++[(k,v)]).map cA) 0 (bP ((P1++[(k,v)]).map cA).length (-1))) (hL σ P0)=_;exact rW (lT _ (by rw[QQ];exact Nat.succ_pos _) ..) (rW hm (rW (List.dropLast_concat ..) (rW (bx (by rw[UC];exact aH hl (by decide)) ..) (rW (dn ..) rfl))))
 ·have e4:aM c (.sub eb cZ) L (hL σ P0++[.list (P1.map cA)])=some (cA (k,v),hL σ P0++[.list (P1.map cA)]):=by
   refine rW (cu ..) (rW (aN (hF.g h20) ..) (rW aS ?_));show Option.map _ ((d9 ((P1++[(k,v)]).map cA).length (-1)).bind λj=>((P1++[(k,v)]).map cA)[j]?)=_;rw[QQ,fL (Nat.succ_pos _),UB,Nat.succ_sub_one,hm,show (P1.map cA++[cA (k,v)])[P1.length]? = some (cA (k,v)) by rw[<-UC (as:=P1) cA];exact List.getElem?_concat_length ..];rfl
  exact rW (cu ..) (rW e4 rfl)
 ·have h3:(hL σ P0++[O.list (P1.map cA)]++[O.list [cA (k,v')]])[σ.length+1]? = some (.list (P1.map cA)):=by
   refine rW (List.getElem?_append_left (by rw[h1];exact Ur _) ..) (rW (dn (σ:=σ) (P0:=P0) ..).symm ?_);exact bh
  show (((hL σ P0++[O.list (P1.map cA)]++[O.list [cA (k,v')]])[σ.length+1]?).bind λo=>((hL σ P0++[O.list (P1.map cA)]++[O.list [cA (k,v')]])[(hL σ P0++[O.list (P1.map cA)]).length]?).bind λp=>pZ o p _)=_;refine rW h3 (rW (bh ..) ?_);show bO (P1.map cA++[cA (k,v')]) _=_;exact rW (bx (by rw[aP,UC];exact aH (cO hl) (by decide)) ..) (rW hm.symm (rW aP (rW h1 (rW b9 (rW b9 rfl)))))
 ·rw[show hL σ P0++[O.list (P1.map cA),.list [cA (k,v')],.list ((P1++[(k,v')]).map cA)]=(hL σ P0++[O.list (P1.map cA)])++[.list [cA (k,v')],.list ((P1++[(k,v')]).map cA)] from (UD (hL σ P0) [O.list (P1.map cA)] _).symm,show σ.length+3=(hL σ P0++[O.list (P1.map cA)]).length+1 by rw[h1]];exact BM
end
end
section
theorem eN{β:Type}{i v y}:∀{x:List (Nat×β)},aJ i x=some v->aJ i (x++y)=some v
 |[],h=>bl h
 |(j,w)::x,h=>by
  have h:(bif Nat.beq j i then some w else aJ i x)=some v:=h;show (bif Nat.beq j i then some w else aJ i (x++y))=some v;generalize hb:Nat.beq j i=z1;induction z1 with
  |true=>rw[hb]at h;exact h
  |false=>rw[hb]at h;exact eN (x:=x) h
theorem Fs.drop{N L x y}(h:Fs N L (x++y)):Fs N L x:=⟨λhg=>h.g (eN hg),λhg=>h.cl (eN hg)⟩
structure x3(N:Nat)(s:St)(L fs:aR):Prop where
 g:∀{i v},aJ i fs=some v->∃w,aJ i L=some w/\rv s (N+1) w=v
 cl:∀{i v},aJ i fs=some v->∀σ,rv σ (N+1) v=v
section
variable {N i a:Nat}{L fs:aR}{v w:V}{s σ τ:St}{c:Cx}{r:List PS}{P0:List c6}{vs:List V}{e:PE}{K:Fl->aR->St->Prop}
theorem Fs.to(h:Fs N L fs):x3 N s L fs:=⟨λ{i v} hg=>⟨v,h.g hg,h.cl hg s⟩,h.cl⟩
theorem x3.put(h:x3 N s L fs)(hw:rv s (N+1) w=v)(hv:∀σ,rv σ (N+1) v=v):x3 N s (aX i w L) (aX i v fs):=by
 refine ⟨λ{j u} hj=>?_,λ{j u} hj σ=>?_⟩
 ·rw[br]at hj;refine rW (br ..) ?_;by_cases q:j=i
  ·rw[T6 q]at hj ⊢;obtain rfl:=aK hj;exact ⟨w,rfl,hw⟩
  ·rw[T8 q]at hj ⊢;exact h.g hj
 ·rw[br]at hj;by_cases q:j=i
  ·rw[T6 q]at hj;obtain rfl:=aK hj;exact hv σ
  ·rw[T8 q]at hj;exact h.cl hj σ
theorem x3.drop{x y}(h:x3 N s L (x++y)):x3 N s L x:=⟨λhg=>h.g (eN hg),λhg=>h.cl (eN hg)⟩
theorem Ga{z j e1 e2}(h1:aM c e1 L s=some (w,s))(h2:aM c e2 L s=some (.ref a,s++τ))(hw:([w,V.ref a].any FS)=true)(kk:W (PT c r z (aX j (.ref a) (aX i w L)) (s++(τ++[.tuple [w,.ref a]]))) K):W (PT c (.Z [.l i,.l j] (.H [e1,e2])::r) z L s) K:=by
 rw[<-UD]at kk;refine tW (v:=.ref (s++τ).length) (vs:=[w,.ref a]) (jS (ed h1 h2) ?_) ?_ rfl kk
 ·show (bif [w,V.ref a].any FS then fG (.tuple [w,.ref a]) (s++τ) else _)=_;exact rW hw rfl
 ·show ((s++τ++[O.tuple [w,.ref a]])[(s++τ).length]?).bind nR=_;exact rW (bh ..) rfl
theorem x3.gc(h:x3 N s L fs):Fs N (gQ s (N+1) L) fs:=⟨λ{j u} hj=>by obtain ⟨w,h1,h2⟩:=h.g hj;exact mu h1 h2,h.cl⟩
end
noncomputable def xW:List PS:=match (L3.f829[2]? : Option PS) with|some (PS.aa _ b)=>b|_=>[]
noncomputable def VL(N:Nat)(P1:aZ)(PP PO e:Nat)(PR:List bS)(v:aC)(first:Nat):aR:=[(3,.str mm),(130,.ref N),(20,fH P1),(16,.int (PP:Nat)),(131,.str [PO]),(9,.int (e:Nat)),(87,gp PR),(27,.str v),(86,.int (first:Nat))]
section
variable {d N:Nat}{σ τ:St}{L fs:aR}{P0:List c6}{n PP PO e first:Nat}{v o p:aC}{P1:aZ}{PR fl:List bS}{r:List PS}{K:Fl->aR->St->Prop}
theorem IB(hC:Cs σ)(TX:aJ 27 L=some (.str v))(h25:aJ 25 L=some (.str o))(hl:v.length+o.length<=a8)(h:x3 σ.length (hL σ P0++τ) L (VL σ.length P1 PP PO e PR v first))(kk:∀L',Fs σ.length L' (VL σ.length P1 PP PO e PR (v++o) first)->K .next L' (hL σ P0)):W (PT (cD d) [.j (.l 27) (.J .add (.q 27) dq),.gc 1] σ.length L (hL σ P0++τ)) K:=
 aW (iw (aN TX) (aN h25) hl) (pJ (C6 hC) (nW (kk _ ((h.put (i:=27) (w:=.str (v++o)) (v:=.str (v++o)) rfl λJ=>rfl).gc))))
theorem Fo(hC:Cs σ)(TX:aJ 27 L=some (.str v))(h25:aJ 25 L=some (.str o))(hl:v.length+o.length<=a8)(h:Fs σ.length L (VL σ.length P1 PP PO e PR v first))(kk:∀L',Fs σ.length L' (VL σ.length P1 PP PO e PR (v++o) first)->K .next L' (hL σ P0)):W (PT (cD d) [.j (.l 27) (.J .add (.q 27) dq),.gc 1] σ.length L (hL σ P0)) K:=by have:=IB (d:=d) (τ:=[]) (K:=K) hC TX h25 hl h.to kk;rwa [bX]at this
theorem Aj{m:aC}:iA m (bP m.length (first:Nat)) (bP m.length (e:Nat))=(m.drop first).take (e-first):=by
 unfold iA;refine rW (lM ..) (rW (lM ..) ?_);by_cases h:first<=m.length
 ·refine rW (Ue h ..) ?_;by_cases h2:e<=m.length
  ·exact rW (Ue h2 ..) rfl
  ·exact rW (Nat.min_eq_right (Nat.le_of_not_le h2) ..) (rW (UY (rW bV (aQ _)) ..) (rW (UY (rW bV (aF (xg 0x314b214183211211b211131831 rfl (pL (aF (cV 0x11b2111011 rfl h))) (Uo h2 :) (Cg _ _)))) ..) rfl))
 ·exact rW (Nat.min_eq_right (Nat.le_of_not_le h) ..) (rW (List.drop_length ..) (rW (List.take_nil ..) (rW (Uz (Nat.le_of_not_le h) ..) (rW (List.take_nil ..) rfl))))
inductive VI(σ:St)(P0:List c6)(P1:aZ)(PP PO e:Nat)(T:List bS)(V0:aC):Nat->aR->St->Prop
 |mk {p v:aC}{first:Nat}{PR:List bS}{L:aR}:p=(mm.drop first).take (e-first)->PR++(rd PO p).2=T->v++(rd PO p).1=V0->Fs σ.length L (VL σ.length P1 PP PO e PR v first)->VI σ P0 P1 PP PO e T V0 p.length L (hL σ P0)
theorem Lv(hC:Cs σ)(he:e<=mm.length)(hp:p=(mm.drop first).take (e-first))(ht:(PR++(rd PO p).2).length<=5000)(hv:(v++(rd PO p).1).length<=5000)(QG:Fs σ.length L (VL σ.length P1 PP PO e PR v first))(kk:∀L' SZ,Fs σ.length L' (VL σ.length P1 PP PO e (PR++(rd PO p).2) (v++(rd PO p).1) SZ)->W (PT (cD (d+2)) (xW.drop 16) σ.length L' (hL σ P0)) K):
 W (PT (cD (d+2)) (xW.drop 15) σ.length L (hL σ P0)) K:=by
 have Sy:∀{i},((mm.drop i).take (e-i)).length<=200:=by intro i;exact rW (Uh ..) (aH (Nat.min_le_right ..) (rW bV (aH (UQ ..) cS)))
 refine x5 (lW (VI σ P0 P1 PP PO e (PR++(rd PO p).2) (v++(rd PO p).1)) (λ{n0 L s0} h=>?_) (Um (hp▸Sy) (by decide:200<FU)) (.mk hp rfl rfl QG));clear QG hp;generalize PR++(rd PO p).2=T at *;generalize v++(rd PO p).1=V0 at *;cases h with|@mk p v first PR _ hp hT hV QG=>
 refine .mk (v:=decide (first<e)) (bi (aN (QG.g (i:=86) rfl)) (aN (QG.g (i:=9) rfl)) (Qg some (decide_eq_decide.mpr Int.ofNat_lt))) ?_;induction p with
 |nil=>
  have hnl:¬first<e:=λq=>by have:=Qg List.length hp;rw[Uh,bV,List.length_nil,Ue (Nat.sub_le_sub_right he _)]at this;exact Nat.not_le.mpr q (Nat.sub_eq_zero_iff_le.mp this.symm)
  rw[yq,bX]at hT hV;clear hv ht;subst hT hV;exact rW (Ux hnl ..) (kk _ _ QG)
 |cons x p=>
  have Qf:first<e:=Uo λq=>by rw[Nat.sub_eq_zero_of_le q,List.take_zero]at hp;cases hp
  have hfm:first<mm.length:=Uk Qf he;refine rW (Uf Qf ..) ?_;rw[Uc hfm,show e-first=(e-(first+1))+1 by exact ce (aF (mD 0x213bb311b318501101121841 rfl (pL (aF (cV 0x11b11011b21 rfl Qf))) (Cg _ _))) (aF (mD 0x3b22b2112184011011b31851 rfl (pL (aF (cV 0x1b2b11011b21 rfl Qf))) (Cg _ _))),List.take_succ_cons]at hp;obtain ⟨hx,R'⟩:=U5 hp;clear hp;have Rg:p.length<=200:=R'▸Sy;have F1:Fs σ.length (aX 86 (.int ((first+1:Nat):Int)) (aX 25 (.str [x]) L)) (VL σ.length P1 PP PO e PR v (first+1)++[(25,.str [x])]):=(QG.put (i:=25) (v:=.str [x]) λJ=>rfl).put (i:=86) (v:=.int ((first+1:Nat):Int)) λJ=>rfl;refine aW (v:=.str [x]) (eJ (s:=mm) (j:=first) (aN (QG.g (i:=3) rfl)) (aN (QG.g (i:=86) rfl)) (rW hx (da hfm))) (sW (L1:=aX 86 (.int ((first+1:Nat):Int)) (aX 25 (.str [x]) L)) (σ1:=hL σ P0) ?_ ?_)
  ·exact rW (eT ..) (rW (bE (by decide) (QG.g (i:=86) rfl) ..) rfl)
  generalize aX 86 (.int ((first+1:Nat):Int)) (aX 25 (.str [x]) L)=L1 at F1;have vl:∀{o fl p2},rd PO (x::p)=(o++(rd PO p2).1,fl++(rd PO p2).2)->v.length+o.length<=a8/\PR.length+fl.length<=5000:=λ{o fl p2} h=>by rw[<-hT,h,aP,aP]at ht;rw[<-hV,h,aP,aP]at hv;exact ⟨aH (aF (c9 0x1018413887b61138875211801871 rfl hv):v.length+o.length<=5000) (by decide),by exact aF (c9 0x1018413887b61138875211801871 rfl ht)⟩
  have fin:∀{o fl Rs p2 L3},rd PO (x::p)=(o++(rd PO p2).1,fl++(rd PO p2).2)->p2=(mm.drop Rs).take (e-Rs)->p2.length<=p.length->Fs σ.length L3 (VL σ.length P1 PP PO e (PR++fl) (v++o) Rs)->∃m,m<(x::p).length/\VI σ P0 P1 PP PO e T V0 m L3 (hL σ P0):=λh3 h4 h5 hF=>
   ⟨_,Nat.lt_succ_of_le h5,.mk h4 (rW hT.symm (rW h3 (rW b9 rfl))) (rW hV.symm (rW h3 (rW b9 rfl))) hF⟩
  clear hT hV QG ht hv kk hfm Qf he hx;have t1:∀{y},bR (cD (d+2)) (.E .eq dq (.i (.str [y]))) L1 (hL σ P0)=some (x==y,hL σ P0):=λ{y}=>bi (aN (F1.g (i:=25) rfl)) aD (Qg some (cw x y));refine iB t1 (λx0=>?_) λx0=>jB t1 (λx38=>?_) λx38=>?_
  ·clear t1;obtain rfl:=eq_of_beq x0;have hr:rd PO (0::p)=(dZ++(rd PO p).1,[bS.w ir]++(rd PO p).2):=k6;have RF:=vl hr;have hmm:PR.map dE++[dE (.w ir)]=(PR++[bS.w ir]).map dE:=rW ba rfl;have ec:=A5 (c:=cD (d+2)) (L:=L1) (l:=.q 87) (x:=.H [.i (.str ir),.i (.int 0)]) (us:=PR.map dE) (w:=dE (.w ir)) (s:=hL σ P0) (aN (F1.g (i:=87) rfl)) rfl (rW bA (aH RF.2 (by decide)));refine Ga (aD (v:=.str dZ)) ec rfl (nW (IB (o:=dZ) hC (bE (by decide) (bE (by decide) (F1.g (i:=27) rfl))) (bE (by decide) bZ) RF.1 (x3.put (i:=87) (v:=gp (PR++[.w ir])) (x3.drop (x:=VL σ.length P1 PP PO e PR v (first+1)) (y:=[(25,.str dZ)]) (F1.to.put (i:=25) (w:=.str dZ) (v:=.str dZ) rfl λJ=>rfl)) (jw (rW (dn ..) (UT _)) ?_ (kR (PR++[.w ir]))) λJ=>rfl) λL3 F3=>fin hr R' (aQ _) F3));refine rW (List.getElem?_append_right (bC _ _) ..) (rW (Nat.add_sub_cancel_left ..) (rW hmm.symm ?_));rfl
  ·clear x0 t1;obtain rfl:=eq_of_beq x38;have hr:rd PO (38::p)=((cK p).1++(rd PO (p.drop (cK p).2.1)).1,(cK p).2.2++(rd PO (p.drop (cK p).2.1)).2):=uf;have RF:=vl hr;have Sy:∀k,p.drop k=(mm.drop (first+1+k)).take (e-(first+1+k)):=λk=>rW R' (rW (List.drop_take ..) (rW (UR ..) (rW (Nat.sub_sub ..) rfl)));have Sy:=Sy (cK p).2.1;have hpl2:(p.drop (cK p).2.1).length<=p.length:=rW bV (UQ ..);have es:aM (cD (d+2)) (.O dM eZ eB) L1 (hL σ P0)=some (.str p,hL σ P0):=by
    exact rW R' (rW (Aj ..).symm (tE (aN (F1.g (i:=3) rfl)) (aN (F1.g (i:=86) rfl)) (aN (F1.g (i:=9) rfl)) rfl rfl))
   have e8:aM (cD (d+2)) (.call 822 [.O dM eZ eB]) L1 (hL σ P0)=some (xE (cK p),hL σ P0):=fQ (dh es) (NO (hC.c1 P0) Rg);generalize cK p=rr at *;have F2:Fs σ.length (aX 132 (.I (.list (rr.2.2.map dE))) (aX 76 (.int (rr.2.1:Nat)) (aX 25 (.str rr.1) L1))) (VL σ.length P1 PP PO e PR v (first+1)++[(25,.str rr.1),(76,.int (rr.2.1:Nat)),(132,.I (.list (rr.2.2.map dE)))]):=
    ((F1.put (i:=25) (v:=.str rr.1) λJ=>rfl).put (i:=76) (v:=.int (rr.2.1:Nat)) λJ=>rfl).put (i:=132) (v:=.I (.list (rr.2.2.map dE))) λJ=>rfl
   refine tW e8 rfl rfl (Ga (i:=86) (j:=87) (a:=(hL σ P0).length) (τ:=[.list ((PR++rr.2.2).map dE)]) (w:=.int ((first+1+rr.2.1:Nat):Int)) (j8 (aN (F2.g (i:=86) rfl)) (aN (F2.g (i:=76) rfl))) (jz (aN (F2.g (i:=87) rfl)) (aN (F2.g (i:=132) rfl)) ?_) rfl (nW (IB (o:=rr.1) hC (bE (by decide) (bE (by decide) (F2.g (i:=27) rfl))) (bE (by decide) (bE (by decide) (F2.g (i:=25) rfl))) RF.1 ((F2.drop.to.put (i:=86) (w:=.int ((first+1+rr.2.1:Nat):Int)) (v:=.int ((first+1+rr.2.1:Nat):Int)) rfl λJ=>rfl).put (i:=87) (v:=gp (PR++rr.2.2)) (jw (rW (dn ..) (aQ _)) ?_ (kR _)) λJ=>rfl) λL3 F3=>fin hr Sy hpl2 F3)))
   ·show bO (PR.map dE++rr.2.2.map dE) (hL σ P0)=_;exact rW ba.symm (bx (rW bA (rW aP (aH RF.2 (by decide)))))
   ·refine rW (List.getElem?_append_right (aQ _) ..) (rW (Nat.sub_self ..) ?_);rfl
  ·have hr:rd PO (x::p)=([x]++(rd PO p).1,(bif PO==62&&ga x then [bS.w rg] else [])++(rd PO p).2):=oj (λe=>by rw[e]at x0;exact bU x0.symm) λe=>by rw[e]at x38;exact bU x38.symm
   refine jB (x:=PO==62&&ga x) (sU (bi (aN (F1.g (i:=131) rfl)) aD (Qg some (cw PO 62))) (bi (aN (F1.g (i:=25) rfl)) (b:=.I (.tuple [.str [34],.str [39],.str [61],.str [60],.str [96]])) rfl rfl)) (λhu=>?_) λhu=>?_
   ·rw[hu]at hr;have RF:=vl hr;refine lw (r:=[]) (x:=.i (.str rg)) hC F1 (PR:=PR) rfl aD (Nat.le_of_succ_le RF.2) λL2 F2=>nW ?_;have F2:Fs σ.length L2 (VL σ.length P1 PP PO e (PR++[.w rg]) v (first+1)++[(25,.str [x])]):=F2;exact Fo (o:=[x]) hC (F2.g (i:=27) rfl) (F2.g (i:=25) rfl) RF.1 F2.drop λL3 F3=>fin hr R' (aQ _) F3
   ·rw[hu]at hr;have RF:=vl hr;exact nW (Fo (o:=[x]) hC (F1.g (i:=27) rfl) (F1.g (i:=25) rfl) RF.1 F1.drop λL3 F3=>fin (fl:=[]) hr R' (aQ _) (rW (bX ..) F3))
end
end
section
noncomputable def Cf(c:Nat):Bool:=([32,10,9,12]:aC).contains c
noncomputable def bp(PP:Nat):Nat:=PP+((mm.drop PP).takeWhile Cf).length
noncomputable def gn(c:Nat):Nat:=if c=34\/c=39 then c else 62
noncomputable def wm(PO:Nat):aC:=if PO=34 then Jj else if PO=39 then Jg else Ju
noncomputable def Ej(PO:Nat):Option Nat->List bS|none=>[.w (wm PO)]|some _=>[]
section
variable (PP:Nat)(PR:List bS)(P1:aZ)(c:Nat)
noncomputable def vc:Nat:=bp PP+xv c
noncomputable def uN:aC:=bT (gn c) (mm.drop (vc PP c))
noncomputable def dL:Nat:=vc PP c+(uN PP c).length
noncomputable def Ci:List bS:=PR++yF c
noncomputable def nQ:List bS:=Ci PR c++(rd (gn c) (uN PP c)).2++Ej (gn c) mm[dL PP c]?
noncomputable def zo:aZ:=P1++[(ky P1.length,[])]
noncomputable def Pz:aZ:=P1++[(ky P1.length,kI c)]
noncomputable def Bb:aZ:=P1++[(ky P1.length,kI c++(rd (gn c) (uN PP c)).1)]
noncomputable def mA:Option Nat->aC|none=>eA|some x=>if x=62 then bz else []
noncomputable def cN:Option Nat->Bool|none=>false|some x=>([32,10,9,12,47,62]:aC).contains x
noncomputable def sK:c6:=⟨iu,PP,PP,PR,zo P1,[]⟩
noncomputable def sB:c6:=⟨cC,bp PP,vc PP c,Ci PR c,Pz P1 c,[]⟩
noncomputable def sV:c6:=⟨[gn c],dL PP c,dL PP c+(kA mm[dL PP c]?).length,nQ PP PR c,Bb PP P1 c,mA mm[dL PP c]?⟩
noncomputable def Mg:List bS:=nQ PP PR c++bif cN mm[dL PP c+1]? then [] else [.w (wT mm[dL PP c+1]?)]
noncomputable def sA:c6:=⟨c7,dL PP c+1,dL PP c+1+(bif cN mm[dL PP c+1]? then 1 else 0),Mg PP PR c,Bb PP P1 c,mA mm[dL PP c+1]?⟩
end
structure Sz(PP:Nat)(PR:List bS)(P1:aZ):Prop where
 p:PP<=mm.length
 r:P1.length<=PP
 t:PR.length<=3*PP
 k:∀p∈P1,p.1.length<=10
inductive jv:Nat->List bS->aZ->List c6->Prop
 |eof:Sz p t w->mm[bp p]? = none->jv p t w [sK p t w,⟨cC,bp p,bp p,t++[.w Bk],zo w,eA⟩]
 |gt:Sz p t w->mm[bp p]? = some 62->jv p t w [sK p t w,⟨cC,bp p,bp p+1,t++[.w JL],zo w,bz⟩]
 |vend:Sz p t w->mm[bp p]? = some c->c≠62->mA mm[dL p c]?≠[]->jv p t w [sK p t w,sB p t w c,sV p t w c]
 |usp:Sz p t w->mm[bp p]? = some c->c≠62->mm[dL p c]? = some y->y≠62->gn c=62->jv (dL p c+1) (nQ p t c) (Bb p w c) l->jv p t w (sK p t w::sB p t w c::sV p t w c::l)
 |qend:Sz p t w->mm[bp p]? = some c->c≠62->mm[dL p c]? = some y->y≠62->gn c≠62->mA mm[dL p c+1]?≠[]->jv p t w [sK p t w,sB p t w c,sV p t w c,sA p t w c]
 |qgo:Sz p t w->mm[bp p]? = some c->c≠62->mm[dL p c]? = some y->y≠62->gn c≠62->mA mm[dL p c+1]? = []->jv (dL p c+1+(bif cN mm[dL p c+1]? then 1 else 0)) (Mg p t c) (Bb p w c) l->jv p t w (sK p t w::sB p t w c::sV p t w c::sA p t w c::l)
theorem Fs.nil{N L}:Fs N L []:=⟨(λh=>bl h),(λh=>bl h)⟩
theorem Fs.cons{N i L fs v}(hg:aJ i L=some v)(hc:∀σ,rv σ (N+1) v=v)(h:Fs N L fs):Fs N L ((i,v)::fs):=by
 have e:∀{j:Nat},aJ j ((i,v)::fs)=bif Nat.beq i j then some v else aJ j fs:=rfl
 refine ⟨λ{j w} hj=>?_,λ{j w} hj σ=>?_⟩
 ·rw[e]at hj;generalize hb:Nat.beq i j=z3;induction z3 with
  |true=>rw[hb]at hj;obtain rfl:=aK hj;exact Uq hb▸hg
  |false=>rw[hb]at hj;exact h.g hj
 ·rw[e]at hj;generalize hb:Nat.beq i j=z2;induction z2 with
  |true=>rw[hb]at hj;obtain rfl:=aK hj;exact hc σ
  |false=>rw[hb]at hj;exact h.cl hj σ
section
variable {d N:Nat}{σ:St}{L:aR}{P0:List c6}{PP i j z:Nat}{l:aC}{P1:aZ}{PR:List bS}{c:Cx}{r:List PS}{K:Fl->aR->St->Prop}
inductive Ok(N e:Nat)(σ:St)(A:Nat->Bool)(fs:Nat->aR):Nat->aR->St->Prop
 |mk {j:Nat}{L:aR}{l:aC}:(mm.drop j).takeWhile A=l->j+l.length=e->Fs N L (fs j)->Ok N e σ A fs l.length L σ
theorem KY{T}{A:Nat->Bool}{fs:Nat->aR}(h1:∀j,aX i (.int ((j+1:Nat):Int)) (fs j)=fs (j+1)/\aJ i (fs j)=some (.int (j:Nat))/\aJ 3 (fs j)=some (.str mm))(hT:∀j x L,Fs N L (fs j)->mm[j]? = some x->bR (cD d) T L σ=some (A x,σ))(hl:(mm.drop j).takeWhile A=l)(QG:Fs N L (fs j))(kk:∀L',Fs N L' (fs (j+l.length))->W (PT (cD d) r z L' σ) K):
 W (PT (cD d) (.aa (.ac (.E .lt (.q i) (.len dM)) T) [.aj i .add cb]::r) z L σ) K:=by
 have RK:l.length<=200:=hl▸aH (Uy _).length_le (rW bV (aH (UQ ..) cS));refine x5 (lW (Ok N (j+l.length) σ A fs) (λ{n0 L0 s0} h=>?_) (Um RK (by decide:200<FU)) (.mk hl rfl QG));clear QG hl;cases h with|@mk j _ l hl he QG=>
 have t1:bR (cD d) (.E .lt (.q i) (.len dM)) L0 σ=some (decide (j<mm.length),σ):=bi (aN (QG.g (h1 j).2.1)) (Dx (aN (QG.g (h1 j).2.2))) (Qg some (decide_eq_decide.mpr Int.ofNat_lt));have PO:l=[]->W (PT (cD d) r z L0 σ) K:=λe=>by clear t1 hl;subst e;subst he;exact kk L0 QG
 by_cases Qf:j<mm.length
 ·rw[Uf Qf]at t1;rw[Uc Qf,Ui]at hl;refine .mk (i' t1 (hT j _ L0 QG (da Qf))) ?_;generalize hA:A mm[j]=z1;induction z1 with
  |false=>rw[hA]at hl;exact PO hl.symm
  |true=>
   rw[hA]at hl;refine sW (L1:=aX i (.int ((j+1:Nat):Int)) L0) (σ1:=σ) (rW (eT ..) (rW (QG.g (h1 j).2.1 ..) rfl)) (nW ⟨_,?_,.mk rfl ?_ ((h1 j).1▸QG.put (v:=.int ((j+1:Nat):Int)) λJ=>rfl)⟩)
   ·exact rW hl.symm (Ur _)
   ·exact rW he.symm (rW hl.symm (Nat.add_right_comm ..))
 ·rw[Ux Qf]at t1;rw[Uz (aF Qf)]at hl;exact .mk (jb t1) (PO hl.symm)
theorem Ao{s e1 e2 e3 e4 e5 e6 a1 a2 a3 a4 a5 a6}(h1:aM c e1 L s=some (a1,s))(h2:aM c e2 L s=some (a2,s))(h3:aM c e3 L s=some (a3,s))(h4:aM c e4 L s=some (a4,s))(h5:aM c e5 L s=some (a5,s))(h6:aM c e6 L s=some (a6,s))(hr:([a1,a2,a3,a4,a5,a6].any FS)=false):
 aM c (.H [e1,e2,e3,e4,e5,e6]) L s=some (.I (.tuple [a1,a2,a3,a4,a5,a6]),s):=by
 refine jS (vs:=[a1,a2,a3,a4,a5,a6]) (σ1:=s) (by simp only[bF,me,h1,h2,h3,h4,h5,h6,UB]) ?_;show (bif [a1,a2,a3,a4,a5,a6].any FS then _ else some (V.I (.tuple [a1,a2,a3,a4,a5,a6]),s))=_;exact rW hr rfl
noncomputable def SL(N:Nat)(P1:aZ)(PR:List bS)(PP:Nat):aR:=[(3,.str mm),(130,.ref N),(20,fH P1),(87,gp PR),(16,.int (PP:Nat))]
theorem yQ{fs}(hF:Fs N L fs)(h3:aJ 3 fs=some (.str mm))(hi:aJ i fs=some (.int (PP:Nat))):aM c (.O dM (.q i) (.J .add (.q i) cb)) L σ=some (.str (kA mm[PP]?),σ):=
 gR (l:=mm) (j:=PP)▸oU (aN (hF.g h3)) (aN (hF.g hi)) (j8 (aN (hF.g hi)) aD)
theorem HN(hC:Cs σ)(hr:P1.length<=500)(hl:P0.length<=4000)(QG:Fs σ.length L (SL σ.length P1 PR PP))(kk:∀L',Fs σ.length L' (SL σ.length (zo P1) PR (bp PP)++[(98,.str (kA mm[bp PP]?))])->W (PT (cD (d+2)) (xW.drop 5) σ.length L' (hL σ (P0++[sK PP PR P1]))) K):
 W (PT (cD (d+2)) xW σ.length L (hL σ P0)) K:=by
 have hmm:P1.map cA++[cA (ky P1.length,[])]=(zo P1).map cA:=by unfold zo;exact rW ba rfl
 refine lK (i:=20) (vs:=(zo P1).map cA) hC QG (A5 (w:=cA (ky P1.length,[])) (aN (QG.g (i:=20) rfl)) (jS (ed (EV (hC.c1 P0) (n:=P1.length) ?_) aD) rfl) (rW bA (aH (cO hr) (by decide)))) (rW (dn ..) (UT _)) (BM.trans (Qg (λvs=>some (O.list vs)) hmm)) (o0 _) λL1 F1=>?_
 ·show (aM _ eb L _).bind _=_;refine rW (aN (QG.g (i:=20) rfl) ..) ?_;show some (V.int ((P1.map cA).length:Nat),_)=_;exact rW bA rfl
 have F1:Fs σ.length L1 (SL σ.length (zo P1) PR PP):=F1;refine pP (s:=sK PP PR P1) F1 rfl (Ao (a1:=.str iu) aD (aN (F1.g (i:=16) rfl)) (aN (F1.g (i:=16) rfl)) (aN (F1.g (i:=87) rfl)) (aN (F1.g (i:=20) rfl)) (a6:=.str []) aD rfl) (aH hl (by decide)) (KY (i:=16) (A:=Cf) (fs:=SL σ.length (zo P1) PR) (λj=>⟨rfl,rfl,rfl⟩) (λj x L hL hx=>bi (eJ (aN (hL.g (i:=3) rfl)) (aN (hL.g (i:=16) rfl)) hx) bH (Qg some (f7 ..))) rfl F1 λL2 F2=>jt F2 (yQ F2 rfl rfl) (λJ J=>rfl) kk)
end
end
section
noncomputable def Pm:aC:=zB
noncomputable def Pd:aC:=[101,111,102]
noncomputable def OW:PE:=.bm .get (.R [[],[62]] [.i (.str eA),.i (.str bz)]) [.q 98,.i (.str [])]
noncomputable def UL(N:Nat)(P1:aZ)(PR:List bS)(p c st:Nat)(v:aC):aR:=[(3,.str mm),(130,.ref N),(20,fH P1),(87,gp PR),(16,.int (p:Nat)),(98,.str [c]),(131,.str [st]),(27,.str v)]
section
variable {d i p x:Nat}{σ:St}{L:aR}{P0:List c6}{o:aC}{P1:aZ}{PR:List bS}{c:Cx}{K:Fl->aR->St->Prop}{s:St}
theorem xD(h:aJ i L=some (.str o)):bR c (.q i) L s=some (!o.isEmpty,s):=Af h rfl
theorem qL{w kd}(hC:Cs σ)(ho:(o=[]/\w=Bk/\kd=eA)\/(o=[62]/\w=JL/\kd=bz))(ht:PR.length<=5000)(hl:P0.length<=5000)(QG:Fs σ.length L (SL σ.length P1 PR p++[(98,.str o)]))(kk:∀L',K (.ret (.I (.list ((P0++[c6.mk cC p (p+o.length) (PR++[.w w]) P1 kd]).map oZ)))) L' σ):
 W (PT (cD d) (xW.drop 5) σ.length L (hL σ P0)) K:=by
 have SW:∀{y s},bR (cD d) (.E .eq cY (.i (.str y))) L s=some (o==y,s):=λ{y s}=>bi (aN (QG.g (i:=98) rfl)) aD rfl;have hif:∀{L s y z w},aJ 98 L=some (.str o)->(o=[]/\w=z\/o=[62]/\w=y)->aM (cD d) (.ag cY (.i (.str y)) (.i (.str z))) L s=some (.str w,s):=λh ho=>fD (xD h) (λq=>by rcases ho with ⟨rfl,rfl⟩|⟨rfl,rfl⟩<;>first|rfl|exact bU q) λq=>by rcases ho with ⟨rfl,rfl⟩|⟨rfl,rfl⟩<;>first|rfl|exact bU q.symm
 refine iT (sN SW SW |>.trans ?_) (lw (w:=w) hC QG rfl ?_ ht λL1 F1=>pP (s:=c6.mk cC p (p+o.length) (PR++[bS.w w]) P1 kd) F1 rfl (Ao (a1:=.str cC) aD (aN (F1.g (i:=16) rfl)) (j8 (aN (F1.g (i:=16) rfl)) (Dx (aN (F1.g (i:=98) rfl)))) (aN (F1.g (i:=87) rfl)) (aN (F1.g (i:=20) rfl)) (hif (F1.g (i:=98) rfl) ?_) rfl) hl (zV hC F1 rfl λL2=>kk L2))
 ·clear kk QG SW;clear hif;rcases ho with ⟨rfl,_⟩|⟨rfl,_⟩<;>rfl
 ·clear kk SW;rcases ho with ⟨rfl,rfl,_⟩|⟨rfl,rfl,_⟩
  ·exact iw (x:=Dc) (y:=Pd) aD (hif (QG.g (i:=98) rfl) (.inl ⟨rfl,rfl⟩)) (by decide)
  ·exact iw (x:=Dc) (y:=Pm) aD (hif (QG.g (i:=98) rfl) (.inr ⟨rfl,rfl⟩)) (by decide)
 ·exact ho.imp (λh=>⟨h.1,h.2.2⟩) λh=>⟨h.1,h.2.2⟩
theorem EM{x}(h:aJ 98 L=some (.str (kA x))):aM c OW L s=some (.str (mA x),s++[.dict [([],.str eA),([62],.str bz)]]):=by
 unfold OW;refine rW (jI ..) (rW (show aM c (.R [[],[62]] [.i (.str eA),.i (.str bz)]) L s=some (.ref s.length,s++[.dict [([],.str eA),([62],.str bz)]]) from rfl ..) (rW aS ?_));have hd:eF (s++[.dict [([],.str eA),([62],.str bz)]]) (.ref s.length)=true:=by show (match (s++[O.dict [([],.str eA),([62],.str bz)]])[s.length]? with|some o=>KZ o|none=>false)=true;exact rW (bh ..) rfl
 show (bif eF (s++[.dict [([],.str eA),([62],.str bz)]]) (.ref s.length) then (Qc c [.q 98,.i (.str [])] L (s++[.dict [([],.str eA),([62],.str bz)]])).bind _ else none)=_;refine rW hd (rW (cond_true ..) (rW (ed (aN h) aD ..) (rW aS ?_)));show (((s++[O.dict [([],.str eA),([62],.str bz)]])[s.length]?).bind _)=_;refine rW (bh ..) ?_;show some ((bM (kA x) [([],V.str eA),([62],.str bz)]).getD (.str []),_)=_;clear h hd;induction x with
 |none=>rfl
 |some y=>
  show some ((if ([]:aC)=[y] then some (V.str eA) else if [62]=[y] then some (V.str bz) else none).getD (.str []),_)=some (V.str (if y=62 then bz else []),_);refine rW (T8 λh=>by cases h ..) ?_;by_cases hy:y=62
  ·subst hy;exact rW (T6 rfl ..) (rW (T6 rfl ..) rfl)
  ·exact rW (T8 λh=>hy (U5 h).1.symm ..) (rW (T8 hy ..) rfl)
theorem Oh(h:aJ i L=some (.str [x])){l:aC}{es}(he:aM c (.H es) L s=some (.I (.tuple (l.map λx=>.str [x])),s)):bR c (.E .U (.q i) (.H es)) L s=some (l.contains x,s):=bi (aN h) he (ie x l)
theorem Lu{y}(h:aJ i L=some (.str [x])):bR c (.E .eq (.q i) (.i (.str [y]))) L s=some (x==y,s):=bi (aN h) aD (Qg some (cw x y))
theorem Ls{l:aC}{P}[Decidable P](h:x∈l↔P):l.contains x=decide P:=rW (List.contains_eq_mem ..) (decide_eq_decide.mpr h)
theorem Ep(hC:Cs σ)(ht:PR.length<=5000)(hr:P1.length<=5000)(hl:P0.length<=5000)(hF:Fs σ.length L (SL σ.length (P1++[(o,[])]) PR p++[(98,.str [x])]))(kk:∀L',Fs σ.length L' (UL σ.length (P1++[(o,kI x)]) (PR++yF x) p x (gn x) (kI x)++[(86,.int ((p+xv x:Nat):Int)),(9,.int ((p+xv x:Nat):Int))])->W (PT (cD d) (xW.drop 14) σ.length L' (hL σ (P0++[c6.mk cC p (p+xv x) (PR++yF x) (P1++[(o,kI x)]) []]))) K):
 W (PT (cD d) (xW.drop 6) σ.length L (hL σ P0)) K:=by
 have c2:([34,39]:aC).contains x=decide (x=34\/x=39):=Ls (by simp);have c3:([34,39,38]:aC).contains x=decide (x=34\/x=39\/x=38):=Ls (by simp);refine jt (v:=.str [gn x]) hF (fD (Oh (l:=[34,39]) (hF.g (i:=98) rfl) rfl) (λh=>?_) λh=>?_) (λJ J=>rfl) λL6 F6=>jt (v:=.str (kI x)) F6 (fD (Oh (l:=[34,39,38]) (F6.g (i:=98) rfl) rfl) (λh=>?_) λh=>fD (Lu (F6.g (i:=98) rfl)) (λh2=>?_) λh2=>?_) (λJ J=>rfl) λL7 F7=>?_
 ·rw[c2]at h;unfold gn;exact rW (T6 (T9 h) ..) (aN (hF.g rfl))
 ·rw[c2]at h;unfold gn;exact rW (T8 (of_decide_eq_false h) ..) aD
 ·rw[c3]at h;unfold kI;exact rW (T6 (T9 h) ..) aD
 ·rw[c3]at h;unfold kI;exact rW (T8 (of_decide_eq_false h) ..) (rW (T6 (eq_of_beq h2) ..) aD)
 ·rw[c3]at h;unfold kI;exact rW (T8 (of_decide_eq_false h) ..) (rW (T8 (ne_of_beq_false h2) ..) (aN (F6.g rfl)))
 clear hF c2 c3;have F7:Fs σ.length L7 (UL σ.length (P1++[(o,[])]) PR p x (gn x) (kI x)):=F7;have SW:aJ 98 L7=some (.str [x]):=F7.g rfl;have k8:∀L8,Fs σ.length L8 (UL σ.length (P1++[(o,[])]) (PR++yF x) p x (gn x) (kI x))->W (PT (cD d) (xW.drop 9) σ.length L8 (hL σ P0)) K:=λL8 F8=>by
  refine qv (c:=cD d) (P0:=P0) (P1:=P1) (k:=o) (v:=[]) (v':=kI x) F8 rfl rfl hr λτ e9 g9=>lK hC F8 e9 (bC _ 2) g9 (o0 _) λL9 F9=>?_;have F9:Fs σ.length L9 (UL σ.length (P1++[(o,kI x)]) (PR++yF x) p x (gn x) (kI x)):=F9;refine jt (v:=.int ((p+xv x:Nat):Int)) F9 (j8 (q:=(xv x:Nat)) (aN (F9.g (i:=16) rfl)) (fD (Lu (F9.g (i:=98) rfl)) (λh=>?_) λh=>?_)) (λJ J=>rfl) λL11 S8=>pP (s:=c6.mk cC p (p+xv x) (PR++yF x) (P1++[(o,kI x)]) []) S8 rfl (Ao (a1:=.str cC) aD (aN (S8.g (i:=16) rfl)) (aN (S8.g (i:=86) rfl)) (aN (S8.g (i:=87) rfl)) (aN (S8.g (i:=20) rfl)) (a6:=.str []) aD rfl) hl (jt S8 (aN (S8.g (i:=86) rfl)) (λJ J=>rfl) kk)
  ·unfold xv;exact rW (T6 (eq_of_beq h) ..) aD
  ·unfold xv;exact rW (T8 (ne_of_beq_false h) ..) aD
 clear kk;unfold yF at k8;refine iB (Lu (y:=0) SW) (λh=>?_) λh=>iB (x:=Jy x) (bi (aN SW) (b:=.I (.tuple [.str [61],.str [60],.str [96]])) rfl rfl) (λhb=>?_) λhb=>nW (nW ?_)
 ·rw[T6 (eq_of_beq h)]at k8;exact lw hC F7 (PR:=PR) rfl aD ht λL8 F8=>nW (k8 L8 F8)
 ·rw[T8 (ne_of_beq_false h),hb]at k8;exact lw hC F7 (PR:=PR) rfl aD ht λL8 F8=>nW (nW (k8 L8 F8))
 ·rw[T8 (ne_of_beq_false h),hb,cond_false,bX]at k8;exact k8 L7 F7
end
end
section
theorem ID{PO}(hs:i4 PO):CK (.dict [([34],.str Jj),([39],.str Jg),([62],.str Ju)]) (.str [PO])=some (.str (wm PO)):=by rcases hs with rfl|rfl|rfl<;>rfl
noncomputable def OI:List PS:=match (xW[26]? : Option PS) with|some (PS.ifs _ b _)=>b|_=>[]
noncomputable def OU:aC:=t7
noncomputable def Oi:aC:=[69,79,70]
section
variable {d N i p x fi en PO pl first e:Nat}{σ:St}{L:aR}{P0:List c6}{o v:aC}{P1:aZ}{PR:List bS}{c:Cx}{K:Fl->aR->St->Prop}{s:St}
theorem Go{l y us ws}(h1:aM c l L s=some (.I (.list us),s))(h2:aM c y L s=some (.ref s.length,s++[.list ws]))(hl:(us++ws).length<=a8):aM c (.J .add l y) L s=some (.ref (s.length+1),s++[.list ws,.list (us++ws)]):=by refine jz h1 h2 ?_;show (((s++[O.list ws])[s.length]?).bind λp=>pZ (.list us) p _)=_;refine rW (bh ..) ?_;show bO (us++ws) _=_;exact rW (bx hl ..) (rW b9 (rW aP rfl))
theorem Et(hC:Cs σ)(hs:i4 PO)(TU:fi<=mm.length)(ht:PR.length<=4000)(hr:P1.length<=5000)(hl:P0.length<=5000)(hv:v.length<=10)(QG:Fs σ.length L (UL σ.length (P1++[(o,v)]) PR p x PO v++[(86,.int (fi:Nat)),(9,.int (fi:Nat))]))(R2:en=fi+(bT PO (mm.drop fi)).length){t2:List bS}(Qe:PR++(rd PO (bT PO (mm.drop fi))).2++Ej PO mm[en]? = t2){va:aC}(hva:v++(rd PO (bT PO (mm.drop fi))).1=va)
 (kk:∀L' f',Fs σ.length L' (VL σ.length (P1++[(o,va)]) (en+(kA mm[en]?).length) PO en t2 va f'++[(98,.str (kA mm[en]?)),(4,.str (mA mm[en]?))])->W (PT (cD (d+2)) (xW.drop 25) σ.length L' (hL σ (P0++[c6.mk [PO] en (en+(kA mm[en]?).length) t2 (P1++[(o,va)]) (mA mm[en]?)]))) K):
 W (PT (cD (d+2)) (xW.drop 14) σ.length L (hL σ P0)) K:=by
 have Qi:(bT PO (mm.drop fi)).length<=mm.length-fi:=by exact rW bV.symm ((Uy (p:=pn PO)).length_le)
 have hem:en<=mm.length:=aF (xg 0x211b2141311114183130184211 rfl (aU R2 :) (pL (aF (cV 0x11b2111011 rfl TU))) Qi);obtain ⟨b1,b2⟩:=lU (PO:=PO) _ (bT PO (mm.drop fi)) (aQ _);have hm:=cS;have R':bT PO (mm.drop fi)=(mm.drop fi).take (en-fi):=by exact rW R2 (rW (Nat.add_sub_cancel_left ..) ((lu _).symm))
 have RL:(PR++(rd PO (bT PO (mm.drop fi))).2).length<=5000:=rW aP (aF (xg 0x4118413887b6101312c8730122029441131212fa074111 rfl ht Qi b2 hm (UQ _ _)));have Q7:(v++(rd PO (bT PO (mm.drop fi))).1).length<=5000:=rW aP (aF (xX 0x5218413887b61c873111113113140184141511a72211 rfl hv b1 (aU R2.symm :) hem hm));clear Qi b1 b2 hm TU ht hv;refine KY (i:=9) (A:=pn PO) (fs:=λj=>UL σ.length (P1++[(o,v)]) PR p x PO v++[(86,.int (fi:Nat)),(9,.int (j:Nat))]) (λj=>⟨rfl,rfl,rfl⟩) (λj y L TW hy=>bi (eJ (aN (TW.g (i:=3) rfl)) (aN (TW.g (i:=9) rfl)) hy) (b:=.str (w6 PO)) (fD (Lu (TW.g (i:=131) rfl)) (λh=>?_) λh=>?_) (Qg (Option.map _) (Qg some (f7 ..)))) rfl QG λL1 F1=>?_
 ·clear TW Q7 RL R' kk hva Qe R2 QG hs;obtain rfl:=eq_of_beq h;exact iw (x:=[32,10,9,12]) (y:=[62]) bH aD (by decide)
 ·unfold w6;exact rW h (aN (TW.g (i:=131) rfl))
 have F1:Fs σ.length L1 (UL σ.length (P1++[(o,v)]) PR p x PO v++[(86,.int (fi:Nat)),(9,.int (en:Nat))]):=R2▸F1;clear QG R2;refine Lv hC hem R' RL Q7 (PR:=PR) (v:=v) (P1:=P1++[(o,v)]) (PP:=p) (.cons (F1.g (i:=3) rfl) (F1.cl (i:=3) rfl)<|.cons (F1.g (i:=130) rfl) (F1.cl (i:=130) rfl)<|.cons (F1.g (i:=20) rfl) (F1.cl (i:=20) rfl)<|.cons (F1.g (i:=16) rfl) (F1.cl (i:=16) rfl)<|.cons (F1.g (i:=131) rfl) (F1.cl (i:=131) rfl)<|.cons (F1.g (i:=9) rfl) (F1.cl (i:=9) rfl)<|.cons (F1.g (i:=87) rfl) (F1.cl (i:=87) rfl)<|.cons (F1.g (i:=27) rfl) (F1.cl (i:=27) rfl)<|.cons (F1.g (i:=86) rfl) (F1.cl (i:=86) rfl) .nil) λL2 f' F2=>?_;clear F1 R' Q7 hem;subst hva;generalize v++(rd PO (bT PO (mm.drop fi))).1=va at *;generalize PR++(rd PO (bT PO (mm.drop fi))).2=t1 at *;refine qv (c:=cD (d+2)) (P0:=P0) (P1:=P1) (k:=o) (v:=v) (v':=va) F2 rfl rfl hr λτ e16 g16=>lK hC F2 e16 (bC _ 2) g16 (o0 _) λL3 F3=>jt F3 (yQ (PP:=en) F3 rfl rfl) (λJ J=>rfl) λL4 F4=>BJ hC F4 (EM (F4.g (i:=98) rfl)) (λJ J=>rfl) λL5 F5=>?_;have F5:Fs σ.length L5 (VL σ.length (P1++[(o,va)]) p PO en t1 va f'++[(98,.str (kA mm[en]?)),(4,.str (mA mm[en]?))]):=F5;clear F4 F3 F2 g16 e16 τ;have SG:aJ 98 L5=some (.str (kA mm[en]?)):=F5.g rfl;have e21:aM (cD (d+2)) (.ag cY dD (.Q [.H [.sub (.call 794 []) gH,.i (.int 0)]])) L5 (hL σ P0)=some (.ref (hL σ P0).length,hL σ P0++[.list ((Ej PO mm[en]?).map dE)]):=by
  refine fD (xD SG) (λh=>?_) λh=>?_
  ·generalize hx:mm[en]? = z4;induction z4 with
   |none=>rw[hx]at h;exact bU h
   |some y=>exact nilE
  ·generalize hx:mm[en]? = z3;induction z3 with
   |some y=>rw[hx]at h;exact bU h.symm
   |none=>refine s6 (dh (jS (ed (v:=.str (wm PO)) (rW (cu ..) (rW (fQ rfl (MF (d:=d+1) (hC.c1 P0)) ..) (rW aS ?_))) aD) rfl)) (show 1<=a8 by decide);show Option.bind (aM (cD (d+2)) gH L5 (hL σ P0)) _=_;exact rW (aN (F5.g (i:=131) rfl) ..) (Qg (Option.map _) (ID hs))
 have hml:(Ej PO mm[en]?).length<=1:=by
  generalize mm[en]? = z2;induction z2 with
  |none=>exact aQ _
  |some y=>exact bu _
 generalize Ej PO mm[en]? = fl at *;have ec:=Go (aN (F5.g (i:=87) rfl)) e21 (rW aP (rW bA (rW bA (aH (Nat.add_le_add RL hml) (by decide)))));rw[<-ba,Qe]at ec;refine lK hC F5 ec (rW (dn ..) (UT _)) BM (kR _) λL6 F6=>jt (v:=.int ((en+(kA mm[en]?).length:Nat):Int)) F6 (j8 (aN (F6.g (i:=9) rfl)) (Dx (aN (F6.g (i:=98) rfl)))) (λJ J=>rfl) λL7 F7=>pP (s:=c6.mk [PO] en (en+(kA mm[en]?).length) t2 (P1++[(o,va)]) (mA mm[en]?)) F7 rfl (Ao (aN (F7.g (i:=131) rfl)) (aN (F7.g (i:=9) rfl)) (aN (F7.g (i:=16) rfl)) (aN (F7.g (i:=87) rfl)) (aN (F7.g (i:=20) rfl)) (aN (F7.g (i:=4) rfl)) rfl) hl (kk _ _ F7)
theorem K'{y}(h:Fs N L (VL N P1 pl PO e PR v first++y)):Fs N L (SL N P1 PR pl):=
 let h:=h.drop
 .cons (h.g (i:=3) rfl) (h.cl (i:=3) rfl)<|.cons (h.g (i:=130) rfl) (h.cl (i:=130) rfl)<|.cons (h.g (i:=20) rfl) (h.cl (i:=20) rfl)<|.cons (h.g (i:=87) rfl) (h.cl (i:=87) rfl)<|.cons (h.g (i:=16) rfl) (h.cl (i:=16) rfl) .nil
theorem GF(hC:Cs σ)(ht:PR.length<=5000)(hl:P0.length<=5000){k4}(hF:Fs σ.length L (VL σ.length P1 pl PO e PR v first++[(98,.str o),(4,.str k4)]))
 (kk:∀q,mm[pl]? = q->∀L',Fs σ.length L' (VL σ.length P1 (pl+bif cN q then 1 else 0) PO e (PR++bif cN q then [] else [.w (wT q)]) v first)->match mA q with|[]=>K .next L' (hL σ (P0++[c6.mk c7 pl (pl+bif cN q then 1 else 0) (PR++bif cN q then [] else [.w (wT q)]) P1 []]))|k=>∀L2,K (.ret (.I (.list ((P0++[c6.mk c7 pl (pl+bif cN q then 1 else 0) (PR++bif cN q then [] else [.w (wT q)]) P1 k]).map oZ)))) L2 σ):
 W (PT (cD d) OI σ.length L (hL σ P0)) K:=by
 refine jt hF (yQ (PP:=pl) hF rfl rfl) (λJ J=>rfl) λL0 F0=>?_;have F0:Fs σ.length L0 (VL σ.length P1 pl PO e PR v first++[(98,.str (kA mm[pl]?)),(4,.str k4)]):=F0;have kk:=kk mm[pl]? rfl;generalize mm[pl]? = q at *;refine jt (v:=.bool (cN q)) F0 ?_ (λJ J=>rfl) λL1 F1=>?_
 ·have e2:∀{s},aM (cD d) (.J .add vN (.i (.str [47,62]))) L0 s=some (.str [32,10,9,12,47,62],s):=λ{s}=>iw (x:=[32,10,9,12]) (y:=[47,62]) bH aD (by decide);have SG:aJ 98 L0=some (.str (kA q)):=F0.g rfl;clear F0 kk;clear F0 kk;induction q with
  |none=>exact GZ (p:=false) (q:=false) (lO (aN SG) aD rfl) λh=>bU h
  |some y=>exact GZ (p:=true) (lO (aN SG) aD rfl) λJ=>lO (aN SG) e2 (Qg some (f7 ..))
 have F1:Fs σ.length L1 (VL σ.length P1 pl PO e PR v first++[(98,.str (kA q)),(4,.str k4),(133,.bool (cN q))]):=F1;clear F0 hF;have Tq:∀{L s b},aJ 133 L=some (.bool b)->bR (cD d) (.q 133) L s=some (b,s):=λh=>Af h rfl;have k3:∀L2,Fs σ.length L2 (VL σ.length P1 pl PO e (PR++bif cN q then [] else [.w (wT q)]) v first++[(98,.str (kA q)),(4,.str k4),(133,.bool (cN q))])->W (PT (cD d) (OI.drop 3) σ.length L2 (hL σ P0)) K:=λL2 F2=>by
  clear F1;generalize PR++(bif cN q then [] else [bS.w (wT q)])=Qu at *;refine BJ hC F2 (EM (F2.g (i:=98) rfl)) (λJ J=>rfl) λL3 F3=>?_;have F3:Fs σ.length L3 (VL σ.length P1 pl PO e Qu v first++[(98,.str (kA q)),(4,.str (mA q)),(133,.bool (cN q))]):=F3;have ei:∀{s},aM (cD d) (.ag (.q 133) cb cI) L3 s=some (.int ((bif cN q then 1 else 0:Nat):Int),s):=λ{s}=>fD (Tq (F3.g (i:=133) rfl)) (λh=>rW h rfl) λh=>rW h rfl;have t6:∀{s},bR (cD d) iz L3 s=some (!(mA q).isEmpty,s):=xD (F3.g (i:=4) rfl);have F4:=F3.put (i:=16) (v:=.int ((pl+bif cN q then 1 else 0:Nat):Int)) λJ=>rfl;have kk:=kk _ F4.drop;refine pP (s:=c6.mk c7 pl (pl+bif cN q then 1 else 0) Qu P1 (mA q)) F3 rfl (Ao (a1:=.str c7) aD (aN (F3.g (i:=16) rfl)) (j8 (aN (F3.g (i:=16) rfl)) ei) (aN (F3.g (i:=87) rfl)) (aN (F3.g (i:=20) rfl)) (aN (F3.g (i:=4) rfl)) rfl) hl ?_;generalize mA q=kd at *;induction kd with
  |nil=>exact iN t6 (sW (L1:=aX 16 (.int ((pl+bif cN q then 1 else 0:Nat):Int)) L3) (rW (eT ..) (rW (F3.g (i:=16) rfl ..) (rW aS (rW ei rfl)))) (nW kk))
  |cons y r=>exact iT t6 (zV hC F3 rfl kk)
 have t2:bR (cD d) (.ah (.q 133)) L1 (hL σ P0)=some (!cN q,hL σ P0):=Ak (Tq (F1.g (i:=133) rfl));clear kk;clear F1 F0 kk;generalize hb:cN q=z1;induction z1 with
 |true=>rw[hb,cond_true,bX]at k3;rw[hb]at t2 F1;exact iN t2 (k3 _ F1)
 |false=>
  rw[hb,cond_false]at k3;rw[hb]at t2 F1;refine iT t2 (lw hC F1 rfl ?_ ht λL2 F2=>nW (k3 L2 F2));have SG:aJ 98 L1=some (.str (kA q)):=F1.g rfl;clear hb k3 F1;induction q with
  |none=>exact iw (x:=Ji++Oi) (y:=Mb) (iw (x:=Ji) (y:=Oi) aD (fD (xD SG) (λh=>bU h) λJ=>aD) (by decide)) aD (by decide)
  |some y=>exact iw (x:=Ji++OU) (y:=Mb) (iw (x:=Ji) (y:=OU) aD (fD (xD SG) (λJ=>aD) λh=>bU h.symm) (by decide)) aD (by decide)
end
end
section
section
variable {d n PP x:Nat}{σ s:St}{L:aR}{P0:List c6}{P1:aZ}{PR:List bS}{K:Fl->aR->St->Prop}{Q:V->St->Prop}
theorem la(c:Nat):i4 (gn c):=by
 unfold gn;by_cases h:c=34\/c=39
 ·exact rW (T6 h ..) (h.elim .inl λh=>.inr (.inl h))
 ·exact rW (T8 h ..) (.inr (.inr rfl))
theorem nA(hp:PP<=mm.length):PP<=bp PP/\bp PP<=mm.length:=by have:=(Uy (p:=Cf) (l:=mm.drop PP)).length_le;rw[bV]at this;unfold bp;exact ⟨aF (cV 0x11018b51 rfl ),aF (mD 0x201841b21312111131831 rfl (pL (aF (cV 0x11b2111011 rfl hp))) this)⟩
theorem mf(hp:PP<=mm.length)(hx:mm[bp PP]? = some x):vc PP x<=mm.length/\PP<=vc PP x/\dL PP x<=mm.length/\(uN PP x).length+PP<=dL PP x:=by
 have h1:=nA hp;have h2:=(bY.mp hx).1;have h3:xv x<=1:=by unfold xv;by_cases h:x=38<;>simp[h]
 have h4:vc PP x<=mm.length/\PP<=vc PP x:=by unfold vc;exact ⟨aF (c9 0x21184b11a1211011b21 rfl h2 h3),aF (c9 0x12118b5111011 rfl h1.1)⟩
 have:=(Uy (p:=pn (gn x)) (l:=mm.drop (vc PP x))).length_le;rw[bV]at this;have h5:(uN PP x).length<=mm.length-vc PP x:=this;unfold dL;exact ⟨aF (cV 0x11b1101111 rfl h4.1),⟨aF (cV 0x11b2111011 rfl h4.2),⟨aF (mD 0x31184b112131101121841 rfl (pL (aF (cV 0x11b1101111 rfl h4.1))) h5),aF (c9 0x21832118b5111011 rfl h4.2)⟩⟩⟩
theorem oy:(yF x).length<=1:=by
 unfold yF;by_cases h:x=0
 ·exact rW (T6 h ..) (aQ _)
 ·refine rW (T8 h ..) ?_;generalize Jy x=z8;induction z8 with
  |true=>exact aQ _
  |false=>exact bu _
theorem uA:(kI x).length<=10:=by
 unfold kI;by_cases g1:x=34\/x=39\/x=38
 ·exact rW (T6 g1 ..) (bu _)
 ·refine rW (T8 g1 ..) ?_;by_cases g2:x=0
  ·exact rW (T6 g2 ..) (Nat.le_add_left 1 9)
  ·exact rW (T8 g2 ..) (Nat.le_add_left 1 9)
theorem gU:(nQ PP PR x).length<=PR.length+2+2*(uN PP x).length:=by
 have h1:=(lU (PO:=gn x) _ (uN PP x) (aQ _)).2;have h2:=oy (x:=x);have h3:(Ej (gn x) mm[dL PP x]?).length<=1:=by
  generalize mm[dL PP x]? = z7;induction z7 with
  |none=>exact aQ _
  |some y=>exact bu _
 unfold nQ Ci;exact rW aP (rW aP (rW aP (aF (xg 0x324184868910292741858bc1a1311a121110294011 rfl h1 h2 h3))))
theorem HK(n:Nat):(ky n).length<=10:=by unfold ky;refine m4 ?_ ?_ ?_ ?_ n<;>decide
theorem J1{v}(h:∀p∈P1,p.1.length<=10):∀p∈P1++[(ky P1.length,v)],p.1.length<=10:=λp hp=>by
 rcases List.mem_append.mp hp with hp|hp
 ·exact h p hp
 ·obtain rfl:=cP.mp hp;exact HK _
inductive TI(σ:St):Nat->aR->St->Prop
 |mk {PP:Nat}{PR:List bS}{P1:aZ}{P0:List c6}{L:aR}:Sz PP PR P1->P0.length<=4*PP->Fs σ.length L (SL σ.length P1 PR PP)->(∀l,jv PP PR P1 l->jv 0 [] [] (P0++l))->TI σ (mm.length-PP) L (hL σ P0)
theorem turn(hC:Cs σ)(h:TI σ n L s)(k1:∀l,jv 0 [] [] l->∀L',K (.ret (.I (.list (l.map oZ)))) L' σ)(k2:∀m,m<n->∀L s,TI σ m L s->K .next L s):W (PT (cD (d+2)) xW σ.length L s) K:=by
 induction h with|@mk PP PR P1 P0 _ Z hl QG hS=>
 have hp:=Z.p;have hr:=Z.r;have ht:=Z.t;have hm:=cS;have RL:∀{a:c6},(P0++[a]).length=P0.length+1:=aP;have Q7:∀{a b:c6},(P0++[a]++[b]).length=P0.length+2:=λ{a b}=>rW aP (rW RL rfl);have hl3:∀{a b c:c6},(P0++[a]++[b]++[c]).length=P0.length+3:=λ{a b c}=>rW aP (rW Q7 rfl);refine HN hC (aF (c9 0x211f47b51c8731111101101211 rfl hr hp hm)) (aF (c9 0x1fa07b51c8732142111410494011 rfl hl hp hm)) QG λL1 F1=>?_;clear QG;generalize hx:mm[bp PP]? = z6;induction z6 with
 |none=>rw[hx]at F1;have hS:=hS _ (.eof Z hx);rw[UN]at hS;exact qL (kd:=eA) hC (.inl ⟨rfl,rfl,rfl⟩) (aF (c9 0x2113887b61c87311311013392211 rfl ht hp hm)) (rW RL (aF (c9 0xb113887b61c8732142111410494011 rfl hl hp hm))) F1 (k1 _ hS)
 |some x=>
  rw[hx]at F1;by_cases QH:x=62
  ·subst QH;have hS:=hS _ (.gt Z hx);rw[UN]at hS;exact qL (kd:=bz) hC (.inr ⟨rfl,rfl,rfl⟩) (aF (c9 0x2113887b61c87311311013392211 rfl ht hp hm)) (rW RL (aF (c9 0xb113887b61c8732142111410494011 rfl hl hp hm))) F1 (k1 _ hS)
  obtain ⟨q1,q2,q3,q4⟩:=mf hp hx;have Rf:=gU (PP:=PP) (x:=x) (PR:=PR);refine iN (mC (bi (aN (F1.g (i:=98) rfl)) aD rfl) ((Lu (F1.g (i:=98) rfl)).trans (Qg (λb=>some (b,_)) (T7 QH)))) (Ep hC (aF (c9 0x2113887b61c87311311013392211 rfl ht hp hm)) (aF (c9 0x2113887b61c8731111101101211 rfl hr hp hm)) (rW RL (aF (c9 0xb113887b61c8732142111410494011 rfl hl hp hm))) F1 λL2 F2=>Et (fi:=vc PP x) (en:=dL PP x) (va:=kI x++(rd (gn x) (uN PP x)).1) hC (la x) q1 (by refine rW aP ?_;have:=oy (x:=x);exact aF (mD 0x32184fa07b51a1311c87311339221111013 rfl hp ht hm this)) (aF (c9 0x2113887b61c8731111101101211 rfl hr hp hm)) (rW Q7 (aF (c9 0x27018513887b61c8732142111410494011 rfl hl hp hm))) uA F2 rfl (t2:=nQ PP PR x) rfl rfl λL3 f' F3=>?_);clear F1 hp q1 q2;have TD:(Bb PP P1 x).length=P1.length+1:=aP;have t4:∀{s},bR (cD (d+2)) iz L3 s=some (!(mA mm[dL PP x]?).isEmpty,s):=xD (F3.g (i:=4) rfl);have e4:sV PP PR P1 x=⟨[gn x],dL PP x,dL PP x+(kA mm[dL PP x]?).length,nQ PP PR x,Bb PP P1 x,mA mm[dL PP x]?⟩:=rfl;generalize hk:mA mm[dL PP x]? = z5;induction z5 with
  |cons a r=>have hS:=hS _ (.vend Z hx QH (rW hk (λe=>by cases e)));rw[UN,UN,e4,hk]at hS;rw[hk]at t4;exact iT t4 (zV hC F3 rfl (k1 _ hS))
  |nil=>
  generalize hy:mm[dL PP x]? = z4;induction z4 with
  |none=>rw[hy]at hk;cases hk
  |some y=>
  have Se:y≠62:=λe=>by rw[hy,e]at hk;cases hk
  have Qf:=(bY.mp hy).1;rw[hk]at t4;have e5:dL PP x+(kA mm[dL PP x]?).length=dL PP x+1:=rW hy rfl;rw[hk,e5]at e4;rw[hy]at F3;refine iN t4 (iB (x:=!(gn x==62)) (bi (aN (F3.g (i:=131) rfl)) aD (Qg (λb=>some (!b)) (cw (gn x) 62))) (λh=>?_) λh=>nW (nW ?_))
  ·have h:gn x≠62:=λe=>by rw[e]at h;exact bU h
   refine GF (pl:=dL PP x+1) hC (aF (xX 0x5113887b6140292711858b511314183321313c873213392111 rfl ht hm q3 q4 Rf)) (rW hl3 (aF (xg 0x37018513887b613114184421314c87321410494011 rfl hl hm q3 q4))) F3 λq hq L4 F4=>?_;have e6:sA PP PR P1 x=⟨c7,dL PP x+1,dL PP x+1+(bif cN q then 1 else 0),nQ PP PR x++bif cN q then [] else [.w (wT q)],Bb PP P1 x,mA q⟩:=rW hq.symm rfl;generalize SB:mA q=z3;induction z3 with
   |cons a r=>have hS:=hS _ (.qend Z hx QH hy Se h (rW hq (rW SB (λe=>by cases e))));rw[UN,UN,UN,e4,e6,SB]at hS;exact k1 _ hS
   |nil=>
    induction q with
    |none=>cases SB
    |some y2=>
    have TL:=(bY.mp hq).1;have hS:=λl hl=>hS _ (.qgo (l:=l) Z hx QH hy Se h (rW hq (rW SB rfl)) hl);rw[e4,e6,SB]at hS;unfold Mg at hS;rw[hq]at hS;have Sw:(bif cN (some y2) then 1 else 0)<=1:=by generalize cN (some y2)=z2;induction z2<;>decide
    have h3l:(nQ PP PR x++bif cN (some y2) then [] else [bS.w (wT (some y2))]).length<=(nQ PP PR x).length+1:=by
     refine rW aP ?_;generalize cN (some y2)=z1;induction z1 with
     |true=>exact UT _
     |false=>exact aQ _
    generalize nQ PP PR x++(bif cN (some y2) then [] else [bS.w (wT (some y2))])=t3 at *;generalize (bif cN (some y2) then 1 else 0)=k at *;refine nW (k2 _ ?_ _ _ (.mk (PP:=dL PP x+1+k) (PR:=t3) (P1:=Bb PP P1 x) ⟨?_,?_,?_,J1 Z.k⟩ ?_ (K' (y:=[]) F4) λl hl=>?_))
    ·exact Uo (OR 0x51611213183161831111142b2851881 rfl (pL (aF (c9 0x21b285b11a1211011bb31 rfl TL Sw))) (Cg _ _) q4)
    ·exact aF (c9 0x21b285b11a1211011bb31 rfl TL Sw)
    ·exact aF (xX 0x4152b28b612131831011111b2411 rfl (aU TD :) hr q4)
    ·exact aF (OR 0x5162b28039b91213183339211130292711858b4114b2511 rfl h3l Rf ht q4)
    ·refine rW aP (rW hl3 ?_);show _+3+1<=_;exact aF (xg 0x37018b642b28049b912113184410494011 rfl hl q4)
    ·have hS:=hS _ hl;rwa [UN,UN,UN,UN]at hS
  ·have h:gn x=62:=by cases hh:gn x==62 with|true=>exact eq_of_beq hh|false=>rw[hh]at h;exact bU h.symm
   refine k2 _ ?_ _ _ (.mk (PP:=dL PP x+1) (PR:=nQ PP PR x) (P1:=Bb PP P1 x) ⟨Qf,?_,?_,J1 Z.k⟩ ?_ (K' F3) λl hl=>?_)
   ·exact Uo (xX 0x4151121318315183111112b41851 rfl (pL (aF (cV 0x1b2b11011b21 rfl Qf))) (Cg _ _) q4)
   ·exact aF (xg 0x412bb312131831011111b2411 rfl (aU TD :) hr q4)
   ·exact aF (xg 0x412b039b61213183339211130292711858b411 rfl Rf ht q4)
   ·exact rW hl3 (aF (mD 0x3701852b049b612113184410494011 rfl hl q4))
   ·have hS:=hS _ (.usp Z hx QH hy Se h hl);rwa [UN,UN,UN,e4]at hS
theorem MD(hC:Cs σ)(k:∀l,jv 0 [] [] l->Q (.I (.list (l.map oZ))) σ):G (rF (d+3) 829 [.str mm] σ) Q:=by
 have h1:∀{s},aM (cD (d+2)) dD [(3,.str mm)] s=some (.ref s.length,s++[.list []]):=nilE;have n2:(hL σ []++[O.list []]).length=σ.length+2:=rW aP (rW (dn ..) rfl);have n3:(hL σ []++[O.list []]++[O.list []]).length=σ.length+3:=rW aP (rW n2 rfl);have g1:∀{τ},(hL σ []++O.list []::τ)[σ.length+1]? = some (.list []):=λ{τ}=>by refine rW (List.getElem?_append_right (aU dn) ..) (rW (dn ..) (rW (Nat.sub_self ..) ?_));rfl
 have g2:∀{τ},(hL σ []++O.list []::O.list []::τ)[σ.length+2]? = some (.list []):=λ{τ}=>by refine rW (List.getElem?_append_right (by rw[dn];exact UT _) ..) (rW (dn ..) (rW (Nat.add_sub_add_left ..) ?_));rfl
 refine xP ⟨rfl,rfl⟩ rfl (tW (v:=.ref (σ.length+3)) (σ1:=hL σ []++[O.list []]++[O.list []]++[.tuple [.ref σ.length,.ref (σ.length+1),.ref (σ.length+2),.int 0]]) (vs:=[.ref σ.length,.ref (σ.length+1),.ref (σ.length+2),.int 0]) (jS (vs:=[.ref σ.length,.ref (σ.length+1),.ref (σ.length+2),.int 0]) (σ1:=hL σ []++[O.list []]++[O.list []]) ?_ ?_) ?_ rfl ?_)
 ·have e1:aM (cD (d+2)) dD [(3,.str mm)] σ=some (.ref σ.length,hL σ []):=nilE;have e2:=h1 (s:=hL σ []);have e3:=h1 (s:=hL σ []++[.list []]);rw[dn]at e2;rw[n2]at e3;simp only[bF,me,e1,e2,e3,aD,UB]
 ·show some (V.ref (hL σ []++[O.list []]++[O.list []]).length,_)=_;exact rW n3 rfl
 ·refine rW n3.symm ?_;show (Option.bind (_[(hL σ []++[O.list []]++[O.list []]).length]?) nR)=_;exact rW (bh ..) rfl
 ·refine rW b9 (rW b9 (pJ (C6 hC) (x5 (lW (TI σ) (λh=>?_) (Um (aH (UQ mm.length 0) cS) (by decide:200<FU)) (.mk (PP:=0) (PR:=[]) (P1:=[]) (P0:=[]) ⟨bu _,bu _,bu _,λp h=>(US h).elim⟩ (bu _) (.cons rfl (λJ=>rfl)<|.cons (Qg some (fm (Ur _))) (λσ'=>fm (Ur _))<|.cons (Qg some (jw (UT _) g2 λJ J J=>rfl)) (λJ=>rfl)<|.cons (Qg some (jw (aQ _) g1 λJ J J=>rfl)) (λJ=>rfl)<|.cons rfl (λJ=>rfl) .nil) λl hl=>hl)))));exact .mk (v:=true) rfl (turn hC h (λl hl L'=>k l hl) λm hm L s h=>⟨m,hm,h⟩)
end
end
section
noncomputable def Fm:aC->Nat:=λk=>if k=cC then 556 else if k=[34] then 563 else if k=[39] then 570 else if k=[62] then 577 else 584
noncomputable def Kz(k:aC):Prop:=k=cC\/k=[34]\/k=[39]\/k=[62]\/k=c7
section
variable {d n:Nat}{g:G0}{sm tx:O}{kd:aC}{rs:List O}{L:aR}{σ:St}{K:Fl->aR->St->Prop}{Q:V->St->Prop}
theorem J8(hk:Kz kd)(h:G (rF d (Fm kd) [.ref 0] (hS (mo .C) sm tx rs)) Q):G (rF (d+1) 836 [.ref 0,.str kd] (hS (mo .C) sm tx rs)) Q:=by
 have t:∀w:aC,bR (cD d) (.E .eq f9 (.i (.str w))) [(11,.ref 0),(38,.str kd)] (hS (mo .C) sm tx rs)=some (kd==w,hS (mo .C) sm tx rs):=λw=>bi rfl aD rfl;refine xP ⟨rfl,rfl⟩ rfl ?_;rcases hk with rfl|rfl|rfl|rfl|rfl
 ·exact iT (t cC) (rG h)
 ·exact iN (t cC) (iT (t [34]) (rG h))
 ·exact iN (t cC) (iN (t [34]) (iT (t [39]) (rG h)))
 ·exact iN (t cC) (iN (t [34]) (iN (t [39]) (iT (t [62]) (rG h))))
 ·exact iN (t cC) (iN (t [34]) (iN (t [39]) (iN (t [62]) (iT (t c7) (rG h)))))
theorem Gf(f:bS):rF (d+1) 843 [cy f] σ=some (dE f,σ):=
 kX ⟨rfl,rfl⟩ rfl (iN (σ1:=σ) (by induction f<;>rfl) (jD (v:=dE f) (by induction f<;>rfl) ⟨rfl,rfl⟩))
theorem Lz(RS:g.ty=3\/g.ty=4){nm dt}(hg:σ[9]? = some (BU g.ty nm dt)):rF (d+1) 843 [.ref 9] σ=some (.ref 9,σ):=by
 refine kX ⟨rfl,rfl⟩ rfl (iT (bi (a:=.int g.ty) (σ1:=σ) ?_ (b:=.int 7) rfl ?_) (jD rfl ⟨rfl,rfl⟩))
 ·refine rW (cu ..) (rW (aN (v:=.ref 9) rfl ..) (rW aS ?_));show Option.map _ ((σ[9]?).bind λo=>CK o (.str ew))=_;exact rW hg rfl
 ·show some (!(g.ty==7))=_;rcases RS with h|h<;>rw[h]<;>rfl
theorem jU{bind:V->aR->St->Option aR}{PX:St->Bool}{Qt:aR->St->Option (List V×St)}{f:V->V}(hs:PX σ=true):∀(xs:List V) (L:aR),(∀v∈xs,∀L,∃L1,bind v L σ=some L1/\Qt L1 σ=some ([f v],σ))->dc bind PX Qt xs L σ=some (xs.map f,σ):=by
 intro xs;induction xs with
 |nil=>exact λL J=>(fW).trans (T6 hs)
 |cons v vs ih=>intro L h;obtain ⟨L1,h1,h2⟩:=h v (.head _) L;refine rW (eR ..) (rW (T6 hs ..) (rW h1 (rW aS (rW h2 (rW aS ?_)))));show (dc bind PX Qt vs L1 σ).bind _=_;rw[ih L1 λv hv=>h v (.tail _ hv)];rfl
theorem KL{f k}:qO (pG σ (k+2)) (dE f) (dE f)=some true:=by
 induction f with
 |w s=>show (some (s==s)).bind (λx=>((some ((0:Int)==0)).bind λx=>(some true).map λy=>x&&y).map λy=>x&&y)=_;exact rW (Ua ..) rfl
 |n i=>show (some (o9==o9)).bind (λx=>((some (((i:Nat):Int)==((i:Nat):Int))).bind λx=>(some true).map λy=>x&&y).map λy=>x&&y)=_;exact rW (Ua ..) (rW (Ua ..) rfl)
theorem yD{f:V->V->Option Bool}:∀(l:List V),(∀v∈l,f v v=some true)->AY f l l=some true:=by
 intro l;induction l with
 |nil=>exact λJ=>rfl
 |cons v l ih=>intro h;show (f v v).bind (λx=>(AY f l l).map λy=>x&&y)=_;exact rW (h v (.head _) ..) (rW (ih λv hv=>h v (.tail _ hv) ..) rfl)
theorem uQ{a b l}(h1:b6 (cD d) σ a=some (.list l))(h2:mB σ b=some (.list l))(ha:FS a=true\/∃o,a=.I o)(h:∀v∈l,qO (pG σ 12) v v=some true):gV (cD d) σ .ne a b=some false:=by
 have e:Jn (qO (pG σ 12)) (.list l) (.list l)=some false:=by show (if l.length=l.length then (AY (qO (pG σ 12)) l l).map λr=>!r else none)=_;exact rW (T6 rfl ..) (rW (yD l h ..) rfl)
 rcases ha with ha|⟨o,rfl⟩
 ·induction a using V.casesOn with
  |ref x=>show (σ[x]?).bind (λo=>(mB σ b).bind λp=>Jn (qO (pG σ 12)) o p)=_;exact rW (show σ[x]? = some (.list l) from h1 ..) (rW h2 e)
  |_=>exact bU ha
 ·show (mB σ b).bind (λp=>Jn (qO (pG σ 12)) o p)=_;exact rW (show o=O.list l from aK h1 ..) (rW h2 e)
theorem AO(k:aC):∀l:bg,Cm (.str k) (l.map V.str)=some (l.contains k):=by
 intro l;induction l with
 |nil=>exact rfl
 |cons x r ih=>show (some (x==k)).bind _=_;exact rW aS (rW ih (rW (List.contains_cons ..) (rW (show (x==k)=(k==x) from Bool.beq_comm ..) rfl)))
noncomputable def Hy:V->V:=λv=>match v with|.I (.tuple (a::_))=>a|v=>v
noncomputable def O9:List PS:=match (L3.f848[1]? : Option PS) with|some (PS.al _ _ b)=>b|_=>[]
noncomputable abbrev mG(σ:St)(d:aZ):St:=σ++[.list (d.map cA)]
theorem n6{d}:(mG σ d).length=σ.length+1:=aP
theorem vP{l0}{PX:St->Bool}(hC:∀d:aZ,j' (mG σ d))(hs:∀s,PX s=true):∀(l d:aZ) (X:aR),d.length+l.length<=500->(X=[]\/∃a b,X=[(26,V.str a),(27,V.str b)])->(∀X',K .next ((20,fH l0)::(138,.ref σ.length)::X') (mG σ (eH l d))) ->
 W (gv (λv L s=>cU (cD n) s (.many [26,27]) v L) PX (λL s=>PT (cD n) O9 (σ.length+1) L s) (l.map cA) ((20,fH l0)::(138,.ref σ.length)::X) (mG σ d)) K
 |[],d,X,_,_,kk=>E2 (hs _) (kk X)
 |p::l,d,X,hl,hX,kk=>by
  refine J3 (L1:=[(20,fH l0),(138,.ref σ.length),(26,.str p.1),(27,.str p.2)]) (hs _) (by rcases hX with rfl|⟨a,b,rfl⟩<;>rfl) ?_;clear hX;have hd:d.length+1<=500:=aH (UK (cO (bu _)) _) hl;have ih:=λd' h (k:∀X',K .next ((20,fH l0)::(138,.ref σ.length)::X') (mG σ (eH l d')))=>vP (l0:=l0) hC hs l d' [(26,.str p.1),(27,.str p.2)] (aH (Nat.add_le_add_right (h:d'.length<=d.length+1) l.length) (by rw[UA,UJ 1];exact hl)) (.inr ⟨_,_,rfl⟩) k;have hgc:∀{d':aZ}{τ:St},iY (mG σ d'++τ) (σ.length+1)=mG σ d':=λ{d' τ}=>by rw[<-n6 (σ:=σ) (d:=d')];exact eE (hC d')
  have hgl:∀s,gQ s (σ.length+1) [(20,fH l0),(138,.ref σ.length),(26,.str p.1),(27,.str p.2)]=[(20,fH l0),(138,.ref σ.length),(26,.str p.1),(27,.str p.2)]:=λs=>by show [(20,fH l0),(138,rv s (σ.length+1) (.ref σ.length)),(26,V.str p.1),(27,.str p.2)]=_;rw[fm (Ur _)]
  have hg:∀{τ},(mG σ d++τ)[σ.length]? = some (.list (d.map cA)):=λ{τ}=>by rw[List.getElem?_append_left (by rw[n6];exact Ur _)];exact bh
  refine iW (x:=!(d.map (·.1)).contains p.1) (bi (a:=.str p.1) rfl (b:=.ref (mG σ d).length) (σ2:=mG σ d++[.list ((d.map (·.1)).map V.str)]) ?_ ?_) (λhq=>?_) λhq=>nW ?_
  ·rw[eQ,aN (v:=.ref σ.length) rfl,UB];show Option.bind ((((mG σ d)[σ.length]?).bind λo=>gq (.ref σ.length) o)) _=_;rw[show (mG σ d)[σ.length]? = some (.list (d.map cA)) from bh,UB];show Option.bind (dc _ _ _ (d.map cA) [(20,fH l0),(138,.ref σ.length),(26,.str p.1),(27,.str p.2)] (mG σ d)) _=_;rw[jU (f:=Hy) (σ:=mG σ d) (bN.mpr rfl) (d.map cA) _ λv hv L=>by
    obtain ⟨r,_,rfl⟩:=List.mem_map.mp hv;refine ⟨aX 63 (.str r.2) (aX 126 (.str r.1) L),rfl,?_⟩;show mK true (mG σ d) (aM (cD n) (.q 126) (aX 63 (.str r.2) (aX 126 (.str r.1) L)) (mG σ d))=_;rw[aN (bE (by decide) bZ)];rfl,UB]
   show bO ((d.map cA).map Hy) (mG σ d)=_;rw[show (d.map cA).map Hy=(d.map (·.1)).map V.str by rw[Up,Up];rfl,bx (by rw[UC,UC];exact aH (Nat.le_of_succ_le hd) (by decide))]
  ·show ((((mG σ d++[O.list ((d.map (·.1)).map V.str)])[(mG σ d).length]?).bind λo=>OY (.str p.1) o)).map _=_;rw[bh];show (Cm (.str p.1) ((d.map (·.1)).map V.str)).map _=_;rw[AO];rfl
  ·refine eW (mJ (a:=σ.length) (v:=cA p) (σ':=mG σ (d++[p])++[.list ((d.map (·.1)).map V.str)]) rfl hg rfl hg (by rw[UC];exact aH (Nat.le_of_succ_le hd) (by decide)) ?_) (nW (pJ hgc ?_))
   ·rw[List.set_append_left _ _ (by rw[n6];exact Ur _)];show (σ++[O.list (d.map cA)]).set σ.length _++_=σ++[O.list ((d++[p]).map cA)]++_;rw[jc,show (d++[p]).map cA=d.map cA++[cA p] by rw[ba];rfl]
   ·have hq:(d.map (·.1)).contains p.1=false:=by generalize h:(d.map (·.1)).contains p.1=z2;induction z2 with|true=>rw[h]at hq;cases hq|false=>rfl
    show W (PT (cD n) [] _ (gQ _ (σ.length+1) _) _) _;rw[hgl];exact nW (ih _ (aU aP) (by rw[show eH (p::l) d=eH l (if (d.map (·.1)).contains p.1 then d else d++[p]) from rfl,hq]at kk;exact kk))
  ·have hq:(d.map (·.1)).contains p.1=true:=by generalize h:(d.map (·.1)).contains p.1=z1;induction z1 with|true=>rfl|false=>rw[h]at hq;exact bU hq.symm
   refine pJ hgc ?_;show W (PT (cD n) [] _ (gQ _ (σ.length+1) _) _) _;rw[hgl];exact nW (ih _ (UT _) (by rw[show eH (p::l) d=eH l (if (d.map (·.1)).contains p.1 then d else d++[p]) from rfl,hq]at kk;exact kk))
theorem NS{l:aZ}(hC0:j' σ)(hC:∀d:aZ,j' (mG σ d))(hl:l.length<=500):rF (n+1) 848 [fH l] σ=some (fH (eH l []),σ):=by exact kX ⟨rfl,rfl⟩ rfl (aW nilE (Kb (v:=fH l) rfl rfl (rW (show (σ++[O.list []]).length=σ.length+1 from aP ..) (vP hC (λs=>bN.mpr rfl) l [] [] (rW (List.length_nil ..) (rW (UU ..) hl)) (.inl rfl) λX'=>Cb (v:=.ref σ.length) rfl ((nP (aQ _) bh).trans (Qg (λvs=>V.I (.list vs)) (o0 _ _ _ _))) (eE hC0) ⟨rfl,rfl⟩))))
end
end
section
noncomputable def lB:List PS:=match (L3.f853[10]? : Option PS) with|some (PS.al _ _ b)=>b|_=>[]
noncomputable def Mo:PE:=.comp (.one 126) (.attr dN 12) (.i (.bool true)) (.call 843 [.q 126])
noncomputable def Os:PE:=.ag (.E .eq iz (.i (.str bz))) nY qY
structure Fa(L fs:aR):Prop where
 g:∀{i v},aJ i fs=some v->aJ i L=some v
 cl:∀{i v},aJ i fs=some v->∀σ n,1<=n->rv σ n v=v
noncomputable def N5(g:G0)(s:aC):V->V:=λv=>match v with|.ref _=>cA (g.key,s)|.I (.list (.str x::.str y::_))=>cA (x,y)|v=>v
noncomputable def LL(ending:Bool)(kd:aC)(a b:Nat)(PR:List bS)(P1:aZ)(ende:aC):aR:=[(10,.str mm),(122,.bool ending),(11,.ref 0),(38,.str kd),(123,.int (a:Nat)),(124,.int (b:Nat)),(87,gp PR),(20,fH P1),(4,.str ende)]
noncomputable def Li:V->V:=λv=>match v with
 |.I (.dict [_,(_,.str w)])=>.I (.tuple [.str w,.int 0])
 |.I (.dict [_,_,(_,.I (.dict [(_,.int k)]))])=>.I (.tuple [.str o9,.int k])
 |v=>v
theorem sr(f:bS):Li (cy f)=dE f:=by induction f<;>rfl
theorem Bg(l:List bS):(l.map cy).map Li=l.map dE:=rW (Up ..) (Un λf J=>sr f)
section
variable {d n i k a b:Nat}{L fs:aR}{st v dt:V}{g:G0}{sm tx:O}{q:List V}{s kd ende nm:aC}{PR:List bS}{ending:Bool}{r2:List O}{K:Fl->aR->St->Prop}
theorem Fa.put(h:Fa L fs)(hi:aJ i fs=none):Fa (aX i v L) fs:=⟨λ{j w} hj=>by
 refine rW (br ..) ?_;by_cases q:j=i
 ·subst q;rw[hi]at hj;exact bl hj
 ·exact rW (T8 q ..) (h.g hj),h.cl⟩
theorem Fa.gc(h:Fa L fs)(s:St)(hn:1<=n):Fa (gQ s n L) fs:=⟨λ{j w} hj=>by show aJ j (L.map λp=>(p.1,rv s n p.2))=_;exact rW (fU ..) (rW (h.g hj ..) (Qg some (h.cl hj s n hn))),h.cl⟩
theorem D9:(P1 g s).map cA=g.ps.map cA++[cA (g.key,s)]:=by unfold P1;exact rW ba rfl
theorem ux:(P1 g s).length=g.ps.length+1:=aP
theorem vY(Tj:aJ 18 L=some (.ref 9))(hl:g.ps.length<=300):aM (cD d) (.comp (.many [26,27]) (.sub du (.i (.str cQ))) (.i (.bool true)) (.H [.q 26,.q 27])) L (hZ st g sm tx q s nm (.ref 8) r2)=some (.ref (hZ st g sm tx q s nm (.ref 8) r2).length,hZ st g sm tx q s nm (.ref 8) r2++[.list ((P1 g s).map cA)]):=by
 rw[eQ,show aM (cD d) (.sub du (.i (.str cQ))) L (hZ st g sm tx q s nm (.ref 8) r2)=some (.ref 8,hZ st g sm tx q s nm (.ref 8) r2) by rw[cu,aN Tj];rfl,UB];show Option.bind (dc _ _ _ (gX g) L (hZ st g sm tx q s nm (.ref 8) r2)) _=_;have hf:∀v∈gX g,∃p:aC×aC,d5 (cD d) (hZ st g sm tx q s nm (.ref 8) r2) v=some [.str p.1,.str p.2]/\N5 g s v=cA p:=λv hv=>by
  rcases List.mem_append.mp hv with hv|hv
  ·obtain ⟨p,_,rfl⟩:=List.mem_map.mp hv;exact ⟨p,rfl,rfl⟩
  ·obtain rfl:=cP.mp hv;exact ⟨(g.key,s),rfl,rfl⟩
 rw[jU (f:=N5 g s) (bN.mpr rfl) (gX g) L λv hv L=>by
  obtain ⟨p,h1,h2⟩:=hf v hv;refine ⟨aX 27 (.str p.2) (aX 26 (.str p.1) L),?_,?_⟩
  ·show (d5 (cD d) (hZ st g sm tx q s nm (.ref 8) r2) v).bind _=_;exact rW h1 rfl
  ·show mK true (hZ st g sm tx q s nm (.ref 8) r2) (aM (cD d) (.H [.q 26,.q 27]) (aX 27 (.str p.2) (aX 26 (.str p.1) L)) (hZ st g sm tx q s nm (.ref 8) r2))=_;exact rW (jS (ed (aN (bE (by decide) bZ)) (aN bZ)) rfl ..) (rW h2 rfl),UB]
 rw[show (gX g).map (N5 g s)=(P1 g s).map cA by rw[D9];unfold gX;rw[ba,Up];rfl];exact bx (rW bA (rW (ux ..) (aH (cO hl) (by decide))))
theorem Hz{f:V->V}(RM:aJ 11 L=some (.ref 0))(hq:∀v∈q,rF (d+1) 843 [v] (hZ st g sm tx q s nm dt r2)=some (f v,hZ st g sm tx q s nm dt r2))(hl:q.length<=a8):aM (cD (d+1)) Mo L (hZ st g sm tx q s nm dt r2)=some (.ref (hZ st g sm tx q s nm dt r2).length,hZ st g sm tx q s nm dt r2++[.list (q.map f)]):=by
 unfold Mo;rw[eQ,show aM (cD (d+1)) (.attr dN 12) L (hZ st g sm tx q s nm dt r2)=some (.ref 7,hZ st g sm tx q s nm dt r2) by rw[eS,aN RM];rfl,UB];show Option.bind (dc _ _ _ q L (hZ st g sm tx q s nm dt r2)) _=_;rw[jU (f:=f) (bN.mpr rfl) q L λv hv L=>⟨aX 126 v L,rfl,by show mK true (hZ st g sm tx q s nm dt r2) (aM (cD (d+1)) (.call 843 [.q 126]) (aX 126 v L) (hZ st g sm tx q s nm dt r2))=_;exact rW (fQ (dh (aN bZ)) (hq v hv) ..) rfl⟩,UB];exact bx (rW bA hl)
theorem Bl(h87:aJ 87 L=some (gp PR))(hl:PR.length<=5000):aM (cD d) (.listOf de) L (hZ .C g sm tx q s nm dt r2)=some (.ref (hZ .C g sm tx q s nm dt r2).length,hZ .C g sm tx q s nm dt r2++[.list (PR.map dE)]):=by exact rW (sk ..) (rW (aN h87 ..) (bx (rW bA (aH hl (by decide)))))
theorem FV{Su}{QS:aZ}{w r}(RM:aJ 11 L=some (.ref 0))(h15:aJ 15 L=some (.ref 11))(h125:aJ 125 L=some (.ref 12))(h20:aJ 20 L=some (fH QS))(Tj:aJ 18 L=some (.ref 9))(hn:∀{s},aM (cD (d+1)) Os L s=some (.str w,s))(hq:∀v∈q,rF (d+1) 843 [v] (hZ .C g sm tx q s w dt [.list Su,.list (QS.map cA)])=some (Li v,hZ .C g sm tx q s w dt [.list Su,.list (QS.map cA)]))(hl:q.length<=a8)(hm:q.map Li=Su)(he:∀(σ:St),∀v∈Su,qO (pG σ 12) v v=some true)
 (kk:W (PT (cD (d+1)) r 10 L (hZ .C g sm tx q s w dt [.list Su,.list (QS.map cA),.list Su])) K):
 W (PT (cD (d+1)) (.ifs (.af (.E .ne Mo (.q 15)) (.af (.E .ne (.q 125) eb) (.E .ne (.sub du (.i (.str EX))) Os))) [.ret (.i (.bool false))] []::r) 10 L (hZ .C g sm tx q s w dt [.list Su,.list (QS.map cA)])) K:=by
 have e1:=Hz (d:=d) (L:=L) (f:=Li) RM hq hl;rw[hm]at e1;refine iN (mC (bi e1 (aN h15) (uQ (l:=Su) rfl rfl (.inl rfl) (he _))) (mC (bi (aN h125) (aN h20) (uQ (l:=QS.map cA) rfl rfl (.inl rfl) λv hv=>?_)) (bi (a:=.str w) ?_ hn (Qg (λb=>some (!b)) (Ua w))))) kk
 ·obtain ⟨p,_,rfl⟩:=List.mem_map.mp hv;show (some (p.1==p.1)).bind (λx=>((some (p.2==p.2)).bind λx=>(some true).map λy=>x&&y).map λy=>x&&y)=_;exact rW (Ua ..) (rW (Ua ..) rfl)
 ·exact rW (cu ..) (rW (aN Tj ..) rfl)
theorem BD{σ}:∀v∈PR.map dE,qO (pG σ 12) v v=some true:=λv hv=>by obtain ⟨f,_,rfl⟩:=List.mem_map.mp hv;exact KL
theorem Px{τ}(H:Sv k sm tx):iY (hA .C g sm tx (PR.map cy) s τ) 11=hA .C g sm tx (PR.map cy) s []:=(LF H).trans (Qg (λq=>hA .C g sm tx q s []) (BH PR))
theorem A7(hF:Fa L (LL ending kd a b PR (P1 g s) ende))(Rq:ende≠bz)(hnm:g.nm=[88])(ht:PR.length<=5000)(Rn:g.ps.length<=300)(H:Sv k sm tx)(kk:∀L',Fa L' (LL ending kd a b PR (P1 g s) ende)->K .next L' (hA .C g sm tx (PR.map cy) s [])):
 W (PT (cD (d+1)) (lB.drop 4) 10 L (hA .C g sm tx (PR.map cy) s [])) K:=by
 obtain ⟨ty,nm,ps,P'⟩:=g;obtain rfl:nm=[88]:=hnm;have F1:=hF.put (i:=18) (v:=.ref 9) rfl;have F2:=F1.put (i:=15) (v:=.ref 11) rfl;have F3:=F2.put (i:=125) (v:=.ref 12) rfl;have t6:∀{L σ},Fa L (LL ending kd a b PR (P1 ⟨ty,[88],ps,P'⟩ s) ende)->bR (cD (d+1)) (.E .eq iz (.i (.str bz))) L σ=some (false,σ):=λh=>bi (aN (h.g (i:=4) rfl)) aD (Qg some (T7 Rq));refine aV (v:=.ref 9) ?_ (aW (Bl (F1.g (i:=87) rfl) ht) (iN (jb (t6 F2)) (iN (t6 F2) (iF (jb (t6 F2)) (aW (vY (bE (by decide:18≠15) bZ) Rn) (nW ?_))))))
 ·exact rW (eS ..) (rW (aN (hF.g (i:=11) rfl) ..) rfl)
 refine FV (QS:=P1 ⟨ty,[88],ps,P'⟩ s) (F3.g (i:=11) rfl) (bE (by decide) bZ) bZ (F3.g (i:=20) rfl) (bE (by decide) (bE (by decide) bZ)) (fD (t6 F3) (λh=>bU h) λJ=>aD) (λv hv=>?_) (rW bA (aH ht (by decide))) (Bg PR) (λσ=>BD) (pJ (Px H) (nW (kk _ (F3.gc _ (by decide)))))
 ·obtain ⟨f,_,rfl⟩:=List.mem_map.mp hv;exact rW (sr ..) (Gf f)
end
end
section
theorem GJ:∀(l d:aZ),(d.map (·.1)).Nodup->((eH l d).map (·.1)).Nodup/\∀p∈eH l d,p∈d\/p∈l:=by
 intro l;induction l with
 |nil=>exact λd h=>⟨h,λp hp=>.inl hp⟩
 |cons x l ih=>
  intro d h;show ((eH l (if (d.map (·.1)).contains x.1 then d else d++[x])).map (·.1)).Nodup/\∀p∈eH l (if (d.map (·.1)).contains x.1 then d else d++[x]),p∈d\/p∈x::l;generalize hc:(d.map (·.1)).contains x.1=z1;induction z1 with
  |true=>obtain ⟨h1,h2⟩:=ih d h;exact ⟨h1,λp hp=>(h2 p hp).imp_right (.tail _)⟩
  |false=>
   have hn:(((d++[x])).map (·.1)).Nodup:=by rw[ba,List.nodup_append];refine ⟨h,List.nodup_cons.mpr ⟨US,List.nodup_nil⟩,λa ha b hb e=>?_⟩;obtain rfl:=cP.mp hb;subst e;rw[List.contains_iff_mem.mpr ha]at hc;exact bU hc.symm
   clear hc;obtain ⟨h1,h2⟩:=ih (d++[x]) hn;exact ⟨h1,λp hp=>(h2 p hp).elim (λh=>(List.mem_append.mp h).imp_right λh=>by obtain rfl:=cP.mp h;exact .head _) λh=>.inr (.tail _ h)⟩
theorem oh:∀{l:aZ},(l.map (·.1)).Nodup->∀p∈l,bM p.1 (bo l)=some (.str p.2)
 |x::l,h,p,hp=>by
  obtain ⟨h1,h2⟩:=List.nodup_cons.mp (show (x.1::l.map (·.1)).Nodup from h);show (if x.1=p.1 then some (V.str x.2) else bM p.1 (bo l))=_;clear h;rcases b8.mp hp with rfl|hp
  ·exact T6 rfl
  ·have Qs:¬x.1=p.1:=λe=>h1 (e▸UM (f:=(·.1)) hp);exact (T8 Qs).trans (oh h2 p hp)
noncomputable def Og(l:aZ):V->V:=λv=>match v with|.str k=>.I (.tuple [.str k,(bM k (bo l)).getD .none])|v=>v
section
variable {d n k a b:Nat}{L:aR}{g:G0}{sm tx:O}{q:List V}{s kd nm:aC}{PR:List bS}{l:aZ}{ending:Bool}{dt:V}{r2:List O}{K:Fl->aR->St->Prop}
theorem Bt{p:aC×aC}(hn:(l.map (·.1)).Nodup)(hp:p∈l):Og l (.str p.1)=cA p:=by show V.I (.tuple [.str p.1,(bM p.1 (bo l)).getD .none])=_;exact rW (oh hn p hp ..) rfl
theorem Gu(Tj:aJ 18 L=some (.ref 9))(hn:(l.map (·.1)).Nodup)(hk:∀p∈l,p.1.length<=10)(hl:l.length<=500):aM (cD d) (.comp (.one 26) (.sub du (.i (.str cQ))) (.i (.bool true)) (.H [.q 26,.sub (.sub du (.i (.str cQ))) fk])) L (hZ .C g sm tx q s nm (.I (.dict (bo l))) r2)=some (.ref (hZ .C g sm tx q s nm (.I (.dict (bo l))) r2).length,hZ .C g sm tx q s nm (.I (.dict (bo l))) r2++[.list (l.map cA)]):=by
 have e0:∀{L},aJ 18 L=some (.ref 9)->aM (cD d) (.sub du (.i (.str cQ))) L (hZ .C g sm tx q s nm (.I (.dict (bo l))) r2)=some (.I (.dict (bo l)),hZ .C g sm tx q s nm (.I (.dict (bo l))) r2):=λh=>by exact rW (cu ..) (rW (aN h ..) rfl)
 refine rW (eQ ..) (rW (e0 Tj ..) (rW aS ?_));have hi:kc (bo l)=some ((l.map (·.1)).map V.str):=by
  unfold kc;rw[T6 (a9.mpr λp hp=>by obtain ⟨x,hx,rfl⟩:=List.mem_map.mp hp;exact Uf (aH (hk x hx) (by decide)))];unfold bo;exact rW (Up ..) (rW (Up ..) rfl)
 show Option.bind (kc (bo l)) _=_;refine rW hi (rW aS ?_);have SS:∀(xs:List V) (L:aR),aJ 18 L=some (.ref 9)->(∀v∈xs,∃p∈l,v=.str p.1)->dc (λv L s=>cU (cD d) s (.one 26) v L) (λs'=>cT (cD d) (hZ .C g sm tx q s nm (.I (.dict (bo l))) r2) s' (.I (.dict (bo l)))) (λL1 s'=>(bR (cD d) (.i (.bool true)) L1 s').bind λ(b,s1)=>mK b s1 (aM (cD d) (.H [.q 26,.sub (.sub du (.i (.str cQ))) fk]) L1 s1)) xs L (hZ .C g sm tx q s nm (.I (.dict (bo l))) r2)=some (xs.map (Og l),hZ .C g sm tx q s nm (.I (.dict (bo l))) r2):=by
  intro xs;induction xs with
  |nil=>exact λL J J=>fW.trans (T6 (bN.mpr rfl))
  |cons v xs ih=>
   intro L h hv;obtain ⟨p,hp,rfl⟩:=hv _ (.head _);have h1:aJ 18 (aX 26 (.str p.1) L)=some (.ref 9):=bE (by decide) h;refine rW (eR ..) (rW (T6 (bN.mpr rfl) ..) ?_);show Option.bind (mK true (hZ .C g sm tx q s nm (.I (.dict (bo l))) r2) (aM (cD d) (.H [.q 26,.sub (.sub du (.i (.str cQ))) fk]) (aX 26 (.str p.1) L) (hZ .C g sm tx q s nm (.I (.dict (bo l))) r2))) _=_;rw[jS (v:=cA p) (ed (w:=.str p.2) (σ2:=hZ .C g sm tx q s nm (.I (.dict (bo l))) r2) (aN bZ) (by refine rW (cu ..) (rW (e0 h1 ..) (rW aS ?_));show Option.bind (aM (cD d) fk (aX 26 (.str p.1) L) _) _=_;refine rW (aN bZ ..) (rW aS ?_);show (bM p.1 (bo l)).map _=_;exact rW (oh hn p hp ..) rfl)) rfl];show Option.bind (dc _ _ _ xs (aX 26 (.str p.1) L) (hZ .C g sm tx q s nm (.I (.dict (bo l))) r2)) _=_;exact rW (ih (aX 26 (.str p.1) L) h1 λv hv'=>hv v (.tail _ hv') ..) (rW (Ul ..) (rW (Bt hn hp ..) rfl))
 rw[SS _ L Tj λv hv=>by obtain ⟨k,hk',rfl⟩:=List.mem_map.mp hv;obtain ⟨p,hp,rfl⟩:=List.mem_map.mp hk';exact ⟨p,hp,rfl⟩,UB];exact rW (show ((l.map (·.1)).map V.str).map (Og l)=l.map cA by rw[Up,Up];exact Un λp hp=>Bt hn hp ..) (bx (rW bA (aH hl (by decide))))
theorem yV{τ:List O}(H:Sv k sm tx)(hq:∀σ n,11<=n->q.map (rv σ n)=q)(hd:∀σ n,11<=n->rv σ n dt=dt)(hτ:∀σ n,11<=n->τ.map (fj (rv σ n))=τ):j' (hZ .C g sm tx q s nm dt τ):=λσ=>by have hn:11<=(hZ .C g sm tx q s nm dt τ).length:=Nat.le_add_left 11 τ.length;exact rW (oW H hn ..) (rW (hq _ _ hn ..) (rW (hd _ _ hn ..) (rW (hτ _ _ hn ..) rfl)))
theorem yU{l:List V}(h:∀(σ:St) (n:Nat),l.map (rv σ n)=l)(σ:St){n}(hn:11<=n):(l++[V.ref 9]).map (rv σ n)=l++[V.ref 9]:=by rw[ba,h];show l++[rv σ n (.ref 9)]=_;exact rW (fm (Uk (by decide) hn) ..) rfl
theorem Lx(σ:St){n}:(l.map cA).map (rv σ n)=l.map cA:=by exact rW (Up ..) (Un λp J=>rfl)
theorem v3:∀{l d:aZ},(eH l d).length<=d.length+l.length
 |[],d=>aQ _
 |x::l,d=>by
  have:=v3 (l:=l) (d:=if (d.map (·.1)).contains x.1 then d else d++[x]);have h2:(if (d.map (·.1)).contains x.1 then d else d++[x]).length<=d.length+1:=by
   split
   ·exact UT _
   ·exact rW aP (aQ _)
  exact aH this (rW (Ug ..) (rW (UJ l.length ..) (rW (UA ..).symm (Nat.add_le_add_right h2 _))))
theorem EQ{r x w}{us:List V}{z}(h15:aJ 15 L=some (.ref 11))(hx:aM (cD d) x L (hZ .C g sm tx q s nm dt [.list us])=some (w,hZ .C g sm tx q s nm dt [.list us]))(hl:us.length<=a8)(kk:W (PT (cD d) r z L (hZ .C g sm tx q s nm dt [.list (us++[w])])) K):W (PT (cD d) (.expr (.append (.q 15) x)::r) z L (hZ .C g sm tx q s nm dt [.list us])) K:=
 eW (mJ (a:=11) (aN h15) rfl hx rfl hl rfl) kk
theorem IZ(hF:Fa L (LL ending kd a b PR (P1 g s) bz))(hg:Hi g)(R2:ending=(g.ty==4))(ht:PR.length<=5000)(hk:∀p∈P1 g s,p.1.length<=10)(H:Sv k sm tx)(kk:∀L' σ',K .next L' σ'):
 W (PT (cD (d+1)) (lB.drop 4) 10 L (hZ .C g sm tx (zQ g (PR.map cy)) s [120] (zD g s) [])) K:=by
 have Rn:g.ps.length<=300:=aH (Nat.le_of_succ_le hg.ps) (by decide);have TD:(P1 g s).length<=500:=by refine rW (ux ..) ?_;exact aH hg.ps (by decide)
 have F1:=(hF.put (i:=18) (v:=.ref 9) rfl)
 have F2:=F1.put (i:=15) (v:=.ref 11) rfl;have hz1:(zF g).length<=1:=by
  unfold zF;by_cases h:g.ty=3
  ·exact rW (T6 h ..) (bu _)
  ·exact rW (T8 h ..) (aQ _)
 have RK:(PR++zF g).length<=5001:=rW aP (Nat.add_le_add ht hz1);refine aV (v:=.ref 9) ?_ (aW (Bl (g:=g) (F1.g (i:=87) rfl) ht) ?_)
 ·exact rW (eS ..) (rW (aN (hF.g (i:=11) rfl) ..) rfl)
 have TZ:aJ 18 (aX 15 (.ref 11) (aX 18 (.ref 9) L))=some (.ref 9):=bE (by decide) bZ;have g15:aJ 15 (aX 15 (.ref 11) (aX 18 (.ref 9) L))=some (.ref 11):=bZ;show W (PT (cD (d+1)) (lB.drop 6) 10 (aX 15 (.ref 11) (aX 18 (.ref 9) L)) _) K;generalize aX 15 (.ref 11) (aX 18 (.ref 9) L)=L2 at *;clear hF F1 Rn;have t4:∀{L σ},aJ 4 L=some (.str bz)->bR (cD (d+1)) (.E .eq iz (.i (.str bz))) L σ=some (true,σ):=λh=>bi (aN h) aD rfl;have Tr:∀{σ},bR (cD (d+1)) (.q 122) L2 σ=some (ending,σ):=λ{σ}=>Af (F2.g (i:=122) rfl) rfl;have k9:∀L3 QS,aJ 11 L3=some (.ref 0)->aJ 15 L3=some (.ref 11)->aJ 125 L3=some (.ref 12)->aJ 20 L3=some (fH QS)->aJ 18 L3=some (.ref 9)->aJ 4 L3=some (.str bz)->W (PT (cD (d+1)) (lB.drop 9) 10 L3 (hZ .C g sm tx (zQ g (PR.map cy)) s [120] (zD g s) [.list ((PR++zF g).map dE++[.ref 9]),.list (QS.map cA)])) K:=λL3 QS g11 g15' g125 g20 g18' g4=>by
  refine FV (QS:=QS) g11 g15' g125 g20 g18' (fD (t4 g4) (λJ=>aD) λh=>bU h.symm) (λv hv=>?_) ?_ ?_ (λσ v hv=>?_) (pJ rfl (nW (kk _ _)))
  ·unfold zQ at hv;rw[<-ba]at hv;rcases List.mem_append.mp hv with hv|hv
   ·obtain ⟨f,_,rfl⟩:=List.mem_map.mp hv;exact rW (sr ..) (Gf f)
   ·obtain rfl:=cP.mp hv;exact Lz hg.ty (nm:=[120]) (dt:=zD g s) rfl
  ·unfold zQ;refine rW aP (rW aP (rW bA (rW bA ?_)));rw[aP]at RK;exact aH (cO RK) (by decide)
  ·unfold zQ;refine rW ba.symm (rW ba (rW (Bg ..) ?_));rfl
  ·rcases List.mem_append.mp hv with hv|hv
   ·exact BD v hv
   ·obtain rfl:=cP.mp hv;rfl
 clear kk hz1;have k8:W (PT (cD (d+1)) (lB.drop 8) 10 L2 (hZ .C g sm tx (zQ g (PR.map cy)) s [120] (zD g s) [.list ((PR++zF g).map dE++[.ref 9])])) K:=by
  have t:=sU (t4 (σ:=hZ .C g sm tx (zQ g (PR.map cy)) s [120] (zD g s) [.list ((PR++zF g).map dE++[.ref 9])]) (F2.g (i:=4) rfl)) (Ak Tr);rcases hg.ty with h|h
  ·rw[show zD g s=.I (.dict (bo (eH (P1 g s) []))) from T6 h]at *;rw[R2,h]at t;have hzd:∀σ n,11<=n->rv σ n (V.I (.dict (bo (eH (P1 g s) []))))=V.I (.dict (bo (eH (P1 g s) []))):=λJ J J=>rfl;have hzq:∀(σ:St) n,11<=n->(zQ g (PR.map cy)).map (rv σ n)=zQ g (PR.map cy):=λσ n h=>yU (dO (cj PR) (cj _)) σ h;have TN:∀(σ:St) n,11<=n->((PR++zF g).map dE++[V.ref 9]).map (rv σ n)=(PR++zF g).map dE++[V.ref 9]:=λσ n h=>yU (λJ J=>(by
    refine rW (Up ..) ?_;exact Un λf J=>by induction f<;>rfl)) σ h
   obtain ⟨n1,n2⟩:=GJ (P1 g s) [] List.nodup_nil;have SQ:(eH (P1 g s) []).length<=500:=aH v3 (rW (List.length_nil ..) (rW (UU ..) TD));refine iT t (aW (fQ (dh (aN (F2.g (i:=20) rfl))) (NS (yV H hzq hzd λσ n h=>?_) (λd=>?_) TD)) (aW (Gu (bE (by decide) TZ) n1 (λp hp=>hk p ((n2 p hp).resolve_left US)) SQ) (nW (k9 _ _ (bE (by decide) (bE (by decide) (F2.g (i:=11) rfl))) (bE (by decide) (bE (by decide) g15)) bZ (bE (by decide) bZ) (bE (by decide) (bE (by decide) TZ)) (bE (by decide) (bE (by decide) (F2.g (i:=4) rfl)))))))
   ·show [O.list (((PR++zF g).map dE++[V.ref 9]).map (rv σ n))]=_;exact rW (TN σ n h ..) rfl
   ·show j' (hZ .C g sm tx (zQ g (PR.map cy)) s [120] (.I (.dict (bo (eH (P1 g s) [])))) [.list ((PR++zF g).map dE++[.ref 9]),.list (d.map cA)]);refine yV H hzq hzd λσ n h=>?_;show [O.list (((PR++zF g).map dE++[V.ref 9]).map (rv σ n)),.list ((d.map cA).map (rv σ n))]=_;exact rW (TN σ n h ..) (rW (Lx ..) rfl)
  ·rw[show zD g s=.ref 8 from T8 (by refine rW h ?_;decide)]at *;rw[R2,h]at t;exact iF t (aW (vY TZ (aH (Nat.le_of_succ_le hg.ps) (by decide))) (nW (k9 _ _ (bE (by decide) (F2.g (i:=11) rfl)) (bE (by decide) g15) bZ (bE (by decide) (F2.g (i:=20) rfl)) (bE (by decide) TZ) (bE (by decide) (F2.g (i:=4) rfl)))))
 clear k9;have k7:W (PT (cD (d+1)) (lB.drop 7) 10 L2 (hZ .C g sm tx (zQ g (PR.map cy)) s [120] (zD g s) [.list ((PR++zF g).map dE)])) K:=iT (t4 (F2.g (i:=4) rfl)) (EQ g15 (aN TZ) (rW bA (aH RK (by decide))) (nW k8));have t:=i' (t4 (σ:=hZ .C g sm tx (zQ g (PR.map cy)) s [120] (zD g s) [.list (PR.map dE)]) (F2.g (i:=4) rfl)) Tr;rcases hg.ty with h|h
 ·rw[show zF g=[] from T6 h,bX]at k7;rw[R2,h]at t;exact iN t k7
 ·rw[show zF g=[.w qW] from T8 (by refine rW h ?_;decide),ba]at k7;rw[R2,h]at t;exact iT t (EQ g15 (w:=dE (.w qW)) rfl (rW bA (aH ht (by decide))) (nW k7))
end
end
section
noncomputable def G4:PE:=.meth (.attr dN 13) 23 []
noncomputable abbrev hK(ty:Int)(ps:aZ)(sm tx:O)(q:List V):St:=hS Nn sm tx [.list [],.list q,.list (ps.map pV),BU ty [88] (.ref 8)]
structure At(d k:Nat)(σ:St):Prop where
 cl:j' σ
 ps:∀{L},aJ 11 L=some (.ref 0)->aM (cD (d+2)) G4 L σ=some (.I (xZ (mm.take k)),σ)
noncomputable def BL(ending:Bool):aR:=[(10,.str mm),(122,.bool ending),(11,.ref 0)]
theorem Fa.drop{L x y}(h:Fa L (x++y)):Fa L x:=⟨λhg=>h.g (eN hg),λhg=>h.cl (eN hg)⟩
section
variable {d k a b i ph:Nat}{L fs:aR}{v sv dt:V}{g:G0}{sm tx:O}{q:List V}{s s2 kd ende P':aC}{PR Qu:List bS}{P1 ps:aZ}{ending:Bool}{σ τ:St}{rs:List O}{ty:Int}{z:c6}{K:Fl->aR->St->Prop}
theorem Di(h:k<=a)(ha:a<=mm.length):gV (cD d) σ .ne (.I (xZ (mm.take k))) (.I (xZ (mm.take a)))=some (!(k==a)):=by
 show some (!(((((mm.take k).count 10+1:Nat):Int)==(((mm.take a).count 10+1:Nat):Int))&&((((cW 0 (mm.take k):Nat):Int)==((cW 0 (mm.take a):Nat):Int))&&true)))=_;refine rW (m6 ..) (rW (m6 ..) (rW (Bool.and_true ..) ?_));by_cases hk:k=a
 ·exact rW hk (rW (Ua ..) (rW (Ua ..) (rW (Ua ..) rfl)))
 ·refine rW (T7 hk ..) (Qg (λb=>some (!b)) (Bool.eq_false_iff.mpr λq=>hk (Ef ha h ?_)));have q:=Bool.and_eq_true_iff.mp q;unfold xZ;exact rW (eq_of_beq q.1 ..) (rW (eq_of_beq q.2 ..) rfl)
theorem vK(A:At d k σ)(hF:Fa L fs)(RM:aJ 11 fs=some (.ref 0))(Tk:aJ 10 fs=some (.str mm))(hi:aJ i fs=some (.int (a:Nat)))(h:k<=a)(ha:a<=mm.length):bR (cD (d+2)) (.E .ne G4 (.call 808 [.O (.q 10) dT (.q i)])) L σ=some (!(k==a),σ):=
 bi (A.ps (hF.g RM)) (fQ (dh (oY (aN (hF.g Tk)) (aN (hF.g hi)))) (NE A.cl (rW (Uh ..) (aH (Nat.min_le_right ..) cS)))) (Di h ha)
theorem Au(H:Sv k sm tx){L}(h:aJ 11 L=some (.ref 0)):aM (cD (d+2)) G4 L (hS (mo sv) sm tx rs)=some (.I (xZ (mm.take k)),hS (mo sv) sm tx rs):=(KF (f:=126) H h rfl rfl).trans (Jb H)
theorem FT{σ n}(l:aZ):(l.map pV).map (rv σ n)=l.map pV:=by exact rW (Up ..) (Un λp J=>rfl)
theorem Er(H:Sv k sm tx)(hq:Cq q):At d k (hK ty ps sm tx q):=⟨λσ=>by
 induction H with|@mk Qb PU Qq P8 p b _ _=>
 show O.inst 762 _::O.inst 166 [_,_,_,_,_,_,_,_,_,(50,rv σ 10 (cL b))]::.meth 148 _::_::_::_::_::.list (q.map (rv σ 10))::.list ((ps.map pV).map (rv σ 10))::[_]=_;rw[gM,hq,FT];rfl,Au H⟩
theorem Iq(H:Sv k sm tx):At d k (hA .C g sm tx (PR.map cy) s []):=⟨λσ=>by show (hA .C g sm tx (PR.map cy) s []).map (fj (rv σ 11))=_;exact rW (jK H (aQ _) ..) (rW (BH ..) rfl),Au H⟩
theorem Ou(H:Sv k sm tx)(hq:Cq q):iY (hA .C ⟨ty,[88],ps,P'⟩ sm tx q s []) 10=hK ty (ps++[(P',s)]) sm tx q:=by
 have h2:(gX ⟨ty,[88],ps,P'⟩).map (rv (hA .C ⟨ty,[88],ps,P'⟩ sm tx q s []) 10)=(ps++[(P',s)]).map pV:=by unfold gX;exact rW ba (rW (FT ..) (rW ba rfl))
 show (hS Nn sm tx [.list [],.list q,.list (gX ⟨ty,[88],ps,P'⟩),BU ty [88] (.ref 8)]).map (fj (rv (hA .C ⟨ty,[88],ps,P'⟩ sm tx q s []) 10))=_;induction H with|@mk Qb PU Qq P8 p b _ _=>
 show O.inst 762 _::O.inst 166 [_,_,_,_,_,_,_,_,_,(50,rv _ 10 (cL b))]::.meth 148 _::_::_::_::_::.list (q.map (rv _ 10))::.list ((gX ⟨ty,[88],ps,P'⟩).map (rv _ 10))::[_]=_;rw[gM,hq,h2];rfl
theorem Kk(H:Sv k sm tx)(hq:Cq q)(hl:ps.length<=300):rF (d+2) 836 [.ref 0,.str iu] (hK ty ps sm tx q)=some (.bool true,hA .C ⟨ty,[88],ps,ky ps.length⟩ sm tx q [] []):=by have t:∀w:aC,(iu==w)=false->bR (cD (d+1)) (.E .eq f9 (.i (.str w))) [(11,.ref 0),(38,.str iu)] (hK ty ps sm tx q)=some (false,hK ty ps sm tx q):=λw h=>bi rfl aD (Qg some h);refine kX ⟨rfl,rfl⟩ rfl (iN (t cC rfl) (iN (t [34] rfl) (iN (t [39] rfl) (iN (t [62] rfl) (iN (t c7 rfl) (aV (v:=.ref 8) rfl (eW (mJ (a:=8) rfl rfl (s6 (vs:=[.str (ky ps.length),.str []]) (ed (EV (Er (d:=d) (ty:=ty) (ps:=ps) H hq).cl ?_) aD) (show 2<=a8 by decide)) rfl (rW bA (aH hl (by decide))) rfl) (jD aD ⟨rfl,rfl⟩))))))));show some (V.int ((ps.map pV).length:Nat),_)=_;exact rW bA rfl
theorem IP(hC:iY σ 10=τ)(Rh:aJ 38 L=some (.str iu))(k:W (PT (cD d) (lB.drop 1) 10 (gQ σ 10 L) τ) K):W (PT (cD d) lB 10 L σ) K:=by refine sW (s:=.aB 38 iu 0) (L1:=gQ σ 10 L) (σ1:=τ) ?_ k;show ((aJ 38 L).bind λv=>dW v λx=>match decide (x=iu) with|true=>some (Fl.next,gQ σ (10+0) L,iY σ (10+0))|false=>some (.next,L,σ))=_;refine rW Rh (rW hC.symm (rW aS ?_));show (match decide (iu=iu) with|true=>some (Fl.next,gQ σ (10+0) L,iY σ (10+0))|false=>some (.next,L,σ))=_;exact rW (Uf rfl ..) rfl
theorem LH(hn:kd≠iu)(Rh:aJ 38 L=some (.str kd))(k:W (PT (cD d) (lB.drop 1) 10 L σ) K):W (PT (cD d) lB 10 L σ) K:=by refine sW (s:=.aB 38 iu 0) (L1:=L) (σ1:=σ) ?_ k;show ((aJ 38 L).bind λv=>dW v λx=>match decide (x=iu) with|true=>some (Fl.next,gQ σ (10+0) L,iY σ (10+0))|false=>some (.next,L,σ))=_;refine rW Rh (rW aS ?_);show (match decide (kd=iu) with|true=>some (Fl.next,gQ σ (10+0) L,iY σ (10+0))|false=>some (.next,L,σ))=_;exact rW (Ux hn ..) rfl
inductive RI(I:Nat->Nat->List bS->aC->Prop)(g:G0)(fs:aR):Nat->aR->St->Prop
 |mk {ph k r:Nat}{tl:List bS}{s:aC}{sm tx:O}{L:aR}:I ph k tl s->Sv k sm tx->r+ph<=98->Fa L fs->aJ 22 L=some (.int (r:Nat))->RI I g fs ph L (hA .C g sm tx (tl.map cy) s [])
structure Jt(d:Nat)(g:G0)(kd:aC)(a:Nat)(I:Nat->Nat->List bS->aC->Prop):Prop where
 st:Kz kd/\kd≠iu
 le:∀{ph k tl s},I ph k tl s->k<=a
 go:∀{ph k tl s sm tx Q},I ph k tl s->k≠a->Sv k sm tx->(∀{ph' k' tl' s' P6 P9},Sv k' P6 P9->I ph' k' tl' s'->ph'<ph->Q (.bool true) (hA .C g P6 P9 (tl'.map cy) s' []))->G (rF (d+9) (Fm kd) [.ref 0] (hA .C g sm tx (tl.map cy) s [])) Q
theorem step{X:O->O->St}{I:Nat->Nat->List bS->aC->Prop}(R:Jt d g kd a I)(ha:a<=mm.length)(hb:b<=mm.length)
 (hE:∀{ph tl s sm tx Q},I ph a tl s->Sv a sm tx->(∀{P6 P9},Sv b P6 P9->Q (.bool true) (X P6 P9))->G (rF (d+9) (Fm kd) [.ref 0] (hA .C g sm tx (tl.map cy) s [])) Q)
 (hX:∀{sm tx},Sv b sm tx->At (d+8) b (X sm tx)) (hp:ph<=98) (hi:I ph k PR s) (H:Sv k sm tx) (hF:Fa L (LL ending kd a b Qu P1 ende))
 (kk:∀{L' P6 P9},Sv b P6 P9->Fa L' (LL ending kd a b Qu P1 ende)->W (PT (cD (d+10)) (lB.drop 4) 10 L' (X P6 P9)) K):
 W (PT (cD (d+10)) lB 10 L (hA .C g sm tx (PR.map cy) s [])) K:=by
 refine LH R.st.2 (hF.g (i:=38) rfl) (aV aD (x5 (lW (RI I g (LL ending kd a b Qu P1 ende)) (λ{n0 L0 s0} h=>?_) (Um hp (by decide:98<FU)) (.mk hi H (r:=0) (rW (UU ..) hp) (hF.put rfl) bZ))));clear hi H hp hF;cases h with|@mk k r tl s sm tx _ hi H hr hF h22=>
 have t1:bR (cD (d+10)) (.E .lt (.q 22) (.i (.int 99))) L0 (hA .C g sm tx (tl.map cy) s [])=some (true,hA .C g sm tx (tl.map cy) s []):=bi (aN h22) aD (Qg some (Uf ((Int.ofNat_lt (m:=99)).mpr (Nat.lt_succ_of_le (aH (bC ..) hr)))));have ec:Qc (cD (d+10)) [.q 11,.q 38] L0 (hA .C g sm tx (tl.map cy) s [])=some ([.ref 0,.str kd],hA .C g sm tx (tl.map cy) s []):=ed (aN (hF.g (i:=11) rfl)) (aN (hF.g (i:=38) rfl));refine .mk (i' t1 (vK (d:=d+8) (Iq H) hF rfl rfl rfl (R.le hi) ha)) ?_;by_cases q:k=a
 ·subst q;refine rW (Ua ..) ?_;show W (PT (cD (d+10)) (lB.drop 3) 10 L0 _) K;generalize J8 R.st.1 (hE hi H (Q:=λv σ=>v=.bool true/\∃sm tx,Sv b sm tx/\σ=X sm tx) λH'=>⟨rfl,_,_,H',rfl⟩)=z1;induction z1 with|mk e h=>
  obtain ⟨rfl,P6,P9,H',rfl⟩:=h;exact iN (mC (bi (fQ ec e) aD rfl) ((vK (d:=d+8) (hX H') hF rfl rfl rfl (aQ _) hb).trans (rW (Ua ..) rfl))) (kk H' hF)
 ·exact rW (T7 q ..) (eG (.eq ((rW (lb ..) (rW ec rfl))) (J8 R.st.1 (R.go hi q H λH' Sd Qf=>sW (rW (eT ..) (rW h22 rfl)) (nW ⟨_,Qf,.mk (r:=r+1) Sd H' (aF (c9 0x2b184627b41112b216273101841 rfl hr Qf)) (hF.put rfl) bZ⟩)))))
theorem x8(hp:k<=mm.length)(Rn:ps.length<=300)(ht:PR.length<=5000)(H:Sv k sm tx)(hg:iY σ 10=hK ty ps sm tx (PR.map cy))(hF:Fa L (LL ending iu k k PR (ps++[(ky ps.length,[])]) []))(kk:∀{L'},Fa L' (BL ending)->K .next L' (hA .C ⟨ty,[88],ps,ky ps.length⟩ sm tx (PR.map cy) [] [])):
 W (PT (cD (d+10)) lB 10 L σ) K:=by
 have F1:=(hF.gc σ (n:=10) (by decide)).put (i:=22) (v:=.int 0) rfl;have A:At (d+8) k (hA .C ⟨ty,[88],ps,ky ps.length⟩ sm tx (PR.map cy) [] []):=Iq H;have e0:(some (!(k==k),hK ty ps sm tx (PR.map cy)):Option (Bool×St))=some (false,hK ty ps sm tx (PR.map cy)):=rW (Ua ..) rfl;have e1:(some (!(k==k),hA .C ⟨ty,[88],ps,ky ps.length⟩ sm tx (PR.map cy) [] []):Option (Bool×St))=some (false,hA .C ⟨ty,[88],ps,ky ps.length⟩ sm tx (PR.map cy) [] []):=rW (Ua ..) rfl;exact IP hg (hF.g (i:=38) rfl) (aV aD (x5 (Jw (n:=2000) (i' (bi (aN bZ) aD rfl) ((vK (d:=d+8) (Er H (cj PR)) F1 rfl rfl rfl (aQ _) hp).trans e0)) (iN (mC (bi (fQ (ed (aN (F1.g (i:=11) rfl)) (aN (F1.g (i:=38) rfl))) (Kk (d:=d+8) H (cj PR) Rn)) aD rfl) ((vK A F1 rfl rfl rfl (aQ _) hp).trans e1)) (A7 (g:=⟨ty,[88],ps,ky ps.length⟩) F1 (λh=>by cases h) rfl ht Rn H λL' F2=>kk (F2.drop (y:=_)))))))
end
end
section
theorem q5{p q:Nat->Bool}:∀{l:aC},(∀x∈l,p x=q x)->l.takeWhile p=l.takeWhile q
 |[],_=>rfl
 |x::l,h=>by exact rW (Ui ..) (rW (Ui ..) (rW (h x (.head _) ..) (rW (q5 λy hy=>h y (.tail _ hy) ..) rfl)))
theorem uo{x}(h:x≠13):mz x=Cf x:=by unfold mz Cf;simp only[cw,List.contains_cons,List.contains_nil,Bool.or_false];refine rW (show (13==x)=false from T7 (Ne.symm h) ..) (rW (Bool.or_false ..) (rW (Bool.beq_comm (a:=x) ..) (rW (Bool.beq_comm (a:=x) ..) (rW (Bool.beq_comm (a:=x) ..) (rW (Bool.beq_comm (a:=x) ..) ?_)))));cases (9==x)<;>cases (10==x)<;>cases (12==x)<;>cases (32==x)<;>rfl
theorem yp{p:Nat->Bool}{i j x}(hj:j=i+((mm.drop i).takeWhile p).length)(h:mm[j]? = some x):p x=false:=by
 have e:(mm.drop i).drop ((mm.drop i).takeWhile p).length=mm.drop j:=rW hj (UR ..);obtain ⟨hl,hx⟩:=bY.mp h;rw[yN,Uc hl,hx]at e;clear hx h;rcases oO (p:=p) (mm.drop i) with h0|⟨c,r,h0,h1⟩
 ·rw[h0]at e;cases e
 ·rw[h0]at e;obtain ⟨rfl,_⟩:=U5 e;exact h1
theorem IH{k}:QI k=k+(kA mm[k]?).length:=by unfold QI;cases mm[k]? <;> rfl
theorem Kq{c}(QH:c≠some 62)(SF:c≠some 13):J7 c=cN c:=by
 induction c with
 |none=>rfl
 |some y=>show (mz y||y==47)=([32,10,9,12,47,62]:aC).contains y;refine rW (uo λe=>SF (Qg some e) ..) ?_;unfold Cf;simp only[List.contains_cons,List.contains_nil,Bool.or_false,T7 λe=>QH (Qg some e)];cases (y==32)<;>cases (y==10)<;>cases (y==9)<;>cases (y==12)<;>rfl
theorem Ff{o}(h:o≠some 62):mA o≠bz:=by
 induction o with
 |none=>decide
 |some y=>show (if y=62 then bz else [])≠bz;refine rW (T8 λe=>h (Qg some e) ..) ?_;decide
theorem Bo{PO k}:yi (bT PO (mm.drop k))<=98:=by unfold yi;have h1:=yo (bT PO (mm.drop k));have h2:(bT PO (mm.drop k)).countP gA<=mm.countP gA:=List.Sublist.countP_le ((Uy _).trans (List.drop_sublist _ _));have h3:2*mm.countP gA+1<=98:=wd.sp;exact aF (c9 0x1029486627b4162732029b5121112a1011 rfl h1 h2 h3)
section
variable {d k a b i PP x PO en fi pl ph:Nat}{L fs:aR}{g:G0}{sm tx:O}{s s2 kd ende va w:aC}{PR Qu tF:List bS}{Qm:aZ}{e:Bool}{σ:St}{z:c6}{l:List c6}{K:Fl->aR->St->Prop}{PX:St->Bool}{Q:V->St->Prop}{q:List V}
noncomputable def bI(PP:Nat)(PR:List bS):Nat->Nat->List bS->aC->Prop:=λph k tl s=>tl=PR/\s=[]/\(k=PP/\ph=1/\PP≠bp PP\/k=bp PP/\ph=0)
theorem GP:∃ph,ph<=98/\bI PP PR ph PP PR []:=by
 by_cases h:PP=bp PP
 ·exact ⟨0,bu _,rfl,rfl,.inr ⟨h,rfl⟩⟩
 ·exact ⟨1,by decide,rfl,rfl,.inl ⟨rfl,rfl,h⟩⟩
theorem Iu(hp:PP<=mm.length):Jt d g cC (bp PP) (bI PP PR) where
 st:=⟨.inl rfl,by decide⟩
 le h:=by
  rcases h.2.2 with ⟨rfl,_⟩|⟨rfl,_⟩
  ·exact (nA hp).1
  ·exact aQ _
 go {ph k tl s sm tx Q} h hk H kk:=by
  obtain ⟨rfl,rfl,⟨rfl,rfl,Qs⟩|⟨h,_⟩⟩:=h
  ·have hx:∃x,mm[k]? = some x/\Cf x=true:=by
    unfold bp at hk;generalize hd:mm.drop k=z4;induction z4 with
    |nil=>rw[hd]at hk;exact Uj rfl hk
    |cons x r=>
     refine ⟨x,(rJ hd).1,?_⟩;generalize hb:Cf x=z3;induction z3 with
     |true=>rfl
     |false=>rw[hd,Ui,hb]at hk;exact Uj rfl hk
   obtain ⟨x,hx,hb⟩:=hx;refine Ht hx ((uo λe=>j9 (e▸List.mem_of_getElem? hx)).trans hb) (cj tl) H λH'=>?_;rw[show (mm.drop k).takeWhile (λx=>mz x==true)=(mm.drop k).takeWhile Cf from q5 λy hy=>by refine rW (uo λe=>j9 (e▸List.mem_of_mem_drop hy) ..) ?_;cases Cf y<;>rfl]at H';exact kk (k':=bp k) (ph':=0) H' ⟨rfl,rfl,.inr ⟨rfl,rfl⟩⟩ Nat.one_pos
  ·exact Uj h hk
structure vI(PO en:Nat)(tF:List bS)(va:aC)(ph k:Nat)(tl:List bS)(s:aC):Prop where
 p:ph=yi (bT PO (mm.drop k))
 e:k+(bT PO (mm.drop k)).length=en
 t:tl++(rd PO (bT PO (mm.drop k))).2=tF
 v:s++(rd PO (bT PO (mm.drop k))).1=va
theorem Ac(hs:i4 PO)(hw:w=mm.drop k)(hp:bT PO w≠[])(hq:Cq q)(Qi:q.length<=50000)(QP:s.length+(rd PO (bT PO w)).1.length<=a8)(H:Sv k sm tx)(kk:∀{P6 P9 n out fs},Sv (k+n) P6 P9->Cv PO w n out fs->Q (.bool true) (hA .C g P6 P9 (q++fs.map cy) (s++out) [])):
 G (rF (d+9) (Fm [PO]) [.ref 0] (hA .C g sm tx q s [])) Q:=by
 rcases hs with rfl|rfl|rfl
 ·exact yr (f:=563) (lost:=Jj) (.inl rfl) (by decide) ⟨rfl,rfl⟩ hw hp hq Qi QP H kk
 ·exact yr (f:=570) (lost:=Jg) (.inr (.inl rfl)) (by decide) ⟨rfl,rfl⟩ hw hp hq Qi QP H kk
 ·exact HJ hw hp hq Qi QP H kk
theorem yd(hs:i4 PO)(hw:w=mm.drop k)(hp:bT PO w=[])(QH:PO=62->mm[k]?≠some 62)(hq:Cq q)(Qi:q.length<=50000)(H:Sv k sm tx)(kk:∀{P6 P9},Sv (QI k) P6 P9->Q (.bool true) (hA .C g P6 P9 (q++(Ej PO mm[k]?).map cy) s [])):
 G (rF (d+9) (Fm [PO]) [.ref 0] (hA .C g sm tx q s [])) Q:=by
 have e:∀{l},wm PO=l->Ej PO mm[k]? = Of mm[k]? l:=λh=>by subst h;cases mm[k]? <;> rfl
 rcases hs with rfl|rfl|rfl
 ·rw[e (l:=Jj) rfl]at kk;exact vT (f:=563) (by decide) ⟨rfl,rfl⟩ hw hp hq Qi H kk
 ·rw[e (l:=Jg) rfl]at kk;exact vT (f:=570) (by decide) ⟨rfl,rfl⟩ hw hp hq Qi H kk
 ·rw[e (l:=Ju) rfl]at kk;exact C3 hw hp (QH rfl) hq Qi H kk
theorem JD(hs:i4 PO)(htF:tF.length<=5000)(hva:va.length<=5000):Jt d g [PO] en (vI PO en tF va) where
 st:=by
  rcases hs with rfl|rfl|rfl
  ·exact ⟨.inr (.inl rfl),by decide⟩
  ·exact ⟨.inr (.inr (.inl rfl)),by decide⟩
  ·exact ⟨.inr (.inr (.inr (.inl rfl))),by decide⟩
 le h:=h.e▸bC _ _
 go {ph k tl s sm tx Q} h hk H kk:=by have l3:=Qg List.length h.t;have l4:=Qg List.length h.v;have h2:=h.e;rw[aP]at l3 l4;refine Ac hs rfl (λe=>hk (by rw[e]at h2;exact h2)) (cj tl) (rW bA (aF (c9 0x11c3507b6113887501101211841 rfl (aU l3 :) htF))) (aH (aF (c9 0x2118413887b6113887501101211841 rfl (aU l4 :) hva):_<=5000) (by decide)) H λ{P6 P9 n out fs} H' C=>?_;have hrd:=C.rd;have Qf:=C.lt;have RV:=Qg List.length (uP C.ok);rw[UR]at hrd Qf RV;rw[aP,Uh,Ue C.le]at RV;exact rW ba.symm (kk (ph':=_) H' ⟨rfl,by exact ce (aF (xg 0x430184872b211143184121101841 rfl (aU h2 :) (aU RV.symm :))) (aF (xg 0x214301848b814318411110184211 rfl (aU h2.symm :) (aU RV :))),by exact rW h.t.symm (rW hrd (rW b9 rfl)),by exact rW h.v.symm (rW hrd (rW b9 rfl))⟩ (h.p▸Qf))
theorem yK{tl}(h:vI PO en tF va ph en tl s):bT PO (mm.drop en)=[]/\tl=tF/\s=va:=by have h3:=h.t;have h4:=h.v;have:bT PO (mm.drop en)=[]:=List.eq_nil_iff_length_eq_zero.mpr (by have:=h.e;exact ce (aF (cV 0x117b2101101841 rfl (aU this :))) (aF (fC 0x71b11 rfl )));rw[this,yq,bX]at h3 h4;exact ⟨this,h3,h4⟩
noncomputable def aI(pl:Nat)(PR:List bS)(va:aC):Nat->Nat->List bS->aC->Prop:=λph k tl s=>k=pl/\tl=PR/\s=va
theorem KE:Jt d g c7 pl (aI pl PR va) where
 st:=⟨.inr (.inr (.inr (.inr rfl))),by decide⟩
 le h:=aU h.1
 go h hk _ _:=Uj h.1 hk
noncomputable def xu(e:Bool):Int:=bif e then 4 else 3
noncomputable abbrev gO(e:Bool)(Qm:aZ):G0:=⟨xu e,[88],Qm,ky Qm.length⟩
noncomputable abbrev HA(e:Bool)(Qm:aZ)(sm tx:O)(PR:List bS)(s:aC):St:=hA .C (gO e Qm) sm tx (PR.map cy) s []
theorem ur(h:Qm.length<=200):Hi (gO e Qm):=⟨match e with|false=>.inl rfl|true=>.inr rfl,rfl,cO h⟩
noncomputable def lp(d:Nat)(PX:St->Bool)(l:List c6)(L:aR)(σ:St):Option (Fl×aR×St):=gv (λv L s=>cU (cD (d+10)) s (.many [38,123,124,87,20,4]) v L) PX (λL s=>PT (cD (d+10)) lB 10 L s) (l.map oZ) L σ
theorem Fa.set{v}(h:Fa L fs)(hv:∀σ n,1<=n->rv σ n v=v):Fa (aX i v L) (aX i v fs):=by
 refine ⟨λ{j w} hj=>?_,λ{j w} hj=>?_⟩
 ·rw[br]at hj ⊢;by_cases q:j=i
  ·rw[T6 q]at hj ⊢;exact hj
  ·rw[T8 q]at hj ⊢;exact h.g hj
 ·rw[br]at hj;by_cases q:j=i
  ·rw[T6 q]at hj;obtain rfl:=aK hj;exact hv
  ·rw[T8 q]at hj;exact h.cl hj
theorem Mz(hs:∀s,PX s=true)(h:Fa L (BL e))(k:∀{L1},Fa L1 (LL e z.kind z.a z.b z.told z.row z.ende)->W (PT (cD (d+10)) lB 10 L1 σ) (Lp K λL s=>W (lp d PX l L s) K)):W (lp d PX (z::l) L σ) K:=
 J3 (hs _) rfl (k ((((((h.set (i:=38) (v:=.str z.kind) λJ J J=>rfl).set (i:=123) (v:=.int (z.a:Nat)) λJ J J=>rfl).set (i:=124) (v:=.int (z.b:Nat)) λJ J J=>rfl).set (i:=87) (v:=gp z.told) λJ J J=>rfl).set (i:=20) (v:=fH z.row) λJ J J=>rfl).set (i:=4) (v:=.str z.ende) λJ J J=>rfl))
theorem kK{I:Nat->Nat->List bS->aC->Prop}(hs:∀s,PX s=true)(R:Jt d (gO e Qm) kd a I)(ha:a<=mm.length)(hb:b<=mm.length)(Rn:Qm.length<=200)(ht:Qu.length<=5000)(Rq:ende≠bz)
 (hE:∀{ph tl s sm tx Q},I ph a tl s->Sv a sm tx->(∀{P6 P9},Sv b P6 P9->Q (.bool true) (HA e Qm P6 P9 Qu s2))->G (rF (d+9) (Fm kd) [.ref 0] (HA e Qm sm tx tl s)) Q)
 (hp:ph<=98) (hi:I ph k PR s) (H:Sv k sm tx) (hB:Fa L (BL e)) (kk:∀{L' P6 P9},Sv b P6 P9->Fa L' (BL e)->W (lp d PX l L' (HA e Qm P6 P9 Qu s2)) K):
 W (lp d PX (⟨kd,a,b,Qu,Qm++[(ky Qm.length,s2)],ende⟩::l) L (HA e Qm sm tx PR s)) K:=
 Mz hs hB λhF=>step (X:=λsm tx=>HA e Qm sm tx Qu s2) R ha hb hE Iq hp hi H hF λH' F'=>A7 F' Rq rfl ht (aH Rn (by decide)) H' λL' F=>kk H' (F.drop (y:=_))
theorem ot{I:Nat->Nat->List bS->aC->Prop}(hs:∀s,PX s=true)(R:Jt d (gO e Qm) kd a I)(ha:a<=mm.length)(hb:b<=mm.length)(Rn:Qm.length<=200)(ht:Qu.length<=5000)(hk:∀p∈Qm,p.1.length<=10)
 (hE:∀{ph tl s sm tx Q},I ph a tl s->Sv a sm tx->(∀{P6 P9},Sv b P6 P9->Q (.bool true) (hZ .C (gO e Qm) P6 P9 (zQ (gO e Qm) (Qu.map cy)) s2 [120] (zD (gO e Qm) s2) []))->G (rF (d+9) (Fm kd) [.ref 0] (HA e Qm sm tx tl s)) Q)
 (hp:ph<=98) (hi:I ph k PR s) (H:Sv k sm tx) (hB:Fa L (BL e)) (kk:∀{L' σ'},K .next L' σ'):
 W (lp d PX [⟨kd,a,b,Qu,Qm++[(ky Qm.length,s2)],bz⟩] L (HA e Qm sm tx PR s)) K:=
 Mz hs hB λhF=>step (X:=λsm tx=>hZ .C (gO e Qm) sm tx (zQ (gO e Qm) (Qu.map cy)) s2 [120] (zD (gO e Qm) s2) []) R ha hb hE (λH=>⟨yV H (λσ n h=>yU (dO (cj Qu) (cj _)) σ h) (λσ n h=>by
  unfold zD;by_cases q:(gO e Qm).ty=3
  ·exact rW (T6 q ..) rfl
  ·exact rW (T8 q ..) (fm (Uk (by decide) h))) λJ J J=>rfl,Au H⟩) hp hi H hF λH' F'=>IZ F' (ur Rn) (by clear F' hF hB hE R;induction e<;>rfl) ht (J1 hk) H' λL' σ'=>E2 (hs _) kk
theorem j4(hs:∀s,PX s=true)(Z:Sz PP PR Qm)(H:Sv PP sm tx)(hg:iY σ 10=hK (xu e) Qm sm tx (PR.map cy))(hB:Fa L (BL e))(kk:∀{L'},Fa L' (BL e)->W (lp d PX l L' (HA e Qm sm tx PR [])) K):W (lp d PX (sK PP PR Qm::l) L σ) K:=
 have hm:=cS;have hr:=Z.r;have ht:=Z.t;have hp:=Z.p
 Mz hs hB λhF=>x8 hp (aF (c9 0x1112c7b51c8730110121121111 rfl hr hp hm)) (aF (c9 0x2113887b61c8730130111310394211 rfl ht hp hm)) H hg hF λF=>kk F
theorem pD(hs:∀s,PX s=true)(Z:Sz PP PR Qm)(hx:mm[bp PP]? = some x)(QH:x≠62)(H:Sv PP sm tx)(hB:Fa L (BL e))(kk:∀{L' P6 P9},Sv (vc PP x) P6 P9->Fa L' (BL e)->W (lp d PX l L' (HA e Qm P6 P9 (Ci PR x) (kI x))) K):W (lp d PX (sB PP PR Qm x::l) L (HA e Qm sm tx PR [])) K:=by have hm:=cS;have hr:=Z.r;have ht:=Z.t;have hp:=Z.p;have hb:=oy (x:=x);clear Z;obtain ⟨ph,TF,hi⟩:=GP (PP:=PP) (PR:=PR);refine kK hs (Iu hp) (nA hp).2 (mf hp hx).1 (aF (c9 0x11c87b41c8730110121121111 rfl hr hp hm)) (by unfold Ci;exact rW aP (aF (mD 0x3218413887b61a13110111310394211c873013 rfl hm ht hp hb))) (by decide) (λh H kk=>?_) TF hi H hB kk;obtain ⟨rfl,rfl,_⟩:=h;exact Gg hx ((uo λe=>j9 (e▸List.mem_of_getElem? hx)).trans (yp rfl hx)) QH (cj _) (rW bA (aF (c9 0x21c3507b61c8730130111310394211 rfl ht hp hm))) (by decide) H λH'=>rW ba.symm (kk H')
theorem GT(hs:∀s,PX s=true)(Z:Sz PP PR Qm)(hx:mm[bp PP]? = none)(H:Sv PP sm tx)(hB:Fa L (BL e))(kk:∀{L' σ'},K .next L' σ'):W (lp d PX [⟨cC,bp PP,bp PP,PR++[.w Bk],zo Qm,eA⟩] L (HA e Qm sm tx PR [])) K:=by have hm:=cS;have hr:=Z.r;have ht:=Z.t;have hp:=Z.p;clear Z;obtain ⟨ph,TF,hi⟩:=GP (PP:=PP) (PR:=PR);refine kK (s2:=[]) hs (Iu hp) (nA hp).2 (nA hp).2 (aF (c9 0x11c87b41c8730110121121111 rfl hr hp hm)) (by refine rW aP ?_;show _+1<=_;exact aF (c9 0x2b213887b61c8730130111310394211 rfl ht hp hm)) (by decide) (λh H kk=>?_) TF hi H hB λJ J=>E2 (hs _) kk;clear hi;obtain ⟨rfl,rfl,_⟩:=h;exact Hv hx (cj _) (rW bA (aF (c9 0x21c3507b61c8730130111310394211 rfl ht hp hm))) H λH'=>rW ba.symm (kk H')
theorem LB(hs:∀s,PX s=true)(Z:Sz PP PR Qm)(hx:mm[bp PP]? = some 62)(H:Sv PP sm tx)(hB:Fa L (BL e))(kk:∀{L' σ'},K .next L' σ'):W (lp d PX [⟨cC,bp PP,bp PP+1,PR++[.w JL],zo Qm,bz⟩] L (HA e Qm sm tx PR [])) K:=by have hm:=cS;have hr:=Z.r;have ht:=Z.t;have hp:=Z.p;obtain ⟨ph,TF,hi⟩:=GP (PP:=PP) (PR:=PR);refine ot (s2:=[]) hs (Iu hp) (nA hp).2 (bY.mp hx).1 (aF (c9 0x11c87b41c8730110121121111 rfl hr hp hm)) (by refine rW aP ?_;show _+1<=_;exact aF (c9 0x2b213887b61c8730130111310394211 rfl ht hp hm)) Z.k (λh H kk=>?_) TF hi H hB kk;clear hi Z;obtain ⟨rfl,rfl,_⟩:=h;exact Hj (ur (aF (c9 0x11c87b41c8730110121121111 rfl hr hp hm))) hx (cj _) (rW bA (aF (c9 0x2b2c3507b61c8730130111310394211 rfl ht hp hm))) H λH'=>rW ba.symm (kk H')
theorem yP(hp:PP<=mm.length)(hx:mm[bp PP]? = some x):(kI x++(rd (gn x) (uN PP x)).1).length<=5000:=by obtain ⟨q1,q2,q3,q4⟩:=mf hp hx;have h1:=(lU (PO:=gn x) _ (uN PP x) (aQ _)).1;have hv:=uA (x:=x);have hm:=cS;exact rW aP (aF (xX 0x4518413887b61a72511c87311111211213183131411 rfl h1 q4 q3 hm hv))
theorem pw(hs:∀s,PX s=true)(Z:Sz PP PR Qm)(hx:mm[bp PP]? = some x)(hk:mm[dL PP x]?≠some 62)(H:Sv (vc PP x) sm tx)(hB:Fa L (BL e))(kk:∀{L' P6 P9},Sv (dL PP x+(kA mm[dL PP x]?).length) P6 P9->Fa L' (BL e)->W (lp d PX l L' (HA e Qm P6 P9 (nQ PP PR x) (kI x++(rd (gn x) (uN PP x)).1))) K):W (lp d PX (sV PP PR Qm x::l) L (HA e Qm sm tx (Ci PR x) (kI x))) K:=by
 have hm:=cS;have hr:=Z.r;have ht:=Z.t;have hp:=Z.p;obtain ⟨q1,q2,q3,q4⟩:=mf hp hx;have Rf:=gU (PP:=PP) (x:=x) (PR:=PR);have TA:(nQ PP PR x).length=(Ci PR x++(rd (gn x) (uN PP x)).2).length+(Ej (gn x) mm[dL PP x]?).length:=aP;have hbm:dL PP x+(kA mm[dL PP x]?).length<=mm.length:=by
  generalize h:mm[dL PP x]? = z2;induction z2 with
  |none=>exact q3
  |some y=>exact (bY.mp h).1
 refine kK hs (JD (en:=dL PP x) (la x) (tF:=Ci PR x++(rd (gn x) (uN PP x)).2) (aF (OJ 0x6113887b6151c6184140292721858b51131141842013120111110394211c873013 rfl hm ht hp q3 q4 Rf (aU TA.symm :))) (yP hp hx)) q3 hbm (aF (c9 0x11c87b41c8730110121121111 rfl hr hp hm)) (aF (xX 0x5113887b6140292721858b51131141842013120111110394211c873013 rfl hm ht hp q3 q4 Rf)) (Ff hk) (λh H kk=>?_) Bo ⟨rfl,rfl,rfl,rfl⟩ H hB kk;obtain ⟨h1,rfl,rfl⟩:=yK h;refine yd (la x) rfl h1 (λJ=>hk) (cj _) (rW bA (aF (OJ 0x61c3507b6151c6184140292721858b51131141842013120111110394211c873013 rfl hm ht hp q3 q4 Rf (aU TA.symm :)))) H λH'=>rW ba.symm ?_;rw[IH]at H';exact kk H'
theorem H1(hs:∀s,PX s=true)(Z:Sz PP PR Qm)(hx:mm[bp PP]? = some x)(hk:mm[dL PP x]? = some 62)(Qw:gn x=62)(H:Sv (vc PP x) sm tx)(hB:Fa L (BL e))(kk:∀{L' σ'},K .next L' σ'):W (lp d PX [sV PP PR Qm x] L (HA e Qm sm tx (Ci PR x) (kI x))) K:=by
 have hm:=cS;have hr:=Z.r;have ht:=Z.t;have hp:=Z.p;obtain ⟨q1,q2,q3,q4⟩:=mf hp hx;have Rf:=gU (PP:=PP) (x:=x) (PR:=PR);have Qe:nQ PP PR x=Ci PR x++(rd (gn x) (uN PP x)).2:=by unfold nQ;exact rW hk (bX _)
 have Qf:=(bY.mp hk).1;rw[show sV PP PR Qm x=⟨[gn x],dL PP x,dL PP x+1,nQ PP PR x,Bb PP Qm x,bz⟩ by unfold sV;rw[hk];rfl];refine ot hs (JD (en:=dL PP x) (la x) (tF:=nQ PP PR x) (aF (xX 0x5113887b6140292721858b51131141842013120111110394211c873013 rfl hm ht hp q3 q4 Rf)) (yP hp hx)) q3 Qf (aF (c9 0x11c87b41c8730110121121111 rfl hr hp hm)) (aF (xX 0x5113887b6140292721858b51131141842013120111110394211c873013 rfl hm ht hp q3 q4 Rf)) Z.k (λh H kk=>?_) Bo ⟨rfl,rfl,Qe.symm,rfl⟩ H hB kk;obtain ⟨h1,rfl,rfl⟩:=yK h;rw[show Fm [gn x]=577 by rw[Qw];rfl];exact Hk (ur (aF (c9 0x11c87b41c8730110121121111 rfl hr hp hm))) hk (cj _) (rW bA (aF (xX 0x51c3507b6140292721858b51131141842013120111110394211c873013 rfl hm ht hp q3 q4 Rf))) H λH'=>kk (by rw[nq hk]at H';exact H')
theorem yO(hs:∀s,PX s=true)(Rn:Qm.length<=200)(Rg:pl<=mm.length)(hl:PR.length<=4000)(QH:mm[pl]?≠some 62)(H:Sv pl sm tx)(hB:Fa L (BL e))(kk:∀{L' P6 P9},Sv (pl+bif cN mm[pl]? then 1 else 0) P6 P9->Fa L' (BL e)->W (lp d PX l L' (HA e Qm P6 P9 (PR++bif cN mm[pl]? then [] else [.w (wT mm[pl]?)]) va)) K):
 W (lp d PX (⟨c7,pl,pl+bif cN mm[pl]? then 1 else 0,PR++bif cN mm[pl]? then [] else [.w (wT mm[pl]?)],Qm++[(ky Qm.length,va)],mA mm[pl]?⟩::l) L (HA e Qm sm tx PR va)) K:=by
 have Sw:=Kq QH λe=>j9 (List.mem_of_getElem? e);have hb:pl+(bif cN mm[pl]? then 1 else 0)<=mm.length:=by
  generalize h:mm[pl]? = z1;induction z1 with
  |none=>exact Rg
  |some y=>
   have:=(bY.mp h).1;cases cN (some y) with
   |true=>exact this
   |false=>exact Rg
 have hls:(bif cN mm[pl]? then [] else [bS.w (wT mm[pl]?)]).length<=1:=by
  cases cN mm[pl]? with
  |true=>exact bu _
  |false=>exact aQ _
 refine kK (ph:=0) hs KE Rg hb Rn (rW aP (aF (cV 0x1018413887b61a1111fa074011 rfl hl hls))) (Ff QH) (λh H kk=>?_) (bu _) ⟨rfl,rfl,rfl⟩ H hB kk;obtain ⟨_,rfl,rfl⟩:=h;refine Ia (c:=mm[pl]?) rfl QH (cj _) (rW bA (aF (fC 0x1c3507b61fa074011 rfl hl))) H λH'=>?_;rw[Sw]at H' ⊢;exact rW ba.symm (kk H')
theorem GQ(hs:∀s,PX s=true)(Rn:Qm.length<=200)(J1:∀p∈Qm,p.1.length<=10)(hl:PR.length<=4000)(QH:mm[pl]? = some 62)(H:Sv pl sm tx)(hB:Fa L (BL e))(kk:∀{L' σ'},K .next L' σ'):
 W (lp d PX [⟨c7,pl,pl+1,PR,Qm++[(ky Qm.length,va)],bz⟩] L (HA e Qm sm tx PR va)) K:=by
 have Qf:=(bY.mp QH).1;refine ot (ph:=0) hs KE (Nat.le_of_lt Qf) Qf Rn (aF (fC 0x113887b61fa074011 rfl hl)) J1 (λh H kk=>?_) (bu _) ⟨rfl,rfl,rfl⟩ H hB kk;obtain ⟨_,rfl,rfl⟩:=h;exact I1 (ur Rn) QH (cj _) (rW bA (aF (fC 0x1c3507b61fa074011 rfl hl))) H λH'=>kk H'
theorem wY(hs:∀s,PX s=true)(S:jv PP PR Qm l):∀{σ:St}{L:aR}{sm tx:O},Sv PP sm tx->iY σ 10=hK (xu e) Qm sm tx (PR.map cy)->Fa L (BL e)->(∀{L' σ'},K .next L' σ')->W (lp d PX l L σ) K:=by
 have hm:=cS;induction S with
 |eof Z hx=>intro σ L sm tx H hg hB kk;exact j4 hs Z H hg hB λF=>GT hs Z hx H F kk
 |gt Z hx=>intro σ L sm tx H hg hB kk;exact j4 hs Z H hg hB λF=>LB hs Z hx H F kk
 |@vend p t w x Z hx QH hk=>
  refine λσ L sm tx H hg hB kk=>j4 hs Z H hg hB λF=>pD hs Z hx QH H F λH F=>?_;by_cases hy:mm[dL p x]? = some 62
  ·refine H1 hs Z hx hy ?_ H F kk;have h:=yp (p:=pn (gn x)) rfl hy;rcases la x with e|e|e
   ·rw[e]at h;exact bU h.symm
   ·rw[e]at h;exact bU h.symm
   ·exact e
  ·exact pw hs Z hx hy H F λJ J=>E2 (hs _) kk
 |@usp p t w x y l Z hx QH hy Se Qw S ih=>refine λσ L sm tx H hg hB kk=>j4 hs Z H hg hB λF=>pD hs Z hx QH H F λH F=>pw hs Z hx (rW hy (λh=>Se (aK h))) H F λH F=>?_;rw[hy]at H;exact ih H (Ou H (cj _)) F kk
 |@qend p t w x y Z hx QH hy Se Qw hk=>
  refine λσ L sm tx H hg hB kk=>j4 hs Z H hg hB λF=>pD hs Z hx QH H F λH F=>pw hs Z hx (rW hy (λh=>Se (aK h))) H F λ{L4 sm4 tx4} H F=>?_;have hr:=Z.r;have ht:=Z.t;have hp:=Z.p;obtain ⟨q1,q2,q3,q4⟩:=mf hp hx;have Rf:=gU (PP:=p) (x:=x) (PR:=t);have H:Sv (dL p x+1) sm4 tx4:=by rw[hy]at H;exact H
  by_cases h2:mm[dL p x+1]? = some 62
  ·exact rW (show sA p t w x=⟨c7,dL p x+1,dL p x+1+1,nQ p t x,Bb p w x,bz⟩ by unfold sA Mg;rw[h2];exact Qg (λl=>c6.mk _ _ _ l _ _) (bX _) ..) (GQ hs (aF (c9 0x11c87b41c8730110121121111 rfl hr hp hm)) Z.k (aF (xX 0x51fa07b5140292721858b51131141842013120111110394211c873013 rfl hm ht hp q3 q4 Rf)) h2 H F kk)
  ·exact yO hs (aF (c9 0x11c87b41c8730110121121111 rfl hr hp hm)) (bY.mp hy).1 (aF (xX 0x51fa07b5140292721858b51131141842013120111110394211c873013 rfl hm ht hp q3 q4 Rf)) h2 H F λJ J=>E2 (hs _) kk
 |@qgo p t w x y l Z hx QH hy Se Qw hk S ih=>
  refine λσ L sm tx H hg hB kk=>j4 hs Z H hg hB λF=>pD hs Z hx QH H F λH F=>pw hs Z hx (rW hy (λh=>Se (aK h))) H F λ{L4 sm4 tx4} H F=>?_;have hr:=Z.r;have ht:=Z.t;have hp:=Z.p;obtain ⟨q1,q2,q3,q4⟩:=mf hp hx;have Rf:=gU (PP:=p) (x:=x) (PR:=t);have H:Sv (dL p x+1) sm4 tx4:=by rw[hy]at H;exact H
  exact yO hs (aF (c9 0x11c87b41c8730110121121111 rfl hr hp hm)) (bY.mp hy).1 (aF (xX 0x51fa07b5140292721858b51131141842013120111110394211c873013 rfl hm ht hp q3 q4 Rf)) (λh=>by rw[h]at hk;cases hk) H F λH F=>ih H (Ou H (cj _)) F kk
end
end
section
noncomputable def CD(p:aC):Bool:=p.all (λc=>!inv c)&&(Nat.ble p.length 12&&Nat.ble (p.countP gA) 1)
structure Js(p:aC):Prop where
 iv:∀c∈p,inv c=false
 len:p.length<=12
 sp:p.countP gA<=1
theorem zj{p}(h:CD p=true):Js p:=by unfold CD at h;simp only[Us]at h;exact ⟨λc hc=>(Bool.not_eq_true' _).mp (a9.mp h.1 c hc),cg h.2.1,cg h.2.2⟩
noncomputable def Oa:PE->aC:=λe=>match e with|.i (.str s)=>s|_=>[]
noncomputable def Je:bg:=match (L3.f773[0]? : Option PS) with|some (PS.ae (.Q es))=>es.map Oa|_=>[]
noncomputable def I6:bg:=[[62],[],[34,62],[39,62]]
theorem Gl:Je.length=30:=by decide +kernel
theorem E7:(Je.all CD&&I6.all CD)=true:=by decide +kernel
noncomputable def Fi:aC:=[48,49,50,51,52,53,54,55,56,57,97,98,67,68,101,70]
theorem JE:(Fi.all λc=>!inv c && !gA c)=true:=by decide +kernel
section
variable {d b:Nat}{σ:St}{n:Int}{L:aR}{c:Cx}{K:Fl->aR->St->Prop}{Q:V->St->Prop}
theorem My(hC:j' σ):rF (d+1) 773 [] σ=some (.I (.list (Je.map V.str)),σ):=
 kX ⟨rfl,rfl⟩ rfl (vQ (o:=.list (Je.map V.str)) (v:=.I (.list (Je.map V.str))) hC rfl (λs=>rfl) λJ=>⟨rfl,rfl⟩)
theorem Ni(hC:j' σ):rF (d+1) 780 [] σ=some (.I (.list (I6.map V.str)),σ):=
 kX ⟨rfl,rfl⟩ rfl (vQ (o:=.list (I6.map V.str)) (v:=.I (.list (I6.map V.str))) hC rfl (λs=>rfl) λJ=>⟨rfl,rfl⟩)
theorem k5{e:PE}{x:Int}{k:Nat}(he:aM c e L σ=some (.int x,σ))(hk:0<k){Z:Prop}(kk:∀r:Nat,r<k->aM c (.J .mod e (.i (.int (k:Nat)))) L σ=some (.int (r:Nat),σ)->Z):Z:=by have hki:(0:Int)<(k:Nat):=Int.ofNat_lt.mpr hk;have h0:0<=Int.fmod x (k:Nat):=Int.fmod_nonneg_of_pos _ hki;have h1:Int.fmod x (k:Nat)<(k:Nat):=Int.fmod_lt_of_pos _ hki;refine kk (Int.fmod x (k:Nat)).toNat ((Int.toNat_lt h0).mpr h1) (jz he aD ?_);show (if (0:Int)<(k:Nat) then some (V.int (Int.fmod x (k:Nat)),σ) else none)=_;exact rW (T6 hki ..) (rW (Int.toNat_of_nonneg h0 ..) rfl)
theorem zw{e x k}(he:aM c e L σ=some (.int x,σ))(hk:0<k/\k<=a8):aM c (.J .fdiv e (.i (.int (k:Nat)))) L σ=some (.int (Int.fdiv x (k:Nat)),σ):=
 jz he aD (T6 ⟨Int.ofNat_lt.mpr hk.1,Int.ofNat_le.mpr hk.2⟩)
inductive PI(n:Int)(b:Nat)(σ:St):Nat->aR->St->Prop
 |mk {j k:Nat}{f:aC}:k<10 ^ j->f.length+j<=7->(f=[]->1<=j)->(∀c∈f,c∈Fi)->PI n b σ j [(31,.int n),(127,.int (b:Nat)),(128,.int (k:Nat)),(129,.str f)] σ
theorem CW(hb:b=10\/b=16){z k}(hk:k<10 ^ 7)(kk:∀k' f',f'.length<=7->(∀c∈f',c∈Fi)->W (PT (cD d) (L3.f801.drop 4) z [(31,.int n),(127,.int (b:Nat)),(128,.int (k':Nat)),(129,.str f')] σ) K):
 W (PT (cD d) (L3.f801.drop 3) z [(31,.int n),(127,.int (b:Nat)),(128,.int (k:Nat)),(129,.str [])] σ) K:=by
 refine x5 (lW (PI n b σ) (λ{n0 L0 s0} h=>?_) (by decide:7<FU) (.mk hk (by decide) (λJ=>by decide) λc hc=>Uj hc US));induction h with|@mk k f hk hl hf0 hf=>
 refine .mk (v:=Nat.blt 0 k||f==[]) (sN (JV (a:=0) (n:=k) rfl) (bi rfl aD rfl)) ?_;cases ht:Nat.blt 0 k||f==[] with
 |false=>exact kk k f (aF (cV 0x177b31772101841 rfl hl)) hf
 |true=>
  clear kk;cases n0 with
  |zero=>
   obtain rfl:k=0:=by have:k<1:=hk;exact ce (aF (fC 0x17b21a1b11 rfl this)) (aF (fC 0x71b11 rfl ))
   exact Uj (hf0 (eq_of_beq ht)) (by decide)
  |succ j=>
   have R5:0<b/\b<=16/\10<=b:=by rcases hb with rfl|rfl<;>decide
   have hm:k%b<16:=Uk (Nat.mod_lt _ R5.1) R5.2.1;have hbi:(0:Int)<(b:Nat):=Int.ofNat_lt.mpr R5.1;refine aV (v:=.str (Fi[k%b]::f)) (iw (x:=[Fi[k%b]]) (y:=f) (eJ (s:=Fi) (j:=k%b) aD ?_ (da (show k%b<16 from hm))) rfl (aH (rW (List.length_singleton ..) (aF (cV 0xa18387b317721b01851 rfl hl):_<=8)) (by decide))) (sW (L1:=[(31,.int n),(127,.int (b:Nat)),(128,.int ((k/b:Nat):Int)),(129,.str (Fi[k%b]::f))]) (σ1:=σ) ?_ (nW ⟨j,Ur _,.mk (k:=k/b) (f:=Fi[k%b]::f) ?_ (rW (Ug ..) (aF (cV 0x1b18477b317721b01851 rfl hl))) (λh=>by cases h) λc hc=>?_⟩))
   ·show (if (0:Int)<(b:Nat) then some (V.int (Int.fmod (k:Nat) (b:Nat)),σ) else none)=_;exact rW (T6 hbi ..) (rW (Int.fmod_eq_emod_of_nonneg _ (UH _) ..) rfl)
   ·refine rW (eT ..) ?_;show Option.map _ (if (0:Int)<(b:Nat)/\((b:Nat):Int)<=(a8:Nat) then some (V.int (Int.fdiv (k:Nat) (b:Nat)),σ) else none)=_;exact rW (T6 ⟨hbi,Int.ofNat_le.mpr (aH R5.2.1 (by decide))⟩ ..) (rW (Int.fdiv_eq_ediv_of_nonneg _ (UH _) ..) rfl)
   ·refine Nat.div_lt_of_lt_mul (Uk ?_ (Nat.mul_le_mul_right _ R5.2.2));rwa [Nat.pow_succ,Nat.mul_comm]at hk
   ·rcases b8.mp hc with rfl|hc
    ·exact List.getElem_mem _
    ·exact hf c hc
theorem E3{us:bg}{r}(h:r<us.length):(us.map V.str)[r]? = some (.str us[r]):=by refine rW (UV ..) (rW (da h ..) ?_);rfl
theorem NT(hC:j' σ)(kk:∀p,Js p->Q (.str p) σ):G (rF (d+2) 801 [.int n] σ) Q:=by
 refine xP ⟨rfl,rfl⟩ rfl (k5 (c:=cD (d+1)) (L:=[(31,.int n)]) (σ:=σ) (e:=.q 31) (x:=n) (k:=32) rfl (by decide) λr hr em=>iB (x:=Nat.blt r 30) (bi em aD (Qg some (vO (b:=30)))) (λh=>?_) λh=>nW ?_)
 ·have Qf:r<Je.length:=Gl▸cg h;exact jD (HU (fQ rfl (My (d:=d) hC)) em (E3 Qf)) (kk _ (zj (a9.mp (Bool.and_eq_true_iff.mp E7).1 _ (List.getElem_mem Qf))))
 have fin:∀b:Nat,(b=10\/b=16)->W (PT (cD (d+1)) (L3.f801.drop 2) σ.length [(31,.int n),(127,.int (b:Nat))] σ) λfl J s=>Q (xS fl) s:=λb hb=>by
  refine k5 (c:=cD (d+1)) (L:=[(31,.int n),(127,.int (b:Nat))]) (σ:=σ) (k:=1300000) (zw (k:=32) (e:=.q 31) (x:=n) rfl (by decide)) (by decide) λk hk ek=>tW (v:=.I (.tuple [.int (k:Nat),.str []])) (jS (ed ek aD) rfl) rfl rfl (CW hb (Nat.lt_trans hk (by decide)) λk' f' h1 h2=>?_);have TU:∀c∈f',inv c=false/\gA c=false:=λc hc=>by have:=a9.mp JE c (h2 c hc);rwa [Us,Bool.not_eq_true',Bool.not_eq_true']at this
  have fi2:∀w,aM (cD (d+1)) E6 [(31,.int n),(127,.int (b:Nat)),(128,.int (k':Nat)),(129,.str f')] σ=some (.str w,σ)->(w.all λc=>!inv c)=true->w.length<=3->w.countP gA<=1->W (PT (cD (d+1)) (L3.f801.drop 4) σ.length [(31,.int n),(127,.int (b:Nat)),(128,.int (k':Nat)),(129,.str f')] σ) λfl J s=>Q (xS fl) s:=λw e4 w1 w2 w3=>by
   refine jD (iw e4 rfl (aH (Nat.add_le_add w2 h1) (by decide))) (kk _ ⟨λc hc=>?_,?_,?_⟩)
   ·rcases List.mem_append.mp hc with hc|hc
    ·exact (Bool.not_eq_true' _).mp (a9.mp w1 c hc)
    ·exact (TU c hc).1
   ·exact rW aP (aF (cV 0x1183c7b31372111772011 rfl h1 w2))
   ·rw[List.countP_append,show f'.countP gA=0 from List.countP_eq_zero.mpr λc hc=>by rw[(TU c hc).2];exact Bool.false_ne_true];exact w3
  clear ek;rcases hb with rfl|rfl
  ·exact fi2 [38,35] (fD (MU (a:=10) (n:=10) rfl) (λJ=>aD) λh=>bU h.symm) (by decide +kernel) (by decide) (by decide +kernel)
  ·exact fi2 [38,35,88] (fD (MU (a:=10) (n:=16) rfl) (λh=>bU h) λJ=>aD) (by decide +kernel) (by decide) (by decide +kernel)
 have t2:bR (cD (d+1)) (.E .eq vJ (.i (.int 30))) [(31,.int n)] σ=some (r==30,σ):=bi em aD (Qg some (m6 (b:=30)));cases hq:r==30 with
 |true=>rw[hq]at t2;exact aV (v:=.int (10:Nat)) (fD t2 (λJ=>aD) λh=>bU h.symm) (fin 10 (.inl rfl))
 |false=>rw[hq]at t2;exact aV (v:=.int (16:Nat)) (fD t2 (λh=>bU h) λJ=>aD) (fin 16 (.inr rfl))
end
end
section
theorem qo:∀l:aC,(c8 l).countP gA<=l.countP gA
 |[]=>aQ _
 |x::r=>by
  show (if x=13/\r.head? = some 10 then c8 r else x::c8 r).countP gA<=_;have ih:=qo r;refine rW (List.countP_cons ..) ?_;by_cases q:x=13/\r.head? = some 10
  ·exact rW (T6 q ..) (aH ih (bC _ _))
  ·exact rW (T8 q ..) (rW (List.countP_cons ..) (Nat.add_le_add_right ih _))
theorem AD(l:aC):(eI l).countP gA<=l.countP gA:=by
 refine aH ?_ (qo l);unfold eI;refine rW (List.countP_map ..) (List.countP_mono_left λx J h=>?_);have h:gA (DZ x)=true:=h;unfold DZ at h;by_cases q:x=13
 ·rw[T6 q]at h;exact bU h
 ·rwa [T8 q]at h
structure OH(ps:bg):Prop where
 iv:∀c∈ps.flatten,inv c=false
 ln:ps.flatten.length<=12*ps.length
 sp:ps.flatten.countP gA<=ps.length
theorem A4:∀{ps:bg},(∀p∈ps,Js p)->OH ps
 |[],_=>⟨λc hc=>Uj hc US,aQ _,aQ _⟩
 |p::ps,h=>by
  have i:=A4 λq hq=>h q (.tail _ hq);have hp:=h p (.head _);have h2:=i.ln;have h3:=i.sp;have h4:=hp.len;have h5:=hp.sp;refine ⟨?_,?_,?_⟩<;>rw[List.flatten_cons]
  ·exact λc hc=>(List.mem_append.mp hc).elim (hp.iv c) (i.iv c)
  ·exact rW aP (rW (Ug ..) (aF (c9 0x21831b0c9b61c7221110c94011 rfl h2 h4)))
  ·exact rW (List.countP_append ..) (rW (Ug ..) (aF (c9 0x12184bb21a121101111 rfl h3 h5)))
theorem Hw{ps:bg}{ta}(i:OH ps)(hl:ps.length<=12)(ht:Js ta):Tok (ps.flatten++ta):=by
 have h2:=i.ln;have h3:=i.sp;have h4:=ht.len;have h5:=ht.sp;refine ⟨λc hc=>(List.mem_append.mp hc).elim (i.iv c) (ht.iv c),?_,?_⟩
 ·exact rW aP (aF (c9 0x21184c87b41c72211c92111c7201c rfl hl h2 h4))
 ·have:=AD (ps.flatten++ta);rw[List.countP_append]at this;exact aF (mD 0x3029b5627b4121184312a121201112c72012 rfl hl h3 h5 this)
theorem ye:∀(l:List Int) (a:Int),∃S,By (l.map V.int) a=some S:=by
 intro l;induction l with
 |nil=>exact λa=>⟨a,rfl⟩
 |cons x l ih=>exact λa=>ih (a+x)
theorem I3{vs:List V}:iA vs 0 (bP vs.length 12)=vs.take 12:=by
 unfold iA bP;refine rW (T8 (by decide) ..) (rW (List.drop_zero ..) (rW (Nat.sub_zero ..) ?_));show vs.take (min 12 vs.length)=_;rcases Nat.le_total 12 vs.length with h|h
 ·exact rW (Ue h ..) rfl
 ·exact rW (Nat.min_eq_right h ..) (rW (List.take_length ..) (rW (UY h ..) rfl))
noncomputable def qw:List Int:=pI.2.take 12
noncomputable def js:O:=.list (qw.map V.int)
noncomputable def Mk:PE:=.O (.q 2) dT (.i (.int 12))
theorem Fa.cons{L fs i v}(hg:aJ i L=some v)(hc:∀σ n,1<=n->rv σ n v=v)(h:Fa L fs):Fa L ((i,v)::fs):=by
 have e:∀{j:Nat},aJ j ((i,v)::fs)=bif Nat.beq i j then some v else aJ j fs:=rfl
 refine ⟨λ{j w} hj=>?_,λ{j w} hj σ n hn=>?_⟩
 ·rw[e]at hj;generalize hb:Nat.beq i j=z2;induction z2 with
  |true=>rw[hb]at hj;obtain rfl:=aK hj;exact Uq hb▸hg
  |false=>rw[hb]at hj;exact h.g hj
 ·rw[e]at hj;generalize hb:Nat.beq i j=z1;induction z1 with
  |true=>rw[hb]at hj;obtain rfl:=aK hj;exact hc σ n hn
  |false=>rw[hb]at hj;exact h.cl hj σ n hn
theorem Fa.nil{L}:Fa L []:=⟨(λh=>bl h),(λh=>bl h)⟩
section
variable {d k:Nat}{σ s:St}{QJ:aC}{L L1:aR}{sm tx:O}{S:Int}{e:Bool}{c:Cx}{r:List PS}{K:Fl->aR->St->Prop}{v:V}{i z:Nat}{x:PE}{σ1:St}
theorem AQ:qw.length<=12:=by unfold qw;exact rW (Uh ..) (Nat.min_le_left ..)
theorem JS(h2:aJ 2 L=some (.u pI.1)):aM (cD d) Mk L σ=some (.ref σ.length,σ++[js]):=by unfold Mk;refine rW (d4 ..) (rW (aN h2 ..) ?_);show ((pX.so pI.1).bind λob=>eC ob λvs=>(fy vs.length .none).bind λi=>(eL vs.length (.int 12)).bind λj=>bO (iA vs i j) σ)=_;refine rW (Kh ..) ?_;show bO (iA (pI.2.map V.int) 0 (bP (pI.2.map V.int).length 12)) σ=_;exact rW (I3 ..) (rW (List.map_take ..).symm (bx (rW bA (aH AQ (by decide)))))
theorem D8{PX:St->Bool}(hC:j' σ)(hs:PX σ=true):∀(l:List Int) (L:aR),∃ps:bg,dc (λv L s=>cU (cD (d+2)) s (.one 31) v L) PX (λL1 s=>(bR (cD (d+2)) (.i (.bool true)) L1 s).bind λ(b,s1)=>mK b s1 (aM (cD (d+2)) (.call 801 [.q 31]) L1 s1)) (l.map V.int) L σ=some (ps.map V.str,σ)/\ps.length=l.length/\∀p∈ps,Js p:=by
 intro l;induction l with
 |nil=>exact λL=>⟨[],fW.trans (T6 hs),rfl,λp hp=>Uj hp US⟩
 |cons x l ih=>
  intro L;obtain ⟨ps,e2,h1,h2⟩:=ih (aX 31 (.int x) L);cases NT (d:=d) (n:=x) (Q:=λv s=>∃p,v=.str p/\s=σ/\Js p) hC λp hp=>⟨p,rfl,rfl,hp⟩ with|mk e h=>
  obtain ⟨p,h3,h4,hp⟩:=h;rw[h3,h4]at e;refine ⟨p::ps,(rW (Ul ..) (rW (eR ..) (rW (T6 hs ..) ?_))),Qg (· + 1) h1,λq hq=>(b8.mp hq).elim (λh=>h▸hp) (h2 q)⟩;show Option.bind (mK true σ (aM (cD (d+2)) (.call 801 [.q 31]) (aX 31 (.int x) L) σ)) _=_;refine rW (fQ (dh (aN bZ)) e ..) ?_;show Option.bind (dc _ PX _ (l.map V.int) (aX 31 (.int x) L) σ) _=_;exact rW e2 rfl
theorem Fj{l}(h:∀o∈l,∀(s:St) (n:Nat),fj (rv s n) o=o):j' l:=λs=>by have:=Un (g:=id) λo ho=>h o ho s l.length;rwa [List.map_id]at this
theorem EA(s:St)(n:Nat):fj (rv s n) js=js:=by show O.list ((qw.map V.int).map (rv s n))=_;exact rW (Up ..) rfl
theorem Mw(s:St)(n:Nat)(ps:bg):fj (rv s n) (.list (ps.map V.str))=.list (ps.map V.str):=by show O.list ((ps.map V.str).map (rv s n))=_;exact rW (Up ..) rfl
theorem gE{k}:PT c (.gc k::r) z L σ=PT c r z (gQ σ (z+k) L) (iY σ (z+k)):=rfl
theorem aE(h:aM c x L σ=some (v,σ1)):PT c (.j (.l i) x::r) z L σ=PT c r z (aX i v L) σ1:=cR.trans (rW (dm ..) (rW h rfl))
theorem Oj:∃r,Mi r:=by
 obtain ⟨S,hS⟩:=ye qw 0;have e0:aM (cD (d0+10)) (.sum Mk) [(2,.u pI.1)] []=some (.int S,[js]):=by refine rW (Do ..) (rW (JS (L:=[(2,.u pI.1)]) rfl ..) (rW aS ?_));show ((By (qw.map V.int) 0).map λi=>(V.int i,[js]))=_;exact rW hS rfl
 obtain ⟨ps,e1,h1,hpk⟩:=D8 (d:=d0+8) (σ:=[js,js]) (PX:=λs=>cT (cD (d0+10)) [js,js] s (.ref 1)) (Fj λo h s n=>by
  rcases b8.mp h with rfl|h
  ·exact EA ..
  ·obtain rfl:=cP.mp h;exact EA ..) (bN.mpr rfl) qw [(2,.u pI.1),(121,.int S)]
 have Rg:ps.length<=12:=h1▸AQ;have P:=A4 hpk;have C2:j' [js,js,.list (ps.map V.str)]:=Fj λo h s n=>by
  rcases b8.mp h with rfl|h
  ·exact EA ..
  rcases b8.mp h with rfl|h
  ·exact EA ..
  ·obtain rfl:=cP.mp h;exact Mw ..
 have ej:aM (cD (d0+10)) (.join [] (.comp (.one 31) Mk (.i (.bool true)) (.call 801 [.q 31]))) [(2,.u pI.1),(121,.int S)] [js]=some (.str ps.flatten,[js,js,.list (ps.map V.str)]):=by refine rW (qJ ..) (rW (eQ ..) (rW (JS (σ:=[js]) (L:=[(2,.u pI.1),(121,.int S)]) rfl ..) (rW aS ?_)));show Option.bind (Option.bind (dc _ _ _ (qw.map V.int) [(2,.u pI.1),(121,.int S)] [js,js]) _) _=_;refine (Qg (λx=>Option.bind (Option.bind x _) _) e1).trans ?_;show Option.bind (bO (ps.map V.str) [js,js]) _=_;exact rW (bx (by rw[UC];exact aH Rg (by decide)) ..) (jh (c:=cD (d0+10)) (σ:=[js,js,.list (ps.map V.str)]) (v:=.ref 2) (ps:=ps) rfl (aH P.ln (aH (Nat.mul_le_mul_left 12 Rg) (by decide))))
 refine k5 (c:=cD (d0+10)) (L:=[(2,.u pI.1),(121,.int S)]) (k:=4) (zw (k:=2) (e:=.q 121) (x:=S) (σ:=[js,js,.list (ps.map V.str)]) rfl (by decide)) (by decide) λr hr em=>?_;have TA:=zj (a9.mp (Bool.and_eq_true_iff.mp E7).2 _ (List.getElem_mem (show r<I6.length from hr)));have T:=Hw P Rg TA;have ea:=iw ej (HU (fQ (c:=cD (d0+10)) (f:=780) (es:=[]) (vs:=[]) rfl (Ni (d:=d0+9) C2)) em (E3 (us:=I6) hr)) (aH (Nat.add_le_add (aH P.ln (Nat.mul_le_mul_left 12 Rg)) TA.len) (by decide));generalize ps.flatten++I6[r]=QJ at *;refine ⟨QJ,T,S,(aE e0).trans ((aE ea).trans ((aE (v:=.str (eI QJ)) (σ1:=[js,js,.list (ps.map V.str)]) ?_).trans gE))⟩;have e3:aM (cD (d0+10)) (.ak dM [13,10] [10]) [(2,.u pI.1),(121,.int S),(3,.str QJ)] [js,js,.list (ps.map V.str)]=some (.str (c8 QJ),[js,js,.list (ps.map V.str)]):=rV T.ln;show aM (cD (d0+10)) (.ak (.ak dM [13,10] [10]) [13] [10]) [(2,.u pI.1),(121,.int S),(3,.str QJ)] [js,js,.list (ps.map V.str)]=_;exact rW (nD ..) (rW e3 (rW aS (rO (aH (ji QJ) (aH T.ln (by decide))) (by decide))))
theorem KB(H:Sv k sm tx):Cs (hK (xu e) [] sm tx []):=by
 refine ⟨(Er (d:=0) H zL).cl,λP0 σ=>?_⟩;have h1:(P0.map oZ).map (rv σ 11)=P0.map oZ:=by exact rW (Up ..) (Un λs J=>rfl)
 induction H with|@mk Qb PU Qq P8 p b _ _=>
 show O.inst 762 _::O.inst 166 [_,_,_,_,_,_,_,_,_,(50,rv σ 11 (cL b))]::.meth 148 _::_::_::_::_::_::_::_::[.list ((P0.map oZ).map (rv σ 11))]=_;exact rW (gM ..) (rW h1 rfl)
theorem JG{f es vs}(h:Qc (cD d) es L σ=some (vs,σ))(h2:rF d f vs σ=some (v,σ1)):aM (cD d) (.call f es) L σ=some (v,σ1):=fQ h h2
theorem Bw(Tk:aJ 10 L=some (.str mm))(h122:aJ 122 L=some (.bool e))(RM:aJ 11 L=some (.ref 0))(h121:aJ 121 L=some (.int S))(kk:∀L' σ',K (.ret (.bool true)) L' σ'):
 W (PT (cD (d+10)) (L3.f853.drop 9) 0 L (hK (xu e) [] (gB [] 0 0 0 .none) (fV tt 0) [])) K:=by
 refine k5 (c:=cD (d+10)) (L:=L) (k:=20) (zw (k:=8) (σ:=hK (xu e) [] (gB [] 0 0 0 .none) (fV tt 0) []) (aN h121) (by decide)) (by decide) λr hr em=>eG (.eq (y:=rF (d+10) 141 [.ref 1,.int ((2+r:Nat):Int)] (hK (xu e) [] (gB [] 0 0 0 .none) (fV tt 0) [])) ?_ (Av (d:=d+7) (n:=2+r) (bC 2 r) λsm tx v H=>?_))
 ·refine rW (ja ..) (rW (Kd RM ..) (rW aS ?_));show Option.bind (Qc (cD (d+10)) [_] L (hK (xu e) [] (gB [] 0 0 0 .none) (fV tt 0) [])) _=_;exact Qg (λx=>Option.bind x _) (dh (j8 (p:=2) aD em))
 cases MD (d:=d+7) (Q:=λv s=>∃l,v=.I (.list (l.map oZ))/\s=hK (xu e) [] sm tx []/\jv 0 [] [] l) (KB (e:=e) H) λl hl=>⟨l,rfl,rfl,hl⟩ with|mk e1 h=>
 obtain ⟨l,rfl,rfl,hS⟩:=h;refine Kb (v:=.I (.list (l.map oZ))) (σ1:=hK (xu e) [] sm tx []) (xs:=l.map oZ) (JG (d:=d+7+3) (dh (aN Tk)) e1) rfl ?_;show W (lp d (λs=>cT (cD (d+10)) (hK (xu e) [] sm tx []) s (.I (.list (l.map oZ)))) l L (hK (xu e) [] sm tx [])) _;exact wY (λs=>bN.mpr rfl) hS H (Iz (Er (d:=0) H zL).cl) (.cons Tk (λJ J J=>rfl)<|.cons h122 (λJ J J=>rfl)<|.cons RM (λJ J h=>fm h) .nil) (jD aD (kk _ _))
end
end
section
section
variable {d sp:Nat}{QJ w:aC}{S:Int}{e:Bool}{K:Fl->aR->St->Prop}{L:aR}{σ:St}
noncomputable def GE(l:List (Nat×V)):O:=.inst 762 ([(13,.ref 1),(35,.none),(36,.bool false),(37,.ref 6)]++l)
noncomputable abbrev EU:O:=gB [] 0 0 0 .none
noncomputable def LE(sp:Nat)(S:Int)(QJ w:aC)(e:Bool)(l:aR):aR:=(2,.u sp)::(121,.int S)::(3,.str QJ)::(10,.str w)::(122,.bool e)::l
theorem NF:(cD (d+10)).call 261 [.ref 0,.str QJ] [.inst 762 []]=some (.none,hS (GE [(38,.ref 7),(40,.bool false),(19,.none)]) EU (fV QJ 0) [.list [],.meth 304 (.ref 0)]):=by kernel_rfl
theorem JW{c:Cx}{cl i g x σ'}(hL:aJ i L=some x)(hc:c.clsm cl c.init=some g)(h:c.call g [.ref 0,x] [.inst cl []]=some (.none,σ')):aM c (.new cl [.q i]) L []=some (.ref 0,σ'):=by refine rW (D3 ..) (rW (dh (aN hL) ..) (rW aS ?_));show Option.bind (c.clsm cl c.init) _=_;refine rW hc (rW aS ?_);show Option.bind (c.call g [.ref 0,x] [.inst cl []]) _=_;exact rW h rfl
theorem gL:gQ (hS (GE [(38,.ref 7),(40,.bool false),(19,.none)]) EU (fV QJ 0) [.list [],.meth 304 (.ref 0)]) (0+7) (LE sp S QJ w e [(11,.ref 0)])=LE sp S QJ w e [(11,.ref 0)]:=by kernel_rfl
theorem gS:iY (hS (GE [(38,.ref 7),(40,.bool false),(19,.none)]) EU (fV QJ 0) [.list [],.meth 304 (.ref 0)]) (0+7)=hS (GE [(38,.C),(40,.bool false),(19,.none)]) EU (fV QJ 0) [.list []]:=by kernel_rfl
theorem s7:ms (cD (d+10)) (.j (.a dN 12) dD) 0 (LE sp S QJ w e [(11,.ref 0)]) (hS (GE [(38,.C),(40,.bool false),(19,.none)]) EU (fV QJ 0) [.list []])=some (.next,LE sp S QJ w e [(11,.ref 0)],hS (GE [(38,.C),(40,.bool false),(19,.none),(12,.ref 7)]) EU (fV QJ 0) [.list [],.list []]):=by kernel_rfl
noncomputable def N7:PS:=match (L3.f853[8]? : Option PS) with|some s=>s|none=>.brk
theorem s8:ms (cD (d+10)) N7 0 (LE sp S QJ w e [(11,.ref 0)]) (hS (GE [(38,.C),(40,.bool false),(19,.none),(12,.ref 7)]) EU (fV QJ 0) [.list [],.list []])=some (.next,LE sp S QJ w e [(11,.ref 0)],hK (xu e) [] EU (fV QJ 0) []):=by
 induction e
 ·kernel_rfl
 ·kernel_rfl
theorem KS(kk:∀L' σ',K (.ret (.bool true)) L' σ'):W (PT (cD (d+10)) (L3.f853.drop 4) 0 [(2,.u pI.1),(121,.int S),(3,.str tt),(10,.str mm)] []) K:=by refine aV (v:=.bool (Int.fmod S 2==1)) (lO (a:=.int (Int.fmod S 2)) (jz (a:=.int S) rfl aD (T6 (e:=none) (show (0:Int)<2 by decide))) aD rfl) ?_;generalize (Int.fmod S 2==1)=e;refine aW (JW (c:=cD (d+10)) (L:=LE pI.1 S tt mm e []) rfl (by kernel_rfl) NF) (pJ gS ?_);show W (PT (cD (d+10)) (L3.f853.drop 7) 0 (gQ _ (0+7) (LE pI.1 S tt mm e [(11,.ref 0)])) _) K;exact rW gL (sW s7 (sW s8 (Bw rfl rfl rfl rfl kk)))
end
theorem LD:∃L' σ',PT (cD (d0+10)) L3.f853 0 [(2,.u pI.1)] []=some (.ret (.bool true),L',σ'):=by
 have T:Mi tt:=by unfold tt;exact rW (dif_pos Oj ..) Oj.choose_spec
 obtain ⟨_,S,hS⟩:=T;refine rW hS ?_;cases KS (d:=d0) (S:=S) (K:=λf J J=>f=.ret (.bool true)) λJ J=>rfl with|mk h k=>exact ⟨_,_,k▸h⟩
theorem AL{p:Nat×List Int}(hs:(L3.pr (Dz p)).so p.1=some (.list (p.2.map V.int))):∃L' σ',PT (jk (L3.pr (Dz p)) FU (hQ (L3.pr (Dz p)) FU (d0+10))) L3.f853 0 [(2,.u p.1)] []=some (.ret (.bool true),L',σ'):=by
 refine Classical.byContradiction λhn=>?_;have h:∃p,Bd p:=⟨p,hs,hn⟩
 have hI:pI=h.choose:=by unfold pI;exact rW (dif_pos h ..) rfl
 have h2:∃L' σ',PT (jk (L3.pr (Dz pI)) FU (hQ (L3.pr (Dz pI)) FU (d0+10))) L3.f853 0 [(2,.u pI.1)] []=some (.ret (.bool true),L',σ'):=LD;rw[hI]at h2;exact h.choose_spec.2 h2
end
theorem Kv{p:Pr}{l lx}(h:p.fns=tN l lx){f fn}(hb:f<eM)(e:p.fns f=some fn):aJ f l=some fn:=by rw[h,Dy hb]at e;exact e
theorem J4{p:Pr}{l lx}(h:p.fns=tN l lx){f fn}(e:p.fns (f+eM)=some fn):aJ f lx=some fn:=by rw[h,D5]at e;exact e
theorem zq{tb}:∀{fs:List (Nat×V)}{es:List DictEntry},Nt tb fs es=true->aL (AV tb HS.nil) fs es
 |[],es,h=>by refine rW (qF h ..) ?_;exact .nil
 |p::fs,es,h=>oD (P:=λes=>aL (AV tb HS.nil) (p::fs) es) h λe r h=>an h λh h3=>an h λh1 h2=>by
  refine .cons ?_ (zq h3);obtain ⟨Ra,P',val⟩:=e;cases P' with
  |str x t=>exact ⟨x,t,zS h1,rfl,jZ h2⟩
  |_=>exact bU h1
theorem Gi{W:Wd}{a C D}{fs:List (Nat×V)}(h:W.K.lookup a=some (instObj C D))(h2:W.K.lookup D=some (dictOf (i9 W.K D) (mr W.K D)))(hv:Nt W.tb fs (i9 W.K D)=true)(nd:(fs.map (·.1)).Nodup)(hl:Nat.ble fs.length 900=true):mx W a (.inst C fs):=C8 h h2 (zq hv) nd hl
namespace L3
noncomputable def x4:bq:=tab.map Str.ofString
noncomputable def kF:Nat:=283
noncomputable def kN:bq:=[Str.ofString "allowedChar",Str.ofString "fromAttribute"]
noncomputable def tc:Tc:=⟨x4,[(Str.ofString "EOF",some .none),(Str.ofString "HTMLTokenizer",some (.u 762)),(Str.ofString "HTMLUnicodeInputStream",some (.u 166)),(Str.ofString "Text",some (.u 73)),(Str.ofString "_is_invalid",some (.u 84)),(Str.ofString "_law_BLANKS",some (.str [32,10,9,12])),(Str.ofString "_law_CLOSE",some (.str GN)),(Str.ofString "_law_FIGURES",some (.str rm)),(Str.ofString "_law_KEYS",some (.u 787)),(Str.ofString "_law_LOST",some (.u 794)),(Str.ofString "_law_OLD",some (.str Al)),(Str.ofString "_law_PIECES",some (.u 773)),(Str.ofString "_law_TAILS",some (.u 780)),(Str.ofString "_law_call",some (.u 836)),(Str.ofString "_law_first",some (.u 848)),(Str.ofString "_law_number",some (.u 815)),(Str.ofString "_law_piece",some (.u 801)),(Str.ofString "_law_place",some (.u 808)),(Str.ofString "_law_reference",some (.u 822)),(Str.ofString "_law_seen",some (.u 843)),(Str.ofString "_law_steps",some (.u 829)),(Str.ofString "asciiLetters",some (.u 27)),(Str.ofString "asciiLower",some (.u 42)),(Str.ofString "bisect_left",some (.u 178)),(Str.ofString "digits",some (.u 32)),(Str.ofString "entities",some (.u 43)),(Str.ofString "entitiesTrie",some (.u 236)),(Str.ofString "hexDigits",some (.u 37)),(Str.ofString "replacementCharacters",some (.u 46)),(Str.ofString "spaceCharacters",some (.u 22)),(Str.ofString "tagTokenTypes",some (.u 49)),(Str.ofString "tokenTypes",some (.u 48)),(Str.ofString "KeyError",none),(Str.ofString "chr",none),(Str.ofString "dict",none),(Str.ofString "int",none),(Str.ofString "len",none),(Str.ofString "list",none),(Str.ofString "ord",none),(Str.ofString "range",none),(Str.ofString "sum",none)],[801,780,829,808,836,848,843,773,787,822,794,84,815,42,178,853],[762,166,73],kF,kN,[(46,tab46)]⟩
noncomputable def Pl:aC:=[73,166,230,762]
theorem J5:x4.Nodup:=by decide +kernel
theorem law_go{w}{K:Frag}{P7 p loose mean mg mb sp n}{is:List Int}{vs:aO}{s₁:Shared}(hI:IntsAre vs is)(QQ:is.length<=63)(Ro:s₁.heap.get? sp=some (listOf vs.toArray n))(KX:K.In s₁.heap)(T:Top p loose mean mg mb s₁.heap)
 (c1:OP (K++[(sp,listOf vs.toArray n)]) tc=true) (c2:ON x4 (K++[(sp,listOf vs.toArray n)]) Pl FH E9 FN=true) (c3:∀T:kE ⟨P7,w,K++[(sp,listOf vs.toArray n)],p,loose,mean,mg,mb,x4,kF,kN⟩ tc,(Me.all λq=>(OG T q.1 q.2).ok)=true/\(GK.all λq=>(Lg T q.1 q.2).ok)=true)
 (c4:po (λq:Nat×O=>mx ⟨P7,w,K++[(sp,listOf vs.toArray n)],p,loose,mean,mg,mb,x4,kF,kN⟩ q.1 q.2) Nw)
 (c5:po (λq:Nat×Fn=>fp ⟨P7,w,K++[(sp,listOf vs.toArray n)],p,loose,mean,mg,mb,x4,kF,kN⟩ q.2 (dX (K++[(sp,listOf vs.toArray n)]) q.1) (dX (K++[(sp,listOf vs.toArray n)]) q.1).scope) Me) (c5x:po (λq:Nat×Fn=>fp ⟨P7,w,K++[(sp,listOf vs.toArray n)],p,loose,mean,mg,mb,x4,kF,kN⟩ q.2 (dX (K++[(sp,listOf vs.toArray n)]) q.1) (dX (K++[(sp,listOf vs.toArray n)]) q.1).scope) GK)
 (ck:∀fn,aJ kF Me=some fn->iS ⟨P7,w,K++[(sp,listOf vs.toArray n)],p,loose,mean,mg,mb,x4,kF,kN⟩ fn (dX (K++[(sp,listOf vs.toArray n)]) kF) (dX (K++[(sp,listOf vs.toArray n)]) kF).scope)
 (ci:∀g T,aJ g tc.it=some T->fF ⟨P7,w,K++[(sp,listOf vs.toArray n)],p,loose,mean,mg,mb,x4,kF,kN⟩ g T)
 {Qp name:Str}{params:Arguments}{scope:Scope}{dV kV Ri pm QR ct oc:Value}{an od:Option Addr}{Rl:Array (Option Value)}{kn:Nat}{p1 p2 p3 p4 p5 p6 p7 p8:Pos}{Qv:fh}
 (R7:K.lookup 853=some ⟨oc,od,.func (fnOf name Qp params (.Assign [.Name (Str.ofString "turn") p1] (.Call (.Name "sum" p2) [.Subscript (.Name (Str.ofString "script") p3) (.Slice none (some (.Constant (.int 12) kn p4)) none p5) p6] [] p7) p8::Qv) scope dV kV Ri pm an QR ct),Rl⟩)
 (hck:∀(T:kE ⟨P7,w,K++[(sp,listOf vs.toArray n)],p,loose,mean,mg,mb,x4,kF,kN⟩ tc) (hk:scope.kind=.function),((LW T hk (f853.drop 1) Qv).ok&&(x6 scope.names (Str.ofString "script") .local&&x6 scope.names (Str.ofString "turn") .local&&x6 scope.names "sum" .globalImplicit&&LK tc "sum" && !PySem.W.Fast.sEq (Str.ofString "script") Kt))=true)
 {fa:Addr}{cd:Value}{h₁:Heap}{nm:Str}{g:Array GenState}{dr:Drawn}{tk:Nat}{os:OsState}{cells:bf}
 (F:PyProof.Rows.Fr s₁.heap s₁.heap.objs.size h₁ (bindL (envOfC nm scope s₁.heap.objs.size fa cd).kindOf [(Str.ofString "script",Value.ref sp)] λJ=>none)) (N0:News s₁.heap s₁.heap.objs.size h₁ cells)
 (X0:CellsAre (bindC (envOfC nm scope s₁.heap.objs.size fa cd).kindOf [(Str.ofString "script",Value.ref sp)] λJ=>none) (cellsFrom (s₁.heap.objs.size+1) scope.names []) cells) {Q:Flow->Shared->Prop}{E:bw}
 (H:∀h' t',(∀b o,s₁.heap.get? b=some o->h'.get? b=some o)->Q (.ret (.bool true)) ⟨h',g,dr,t',os⟩):
 wpAny (model P7 w) (callerA.deeper (envOfC nm scope s₁.heap.objs.size fa cd)) (execs (.Assign [.Name (Str.ofString "turn") p1] (.Call (.Name "sum" p2) [.Subscript (.Name (Str.ofString "script") p3) (.Slice none (some (.Constant (.int 12) kn p4)) none p5) p6] [] p7) p8::Qv) (envOfC nm scope s₁.heap.objs.size fa cd)) Q E ⟨h₁,g,dr,tk,os⟩:=by
 have RG:(pr [(sp,.list (is.map V.int))]).so sp=some (.list (is.map V.int)):=by show (match aJ sp Nw with|some o=>some o|none=>aJ sp [(sp,.list (is.map V.int))])=_;rw[Cz c4 rfl (za KX Ro) hI Ro];show (bif Nat.beq sp sp then some _ else none)=_;rw[Nat.beq_refl];rfl
 have hl:(is.map V.int).length<=a8+a8:=by rw[UC];exact aH QQ (by decide)
 have TC:=HI (W:=⟨P7,w,K++[(sp,listOf vs.toArray n)],p,loose,mean,mg,mb,x4,kF,kN⟩) rfl rfl rfl ci c1;exact Ei (W:=⟨P7,w,K++[(sp,listOf vs.toArray n)],p,loose,mean,mg,mb,x4,kF,kN⟩) (p:=pr [(sp,.list (is.map V.int))]) (Ry:=Ry) (sp:=sp) (i:=2) (i1:=121) (x:=Str.ofString "script") (x1:=Str.ofString "turn") (Qj:=2001) (d:=10)
  (Kf c4 (oX (wL KX Ro) (.list (Bq hI) hl))) (λQj call=>GS J5 rfl rfl rfl c2) rfl (λf fn hb e=>IN TC (c3 TC).1 c5 ck f fn (Kv rfl hb e)) (λf fn e=>C9 TC (c3 TC).2 c5x rfl f fn (J4 rfl e)) TC (iX R7) (by decide) rfl rfl (hck TC) rfl rfl T (za KX Ro) F N0 X0 (by decide) (AL (p:=(sp,is)) RG) H
end L3
abbrev T:Prop:=True
theorem t:T:=⟨⟩
theorem M:T:=t where
 a.tw16802990558240098867:=t;a.tw1404844020373102163:=t;a.tw303327712561454675:=t;a.tw3520951250883058803:=t;a.tw4924105709764860019:=t;a.tw17009021449233577075:=t;a.tw4028140312262449299:=t;a.tw10608530732045450963:=t;a.tw4513554798080873171:=t;a.tw13804903614977452787:=t;a.tw11092610474993429267:=t;a.tw13806974694611572595:=t;a.tw3983837543817758195:=t;a.tw880610823611448819:=t;a.tw7705293661344128499:=t;a.tw1536883874549532723:=t;a.tw9842375510019506227:=t;a.tw10871203181872569971:=t;a.tw17731241543519488659:=t;a.tw7781865185334142643:=t;a.tw10017892585500986035:=t;a.tw3429291446368532147:=t;a.tw16004379404812144915:=t;a.tw17365720887079546131:=t;a.tw14065425822144588051:=t;a.tw7852002652062734131:=t;a.tw2420048840836806483:=t;a.tw7664949819981102451:=t;a.tw12918240578435446131:=t;a.tw8581651083925774707:=t;a.tw1255844843576642931:=t;a.tw2356640962446572947:=t;a.tw350002734298609043:=t;a.tw12373468622561076627:=t;a.tw3155544562037920179:=t;a.tw6728307245245024691:=t;a.tw3478027160720495027:=t;a.tw15077898866220403266:=t;a.tw11802479627341500002:=t;a.tw2249517348749703778:=t;a.tw14333367380494670978:=t;a.tw12611263986487745698:=t;a.tw15139041268721974434:=t;a.tw13332099071368768674:=t;a.tw3179612696361700546:=t;a.tw3601993752832162530:=t;a.tw7515360099968086786:=t;a.tw17449605071809480482:=t;a.tw4228350762653381954:=t;a.tw13029714739192164674:=t;a.tw5518819395327259522:=t;a.tw11873300564958216098:=t;a.tw17296447168593865634:=t;a.tw4362555744840741826:=t;a.tw11417077112994145762:=t;a.tw1393246984669482498:=t;a.tw3712211475764975682:=t;a.tw7575799054742236258:=t;a.tw4100349310026350274:=t;a.tw14319125242082960066:=t;a.tw2412151902770541858:=t;a.tw11911935809699491650:=t;a.tw14835634199398258530:=t;a.tw8975527989360222594:=t;a.tw10732394170344851842:=t;a.tw3819496472564095362:=t;a.tw6873132048457305474:=t;a.tw12529439573167170978:=t;a.tw1004167875655033282:=t;a.tw5787746775892617186:=t;a.tw9851007389518641154:=t;a.tw4633513604560558114:=t;a.tw12758028277326317505:=t;a.tw2825507200374655937:=t;a.tw399593247784354785:=t;a.tw13936362753737078753:=t;a.tw5123537727129434657:=t;a.tw13650460618964965473:=t;a.tw10760196855240813697:=t;a.tw2712674039355726977:=t;a.tw12558975081124504257:=t;a.tw14515840935206849249:=t;a.tw17414576602798999265:=t;a.tw15595194919747886817:=t;a.tw15783810830068750049:=t;a.tw8806182265210157313:=t;a.tw12098332335669397761:=t;a.tw9071250075054767937:=t;a.tw17027292834262214465:=t;a.tw15215710142764851009:=t;a.tw4826617561571231553:=t;a.tw7271278387439218529:=t;a.tw8160997374750871393:=t;a.tw16065898837034234721:=t;a.tw12619699109695493537:=t;a.tw6085635307064192417:=t;a.tw2371130101150387201:=t;a.tw7094988668677865505:=t;a.tw2006898380677623361:=t;a.tw14952738513775692961:=t;a.tw11930180979106063553:=t;a.tw14764643087013684993:=t;a.tw5578201646680563489:=t;a.tw7690461142130406721:=t;a.tw1817234910850495841:=t;a.tw6889993404384153985:=t;a.tw7652833718024307073:=t;a.tw12393215397430924193:=t;a.tw3958945030580742049:=t;a.tw18175614561322003361:=t;a.tw11788927668466429936:=t;a.tw7059368305031259120:=t;a.tw8482346999173382704:=t;a.tw9003300542056539248:=t;a.tw359970577559446640:=t;a.tw1201383131431273136:=t;a.tw8333051005740223152:=t;a.tw3655216635380583120:=t;a.tw7176672968328981232:=t;a.tw13656400271699987760:=t;a.tw2882584241035360592:=t;a.tw10088585786369099632:=t;a.tw2140147600517290896:=t;a.tw16271252070239547280:=t;a.tw13732131719837274544:=t;a.tw18242181458581359696:=t;a.tw13548719884533662800:=t;a.tw2099949802204195920:=t;a.tw8806219468360826480:=t;a.tw7735220091940178096:=t;a.tw2242769047538793648:=t;a.tw6949990736901357776:=t;a.tw9894992444774411504:=t;a.tw16505280528486247216:=t;a.tw13307939695654475600:=t;a.tw13647314096151461232:=t;a.tw4145470088996130160:=t;a.tw16413329117258094544:=t;a.tw17685893629347213264:=t;a.tw924622269886521231:=t;a.tw3387383601038242703:=t;a.tw12068013102872055695:=t;a.tw1406546112063778735:=t;a.tw4771962774419721135:=t;a.tw8561730457168362991:=t;a.tw7062429923171115535:=t;a.tw9967943518533763119:=t;a.tw16059062018792911919:=t;a.tw12557865734403476079:=t;a.tw16706989266261131887:=t;a.tw7825208180017260175:=t;a.tw4172853768902103695:=t;a.tw8880897114748279471:=t;a.tw1488728024504525039:=t;a.tw8154496211611260719:=t;a.tw13968281575060800911:=t;a.tw2670320210273223055:=t;a.tw1988021769420712367:=t;a.tw6238459660714021295:=t;a.tw12727436344983198127:=t;a.tw17766163363927748591:=t;a.tw12309532982211562479:=t;a.tw8767636057058405391:=t;a.tw10504343487760227343:=t;a.tw12162480097111806511:=t;a.tw13065075672088972879:=t;a.tw14959062239754465871:=t;a.tw11603943102724850447:=t;a.tw7384881145912729359:=t;a.tw9243750313326622031:=t;a.tw14694236151279141102:=t;a.tw8099038801578388750:=t;a.tw6415105611508801806:=t;a.tw14065463632904066318:=t;a.tw5281993126543151918:=t;a.tw13857658525515099982:=t;a.tw11723939252180914574:=t;a.tw6803805865278701966:=t;a.tw16360289358377744846:=t;a.tw17061309206137287246:=t;a.tw12232242816217348238:=t;a.tw17678706599864792206:=t;a.tw3661450823817935022:=t;a.tw9197078752269171886:=t;a.tw13893216611286698190:=t;a.tw8036087533990283470:=t;a.tw4376299585445326606:=t;a.tw40527952709818126:=t;a.tw10522003641566004558:=t;a.tw13771590678750914894:=t;a.tw7863453141468697934:=t;a.tw2852419221550797134:=t;a.tw286820736851431790:=t;a.tw7878737614272331118:=t;a.tw16791969325321345934:=t;a.tw14576196770912395182:=t;a.tw5299995546628603822:=t;a.tw2190007268510937038:=t;a.tw18055061930632746958:=t;a.tw3732352143416609742:=t;a.tw12525219106073229262:=t;a.tw13199981122912095182:=t;a.tw1482508562523973102:=t;a.tw14092923279620970990:=t;a.tw6552358653455549934:=t;a.tw16939097158182314510:=t;a.tw3696404984673579534:=t;a.tw14339928995653462062:=t;a.tw14094189526968748078:=t;a.tw7958049576150281262:=t;a.tw8909047412339715150:=t;a.tw15206792853155360846:=t;a.tw2537267042152024718:=t;a.tw7460024320928836238:=t;a.tw12837845688062600846:=t;a.tw16978338293340339485:=t;a.tw12091309899758444829:=t;a.tw13238898509366954845:=t;a.tw17979376914081711517:=t;a.tw9953735386075267517:=t;a.tw17311141848754358749:=t;a.tw12703181472839682077:=t;a.tw17329252641149477949:=t;a.tw13317567384311046205:=t;a.tw14917456577505732189:=t;a.tw16327126496922178717:=t;a.tw2121813265334118589:=t;a.tw75990723237534909:=t;a.tw2190197010093623485:=t;a.tw17600717258655182045:=t;a.tw14362205524744297245:=t;a.tw17239256977684184893:=t;a.tw15734267995647157053:=t;a.tw17082384570372173181:=t;a.tw1475192812241979773:=t;a.tw92626849033930653:=t;a.tw11283831915228857277:=t;a.tw12549285318351572477:=t;a.tw14664902814069411325:=t;a.tw17999906360244806173:=t;a.tw5268615362704218653:=t;a.tw833633190369047101:=t;a.tw11467271836409637981:=t;a.tw7646439373533067357:=t;a.tw2250055952612897437:=t;a.tw15959066887967334077:=t;a.tw16065675752370249405:=t;a.tw5118853230933679805:=t;a.tw3220379211523841757:=t;a.tw4722460950280403677:=t;a.tw2749235521784178941:=t;a.tw14582937155338470620:=t;a.tw15857569586912094428:=t;a.tw4784495487164711164:=t;a.tw467262753280152828:=t;a.tw16657764788141072156:=t;a.tw17422912642011424572:=t;a.tw6455731786601367900:=t;a.tw5398468935226098012:=t;a.tw12340349213091112284:=t;a.tw5062424493430618492:=t;a.tw3089785651033097596:=t;a.tw500744485367839100:=t;a.tw7218111001900752828:=t;a.tw9774438228264217564:=t;a.tw18005103125102755836:=t;a.tw14749881834537895452:=t;a.tw5433524168666482204:=t;a.tw14302717380662916636:=t;a.tw6260841059655250460:=t;a.tw8518428421289394268:=t;a.tw5167046242397829244:=t;a.tw9574986098862266492:=t;a.tw4711984736673953948:=t;a.tw4682475848574077628:=t;a.tw11236039113516960444:=t;a.tw3482741017904657116:=t;a.tw6394751454625672924:=t;a.tw1538085850320495324:=t;a.tw13835872730262019804:=t;a.tw2354381846686874364:=t;a.tw16017517950419375388:=t;a.tw12092733156500595004:=t;a.tw6169570728250631484:=t;a.tw1191318557574362428:=t;a.tw10536445205938092924:=t;a.tw3712663075644338620:=t;a.tw9477704077450974684:=t;a.tw3092924453304897596:=t;a.tw17194658077863980092:=t;a.tw13023911140845965851:=t;a.tw14680330149290415643:=t;a.tw8268894013513542203:=t;a.tw14162911715980100155:=t;a.tw3674541077315968603:=t;a.tw15038189391284487355:=t;a.tw3590607468041832155:=t;a.tw9539958752487339771:=t;a.tw6728860252355499771:=t;a.tw9092864779211521787:=t;a.tw9093255775464619771:=t;a.tw5822891125607254299:=t;a.tw16804569413096099163:=t;a.tw14831363386785778011:=t;a.tw7443337935449629019:=t;a.tw11062008342443266939:=t;a.tw12380204949610632091:=t;a.tw14372102120935543739:=t;a.tw17997113870520452027:=t;a.tw15483446228982256091:=t;a.tw12372087397609466363:=t;a.tw12750424378077037595:=t;a.tw14971475750899400731:=t;a.tw17855019929085762235:=t;a.tw3294058376387474107:=t;a.tw765415591223041723:=t;a.tw4857455942751828763:=t;a.tw16061428605168744251:=t;a.tw5139828292014934395:=t;a.tw15919452188100717979:=t;a.tw5998689117796681115:=t;a.tw11597082805454635451:=t;a.tw9068772855003905467:=t;a.tw365255394279721403:=t;a.tw10431489968803908027:=t;a.tw3974687776354600379:=t;a.tw1373939504894937051:=t;a.tw908115066251964379:=t;a.tw5949046982758588411:=t;a.tw10757318740523287114:=t;a.tw5605681682030067306:=t;a.tw12901157568937429130:=t;a.tw11507932348556669098:=t;a.tw9755172863940800682:=t;a.tw4091505167856821450:=t;a.tw12037276559267431146:=t;a.tw7943778677891211018:=t;a.tw15568838230169090826:=t;a.tw1426605332228533578:=t;a.tw10084396493822267274:=t;a.tw13701209350074741674:=t;a.tw495879754223733674:=t;a.tw7850198856609793994:=t;a.tw14373933502277858794:=t;a.tw483751948898444810:=t;a.tw5279920821084575242:=t;a.tw16239270229572921898:=t;a.tw14374650637245798954:=t;a.tw5452611224994970698:=t;a.tw17145274058407168650:=t;a.tw3807882250299529866:=t;a.tw12785754998126600842:=t;a.tw4963226633492530858:=t;a.tw5353894023149532874:=t;a.tw8822499613113532682:=t;a.tw4938118835802233674:=t;a.tw16523333247314905930:=t;a.tw3491786455655401290:=t;a.tw690059933279558474:=t;a.tw16009271611747817898:=t;a.tw16040199638742553610:=t;a.tw15278275840086260778:=t;a.tw3146550451412045866:=t;a.tw13080147981262400554:=t;a.tw15552088661021661129:=t;a.tw1323712820869571561:=t;a.tw17215834819613423593:=t;a.tw4974252521303439881:=t;a.tw14661357495259138121:=t;a.tw5086100069880002633:=t;a.tw3967624017330422857:=t;a.tw13794014225985914985:=t;a.tw4720431140135733385:=t;a.tw8058582780457076873:=t;a.tw16886054969442965193:=t;a.tw3614630539364845289:=t;a.tw15352464791369927945:=t;a.tw10148085111409476905:=t;a.tw6153587847314988329:=t;a.tw17236442944962237737:=t;a.tw8678028367433996137:=t;a.tw8618595414571857769:=t;a.tw14150016951561841513:=t;a.tw15498417868585770857:=t;a.tw10749236527573878665:=t;a.tw10933233725676488585:=t;a.tw16307246219177504169:=t;a.tw11057412732674420137:=t;a.tw3544943260058194377:=t;a.tw4855337202045548009:=t;a.tw6437106350481579497:=t;a.tw2196955739822307369:=t;a.tw5705827805082461801:=t;a.tw1158911829889544361:=t;a.tw10966411975564328137:=t;a.tw2621078070391198953:=t;a.tw14364005533886677769:=t;a.tw10921964431199686441:=t;a.tw2485258996906858281:=t;a.tw1889339859853195593:=t;a.tw4029017522953114953:=t;a.tw15143371046654799209:=t;a.tw9846483145420548489:=t;a.tw18115859264080805400:=t;a.tw13603608420641330712:=t;a.tw1322121338685717592:=t;a.tw3498249913398994072:=t;a.tw17906822643780718264:=t;a.tw6837853006151229112:=t;a.tw5499982456532792024:=t;a.tw13799001216475257144:=t;a.tw2667993436663382328:=t;a.tw14730385497631441752:=t;a.tw17037679084695137144:=t;a.tw11066121581959615384:=t;a.tw16238024865494838776:=t;a.tw10521422376256057848:=t;a.tw17977914449604444184:=t;a.tw1779277671081852952:=t;a.tw11164044404391967800:=t;a.tw4060606248963811384:=t;a.tw10676865461323685944:=t;a.tw17264967433566492248:=t;a.tw2489233220319759960:=t;a.tw3038721681607089784:=t;a.tw16425972748848178840:=t;a.tw6222986700847490712:=t;a.tw12607302765465205976:=t;a.tw16193288588755388664:=t;a.tw3996129293920084216:=t;a.tw10270742585274908440:=t;a.tw13792527017644473112:=t;a.tw17689337240526322456:=t;a.tw10451946480348014936:=t;a.tw9471323688073784696:=t;a.tw16864010811931167096:=t;a.tw2731547532911944088:=t;a.tw8313676070029151640:=t;a.tw16724293064243945400:=t;a.tw2425740359480549336:=t;a.tw15740378377643516855:=t;a.tw10366608579045523383:=t;a.tw15401478791542794711:=t;a.tw3585749219889715671:=t;a.tw1481164480429465079:=t;a.tw4849208714788938231:=t;a.tw2773301223179593751:=t;a.tw13450807762968518679:=t;a.tw17031894970832588887:=t;a.tw3512863743859189847:=t;a.tw14462627985366832215:=t;a.tw16817435115178054743:=t;a.tw18059093700977218167:=t;a.tw6649910332036480631:=t;a.tw15502348238386727543:=t;a.tw12332351010821846679:=t;a.tw2986217500497904279:=t;a.tw15763653496861458103:=t;a.tw1756087675494615255:=t;a.tw6027236843810557175:=t;a.tw11799541292640442615:=t;a.tw8820921250876016887:=t;a.tw1328128461159031575:=t;a.tw16626786176717016887:=t;a.tw10699053406044733239:=t;a.tw3911039557846626103:=t;a.tw3021535001746020727:=t;a.tw3643573717807634839:=t;a.tw5983623549541718423:=t;a.tw8256347244391938455:=t;a.tw13697442330398063607:=t;a.tw2133301322361315895:=t;a.tw4181906166997733975:=t;a.tw10945705863901761111:=t;a.tw2116133730870760567:=t;a.tw7365055291110687863:=t;a.tw10833568789382825111:=t;a.tw12901951911759500439:=t;a.tw11698493625164837047:=t;a.tw11688991191252979447:=t;a.tw12962044893695555863:=t;a.tw15413505647505674551:=t;a.tw7419908983058831703:=t;a.tw478562088582076662:=t;a.tw13904905307260565302:=t;a.tw10576159475638225718:=t;a.tw14869589665200091990:=t;a.tw1545582081034764118:=t;a.tw15404658865841359702:=t;a.tw10042404301128951670:=t;a.tw2271757350306290550:=t;a.tw10203432102822705590:=t;a.tw1584082918427959286:=t;a.tw10311667807116698646:=t;a.tw5611200968266489878:=t;a.tw4767014094677828630:=t;a.tw16658129678846962262:=t;a.tw678036740904165974:=t;a.tw1663930782963918422:=t;a.tw1444398401686602358:=t;a.tw17261523266920929430:=t;a.tw17754179269664303286:=t;a.tw16319702542619288758:=t;a.tw8509725365422615286:=t;a.tw5616072748504719702:=t;a.tw17591081929118674838:=t;a.tw17606903174804935126:=t;a.tw4127791110640776694:=t;a.tw3164698535154003478:=t;a.tw3289867753261320726:=t;a.tw14936980282453137462:=t;a.tw5126390046014819382:=t;a.tw12579585327109743670:=t;a.tw16001603169861231702:=t;a.tw6867532500375419990:=t;a.tw69002087349673046:=t;a.tw5567027802313559702:=t;a.tw11300428619122095766:=t;a.tw2880935876582129334:=t;a.tw10674611557510316246:=t;a.tw15226348356688336086:=t;a.tw11654730720052275493:=t;a.tw9184304657603956005:=t;a.tw4012964233974618405:=t;a.tw12418854737866279205:=t;a.tw8168964881367957317:=t;a.tw2306248408439941957:=t;a.tw11197220099781305157:=t;a.tw9050836261821487941:=t;a.tw17185982970139965285:=t;a.tw14266551112803962757:=t;a.tw17380953113948878245:=t;a.tw5429002183176699077:=t;a.tw6987291435396035365:=t;a.tw11380996381536888613:=t;a.tw10564943240167373605:=t;a.tw8123625456322637125:=t;a.tw8875962139844169061:=t;a.tw4112744058976090501:=t;a.tw15416572084192754053:=t;a.tw16546159886128182661:=t;a.tw4342358717664389029:=t;a.tw8886715651539057573:=t;a.tw12611827984991255493:=t;a.tw5066385450957690853:=t;a.tw3839491104357449701:=t;a.tw15307669412925444069:=t;a.tw572227429317290533:=t;a.tw8800134096935988293:=t;a.tw3833650552197227589:=t;a.tw8688273939616452677:=t;a.tw3241506438532784229:=t;a.tw4492371052328505477:=t;a.tw6721240260773796997:=t;a.tw5662324967199291045:=t;a.tw12698581511471703749:=t;a.tw1101954741754497733:=t;a.tw11397225907711876837:=t;a.tw17767328098734507684:=t;a.tw16178054945239562916:=t;a.tw15795524336214967492:=t;a.tw7317392092753555684:=t;a.tw15846862762271061764:=t;a.tw2286838644339855108:=t;a.tw877539998911421188:=t;a.tw14672107868542424868:=t;a.tw1485402068752033604:=t;a.tw3064396926241347396:=t;a.tw7176316055650263396:=t;a.tw17482092622196388196:=t;a.tw4583350379346560356:=t;a.tw9486028529071483268:=t;a.tw5685245382446714244:=t;a.tw17700698194583977924:=t;a.tw16343822868275145700:=t;a.tw2703487736723406820:=t;a.tw3333704232042224132:=t;a.tw8091526833103312452:=t;a.tw10568163161755314276:=t;a.tw11274956724817290372:=t;a.tw3722848281623148676:=t;a.tw13010842140931962020:=t;a.tw2651062326259052708:=t;a.tw17425604019985807524:=t;a.tw17825114691946348228:=t;a.tw956224081019751108:=t;a.tw7972525672697203428:=t;a.tw2375830305854697732:=t;a.tw12347722918017801476:=t;a.tw17837281736646228260:=t;a.tw17599275131057571108:=t;a.tw9763409498494759236:=t;a.tw5254821950340553028:=t;a.tw9326684681385553764:=t;a.tw931284627038085988:=t;a.tw16450181950398791556:=t;a.tw6088149098894109124:=t;a.tw17397089880943305188:=t;a.tw6485237714608903652:=t;a.tw4900092186051054596:=t;a.tw2658047666809406532:=t;a.tw17207119415879361124:=t;a.tw7073140380806396548:=t;a.tw8467374779528641059:=t;a.tw10691249879838661155:=t;a.tw1739632878692205091:=t;a.tw1500806571282409027:=t;a.tw17618928745472349795:=t;a.tw995371849773499555:=t;a.tw7254848302781446307:=t;a.tw15248682090587982531:=t;a.tw2193851864152037059:=t;a.tw12985571730129829187:=t;a.tw4032870988430162275:=t;a.tw6226553382885842819:=t;a.tw11448326397775679939:=t;a.tw12288801448761898467:=t;a.tw16262738031242242531:=t;a.tw12182969936283410915:=t;a.tw18296163775270374915:=t;a.tw2880632153396630147:=t;a.tw3597328280746071683:=t;a.tw15267218247942787:=t;a.tw6322209056417933987:=t;a.tw17052788165014941347:=t;a.tw4779118875700504771:=t;a.tw16824306690160097507:=t;a.tw5057764777083579619:=t;a.tw12858810949873094883:=t;a.tw16787064995995718915:=t;a.tw6715091268922476803:=t;a.tw10951896180134945571:=t;a.tw11950478104246894371:=t;a.tw3220384995015560035:=t;a.tw17390959437339006339:=t;a.tw7151364102548902275:=t;a.tw2139664373904277891:=t;a.tw3373724469577882595:=t;a.tw5078502267442665443:=t;a.tw11207653341006547538:=t;a.tw17337084155013822610:=t;a.tw7224236527857392818:=t;a.tw9990284024991039666:=t;a.tw13027731633915007730:=t;a.tw5263180093583267602:=t;a.tw15157073290141472530:=t;a.tw12309148127153834770:=t;a.tw10273992745365682482:=t;a.tw10172601811889671506:=t;a.tw8791434264119179634:=t;a.tw127199526264490354:=t;a.tw582337362280193938:=t;a.tw4405955269128645522:=t;a.tw250792103098082258:=t;a.tw10601825163726767602:=t;a.tw15042612764535430642:=t;a.tw1652289108797867538:=t;a.tw14792876032492435506:=t;a.tw13582046431776500786:=t;a.tw10745952173510100050:=t;a.tw13450607107527395410:=t;a.tw8644959224810609746:=t;a.tw16729909710373421170:=t;a.tw5025997622382996146:=t;a.tw13435289753818491570:=t;a.tw2365440174299456754:=t;a.tw17480066002537955602:=t;a.tw452249722030997298:=t;a.tw1636253399809777490:=t;a.tw569052315293223314:=t;a.tw17033371578236333042:=t;a.tw7524008234476570642:=t;a.tw836110340313517618:=t;a.tw16472940686032352209:=t;a.tw11290688507343412753:=t;a.tw14564014200499891281:=t;a.tw7847477333486268497:=t;a.tw5437258785211554929:=t;a.tw13065602751654068337:=t;a.tw17563368740476235441:=t;a.tw7819144276174270129:=t;a.tw16369194069426536145:=t;a.tw4304463480412209393:=t;a.tw18311305487665158449:=t;a.tw11857459058179301201:=t;a.tw1266392479598284625:=t;a.tw1921604709204640593:=t;a.tw14911691373518838641:=t;a.tw10363246679133340529:=t;a.tw8519564829864638897:=t;a.tw17955350215840382385:=t;a.tw13600501404174366705:=t;a.tw3800682021368565777:=t;a.tw15513965582936079377:=t;a.tw10848290269823629329:=t;a.tw1588981980020789841:=t;a.tw12361139846430719569:=t;a.tw5793589885076703857:=t;a.tw2883075248183874737:=t;a.tw15611153672441743537:=t;a.tw3106999595328554161:=t;a.tw13894957188182250705:=t;a.tw7406758518093069521:=t;a.tw7710869730685900529:=t;a.tw17395821281601454833:=t;a.tw6632584085426326289:=t;a.tw13381826354256068369:=t;a.tw3679359989007416081:=t;a.tw12375280827473276721:=t;a.tw10288422515507233585:=t;a.tw16128113302253558097:=t;a.tw12086530487696134481:=t;a.tw15869995314933436785:=t;a.tw9376272640751284625:=t;a.tw3266476326734268337:=t;a.tw17308603246248432160:=t;a.tw17277782351153100320:=t;a.tw15644050782314727520:=t;a.tw463966132102406880:=t;a.tw6357295359019345664:=t;a.tw17602022558883207456:=t;a.tw9102296825818163040:=t;a.tw950824054767481696:=t;a.tw15023214964932324224:=t;a.tw514344179038433184:=t;a.tw4661075818094601664:=t;a.tw861630606186428896:=t;a.tw7155745419664832000:=t;a.tw17050208162665935360:=t;a.tw13682166042689305632:=t;a.tw13974637927164595232:=t;a.tw8272339324614831712:=t;a.tw9810213484159325792:=t;a.tw12253431489468856960:=t;a.tw414956638680388256:=t;a.tw2627072220716141216:=t;a.tw14122230178581446912:=t;a.tw17890651367197728544:=t;a.tw17396255944109499168:=t;a.tw10678142034035449632:=t;a.tw6870420228032190240:=t;a.tw1757951459109296480:=t;a.tw15584329745899686304:=t;a.tw5720923798748317088:=t;a.tw17264991651709836224:=t;a.tw9716452456237432800:=t;a.tw614056003713796991:=t;a.tw3207887739721596799:=t;a.tw12598685750977366975:=t;a.tw10004071564567027167:=t;a.tw4739123794699181535:=t;a.tw9022074378260741183:=t;a.tw9995528652575962175:=t;a.tw15730697032955308095:=t;a.tw3954540740826269791:=t;a.tw14338051930274654847:=t;a.tw18185439024196149887:=t;a.tw15306206096851105407:=t;a.tw1956130035773710015:=t;a.tw17274140221293399263:=t;a.tw6439860802737555679:=t;a.tw13813255545888990463:=t;a.tw4461624876230945567:=t;a.tw11576340395320238879:=t;a.tw4346602648039575327:=t;a.tw12499012442921547583:=t;a.tw12692847785303859039:=t;a.tw70050322743762783:=t;a.tw6160952995681496479:=t;a.tw1512606827486245855:=t;a.tw13179322256208555583:=t;a.tw7507324090965439071:=t;a.tw14259727540392716895:=t;a.tw12398262825453986943:=t;a.tw17249112801906690207:=t;a.tw8185220318990090975:=t;a.tw14339956537692718847:=t;a.tw11128362128263166239:=t;a.tw5666012851635427647:=t;a.tw294205926520076607:=t;a.tw8292601338668482911:=t;a.tw15572708606159191391:=t;a.tw15627195488492720414:=t;a.tw9574692524545799998:=t;a.tw121598811707226942:=t;a.tw10609158054951625534:=t;a.tw4578628171183233918:=t;a.tw5841121956346033118:=t;a.tw12116585072193192990:=t;a.tw17460217395154060318:=t;a.tw8725847683461821054:=t;a.tw12363408759371307166:=t;a.tw6463805489532565214:=t;a.tw1082740848624446206:=t;a.tw7337268905498809086:=t;a.tw14086286636587770654:=t;a.tw2359744270590512478:=t;a.tw5158653480541071742:=t;a.tw14991543869049582494:=t;a.tw228499412825566110:=t;a.tw9401080364072808926:=t;a.tw5186547323275392478:=t;a.tw6822026766140080670:=t;a.tw768994745176041534:=t;a.tw8563368204301111358:=t;a.tw2336882241251162206:=t;a.tw5056615871222345822:=t;a.tw13172368861981287070:=t;a.tw9898625353239361182:=t;a.tw7288550594009471646:=t;a.tw7054153916886370605:=t;a.tw11968798479740730669:=t;a.tw250129834830798125:=t;a.tw2263202650266667853:=t;a.tw13248814248541336429:=t;a.tw13546234650125720461:=t;a.tw6725178518866546125:=t;a.tw15561334112019056621:=t;a.tw7482129648854530061:=t;a.tw5878108860821836813:=t;a.tw8067308703486583853:=t;a.tw899250956688123949:=t;a.tw8946729520613236781:=t;a.tw826936486976639021:=t;a.tw2313740571725615149:=t;a.tw15416319067166485101:=t;a.tw4520476911091252877:=t;a.tw17713228354132289165:=t;a.tw6772363566943157421:=t;a.tw519374362620338349:=t;a.tw11828270673834831629:=t;a.tw16051320063329766157:=t;a.tw6856940083037425421:=t;a.tw8426498803695708525:=t;a.tw13983902938225198477:=t;a.tw4697430999088973197:=t;a.tw12734775300039339949:=t;a.tw5223327070462915053:=t;a.tw4957168843512569965:=t;a.tw4956372973697853133:=t;a.tw15318309280406951149:=t;a.tw14529716018494131469:=t;a.tw14359949017926389005:=t;a.tw11527999783488775437:=t;a.tw2879702896315065516:=t;a.tw7296084002288880812:=t;a.tw1733553371934279884:=t;a.tw9386250329774550252:=t;a.tw8452936819938878700:=t;a.tw4930788579214128908:=t;a.tw6177818333704597324:=t;a.tw10530839203666096972:=t;a.tw2521344199762666860:=t;a.tw12706041221662432620:=t;a.tw2310876870364382124:=t;a.tw9019074971077450700:=t;a.tw14772664664120868812:=t;a.tw3882220239626862124:=t;a.tw15507080027434692172:=t;a.tw15173584375345738316:=t;a.tw2745783931839194700:=t;a.tw2471796180331505804:=t;a.tw18335971180012684428:=t;a.tw4379085238536130220:=t;a.tw1092085932891897548:=t;a.tw17211673258485279436:=t;a.tw8294785959862704876:=t;a.tw7990150965592191724:=t;a.tw5718173814940674316:=t;a.tw3856527481881369900:=t;a.tw2939898816676504908:=t;a.tw16412957519575210860:=t;a.tw7268432959359235980:=t;a.tw17038723801617431436:=t;a.tw11595600806863976908:=t;a.tw4333588051146428876:=t;a.tw13328186272687872492:=t;a.tw5820804026655067628:=t;a.tw10403825502436697100:=t;a.tw2029953878714751020:=t;a.tw7775534507726378028:=t;a.tw6811212904342318700:=t;a.tw8088530788507861644:=t;a.tw10664335321379176076:=t;a.tw7759903494936920716:=t;a.tw12561050388457941547:=t;a.tw13520191544837397035:=t;a.tw9588443812318031435:=t;a.tw3521820528526374475:=t;a.tw7395157770584258667:=t;a.tw12398632011174212779:=t;a.tw2207593675789919947:=t;a.tw1022146070045204203:=t;a.tw6628440170057015019:=t;a.tw18068759424936997163:=t;a.tw12904888046495498571:=t;a.tw17948641416981862251:=t;a.tw16328409930563410827:=t;a.tw17390910938831203211:=t;a.tw2965355232082954155:=t;a.tw8380844884668016075:=t;a.tw7923011417880450507:=t;a.tw8824925849588025867:=t;a.tw16320881602003381291:=t;a.tw10794026504644782699:=t;a.tw14579496438064886379:=t;a.tw1617268740283647659:=t;a.tw13147064363200244939:=t;a.tw1642728897030785835:=t;a.tw10276635811926518603:=t;a.tw17989062792625480523:=t;a.tw4346627020817615691:=t;a.tw13822051921500295563:=t;a.tw12342472255127009675:=t;a.tw16787602816280855979:=t;a.tw6576389584657751467:=t;a.tw16576423534806862251:=t;a.tw2654041015450033579:=t;a.tw4656008846905841067:=t;a.tw5527780903620776363:=t;a.tw8657556743184587723:=t;a.tw18101629489858872299:=t;a.tw11611429218792160235:=t;a.tw14147661664250039307:=t;a.tw13536339807343613963:=t;a.tw17683982159423785995:=t;a.tw5075562184469244506:=t;a.tw11754311822756356698:=t;a.tw3451165366028308058:=t;a.tw10723281520929228378:=t;a.tw13773466206614402682:=t;a.tw5639946015616043194:=t;a.tw3215285152533555386:=t;a.tw9768730877323001626:=t;a.tw14762360919216477530:=t;a.tw14817168421823590778:=t;a.tw10350367922833170810:=t;a.tw13747843877788162426:=t;a.tw3765504340294462842:=t;a.tw17104427288301681562:=t;a.tw14487251253983980442:=t;a.tw14973495033799724954:=t;a.tw6940799674546342842:=t;a.tw7201220359507495418:=t;a.tw15176655339591679514:=t;a.tw15379185370355252762:=t;a.tw18349190380770945114:=t;a.tw5488117235871707258:=t;a.tw17447825018258193530:=t;a.tw3095795424937373338:=t;a.tw12774034549689370266:=t;a.tw1102768828375777946:=t;a.tw8119973810685224186:=t;a.tw9722561764432703738:=t;a.tw6491303847277646106:=t;a.tw2051091636652908378:=t;a.tw6955420481026879354:=t;a.tw5115285638183345114:=t;a.tw3459001775221685242:=t;a.tw10695048571538259994:=t;a.tw4853030208010459162:=t;a.tw16282587710416986617:=t;a.tw1730001396401103385:=t;a.tw8740735252329957913:=t;a.tw17999480881806547065:=t;a.tw6146496104575878841:=t;a.tw3785207044252280505:=t;a.tw4818523043313987289:=t;a.tw17994966202221512953:=t;a.tw16121451351914611961:=t;a.tw6706791998830244121:=t;a.tw16943898587238884665:=t;a.tw7512921985771988281:=t;a.tw4644836612486308697:=t;a.tw8950790540081193849:=t;a.tw400772937596636601:=t;a.tw15181193554492594617:=t;a.tw5669072470955546073:=t;a.tw5843511987464700921:=t;a.tw16836418999332305945:=t;a.tw355422703810194489:=t;a.tw1677889511070852153:=t;a.tw17445136478551291481:=t;a.tw1421518169471776345:=t;a.tw15627498899524373081:=t;a.tw16392981222977470073:=t;a.tw4883306328434061945:=t;a.tw800495354960734841:=t;a.tw1835507916761985657:=t;a.tw18117205418703603321:=t;a.tw17841858865219004569:=t;a.tw4122123831410207897:=t;a.tw13169478234696326329:=t;a.tw14895092798863209209:=t;a.tw9793627656332104441:=t;a.tw13006041330096687865:=t;a.tw658121875353761561:=t;a.tw2162923014221333273:=t;a.tw17655089722810908473:=t;a.tw748856753918044505:=t;a.tw9237388749726733657:=t;a.tw4526157563324154233:=t;a.tw68604753878232441:=t;a.tw18136963780222699897:=t;a.tw17781739789069025209:=t;a.tw11762387781299327496:=t;a.tw15635759155922588168:=t;a.tw17549569359763705352:=t;a.tw665558219933025864:=t;a.tw13803551369285995624:=t;a.tw15079632790469588104:=t;a.tw7605318942014751880:=t;a.tw7896641595424625352:=t;a.tw2528072648291062504:=t;a.tw13184458814067141896:=t;a.tw10008804189505461512:=t;a.tw4315620036549755144:=t;a.tw15456256831287078216:=t;a.tw5058353269866734920:=t;a.tw2275755784298205032:=t;a.tw14928886605265206120:=t;a.tw11914253267048407912:=t;a.tw14934218101938694056:=t;a.tw14471261453857391048:=t;a.tw17105096807389900232:=t;a.tw11893447769500482024:=t;a.tw354678014153645544:=t;a.tw11340432155780043240:=t;a.tw13593606391865077768:=t;a.tw3967640433197024264:=t;a.tw11704647365877001256:=t;a.tw1505475292294258728:=t;a.tw12727616903447232552:=t;a.tw5756201151824491560:=t;a.tw10001090778742725704:=t;a.tw6190340318883827304:=t;a.tw3744498429037860456:=t;a.tw4617979511927115400:=t;a.tw161031085832311432:=t;a.tw6636291673235022024:=t;a.tw17725248990770313448:=t;a.tw17979903455585594600:=t;a.tw13067338236865921256:=t;a.tw3761675852121933032:=t;a.tw8335263305307862792:=t;a.tw18381880454064900872:=t;a.tw3949591382259365672:=t;a.tw15440717293816590120:=t;a.tw174215582518221768:=t;a.tw9500837046852429768:=t;a.tw9728203614075176904:=t;a.tw6321901858094016488:=t;a.tw4772905190684518376:=t;a.tw14457895193933572072:=t;a.tw12316662180941002728:=t;a.tw10861442222210200487:=t;a.tw4320114180266944423:=t;a.tw3852680129578735047:=t;a.tw15149840198300082631:=t;a.tw15611445224919081479:=t;a.tw3534203359400466951:=t;a.tw2748327750853969959:=t;a.tw6854177824098350183:=t;a.tw7183386210017717895:=t;a.tw9184984932637152903:=t;a.tw17642448868485160167:=t;a.tw2010270106525963527:=t;a.tw1337470786444844839:=t;a.tw4171133483933887303:=t;a.tw626102392101987143:=t;a.tw15494467743026451847:=t;a.tw11974540389675699623:=t;a.tw13973103313063367079:=t;a.tw4932588950377615303:=t;a.tw8248934342573827623:=t;a.tw3063133358252380711:=t;a.tw2296681053536535111:=t;a.tw9463828466463350919:=t;a.tw1060853244909678279:=t;a.tw15017003792803998407:=t;a.tw10675189833268513511:=t;a.tw14893422427415084775:=t;a.tw7901285168300753223:=t;a.tw7211288985535906119:=t;a.tw14305122920089796870:=t;a.tw2542023548300351782:=t;a.tw7522383846244313926:=t;a.tw14294829912676731750:=t;a.tw7518046154612015494:=t;a.tw5280684624781086086:=t;a.tw7229956820942984614:=t;a.tw14085799650392991174:=t;a.tw8579292361270504902:=t;a.tw11498124115981254630:=t;a.tw6447399257873223654:=t;a.tw9176391524721936358:=t;a.tw2424029247976752102:=t;a.tw7128694131189452806:=t;a.tw13430657946838610982:=t;a.tw10242861013838150694:=t;a.tw365822999954975302:=t;a.tw16019391411114206790:=t;a.tw9694778191055896134:=t;a.tw7484656503836585094:=t;a.tw4835650946988619910:=t;a.tw6702251596151365350:=t;a.tw10347127475870565126:=t;a.tw5748421134454133510:=t;a.tw14658232539733776166:=t;a.tw3772181492281132358:=t;a.tw510034524805376902:=t;a.tw10790774229820402566:=t;a.tw4062310666402757510:=t;a.tw4276970941608322982:=t;a.tw12909908295200725926:=t;a.tw16765262857405751238:=t;a.tw16415620128047538118:=t;a.tw12860991408674953158:=t;a.tw14200284229353279974:=t;a.tw2690770034763682310:=t;a.tw14479036243309707814:=t;a.tw11070596179216897126:=t;a.tw12381069317950250630:=t;a.tw17809258728687419701:=t;a.tw11963418310849408309:=t;a.tw649316864938760021:=t;a.tw16192518863714278837:=t;a.tw10280811080478183893:=t;a.tw8228600586321971189:=t;a.tw11300500318673541141:=t;a.tw9356149868903273525:=t;a.tw15188238277918332501:=t;a.tw988558063965940309:=t;a.tw2207480224261559893:=t;a.tw9542967020315466357:=t;a.tw10977465384387443317:=t;a.tw1706638865179086485:=t;a.tw6818521514160573077:=t;a.tw6010056515521394869:=t;a.tw17496348785000406197:=t;a.tw8719819076616892629:=t;a.tw15089928637803464917:=t;a.tw4209130953323777781:=t;a.tw13782666239390477685:=t;a.tw12633794620684005749:=t;a.tw18422959999708966837:=t;a.tw14877297698051427861:=t;a.tw13355351124284049941:=t;a.tw5810974530759177781:=t;a.tw15807385075428903477:=t;a.tw13118206456401006677:=t;a.tw5336931325929349237:=t;a.tw12514080218560795765:=t;a.tw16356346745913985141:=t;a.tw12344517981625027285:=t;a.tw16146595313776438997:=t;a.tw16909117603801464533:=t;a.tw6559828208931628277:=t;a.tw2524374791671498005:=t;a.tw18373027562630835477:=t;a.tw3660402847758843060:=t;a.tw4106354953120404724:=t;a.tw16585200459589732116:=t;a.tw2341645991942828852:=t;a.tw12238953950010244916:=t;a.tw13511505533914642260:=t;a.tw10632417747053672276:=t;a.tw6420079951134836564:=t;a.tw12812211987008183668:=t;a.tw5414446479578348468:=t;a.tw16071589735402730452:=t;a.tw718473609492308980:=t;a.tw9432590821619482132:=t;a.tw5913892598872673972:=t;a.tw12130921441868570292:=t;a.tw7574039649927350996:=t;a.tw14797025828162499284:=t;a.tw15147575053525722868:=t;a.tw15810158827734284564:=t;a.tw3306981651453086004:=t;a.tw14687127797475901300:=t;a.tw6472322787147448212:=t;a.tw1985756204490269588:=t;a.tw15448235570873803220:=t;a.tw7220560493574071796:=t;a.tw8471606677233185268:=t;a.tw1123058544945729556:=t;a.tw9177684488369616948:=t;a.tw16912929911536098388:=t;a.tw14493687284078445652:=t;a.tw2542266771312912020:=t;a.tw11545712699457959886:=t;a.tw6050458694009307326:=t
set_option tactic.hygienic true
theorem M.a : PySem.Challenge.rw_te0031_03.Holds := by
  w_on; o_law; k_head; (case hw => w_witness2); w_strict (
    k_go0
    rename_i w s₀ s₁ mg mb a1 a2 a3 a4 a5 a6 a7 hg KX a9 b1 b2 T b3 b4 b5 b6 b7 b8 b9 c1 c0 is c2 c3 c4 c5 c6 c7 c8 sp vs d1 hL d2 w1 d3 hI d4 hlen' d5 d6 d7 h₁ tk F cob ce N0 X0
    obtain ⟨n, hob⟩ := xr w1 ⟨_, rfl⟩ hL
    have hlen : is.length ≤ 63 := by omega
    refine L3.law_go (P7 := PySem.Challenge.rw_te0031_03.row.prog) (w := w) hI hlen hob KX T ?_ ?_
     (fun T => ⟨?_, ?_⟩)
     ⟨Ir ?_ ?_,Ir ?_ ?_,Ir ?_ ?_,Ir ?_ ?_,Df ?_ ?_ ?_ (by decide +kernel) rfl rfl,Df ?_ ?_ ?_ (by decide +kernel) rfl rfl,Ir ?_ ?_,CB ?_ ?_,Ir ?_ ?_,Gi (D := 235) ?_ ?_ ?_ (by decide +kernel) rfl, trivial⟩
     ⟨Gn (xs := [Str.ofString "text"]) rfl rfl (.cons ?_ .nil) (by decide +kernel) ?_ (fun v => .of_eq ?_),Gn (xs := [Str.ofString "self", Str.ofString "text"]) rfl rfl (.cons ?_ (.cons ?_ .nil)) (by decide +kernel) ?_ (fun v u => .of_eq ?_),Gn (xs := [Str.ofString "self", Str.ofString "size"]) rfl rfl (.cons ?_ (.cons ?_ .nil)) (by decide +kernel) ?_ (fun v u => .of_eq ?_),Gn (xs := [Str.ofString "codepoint"]) rfl rfl (.cons ?_ .nil) (by decide +kernel) ?_ (fun v => .of_eq ?_),Gn (xs := [Str.ofString "self", Str.ofString "source"]) rfl rfl (.cons ?_ (.cons ?_ .nil)) (by decide +kernel) ?_ (fun v u => .of_eq ?_),Gn (xs := [Str.ofString "self"]) rfl rfl (.cons ?_ .nil) (by decide +kernel) ?_ (fun v => .of_eq ?_),Gn (xs := [Str.ofString "self", Str.ofString "source"]) rfl rfl (.cons ?_ (.cons ?_ .nil)) (by decide +kernel) ?_ (fun v u => .of_eq ?_),Gn (xs := [Str.ofString "self", Str.ofString "offset"]) rfl rfl (.cons ?_ (.cons ?_ .nil)) (by decide +kernel) ?_ (fun v u => .of_eq ?_),Gn (xs := [Str.ofString "self"]) rfl rfl (.cons ?_ .nil) (by decide +kernel) ?_ (fun v => .of_eq ?_),Gn (xs := [Str.ofString "self"]) rfl rfl (.cons ?_ .nil) (by decide +kernel) ?_ (fun v => .of_eq ?_),Cn (xs := [Str.ofString "self", Str.ofString "chunkSize"]) rfl rfl VR.none (.cons ?_ (.cons ?_ .nil)) (by decide +kernel) ?_ (fun v u => Pk ?_ ?_ ?_) (fun v => Pk ?_ ?_ ?_),Gn (xs := [Str.ofString "self", Str.ofString "data"]) rfl rfl (.cons ?_ (.cons ?_ .nil)) (by decide +kernel) ?_ (fun v u => .of_eq ?_),Cn (xs := [Str.ofString "self", Str.ofString "characters", Str.ofString "opposite"]) rfl rfl (VR.bool _) (.cons ?_ (.cons ?_ (.cons ?_ .nil))) (by decide +kernel) ?_ (fun v u t => Pk ?_ ?_ ?_) (fun v u => Pk ?_ ?_ ?_),Gn (xs := [Str.ofString "self", Str.ofString "char"]) rfl rfl (.cons ?_ (.cons ?_ .nil)) (by decide +kernel) ?_ (fun v u => .of_eq ?_),Gn (xs := [Str.ofString "rows", Str.ofString "key", Str.ofString "low", Str.ofString "high"]) rfl rfl (.cons ?_ (.cons ?_ (.cons ?_ (.cons ?_ .nil)))) (by decide +kernel) ?_ (fun v u t o => Pk ?_ ?_ ?_),Gn (xs := [Str.ofString "self", Str.ofString "key"]) rfl rfl (.cons ?_ (.cons ?_ .nil)) (by decide +kernel) ?_ (fun v u => .of_eq ?_),Gn (xs := [Str.ofString "self", Str.ofString "prefix"]) rfl rfl (.cons ?_ (.cons ?_ .nil)) (by decide +kernel) ?_ (fun v u => .of_eq ?_),Cn (xs := [Str.ofString "self", Str.ofString "stream", Str.ofString "parser"]) rfl rfl VR.none (.cons ?_ (.cons ?_ (.cons ?_ .nil))) (by decide +kernel) ?_ (fun v u t => Pk ?_ ?_ ?_) (fun v u => Pk ?_ ?_ ?_),Gn (xs := [Str.ofString "self", Str.ofString "isHex"]) rfl rfl (.cons ?_ (.cons ?_ .nil)) (by decide +kernel) ?_ (fun v u => .of_eq ?_),Gn (xs := [Str.ofString "self", Str.ofString "allowedChar", Str.ofString "fromAttribute"]) rfl rfl (.cons ?_ (.cons ?_ (.cons ?_ .nil))) (by decide +kernel) ?_ (fun v u t => Pk ?_ ?_ ?_),Gn (xs := [Str.ofString "self", Str.ofString "allowedChar"]) rfl rfl (.cons ?_ (.cons ?_ .nil)) (by decide +kernel) ?_ (fun v u => .of_eq ?_),Gn (xs := [Str.ofString "self"]) rfl rfl (.cons ?_ .nil) (by decide +kernel) ?_ (fun v => .of_eq ?_),Gn (xs := [Str.ofString "self"]) rfl rfl (.cons ?_ .nil) (by decide +kernel) ?_ (fun v => .of_eq ?_),Gn (xs := [Str.ofString "self"]) rfl rfl (.cons ?_ .nil) (by decide +kernel) ?_ (fun v => .of_eq ?_),Gn (xs := [Str.ofString "self"]) rfl rfl (.cons ?_ .nil) (by decide +kernel) ?_ (fun v => .of_eq ?_),Gn (xs := [Str.ofString "self"]) rfl rfl (.cons ?_ .nil) (by decide +kernel) ?_ (fun v => .of_eq ?_),Gn (xs := [Str.ofString "self"]) rfl rfl (.cons ?_ .nil) (by decide +kernel) ?_ (fun v => .of_eq ?_),Gk rfl (.of_eq ?_),Gk rfl (.of_eq ?_),Gk rfl (.of_eq ?_),Gk rfl (.of_eq ?_),Gn (xs := [Str.ofString "n"]) rfl rfl (.cons ?_ .nil) (by decide +kernel) ?_ (fun v => .of_eq ?_),Gn (xs := [Str.ofString "part"]) rfl rfl (.cons ?_ .nil) (by decide +kernel) ?_ (fun v => .of_eq ?_),Gn (xs := [Str.ofString "number"]) rfl rfl (.cons ?_ .nil) (by decide +kernel) ?_ (fun v => .of_eq ?_),Gn (xs := [Str.ofString "rest"]) rfl rfl (.cons ?_ .nil) (by decide +kernel) ?_ (fun v => .of_eq ?_),Gn (xs := [Str.ofString "text"]) rfl rfl (.cons ?_ .nil) (by decide +kernel) ?_ (fun v => .of_eq ?_),Gn (xs := [Str.ofString "reader", Str.ofString "state"]) rfl rfl (.cons ?_ (.cons ?_ .nil)) (by decide +kernel) ?_ (fun v u => .of_eq ?_),Gn (xs := [Str.ofString "token"]) rfl rfl (.cons ?_ .nil) (by decide +kernel) ?_ (fun v => .of_eq ?_),Gn (xs := [Str.ofString "row"]) rfl rfl (.cons ?_ .nil) (by decide +kernel) ?_ (fun v => .of_eq ?_),Gn (xs := [Str.ofString "script"]) rfl rfl (.cons ?_ .nil) (by decide +kernel) ?_ (fun v => .of_eq ?_), trivial⟩
     ⟨Gn (xs := [Str.ofString "self", Str.ofString "prefix"]) rfl rfl (.cons ?_ (.cons ?_ .nil)) (by decide +kernel) ?_ (fun v u => .of_eq ?_), trivial⟩
     (fun fn e => by obtain rfl := Option.some.inj e; exact M2 (x0 := Str.ofString "self") rfl rfl (.cons (by kernel_rfl) (.cons (by kernel_rfl) (.cons (by kernel_rfl) .nil))) (show List.Nodup (Str.ofString "self" :: L3.kN) by decide +kernel) (by kernel_rfl) (fun v0 => fun v u => NX (by kernel_rfl) (by kernel_rfl) rfl (by kernel_rfl)))
     (fun g T e => ?zp1)
     (by k_is) (fun T hk => ?_) F N0 X0 fun h' t' hk => ?zq1
    case zp1 =>
      have e : (bif Nat.beq 46 g then some _ else none) = some T := e
      cases q : Nat.beq 46 g with
      | false => rw [q] at e; cases e
      | true =>
        rw [q] at e
        obtain rfl := Nat.eq_of_beq_eq_true q
        obtain rfl := Option.some.inj e
        exact DA (by kernel_rfl) (by kernel_rfl) rfl
    case zq1 => exact ⟨.inl ⟨.bool true, .bool true, [], rfl, fun cls => rfl, .bool true, PySem.W.postW_of (r := PySem.Challenge.rw_te0031_03.row.toRowW) (X := true) (by rfl) (by first | with_unfolding_all rfl | (show WTm.value _ (.eq .res (.lit (.bool true))) _ = _; simp [WTm.value])) rfl, fun _ => ⟨List.nodup_nil, by simp⟩⟩, hk, rfl, hg⟩
    all_goals kernel_rfl)
end Internal
theorem PySem.Challenge.cw_te0031_03_holds : PySem.Challenge.rw_te0031_03.Holds :=
  Internal.M.a
