import PyProof.Rows.All
import Wide.All
import OpenK.AllK
import Wide.FinOn
import PySem.Challenge.RW_te0031_02
open PySem PySem.W PyProof.Rows
set_option linter.all false
set_option maxRecDepth 100000
set_option maxHeartbeats 0
set_option genInjectivity false
set_option genSizeOf false
set_option genCtorIdx false
set_option bootstrap.genMatcherCode false
namespace Internal
section
set_option genCtorIdx false
mutual
inductive V where
 | none | bool (b : Bool) | int (i : Int) | str (s : List Nat) | ref (a : Nat) | sref (a : Nat) | frz (o : O) | bad
inductive O where
 | list (vs : List V) | tuple (vs : List V) | dict (kvs : List (List Nat × V)) | inst (c : Nat) (fs : List (Nat × V)) | meth (f : Nat) (self : V) | rng (a b s : Int)
end
noncomputable def V.ctorIdx (v : V) : Nat:=V.casesOn (motive_1:=fun J=>Nat) v 0 (fun J=>1) (fun J=>2) (fun J=>3) (fun J=>4) (fun J=>5) (fun J=>6) 7
noncomputable def O.ctorIdx (v : O) : Nat:=O.casesOn (motive_2:=fun J=>Nat) v (fun J=>0) (fun J=>1) (fun J=>2) (fun J J=>3) (fun J J=>4) (fun J J J=>5)
theorem V.ref_inj {a b : Nat} (h : V.ref a = V.ref b) : a = b:=by cases h; rfl
abbrev St:=List O
abbrev Loc:=List (Nat × V)
noncomputable def getK {β : Type} : Nat → List (Nat × β) → Option β
 | _,[]=>none
 | k,(i,v) :: r=>bif Nat.beq i k then some v else getK k r
noncomputable def putK {β : Type} : Nat → β → List (Nat × β) → List (Nat × β)
 | k,v,[]=>[(k,v)]
 | k,v,(i,w) :: r=>bif Nat.beq i k then (k,v) :: r else (i,w) :: putK k v r
noncomputable def getS {β : Type} : List Nat → List (List Nat × β) → Option β
 | _,[]=>none
 | k,(i,v) :: r=>if i = k then some v else getS k r
noncomputable def putS {β : Type} : List Nat → β → List (List Nat × β) → List (List Nat × β)
 | k,v,[]=>[(k,v)]
 | k,v,(i,w) :: r=>if i = k then (i,v) :: r else (i,w) :: putS k v r
set_option genCtorIdx true
inductive BOp where | add | sub | fdiv | mod | mul
inductive COp where | eq | ne | lt | le | gt | ge | isin | notin | is | isnot
inductive UOp where | len | ord | chr | sum | listOf | range
inductive MOp where | append | popAt | join | count3 | rfind3 | split | starts
set_option genCtorIdx false
inductive Ft where | one (i : Nat)
inductive PE where
 | const (v : V)
 | loc (i : Nat)
 | glob (v : V)
 | attr (e : PE) (f : Nat)
 | sub (e i : PE)
 | slice (e lo hi : PE)
 | bin (op : BOp) (l r : PE)
 | cmp (op : COp) (l r : PE)
 | chain (o1 o2 : COp) (a b c : PE)
 | notE (e : PE)
 | neg (e : PE)
 | andE (l r : PE)
 | orE (l r : PE)
 | ife (t b o : PE)
 | listE (es : List PE)
 | tupE (es : List PE)
 | dictE (ks : List (List Nat)) (vs : List PE)
 | comp (t : Ft) (it : PE) (cnd : PE) (elt : PE)
 | call (f : Nat) (es : List PE)
 | new (c : Nat) (es : List PE)
 | meth (o : PE) (m : Nat) (es : List PE)
 | replC (o : PE) (a b : List Nat)
 | un (op : UOp) (e : PE) | bm (op : MOp) (o : PE) (es : List PE)
 | rng2 (a b : PE) | rng3 (a b c : PE) | inM (x o : PE) (m : Nat)
noncomputable abbrev PE.len (e : PE) : PE:=.un .len e
noncomputable abbrev PE.ord (e : PE) : PE:=.un .ord e
noncomputable abbrev PE.chr (e : PE) : PE:=.un .chr e
noncomputable abbrev PE.sum (e : PE) : PE:=.un .sum e
noncomputable abbrev PE.listOf (e : PE) : PE:=.un .listOf e
noncomputable abbrev PE.range (e : PE) : PE:=.un .range e
noncomputable abbrev PE.append (o e : PE) : PE:=.bm .append o [e]
noncomputable abbrev PE.pop (o : PE) : PE:=.bm .popAt o []
noncomputable abbrev PE.starts (o p : PE) : PE:=.bm .starts o [p]
noncomputable abbrev PE.join (sep : List Nat) (e : PE) : PE:=.bm .join (.const (.str sep)) [e]
noncomputable abbrev PE.count3 (o : PE) (p : List Nat) (lo hi : PE) : PE:=.bm .count3 o [.const (.str p),lo,hi]
noncomputable abbrev PE.rfind3 (o : PE) (p : List Nat) (lo hi : PE) : PE:=.bm .rfind3 o [.const (.str p),lo,hi]
noncomputable abbrev PE.splitC (o : PE) (p : List Nat) : PE:=.bm .split o [.const (.str p)]
inductive Tg where | l (i : Nat) | a (o : PE) (f : Nat)
inductive PS where
 | expr (e : PE)
 | assign (t : Tg) (e : PE)
 | assignT (ts : List Tg) (e : PE)
 | augL (i : Nat) (op : BOp) (e : PE)
 | augA (o : PE) (f : Nat) (op : BOp) (e : PE)
 | augS (o i : PE) (op : BOp) (e : PE)
 | ifs (t : PE) (b o : List PS)
 | whiles (t : PE) (b : List PS)
 | fors (t : Ft) (it : PE) (b : List PS)
 | asrt (e : PE)
 | tryC (i j : Nat) (o : PE) (m : Nat) (e : PE)
 | ret (e : PE)
 | brk | cont | pass | gc (k : Nat) | retf (e : PE)
inductive Fl where | next | brk | cont | ret (v : V)
noncomputable def Fl.ctorIdx (v : Fl) : Nat:=Fl.casesOn v 0 1 2 fun J=>3
noncomputable def LIM : Nat:=100000
noncomputable def LIMD : Nat:=500
noncomputable def BIG : Nat:=1000000
noncomputable def toS (l : List Nat) : Str:=⟨l.toArray⟩
noncomputable def ofS (s : Str) : List Nat:=s.cps.toList
noncomputable def isSub (p y : List Nat) : Bool:=!(Builtin.Str.occurrences (toS y) (toS p) 0 (toS y).length 1).isEmpty
noncomputable def clampI (n : Nat) (i : Int) : Nat:=if i < 0 then (i + n).toNat else min i.toNat n
noncomputable def sliceLo (n : Nat) : V → Option Nat
 | .none=>some 0
 | .int i=>some (clampI n i)
 | _=>none
noncomputable def sliceHi (n : Nat) : V → Option Nat
 | .none=>some n
 | .int i=>some (clampI n i)
 | _=>none
noncomputable def cut {α : Type} (l : List α) (i j : Nat) : List α:=(l.drop i).take (j - i)
noncomputable def idxOf (n : Nat) (i : Int) : Option Nat :=
 if 0 ≤ i then (if i.toNat < n then some i.toNat else none) else (if -i ≤ n then some (n - (-i).toNat) else none)
structure Cx where
 so : Nat → Option O
 clsm : Nat → Nat → Option Nat
 clsv : Nat → Nat → Option V
 clsi : Nat → Nat → Bool
 init : Nat
 fuel : Nat
 call : Nat → List V → St → Option (V × St)
noncomputable def objOf (c : Cx) (σ : St) : V → Option O
 | .ref a=>σ[a]?
 | .sref a=>c.so a
 | .frz o=>some o
 | _=>none
noncomputable def obF (σ : St) : V → Option O
 | .ref a=>σ[a]?
 | .frz o=>some o
 | _=>none
noncomputable def eqL (f : V → V → Option Bool) : List V → List V → Option Bool
 | [],[]=>some true
 | a :: r,b :: t=>(f a b).bind fun x=>(eqL f r t).map fun y=>x && y
 | _,_=>none
noncomputable def intO {β : Type} (v : V) (f : Int → Option β) : Option β:=match v with | .int i=>f i | _=>none
noncomputable def strO {β : Type} (v : V) (f : List Nat → Option β) : Option β:=match v with | .str i=>f i | _=>none
noncomputable def cellO {β : Type} (σ : St) (v : V) (f : Nat → O → Option β) : Option β:=match v with | .ref a=>(σ[a]?).bind (f a) | _=>none
noncomputable def oList {β : Type} (o : O) (f : List V → Option β) : Option β:=match o with | .list vs=>f vs | _=>none
noncomputable def oTup {β : Type} (o : O) (f : List V → Option β) : Option β:=match o with | .tuple vs=>f vs | _=>none
noncomputable def oInst {β : Type} (o : O) (f : Nat → List (Nat × V) → Option β) : Option β:=match o with | .inst c fs=>f c fs | _=>none
noncomputable def sob {β : Type} (c : Cx) (σ : St) (v : V) (g : List Nat → Option β) (f : O → Option β) : Option β:=match v with | .str s=>g s | v=>(objOf c σ v).bind f
noncomputable def eqS (a b : V) : Option Bool:=match a with
 | .none=>(match b with | .none=>some true | .str _=>some false | .int _=>some false | _=>none)
 | .bool x=>(match b with | .bool y=>some (x == y) | _=>none)
 | .int x=>(match b with | .int y=>some (x == y) | .none=>some false | .str _=>some false | _=>none)
 | .str x=>(match b with | .str y=>some (x == y) | .none=>some false | .int _=>some false | _=>none)
 | _=>none
noncomputable def eqO (f : V → V → Option Bool) (o p : O) : Option Bool:=match o with
 | .list vs=>oList p fun ws=>if vs.length = ws.length then eqL f vs ws else some false
 | .tuple vs=>oTup p fun ws=>if vs.length = ws.length then eqL f vs ws else none
 | _=>none
noncomputable def neO (f : V → V → Option Bool) (o p : O) : Option Bool:=match o with
 | .tuple vs=>oTup p fun ws=>if vs.length = ws.length then (eqL f vs ws).map fun r=>!r else none
 | _=>none
noncomputable def eqV (σ : St) : Nat → V → V → Option Bool
 | 0,_,_=>none
 | k + 1,a,b=>match a with
  | .ref x=>(σ[x]?).bind fun o=>(obF σ b).bind fun p=>eqO (eqV σ k) o p
  | .frz o=>(obF σ b).bind fun p=>eqO (eqV σ k) o p
  | a=>eqS a b
noncomputable def neV (σ : St) (k : Nat) (a b : V) : Option Bool:=match a with
 | .ref x=>(σ[x]?).bind fun o=>(obF σ b).bind fun p=>neO (eqV σ k) o p
 | .frz o=>(obF σ b).bind fun p=>neO (eqV σ k) o p
 | a=>(eqS a b).map fun r=>!r
noncomputable def eqD : Nat:=12
noncomputable def inL (x : V) : List V → Option Bool
 | []=>some false
 | y :: r=>(eqS y x).bind fun b=>(inL x r).map fun d=>b || d
noncomputable def trO (o : O) : Option Bool:=match o with | .list vs=>some (!vs.isEmpty) | .meth _ _=>some true | _=>none
noncomputable def truthyV (c : Cx) (σ : St) (v : V) : Option Bool:=match v with
 | .none=>some false
 | .bool b=>some b
 | .int i=>some (decide (i ≠ 0))
 | .str s=>some (!s.isEmpty)
 | v=>(objOf c σ v).bind trO
noncomputable def isN (a : V) : Option Bool:=match a with | .none=>some true | .str _=>some false | .int _=>some false | .ref _=>some false | .frz _=>some false | _=>none
noncomputable def inO (a : V) (o : O) : Option Bool:=match o with
 | .list vs=>inL a vs
 | .tuple vs=>inL a vs
 | .dict kvs=>strO a fun k=>some (getS k kvs).isSome
 | _=>none
noncomputable def inV (c : Cx) (σ : St) (a b : V) : Option Bool:=sob c σ b (fun y=>strO a fun x=>some (isSub x y)) (inO a)
noncomputable def cmpV (c : Cx) (σ : St) (op : COp) (a b : V) : Option Bool:=match op with
 | .eq=>eqV σ eqD a b
 | .ne=>neV σ eqD a b
 | .lt=>(match a with | .int x=>intO b fun y=>some (decide (x < y)) | .str x=>strO b fun y=>some (decide (x < y)) | _=>none)
 | .gt=>intO a fun x=>intO b fun y=>some (decide (y < x))
 | .le=>(match a with | .int x=>intO b fun y=>some (decide (x ≤ y)) | .str x=>strO b fun y=>some (!decide (y < x)) | _=>none)
 | .ge=>intO a fun x=>intO b fun y=>some (decide (y ≤ x))
 | .is=>(match b with | .none=>isN a | _=>none)
 | .isnot=>(match b with | .none=>(isN a).map fun r=>!r | _=>none)
 | .isin=>inV c σ a b
 | .notin=>(inV c σ a b).map fun r=>!r
noncomputable def allocO (o : O) (σ : St) : Option (V × St):=some (.ref σ.length,σ ++ [o])
noncomputable def isR (v : V) : Bool:=match v with | .ref _=>true | _=>false
noncomputable def tupV (vs : List V) (σ : St) : Option (V × St):=bif vs.any isR then allocO (.tuple vs) σ else some (.frz (.tuple vs),σ)
noncomputable def allocL (vs : List V) (σ : St) : Option (V × St):=if vs.length ≤ LIM then allocO (.list vs) σ else none
noncomputable def addV (a b : V) (σ : St) : Option (V × St):=match a with
 | .int x=>intO b fun y=>some (.int (x + y),σ)
 | .str x=>strO b fun y=>if x.length + y.length ≤ LIM then some (.str (x ++ y),σ) else none
 | _=>none
noncomputable def binV (c : Cx) (op : BOp) (a b : V) (σ : St) : Option (V × St):=match op with
 | .add=>(match a with
  | .int x=>addV (.int x) b σ
  | .str x=>addV (.str x) b σ
  | a=>(obF σ a).bind fun o=>oList o fun vs=>(obF σ b).bind fun p=>oList p fun ws=>allocL (vs ++ ws) σ)
 | .sub=>intO a fun x=>intO b fun y=>some (.int (x - y),σ)
 | .fdiv=>intO a fun x=>intO b fun y=>if 0 < y ∧ y ≤ LIM then some (.int (Int.fdiv x y),σ) else none
 | .mod=>intO a fun x=>intO b fun y=>if 0 < y then some (.int (Int.fmod x y),σ) else none
 | .mul=>intO a fun x=>intO b fun y=>if x.natAbs ≤ LIM then some (.int (x * y),σ) else none
noncomputable def iopV (c : Cx) (op : BOp) (a b : V) (σ : St) : Option (V × St):=match op with
 | .add=>addV a b σ
 | .sub=>intO a fun x=>intO b fun y=>some (.int (x - y),σ)
 | _=>none
noncomputable def subO (o : O) (i : V) : Option V:=match o with
 | .list vs=>intO i fun k=>(idxOf vs.length k).bind fun j=>vs[j]?
 | .dict kvs=>strO i fun k=>getS k kvs
 | _=>none
noncomputable def subV (c : Cx) (σ : St) (o i : V) : Option V:=sob c σ o (fun s=>intO i fun k=>(idxOf s.length k).bind fun j=>(s[j]?).map fun ch=>.str [ch]) (fun ob=>subO ob i)
noncomputable def sliceV (c : Cx) (o lo hi : V) (σ : St) : Option (V × St):=sob c σ o (fun s=>(sliceLo s.length lo).bind fun i=>(sliceHi s.length hi).bind fun j=>some (.str (cut s i j),σ))
 (fun ob=>oList ob fun vs=>(sliceLo vs.length lo).bind fun i=>(sliceHi vs.length hi).bind fun j=>allocL (cut vs i j) σ)
noncomputable def setSubO (a : Nat) (o : O) (i v : V) (σ : St) : Option St:=match o with
 | .list vs=>intO i fun k=>if 0 ≤ k ∧ k.toNat < vs.length then some (σ.set a (.list (vs.set k.toNat v))) else none
 | _=>none
noncomputable def setSubV (o i v : V) (σ : St) : Option St:=cellO σ o fun a ob=>setSubO a ob i v σ
noncomputable def ownA (c : Cx) (cl f : Nat) (fs : List (Nat × V)) (σ : St) (r : Option (V × St)) : Option (V × St):=match getK f fs with
 | some v=>if c.clsi cl f = true then some (v,σ) else none
 | none=>r
noncomputable def getAttrV (c : Cx) (o : V) (f : Nat) (σ : St) : Option (V × St):=match o with
 | .ref a=>cellO σ (.ref a) fun J ob=>oInst ob fun cl fs=>ownA c cl f fs σ (match c.clsm cl f with
  | some g=>allocO (.meth g (.ref a)) σ
  | none=>(c.clsv cl f).map fun v=>(v,σ))
 | .sref a=>(c.so a).bind fun ob=>oInst ob fun cl fs=>ownA c cl f fs σ none
 | _=>none
noncomputable def setAttrV (c : Cx) (o : V) (f : Nat) (v : V) (σ : St) : Option St:=cellO σ o fun a ob=>oInst ob fun cl fs =>
 if c.clsi cl f = true ∧ fs.length ≤ LIMD then some (σ.set a (.inst cl (putK f v fs))) else none
noncomputable def rngN (a b s : Int) : Nat:=if s = 1 then (b - a).toNat else (a - b).toNat
noncomputable def keysO (kvs : List (List Nat × V)) : Option (List V):=if (kvs.all fun p=>decide (p.1.length ≤ LIM)) = true then some (kvs.map fun p=>.str p.1) else none
noncomputable def iterO (v : V) (o : O) : Option (List V):=match o with
 | .list vs=>some vs
 | .tuple vs=>some vs
 | .rng a b s=>if (-(LIM : Int) ≤ a ∧ a ≤ LIM) ∧ (-(LIM : Int) ≤ b ∧ b ≤ LIM) ∧ (s = 1 ∨ s = -1) then some ((List.range (rngN a b s)).map fun k=>.int (a + s * Int.ofNat k)) else none
 | .dict kvs=>(match v with | .sref _=>keysO kvs | _=>none)
 | _=>none
noncomputable def iterV (c : Cx) (σ : St) (v : V) : Option (List V):=sob c σ v (fun s=>some (s.map fun ch=>.str [ch])) (iterO v)
noncomputable def listOfO (o : O) : Option (List V):=match o with
 | .list vs=>some vs
 | .tuple vs=>some vs
 | .dict kvs=>keysO kvs
 | _=>none
noncomputable def listOfV (c : Cx) (σ : St) (v : V) : Option (List V):=sob c σ v (fun s=>some (s.map fun ch=>.str [ch])) listOfO
noncomputable def oIsL (o : O) : Bool:=match o with | .list _=>true | _=>false
noncomputable def isListV (σ : St) (v : V) : Bool:=match v with | .ref a=>(match σ[a]? with | some o=>oIsL o | none=>false) | _=>false
noncomputable def stillV (c : Cx) (σ0 σ : St) (v : V) : Bool:=@decide (objOf c σ v = objOf c σ0 v) (Classical.propDecidable _)
theorem still_iff {c : Cx} {σ0 σ : St} {v : V} : stillV c σ0 σ v = true ↔ objOf c σ v = objOf c σ0 v:=@decide_eq_true_iff _ (Classical.propDecidable _)
noncomputable def itemsO (o : O) : Option (List V):=match o with | .list vs=>some vs | .tuple vs=>some vs | _=>none
noncomputable def itemsV (c : Cx) (σ : St) (v : V) : Option (List V):=(objOf c σ v).bind itemsO
noncomputable def bindFt (c : Cx) (σ : St) (t : Ft) (v : V) (L : Loc) : Option Loc:=match t with
 | .one i=>some (putK i v L)
noncomputable def sumV : List V → Int → Option Int
 | [],a=>some a
 | .int i :: r,a=>sumV r (a + i)
 | _,_=>none
noncomputable def strsV : List V → Option (List (List Nat))
 | []=>some []
 | .str s :: r=>(strsV r).map (s :: ·)
 | _=>none
noncomputable def joinL (sep : List Nat) : List (List Nat) → List Nat
 | []=>[]
 | [x]=>x
 | x :: y :: r=>x ++ sep ++ joinL sep (y :: r)
noncomputable def putAll (kvs : List (List Nat × V)) (d : List (List Nat × V)) : List (List Nat × V):=kvs.foldl (fun d p=>putS p.1 p.2 d) d
noncomputable def lenO (o : O) : Option Int:=match o with | .list vs=>some vs.length | .dict vs=>some vs.length | _=>none
noncomputable def lenV (c : Cx) (v : V) (σ : St) : Option (V × St):=sob c σ v (fun s=>some (.int s.length,σ)) (fun o=>(lenO o).map fun n=>(.int n,σ))
noncomputable def ordV (v : V) (σ : St) : Option (V × St):=strO v fun s=>match s with | [x]=>some (.int (x : Int),σ) | _=>none
noncomputable def chrV (v : V) (σ : St) : Option (V × St):=intO v fun i=>if 0 ≤ i ∧ i < 1114112 then some (.str [i.toNat],σ) else none
noncomputable def sumOV (c : Cx) (v : V) (σ : St) : Option (V × St):=(objOf c σ v).bind fun o=>oList o fun vs=>(sumV vs 0).map fun i=>(.int i,σ)
noncomputable def rangeV (v : V) (σ : St) : Option (V × St):=intO v fun n=>if n ≤ LIM then allocO (.rng 0 n 1) σ else none
noncomputable def appendV (o v : V) (σ : St) : Option (V × St):=cellO σ o fun a ob=>oList ob fun vs=>if vs.length ≤ LIM then some (.none,σ.set a (.list (vs ++ [v]))) else none
noncomputable def popAtV (o k : V) (σ : St) : Option (V × St):=cellO σ o fun a ob=>oList ob fun vs=>intO k fun j=>(idxOf vs.length j).bind fun j=>(vs[j]?).map fun v=>(v,σ.set a (.list (vs.eraseIdx j)))
noncomputable def joinV (c : Cx) (sep : List Nat) (v : V) (σ : St) : Option (V × St):=(itemsV c σ v).bind fun vs=>(strsV vs).bind fun ss =>
 if (ss.map (·.length)).sum + ss.length * sep.length ≤ LIM ∧ (joinL sep ss).length ≤ LIM then some (.str (joinL sep ss),σ) else none
noncomputable def replV (a b : List Nat) (v : V) (σ : St) : Option (V × St):=strO v fun s=>if (ofS (Txt.replace (toS s) (toS a) (toS b))).length ≤ LIM ∧ a ≠ b ∧ b.length ≤ 14 then some (.str (ofS (Txt.replace (toS s) (toS a) (toS b))),σ) else none
noncomputable def count3V (p : List Nat) (v l h : V) (σ : St) : Option (V × St):=strO v fun s=>intO l fun i=>intO h fun j=>if i = 0 ∧ 0 ≤ j ∧ j ≤ LIM then some (.int ((Builtin.Str.occurrences (toS s) (toS p) 0 (min j.toNat s.length) (s.length + 1)).length : Nat),σ) else none
noncomputable def rfind3V (p : List Nat) (v l h : V) (σ : St) : Option (V × St):=strO v fun s=>intO l fun i=>intO h fun j=>if i = 0 ∧ 0 ≤ j ∧ j ≤ LIM then some (.int (match Builtin.Str.lastOccurrence (toS s) (toS p) 0 (min j.toNat s.length) with | some i=>(i : Int) | none=>-1),σ) else none
noncomputable def splitV (p : List Nat) (v : V) (σ : St) : Option (V × St):=strO v fun s=>if p ≠ [] ∧ (Txt.split (toS s) (toS p)).all (fun x=>decide (x.length ≤ LIM)) = true then allocL ((Txt.split (toS s) (toS p)).map fun x=>.str (ofS x)) σ else none
noncomputable def startsV (p v : V) (σ : St) : Option (V × St):=strO v fun s=>strO p fun p=>some (.bool (p.isPrefixOf s),σ)
noncomputable def range2V (v w : V) (σ : St) : Option (V × St):=intO v fun i=>intO w fun j=>if (-(LIM : Int) ≤ i ∧ i ≤ LIM) ∧ (-(LIM : Int) ≤ j ∧ j ≤ LIM) then allocO (.rng i j 1) σ else none
noncomputable def range3V (v w u : V) (σ : St) : Option (V × St):=intO v fun i=>intO w fun j=>intO u fun k=>if (-(LIM : Int) ≤ i ∧ i ≤ LIM) ∧ (-(LIM : Int) ≤ j ∧ j ≤ LIM) ∧ k = -1 then allocO (.rng i j (-1)) σ else none
noncomputable def forL (bind : V → Loc → St → Option Loc) (still : St → Bool) (body : Loc → St → Option (Fl × Loc × St)) : List V → Loc → St → Option (Fl × Loc × St)
 | [],L,σ=>if still σ then some (.next,L,σ) else none
 | v :: vs,L,σ=>if still σ then
  (bind v L σ).bind fun L1=>(body L1 σ).bind fun (f,L2,σ2)=>match f with
   | .brk=>some (.next,L2,σ2)
   | .ret v=>some (.ret v,L2,σ2)
   | _=>forL bind still body vs L2 σ2
  else none
noncomputable def compL (bind : V → Loc → St → Option Loc) (still : St → Bool) (elt : Loc → St → Option (List V × St)) : List V → Loc → St → Option (List V × St)
 | [],_,σ=>if still σ then some ([],σ) else none
 | v :: vs,L,σ=>if still σ then
  (bind v L σ).bind fun L1=>(elt L1 σ).bind fun (xs,σ1)=>(compL bind still elt vs L1 σ1).bind fun (ys,σ2)=>some (xs ++ ys,σ2)
  else none
noncomputable def eltL (b : Bool) (σ : St) (r : Option (V × St)) : Option (List V × St):=match b with | true=>r.map fun (v,s2)=>([v],s2) | false=>some ([],σ)
noncomputable def whileL (test : Loc → St → Option (Bool × St)) (body : Loc → St → Option (Fl × Loc × St)) : Nat → Loc → St → Option (Fl × Loc × St)
 | 0,_,_=>none
 | n + 1,L,σ=>(test L σ).bind fun (b,σ1)=>match b with
  | false=>some (.next,L,σ1)
  | true=>(body L σ1).bind fun (f,L2,σ2)=>match f with
   | .brk=>some (.next,L2,σ2)
   | .ret v=>some (.ret v,L2,σ2)
   | _=>whileL test body n L2 σ2
noncomputable def clsCall (c : Cx) (cl m : Nat) (ov : V) (σ : St) (as : St → Option (List V × St)) : Option (V × St):=(c.clsm cl m).bind fun g=>(as σ).bind fun (vs,σ2)=>c.call g (ov :: vs) σ2
noncomputable def fldCall (c : Cx) (cl m : Nat) (v : V) (σ : St) (as : St → Option (List V × St)) : Option (V × St):=match v with
 | .ref q=>if c.clsi cl m = true then (σ[q]?).bind fun ob=>(match ob with
  | .meth g self=>(as σ).bind fun (vs,σ2)=>@ite _ (σ2[q]? = some (.meth g self) ∧ g < BIG) (Classical.propDecidable _) (c.call g (self :: vs) σ2) none
  | _=>none) else none
 | _=>none
noncomputable def methV (c : Cx) (ov : V) (m : Nat) (σ : St) (as : St → Option (List V × St)) : Option (V × St):=match ov with
 | .ref a=>cellO σ (.ref a) fun J ob=>oInst ob fun cl fs=>(match getK m fs with
  | some v=>fldCall c cl m v σ as
  | none=>clsCall c cl m (.ref a) σ as)
 | .sref a=>(c.so a).bind fun ob=>oInst ob fun cl fs=>(match getK m fs with
  | some _=>none
  | none=>clsCall c cl m (.sref a) σ as)
 | _=>none
noncomputable def inMV (c : Cx) (x ov : V) (m : Nat) (σ : St) : Option (V × St):=match ov with
 | .sref a=>(c.so a).bind fun ob=>oInst ob fun cl J=>(c.clsm cl m).bind fun g=>(c.call g [.sref a,x] σ).bind fun (v,σ2)=>match v with | .bool b=>some (.bool b,σ2) | _=>none
 | _=>none
noncomputable def methX (c : Cx) (ov : V) (m : Nat) (σ : St) (as : St → Option (V × St)) : Option (V × St):=match ov with
 | .sref a=>(c.so a).bind fun ob=>oInst ob fun cl fs=>(match getK m fs with
  | some _=>none
  | none=>(c.clsm cl m).bind fun g=>(as σ).bind fun (v,σ2)=>c.call (g + BIG) [.sref a,v] σ2)
 | _=>none
noncomputable def isStrV (v : V) : Bool:=match v with | .str _=>true | _=>false
noncomputable def vcons {β : Type} (vs : List V) (f : V → List V → Option β) : Option β:=match vs with | v :: r=>f v r | []=>none
noncomputable def vnil {β : Type} (vs : List V) (f : Option β) : Option β:=match vs with | _ :: _=>none | []=>f
noncomputable def v1 {β : Type} (vs : List V) (f : V → Option β) : Option β:=vcons vs fun v r=>vnil r (f v)
noncomputable def vs3 (vs : List V) (f : List Nat → V → V → Option (V × St)) : Option (V × St):=vcons vs fun p r=>strO p fun p=>vcons r fun l r=>v1 r fun u=>f p l u
noncomputable def popL (o : V) (vs : List V) (σ : St) : Option (V × St):=vnil vs (popAtV o (.int (-1)) σ)
noncomputable def unF (c : Cx) (op : UOp) (v : V) (σ : St) : Option (V × St):=match op with
 | .len=>lenV c v σ
 | .ord=>ordV v σ
 | .chr=>chrV v σ
 | .sum=>sumOV c v σ
 | .listOf=>(listOfV c σ v).bind fun vs=>allocL vs σ
 | .range=>rangeV v σ
noncomputable def bmP (op : MOp) (σ : St) (v : V) : Bool:=match op with
 | .append=>isListV σ v
 | .popAt=>isListV σ v
 | _=>isStrV v
noncomputable def bmF (c : Cx) (op : MOp) (o : V) (vs : List V) (σ : St) : Option (V × St):=match op with
 | .append=>v1 vs fun v=>appendV o v σ
 | .popAt=>popL o vs σ
 | .join=>strO o fun s=>v1 vs fun v=>joinV c s v σ
 | .count3=>vs3 vs fun p l u=>count3V p o l u σ
 | .rfind3=>vs3 vs fun p l u=>rfind3V p o l u σ
 | .split=>vcons vs fun p r=>strO p fun p=>vnil r (splitV p o σ)
 | .starts=>v1 vs fun p=>startsV p o σ
abbrev Ev:=(Loc → St → Option (V × St)) × (Loc → St → Option (Bool × St))
noncomputable def evP (c : Cx) (f : Loc → St → Option (V × St)) : Ev:=(f,fun L σ=>(f L σ).bind fun (v,σ1)=>(truthyV c σ1 v).map fun b=>(b,σ1))
mutual
noncomputable def ev (c : Cx) : PE → Ev
 | .const v=>evP c (fun J σ=>some (v,σ))
 | .loc i=>evP c (fun L σ=>(getK i L).map fun v=>(v,σ))
 | .glob v=>evP c (fun J σ=>some (v,σ))
 | .attr e f=>evP c (fun L σ=>((ev c e).1 L σ).bind fun (o,σ1)=>getAttrV c o f σ1)
 | .sub e i=>evP c (fun L σ=>((ev c e).1 L σ).bind fun (o,σ1)=>((ev c i).1 L σ1).bind fun (k,σ2)=>(subV c σ2 o k).map fun v=>(v,σ2))
 | .slice e lo hi=>evP c (fun L σ=>((ev c e).1 L σ).bind fun (o,σ1)=>((ev c lo).1 L σ1).bind fun (l,σ2)=>((ev c hi).1 L σ2).bind fun (h,σ3)=>sliceV c o l h σ3)
 | .bin op l r=>evP c (fun L σ=>((ev c l).1 L σ).bind fun (a,σ1)=>((ev c r).1 L σ1).bind fun (b,σ2)=>binV c op a b σ2)
 | .cmp op l r=>evP c (fun L σ=>((ev c l).1 L σ).bind fun (a,σ1)=>((ev c r).1 L σ1).bind fun (b,σ2)=>(cmpV c σ2 op a b).map fun x=>(.bool x,σ2))
 | .chain o1 o2 x y z=>evP c (fun L σ=>((ev c x).1 L σ).bind fun (a,σ1)=>((ev c y).1 L σ1).bind fun (b,σ2)=>(cmpV c σ2 o1 a b).bind fun t=>match t with
  | true=>((ev c z).1 L σ2).bind fun (d,σ3)=>(cmpV c σ3 o2 b d).map fun x=>(.bool x,σ3)
  | false=>some (.bool false,σ2))
 | .notE e=>(fun L σ=>((ev c e).1 L σ).bind fun (v,σ1)=>(truthyV c σ1 v).map fun b=>(.bool (!b),σ1),fun L σ=>((ev c e).2 L σ).map fun (b,σ1)=>(!b,σ1))
 | .neg e=>evP c (fun L σ=>((ev c e).1 L σ).bind fun (v,σ1)=>intO v fun i=>some (.int (-i),σ1))
 | .andE l r=>(fun L σ=>((ev c l).1 L σ).bind fun (v,σ1)=>(truthyV c σ1 v).bind fun b=>match b with | true=>(ev c r).1 L σ1 | false=>some (v,σ1),fun L σ=>((ev c l).2 L σ).bind fun (b,σ1)=>match b with | true=>(ev c r).2 L σ1 | false=>some (false,σ1))
 | .orE l r=>(fun L σ=>((ev c l).1 L σ).bind fun (v,σ1)=>(truthyV c σ1 v).bind fun b=>match b with | false=>(ev c r).1 L σ1 | true=>some (v,σ1),fun L σ=>((ev c l).2 L σ).bind fun (b,σ1)=>match b with | false=>(ev c r).2 L σ1 | true=>some (true,σ1))
 | .ife t b o=>evP c (fun L σ=>((ev c t).2 L σ).bind fun (x,σ1)=>match x with | true=>(ev c b).1 L σ1 | false=>(ev c o).1 L σ1)
 | .listE es=>evP c (fun L σ=>(evEs c es L σ).bind fun (vs,σ1)=>allocL vs σ1)
 | .tupE es=>evP c (fun L σ=>(evEs c es L σ).bind fun (vs,σ1)=>if vs.length ≤ LIM then tupV vs σ1 else none)
 | .dictE ks es=>evP c (fun L σ=>(evEs c es L σ).bind fun (vs,σ1)=>if ks.length = vs.length ∧ ks.length ≤ 15 then allocO (.dict (putAll (ks.zip vs) [])) σ1 else none)
 | .comp t it cnd elt=>evP c (fun L σ=>((ev c it).1 L σ).bind fun (o,σ1)=>(iterV c σ1 o).bind fun xs =>
  (compL (fun v L s=>bindFt c s t v L) (fun s=>stillV c σ1 s o) (fun L1 s=>((ev c cnd).2 L1 s).bind fun (b,s1)=>eltL b s1 ((ev c elt).1 L1 s1)) xs L σ1).bind fun (vs,σ2) =>
  allocL vs σ2)
 | .call f es=>evP c (fun L σ=>(evEs c es L σ).bind fun (vs,σ1)=>c.call f vs σ1)
 | .new cl es=>evP c (fun L σ=>(evEs c es L σ).bind fun (vs,σ1)=>(c.clsm cl c.init).bind fun g =>
  (c.call g (.ref σ1.length :: vs) (σ1 ++ [.inst cl []])).bind fun (r,σ2)=>match r with | .none=>some (.ref σ1.length,σ2) | _=>none)
 | .meth o m es=>evP c (fun L σ=>((ev c o).1 L σ).bind fun (ov,σ1)=>methV c ov m σ1 (evEs c es L))
 | .replC o a b=>evP c (fun L σ=>((ev c o).1 L σ).bind fun (v,σ1)=>replV a b v σ1)
 | .rng2 a b=>evP c (fun L σ=>((ev c a).1 L σ).bind fun (v,σ1)=>((ev c b).1 L σ1).bind fun (w,σ2)=>range2V v w σ2)
 | .rng3 a b e=>evP c (fun L σ=>((ev c a).1 L σ).bind fun (v,σ1)=>((ev c b).1 L σ1).bind fun (w,σ2)=>((ev c e).1 L σ2).bind fun (u,σ3)=>range3V v w u σ3)
 | .inM x o m=>evP c (fun L σ=>((ev c x).1 L σ).bind fun (v,σ1)=>((ev c o).1 L σ1).bind fun (w,σ2)=>inMV c v w m σ2)
 | .un op e=>evP c (fun L σ=>((ev c e).1 L σ).bind fun (v,σ1)=>unF c op v σ1)
 | .bm op o es=>evP c (fun L σ=>((ev c o).1 L σ).bind fun (ov,σ1)=>bif bmP op σ1 ov then (evEs c es L σ1).bind fun (vs,σ2)=>bmF c op ov vs σ2 else none)
termination_by structural e=>e
noncomputable def evEs (c : Cx) : List PE → Loc → St → Option (List V × St)
 | [],_,σ=>some ([],σ)
 | e :: r,L,σ=>((ev c e).1 L σ).bind fun (v,σ1)=>(evEs c r L σ1).bind fun (vs,σ2)=>some (v :: vs,σ2)
termination_by structural e=>e
end
noncomputable def evE (c : Cx) (e : PE) : Loc → St → Option (V × St):=(ev c e).1
noncomputable def evT (c : Cx) (e : PE) : Loc → St → Option (Bool × St):=(ev c e).2
section
variable {c : Cx} {L : Loc} {σ : St}
theorem evE_const {v : V} : evE c (.const v) L σ = some (v,σ):=rfl
theorem evE_loc {i : Nat} : evE c (.loc i) L σ = (getK i L).map fun v=>(v,σ):=rfl
theorem evE_glob {v : V} : evE c (.glob v) L σ = some (v,σ):=rfl
theorem evE_attr {e : PE} {f : Nat} : evE c (.attr e f) L σ = (evE c e L σ).bind fun (o,σ1)=>getAttrV c o f σ1:=rfl
theorem evE_sub {e : PE} {i : PE} : evE c (.sub e i) L σ = (evE c e L σ).bind fun (o,σ1)=>(evE c i L σ1).bind fun (k,σ2)=>(subV c σ2 o k).map fun v=>(v,σ2):=rfl
theorem evE_slice {e : PE} {lo : PE} {hi : PE} : evE c (.slice e lo hi) L σ = (evE c e L σ).bind fun (o,σ1)=>(evE c lo L σ1).bind fun (l,σ2)=>(evE c hi L σ2).bind fun (h,σ3)=>sliceV c o l h σ3:=rfl
theorem evE_bin {op : BOp} {l : PE} {r : PE} : evE c (.bin op l r) L σ = (evE c l L σ).bind fun (a,σ1)=>(evE c r L σ1).bind fun (b,σ2)=>binV c op a b σ2:=rfl
theorem evE_cmp {op : COp} {l : PE} {r : PE} : evE c (.cmp op l r) L σ = (evE c l L σ).bind fun (a,σ1)=>(evE c r L σ1).bind fun (b,σ2)=>(cmpV c σ2 op a b).map fun x=>(.bool x,σ2):=rfl
theorem evE_chain {o1 : COp} {o2 : COp} {x : PE} {y : PE} {z : PE} : evE c (.chain o1 o2 x y z) L σ = (evE c x L σ).bind fun (a,σ1)=>(evE c y L σ1).bind fun (b,σ2)=>(cmpV c σ2 o1 a b).bind fun t=>match t with | true=>(evE c z L σ2).bind fun (d,σ3)=>(cmpV c σ3 o2 b d).map fun x=>(.bool x,σ3) | false=>some (.bool false,σ2):=rfl
theorem evE_notE {e : PE} : evE c (.notE e) L σ = (evE c e L σ).bind fun (v,σ1)=>(truthyV c σ1 v).map fun b=>(.bool (!b),σ1):=rfl
theorem evE_neg {e : PE} : evE c (.neg e) L σ = (evE c e L σ).bind fun (v,σ1)=>intO v fun i=>some (.int (-i),σ1):=rfl
theorem evE_andE {l : PE} {r : PE} : evE c (.andE l r) L σ = (evE c l L σ).bind fun (v,σ1)=>(truthyV c σ1 v).bind fun b=>match b with | true=>evE c r L σ1 | false=>some (v,σ1):=rfl
theorem evE_orE {l : PE} {r : PE} : evE c (.orE l r) L σ = (evE c l L σ).bind fun (v,σ1)=>(truthyV c σ1 v).bind fun b=>match b with | false=>evE c r L σ1 | true=>some (v,σ1):=rfl
theorem evE_ife {t : PE} {b : PE} {o : PE} : evE c (.ife t b o) L σ = (evT c t L σ).bind fun (x,σ1)=>match x with | true=>evE c b L σ1 | false=>evE c o L σ1:=rfl
theorem evE_listE {es : List PE} : evE c (.listE es) L σ = (evEs c es L σ).bind fun (vs,σ1)=>allocL vs σ1:=rfl
theorem evE_tupE {es : List PE} : evE c (.tupE es) L σ = (evEs c es L σ).bind fun (vs,σ1)=>if vs.length ≤ LIM then tupV vs σ1 else none:=rfl
theorem evE_dictE {ks : List (List Nat)} {es : List PE} : evE c (.dictE ks es) L σ = (evEs c es L σ).bind fun (vs,σ1)=>if ks.length = vs.length ∧ ks.length ≤ 15 then allocO (.dict (putAll (ks.zip vs) [])) σ1 else none:=rfl
theorem evE_comp {t : Ft} {it cnd elt : PE} : evE c (.comp t it cnd elt) L σ = (evE c it L σ).bind fun (o,σ1)=>(iterV c σ1 o).bind fun xs=>(compL (fun v L s=>bindFt c s t v L) (fun s=>stillV c σ1 s o) (fun L1 s=>(evT c cnd L1 s).bind fun (b,s1)=>eltL b s1 (evE c elt L1 s1)) xs L σ1).bind fun (vs,σ2)=>allocL vs σ2:=rfl
theorem evE_call {f : Nat} {es : List PE} : evE c (.call f es) L σ = (evEs c es L σ).bind fun (vs,σ1)=>c.call f vs σ1:=rfl
theorem evE_new {cl : Nat} {es : List PE} : evE c (.new cl es) L σ = (evEs c es L σ).bind fun (vs,σ1)=>(c.clsm cl c.init).bind fun g=>(c.call g (.ref σ1.length :: vs) (σ1 ++ [.inst cl []])).bind fun (r,σ2)=>match r with | .none=>some (.ref σ1.length,σ2) | _=>none:=rfl
theorem evE_meth {o : PE} {m : Nat} {es : List PE} : evE c (.meth o m es) L σ = (evE c o L σ).bind fun (ov,σ1)=>methV c ov m σ1 (evEs c es L):=rfl
theorem evE_replC {o : PE} {a : List Nat} {b : List Nat} : evE c (.replC o a b) L σ = (evE c o L σ).bind fun (v,σ1)=>replV a b v σ1:=rfl
theorem evT_notE {e : PE} : evT c (.notE e) L σ = (evT c e L σ).map fun (b,σ1)=>(!b,σ1):=rfl
theorem evT_andE {l r : PE} : evT c (.andE l r) L σ = (evT c l L σ).bind fun (b,σ1)=>match b with | true=>evT c r L σ1 | false=>some (false,σ1):=rfl
theorem evT_orE {l r : PE} : evT c (.orE l r) L σ = (evT c l L σ).bind fun (b,σ1)=>match b with | false=>evT c r L σ1 | true=>some (true,σ1):=rfl
theorem evE_rng2 {a b : PE} : evE c (.rng2 a b) L σ = (evE c a L σ).bind fun (v,σ1)=>(evE c b L σ1).bind fun (w,σ2)=>range2V v w σ2:=rfl
theorem evE_rng3 {a b e : PE} : evE c (.rng3 a b e) L σ = (evE c a L σ).bind fun (v,σ1)=>(evE c b L σ1).bind fun (w,σ2)=>(evE c e L σ2).bind fun (u,σ3)=>range3V v w u σ3:=rfl
theorem evE_inM {x o : PE} {m : Nat} : evE c (.inM x o m) L σ = (evE c x L σ).bind fun (v,σ1)=>(evE c o L σ1).bind fun (w,σ2)=>inMV c v w m σ2:=rfl
theorem evE_un {op : UOp} {e : PE} : evE c (.un op e) L σ = (evE c e L σ).bind fun (v,σ1)=>unF c op v σ1:=rfl
theorem evE_bm {op : MOp} {o : PE} {es : List PE} : evE c (.bm op o es) L σ = (evE c o L σ).bind fun (ov,σ1)=>bif bmP op σ1 ov then (evEs c es L σ1).bind fun (vs,σ2)=>bmF c op ov vs σ2 else none:=rfl
theorem evE_len {e : PE} : evE c (.len e) L σ = (evE c e L σ).bind fun (v,σ1)=>lenV c v σ1:=rfl
theorem evE_ord {e : PE} : evE c (.ord e) L σ = (evE c e L σ).bind fun (v,σ1)=>ordV v σ1:=rfl
theorem evE_chr {e : PE} : evE c (.chr e) L σ = (evE c e L σ).bind fun (v,σ1)=>chrV v σ1:=rfl
theorem evE_sum {e : PE} : evE c (.sum e) L σ = (evE c e L σ).bind fun (v,σ1)=>sumOV c v σ1:=rfl
theorem evE_listOf {e : PE} : evE c (.listOf e) L σ = (evE c e L σ).bind fun (v,σ1)=>(listOfV c σ1 v).bind fun vs=>allocL vs σ1:=rfl
theorem evE_range {e : PE} : evE c (.range e) L σ = (evE c e L σ).bind fun (v,σ1)=>rangeV v σ1:=rfl
theorem evEs_nil : evEs c [] L σ = some ([],σ):=rfl
theorem evEs_cons {e : PE} {r : List PE} : evEs c (e :: r) L σ = (evE c e L σ).bind fun (v,σ1)=>(evEs c r L σ1).bind fun (vs,σ2)=>some (v :: vs,σ2):=rfl
theorem evEs_one {β : Type} {e : PE} {f : V → St → Option β} : ((evEs c [e] L σ).bind fun (vs,σ2)=>v1 vs fun v=>f v σ2) = (evE c e L σ).bind fun (v,σ2)=>f v σ2:=by
 show ((evE c e L σ).bind fun (v,σ1)=>some ([v],σ1)).bind _ = _
 cases evE c e L σ <;> rfl
theorem evE_append {o e : PE} : evE c (.append o e) L σ = (evE c o L σ).bind fun (ov,σ1)=>bif isListV σ1 ov then (evE c e L σ1).bind fun (v,σ2)=>appendV ov v σ2 else none :=
 evE_bm.trans (congrArg (Option.bind _) (funext fun p=>congrArg (fun t=>bif isListV p.2 p.1 then t else none) (evEs_one (f:=fun v σ=>appendV p.1 v σ))))
theorem evE_pop {o : PE} : evE c (.pop o) L σ = (evE c o L σ).bind fun (ov,σ1)=>bif isListV σ1 ov then popAtV ov (.int (-1)) σ1 else none:=rfl
theorem evE_join {sep : List Nat} {e : PE} : evE c (.join sep e) L σ = (evE c e L σ).bind fun (v,σ1)=>joinV c sep v σ1:=evEs_one (f:=fun v σ=>joinV c sep v σ)
end
noncomputable def oMap (f : V → V) : O → O
 | .list vs=>.list (vs.map f)
 | .tuple vs=>.tuple (vs.map f)
 | .dict kvs=>.dict (kvs.map fun p=>(p.1,f p.2))
 | .inst c fs=>.inst c (fs.map fun p=>(p.1,f p.2))
 | .meth g s=>.meth g (f s)
 | .rng a b s=>.rng a b s
noncomputable def frzO (f : V → V) : O → V
 | .list vs=>.frz (.list (vs.map f))
 | .tuple vs=>.frz (.tuple (vs.map f))
 | .dict kvs=>.frz (.dict (kvs.map fun p=>(p.1,f p.2)))
 | _=>.bad
noncomputable def rz (σ : St) (n : Nat) : Nat → V → V
 | 0,v=>(match v with | .ref _=>.bad | v=>v)
 | k + 1,v=>match v with
  | .ref a=>bif Nat.ble n a then (match σ[a]? with | some o=>frzO (rz σ n k) o | none=>.bad) else .bad
  | v=>v
noncomputable def rv (σ : St) (n : Nat) (v : V) : V:=match v with
 | .ref a=>bif Nat.blt a n then .ref a else rz σ n 6 (.ref a)
 | v=>v
theorem getK_map {β : Type} {f : β → β} (i : Nat) : ∀ L : List (Nat × β),getK i (L.map fun p=>(p.1,f p.2)) = (getK i L).map f
 | []=>rfl
 | (j,w) :: r=>by
  show (bif Nat.beq j i then some (f w) else getK i (r.map fun p=>(p.1,f p.2))) = (bif Nat.beq j i then some w else getK i r).map f
  cases Nat.beq j i with
  | true=>rfl
  | false=>exact getK_map i r
noncomputable def gcL (σ : St) (n : Nat) (L : Loc) : Loc:=L.map fun p=>(p.1,rv σ n p.2)
noncomputable def gcS (σ : St) (n : Nat) : St:=(σ.take n).map (oMap (rv σ n))
noncomputable def asgT (c : Cx) : Tg → V → Loc → St → Option (Loc × St)
 | .l i,v,L,σ=>some (putK i v L,σ)
 | .a o f,v,L,σ=>(evE c o L σ).bind fun (ov,σ1)=>(setAttrV c ov f v σ1).map fun s=>(L,s)
noncomputable def asgTs (c : Cx) : List Tg → List V → Loc → St → Option (Loc × St)
 | [],[],L,σ=>some (L,σ)
 | t :: ts,v :: vs,L,σ=>(asgT c t v L σ).bind fun (L1,σ1)=>asgTs c ts vs L1 σ1
 | _,_,_,_=>none
mutual
noncomputable def evS (c : Cx) : PS → Nat → Loc → St → Option (Fl × Loc × St)
 | .expr e,z,L,σ=>(evE c e L σ).map fun (_,σ1)=>(.next,L,σ1)
 | .assign t e,z,L,σ=>(evE c e L σ).bind fun (v,σ1)=>(asgT c t v L σ1).map fun (L1,σ2)=>(.next,L1,σ2)
 | .assignT ts e,z,L,σ=>(evE c e L σ).bind fun (v,σ1)=>(itemsV c σ1 v).bind fun vs=>(asgTs c ts vs L σ1).map fun (L1,σ2)=>(.next,L1,σ2)
 | .augL i op e,z,L,σ=>(getK i L).bind fun a=>(evE c e L σ).bind fun (b,σ1)=>(iopV c op a b σ1).map fun (v,σ2)=>(.next,putK i v L,σ2)
 | .augA o f op e,z,L,σ=>(evE c o L σ).bind fun (ov,σ1)=>(getAttrV c ov f σ1).bind fun (a,σ2)=>(evE c e L σ2).bind fun (b,σ3)=>(iopV c op a b σ3).bind fun (v,σ4)=>(setAttrV c ov f v σ4).map fun s=>(.next,L,s)
 | .augS o i op e,z,L,σ=>(evE c o L σ).bind fun (ov,σ1)=>(evE c i L σ1).bind fun (iv,σ2)=>(subV c σ2 ov iv).bind fun a=>(evE c e L σ2).bind fun (b,σ3)=>(iopV c op a b σ3).bind fun (v,σ4)=>(setSubV ov iv v σ4).map fun s=>(.next,L,s)
 | .ifs t b o,z,L,σ=>(evT c t L σ).bind fun (x,σ1)=>match x with | true=>evSs c b z L σ1 | false=>evSs c o z L σ1
 | .whiles t b,z,L,σ=>whileL (fun L s=>evT c t L s) (fun L s=>evSs c b z L s) c.fuel L σ
 | .fors t it b,z,L,σ=>(evE c it L σ).bind fun (o,σ1)=>(iterV c σ1 o).bind fun xs=>forL (fun v L s=>bindFt c s t v L) (fun s=>stillV c σ1 s o) (fun L s=>evSs c b σ1.length L s) xs L σ1
 | .ret e,z,L,σ=>(evE c e L σ).map fun (v,σ1)=>(.ret v,L,σ1)
 | .asrt e,z,L,σ=>(evT c e L σ).bind fun (b,σ1)=>match b with | true=>some (.next,L,σ1) | false=>none
 | .tryC i j o m e,z,L,σ=>(evE c o L σ).bind fun (ov,σ1)=>(methX c ov m σ1 (evE c e L)).bind fun (v,σ2)=>match v with
  | .none=>some (.next,putK i .none L,σ2)
  | .str s=>some (.next,putK j (.int s.length) (putK i (.str s) L),σ2)
  | _=>none
 | .brk,z,L,σ=>some (.brk,L,σ)
 | .cont,z,L,σ=>some (.cont,L,σ)
 | .pass,z,L,σ=>some (.next,L,σ)
 | .gc k,z,L,σ=>some (.next,gcL σ (z + k) L,gcS σ (z + k))
 | .retf e,z,L,σ=>(evE c e L σ).map fun (v,σ1)=>(.ret (rv σ1 z v),gcL σ1 z L,gcS σ1 z)
termination_by structural e=>e
noncomputable def evSs (c : Cx) : List PS → Nat → Loc → St → Option (Fl × Loc × St)
 | [],z,L,σ=>some (.next,L,σ)
 | s :: r,z,L,σ=>(evS c s z L σ).bind fun (f,L1,σ1)=>match f with | .next=>evSs c r z L1 σ1 | f=>some (f,L1,σ1)
termination_by structural e=>e
end
structure Fn where
 params : List Nat
 dflt : List V
 body : List PS
noncomputable def bindP : List Nat → List V → List V → Option Loc
 | [],[],_=>some []
 | i :: is,v :: vs,d=>(bindP is vs (d.drop (d.length - is.length))).map ((i,v) :: ·)
 | i :: is,[],d=>if d.length = is.length + 1 then (match d with | v :: d'=>(bindP is [] d').map ((i,v) :: ·) | []=>none) else none
 | [],_ :: _,_=>none
structure Pr where
 so : Nat → Option O
 clsm : Nat → Nat → Option Nat
 clsv : Nat → Nat → Option V
 clsi : Nat → Nat → Bool
 init : Nat
 fns : Nat → Option Fn
noncomputable def cxOf (p : Pr) (fuel : Nat) (call : Nat → List V → St → Option (V × St)) : Cx:={ so:=p.so,clsm:=p.clsm,clsv:=p.clsv,clsi:=p.clsi,init:=p.init,fuel:=fuel,call:=call }
noncomputable def endF (f : Nat) (fl : Fl) (σ : St) : Option (V × St):=bif Nat.blt f BIG then some ((match fl with | .ret v=>v | _=>.none),σ) else match fl with
 | .next=>some (.none,σ)
 | .ret v=>(match v with | .none=>none | v=>some (v,σ))
 | _=>none
noncomputable def runF (p : Pr) (fuel : Nat) : Nat → Nat → List V → St → Option (V × St)
 | 0,_,_,_=>none
 | d + 1,f,args,σ=>(p.fns f).bind fun fn=>(bindP fn.params args fn.dflt).bind fun L =>
  (evSs (cxOf p fuel (runF p fuel d)) fn.body σ.length L σ).bind fun (fl,_,σ1)=>endF f fl σ1
noncomputable def two {β : Type} (l : List (Nat × List (Nat × β))) (a b : Nat) : Option β:=match getK a l with | some r=>getK b r | none=>none
noncomputable def twoI (l : List (Nat × List Nat)) (a b : Nat) : Bool:=match getK a l with | some l=>l.contains b | none=>false
end
section
theorem bqR (i : Nat) : Nat.beq i i = true:=Nat.beq_refl i
theorem bqN {i j : Nat} (q : ¬ i = j) : Nat.beq i j = false:=(BT.beq_eq i j).trans (decide_eq_false q)
theorem gK1 {β : Type} (i : Nat) (v : β) (l : List (Nat × β)) : getK i ((i,v) :: l) = some v:=congrArg (fun b=>bif b then some v else getK i l) (bqR i)
theorem gK2 {β : Type} {i j : Nat} (v : β) (l : List (Nat × β)) (q : ¬ i = j) : getK j ((i,v) :: l) = getK j l:=congrArg (fun b=>bif b then some v else getK j l) (bqN q)
theorem pK1 {β : Type} (i : Nat) (v w : β) (l : List (Nat × β)) : putK i v ((i,w) :: l) = (i,v) :: l:=congrArg (fun b=>bif b then (i,v) :: l else (i,w) :: putK i v l) (bqR i)
theorem pK2 {β : Type} {i j : Nat} (v w : β) (l : List (Nat × β)) (q : ¬ i = j) : putK j v ((i,w) :: l) = (i,w) :: putK j v l:=congrArg (fun b=>bif b then (j,v) :: l else (i,w) :: putK j v l) (bqN q)
inductive All2 {α β : Type} (R : α → β → Prop) : List α → List β → Prop
 | nil : All2 R [] []
 | cons {a b l m} : R a b → All2 R l m → All2 R (a :: l) (b :: m)
namespace All2
variable {α β : Type} {R S : α → β → Prop}
theorem len {l : List α} {m : List β} (h : All2 R l m) : l.length = m.length:=by
 induction h with
 | nil=>rfl
 | cons _ _ ih=>simp [ih]
theorem mono {l : List α} {m : List β} (h : All2 R l m) (k : ∀ a b,R a b → S a b) : All2 S l m:=by
 induction h with
 | nil=>exact .nil
 | cons h _ ih=>exact .cons (k _ _ h) ih
theorem get {l : List α} {m : List β} (h : All2 R l m) : ∀ {i : Nat} {a : α},l[i]? = some a → ∃ b,m[i]? = some b ∧ R a b:=by
 induction h with
 | nil=>intro i a e; simp at e
 | cons h _ ih =>
  intro i a e
  cases i with
  | zero=>simp at e; subst e; exact ⟨_,by simp,h⟩
  | succ i=>simp at e; obtain ⟨b,hb,r⟩:=ih e; exact ⟨b,by simpa using hb,r⟩
theorem app {l l' : List α} {m m' : List β} (h : All2 R l m) (h' : All2 R l' m') : All2 R (l ++ l') (m ++ m'):=by
 induction h with
 | nil=>exact h'
 | cons h _ ih=>exact .cons h ih
theorem snoc {l : List α} {m : List β} {a : α} {b : β} (h : All2 R l m) (h' : R a b) : All2 R (l ++ [a]) (m ++ [b]):=h.app (.cons h' .nil)
theorem set {l : List α} {m : List β} (h : All2 R l m) : ∀ (i : Nat) {a : α} {b : β},R a b → All2 R (l.set i a) (m.set i b):=by
 induction h with
 | nil=>intro i a b r; exact .nil
 | cons h t ih =>
  intro i a b r
  cases i with
  | zero=>exact .cons r t
  | succ i=>exact .cons h (ih i r)
theorem drop {l : List α} {m : List β} (h : All2 R l m) : ∀ i,All2 R (l.drop i) (m.drop i):=by
 induction h with
 | nil=>intro i; simp; exact .nil
 | cons h t ih=>intro i; cases i with
  | zero=>exact .cons h t
  | succ i=>simpa using ih i
theorem take {l : List α} {m : List β} (h : All2 R l m) : ∀ i,All2 R (l.take i) (m.take i):=by
 induction h with
 | nil=>intro i; simp; exact .nil
 | cons h t ih=>intro i; cases i with
  | zero=>exact .nil
  | succ i=>simpa using .cons h (ih i)
theorem eraseIdx {l : List α} {m : List β} (h : All2 R l m) : ∀ i,All2 R (l.eraseIdx i) (m.eraseIdx i):=by
 induction h with
 | nil=>intro i; exact .nil
 | cons h t ih=>intro i; cases i with
  | zero=>exact t
  | succ i=>exact .cons h (ih i)
theorem last {l : List α} {m : List β} (h : All2 R l m) {a : α} (e : l.getLast? = some a) : ∃ b,m.getLast? = some b ∧ R a b:=by
 rw [List.getLast?_eq_getElem?] at e
 obtain ⟨b,hb,r⟩:=h.get e
 refine ⟨b,?_,r⟩
 rw [List.getLast?_eq_getElem?,← h.len]; exact hb
end All2
abbrev Part:=List (Addr × Obj)
noncomputable def hd1 (p : Part) : Addr:=match p with | []=>0 | (a,_) :: _=>a
structure HS where
 a : List Addr
 z : O → Addr → Prop
structure HS.Le (s t : HS) : Prop where
 a : s.a <+: t.a
 z : ∀ o A,s.z o A → t.z o A
noncomputable def HS.nil : HS:=⟨[],fun J J=>False⟩
noncomputable def HS.add (s : HS) (A : Addr) : HS:=⟨s.a ++ [A],s.z⟩
theorem HS.Le.rfl {s : HS} : s.Le s:=⟨List.prefix_refl _,fun J J h=>h⟩
theorem HS.Le.trans {s t u : HS} (p : s.Le t) (q : t.Le u) : s.Le u:=⟨p.1.trans q.1,fun o A h=>q.2 o A (p.2 o A h)⟩
theorem HS.Le.nil {s : HS} : HS.nil.Le s:=⟨⟨_,Eq.refl _⟩,fun J J h=>h.elim⟩
theorem HS.Le.add {s : HS} {A : Addr} : s.Le (s.add A):=⟨⟨_,Eq.refl _⟩,fun J J h=>h⟩
structure PZ where
 p : List Part
 zl : List (Addr × Obj)
 z : O → Addr → Prop
 cs : List (Addr × Obj)
noncomputable def PZ.zc (ps : PZ) : List (Addr × Obj):=ps.zl ++ ps.cs
noncomputable def PZ.flatten (ps : PZ) : List (Addr × Obj):=ps.p.flatten ++ ps.zc
noncomputable def PZ.set (ps : PZ) (a : Nat) (part : Part) : PZ:=⟨ps.p.set a part,ps.zl,ps.z,ps.cs⟩
noncomputable def PZ.add (ps : PZ) (part : Part) : PZ:=⟨ps.p ++ [part],ps.zl,ps.z,ps.cs⟩
noncomputable def hds (ps : PZ) : HS:=⟨ps.p.map hd1,ps.z⟩
inductive VR (hs : HS) : V → Value → Prop
 | none : VR hs .none .none
 | bool (b) : VR hs (.bool b) (.bool b)
 | int (i t) : VR hs (.int i) (.int i t)
 | str (s : List Nat) (t) : s.length ≤ LIM → VR hs (.str s) (.str (toS s) t)
 | ref {a A} : hs.a[a]? = some A → VR hs (.ref a) (.ref A)
 | sref (a) : VR hs (.sref a) (.ref a)
 | frz {o A} : hs.z o A → VR hs (.frz o) (.ref A)
 | bad (A) : VR hs .bad (.ref A)
theorem VR.mono {hs hs' : HS} (h : hs.Le hs') {v : V} {x : Value} (r : VR hs v x) : VR hs' v x:=by
 cases r with
 | none=>exact .none
 | bool b=>exact .bool b
 | int i t=>exact .int i t
 | str s t h=>exact .str s t h
 | ref e =>
  obtain ⟨r,q⟩:=h.a
  exact .ref (by rw [← q,List.getElem?_append_left]; exact e; exact (List.getElem?_eq_some_iff.mp e).1)
 | sref a=>exact .sref a
 | frz e=>exact .frz (h.z _ _ e)
 | bad x=>exact .bad x
noncomputable def KV (hs : HS) (a : List Nat × V) (b : Str × Value) : Prop:=b.1 = toS a.1 ∧ VR hs a.2 b.2
noncomputable def AV (tb : List Str) (hs : HS) (a : Nat × V) (e : DictEntry) : Prop:=∃ x t,tb[a.1]? = some x ∧ e.key = .str x t ∧ VR hs a.2 e.val
section
variable (prog : Program) (w : World) (tb : List Str)
inductive ORel (hs : HS) : O → Part → Prop
 | list {vs : List V} {its : List Value} {A : Addr} {n : Nat} : All2 (VR hs) vs its → vs.length ≤ LIM + LIM → ORel hs (.list vs) [(A,listOf its.toArray n)]
 | tuple {vs : List V} {its : List Value} {A : Addr} {n : Nat} : All2 (VR hs) vs its → vs.length ≤ LIM + LIM → ORel hs (.tuple vs) [(A,{ cls:=.type "tuple",data:=.seq its.toArray n })]
 | dict {kvs : List (List Nat × V)} {ks : List (Str × Value)} {A : Addr} {o : Obj} : o.IsDictOf (strKind prog w) ks → All2 (KV hs) kvs ks → kvs.length ≤ LIM → (A == sysModules) = false → ORel hs (.dict kvs) [(A,o)]
 | inst {C : Nat} {fs : List (Nat × V)} {es : List DictEntry} {A D : Addr} {n : Nat} : All2 (AV tb hs) fs es → (fs.map (·.1)).Nodup → fs.length ≤ 900 → ORel hs (.inst C fs) [(A,instObj C D),(D,dictOf es n)]
 | meth {f : Nat} {self : V} {x : Value} {A : Addr} : VR hs self x → ORel hs (.meth f self) [(A,methodObj (.ref f) x)]
 | rng {a b s : Int} {A : Addr} {t u v : Tok} : ORel hs (.rng a b s) [(A,{ cls:=.type "range",dict:=none,data:=.fields #[.int a t,.int b u,.int s v],slots:=#[] })]
end
end
section
structure Fc where
 cn : Str
 cs : Scope
 L : Addr
 a : Addr
 ccd : Value
 h₀ : Heap
 A₀ : Around
 base : Heap
 outer : List Env
 A : Around
noncomputable abbrev Fc.cl (c : Fc) : List (Str × Addr):=cellsFrom (c.L + 1) c.cs.names []
noncomputable def Fc.env (c : Fc) : Env:=envOfC c.cn c.cs c.L c.a c.ccd
structure Wd where
 prog : Program
 w : World
 K : Frag
 p : Program
 loose : List Str
 mean : ExcName → Option Value
 mg : Str → Option Value
 mb : Str → Option Value
 tb : List Str
noncomputable def fsOf (c : Fc) : List Addr:=c.outer.filterMap (·.frame)
structure Gd (c : Fc) (g : Heap) : Prop where
 T : KtsTurn (fsOf c) c.h₀ g
 B : Below c.A₀ c.base c.outer g
 D : KtsDicts (fsOf c) g
theorem Gd.none {c : Fc} {g : Heap} (G : Gd c g) {b : Addr} : c.h₀.get? b = none ↔ g.get? b = none:=by
 constructor
 ·exact G.T.none_ b
 ·intro e
  cases q : c.h₀.get? b with
  | none=>rfl
  | some o =>
   obtain ⟨sl,h⟩:=G.T.up q
   rw [e] at h
   cases h
theorem Gd.news {c : Fc} {g h : Heap} {L : Addr} {l : List (Addr × Obj)} (G : Gd c g) (N : News c.h₀ L h l) : News g L h l:=fun p hp=>⟨(N p hp).1,(N p hp).2.1,G.none.mp (N p hp).2.2⟩
theorem Gd.back {c : Fc} {g h : Heap} {L : Addr} {l : List (Addr × Obj)} (G : Gd c g) (N : News g L h l) : News c.h₀ L h l:=fun p hp=>⟨(N p hp).1,(N p hp).2.1,G.none.mpr (N p hp).2.2⟩
noncomputable def Off (c : Fc) (m0 m : Str → Option Value) : Prop:=∀ x,c.cl.lookup x = none → m0 x = m x
noncomputable def FrU (c : Fc) (h : Heap) (m : Str → Option Value) : Prop:=∃ g,Gd c g ∧ ∃ m0,Off c m0 m ∧ Fr g c.L h m0
theorem FrU.ns {c : Fc} {h : Heap} {m : Str → Option Value} (F : FrU c h m) : ∃ m0,Off c m0 m ∧ h.Ns c.L m0:=let ⟨_,_,m0,q,f⟩:=F; ⟨m0,q,f.ns⟩
theorem FrU.push {c : Fc} {h : Heap} {m : Str → Option Value} (F : FrU c h m) (o : Obj) : FrU c (h.push o) m:=let ⟨g,G,m0,q,f⟩:=F; ⟨g,G,m0,q,f.push o⟩
theorem FrU.npush {c : Fc} {h : Heap} {m : Str → Option Value} {l : List (Addr × Obj)} (F : FrU c h m) (N : News c.h₀ c.L h l) (o : Obj) (hf : o.isFreed = false) : News c.h₀ c.L (h.push o) ((h.objs.size,o) :: l):=let ⟨_,G,_,_,f⟩:=F; G.back ((G.news N).push f o hf)
theorem FrU.change {c : Fc} {h h' : Heap} {m : Str → Option Value} {D : Addr} (F : FrU c h m) (hs : Heap.SameBut D h h') (hL : D ≠ c.L) (hn : c.h₀.get? D = none) : FrU c h' m:=let ⟨g,G,m0,q,f⟩:=F; ⟨g,G,m0,q,f.change hs hL (G.none.mp hn)⟩
theorem FrU.set {c : Fc} {h h' : Heap} {m m0 m' : Str → Option Value} (F : FrU c h m) (q : Off c m0 m') (hn : h'.Ns c.L m0) (hs : Heap.SameBut c.L h h') : FrU c h' m':=let ⟨g,G,_,_,f⟩:=F; ⟨g,G,m0,q,f.set hn hs⟩
theorem FrU.keeps {c : Fc} {h h' : Heap} {m : Str → Option Value} (F : FrU c h m) (hk : ∀ b x,h.get? b = some x → h'.get? b = some x) : FrU c h' m:=let ⟨g,G,m0,q,f⟩:=F; ⟨g,G,m0,q,f.keeps hk⟩
theorem FrU.off {c : Fc} {h h' : Heap} {m : Str → Option Value} {D : Addr} (F : FrU c h m) (hk : ∀ b x,b ≠ D → h.get? b = some x → h'.get? b = some x) (hL : D ≠ c.L) (hn : c.h₀.get? D = none) : FrU c h' m:=by
 obtain ⟨g,G,m0,q,f⟩:=F
 obtain ⟨oL,es,ep,h1,h2⟩:=f.ns
 exact ⟨g,G,m0,q,⟨oL,es,ep,hk _ _ hL.symm h1,h2⟩,fun b x hb=>hk b x (fun q=>by rw [q,G.none.mp hn] at hb; cases hb) (f.keep b x hb),f.above⟩
theorem FrU.base {c : Fc} {h : Heap} {m : Str → Option Value} (F : FrU c h m) : c.base.StaysIn h:=let ⟨_,G,_,_,f⟩:=F; fun b o e=>f.keep b o (G.B.stays b o e)
noncomputable def CsOk (cs : Scope) : Prop:=∀ n,((∀ p ∈ cs.names,p.2 ≠ .cell) ∧ cellsFrom n cs.names [] = []) ∨ ∃ x A,cellsFrom n cs.names [] = [(x,A)] ∧ cs.names.lookup x = some .cell ∧ ∀ p ∈ cs.names,p.2 = .cell → p.1 = x
theorem CsOk.loc {cs : Scope} (k : CsOk cs) {n : Nat} {x : Str} {kd : NameKind} (h : cs.names.lookup x = some kd) (hk : kd ≠ .cell) : (cellsFrom n cs.names []).lookup x = none:=by
 rcases k n with ⟨_,e⟩ | ⟨y,A,e,q,_⟩
 ·rw [e]; rfl
 ·rw [e,List.lookup_cons]
  cases z : x == y with
  | true=>rw [eq_of_beq z,q] at h; exact absurd (Option.some.inj h).symm hk
  | false=>rfl
theorem CsOk.cell {cs : Scope} (k : CsOk cs) {n : Nat} {x : Str} (h : cs.names.lookup x = some .cell) : ∃ A,cellsFrom n cs.names [] = [(x,A)]:=by
 have hm : (x,NameKind.cell) ∈ cs.names:=mem_of_lookup h
 rcases k n with ⟨q,_⟩ | ⟨y,A,e,_,q⟩
 ·exact absurd rfl (q _ hm)
 ·exact ⟨A,(show x = y from q _ hm rfl) ▸ e⟩
structure FOk (W : Wd) (c : Fc) (d : Nat) : Prop where
 frames : c.A.frames = some (c.env :: c.outer)
 hh : c.A.handled = none
 depth : c.A.depth + 3 * d + 3 ≤ 990
 units : c.A.units + 30 * d + 300 ≤ 9800
 X : W.K.In c.base
 T : Top W.p W.loose W.mean W.mg W.mb c.base
 kind : c.cs.kind = .function
 ck : CsOk c.cs
 dp : c.A = c.A₀.deeper c.env
theorem FOk.TR {W : Wd} {c : Fc} {d : Nat} (ok : FOk W c d) {g : Heap} (G : Gd c g) : TopRead W.p W.loose W.mg W.mb g:=(topRead_of ok.T).keeps G.B.stays
theorem FOk.KR {W : Wd} {c : Fc} {d : Nat} (ok : FOk W c d) {g : Heap} (G : Gd c g) : W.K.In g:=ok.X.keeps G.B.stays
noncomputable def Fz (W : Wd) (c : Fc) (m : Str → Option Value) (z : O → Addr → Prop) (zl cs : List (Addr × Obj)) : Prop :=
 (∀ o A,z o A → ∃ part,hd1 part = A ∧ (∀ q ∈ part,q ∈ zl) ∧ ORel W.prog W.w W.tb ⟨[],z⟩ o part) ∧ CellsAre m c.cl cs
structure SR (W : Wd) (c : Fc) (m : Str → Option Value) (X : List (Addr × Obj)) (σ : St) (ps : PZ) (h : Heap) : Prop where
 F : FrU c h m
 N : News c.h₀ c.L h (ps.flatten ++ X)
 nd : ((ps.flatten ++ X).map (·.1)).Nodup
 rel : All2 (ORel W.prog W.w W.tb (hds ps)) σ ps.p
 fz : Fz W c m ps.z ps.zl ps.cs
section
variable {W : Wd} {c : Fc} {m m' : Str → Option Value} {X : List (Addr × Obj)} {σ : St} {ps : PZ} {h h' : Heap}
theorem hds_len : (hds ps).a.length = ps.p.length:=List.length_map ..
theorem SR.cell (S : SR W c m X σ ps h) (k : CsOk c.cs) {x : Str} (e : c.cs.names.lookup x = some .cell) : ∃ A o,c.cl = [(x,A)] ∧ ps.cs = [(A,o)] ∧ o.data = .cell (m x) ∧ h.get? A = some o:=by
 obtain ⟨A,ea⟩:=k.cell (n:=c.L + 1) e
 have z:=S.fz.2
 unfold Fc.cl at z
 rw [ea] at z
 obtain ⟨o,e1,e2⟩:=z.one
 exact ⟨A,o,ea,e1,e2,(S.N (A,o) (List.mem_append_left _ (List.mem_append_right _ (List.mem_append_right _ (e1 ▸ .head _))))).1⟩
theorem SR.len (S : SR W c m X σ ps h) : σ.length = ps.p.length:=S.rel.len
theorem SR.K (S : SR W c m X σ ps h) {d : Nat} (ok : FOk W c d) : W.K.In h:=ok.X.keeps S.F.base
theorem SR.obj (S : SR W c m X σ ps h) {a : Nat} {o : O} (e : σ[a]? = some o) : ∃ part,ps.p[a]? = some part ∧ ORel W.prog W.w W.tb (hds ps) o part:=S.rel.get e
theorem SR.mem (S : SR W c m X σ ps h) {a : Nat} {part : Part} (e : ps.p[a]? = some part) {q : Addr × Obj} (hq : q ∈ part) : q ∈ ps.flatten ++ X :=
 List.mem_append_left _ (List.mem_append_left _ (List.mem_flatten.mpr ⟨part,List.mem_of_getElem? e,hq⟩))
theorem SR.at (S : SR W c m X σ ps h) {a : Nat} {part : Part} (e : ps.p[a]? = some part) {q : Addr × Obj} (hq : q ∈ part) : h.get? q.1 = some q.2:=(S.N _ (S.mem e hq)).1
theorem SR.addr (S : SR W c m X σ ps h) {a : Nat} {x : Value} (r : VR (hds ps) (.ref a) x) : ∃ part,ps.p[a]? = some part ∧ x = .ref (hd1 part):=by
 cases r with
 | ref e =>
  obtain ⟨part,hp,q⟩:=Option.map_eq_some_iff.mp ((List.getElem?_map ..).symm.trans e)
  exact ⟨part,hp,q ▸ rfl⟩
theorem SR.own (S : SR W c m X σ ps h) {a : Nat} {x : Value} {o : O} (r : VR (hds ps) (.ref a) x) (e : σ[a]? = some o) :
 ∃ part,ps.p[a]? = some part ∧ x = .ref (hd1 part) ∧ ORel W.prog W.w W.tb (hds ps) o part:=by
 obtain ⟨part,hp,hx⟩:=S.addr r
 obtain ⟨part',hp',hr⟩:=S.obj e
 rw [hp] at hp'; cases hp'
 exact ⟨part,hp,hx,hr⟩
theorem flat_set0 {pre post : Part} {D : Addr} {o o' : Obj} : ∀ {ps : List Part} {a : Nat},ps[a]? = some (pre ++ (D,o) :: post) →
 ∃ P Q,ps.flatten = P ++ (D,o) :: Q ∧ (ps.set a (pre ++ (D,o') :: post)).flatten = P ++ (D,o') :: Q
 | [],a,e=>by simp at e
 | p :: r,0,e=>by
  simp at e; subst e
  exact ⟨pre,post ++ r.flatten,by simp,by simp⟩
 | p :: r,a + 1,e=>by
  simp at e
  obtain ⟨P,Q,h1,h2⟩:=flat_set0 (o':=o') e
  exact ⟨p ++ P,Q,by simp [h1],by simp [h2]⟩
theorem flat_set {pre post : Part} {D : Addr} {o o' : Obj} {a : Nat} (e : ps.p[a]? = some (pre ++ (D,o) :: post)) :
 ∃ P Q,ps.flatten = P ++ (D,o) :: Q ∧ (ps.set a (pre ++ (D,o') :: post)).flatten = P ++ (D,o') :: Q:=by
 obtain ⟨P,Q,h1,h2⟩:=flat_set0 (o':=o') e
 exact ⟨P,Q ++ ps.zc,by unfold PZ.flatten; rw [h1]; simp,by unfold PZ.flatten; show (ps.p.set a _).flatten ++ _ = _; rw [h2,List.append_assoc]; rfl⟩
theorem set_self {α : Type} {l : List α} {a : Nat} {x : α} (e : l[a]? = some x) : l.set a x = l:=by
 apply List.ext_getElem?
 intro i
 rw [List.getElem?_set]
 by_cases q : a = i
 ·subst q
  have:=(List.getElem?_eq_some_iff.mp e).1
  rw [if_pos rfl,if_pos this]; exact e.symm
 ·simp [q]
theorem hds_get {a : Nat} {part : Part} (e : ps.p[a]? = some part) : (hds ps).a[a]? = some (hd1 part):=(List.getElem?_map ..).trans (congrArg (Option.map hd1) e)
theorem hds_set {a : Nat} {part part' : Part} (e : ps.p[a]? = some part) (h1 : hd1 part' = hd1 part) : hds (ps.set a part') = hds ps:=by
 show HS.mk ((ps.p.set a part').map hd1) ps.z = HS.mk (ps.p.map hd1) ps.z
 rw [List.map_set,h1]
 exact congrArg (HS.mk · ps.z) (set_self (hds_get e))
theorem SR.put2 (S : SR W c m X σ ps h) {a : Nat} {pre post : Part} {D : Addr} {o o' : Obj} {ob : O} (e : ps.p[a]? = some (pre ++ (D,o) :: post)) (hk : ∀ b x,b ≠ D → h.get? b = some x → h'.get? b = some x) (ho : h'.get? D = some o')
 (hr : ORel W.prog W.w W.tb (hds ps) ob (pre ++ (D,o') :: post)) : SR W c m X (σ.set a ob) (ps.set a (pre ++ (D,o') :: post)) h' ∧ hds (ps.set a (pre ++ (D,o') :: post)) = hds ps:=by
 have hh : hd1 (pre ++ (D,o') :: post) = hd1 (pre ++ (D,o) :: post):=by cases pre <;> rfl
 have he:=hds_set e hh
 obtain ⟨P,Q,h1,h2⟩:=flat_set (o':=o') e
 have D0:=S.N (D,o) (by rw [h1]; simp)
 have nd:=S.nd
 rw [h1] at nd
 simp only [List.map_append,List.map_cons,List.append_assoc,List.cons_append] at nd
 have nd2:=List.nodup_append.mp nd
 have n1 : ∀ p ∈ P,p.1 ≠ D:=fun p hp q=>nd2.2.2 _ (List.mem_map_of_mem hp) D List.mem_cons_self q
 have n2 : ∀ p ∈ Q ++ X,p.1 ≠ D:=fun p hp q=>by
  have:=(List.nodup_cons.mp nd2.2.1).1
  apply this
  rw [← List.map_append,← q]
  exact List.mem_map_of_mem hp
 refine ⟨⟨S.F.off hk D0.2.1 D0.2.2,?_,?_,?_,S.fz⟩,he⟩
 ·rw [h2,List.append_assoc,List.cons_append]
  intro p hp
  have NN : ∀ p,p ∈ P ++ (D,o) :: (Q ++ X) → h.get? p.1 = some p.2 ∧ p.1 ≠ c.L ∧ c.h₀.get? p.1 = none:=fun p hp=>S.N p (by rw [h1]; simpa using hp)
  rcases List.mem_append.mp hp with hp | hp
  ·have z:=NN p (List.mem_append_left _ hp)
   exact ⟨hk _ _ (n1 p hp) z.1,z.2⟩
  ·rcases List.mem_cons.mp hp with rfl | hp
   ·exact ⟨ho,D0.2⟩
   ·have z:=NN p (List.mem_append_right _ (.tail _ hp))
    exact ⟨hk _ _ (n2 p hp) z.1,z.2⟩
 ·rw [h2]; simpa using nd
 ·rw [he]; exact S.rel.set a hr
theorem SR.put (S : SR W c m X σ ps h) {a : Nat} {pre post : Part} {D : Addr} {o o' : Obj} {ob : O} (e : ps.p[a]? = some (pre ++ (D,o) :: post)) (hs : Heap.SameBut D h h') (ho : h'.get? D = some o')
 (hr : ORel W.prog W.w W.tb (hds ps) ob (pre ++ (D,o') :: post)) : SR W c m X (σ.set a ob) (ps.set a (pre ++ (D,o') :: post)) h' ∧ hds (ps.set a (pre ++ (D,o') :: post)) = hds ps:=S.put2 e (fun b x q e=>(hs.2 b q).trans e) ho hr
theorem ORel.head {prog : Program} {w : World} {tb : List Str} {hs : HS} {o : O} {part : Part} (r : ORel prog w tb hs o part) : ∃ ob,(hd1 part,ob) ∈ part:=by
 cases r <;> exact ⟨_,.head _⟩
theorem hds_snoc {part : Part} : hds (ps.add part) = (hds ps).add (hd1 part):=congrArg (HS.mk · ps.z) List.map_append
theorem pre_snoc {part : Part} : (hds ps).Le (hds (ps.add part)):=hds_snoc ▸ .add
theorem AV.mono {tb : List Str} {hs hs' : HS} (k : hs.Le hs') {a : Nat × V} {e : DictEntry} (r : AV tb hs a e) : AV tb hs' a e:=by
 obtain ⟨x,t,h1,h2,h3⟩:=r
 exact ⟨x,t,h1,h2,h3.mono k⟩
theorem ORel.mono {prog : Program} {w : World} {tb : List Str} {hs hs' : HS} (k : hs.Le hs') {o : O} {part : Part} (r : ORel prog w tb hs o part) : ORel prog w tb hs' o part:=by
 cases r with
 | list h1 h2=>exact .list (h1.mono fun J J=>VR.mono k) h2
 | tuple h1 h2=>exact .tuple (h1.mono fun J J=>VR.mono k) h2
 | dict h1 h2 h3 h4=>exact .dict h1 (h2.mono fun J J z=>⟨z.1,z.2.mono k⟩) h3 h4
 | inst h1 h2 h3=>exact .inst (h1.mono fun J J=>AV.mono k) h2 h3
 | meth h1=>exact .meth (h1.mono k)
 | rng=>exact .rng
theorem add_perm {part : Part} : ((ps.add part).flatten ++ X).Perm (part ++ (ps.flatten ++ X)):=by
 show (((ps.p ++ [part]).flatten ++ ps.zc) ++ X).Perm (part ++ ((ps.p.flatten ++ ps.zc) ++ X))
 rw [List.flatten_append,List.flatten_cons,List.flatten_nil,List.append_nil,List.append_assoc,List.append_assoc,List.append_assoc,← List.append_assoc,← List.append_assoc part]
 exact List.Perm.append_right _ List.perm_append_comm
theorem SR.new {part : Part} {o : O} (S : SR W c m X σ ps h) (F' : FrU c h' m) (N' : News c.h₀ c.L h' (part ++ (ps.flatten ++ X)))
 (nd : (part.map (·.1)).Nodup) (lt : ∀ q ∈ part,∀ p ∈ ps.flatten ++ X,p.1 ≠ q.1) (hr : ORel W.prog W.w W.tb ((hds ps).add (hd1 part)) o part) : SR W c m X (σ ++ [o]) (ps.add part) h':=by
 have pm:=add_perm (ps:=ps) (part:=part) (X:=X)
 refine ⟨F',fun p hp=>N' p (pm.mem_iff.mp hp),?_,?_,S.fz⟩
 ·rw [(pm.map (·.1)).nodup_iff,List.map_append]
  refine List.nodup_append.mpr ⟨nd,S.nd,fun a ha b hb q=>?_⟩
  obtain ⟨x,hx,rfl⟩:=List.mem_map.mp ha
  obtain ⟨y,hy,rfl⟩:=List.mem_map.mp hb
  exact lt x hx y hy q.symm
 ·rw [hds_snoc]
  exact All2.snoc (S.rel.mono fun J J=>ORel.mono .add) hr
theorem SR.new1 {A : Addr} {ob : Obj} {o : O} (S : SR W c m X σ ps h) (F' : FrU c h' m) (N' : News c.h₀ c.L h' ((A,ob) :: (ps.flatten ++ X)))
 (lt : ∀ p ∈ ps.flatten ++ X,p.1 < A) (hr : ORel W.prog W.w W.tb ((hds ps).add A) o [(A,ob)]) : SR W c m X (σ ++ [o]) (ps.add [(A,ob)]) h' :=
 S.new (part:=[(A,ob)]) F' N' (by simp) (fun q hq p hp=>by simp at hq; subst hq; exact Nat.ne_of_lt (lt p hp)) hr
theorem SR.push1 {ob : Obj} {o : O} (S : SR W c m X σ ps h) (hf : ob.isFreed = false) (hr : ORel W.prog W.w W.tb ((hds ps).add h.objs.size) o [(h.objs.size,ob)]) :
 SR W c m X (σ ++ [o]) (ps.add [(h.objs.size,ob)]) (h.push ob) :=
 S.new1 (S.F.push _) (S.F.npush S.N ob hf) (fun p hp=>Heap.lt_size (S.N p hp).1) hr
noncomputable def PZ.tree (ps : PZ) (A : Addr) (ob : Obj) (o : O) : PZ:=⟨ps.p,(A,ob) :: ps.zl,fun o' A'=>ps.z o' A' ∨ (o' = o ∧ A' = A),ps.cs⟩
theorem pre_tree {A : Addr} {ob : Obj} {o : O} : (hds ps).Le (hds (ps.tree A ob o)):=⟨List.prefix_refl _,fun J J=>.inl⟩
theorem SR.tree {A : Addr} {ob : Obj} {o : O} (S : SR W c m X σ ps h) (F' : FrU c h' m) (N' : News c.h₀ c.L h' ((A,ob) :: (ps.flatten ++ X)))
 (lt : ∀ p ∈ ps.flatten ++ X,p.1 < A) (hr : ORel W.prog W.w W.tb ⟨[],ps.z⟩ o [(A,ob)]) : SR W c m X σ (ps.tree A ob o) h':=by
 have pm : ((ps.tree A ob o).flatten ++ X).Perm ((A,ob) :: (ps.flatten ++ X)):=List.Perm.append_right X (l₂:=(A,ob) :: ps.flatten) List.perm_middle
 have le : HS.Le ⟨[],ps.z⟩ ⟨[],(ps.tree A ob o).z⟩:=⟨List.prefix_refl _,fun J J=>.inl⟩
 refine ⟨F',fun p hp=>N' p (pm.mem_iff.mp hp),?_,S.rel.mono fun J J=>ORel.mono pre_tree,?_,S.fz.2⟩
 ·have q:=pm.map Prod.fst
  refine q.nodup_iff.mpr (List.nodup_cons.mpr ⟨fun q=>?_,S.nd⟩)
  obtain ⟨p,hp,e⟩:=List.mem_map.mp q
  exact Nat.ne_of_lt (lt p hp) e
 ·rintro o' A' (z | ⟨rfl,rfl⟩)
  ·obtain ⟨part,h1,h2,h3⟩:=S.fz.1 o' A' z
   exact ⟨part,h1,fun q hq=>.tail _ (h2 q hq),h3.mono le⟩
  ·exact ⟨_,rfl,fun q hq=>List.mem_singleton.mp hq ▸ .head _,hr.mono le⟩
theorem VR.last {hs : HS} {A : Addr} {n : Nat} (e : hs.a.length = n) : VR (hs.add A) (.ref n) (.ref A):=.ref (by subst e; exact List.getElem?_concat_length ..)
theorem SR.keep (S : SR W c m X σ ps h) (F' : FrU c h' m) (N' : News c.h₀ c.L h' (ps.flatten ++ X)) : SR W c m X σ ps h':=⟨F',N',S.nd,S.rel,S.fz⟩
theorem SR.garb (S : SR W c m X σ ps h) (ob : Obj) : SR W c m X σ ps (h.push ob) :=
 S.keep (S.F.push _) fun p hp=>⟨Heap.get?_push_of_some _ (S.N p hp).1,(S.N p hp).2⟩
end
end
section
open SeqAt MeetsSeq MeetsSeq2 MeetsSeq3 SeqRoads2
open AutoSeq1 (wpAny_loadPart')
def EqP (W : Wd) (A : Around) (s : Shared) (y x : Value) (b : Bool) : Prop:=∀ (E : Value → Shared → Prop) (Q : Bool → Shared → Prop),Q b s → wpAny (model W.prog W.w) A (eqBool y x) Q E s
def RcP (W : Wd) (A : Around) (s : Shared) (y x : Value) (b : Bool) : Prop:=∀ (E Q : Value → Shared → Prop),Q (.bool b) s → wpAny (model W.prog W.w) A (richCompare .Eq y x) Q E s
def RnP (W : Wd) (A : Around) (s : Shared) (y x : Value) (b : Bool) : Prop:=∀ (E Q : Value → Shared → Prop),Q (.bool b) s → wpAny (model W.prog W.w) A (richCompare .NotEq y x) Q E s
section
variable {W : Wd} {A : Around} {s : Shared}
theorem EqP.of {y x : Value} {b : Bool} (h : EqAt A s y x b) : EqP W A s y x b:=fun E Q hq=>h W.prog W.w E Q hq
theorem RcP.of {y x : Value} {b : Bool} (h : RcAt A s y x b) : RcP W A s y x b:=fun E Q hq=>h W.prog W.w E Q hq
theorem EqP.refs {l b : Addr} {k : Bool} (hne : l ≠ b) (h : RcP W A s (.ref l) (.ref b) k) : EqP W A s (.ref l) (.ref b) k:=fun E Q hq=>by
 unfold eqBool
 refine wpAny_holding (wpAny_ite_split (fun q=>absurd (Value.ref.inj (eq_of_beq q)) hne) fun J=>?_)
 exact wpAny_bind (h E _ (wpAny_truthy_bool hq))
theorem drop_rng {n i : Nat} (h : i < n) : (List.range n).drop i = i :: (List.range n).drop (i + 1):=by
 have h' : i < (List.range n).length:=Nat.lt_of_lt_of_eq h List.length_range.symm
 rw [List.drop_eq_getElem_cons h',List.getElem_range]
theorem listLoop {l b : Addr} {xs ys : Array Value} {n n2 : Nat} (sz : xs.size = ys.size) {e : Nat → Bool} : ∀ (k i : Nat),xs.size - i = k → ∀ (A : Around) (R : Result → Shared → Prop) (s : Shared),
 s.heap.get? l = some (listOf xs n) → s.heap.get? b = some (listOf ys n2) → (∀ j (h1 : j < xs.size) (h2 : j < ys.size),EqP W A.in1 s xs[j] ys[j] (e j)) → R (.ok (.ret (.bool (((List.range xs.size).drop i).all e)))) s →
 wpAny (model W.prog W.w) A.in1 (Builtin.«list.__eq__.loop» ⟨[.ref l,.ref b,rawInt i,rawInt 2],[]⟩)
  (fun fin s'=>match fin with | .done f=>R (.ok f) s' | .again c'=>c'.quiet = true ∧ codeAny (model W.prog W.w) A c' R s') (fun e s'=>R (.error e) s') s:=by
 intro k
 induction k with
 | zero =>
  intro i hk A R s hl hb he h
  obtain ⟨hp,g,d,tk,os⟩:=s
  have le:=Nat.sub_eq_zero_iff_le.mp hk
  have ni : xs[((i : Nat) : Int).toNat]? = none:=Array.getElem?_eq_none le
  have nj : ys[((i : Nat) : Int).toNat]? = none:=Array.getElem?_eq_none (sz ▸ le)
  have hd : (List.range xs.size).drop i = []:=List.drop_eq_nil_of_le (Nat.le_trans (Nat.le_of_eq List.length_range) le)
  rw [hd] at h
  wp_walk using wpAny_loadPart' hl,wpAny_loadPart' hb
  rw [ni,nj]
  wp_walk using wpAny_loadPart' hl,wpAny_loadPart' hb
  have : (xs.size == ys.size) = true:=by rw [sz]; exact beq_self_eq_true _
  show R (.ok (.ret (.bool (xs.size == ys.size)))) _
  rw [this]; exact h
 | succ k ih =>
  intro i hk A R s hl hb he h
  obtain ⟨hp,g,d,tk,os⟩:=s
  have l1 : i < xs.size:=Nat.lt_of_sub_eq_succ hk
  have l2 : i < ys.size:=sz ▸ l1
  have ni : xs[((i : Nat) : Int).toNat]? = some xs[i]:=Array.getElem?_eq_getElem l1
  have nj : ys[((i : Nat) : Int).toNat]? = some ys[i]:=Array.getElem?_eq_getElem l2
  have hd:=drop_rng l1
  rw [hd,List.all_cons] at h
  wp_walk using wpAny_loadPart' hl,wpAny_loadPart' hb
  rw [ni,nj]
  refine wpAny_bind (he i l1 l2 _ _ ?_)
  have up : ((i : Int) + 1) = ((i + 1 : Nat) : Int):=rfl
  cases q : e i with
  | true =>
   rw [q,Bool.true_and] at h
   wp_walk
   rw [up]
   exact ⟨plainId_quiet plain_eq_loop _,codeAny_builtin entry_eq_loop (by
    rw [Around.under_plainId plain_eq_loop _]
    exact ih (i + 1) (congrArg Nat.pred hk) A R _ hl hb he h)⟩
  | false =>
   rw [q,Bool.false_and] at h
   wp_walk using wpAny_loadPart' hl,wpAny_loadPart' hb
   rw [ni,nj]
   wp_walk
   exact h
theorem RcP.lists {l b : Addr} {xs ys : Array Value} {n n2 : Nat} (sz : xs.size = ys.size) {e : Nat → Bool} (hl : s.heap.get? l = some (listOf xs n)) (hb : s.heap.get? b = some (listOf ys n2)) (hu : A.units < cLine)
 (he : ∀ j (h1 : j < xs.size) (h2 : j < ys.size),EqP W A.in1 s xs[j] ys[j] (e j)) : RcP W A s (.ref l) (.ref b) ((List.range xs.size).all e):=by
 intro E Q hq
 have ta : s.TypeIs (.ref l) "list":=⟨_,hl,rfl⟩
 have tb : s.TypeIs (.ref b) "list":=⟨_,hb,rfl⟩
 refine wpAny_richCompare_same_room ta tb PySem.F.slot_list_eq (wpAny_call (codeAny_call_builtin PySem.F.slot_list_eq.plain PySem.F.entry_list_eq (PySem.F.slot_list_eq.check _ _ _ _ _ _ _ _ ta (PySem.F.args_list_eq_2 _ _) ?_))) hu
 obtain ⟨hp,g,d,tk,os⟩:=s
 have f3:=AutoSeq1.sub_list_list
 have ne : ¬ (xs.size != ys.size) = true:=by simp [sz]
 wp_walk using wpAny_loadPart' hl,wpAny_loadPart' hb
 exact ⟨plainId_quiet plain_eq_loop _,codeAny_builtin entry_eq_loop (by
  rw [Around.under_plainId plain_eq_loop _]
  exact listLoop (W:=W) sz (e:=e) _ 0 rfl A (wants (fun v s'=>v ≠ .notImplemented ∧ Q v s') E) _ hl hb he ⟨fun x=>(nomatch x),by simpa using hq⟩)⟩
theorem listLoopN {l b : Addr} {xs ys : Array Value} {n n2 : Nat} (sz : xs.size = ys.size) {e : Nat → Bool} : ∀ (k i : Nat),xs.size - i = k → ∀ (A : Around) (R : Result → Shared → Prop) (s : Shared),
 s.heap.get? l = some (listOf xs n) → s.heap.get? b = some (listOf ys n2) → (∀ j (h1 : j < xs.size) (h2 : j < ys.size),EqP W A.in1 s xs[j] ys[j] (e j)) → R (.ok (.ret (.bool (!((List.range xs.size).drop i).all e)))) s →
 wpAny (model W.prog W.w) A.in1 (Builtin.«list.__eq__.loop» ⟨[.ref l,.ref b,rawInt i,rawInt 3],[]⟩)
  (fun fin s'=>match fin with | .done f=>R (.ok f) s' | .again c'=>c'.quiet = true ∧ codeAny (model W.prog W.w) A c' R s') (fun e s'=>R (.error e) s') s:=by
 intro k
 induction k with
 | zero =>
  intro i hk A R s hl hb he h
  obtain ⟨hp,g,d,tk,os⟩:=s
  have le:=Nat.sub_eq_zero_iff_le.mp hk
  have ni : xs[((i : Nat) : Int).toNat]? = none:=Array.getElem?_eq_none le
  have nj : ys[((i : Nat) : Int).toNat]? = none:=Array.getElem?_eq_none (sz ▸ le)
  have hd : (List.range xs.size).drop i = []:=List.drop_eq_nil_of_le (Nat.le_trans (Nat.le_of_eq List.length_range) le)
  rw [hd] at h
  wp_walk using wpAny_loadPart' hl,wpAny_loadPart' hb
  rw [ni,nj]
  wp_walk using wpAny_loadPart' hl,wpAny_loadPart' hb
  have : (xs.size == ys.size) = true:=by rw [sz]; exact beq_self_eq_true _
  have nb : (xs.size != ys.size) = false:=by rw [bne,this]; rfl
  show R (.ok (.ret (.bool (xs.size != ys.size)))) _
  rw [nb]; exact h
 | succ k ih =>
  intro i hk A R s hl hb he h
  obtain ⟨hp,g,d,tk,os⟩:=s
  have l1 : i < xs.size:=Nat.lt_of_sub_eq_succ hk
  have l2 : i < ys.size:=sz ▸ l1
  have ni : xs[((i : Nat) : Int).toNat]? = some xs[i]:=Array.getElem?_eq_getElem l1
  have nj : ys[((i : Nat) : Int).toNat]? = some ys[i]:=Array.getElem?_eq_getElem l2
  have hd:=drop_rng l1
  rw [hd,List.all_cons] at h
  wp_walk using wpAny_loadPart' hl,wpAny_loadPart' hb
  rw [ni,nj]
  refine wpAny_bind (he i l1 l2 _ _ ?_)
  have up : ((i : Int) + 1) = ((i + 1 : Nat) : Int):=rfl
  cases q : e i with
  | true =>
   rw [q,Bool.true_and] at h
   wp_walk
   rw [up]
   exact ⟨plainId_quiet plain_eq_loop _,codeAny_builtin entry_eq_loop (by
    rw [Around.under_plainId plain_eq_loop _]
    exact ih (i + 1) (congrArg Nat.pred hk) A R _ hl hb he h)⟩
  | false =>
   rw [q,Bool.false_and] at h
   wp_walk using wpAny_loadPart' hl,wpAny_loadPart' hb
   rw [ni,nj]
   wp_walk
   exact h
theorem RnP.lists {l b : Addr} {xs ys : Array Value} {n n2 : Nat} (sz : xs.size = ys.size) {e : Nat → Bool} (hl : s.heap.get? l = some (listOf xs n)) (hb : s.heap.get? b = some (listOf ys n2)) (hu : A.units < cLine)
 (he : ∀ j (h1 : j < xs.size) (h2 : j < ys.size),EqP W A.in1 s xs[j] ys[j] (e j)) : RnP W A s (.ref l) (.ref b) (!(List.range xs.size).all e):=by
 intro E Q hq
 have ta : s.TypeIs (.ref l) "list":=⟨_,hl,rfl⟩
 have tb : s.TypeIs (.ref b) "list":=⟨_,hb,rfl⟩
 refine wpAny_richCompare_same_room ta tb PySem.F.slot_list_ne (wpAny_call (codeAny_call_builtin PySem.F.slot_list_ne.plain PySem.F.entry_list_ne (PySem.F.slot_list_ne.check _ _ _ _ _ _ _ _ ta (PySem.F.args_list_ne_2 _ _) ?_))) hu
 obtain ⟨hp,g,d,tk,os⟩:=s
 have f3:=AutoSeq1.sub_list_list
 have ne : ¬ (xs.size != ys.size) = true:=by simp [sz]
 wp_walk using wpAny_loadPart' hl,wpAny_loadPart' hb
 exact ⟨plainId_quiet plain_eq_loop _,codeAny_builtin entry_eq_loop (by
  rw [Around.under_plainId plain_eq_loop _]
  exact listLoopN (W:=W) sz (e:=e) _ 0 rfl A (wants (fun v s'=>v ≠ .notImplemented ∧ Q v s') E) _ hl hb he ⟨fun x=>(nomatch x),by simpa using hq⟩)⟩
theorem RcP.tuples {l b : Addr} {xs ys : Array Value} {n n2 : Nat} (sz : xs.size = ys.size) {e : Nat → Bool} (hl : s.heap.get? l = some { cls:=.type "tuple",data:=.seq xs n }) (hb : s.heap.get? b = some { cls:=.type "tuple",data:=.seq ys n2 }) (hu : A.units < cLine)
 (he : ∀ j (h1 : j < xs.size) (h2 : j < ys.size),EqP W A.in1 s xs[j] ys[j] (e j)) : RcP W A s (.ref l) (.ref b) ((List.range xs.size).all e):=by
 intro E Q hq
 have ta : s.TypeIs (.ref l) "tuple":=⟨_,hl,rfl⟩
 have tb : s.TypeIs (.ref b) "tuple":=⟨_,hb,rfl⟩
 refine wpAny_richCompare_same_room ta tb PySem.F.slot_tuple_eq (wpAny_call (codeAny_call_builtin PySem.F.slot_tuple_eq.plain PySem.F.entry_tuple_eq (PySem.F.slot_tuple_eq.check _ _ _ _ _ _ _ _ ta (PySem.F.args_tuple_eq_2 _ _) ?_))) hu
 obtain ⟨hp,g,d,tk,os⟩:=s
 have f2:=AutoSeq1.sub_tuple_tuple
 have hZ : (xs.toList.zip ys.toList).length = xs.size:=by simp [sz]
 wp_walk using wpAny_loadPart' hl,wpAny_loadPart' hb,wpAny_forIn_list _ (fun rest b s'=>b.1 = none ∧ s' = ⟨hp,g,d,tk,os⟩ ∧ ∃ i,rest = (xs.toList.zip ys.toList).drop i ∧
  Q (.bool (((List.range xs.size).drop i).all e)) ⟨hp,g,d,tk,os⟩) _
 case turn =>
  rintro ⟨y,x⟩ rest b' s' ⟨hb',rfl,i,hz,hR⟩
  have hlt : i < (xs.toList.zip ys.toList).length:=by
   rcases Nat.lt_or_ge i (xs.toList.zip ys.toList).length with h' | h'
   ·exact h'
   ·rw [List.drop_of_length_le h'] at hz; cases hz
  have h1 : i < xs.size:=hZ ▸ hlt
  have h2 : i < ys.size:=sz ▸ h1
  rw [List.drop_eq_getElem_cons hlt] at hz
  injection hz with hyx hrest
  obtain ⟨rfl,rfl⟩ : y = xs[i] ∧ x = ys[i]:=by simpa [Prod.ext_iff] using hyx
  have hd : (List.range xs.size).drop i = i :: (List.range xs.size).drop (i + 1):=by simp [List.drop_eq_getElem_cons,h1]
  rw [hd,List.all_cons] at hR
  refine wpAny_bind (he i h1 h2 _ _ ?_)
  cases q : e i with
  | true =>
   rw [q] at hR
   wp_walk
   exact ⟨rfl,rfl,i + 1,hrest,by simpa using hR⟩
  | false =>
   rw [q] at hR
   wp_walk
   simpa using hR
 case fin =>
  rintro ⟨b1,b2⟩ s' ⟨hb',rfl,i,hz,hR⟩
  simp only at hb'
  subst hb'
  have hge : xs.size ≤ i:=by
   rcases Nat.lt_or_ge i (xs.toList.zip ys.toList).length with h' | h'
   ·rw [List.drop_eq_getElem_cons h'] at hz; cases hz
   ·exact hZ ▸ h'
  rw [List.drop_of_length_le (by simpa using hge)] at hR
  wp_walk
  simpa [Builtin.Tuple.tupleCompareSizes,sz,bne] using hR
 case h =>
  exact ⟨rfl,rfl,0,rfl,by simpa using hq⟩
theorem RnP.tuples {l b : Addr} {xs ys : Array Value} {n n2 : Nat} (sz : xs.size = ys.size) {e : Nat → Bool} (hl : s.heap.get? l = some { cls:=.type "tuple",data:=.seq xs n }) (hb : s.heap.get? b = some { cls:=.type "tuple",data:=.seq ys n2 }) (hu : A.units < cLine)
 (he : ∀ j (h1 : j < xs.size) (h2 : j < ys.size),EqP W A.in1 s xs[j] ys[j] (e j)) : RnP W A s (.ref l) (.ref b) (!(List.range xs.size).all e):=by
 intro E Q hq
 have ta : s.TypeIs (.ref l) "tuple":=⟨_,hl,rfl⟩
 have tb : s.TypeIs (.ref b) "tuple":=⟨_,hb,rfl⟩
 refine wpAny_richCompare_same_room ta tb PySem.F.slot_tuple_ne (wpAny_call (codeAny_call_builtin PySem.F.slot_tuple_ne.plain PySem.F.entry_tuple_ne (PySem.F.slot_tuple_ne.check _ _ _ _ _ _ _ _ ta (PySem.F.args_tuple_ne_2 _ _) ?_))) hu
 obtain ⟨hp,g,d,tk,os⟩:=s
 have f2:=AutoSeq1.sub_tuple_tuple
 have hZ : (xs.toList.zip ys.toList).length = xs.size:=by simp [sz]
 wp_walk using wpAny_loadPart' hl,wpAny_loadPart' hb,wpAny_forIn_list _ (fun rest b s'=>b.1 = none ∧ s' = ⟨hp,g,d,tk,os⟩ ∧ ∃ i,rest = (xs.toList.zip ys.toList).drop i ∧
  Q (.bool (!((List.range xs.size).drop i).all e)) ⟨hp,g,d,tk,os⟩) _
 case turn =>
  rintro ⟨y,x⟩ rest b' s' ⟨hb',rfl,i,hz,hR⟩
  have hlt : i < (xs.toList.zip ys.toList).length:=by
   rcases Nat.lt_or_ge i (xs.toList.zip ys.toList).length with h' | h'
   ·exact h'
   ·rw [List.drop_of_length_le h'] at hz; cases hz
  have h1 : i < xs.size:=hZ ▸ hlt
  have h2 : i < ys.size:=sz ▸ h1
  rw [List.drop_eq_getElem_cons hlt] at hz
  injection hz with hyx hrest
  obtain ⟨rfl,rfl⟩ : y = xs[i] ∧ x = ys[i]:=by simpa [Prod.ext_iff] using hyx
  have hd : (List.range xs.size).drop i = i :: (List.range xs.size).drop (i + 1):=by simp [List.drop_eq_getElem_cons,h1]
  rw [hd,List.all_cons] at hR
  refine wpAny_bind (he i h1 h2 _ _ ?_)
  cases q : e i with
  | true =>
   rw [q] at hR
   wp_walk
   exact ⟨rfl,rfl,i + 1,hrest,by simpa using hR⟩
  | false =>
   rw [q] at hR
   wp_walk
   simpa using hR
 case fin =>
  rintro ⟨b1,b2⟩ s' ⟨hb',rfl,i,hz,hR⟩
  simp only at hb'
  subst hb'
  have hge : xs.size ≤ i:=by
   rcases Nat.lt_or_ge i (xs.toList.zip ys.toList).length with h' | h'
   ·rw [List.drop_eq_getElem_cons h'] at hz; cases hz
   ·exact hZ ▸ h'
  rw [List.drop_of_length_le (by simpa using hge)] at hR
  wp_walk
  simpa [Builtin.Tuple.tupleCompareSizes,sz,bne] using hR
 case h =>
  exact ⟨rfl,rfl,0,rfl,by simpa using hq⟩
end
end
section
section
variable {W : Wd} {A : Around} {s : Shared}
inductive Hits (W : Wd) (A : Around) (s : Shared) (kb : List (Str × Value)) : List (Str × Value) → Bool → Prop
 | nil : Hits W A s kb [] true
 | miss {k v r} : valueAt kb k = none → Hits W A s kb ((k,v) :: r) false
 | hit {k v y r e b} : valueAt kb k = some y → EqP W A s v y e → Hits W A s kb r b → Hits W A s kb ((k,v) :: r) (e && b)
inductive Hit1 (W : Wd) (A : Around) (s : Shared) (kb : List (Str × Value)) (k : Str) (v : Value) (r : List (Str × Value)) : Bool → Prop
 | miss : valueAt kb k = none → Hit1 W A s kb k v r false
 | hit {y e b} : valueAt kb k = some y → EqP W A s v y e → Hits W A s kb r b → Hit1 W A s kb k v r (e && b)
theorem Hits.inv {kb l : List (Str × Value)} {k : Str} {v : Value} {r : List (Str × Value)} {b : Bool} (H : Hits W A s kb l b) (h : l = (k,v) :: r) : Hit1 W A s kb k v r b:=by
 cases H with
 | nil=>cases h
 | miss h1=>cases h; exact .miss h1
 | hit h1 h2 h3=>cases h; exact .hit h1 h2 h3
structure SpI (W : Wd) (A : Around) (s : Shared) (kb ka : List (Str × Value)) (n : Nat) (r : Bool) (rest : List Nat) (i : Nat) : Prop where
 hr : rest = List.range' i (n - i)
 hi : i ≤ n
 H : Hits W A s kb (ka.drop i) r
structure EnAt (W : Wd) (es : Array DictEntry) (ka : List (Str × Value)) (x : Nat) (e : DictEntry) (k : Str) (v : Value) : Prop where
 get : es[x]? = some e
 dr : ka.drop x = (k,v) :: ka.drop (x + 1)
 isk : (strKind W.prog W.w).is k e.key = true
 val : e.val = v
 hash : e.hash = (strKind W.prog W.w).hash k
end
end
section
section
variable {hs : HS} {P : Value → Prop} {α β : Type} {v : V} {x : Value} {b : β}
theorem noE {G : Prop} (e : (none : Option β) = some b) : G:=nomatch e
theorem pE {β γ : Type} (P : β → γ → Prop) {a v : β} {s t : γ} (e : some (a,s) = some (v,t)) (H : P v t) : P a s :=
 Eq.rec (motive:=fun o J=>match o with | some (x,y)=>P x y | none=>True) H e.symm
theorem triE {β γ δ : Type} (P : β → γ → δ → Prop) {a v : β} {l l' : γ} {s t : δ} (e : some (a,l,s) = some (v,l',t)) (H : P v l' t) : P a l s:=pE (fun a x=>P a x.1 x.2) e H
@[elab_as_elim] theorem sm1 {P : α → Prop} {a v : α} (e : some a = some v) (H : P v) : P a:=by cases e; exact H
@[elab_as_elim] theorem sm1' {P : α → Prop} {a v : α} (e : some a = some v) (H : P a) : P v:=by cases e; exact H
theorem bdE {G : Prop} {o : Option α} {f : α → Option β} (e : o.bind f = some b) (k : ∀ a,o = some a → f a = some b → G) : G:=by
 cases o with
 | none=>cases e
 | some a=>exact k a rfl e
theorem bd2 {G : Prop} {γ : Type} {o : Option (α × γ)} {f : α × γ → Option β} (e : o.bind f = some b) (k : ∀ a c,o = some (a,c) → f (a,c) = some b → G) : G:=bdE e fun p=>k p.1 p.2
theorem bd3 {G : Prop} {γ δ : Type} {o : Option (α × γ × δ)} {f : α × γ × δ → Option β} (e : o.bind f = some b) (k : ∀ a c d,o = some (a,c,d) → f (a,c,d) = some b → G) : G:=bdE e fun p=>k p.1 p.2.1 p.2.2
@[elab_as_elim] theorem mpE {P : β → Prop} {o : Option α} {f : α → β} (e : o.map f = some b) (k : ∀ a,o = some a → P (f a)) : P b:=by
 cases o with
 | none=>cases e
 | some a=>exact Option.some.inj e ▸ k a rfl
theorem mp0 {G : Prop} {o : Option α} {f : α → β} (e : o.map f = some b) (k : ∀ a,o = some a → some (f a) = some b → G) : G:=by
 cases o with
 | none=>cases e
 | some a=>exact k a rfl e
theorem mp2 {G : Prop} {γ : Type} {o : Option (α × γ)} {f : α × γ → β} (e : o.map f = some b) (k : ∀ a c,o = some (a,c) → some (f (a,c)) = some b → G) : G:=mp0 e fun p=>k p.1 p.2
theorem gdE {G : Prop} {c : Prop} {i : Decidable c} {t : Option β} (e : (if c then t else none) = some b) (k : c → t = some b → G) : G:=by
 by_cases h : c
 ·rw [if_pos h] at e; exact k h e
 ·rw [if_neg h] at e; cases e
theorem ifE {G : Prop} {c : Prop} {i : Decidable c} {t u : Option β} (e : (if c then t else u) = some b) (k : c → t = some b → G) (n : ¬ c → u = some b → G) : G:=by
 by_cases h : c
 ·rw [if_pos h] at e; exact k h e
 ·rw [if_neg h] at e; exact n h e
@[elab_as_elim] theorem intE {f : Int → Option β} (r : VR hs v x) (e : intO v f = some b) (k : ∀ i t,f i = some b → P (.int i t)) : P x:=by
 cases r with
 | int i t=>exact k i t e
 | _=>exact noE e
@[elab_as_elim] theorem strE {f : List Nat → Option β} (r : VR hs v x) (e : strO v f = some b) (k : ∀ s t,s.length ≤ LIM → f s = some b → P (.str (toS s) t)) : P x:=by
 cases r with
 | str s t h=>exact k s t h e
 | _=>exact noE e
theorem oListE {G : Prop} {o : O} {f : List V → Option β} (e : oList o f = some b) (k : ∀ vs,o = .list vs → f vs = some b → G) : G:=by
 cases o with
 | list vs=>exact k vs rfl e
 | _=>exact noE e
theorem oInstE {G : Prop} {o : O} {f : Nat → List (Nat × V) → Option β} (e : oInst o f = some b) (k : ∀ c fs,o = .inst c fs → f c fs = some b → G) : G:=by
 cases o with
 | inst c fs=>exact k c fs rfl e
 | _=>exact noE e
end
noncomputable def RO (W : Wd) (h : Heap) (hs : HS) (A : Addr) : O → Prop
 | .list vs=>∃ its n,h.get? A = some (listOf (List.toArray its) n) ∧ All2 (VR hs) vs its ∧ vs.length ≤ LIM + LIM
 | .tuple vs=>∃ its n,h.get? A = some { cls:=.type "tuple",data:=.seq (List.toArray its) n } ∧ All2 (VR hs) vs its ∧ vs.length ≤ LIM + LIM
 | .dict kvs=>∃ ks o,h.get? A = some o ∧ o.IsDictOf (strKind W.prog W.w) ks ∧ All2 (KV hs) kvs ks ∧ kvs.length ≤ LIM ∧ (A == sysModules) = false
 | .inst C fs=>∃ es D n,h.get? A = some (instObj C D) ∧ h.get? D = some (dictOf es n) ∧ All2 (AV W.tb hs) fs es ∧ (fs.map (·.1)).Nodup ∧ fs.length ≤ 900
 | .meth f self=>∃ x,h.get? A = some (methodObj (.ref f) x) ∧ VR hs self x
 | .rng a b s=>∃ t u v,h.get? A = some { cls:=.type "range",dict:=none,data:=.fields #[.int a t,.int b u,.int s v],slots:=#[] }
section
variable {W : Wd} {c : Fc} {m : Str → Option Value} {X : List (Addr × Obj)} {σ : St} {ps : PZ} {h : Heap} {P : Value → Prop} {β : Type} {v : V} {x : Value} {b : β}
theorem ORel.ro {hs : HS} {o : O} {part : Part} (r : ORel W.prog W.w W.tb hs o part) (k : ∀ q ∈ part,h.get? q.1 = some q.2) : RO W h hs (hd1 part) o:=by
 cases r with
 | list h1 h2=>exact ⟨_,_,k _ (.head _),h1,h2⟩
 | tuple h1 h2=>exact ⟨_,_,k _ (.head _),h1,h2⟩
 | dict h1 h2 h3 h4=>exact ⟨_,_,k _ (.head _),h1,h2,h3,h4⟩
 | inst h1 h2 h3=>exact ⟨_,_,_,k _ (.head _),k _ (.tail _ (.head _)),h1,h2,h3⟩
 | meth h1=>exact ⟨_,k _ (.head _),h1⟩
 | rng=>exact ⟨_,_,_,k _ (.head _)⟩
structure SoOk (W : Wd) (so : Nat → Option O) : Prop where
 at_ : ∀ a o,so a = some o → ∃ part : Part,hd1 part = a ∧ (∀ q ∈ part,W.K.lookup q.1 = some q.2) ∧ ORel W.prog W.w W.tb .nil o part
theorem SoOk.ro {so : Nat → Option O} (ok : SoOk W so) (K : W.K.In h) {hs : HS} {a : Nat} {o : O} (e : so a = some o) : RO W h hs a o:=by
 obtain ⟨part,h1,hl,hr⟩:=ok.at_ a o e
 subst h1
 exact (hr.mono .nil).ro fun q hq=>K _ _ (hl _ hq)
theorem SR.ro (S : SR W c m X σ ps h) {a : Nat} {o : O} (e : σ[a]? = some o) {part : Part} (hp : ps.p[a]? = some part) (hr : ORel W.prog W.w W.tb (hds ps) o part) : RO W h (hds ps) (hd1 part) o:=hr.ro fun q hq=>S.at hp hq
@[elab_as_elim] theorem ownE (S : SR W c m X σ ps h) {a : Nat} {o : O} (r : VR (hds ps) (.ref a) x) (e : σ[a]? = some o) (k : ∀ part,ps.p[a]? = some part → ORel W.prog W.w W.tb (hds ps) o part → P (.ref (hd1 part))) : P x:=by
 obtain ⟨part,hp,rfl,hr⟩:=S.own r e
 exact k part hp hr
@[elab_as_elim] theorem cellE (S : SR W c m X σ ps h) {f : Nat → O → Option β} (r : VR (hds ps) v x) (e : cellO σ v f = some b) (k : ∀ a o part,v = .ref a → σ[a]? = some o → ps.p[a]? = some part → ORel W.prog W.w W.tb (hds ps) o part → f a o = some b → P (.ref (hd1 part))) : P x:=by
 cases r with
 | ref hA=>exact bdE e fun o ho e=>ownE S (.ref hA) ho fun part hp hr=>k _ o part rfl ho hp hr e
 | _=>exact noE e
@[elab_as_elim] theorem cellLE (S : SR W c m X σ ps h) {f : Nat → List V → Option β} (r : VR (hds ps) v x) (e : cellO σ v (fun a o=>oList o (f a)) = some b) (k : ∀ a A its n vs,v = .ref a → σ[a]? = some (.list vs) → ps.p[a]? = some [(A,listOf (List.toArray its) n)] → h.get? A = some (listOf (List.toArray its) n) → All2 (VR (hds ps)) vs its → vs.length ≤ LIM + LIM → f a vs = some b → P (.ref A)) : P x :=
 cellE S r e fun a o part hv ho hp hr e=>oListE e fun vs q e=>by
  subst q
  cases hr with
  | list h1 h2=>exact k _ _ _ _ _ hv ho hp (S.at hp (.head _)) h1 h2 e
@[elab_as_elim] theorem cellIE (S : SR W c m X σ ps h) {f : Nat → Nat → List (Nat × V) → Option β} (r : VR (hds ps) v x) (e : cellO σ v (fun a o=>oInst o (f a)) = some b) (k : ∀ a A D es n C fs,v = .ref a → σ[a]? = some (.inst C fs) → ps.p[a]? = some [(A,instObj C D),(D,dictOf es n)] → h.get? A = some (instObj C D) → h.get? D = some (dictOf es n) → All2 (AV W.tb (hds ps)) fs es → (fs.map (·.1)).Nodup → fs.length ≤ 900 → f a C fs = some b → P (.ref A)) : P x :=
 cellE S r e fun a o part hv ho hp hr e=>oInstE e fun C fs q e=>by
  subst q
  cases hr with
  | inst h1 h2 h3=>exact k _ _ _ _ _ _ _ hv ho hp (S.at hp (.head _)) (S.at hp (.tail _ (.head _))) h1 h2 h3 e
theorem SR.froz (S : SR W c m X σ ps h) {o : O} {A : Addr} (e : ps.z o A) : RO W h (hds ps) A o:=by
 obtain ⟨part,rfl,hq,hr⟩:=S.fz.1 o A e
 have le : HS.Le ⟨[],ps.z⟩ (hds ps):=⟨⟨_,rfl⟩,fun J J h=>h⟩
 exact (hr.mono le).ro fun q hp=>(S.N q (List.mem_append_left _ (List.mem_append_right _ (List.mem_append_left _ (hq q hp))))).1
@[elab_as_elim] theorem obfE (S : SR W c m X σ ps h) {f : O → Option β} (r : VR (hds ps) v x) (e : (obF σ v).bind f = some b) (k : ∀ o A,obF σ v = some o → RO W h (hds ps) A o → f o = some b → P (.ref A)) : P x:=by
 cases r with
 | ref hA=>exact bdE e fun o ho e=>ownE S (.ref hA) ho fun part hp hr=>k o _ ho (S.ro ho hp hr) e
 | frz hz=>exact k _ _ rfl (S.froz hz) e
 | _=>exact noE e
@[elab_as_elim] theorem obfLE (S : SR W c m X σ ps h) {f : List V → Option β} (r : VR (hds ps) v x) (e : (obF σ v).bind (fun o=>oList o f) = some b) (k : ∀ A its n vs,h.get? A = some (listOf (List.toArray its) n) → All2 (VR (hds ps)) vs its → f vs = some b → P (.ref A)) : P x :=
 obfE S r e fun o A ho ro e=>oListE e fun vs q e=>by
  subst q
  obtain ⟨its,n,hA,i1,_⟩:=ro
  exact k A its n vs hA i1 e
@[elab_as_elim] theorem objE {cx : Cx} (ok : SoOk W cx.so) (S : SR W c m X σ ps h) (K : W.K.In h) {f : O → Option β} (r : VR (hds ps) v x) (e : (objOf cx σ v).bind f = some b) (k : ∀ o A,objOf cx σ v = some o → RO W h (hds ps) A o → f o = some b → P (.ref A)) : P x:=by
 cases r with
 | ref hA=>exact bdE e fun o ho e=>ownE S (.ref hA) ho fun part hp hr=>k o _ ho (S.ro ho hp hr) e
 | sref a=>exact bdE e fun o ho e=>k o _ ho (ok.ro K ho) e
 | frz hz=>exact k _ _ rfl (S.froz hz) e
 | _=>exact noE e
theorem obj_ro {cx : Cx} (ok : SoOk W cx.so) (S : SR W c m X σ ps h) (K : W.K.In h) (r : VR (hds ps) v x) {o : O} (e : objOf cx σ v = some o) : ∃ A,x = .ref A ∧ RO W h (hds ps) A o :=
 objE ok S K r (show (objOf cx σ v).bind some = some o by rw [e]; rfl) fun o' A J ro q=>⟨A,rfl,Option.some.inj q ▸ ro⟩
@[elab_as_elim] theorem sobE {cx : Cx} (ok : SoOk W cx.so) (S : SR W c m X σ ps h) (K : W.K.In h) {g : List Nat → Option β} {f : O → Option β} (r : VR (hds ps) v x) (e : sob cx σ v g f = some b) (ks : ∀ s t,v = .str s → s.length ≤ LIM → g s = some b → P (.str (toS s) t)) (k : ∀ o A,objOf cx σ v = some o → RO W h (hds ps) A o → f o = some b → P (.ref A)) : P x:=by
 cases r with
 | str s t hl=>exact ks s t rfl hl e
 | ref hA=>exact objE ok S K (.ref hA) e k
 | sref a=>exact objE ok S K (.sref a) e k
 | frz hz=>exact objE ok S K (.frz hz) e k
 | _=>exact noE e
end
end
section
open SeqAt
section
variable {W : Wd} {A : Around} {s : Shared}
theorem toS_beq (x y : List Nat) : (toS x == toS y) = (x == y):=by
 by_cases h : x = y
 ·subst h; simp
 ·have : ¬ toS x = toS y:=fun q=>h (by have:=congrArg (fun z : Str=>z.cps.toList) q; simpa [toS] using this)
  rw [beq_eq_false_iff_ne.mpr this,beq_eq_false_iff_ne.mpr h]
theorem toS_inj {x y : List Nat} (q : toS x = toS y) : x = y:=by have:=congrArg (fun z : Str=>z.cps.toList) q; simpa [toS] using this
theorem toS_list (x : List Nat) : (toS x).cps.toList = x:=by simp [toS]
theorem toS_len (x : List Nat) : (toS x).length = x.length:=by simp [toS,Str.length]
theorem ofS_toS (x : List Nat) : ofS (toS x) = x:=by simp [toS,ofS]
theorem toS_ofS (x : Str) : toS (ofS x) = x:=by cases x; simp [toS,ofS]
theorem toS_app (x y : List Nat) : toS x ++ toS y = toS (x ++ y):=by
 have : (toS (ofS (toS x ++ toS y))) = toS (x ++ y):=by
  congr 1
  show (toS x ++ toS y).cps.toList = x ++ y
  rw [show (toS x ++ toS y).cps = (toS x).cps ++ (toS y).cps from Str.cps_append _ _]
  simp [toS]
 rw [toS_ofS] at this; exact this
theorem eqS_ok {hs : HS} {a b : V} {x y : Value} {r : Bool} (ra : VR hs a x) (rb : VR hs b y) (e : eqS a b = some r) : EqAt A s x y r ∧ RcAt A s x y r ∧ RcNeAt A s x y (!r):=by
 cases ra with
 | none=>cases rb with
  | none=>exact sm1' e ⟨EqAt.same _,RcAt.none_none,RcNeAt.none_none⟩
  | int=>exact sm1' e ⟨EqAt.none_int _ _,RcAt.none_int _ _,RcNeAt.none_int _ _⟩
  | str=>exact sm1' e ⟨EqAt.none_str _ _,RcAt.none_str _ _,RcNeAt.none_str _ _⟩
  | _=>exact noE e
 | bool=>cases rb with
  | bool=>exact sm1' e ⟨EqAt.bool_bool _ _,RcAt.bool_bool _ _,RcNeAt.bool_bool _ _⟩
  | _=>exact noE e
 | int=>cases rb with
  | none=>exact sm1' e ⟨EqAt.int_none _ _,RcAt.int_none _ _,RcNeAt.int_none _ _⟩
  | int=>exact sm1' e ⟨EqAt.int_int _ _ _ _,RcAt.int_int _ _ _ _,RcNeAt.int_int _ _ _ _⟩
  | str=>exact sm1' e ⟨EqAt.int_str _ _ _ _,RcAt.int_str _ _ _ _,RcNeAt.int_str _ _ _ _⟩
  | _=>exact noE e
 | str=>cases rb with
  | none=>exact sm1' e ⟨EqAt.str_none _ _,RcAt.str_none _ _,RcNeAt.str_none _ _⟩
  | int=>exact sm1' e ⟨EqAt.str_int _ _ _ _,RcAt.str_int _ _ _ _,RcNeAt.str_int _ _ _ _⟩
  | str=>exact sm1' e (toS_beq _ _ ▸ ⟨EqAt.str_str _ _ _ _,RcAt.str_str _ _ _ _,RcNeAt.str_str _ _ _ _⟩)
  | _=>exact noE e
 | _=>exact noE e
theorem eqL_spec {f : V → V → Option Bool} : ∀ {vs ws : List V} {r : Bool},eqL f vs ws = some r → vs.length = ws.length ∧ ∃ bs : List Bool,bs.length = vs.length ∧ r = bs.all id ∧ ∀ (j : Nat) (v w : V),vs[j]? = some v → ws[j]? = some w → f v w = some (bs.getD j true)
 | [],[],r,e=>by cases e; exact ⟨rfl,[],rfl,rfl,fun j v w h=>by simp at h⟩
 | [],_ :: _,r,e=>by cases e
 | _ :: _,[],r,e=>by cases e
 | a :: l,b :: t,r,e=>by
  obtain ⟨x,hx,e⟩:=Option.bind_eq_some_iff.mp (show ((f a b).bind fun x=>(eqL f l t).map fun y=>x && y) = some r from e)
  obtain ⟨y,hy,rfl⟩:=Option.map_eq_some_iff.mp e
  obtain ⟨h1,bs,h2,rfl,h3⟩:=eqL_spec hy
  refine ⟨by simp [h1],x :: bs,by simp [h2],by simp,fun j v w hv hw=>?_⟩
  cases j with
  | zero=>simp at hv hw; subst hv hw; simpa using hx
  | succ j=>simp at hv hw; simpa using h3 j v w hv hw
theorem all_getD : ∀ (bs : List Bool),(List.range bs.length).all (fun j=>bs.getD j true) = bs.all id:=by
 intro bs
 rw [Bool.eq_iff_iff]
 simp only [List.all_eq_true,List.mem_range,id]
 constructor
 ·intro h b hb
  obtain ⟨j,hj,rfl⟩:=List.mem_iff_getElem.mp hb
  have:=h j hj
  rwa [List.getD_eq_getElem?_getD,List.getElem?_eq_getElem hj] at this
 ·intro h j hj
  rw [List.getD_eq_getElem?_getD,List.getElem?_eq_getElem hj]
  exact h _ (List.getElem_mem hj)
theorem items_eq {hs : HS} {f : V → V → Option Bool} {F : Value → Value → Bool → Prop} (hf : ∀ {v w : V} {x y : Value} {r : Bool},VR hs v x → VR hs w y → f v w = some r → F x y r) {vs ws : List V} {its its' : List Value} (i1 : All2 (VR hs) vs its) (i2 : All2 (VR hs) ws its') {r : Bool} (e : eqL f vs ws = some r) :
 ∃ e : Nat → Bool,its.toArray.size = its'.toArray.size ∧ (∀ j (h1 : j < its.toArray.size) (h2 : j < its'.toArray.size),F its.toArray[j] its'.toArray[j] (e j)) ∧ (List.range its.toArray.size).all e = r:=by
 obtain ⟨len,bs,hb1,hb2,hb3⟩:=eqL_spec e
 refine ⟨fun j=>bs.getD j true,by simp [← i1.len,← i2.len,len],fun j h1 h2=>?_,by rw [hb2,← all_getD bs,hb1,i1.len]; simp⟩
 have l1 : j < vs.length:=by rw [i1.len]; simpa using h1
 have l2 : j < ws.length:=by rw [i2.len]; simpa using h2
 obtain ⟨v',hv',rv⟩:=i1.get (List.getElem?_eq_getElem l1)
 obtain ⟨w',hw',rw_⟩:=i2.get (List.getElem?_eq_getElem l2)
 have z1 : its.toArray[j] = v':=by
  have:=List.getElem?_eq_getElem (l:=its) (by simpa using h1); rw [hv'] at this; simpa using (Option.some.inj this).symm
 have z2 : its'.toArray[j] = w':=by
  have:=List.getElem?_eq_getElem (l:=its') (by simpa using h2); rw [hw'] at this; simpa using (Option.some.inj this).symm
 rw [z1,z2]
 exact hf rv rw_ (hb3 j _ _ (List.getElem?_eq_getElem l1) (List.getElem?_eq_getElem l2))
theorem size_ne {hs : HS} {vs ws : List V} {its its' : List Value} (i1 : All2 (VR hs) vs its) (i2 : All2 (VR hs) ws its') (n : ¬ vs.length = ws.length) : (its.toArray.size != its'.toArray.size) = true:=by simp [← i1.len,← i2.len,n]
theorem eqS_same {hs : HS} {a b : V} {x : Value} {r : Bool} (ra : VR hs a x) (rb : VR hs b x) (e : eqS a b = some r) : r = true:=by
 cases ra with
 | none=>cases rb with
  | none=>exact sm1' e rfl
  | _=>exact noE e
 | bool=>cases rb with
  | bool=>exact sm1' e (beq_self_eq_true _)
  | _=>exact noE e
 | int=>cases rb with
  | int=>exact sm1' e (beq_self_eq_true _)
  | _=>exact noE e
 | str s t h =>
  generalize hx : Value.str (toS s) t = x at rb
  cases rb with
  | str s' =>
   obtain rfl:=toS_inj (Value.str.inj hx).1
   exact sm1' e (beq_self_eq_true _)
  | bad=>exact noE e
  | _=>cases hx
 | _=>exact noE e
theorem eqL_same {hs : HS} {f : V → V → Option Bool} (hf : ∀ {a b x r},VR hs a x → VR hs b x → f a b = some r → r = true) {vs : List V} {its : List Value} (i : All2 (VR hs) vs its) : ∀ {ws : List V} {r : Bool},All2 (VR hs) ws its → eqL f vs ws = some r → r = true:=by
 induction i with
 | nil=>intro ws r j e; cases j; exact sm1' e rfl
 | cons h t ih =>
  intro ws r j e
  cases j with
  | cons h' t' =>
   refine bdE e fun x e1 e=>mpE e fun y e2=>?_
   rw [hf h h' e1,ih t' e2]; rfl
theorem All2.keys {hs : HS} {kvs : List (List Nat × V)} {ks : List (Str × Value)} (h : All2 (KV hs) kvs ks) : ks.map (·.1) = (kvs.map (·.1)).map toS:=by
 induction h with
 | nil=>rfl
 | cons h _ ih=>simp [ih,h.1]
theorem valueAt_of {hs : HS} {kvs : List (List Nat × V)} {ks : List (Str × Value)} (h : All2 (KV hs) kvs ks) (k : List Nat) : match getS k kvs with
 | none=>valueAt ks (toS k) = none
 | some v=>∃ x,valueAt ks (toS k) = some x ∧ VR hs v x:=by
 induction h with
 | nil=>rfl
 | @cons a b l mm h t ih =>
  obtain ⟨ka,va⟩:=a
  obtain ⟨kb,vb⟩:=b
  obtain ⟨h1,h2⟩:=h
  simp only at h1 h2
  subst h1
  by_cases q : ka = k
  ·subst q
   rw [show getS ka ((ka,va) :: l) = some va from if_pos rfl]
   exact ⟨vb,by simp [PySem.valueAt],h2⟩
  ·have q' : ¬ toS ka = toS k:=fun z=>q (toS_inj z)
   rw [show getS k ((ka,va) :: l) = getS k l from if_neg q]
   have : PySem.valueAt ((toS ka,vb) :: mm) (toS k) = PySem.valueAt mm (toS k):=by simp [PySem.valueAt,List.find?_cons,q']
   rw [this]; exact ih
theorem eqO_same {hs : HS} {h : Heap} {A : Addr} {f : V → V → Option Bool} (hf : ∀ {a b x r},VR hs a x → VR hs b x → f a b = some r → r = true) {o p : O} {r : Bool} (ro : RO W h hs A o) (rp : RO W h hs A p) (e : eqO f o p = some r) : r = true:=by
 cases o with
 | list vs =>
  refine oListE e fun ws q e=>?_
  subst q
  obtain ⟨its,n,g1,i1,_⟩:=ro
  obtain ⟨its',n',g2,i2,_⟩:=rp
  obtain rfl : its = its':=by have q:=congrArg (Option.map Obj.data) (g1.symm.trans g2); exact congrArg Array.toList (Data.seq.inj (Option.some.inj q)).1
  exact ifE e (fun J e=>eqL_same hf i1 i2 e) fun n J=>absurd (i1.len.trans i2.len.symm) n
 | tuple vs=>cases p with
  | tuple ws =>
   obtain ⟨its,n,g1,i1,_⟩:=ro
   obtain ⟨its',n',g2,i2,_⟩:=rp
   cases g1.symm.trans g2
   exact gdE e fun J e=>eqL_same hf i1 i2 e
  | _=>exact noE e
 | _=>exact noE e
theorem eqV_same {c : Fc} {m : Str → Option Value} {X : List (Addr × Obj)} {σ : St} {ps : PZ} {h : Heap} (S : SR W c m X σ ps h) : ∀ (k : Nat) {a b : V} {x : Value} {r : Bool},VR (hds ps) a x → VR (hds ps) b x → eqV σ k a b = some r → r = true
 | 0,_,_,_,_,_,_,e=>noE e
 | k + 1,a,b,x,r,ra,rb,e=>by
  have obj : (obF σ a).bind (fun o=>(obF σ b).bind fun p=>eqO (eqV σ k) o p) = some r → r = true:=fun e=>by
   revert rb
   refine obfE S ra e fun o A J ro e rb=>?_
   generalize hx : Value.ref A = x at rb
   revert hx
   refine obfE S rb e fun p B J rp e q=>?_
   cases q
   exact eqO_same (eqV_same S k) ro rp e
  cases a with
  | ref _=>exact obj e
  | frz _=>exact obj e
  | none=>exact eqS_same ra rb e
  | bool b=>exact eqS_same ra rb e
  | int b=>exact eqS_same ra rb e
  | str b=>exact eqS_same ra rb e
  | _=>exact noE e
end
end
section
open SeqAt
section
variable {W : Wd} {c : Fc} {m : Str → Option Value} {X : List (Addr × Obj)} {σ : St} {ps : PZ} {h : Heap}
theorem eqV_ok (S : SR W c m X σ ps h) : ∀ (k : Nat) {a b : V} {x y : Value} {r : Bool} {A : Around} {s : Shared},s.heap = h → VR (hds ps) a x → VR (hds ps) b y → eqV σ k a b = some r → A.units + k < cLine →
 EqP W A s x y r ∧ RcP W A s x y r:=by
 intro k
 induction k with
 | zero=>intro _ _ _ _ _ _ _ _ _ _ e _; exact noE e
 | succ k ih =>
  intro a b x y r A s hs ra rb e hu
  have hu1 : A.units < cLine:=Nat.lt_of_le_of_lt (Nat.le_add_right _ _) hu
  have hu2 : A.in1.units + k < cLine:=by show A.units + 1 + k < cLine; lia
  have plain : eqS a b = some r → EqP W A s x y r ∧ RcP W A s x y r:=fun e=>⟨EqP.of (eqS_ok ra rb e).1,RcP.of (eqS_ok ra rb e).2.1⟩
  subst hs
  have obj : (obF σ a).bind (fun o=>(obF σ b).bind fun p=>eqO (eqV σ k) o p) = some r → EqP W A s x y r ∧ RcP W A s x y r:=fun e0=>by
   have re:=fun (z : x = y)=>eqV_same S (k + 1) ra (z ▸ rb) e
   clear e plain
   revert rb re
   refine obfE S ra e0 fun o A1 J ro e rb re=>?_
   revert re
   refine obfE S rb e fun o' A2 J ro' e re=>?_
   have key : RcP W A s (.ref A1) (.ref A2) r:=by
    cases o with
    | list vs =>
     refine oListE e fun ws q e=>?_
     subst q
     obtain ⟨its,n,g1,i1,_⟩:=ro
     obtain ⟨its',n',g2,i2,_⟩:=ro'
     refine ifE e (fun len e=>?_) fun len e=>sm1' e (RcP.of (RcAt.lists_lengths ⟨_,g1,rfl,_,rfl⟩ ⟨_,g2,rfl,_,rfl⟩ (size_ne i1 i2 len) hu1))
     obtain ⟨f,sz,hf,rfl⟩:=items_eq (F:=EqP W A.in1 s) (fun u v z=>(ih rfl u v z hu2).1) i1 i2 e
     exact RcP.lists sz g1 g2 hu1 hf
    | tuple vs =>
     cases o' with
     | tuple ws =>
      obtain ⟨its,n,g1,i1,_⟩:=ro
      obtain ⟨its',n',g2,i2,_⟩:=ro'
      refine gdE e fun len e=>?_
      obtain ⟨f,sz,hf,rfl⟩:=items_eq (F:=EqP W A.in1 s) (fun u v z=>(ih rfl u v z hu2).1) i1 i2 e
      exact RcP.tuples sz g1 g2 hu1 hf
     | _=>exact noE e
    | _=>exact noE e
   refine ⟨?_,key⟩
   by_cases same : A1 = A2
   ·subst same
    exact re rfl ▸ EqP.of (EqAt.same _)
   ·exact EqP.refs same key
  cases a with
  | ref _=>exact obj e
  | frz _=>exact obj e
  | none=>exact plain e
  | bool _=>exact plain e
  | int _=>exact plain e
  | str _=>exact plain e
  | _=>exact noE e
end
end
section
open SeqAt
noncomputable def opC : COp → CmpOp
 | .eq=>.Eq | .ne=>.NotEq | .lt=>.Lt | .le=>.LtE | .gt=>.Gt | .ge=>.GtE | .isin=>.In | .notin=>.NotIn | .is=>.Is | .isnot=>.IsNot
section
variable {W : Wd} {c : Fc} {m : Str → Option Value} {X : List (Addr × Obj)} {σ : St} {ps : PZ} {h : Heap} {g : Array GenState} {dr : Drawn} {tk : Nat} {os : OsState} {A : Around} {E : Value → Shared → Prop}
theorem neV_ok (S : SR W c m X σ ps h) {k : Nat} {a b : V} {x y : Value} {r : Bool} {s : Shared} (hs : s.heap = h) (ra : VR (hds ps) a x) (rb : VR (hds ps) b y) (e : neV σ k a b = some r) (hu : A.units + k + 1 < cLine) :
 RnP W A s x y r:=by
 have hu1 : A.units < cLine:=Nat.lt_of_le_of_lt (Nat.le_trans (Nat.le_add_right _ _) (Nat.le_succ _)) hu
 have hu2 : A.in1.units + k < cLine:=by show A.units + 1 + k < cLine; lia
 have plain : ((eqS a b).map fun r=>!r) = some r → RnP W A s x y r:=fun e=>by
  refine mpE e fun z e=>?_
  exact fun E Q hq=>(eqS_ok (A:=A) (s:=s) ra rb e).2.2 W.prog W.w E Q hq
 subst hs
 have obj : (obF σ a).bind (fun o=>(obF σ b).bind fun p=>neO (eqV σ k) o p) = some r → RnP W A s x y r:=fun e0=>by
  clear e plain
  revert rb
  refine obfE S ra e0 fun o A1 J ro e rb=>obfE S rb e fun o' A2 J ro' e=>?_
  cases o with
  | tuple vs =>
   cases o' with
   | tuple ws =>
    obtain ⟨its,n,g1,i1,_⟩:=ro
    obtain ⟨its',n',g2,i2,_⟩:=ro'
    refine gdE e fun len e=>mpE e fun z e=>?_
    obtain ⟨f,sz,hf,rfl⟩:=items_eq (F:=EqP W A.in1 s) (fun u v z=>(eqV_ok S k rfl u v z hu2).1) i1 i2 e
    exact RnP.tuples sz g1 g2 hu1 hf
   | _=>exact noE e
  | _=>exact noE e
 cases a with
 | ref _=>exact obj e
 | frz _=>exact obj e
 | none=>exact plain e
 | bool _=>exact plain e
 | int _=>exact plain e
 | str _=>exact plain e
 | _=>exact noE e
noncomputable def unV : Value → Option V
 | .none=>some .none
 | .bool b=>some (.bool b)
 | .int i _=>some (.int i)
 | .str s _=>some (.str (ofS s))
 | _=>none
theorem eqS_un {hs : HS} {a b : V} {x : Value} {r : Bool} (ra : VR hs a x) (e : eqS a b = some r) : unV x = some a:=by
 cases ra with
 | none=>rfl
 | bool=>rfl
 | int=>rfl
 | str s t h=>exact congrArg (some ∘ V.str) (ofS_toS s)
 | _=>exact noE e
noncomputable def hitB (a : V) (y : Value) : Bool:=match unV y with
 | some v=>(eqS v a).getD false
 | none=>false
theorem inL_spec {hs : HS} {a : V} {x : Value} (ra : VR hs a x) {s : Shared} {vs : List V} {its : List Value} (i : All2 (VR hs) vs its) : ∀ {r : Bool},inL a vs = some r → its.any (hitB a) = r ∧ ∀ y ∈ its,EqAt A s y x (hitB a y):=by
 induction i with
 | nil=>intro r e; cases e; exact ⟨rfl,fun y hy=>by simp at hy⟩
 | @cons v y l mm h t ih =>
  intro r e
  obtain ⟨b,hb,e⟩:=Option.bind_eq_some_iff.mp (show ((eqS v a).bind fun b=>(inL a l).map fun d=>b || d) = some r from e)
  obtain ⟨d,hd,rfl⟩:=Option.map_eq_some_iff.mp e
  obtain ⟨i1,i2⟩:=ih hd
  have hy : hitB a y = b:=by
   unfold hitB
   rw [eqS_un h hb]
   show (eqS v a).getD false = b
   rw [hb]; rfl
  refine ⟨by simp [hy,i1],fun z hz=>?_⟩
  rcases List.mem_cons.mp hz with rfl | hz
  ·rw [hy]; exact (eqS_ok h ra hb).1
  ·exact i2 z hz
theorem isN_ok {hs : HS} {a : V} {x : Value} {r : Bool} (ra : VR hs a x) (e : isN a = some r) : x = .none ∧ r = true ∨ (x ≠ .none ∧ PySem.plainIs x .none = true ∧ r = false):=by
 cases ra with
 | none=>exact sm1' e (.inl ⟨rfl,rfl⟩)
 | int=>exact sm1' e (.inr ⟨(nomatch ·),rfl,rfl⟩)
 | str=>exact sm1' e (.inr ⟨(nomatch ·),rfl,rfl⟩)
 | ref=>exact sm1' e (.inr ⟨(nomatch ·),rfl,rfl⟩)
 | frz=>exact sm1' e (.inr ⟨(nomatch ·),rfl,rfl⟩)
 | _=>exact noE e
theorem getS_isSome {hs : HS} {kvs : List (List Nat × V)} {ks : List (Str × Value)} (i1 : All2 (KV hs) kvs ks) (key : List Nat) : (PySem.valueAt ks (toS key)).isSome = (getS key kvs).isSome:=by
 have z:=valueAt_of i1 key
 cases q : getS key kvs with
 | none=>rw [q] at z; rw [z]; rfl
 | some v=>rw [q] at z; obtain ⟨x,hx,_⟩:=z; rw [hx]; rfl
theorem inV_ok {cx : Cx} (ok : SoOk W cx.so) (S : SR W c m X σ ps h) (K : W.K.In h) {a b : V} {x y : Value} {r : Bool} {Q : Value → Shared → Prop}
 (ra : VR (hds ps) a x) (rb : VR (hds ps) b y) (e : inV cx σ a b = some r) (ht : 1 ≤ tk) : ((∀ t,1 ≤ t → Q (.bool r) ⟨h,g,dr,t,os⟩) → wpAny (model W.prog W.w) A (compareOp .In x y) Q E ⟨h,g,dr,tk,os⟩) ∧
 ((∀ t,1 ≤ t → Q (.bool (!r)) ⟨h,g,dr,t,os⟩) → wpAny (model W.prog W.w) A (compareOp .NotIn x y) Q E ⟨h,g,dr,tk,os⟩):=by
 refine sobE ok S K rb e (fun s t J J e=>strE ra e fun s' t' J e=>sm1' e ⟨fun k=>PyProof.Rows.in_str (k tk ht),fun k=>PyProof.Rows.notIn_str (k tk ht)⟩) fun o A' J ro e=>?_
 cases o with
 | list vs =>
  obtain ⟨its,n,hA,i1,_⟩:=ro
  obtain ⟨rfl,q2⟩:=inL_spec (A:=A.in1) (s:=⟨h,g,dr,tk,os⟩) ra i1 e
  exact ⟨fun k=>in_listAt (items:=its.toArray) (hitB a) ⟨_,hA,rfl,_,rfl⟩ (fun y hy=>q2 y (by simpa using hy)) (by rw [← Array.any_toList]; exact k tk ht),
   fun k=>notIn_listAt (items:=its.toArray) (hitB a) ⟨_,hA,rfl,_,rfl⟩ (fun y hy=>q2 y (by simpa using hy)) (by rw [← Array.any_toList]; exact k tk ht)⟩
 | tuple vs =>
  obtain ⟨its,n,hA,i1,_⟩:=ro
  obtain ⟨rfl,q2⟩:=inL_spec (A:=A.in1) (s:=⟨h,g,dr,tk,os⟩) ra i1 e
  exact ⟨fun k=>in_tupleAt (items:=its.toArray) (hitB a) ⟨_,hA,rfl,_,rfl⟩ (fun y hy=>q2 y (by simpa using hy)) (by rw [← Array.any_toList]; exact k tk ht),
   fun k=>notIn_tupleAt (items:=its.toArray) (hitB a) ⟨_,hA,rfl,_,rfl⟩ (fun y hy=>q2 y (by simpa using hy)) (by rw [← Array.any_toList]; exact k tk ht)⟩
 | dict kvs =>
  obtain ⟨ks,ob,hA,d1,i1,b1,y1⟩:=ro
  refine strE ra e fun key t hl e=>?_
  have D : h.DictOf (strKind W.prog W.w) A' ks:=Heap.dictOf_iff.mpr ⟨_,hA,d1⟩
  have z:=getS_isSome i1 key
  exact sm1' e ⟨fun k=>wpAny_in_of (k:=toS key) (beq_self_eq_true _) y1 D.mapOf (by rw [z]; exact k _ (Nat.le_add_left 1 tk)),fun k=>wpAny_notIn_of (k:=toS key) (beq_self_eq_true _) y1 D.mapOf (by rw [z]; exact k _ (Nat.le_add_left 1 tk))⟩
 | _=>exact noE e
theorem cmp_ok {cx : Cx} (ok : SoOk W cx.so) (S : SR W c m X σ ps h) (K : W.K.In h) {op : COp} {a b : V} {x y : Value} {r : Bool} {Q : Value → Shared → Prop}
 (ra : VR (hds ps) a x) (rb : VR (hds ps) b y) (e : cmpV cx σ op a b = some r) (hu : A.units + 30 < cLine) (ht : 1 ≤ tk)
 (k : ∀ t,1 ≤ t → Q (.bool r) ⟨h,g,dr,t,os⟩) : wpAny (model W.prog W.w) A (compareOp (opC op) x y) Q E ⟨h,g,dr,tk,os⟩:=by
 have k0:=k tk ht
 have hu1 : A.units + eqD + 1 < cLine:=Nat.lt_of_le_of_lt (Nat.add_le_add_left (show eqD + 1 ≤ 30 by decide) _) hu
 cases op with
 | eq=>exact (eqV_ok S eqD rfl ra rb e (Nat.lt_of_succ_lt hu1)).2 E Q k0
 | ne=>exact neV_ok S rfl ra rb e hu1 E Q k0
 | lt=>cases ra with
  | int=>exact intE rb e fun j u e=>PyProof.Rows.lt_int (sm1 e k0)
  | str=>exact strE rb e fun j u J e=>PySem.P.lt_str (by rw [toS_list,toS_list]; exact sm1 e k0)
  | _=>exact noE e
 | gt=>exact intE ra e fun i t e=>intE rb e fun j u e=>PyProof.Rows.gt_int (sm1 e k0)
 | le=>cases ra with
  | int=>exact intE rb e fun j u e=>PyProof.Rows.le_int (sm1 e k0)
  | str=>exact strE rb e fun j u J e=>PySem.P.le_str (by rw [toS_list,toS_list]; exact sm1 e k0)
  | _=>exact noE e
 | ge=>exact intE ra e fun i t e=>intE rb e fun j u e=>PyProof.Rows.ge_int (sm1 e k0)
 | is=>cases rb with
  | none=>rcases isN_ok ra e with ⟨rfl,rfl⟩ | ⟨n,p,rfl⟩
          ·exact wpAny_is_self rfl k0
          ·exact wpAny_is_other p n k0
  | _=>exact noE e
 | isnot=>cases rb with
  | none=>revert k0
          refine mpE e fun z e k0=>?_
          rcases isN_ok ra e with ⟨rfl,rfl⟩ | ⟨n,p,rfl⟩
          ·exact wpAny_isNot_self rfl k0
          ·exact wpAny_isNot_other p n k0
  | _=>exact noE e
 | isin=>exact (inV_ok ok S K ra rb e ht).1 k
 | notin =>
  clear k0
  revert k
  exact mpE e fun z e=>(inV_ok ok S K ra rb e ht).2
end
end
section
theorem pick_range {α : Type} (l : List α) : ∀ (n i : Nat),(List.range' i n).filterMap (l[·]?) = (l.drop i).take n
 | 0,i=>by simp
 | n + 1,i=>by
  rw [List.range'_succ,List.filterMap_cons,pick_range l n (i + 1)]
  by_cases h : i < l.length
  ·rw [List.getElem?_eq_getElem h,List.drop_eq_getElem_cons h,List.take_succ_cons]
  ·have h' : l.length ≤ i:=Nat.le_of_not_lt h
   rw [List.getElem?_eq_none h',List.drop_eq_nil_of_le h',List.drop_eq_nil_of_le (by lia)]
   simp
theorem srange (i j : Nat) : sliceRange (i : Int) (j : Int) 1 = List.range' i (j - i):=by
 unfold sliceRange
 simp only [show (1 : Int) > 0 by decide,if_true]
 have e : ((if (i : Int) < (j : Int) then ((j : Int) - i + 1 - 1) / 1 else 0) : Int).toNat = j - i:=by
  by_cases q : (i : Int) < (j : Int)
  ·rw [if_pos q,Int.ediv_one,Int.add_sub_cancel]; exact Int.toNat_sub j i
  ·rw [if_neg q]; exact (Nat.sub_eq_zero_of_le (Int.ofNat_le.mp (Int.not_lt.mp q))).symm
 simp only [e]
 rw [List.range_eq_range',List.range'_eq_map_range (n:=j - i) (s:=i)]
 rw [← List.range_eq_range']
 apply List.map_congr_left
 intro k _
 lia
theorem clip_eq (n : Nat) (i : Int) : max 0 (min (if i < 0 then i + n else i) (n : Int)) = ((clampI n i : Nat) : Int):=by
 show max 0 (min (if i < 0 then i + n else i) n) = (((if i < 0 then (i + n).toNat else min i.toNat n) : Nat) : Int)
 by_cases h : i < 0
 ·rw [if_pos h,if_pos h,Int.min_eq_left (by lia),Int.toNat_eq_max,Int.max_comm]
 ·rw [if_neg h,if_neg h]
  obtain ⟨m,rfl⟩:=Int.eq_ofNat_of_zero_le (Int.not_lt.mp h)
  show max 0 (min (m : Int) n) = ((min m n : Nat) : Int)
  rcases Nat.le_total m n with q | q
  ·rw [Nat.min_eq_left q,Int.min_eq_left (Int.ofNat_le.mpr q)]; exact Int.max_eq_right (Int.natCast_nonneg m)
  ·rw [Nat.min_eq_right q,Int.min_eq_right (Int.ofNat_le.mpr q)]; exact Int.max_eq_right (Int.natCast_nonneg n)
inductive PartR : V → Option Int → Prop
 | none : PartR .none none
 | int (i : Int) : PartR (.int i) (some i)
theorem str_idx {n : Nat} {l u : V} {pl pu : Option Int} {i j : Nat} (rl : PartR l pl) (ru : PartR u pu) (el : sliceLo n l = some i) (eu : sliceHi n u = some j) : Builtin.Str.strSliceIndices pl pu 1 n = List.range' i (j - i):=by
 cases rl <;> cases ru <;> obtain rfl:=Option.some.inj el <;> obtain rfl:=Option.some.inj eu <;> unfold Builtin.Str.strSliceIndices <;>
  simp only [show (1 : Int) > 0 by decide,if_true,clip_eq] <;> first | exact srange _ _ | exact srange 0 _
theorem list_pick {items : List Value} {l u : V} {pl pu : Option Int} {i j : Nat} (rl : PartR l pl) (ru : PartR u pu) (el : sliceLo items.length l = some i) (eu : sliceHi items.length u = some j) : slicePick items.toArray pl pu none = (cut items i j).toArray:=by
 have f : (fun x : Nat=>items.toArray[x]?) = fun x=>items[x]?:=by funext x; simp
 have key : ∀ (x y : Int),x = (i : Int) → y = (j : Int) → ((sliceRange x y 1).filterMap (items.toArray[·]?)).toArray = (cut items i j).toArray:=by
  intro x y hx hy
  rw [hx,hy,f,srange,pick_range]; rfl
 cases rl <;> cases ru <;> obtain rfl:=Option.some.inj el <;> obtain rfl:=Option.some.inj eu <;> refine key _ _ ?_ ?_ <;>
  first | exact clip_eq _ _ | rfl
section
variable {W : Wd} {c : Fc} {m : Str → Option Value} {X : List (Addr × Obj)} {σ : St} {ps : PZ} {h : Heap} {g : Array GenState} {dr : Drawn} {tk : Nat} {os : OsState} {A : Around} {E : Value → Shared → Prop}
abbrev Hand (W : Wd) (c : Fc) (m : Str → Option Value) (X : List (Addr × Obj)) (hs : HS) (σ' : St) (v : V) (g : Array GenState) (dr : Drawn) (os : OsState) (Q : Value → Shared → Prop) : Prop :=
 ∀ ps' h' t' y,hs.Le (hds ps') → SR W c m X σ' ps' h' → VR (hds ps') v y → 1 ≤ t' → Q y ⟨h',g,dr,t',os⟩
theorem Hand.stay {v : V} {y : Value} {t : Nat} {Q : Value → Shared → Prop} (k : Hand W c m X (hds ps) σ v g dr os Q) (S : SR W c m X σ ps h) (r : VR (hds ps) v y) (ht : 1 ≤ t) : Q y ⟨h,g,dr,t,os⟩:=k ps h t y (.rfl) S r ht
theorem Hand.eq {hs : HS} {a v : V} {s σ' : St} {Q : Value → Shared → Prop} (k : Hand W c m X hs σ' v g dr os Q) (e : some (a,s) = some (v,σ')) : Hand W c m X hs s a g dr os Q:=pE (fun a s=>Hand W c m X hs s a g dr os Q) e k
theorem Hand.up {hs : HS} {v : V} {s : St} {Q : Value → Shared → Prop} {ps1 : PZ} (k : Hand W c m X hs s v g dr os Q) (p : hs.Le (hds ps1)) : Hand W c m X (hds ps1) s v g dr os Q:=fun ps h t y q S r ht=>k ps h t y (p.trans q) S r ht
theorem lim_line {n : Nat} (h : n ≤ LIM + LIM) : n ≤ sizeLine:=by rw [sizeLine_eq]; unfold LIM at h; lia
theorem lim63 {n : Nat} (h : n ≤ LIM + LIM) : (n : Int) < 2 ^ 63:=by unfold LIM at h; lia
theorem tk1 {t : Nat} (k : Nat) (h : 1 ≤ t) : 1 ≤ t + k:=Nat.le_trans h (Nat.le_add_right t k)
theorem truthy_ok {cx : Cx} (ok : SoOk W cx.so) (S : SR W c m X σ ps h) (K : W.K.In h) {v : V} {x : Value} {r : Bool} {Q : Bool → Shared → Prop}
 (ra : VR (hds ps) v x) (e : truthyV cx σ v = some r) (ht : 1 ≤ tk)
 (k : ∀ t,1 ≤ t → Q r ⟨h,g,dr,t,os⟩) : wpAny (model W.prog W.w) A (truthy x) Q E ⟨h,g,dr,tk,os⟩:=by
 have obj : ∀ o A',objOf cx σ v = some o → RO W h (hds ps) A' o → trO o = some r → wpAny (model W.prog W.w) A (truthy (.ref A')) Q E ⟨h,g,dr,tk,os⟩:=fun o A' J ro e=>by
  cases o with
  | list vs =>
   obtain ⟨its,n,hA,i1,hn⟩:=ro
   refine wpAny_truthy_list (items:=its.toArray) ⟨_,hA,rfl,_,rfl⟩ (by rw [List.size_toArray,← i1.len]; exact lim63 hn) ?_
   have : (!its.toArray.isEmpty) = !vs.isEmpty:=by cases i1 <;> rfl
   rw [this]
   exact sm1 e (k _ (tk1 2 ht))
  | meth f self =>
   obtain ⟨y,hA,_⟩:=ro
   have ty : Looks (model W.prog W.w) h (typeOf (.ref A')) (.type "method"):=(Looks.ld hA).andThen .now
   have n1 : typeLookup (.type "method") "__bool__" = pure none:=by rw [typeLookup_type,builtinLookup_eq_fast]; kernel_rfl
   have n2 : typeLookup (.type "method") "__len__" = pure none:=by rw [typeLookup_type,builtinLookup_eq_fast]; kernel_rfl
   unfold truthy
   exact wpAny_bind (m:=callSpecial? (.ref A') (Str.ofString "__bool__")) (wpAny_bind (wpAny_bind (ty.at ((Looks.of_pure n1).at (wpAny_pure (wpAny_bind (wpAny_bind (ty.at ((Looks.of_pure n2).at (wpAny_pure (sm1 e (k tk ht))))))))))))
  | _=>exact noE e
 cases ra with
 | none=>exact PyProof.Rows.truthy_none (sm1 e (k tk ht))
 | bool=>exact wpAny_truthy_bool (sm1 e (k tk ht))
 | int i t =>
  have : (i != 0) = decide (i ≠ 0):=by simp [bne,Bool.beq_eq_decide_eq]
  exact PyProof.Rows.truthy_int (by rw [this]; exact sm1 e (k tk ht))
 | str s t hl =>
  refine PySem.P.truthy_str (by rw [toS_len]; exact Int.not_le.mpr (lim63 (Nat.le_trans hl (Nat.le_add_right _ _)))) ?_
  have : ((((toS s).length : Nat) : Int) != 0) = !s.isEmpty:=by rw [toS_len]; cases s with | nil=>rfl | cons a l=>exact bne_iff_ne.mpr (fun q=>Nat.succ_ne_zero l.length (Int.ofNat.inj q))
  rw [this]
  exact sm1 e (k _ (tk1 2 ht))
 | ref hA=>exact objE ok S K (.ref hA) e obj
 | sref a=>exact objE ok S K (.sref a) e obj
 | @frz o _ hz=>exact objE ok S K (.frz hz) (show (objOf cx σ (.frz o)).bind trO = some r from e) obj
 | bad=>exact noE e
end
end
section
structure ClsOk (W : Wd) (cx : Cx) : Prop where
 nd : W.tb.Nodup
 inst : ∀ cl f,cx.clsi cl f = true → ∃ x,W.tb[f]? = some x ∧ findIn W.K (.ref cl) x = some none ∧ takerIn W.K cl x = some none
 plain : ∀ cl f,(cx.clsi cl f = true ∨ (cx.clsm cl f).isSome = true ∨ (cx.clsv cl f).isSome = true) → (findIn W.K (.ref cl) "__getattribute__" = some (some (.builtin "object.__getattribute__")) ∧ findIn W.K (.ref cl) "__getattr__" = some none) ∧ hasDictIn W.K cl = true ∧
  findIn W.K (.ref cl) "__setattr__" = some (some (.builtin "object.__setattr__")) ∧ plainOver W.K cl = true
 meth : ∀ cl f g,cx.clsm cl f = some g → ∃ x,W.tb[f]? = some x ∧ findIn W.K (.ref cl) x = some (some (.ref g)) ∧ typeIn W.K (.ref g) = some (.type "function") ∧
  specialIn W.K (.ref g) "__get__" = some (some (.builtin "function.__get__")) ∧ takesIn W.K (.ref g) = some false ∧ copiedNames.contains x = false ∧ g < BIG
 val : ∀ cl f v,cx.clsv cl f = some v → ∃ x a,W.tb[f]? = some x ∧ findIn W.K (.ref cl) x = some (some a) ∧ specialIn W.K a "__get__" = some none ∧ handedIn a = true ∧ copiedNames.contains x = false ∧ VR .nil v a
section
variable {W : Wd} {c : Fc} {m : Str → Option Value} {X : List (Addr × Obj)} {σ : St} {ps : PZ} {h : Heap} {g : Array GenState} {dr : Drawn} {tk : Nat} {os : OsState} {A : Around} {E : Value → Shared → Prop}
theorem tb_inj {tb : List Str} (nd : tb.Nodup) {i j : Nat} {x : Str} (a : tb[i]? = some x) (b : tb[j]? = some x) : i = j :=
 (List.getElem?_inj (List.getElem?_eq_some_iff.mp a).1 nd).mp (a.trans b.symm)
theorem noRef {tb : List Str} {hs : HS} {fs : List (Nat × V)} {es : List DictEntry} (r : All2 (AV tb hs) fs es) : es.any (·.refKey) = false:=by
 induction r with
 | nil=>rfl
 | @cons a e l mm h _ ih =>
  obtain ⟨x,t,_,hk,_⟩:=h
  rw [List.any_cons,ih]
  have : DictEntry.refKey e = false:=by unfold DictEntry.refKey; rw [hk]
  rw [this]; rfl
theorem getL_of {tb : List Str} (nd : tb.Nodup) {hs : HS} {f : Nat} {x : Str} (hx : tb[f]? = some x) {fs : List (Nat × V)} {es : List DictEntry} (r : All2 (AV tb hs) fs es) : match getK f fs with
 | some v=>∃ y,getL x es = some (some y) ∧ VR hs v y
 | none=>getL x es = some none:=by
 have nr:=noRef r
 have key : match getK f fs with
  | some v=>∃ e,es.find? (·.key.isStr x) = some e ∧ VR hs v e.val
  | none=>es.find? (·.key.isStr x) = none:=by
  clear nr
  induction r with
  | nil=>rfl
  | @cons a e l mm h t ih =>
   obtain ⟨i,v⟩:=a
   obtain ⟨y,t',hy,hk,hv⟩:=h
   by_cases q : i = f
   ·subst q
    have hyx : y = x:=by rw [hx] at hy; exact (Option.some.inj hy).symm
    rw [gK1]
    refine ⟨e,?_,hv⟩
    rw [List.find?_cons]
    have : e.key.isStr x = true:=by rw [hk,hyx]; simp [Value.isStr]
    rw [this]
   ·have hyx : ¬ y = x:=fun z=>q (tb_inj nd (z ▸ hy) hx)
    rw [gK2 v l q]
    have : e.key.isStr x = false:=by rw [hk]; simp [Value.isStr,hyx]
    have e2 : (e :: mm).find? (·.key.isStr x) = mm.find? (·.key.isStr x):=by rw [List.find?_cons,this]
    rw [e2]
    exact ih
 unfold getL
 cases q : getK f fs with
 | some v =>
  rw [q] at key
  obtain ⟨e,he,hv⟩:=key
  rw [he]
  exact ⟨_,rfl,hv⟩
 | none =>
  rw [q] at key
  rw [key,nr]
  rfl
theorem handed_of {hs : HS} {v : V} {x : Value} (r : VR hs v x) : handedIn x = true:=by cases r <;> rfl
theorem ClsOk.name {cx : Cx} (co : ClsOk W cx) {cl f : Nat} {nm : Str} (hn : W.tb[f]? = some nm) (hc : cx.clsi cl f = true) : findIn W.K (.ref cl) nm = some none ∧ takerIn W.K cl nm = some none:=by
 obtain ⟨x',hx',hf⟩:=co.inst _ _ hc
 exact Option.some.inj (hx'.symm.trans hn) ▸ hf
theorem own_ok {cx : Cx} (co : ClsOk W cx) (K : W.K.In h) {v : V} {f : Nat} {nm : Str} {Q : Value → Shared → Prop} {ex : Bool} {hs : HS} {A1 D1 : Addr} {es : List DictEntry} {n1 cl : Nat} {fs : List (Nat × V)}
 (hn : W.tb[f]? = some nm) (h1 : h.get? A1 = some (instObj cl D1)) (h2 : h.get? D1 = some (dictOf es n1)) (i1 : All2 (AV W.tb hs) fs es) (hv : getK f fs = some v) (hc : cx.clsi cl f = true)
 (k : ∀ y,VR hs v y → Q y ⟨h,g,dr,tk + 1,os⟩) : wpAny (model W.prog W.w) A (getAttr (.ref A1) nm ex) Q E ⟨h,g,dr,tk,os⟩:=by
 have gl:=getL_of co.nd hn i1
 rw [hv] at gl
 obtain ⟨y,hy,ry⟩:=gl
 obtain ⟨⟨p1,p2⟩,p3,_,_⟩:=co.plain _ _ (.inl hc)
 have I : InstAt h A1 (instObj cl D1) cl (some (dictOf es n1)):=⟨h1,rfl,rfl,h2⟩
 exact get_value (s:=⟨h,g,dr,tk,os⟩) K I p1 (findObj_own p3 (co.name hn hc).1 rfl hy) (handed_of ry) (k y ry)
theorem find_meth {cl g' : Nat} {x' : Str} {es : List DictEntry} {n1 : Nat} (p3 : hasDictIn W.K cl = true) (hf : findIn W.K (.ref cl) x' = some (some (.ref g'))) (hg : specialIn W.K (.ref g') "__get__" = some (some (.builtin "function.__get__"))) (htk : takesIn W.K (.ref g') = some false) (gl : getL x' es = some none) (hcp : copiedNames.contains x' = false) :
 findObj W.K cl (some (dictOf es n1)) x' = some (.bind (.builtin "function.__get__") (.ref g')):=by
 obtain ⟨cd,hcd,hdd⟩:=any_some p3
 have ow : PySem.W.ownOf cd (some (dictOf es n1)) x' = some none:=by unfold PySem.W.ownOf; rw [if_pos hdd]; exact gl
 unfold findObj
 rw [hcd,Option.bind_some,hf,Option.bind_some]
 dsimp only
 rw [hg,Option.bind_some]
 dsimp only
 rw [htk,Option.bind_some]
 dsimp only
 rw [ow,Option.bind_some]
 dsimp only
 rw [hcp]
 rfl
theorem getAttr_ok {cx : Cx} (so : SoOk W cx.so) (co : ClsOk W cx) (S : SR W c m X σ ps h) (K0 : W.K.In c.base) {o v : V} {x : Value} {f : Nat} {nm : Str} {σ' : St} {Q : Value → Shared → Prop} {ex : Bool}
 (hn : W.tb[f]? = some nm) (ra : VR (hds ps) o x) (e : getAttrV cx o f σ = some (v,σ')) (ht : 1 ≤ tk)
 (k : Hand W c m X (hds ps) σ' v g dr os Q) : wpAny (model W.prog W.w) A (getAttr x nm ex) Q E ⟨h,g,dr,tk,os⟩:=by
 have K : W.K.In h:=K0.keeps S.F.base
 cases o with
 | ref a =>
  dsimp only [getAttrV] at e
  refine cellIE S ra e fun a' A1 D1 es n1 cl fs ha J hp h1 h2 i1 nd1 b1 e=>?_
  obtain rfl:=V.ref_inj ha
  unfold ownA at e
  cases hv : getK f fs with
  | some v' =>
   rw [hv] at e
   exact gdE e fun hc e=>own_ok co K hn h1 h2 i1 hv hc fun y ry=>(k.eq e).stay S ry (tk1 1 ht)
  | none =>
   rw [hv] at e
   have gl:=getL_of co.nd hn i1
   rw [hv] at gl
   cases hm : cx.clsm cl f with
   | some g' =>
    rw [hm] at e
    obtain ⟨x',hx',hf,hfn,hg,htk,hcp,_⟩:=co.meth _ _ _ hm
    obtain rfl:=Option.some.inj (hx'.symm.trans hn)
    obtain ⟨⟨p1,p2⟩,p3,_,_⟩:=co.plain cl f (.inr (.inl (congrArg Option.isSome hm)))
    have I : InstAt h A1 (instObj cl D1) cl (some (dictOf es n1)):=⟨h1,rfl,rfl,h2⟩
    refine get_bind (s:=⟨h,g,dr,tk,os⟩) K I p1 (find_meth p3 hf hg htk gl hcp) p2 (wpAny_call (fn_get (s:=⟨h,g,dr,tk + 1,os⟩) K hfn ?_))
    show wpAny _ _ (handedOut (.ref h.objs.size)) _ _ _
    rw [handedOut_of rfl]
    refine wpAny_pure (k.eq e _ _ (tk + 1) _ pre_snoc (S.push1 (ob:=methodObj (.ref g') (.ref A1)) (o:=.meth g' (.ref a)) rfl (.meth (VR.mono .add (.ref (hds_get hp))))) ?_ (tk1 1 ht))
    rw [hds_snoc]
    exact VR.last (hds_len.trans S.len.symm)
   | none =>
    rw [hm] at e
    cases q : cx.clsv cl f with
    | none=>rw [q] at e; exact noE e
    | some v' =>
    rw [q] at e
    obtain ⟨x',a',hx',hf,hg,hh,hcp,rv⟩:=co.val _ _ _ q
    obtain rfl:=Option.some.inj (hx'.symm.trans hn)
    obtain ⟨⟨p1,p2⟩,p3,_,_⟩:=co.plain cl f (.inr (.inr (congrArg Option.isSome q)))
    have I : InstAt h A1 (instObj cl D1) cl (some (dictOf es n1)):=⟨h1,rfl,rfl,h2⟩
    exact get_value (s:=⟨h,g,dr,tk,os⟩) K I p1 (findObj_cls p3 hf hg hh hcp gl) hh ((k.eq e).stay (t:=tk + 1) S (rv.mono .nil) (tk1 1 ht))
 | sref a =>
  cases ra
  refine bdE e fun o ho e1=>oInstE e1 fun cl fs q e=>?_
  subst q
  clear e1
  obtain ⟨es,D1,n1,h1,h2,i1,_⟩:=so.ro (hs:=hds ps) K ho
  unfold ownA at e
  cases hv : getK f fs with
  | some v' =>
   rw [hv] at e
   exact gdE e fun hc e=>own_ok co K hn h1 h2 i1 hv hc fun y ry=>(k.eq e).stay S ry (tk1 1 ht)
  | none=>rw [hv] at e; exact noE e
 | _=>exact noE e
theorem putL_of {tb : List Str} (nd : tb.Nodup) {hs : HS} {f : Nat} {x : Str} (hx : tb[f]? = some x) {v : V} {y : Value} {hsh : Int} {t : Tok} (rv : VR hs v y) {fs : List (Nat × V)} {es : List DictEntry} (r : All2 (AV tb hs) fs es) :
 All2 (AV tb hs) (putK f v fs) (putL x hsh (.str x t) y es):=by
 induction r with
 | nil=>exact .cons ⟨x,t,hx,rfl,rv⟩ .nil
 | @cons a e l mm h tl ih =>
  obtain ⟨i,w⟩:=a
  obtain ⟨z,t',hz,hk,hv⟩:=h
  by_cases q : i = f
  ·subst q
   have hzx : z = x:=by rw [hx] at hz; exact (Option.some.inj hz).symm
   have e1:=pK1 i v w l
   have e2 : putL x hsh (.str x t) y (e :: mm) = ⟨e.hash,e.key,y⟩ :: mm:=by
    have : e.key.isStr x = true:=by rw [hk,hzx]; simp [Value.isStr]
    simp [putL,this]
   rw [e1,e2]
   exact .cons ⟨z,t',hz,hk,rv⟩ tl
  ·have hzx : ¬ z = x:=fun w'=>q (tb_inj nd (w' ▸ hz) hx)
   have e1:=pK2 v w l q
   have e2 : putL x hsh (.str x t) y (e :: mm) = e :: putL x hsh (.str x t) y mm:=by
    have : e.key.isStr x = false:=by rw [hk]; simp [Value.isStr,hzx]
    simp [putL,this]
   rw [e1,e2]
   exact .cons ⟨z,t',hz,hk,hv⟩ ih
theorem putK_keys {β : Type} (k : Nat) (v : β) : ∀ l : List (Nat × β),(l.map (·.1)).Nodup → ((putK k v l).map (·.1)).Nodup ∧ (putK k v l).length ≤ l.length + 1 ∧ ∀ a ∈ (putK k v l).map (·.1),a = k ∨ a ∈ l.map (·.1)
 | [],_=>⟨List.nodup_cons.mpr ⟨List.not_mem_nil,List.nodup_nil⟩,Nat.le_refl _,fun a h=>.inl (List.mem_singleton.mp h)⟩
 | (i,w) :: r,nd=>by
  simp only [List.map_cons,List.nodup_cons] at nd
  by_cases q : i = k
  ·subst q
   rw [pK1]
   refine ⟨by simpa using nd,by simp,fun a ha=>?_⟩
   simpa using ha
  ·have e1:=pK2 v w r q
   obtain ⟨h1,h2,h3⟩:=putK_keys k v r nd.2
   rw [e1]
   refine ⟨?_,by simp; omega,fun a ha=>?_⟩
   ·simp only [List.map_cons,List.nodup_cons]
    exact ⟨fun z=>(h3 _ z).elim q nd.1,h1⟩
   ·simp only [List.map_cons,List.mem_cons] at ha ⊢
    rcases ha with rfl | ha
    ·exact .inr (.inl rfl)
    ·exact (h3 _ ha).elim .inl fun z=>.inr (.inr z)
theorem upd_split {D : Addr} {o o' : Obj} {R : List (Addr × Obj)} : ∀ {P : List (Addr × Obj)},((P ++ (D,o) :: R).map (·.1)).Nodup → Upd D o o' (P ++ (D,o) :: R) (P ++ (D,o') :: R)
 | [],nd=>by
  refine .head fun p hp q=>?_
  have nd' : (D :: R.map (·.1)).Nodup:=nd
  exact (List.nodup_cons.mp nd').1 (q ▸ List.mem_map_of_mem (f:=(·.1)) hp)
 | p :: r,nd=>by
  have nd' : (p.1 :: (r ++ (D,o) :: R).map (·.1)).Nodup:=nd
  refine .tail (fun q=>(List.nodup_cons.mp nd').1 ?_) (upd_split (List.nodup_cons.mp nd').2)
  rw [q]; simp
theorem upd_of {ps : PZ} {X : List (Addr × Obj)} (nd : ((ps.flatten ++ X).map (·.1)).Nodup) {a : Nat} {pre post : Part} {D : Addr} {o o' : Obj} (e : ps.p[a]? = some (pre ++ (D,o) :: post)) :
 Upd D o o' (ps.flatten ++ X) ((ps.set a (pre ++ (D,o') :: post)).flatten ++ X):=by
 obtain ⟨P,Q,h1,h2⟩:=flat_set (o':=o') e
 rw [h2]
 rw [h1] at nd ⊢
 rw [List.append_assoc,List.cons_append] at nd ⊢
 rw [List.append_assoc,List.cons_append]
 exact upd_split nd
theorem lim9 {n : Nat} (h : n ≤ LIMD) : n + 1 ≤ 900:=Nat.le_trans (Nat.succ_le_succ h) (by decide)
theorem setAttr_ok {cx : Cx} (co : ClsOk W cx) (S : SR W c m X σ ps h) (K0 : W.K.In c.base) {o v : V} {x y : Value} {f : Nat} {nm : Str} {σ' : St} {Q : Unit → Shared → Prop}
 (hn : W.tb[f]? = some nm) (ra : VR (hds ps) o x) (rv : VR (hds ps) v y) (e : setAttrV cx o f v σ = some σ') (ht : 1 ≤ tk)
 (k : ∀ ps' h' t',hds ps' = hds ps → SR W c m X σ' ps' h' → 1 ≤ t' → Q () ⟨h',g,dr,t',os⟩) : wpAny (model W.prog W.w) A (setAttr x nm y) Q E ⟨h,g,dr,tk,os⟩:=by
 refine cellIE S ra e fun a A1 D1 es n1 cl fs J J hp h1 h2 i1 nd1 b1 e=>gdE e fun hc e=>?_
 obtain ⟨hf,htk⟩:=co.name hn hc.1
 obtain ⟨⟨p1,p2⟩,p3,p4,p5⟩:=co.plain _ _ (.inl hc.1)
 have gl:=getL_of co.nd hn i1
 have gs : (getL nm es).isSome = true:=by
  cases q : getK f fs with
  | none=>rw [q] at gl; rw [gl]; rfl
  | some v'=>rw [q] at gl; obtain ⟨y',hy',_⟩:=gl; rw [hy']; rfl
 have hp' : ps.p[a]? = some ([(A1,instObj cl D1)] ++ (D1,dictOf es n1) :: []):=hp
 obtain ⟨u1,u2,u3⟩:=putK_keys f v fs nd1
 have i2:=putL_of co.nd hn (hsh:=PyData.keyHash W.w.params nm) (t:=tk + 1) rv i1
 have u4 : (putK f v fs).length ≤ 900:=Nat.le_trans u2 (lim9 hc.2)
 obtain ⟨g0,G0,m0,hm0,F0⟩:=S.F
 have he:=hds_set (part':=[(A1,instObj cl D1)] ++ (D1,dictOf (putL nm (PyData.keyHash W.w.params nm) (.str nm (tk + 1)) y es) (putN nm es n1)) :: []) hp' rfl
 have I : InstAt h A1 (instObj cl D1) cl (some (dictOf es n1)):=⟨h1,rfl,rfl,h2⟩
 refine set_dict (s:=⟨h,g,dr,tk,os⟩) F0 (K0.keeps G0.B.stays) (G0.news S.N) I rfl p4 p5 htk p3 gs rfl (upd_of S.nd hp') (i2.len ▸ Nat.le_trans u4 (by decide)) fun h' F' N'=>k _ h' _ he ⟨⟨g0,G0,m0,hm0,F'⟩,G0.back N',?_,?_,S.fz⟩ (tk1 (t:=tk) 2 ht)
 ·obtain ⟨P,Q,q1,q2⟩:=flat_set (o':=dictOf (putL nm (PyData.keyHash W.w.params nm) (.str nm (tk + 1)) y es) (putN nm es n1)) hp'
  have nd:=S.nd
  rw [q1] at nd
  rw [q2]
  simpa using nd
 ·rw [he,← Option.some.inj e]
  exact S.rel.set a (.inst i2 u1 u4)
end
end
section
noncomputable def opB : BOp → Operator
 | .add=>.Add | .sub=>.Sub | .fdiv=>.FloorDiv | .mod=>.Mod | .mul=>.Mult
section
variable {W : Wd} {c : Fc} {m : Str → Option Value} {X : List (Addr × Obj)} {σ : St} {ps : PZ} {h : Heap} {g : Array GenState} {dr : Drawn} {tk : Nat} {os : OsState} {A : Around} {E : Value → Shared → Prop}
theorem lim_bits {x : Int} (h : x.natAbs ≤ LIM) : Builtin.Int.intBits x ≤ 64:=by
 unfold LIM at h
 exact intBits_le_64 (by omega) (by omega)
theorem alloc_app {vs ws : List V} {its its' : List Value} {σ' : St} {v : V} (S : SR W c m X σ ps h) {l : List V} {il : List Value} (i1 : All2 (VR (hds ps)) l il) (e : allocL l σ = some (v,σ')) {n : Nat}
 {Q : Value → Shared → Prop} {h' : Heap} (F' : FrU c h' m) (N' : News c.h₀ c.L h' ((h.objs.size,listOf il.toArray n) :: (ps.flatten ++ X))) (ht : 1 ≤ tk)
 (k : Hand W c m X (hds ps) σ' v g dr os Q) : Q (.ref h.objs.size) ⟨h',g,dr,tk,os⟩:=by
 refine gdE e fun hl e=>k.eq e (ps.add [(h.objs.size,listOf il.toArray n)]) _ tk _ pre_snoc (S.new1 F' N' (fun p hp=>Heap.lt_size (S.N p hp).1) (.list (i1.mono fun J J=>VR.mono .add) (Nat.le_trans hl (Nat.le_add_right _ _)))) ?_ ht
 rw [hds_snoc]
 exact VR.last (hds_len.trans S.len.symm)
theorem app_lim {x y : List Nat} (h : x.length + y.length ≤ LIM) : (toS x).length + (toS y).length ≤ sizeLine:=by rw [toS_len,toS_len]; exact lim_line (Nat.le_trans h (Nat.le_add_right _ _))
theorem app_lim2 {x y : List Nat} (h : x.length + y.length ≤ LIM) : (x ++ y).length ≤ LIM:=by rw [List.length_append]; exact h
theorem noLong {y : Int} (h1 : 0 < y) (h2 : y ≤ LIM) : y.natAbs.log2 < 20:=by
 unfold LIM at h2
 obtain ⟨m,rfl⟩:=Int.eq_ofNat_of_zero_le (Int.le_of_lt h1)
 exact (Nat.log2_lt (n:=m) (k:=20) (Nat.ne_of_gt (Int.ofNat_lt.mp h1))).mpr (Nat.lt_of_le_of_lt (Int.ofNat_le.mp h2) (by decide))
theorem bin_ok (S : SR W c m X σ ps h) {cx : Cx} {op : BOp} {a b v : V} {x y : Value} {σ' : St} {Q : Value → Shared → Prop}
 (ra : VR (hds ps) a x) (rb : VR (hds ps) b y) (e : binV cx op a b σ = some (v,σ')) (ht : 1 ≤ tk)
 (k : Hand W c m X (hds ps) σ' v g dr os Q) : wpAny (model W.prog W.w) A (binaryOp (opB op) x y) Q E ⟨h,g,dr,tk,os⟩:=by
 have stay : ∀ {v0 : V} {y : Value} {t : Nat},some (v0,σ) = some (v,σ') → VR (hds ps) v0 y → 1 ≤ t → Q y ⟨h,g,dr,t,os⟩:=fun e r ht=>(k.eq e).stay S r ht
 have lists : ∀ {a : V} {x : Value},VR (hds ps) a x → ((obF σ a).bind fun o=>oList o fun vs=>(obF σ b).bind fun p=>oList p fun ws=>allocL (vs ++ ws) σ) = some (v,σ') → wpAny (model W.prog W.w) A (binaryOp (opB .add) x y) Q E ⟨h,g,dr,tk,os⟩:=fun ra e=>by
  refine obfLE S ra e fun A1 its n1 vs g1 i1 e=>obfLE S rb e fun A2 its' n2 ws g2 i2 e=>?_
  obtain ⟨g0,G0,m0,hm0,F0⟩:=S.F
  refine PyProof.Rows.add_arrays (its:=its.toArray) (its2:=its'.toArray) F0 (G0.news S.N) ⟨_,g1,rfl,_,rfl⟩ ⟨_,g2,rfl,_,rfl⟩ (fun h' F' N'=>?_) (gdE e fun hl J=>by rw [List.size_toArray,List.size_toArray,← i1.len,← i2.len,sizeLine_eq]; rw [List.length_append] at hl; unfold LIM at hl; lia)
  exact alloc_app (vs:=vs) (ws:=ws) (its:=its) (its':=its') S (i1.app i2) e ⟨g0,G0,m0,hm0,F'⟩ (G0.back N') ht k
 cases op with
 | add=>cases ra with
  | int=>exact intE rb e fun j u e=>PyProof.Rows.add_int (stay e (.int _ _) (tk1 1 ht))
  | str s t l=>exact strE rb e fun s' u J e=>gdE e fun hl e=>wpAny_with_toks (Nat.le_refl _) (PyProof.Rows.add_str (fun t' tk' hk=>by rw [toS_app]; exact stay e (.str _ _ (app_lim2 hl)) (Nat.le_trans ht hk)) (app_lim hl))
  | ref hA=>exact lists (.ref hA) e
  | frz hA=>exact lists (.frz hA) e
  | _=>exact noE e
 | sub=>exact intE ra e fun i t e=>intE rb e fun j u e=>PyProof.Rows.sub_int (stay e (.int _ _) (tk1 1 ht))
 | fdiv=>exact intE ra e fun i t e=>intE rb e fun j u e=>gdE e fun hl e=>PyProof.Rows.floordiv_int (Int.ne_of_gt hl.1) (stay e (.int _ _) (tk1 1 ht)) (Or.inl (PyProof.noPylong_of_log2 (Nat.lt_trans (noLong hl.1 hl.2) (by decide))))
 | mod=>exact intE ra e fun i t e=>intE rb e fun j u e=>gdE e fun hl e=>PyProof.Rows.mod_int' (Int.ne_of_gt hl) (stay e (.int _ _) (tk1 1 ht))
 | mul=>exact intE ra e fun i t e=>intE rb e fun j u e=>gdE e fun hl e=>PyProof.Rows.mul_int (stay e (.int _ _) (tk1 1 ht)) (.of_left (lim_bits hl))
theorem iop_ok (S : SR W c m X σ ps h) {cx : Cx} {op : BOp} {a b v : V} {x y : Value} {σ' : St} {Q : Value → Shared → Prop} (ho : op = .add ∨ op = .sub)
 (ra : VR (hds ps) a x) (rb : VR (hds ps) b y) (e : iopV cx op a b σ = some (v,σ')) (ht : 1 ≤ tk)
 (k : Hand W c m X (hds ps) σ' v g dr os Q) : wpAny (model W.prog W.w) A (inplaceOp (opB op) x y) Q E ⟨h,g,dr,tk,os⟩:=by
 have stay : ∀ {v0 : V} {y : Value} {t : Nat},some (v0,σ) = some (v,σ') → VR (hds ps) v0 y → 1 ≤ t → Q y ⟨h,g,dr,t,os⟩:=fun e r ht=>(k.eq e).stay S r ht
 cases op with
 | add=>cases ra with
  | int=>exact intE rb e fun j u e=>PyProof.Rows.iadd_int (stay e (.int _ _) (tk1 1 ht))
  | str s t l=>exact strE rb e fun s' u J e=>gdE e fun hl e=>wpAny_with_toks (Nat.le_refl _) (PyProof.Rows.iadd_str (fun t' tk' hk=>by rw [toS_app]; exact stay e (.str _ _ (app_lim2 hl)) (Nat.le_trans ht hk)) (app_lim hl))
  | _=>exact noE e
 | sub=>exact intE ra e fun i t e=>intE rb e fun j u e=>PyProof.Rows.isub_int (stay e (.int _ _) (tk1 1 ht))
 | _=>exact noE e
theorem idx_small {n : Nat} {i : Int} {j : Nat} (hn : n ≤ LIM + LIM) (e : idxOf n i = some j) : -(2 ^ 63) ≤ i ∧ i < 2 ^ 63 ∧ j < n ∧ (0 ≤ i → j = i.toNat) ∧ (i < 0 → -(n : Int) ≤ i ∧ j = (i + n).toNat):=by
 refine ifE e (fun h0 e=>gdE e fun hlt e=>?_) fun h0 e=>gdE e fun hle e=>?_
 ·obtain rfl:=Option.some.inj e
  obtain ⟨m,rfl⟩:=Int.eq_ofNat_of_zero_le h0
  exact ⟨Int.le_trans (by decide) h0,Int.lt_trans (Int.ofNat_lt.mpr hlt) (lim63 hn),hlt,fun J=>rfl,fun q=>absurd q (Int.not_lt.mpr h0)⟩
 ·obtain rfl:=Option.some.inj e
  have h1:=Int.not_le.mp h0
  obtain ⟨m,q⟩:=Int.eq_ofNat_of_zero_le (Int.neg_nonneg_of_nonpos (Int.le_of_lt h1))
  obtain rfl : i = -(m : Int):=(Int.neg_eq_comm.mp q).symm
  rw [Int.neg_neg] at hle ⊢
  have h2 : m ≤ n:=Int.ofNat_le.mp hle
  have h3 : 0 < m:=Int.ofNat_lt.mp (Int.neg_lt_zero_iff.mp h1)
  refine ⟨Int.neg_le_neg (Int.le_of_lt (lim63 (Nat.le_trans h2 hn))),Int.lt_trans h1 (by decide),Nat.sub_lt (Nat.lt_of_lt_of_le h3 h2) h3,fun q=>absurd q h0,fun J=>⟨Int.neg_le_neg hle,?_⟩⟩
  rw [Int.add_comm,← Int.sub_eq_add_neg,Int.toNat_sub]; rfl
theorem seq_idx {n : Nat} {i : Int} {j : Nat} (hn : n ≤ LIM + LIM) (e : idxOf n i = some j) : seqIndex? i n = some j ∧ ¬ (i < -(2 ^ 63) ∨ 2 ^ 63 ≤ i):=by
 obtain ⟨b1,b2,b3,b4,b5⟩:=idx_small hn e
 refine ⟨?_,by lia⟩
 unfold seqIndex?
 by_cases q : i < 0
 ·obtain ⟨c1,c2⟩:=b5 q
  simp only [q,if_true]
  have : (decide (0 ≤ i + (n : Int)) && decide (i + (n : Int) < n)) = true:=by simp; lia
  rw [this]; simp [c2]
 ·have c2:=b4 (by lia)
  simp only [q,if_false]
  have : (decide (0 ≤ i) && decide (i < (n : Int))) = true:=by simp; lia
  rw [this]; simp [c2]
theorem sub_ok {cx : Cx} (ok : SoOk W cx.so) (S : SR W c m X σ ps h) (K : W.K.In h) {o i v : V} {x y : Value} {Q : Value → Shared → Prop}
 (ra : VR (hds ps) o x) (rb : VR (hds ps) i y) (e : subV cx σ o i = some v) (ht : 1 ≤ tk)
 (k : Hand W c m X (hds ps) σ v g dr os Q) : wpAny (model W.prog W.w) A (getItem x y) Q E ⟨h,g,dr,tk,os⟩:=by
 refine sobE ok S K ra e (fun s t J hl e=>intE rb e fun ki u e=>bdE e fun j hj e=>?_) fun o A' J ro e=>?_
 rotate_left
 ·revert k
  refine mpE e fun ch hch k=>?_
  obtain ⟨q1,q2⟩:=seq_idx (Nat.le_trans hl (Nat.le_add_right _ _)) hj
  refine PySem.P.getItem_str (c:=ch) (by simp; lia) ?_ (k.stay (y:=.str (toS [ch]) tk) S (.str _ _ (show 1 ≤ LIM by decide)) (tk1 1 ht))
  rw [toS_len,q1]
  show (toS s).cps[j]? = some ch
  simpa [toS] using hch
 ·cases o with
  | list vs =>
   obtain ⟨its,n,hA,i1,hn⟩:=ro
   refine intE rb e fun ki u e=>bdE e fun j hj hv=>?_
   obtain ⟨z,hz,rz⟩:=i1.get hv
   obtain ⟨b1,b2,b3,b4,b5⟩:=idx_small hn hj
   by_cases q : ki < 0
   ·obtain ⟨c1,c2⟩:=b5 q
    exact wpAny_getItem_list_neg (items:=its.toArray) (x:=z) ⟨_,hA,rfl,_,rfl⟩ q (by rw [List.size_toArray,← i1.len]; exact c1) b1 (by rw [List.size_toArray,← i1.len,← c2]; simpa using hz) (k.stay S rz ht)
   ·have c0:=Int.not_lt.mp q
    exact wpAny_getItem_list (items:=its.toArray) (x:=z) ⟨_,hA,rfl,_,rfl⟩ c0 b2 (by rw [← b4 c0]; simpa using hz) (k.stay S rz ht)
  | dict kvs =>
   obtain ⟨ks,ob,hA,d1,i1,b1,y1⟩:=ro
   refine strE rb e fun key t hl e=>?_
   have D : h.DictOf (strKind W.prog W.w) A' ks:=Heap.dictOf_iff.mpr ⟨_,hA,d1⟩
   have z:=valueAt_of i1 key
   rw [show getS key kvs = some v from e] at z
   obtain ⟨x,hx,rx⟩:=z
   exact wpAny_getItem_of (k:=toS key) (v:=x) (beq_self_eq_true _) D.mapOf hx (k.stay (t:=tk + 1) S rx (tk1 1 ht))
  | _=>exact noE e
end
end
section
section
variable {W : Wd} {c : Fc} {m : Str → Option Value} {X : List (Addr × Obj)} {σ : St} {ps : PZ} {h : Heap} {g : Array GenState} {dr : Drawn} {tk : Nat} {os : OsState} {A : Around} {E : Value → Shared → Prop}
theorem part_lo {hs : HS} {l : V} {vl : Value} {n i : Nat} (r : VR hs l vl) (e : sliceLo n l = some i) : ∃ p : Option (Int × Tok),vl = partValue p ∧ PartR l (p.map (·.1)) ∧ IsPart vl (p.map (·.1)):=by
 cases r with
 | none=>exact ⟨none,rfl,.none,.none⟩
 | int i t=>exact ⟨some (i,t),rfl,.int i,.int i t⟩
 | _=>exact noE e
theorem part_hi {hs : HS} {l : V} {vl : Value} {n i : Nat} (r : VR hs l vl) (e : sliceHi n l = some i) : ∃ p : Option (Int × Tok),vl = partValue p ∧ PartR l (p.map (·.1)) ∧ IsPart vl (p.map (·.1)):=by
 cases r with
 | none=>exact ⟨none,rfl,.none,.none⟩
 | int i t=>exact ⟨some (i,t),rfl,.int i,.int i t⟩
 | _=>exact noE e
theorem cut_len {α : Type} (l : List α) (i j : Nat) : (cut l i j).length ≤ l.length:=by
 exact ((List.take_sublist ..).trans (List.drop_sublist ..)).length_le
theorem hi_le {n j : Nat} {u : V} (e : sliceHi n u = some j) : j ≤ n:=by
 cases u with
 | none=>exact Nat.le_of_eq (Option.some.inj e).symm
 | int i =>
  obtain rfl:=Option.some.inj e
  show (if i < 0 then (i + n).toNat else min i.toNat n) ≤ n
  by_cases q : i < 0
  ·rw [if_pos q]; exact Int.toNat_le.mpr (by lia)
  ·rw [if_neg q]; exact Nat.min_le_right ..
 | _=>exact noE e
theorem cut_all {α : Type} (l : List α) {i j : Nat} (hj : j ≤ l.length) (e : j - i = l.length) : cut l i j = l:=by
 by_cases q : i = 0
 ·subst q; exact List.take_of_length_le (Nat.le_of_eq e.symm)
 ·have : l = []:=List.eq_nil_of_length_eq_zero (by lia)
  subst this; exact List.eq_nil_of_length_eq_zero (Nat.le_zero.mp (cut_len [] i j))
theorem slice_ok {cx : Cx} (ok : SoOk W cx.so) (S : SR W c m X σ ps h) (K : W.K.In h) {o l u v : V} {x vl vu : Value} {sl : Addr} {σ' : St} {Q : Value → Shared → Prop}
 (ra : VR (hds ps) o x) (rl : VR (hds ps) l vl) (ru : VR (hds ps) u vu) (hs : h.IsSliceOf sl vl vu .none) (e : sliceV cx o l u σ = some (v,σ')) (ht : 1 ≤ tk)
 (k : Hand W c m X (hds ps) σ' v g dr os Q) : wpAny (model W.prog W.w) A (getItem x (.ref sl)) Q E ⟨h,g,dr,tk,os⟩:=by
 refine sobE ok S K ra e (fun s t J hl e=>bdE e fun i hi e=>bdE e fun j hj e=>?_) fun o A0 J ro e=>oListE e fun vs q e1=>bdE e1 fun i hi e2=>bdE e2 fun j hj e3=>?_
 ·obtain ⟨p,rfl,pr,_⟩:=part_lo rl hi
  obtain ⟨q,rfl,qr,_⟩:=part_hi ru hj
  refine wpAny_getItem_str_slice (s:=⟨h,g,dr,tk,os⟩) (l:=p) (u:=q) (st:=none) hs rfl ?_
  have pk : slicePicked (toS s) p q none = List.range' i (j - i):=by
   unfold slicePicked
   rw [toS_len]
   exact str_idx pr qr hi hj
  unfold sliceMade
  rw [pk]
  have k1:=k.eq e
  split
  ·rename_i hc
   have hc' : j - i = s.length:=by simpa [toS_len] using hc
   rw [cut_all s (hi_le hj) hc'] at k1
   exact k1.stay S (.str _ _ hl) ht
  ·have : (⟨((List.range' i (j - i)).filterMap ((toS s).cps[·]?)).toArray⟩ : Str) = toS (cut s i j):=by
    have : (fun x : Nat=>(toS s).cps[x]?) = fun x=>s[x]?:=by funext x; simp [toS]
    rw [this,pick_range]; rfl
   rw [this]
   have hle:=Nat.le_trans (cut_len s i j) hl
   exact ⟨by rw [toS_len]; exact lim_line (Nat.le_trans hle (Nat.le_add_right _ _)),k1.stay (t:=tk + 1) S (.str _ _ hle) (tk1 1 ht)⟩
 ·subst q
  obtain ⟨its,n1,g1,i1,hn⟩:=ro
  obtain ⟨p,rfl,pr,pp⟩:=part_lo rl hi
  obtain ⟨q,rfl,qr,qq⟩:=part_hi ru hj
  refine wpAny_getItem_list_slice (items:=its.toArray) ⟨_,g1,rfl,_,rfl⟩ hs pp qq .none (nomatch ·) ?_ (by rw [List.size_toArray,← i1.len]; exact lim_line hn)
  rw [list_pick pr qr (by rw [← i1.len]; exact hi) (by rw [← i1.len]; exact hj)]
  exact alloc_app (vs:=vs) (ws:=vs) (its:=its) (its':=its) S (il:=cut its i j) ((i1.drop i).take (j - i)) e3 (S.F.push _) (S.F.npush S.N _ rfl) ht k
theorem stored_put {hs : HS} {key : List Nat} {v : V} {y : Value} (rv : VR hs v y) {kvs : List (List Nat × V)} {ks : List (Str × Value)} (i : All2 (KV hs) kvs ks) (nd : (ks.map (·.1)).Nodup) :
 All2 (KV hs) (putS key v kvs) (stored ks (toS key) y):=by
 have key1 : ∀ {kvs : List (List Nat × V)} {ks : List (Str × Value)},All2 (KV hs) kvs ks → (ks.map (·.1)).Nodup →
  All2 (KV hs) (putS key v kvs) (if ks.any (fun kv=>kv.1 = toS key) then ks.map (fun kv=>if kv.1 = toS key then (kv.1,y) else kv) else ks ++ [(toS key,y)]):=by
  intro kvs ks i
  induction i with
  | nil=>intro _; exact .cons ⟨rfl,rv⟩ .nil
  | @cons a b l mm hab t ih =>
   intro nd
   simp only [List.map_cons,List.nodup_cons] at nd
   obtain ⟨i,w⟩:=a
   obtain ⟨z,u⟩:=b
   obtain ⟨hk,hv⟩:=hab
   simp only at hk hv
   subst hk
   by_cases q : i = key
   ·subst q
    have e1 : putS i v ((i,w) :: l) = (i,v) :: l:=if_pos rfl
    rw [e1]
    simp only [List.any_cons,decide_true,Bool.true_or,if_true,List.map_cons]
    have e2 : mm.map (fun kv=>if kv.1 = toS i then (kv.1,y) else kv) = mm:=by
     rw [List.map_congr_left (g:=id) (fun kv hkv=>?_),List.map_id]
     rw [if_neg]; rfl
     intro q
     exact nd.1 (q ▸ List.mem_map_of_mem (f:=(·.1)) hkv)
    rw [e2]
    exact .cons ⟨rfl,rv⟩ t
   ·have q' : ¬ toS i = toS key:=fun z=>q (by have:=congrArg ofS z; rwa [ofS_toS,ofS_toS] at this)
    have e1 : putS key v ((i,w) :: l) = (i,w) :: putS key v l:=if_neg q
    rw [e1]
    simp only [List.any_cons,q',decide_false,Bool.false_or,List.map_cons,if_false]
    have:=ih nd.2
    split at this
    ·rename_i hc; rw [if_pos hc]; exact .cons ⟨rfl,hv⟩ this
    ·rename_i hc; rw [if_neg hc]; exact .cons ⟨rfl,hv⟩ this
 have:=key1 i nd
 unfold stored
 exact this
theorem putS_len (key : List Nat) (v : V) : ∀ kvs : List (List Nat × V),(putS key v kvs).length ≤ kvs.length + 1
 | []=>Nat.le_refl _
 | (i,w) :: r=>by
  show (if i = key then (i,v) :: r else (i,w) :: putS key v r).length ≤ _
  by_cases q : i = key
  ·rw [if_pos q]; exact Nat.le_succ _
  ·rw [if_neg q]; exact Nat.succ_le_succ (putS_len key v r)
theorem setSub_ok (S : SR W c m X σ ps h) {o i v : V} {x y z : Value} {σ' : St} {Q : Unit → Shared → Prop}
 (ra : VR (hds ps) o x) (rb : VR (hds ps) i y) (rv : VR (hds ps) v z) (e : setSubV o i v σ = some σ') (ht : 1 ≤ tk)
 (k : ∀ ps' h' t',hds ps' = hds ps → SR W c m X σ' ps' h' → 1 ≤ t' → Q () ⟨h',g,dr,t',os⟩) : wpAny (model W.prog W.w) A (setItem x y z) Q E ⟨h,g,dr,tk,os⟩:=by
 refine cellE S ra e fun a o part J J hp hr e=>?_
 cases hr with
 | @list vs its A1 n1 i1 hn =>
  have g1:=S.at hp (.head _)
  refine intE rb e fun ki u e=>gdE e fun hk e=>?_
  have hl : ki.toNat < its.length:=i1.len ▸ hk.2
  refine ki_setAt (items:=its.toArray) g1 hk.1 (Int.lt_of_lt_of_le (show ki < (its.length : Int) by lia) (Int.le_of_lt (lim63 (i1.len ▸ hn)))) (by rw [List.size_toArray]; lia) ?_
  have q:=PySem.IsL.update (g1 : IsL h _ its.toArray n1) (·.setIfInBounds ki.toNat z)
  have e1 : its.toArray.setIfInBounds ki.toNat z = (its.set ki.toNat z).toArray:=by apply Array.toList_inj.mp; simp
  rw [e1] at q
  obtain ⟨S',he⟩:=S.put (pre:=[]) (post:=[]) (ob:=.list (vs.set ki.toNat v)) hp (Heap.SameBut.update ..) q (.list (i1.set _ rv) (by rw [List.length_set]; exact hn))
  exact k _ _ _ he (Option.some.inj e ▸ S') ht
 | _=>exact noE e
end
end
section
noncomputable def LR (tb : List Str) (hs : HS) (L : Loc) (m : Str → Option Value) : Prop :=
 ∀ i v,getK i L = some v → ∃ x y,tb[i]? = some x ∧ m x = some y ∧ VR hs v y
theorem LR.mono {tb : List Str} {hs hs' : HS} {L : Loc} {m : Str → Option Value} (r : LR tb hs L m) (p : hs.Le hs') : LR tb hs' L m:=fun i v e =>
 let ⟨x,y,h1,h2,h3⟩:=r i v e
 ⟨x,y,h1,h2,h3.mono p⟩
noncomputable def IsNs (o : Obj) (m : Str → Option Value) : Prop:=∃ es ep,o.data = .dict es ep ∧ StrKeys es ∧ ∀ name,nsFind es name = m name
abbrev Cp:=Scope × List Nat
noncomputable def LRb (tb : List Str) (hs : HS) (L : Loc) (m : Str → Option Value) (B : List Nat) : Prop :=
 ∀ i ∈ B,∀ v,getK i L = some v → ∃ x y,tb[i]? = some x ∧ m x = some y ∧ VR hs v y
theorem LRb.mono {tb : List Str} {hs hs' : HS} {L : Loc} {m : Str → Option Value} {B : List Nat} (r : LRb tb hs L m B) (p : hs.Le hs') : LRb tb hs' L m B:=fun i hi v e =>
 let ⟨x,y,h1,h2,h3⟩:=r i hi v e
 ⟨x,y,h1,h2,h3.mono p⟩
noncomputable def LRf (tb : List Str) (hs : HS) (sc : Scope) (L : Loc) (m : Str → Option Value) : Prop :=
 ∀ i x v,tb[i]? = some x → sc.names.lookup x = some .free → getK i L = some v → ∃ y,m x = some y ∧ VR hs v y
noncomputable def closL (cl : List (Str × Addr)) : List (Str × NameKind) → List (Str × Addr) → List (Str × Addr)
 | [],acc=>acc
 | (n,k) :: r,acc=>closL cl r (if k == .free then (n,(cl.lookup n).getD 0) :: acc else acc)
theorem closL_get {cl : List (Str × Addr)} {x : Str} {A : Addr} (hx : cl.lookup x = some A) : ∀ {l : List (Str × NameKind)} {acc : List (Str × Addr)},(x,.free) ∈ l ∨ acc.lookup x = some A → (closL cl l acc).lookup x = some A
 | [],acc,h=>h.elim (fun q=>nomatch q) fun h=>h
 | (n,k) :: r,acc,h=>by
  refine closL_get hx (l:=r) ?_
  rcases h with h | h
  ·rcases List.mem_cons.mp h with e | h
   ·cases e
    refine .inr ?_
    rw [if_pos (by rfl),List.lookup_cons,beq_self_eq_true,hx]
    rfl
   ·exact .inl h
  ·refine .inr ?_
   split
   ·rw [List.lookup_cons]
    cases z : x == n with
    | true=>rw [← eq_of_beq z,hx]; rfl
    | false=>exact h
   ·exact h
noncomputable def cEnv (c : Fc) (sc : Scope) (C : Addr) : Env:=compEnvC sc (closL c.cl sc.names []) C c.env
theorem relabel_get {env : Env} {x : Str} : ∀ {l : List (Str × NameKind)} {k : NameKind},l.lookup x = some k →
 (l.map fun (n,k)=>if (k == NameKind.free && env.scope.kind == .function && env.kindOf n == some .cell) then (n,NameKind.cell) else (n,k)).lookup x = some (if (k == NameKind.free && env.scope.kind == .function && env.kindOf x == some .cell) then .cell else k)
 | (n,k0) :: r,k,h=>by
  have ih:=@relabel_get env x r k
  rw [List.lookup_cons] at h
  rw [List.map_cons]
  cases z : x == n with
  | true =>
   rw [z] at h
   cases h
   cases eq_of_beq z
   dsimp only
   split <;> simp [List.lookup_cons]
  | false =>
   rw [z] at h
   dsimp only
   split <;> (rw [List.lookup_cons,z]; exact ih h)
theorem cEnv_kind {c : Fc} {sc : Scope} {C : Addr} {x : Str} {k : NameKind} (h : sc.names.lookup x = some k) (hk : k ≠ .free) : (cEnv c sc C).kindOf x = some k:=by
 refine (relabel_get h).trans ?_
 cases k with
 | free=>exact absurd rfl hk
 | _=>rfl
noncomputable def Vw (W : Wd) (cp : Option Cp) (c : Fc) (env : Env) (m : Str → Option Value) (X : List (Addr × Obj)) (hs : HS) (L : Loc) : Prop:=match cp with
 | none=>env = c.env ∧ LR W.tb hs L m
 | some sc=>∃ C o mc,env = cEnv c sc.1 C ∧ (C,o) ∈ X ∧ IsNs o mc ∧ LRb W.tb hs L mc sc.2 ∧ LRf W.tb hs sc.1 L m
noncomputable def scOf (cs : Scope) (cp : Option Cp) : Scope:=match cp with | none=>cs | some p=>p.1
noncomputable def inB (cs : Scope) (cp : Option Cp) (i : Nat) (x : Str) : Prop:=match cp with
 | none=>cs.names.lookup x = some .local ∨ cs.names.lookup x = some .cell
 | some p=>(i ∈ p.2 ∧ p.1.names.lookup x = some .local) ∨ (p.1.names.lookup x = some .free ∧ cs.names.lookup x = some .cell)
structure FOkC (W : Wd) (c : Fc) (d : Nat) : Prop where
 frames : c.A.frames = some (c.env :: c.outer)
 hh : c.A.handled = none
 depth : c.A.depth + 3 * d + 2 ≤ 990
 units : c.A.units + 30 * d + 280 ≤ 9800
 X : W.K.In c.base
 T : Top W.p W.loose W.mean W.mg W.mb c.base
 kind : c.cs.kind = .function
 ck : CsOk c.cs
noncomputable def CallOk (W : Wd) (call : Nat → List V → St → Option (V × St)) (d : Nat) : Prop :=
 ∀ (f : Nat) (args : List V) (σ : St) (v : V) (σ' : St),f < BIG → call f args σ = some (v,σ') → ∀ (c : Fc),FOkC W c d → ∀ {m : Str → Option Value} {X : List (Addr × Obj)} {ps : PZ} {h : Heap} {tk : Nat} {xs : List Value} {R : Result → Shared → Prop} {g : Array GenState} {dr : Drawn} {os : OsState},
  SR W c m X σ ps h → All2 (VR (hds ps)) args xs → 1 ≤ tk → Hand W c m X (hds ps) σ' v g dr os (fun v s=>R (.ok (.ret v)) s) → codeAny (model W.prog W.w) c.A (.call (.ref f) ⟨xs,[]⟩) R ⟨h,g,dr,tk,os⟩
structure RsX (W : Wd) (c : Fc) (m : Str → Option Value) (X : List (Addr × Obj)) (σ : St) (ps : PZ) (e : Addr) (h : Heap) : Prop where
 h : ∃ t vs G,FrU c G m ∧ RaisedS c.base G (c.env :: c.outer) e (.type "KeyError") t vs (ps.flatten ++ X) h ∧ G.UpToSlots h
 nd : ((ps.flatten ++ X).map (·.1)).Nodup
 rel : All2 (ORel W.prog W.w W.tb (hds ps)) σ ps.p
 fz : Fz W c m ps.z ps.zl ps.cs
noncomputable def CallOkX (W : Wd) (call : Nat → List V → St → Option (V × St)) (d : Nat) : Prop :=
 ∀ (f : Nat) (args : List V) (σ : St) (v : V) (σ' : St),call (f + BIG) args σ = some (v,σ') → ∀ (c : Fc),FOkC W c d → ∀ {m : Str → Option Value} {X : List (Addr × Obj)} {ps : PZ} {h : Heap} {tk : Nat} {xs : List Value} {R : Result → Shared → Prop} {g : Array GenState} {dr : Drawn} {os : OsState},
  SR W c m X σ ps h → All2 (VR (hds ps)) args xs → 1 ≤ tk → (v ≠ .none → Hand W c m X (hds ps) σ' v g dr os (fun v s=>R (.ok (.ret v)) s)) →
  (v = .none → ∀ e ps' h' t',(hds ps).Le (hds ps') → RsX W c m X σ' ps' e h' → 1 ≤ t' → R (.error (.ref e)) ⟨h',g,dr,t',os⟩) → codeAny (model W.prog W.w) c.A (.call (.ref f) ⟨xs,[]⟩) R ⟨h,g,dr,tk,os⟩
structure GOk (W : Wd) (cx : Cx) (d : Nat) : Prop where
 so : SoOk W cx.so
 co : ClsOk W cx
 call : CallOk W cx.call d
 callX : CallOkX W cx.call d
section
variable {W : Wd} {cx : Cx} {cs : Scope} {cp : Option Cp} {d : Nat}
structure OkE (W : Wd) (cx : Cx) (cs : Scope) (cp : Option Cp) (d : Nat) (e : PE) (x : PySem.Expr) : Prop where
 h : ∀ (c : Fc),c.cs = cs → FOk W c d → ∀ {env : Env} {m : Str → Option Value} {X : List (Addr × Obj)} {L : Loc} {σ : St} {ps : PZ} {h : Heap} {tk : Nat} {v : V} {σ' : St} {Q : Value → Shared → Prop} {E : Value → Shared → Prop} {g : Array GenState} {dr : Drawn} {os : OsState},
  SR W c m X σ ps h → Vw W cp c env m X (hds ps) L → 1 ≤ tk → evE cx e L σ = some (v,σ') → Hand W c m X (hds ps) σ' v g dr os Q → wpAny (model W.prog W.w) c.A (eval x env) Q E ⟨h,g,dr,tk,os⟩
abbrev HandB (W : Wd) (c : Fc) (m : Str → Option Value) (X : List (Addr × Obj)) (hs : HS) (σ' : St) (b : Bool) (g : Array GenState) (dr : Drawn) (os : OsState) (Q : Bool → Shared → Prop) : Prop :=
 ∀ ps' h' t',hs.Le (hds ps') → SR W c m X σ' ps' h' → 1 ≤ t' → Q b ⟨h',g,dr,t',os⟩
abbrev HandL (W : Wd) (c : Fc) (m : Str → Option Value) (X : List (Addr × Obj)) (hs : HS) (σ' : St) (vs : List V) (g : Array GenState) (dr : Drawn) (os : OsState) (Q : List Value → Shared → Prop) : Prop :=
 ∀ ps' h' t' ys,hs.Le (hds ps') → SR W c m X σ' ps' h' → All2 (VR (hds ps')) vs ys → 1 ≤ t' → Q ys ⟨h',g,dr,t',os⟩
structure OkT (W : Wd) (cx : Cx) (cs : Scope) (cp : Option Cp) (d : Nat) (e : PE) (x : PySem.Expr) : Prop where
 h : ∀ (c : Fc),c.cs = cs → FOk W c d → ∀ {env : Env} {m : Str → Option Value} {X : List (Addr × Obj)} {L : Loc} {σ : St} {ps : PZ} {h : Heap} {tk : Nat} {b : Bool} {σ' : St} {Q : Bool → Shared → Prop} {E : Value → Shared → Prop} {g : Array GenState} {dr : Drawn} {os : OsState},
  SR W c m X σ ps h → Vw W cp c env m X (hds ps) L → 1 ≤ tk → evT cx e L σ = some (b,σ') → HandB W c m X (hds ps) σ' b g dr os Q → wpAny (model W.prog W.w) c.A (isTrue x env (eval x env)) Q E ⟨h,g,dr,tk,os⟩
structure OkEs (W : Wd) (cx : Cx) (cs : Scope) (cp : Option Cp) (d : Nat) (es : List PE) (xs : List PySem.Expr) : Prop where
 h : ∀ (c : Fc),c.cs = cs → FOk W c d → ∀ {pos : Pos} {env : Env} {m : Str → Option Value} {X : List (Addr × Obj)} {L : Loc} {σ : St} {ps : PZ} {h : Heap} {tk : Nat} {vs : List V} {σ' : St} {Q : List Value → Shared → Prop} {E : Value → Shared → Prop} {g : Array GenState} {dr : Drawn} {os : OsState},
  SR W c m X σ ps h → Vw W cp c env m X (hds ps) L → 1 ≤ tk → evEs cx es L σ = some (vs,σ') → HandL W c m X (hds ps) σ' vs g dr os Q → wpAny (model W.prog W.w) c.A (spliced (backTo pos (starEach xs env))) Q E ⟨h,g,dr,tk,os⟩
theorem LRf.mono {tb : List Str} {hs hs' : HS} {sc : Scope} {L : Loc} {m : Str → Option Value} (r : LRf tb hs sc L m) (p : hs.Le hs') : LRf tb hs' sc L m:=fun i x v h1 h2 e =>
 let ⟨y,h3,h4⟩:=r i x v h1 h2 e
 ⟨y,h3,h4.mono p⟩
theorem Vw.mono {c : Fc} {env : Env} {m : Str → Option Value} {X : List (Addr × Obj)} {hs hs' : HS} {L : Loc} (V : Vw W cp c env m X hs L) (p : hs.Le hs') : Vw W cp c env m X hs' L:=by
 unfold Vw at V ⊢
 split at V
 ·exact ⟨V.1,V.2.mono p⟩
 ·obtain ⟨C,o,mc,h1,h2,h3,h4,h5⟩:=V
  exact ⟨C,o,mc,h1,h2,h3,h4.mono p,h5.mono p⟩
theorem Vw.scope {c : Fc} {env : Env} {m : Str → Option Value} {X : List (Addr × Obj)} {hs : HS} {L : Loc} (V : Vw W cp c env m X hs L) : env.scope.kind = (scOf c.cs cp).kind ∧ env.globals = mainGlobals ∧ env.builtins = builtinsNs:=by
 unfold Vw at V
 split at V
 ·obtain ⟨rfl,_⟩:=V; exact ⟨rfl,rfl,rfl⟩
 ·obtain ⟨C,o,mc,rfl,_⟩:=V; exact ⟨rfl,rfl,rfl⟩
theorem Vw.kindOf {c : Fc} {env : Env} {m : Str → Option Value} {X : List (Addr × Obj)} {hs : HS} {L : Loc} (V : Vw W cp c env m X hs L) (hc : c.cs = cs) {x : Str} {k : NameKind} (e : (scOf cs cp).names.lookup x = some k) (hk : k ≠ .free) : env.kindOf x = some k:=by
 subst hc
 unfold Vw at V
 split at V
 ·obtain ⟨rfl,_⟩:=V; exact e
 ·obtain ⟨C,o,mc,rfl,_⟩:=V; exact cEnv_kind e hk
theorem Vw.kind {c : Fc} {env : Env} {m : Str → Option Value} {X : List (Addr × Obj)} {hs : HS} {L : Loc} (V : Vw W cp c env m X hs L) (hc : c.cs = cs) (e : (scOf cs cp).kind = .function) : env.scope.kind = .function:=by
 rw [V.scope.1,hc]; exact e
theorem Vw.read {c : Fc} {A : Around} {env : Env} {m : Str → Option Value} {X : List (Addr × Obj)} {σ : St} {ps : PZ} {s : Shared} {L : Loc} {E : Value → Shared → Prop} {Q : Value → Shared → Prop} (z : Vw W cp c env m X (hds ps) L) (S : SR W c m X σ ps s.heap) (hc : c.cs = cs) (kf : cs.kind = .function) (ks : (scOf cs cp).kind = .function) (ck : CsOk cs)
 {i : Nat} {x : Str} {v : V} (hi : W.tb[i]? = some x) (hb : inB cs cp i x) (e : getK i L = some v) (k : ∀ y,VR (hds ps) v y → Q y s) : wpAny (model W.prog W.w) A (loadName env x) Q E s:=by
 subst hc
 have kd:=fun {x k}=>z.kindOf (cs:=c.cs) rfl (x:=x) (k:=k)
 have kn:=z.scope.1.trans ks
 unfold Vw at z
 split at z
 ·obtain ⟨rfl,r⟩:=z
  obtain ⟨x',y,h1,h2,h3⟩:=r i v e
  obtain rfl:=Option.some.inj (h1.symm.trans hi)
  rcases hb with hb | hb
  ·obtain ⟨m0,q,f⟩:=S.F.ns
   exact wpAny_loadName_local kn (kd hb nofun) f ((q _ (ck.loc hb nofun)).trans h2) (k y h3)
  ·obtain ⟨A,o,e1,_,e2,e3⟩:=S.cell ck hb
   exact wpAny_loadName_cell kn (kd hb nofun) (c:=A) (by show c.cl.lookup _ = _; rw [e1]; simp) ⟨o,e3,e2.trans (h2 ▸ rfl)⟩ (k y h3)
 ·obtain ⟨C,o,mc,rfl,hX,⟨es,ep,q1,q2,q3⟩,r,rf⟩:=z
  rcases hb with ⟨hb,hl⟩ | ⟨hl,hb⟩
  ·obtain ⟨x',y,h1,h2,h3⟩:=r i hb v e
   obtain rfl:=Option.some.inj (h1.symm.trans hi)
   exact wpAny_loadName_local kn (kd hl nofun) ⟨o,es,ep,(S.N _ (List.mem_append_right _ hX)).1,q1,q2,q3⟩ h2 (k y h3)
  ·obtain ⟨y,h2,h3⟩:=rf i x v hi hl e
   obtain ⟨A,o',e1,_,e2,e3⟩:=S.cell ck hb
   refine wpAny_loadName_cell kn ?_ (c:=A) (closL_get (by rw [e1]; simp) (.inl (mem_of_lookup hl))) ⟨o',e3,e2.trans (h2 ▸ rfl)⟩ (k y h3)
   refine (relabel_get hl).trans ?_
   have z1 : (c.env.scope.kind == .function) = true:=by show (c.cs.kind == .function) = true; rw [kf]; rfl
   have z2 : c.env.kindOf x = some .cell:=hb
   rw [z1,z2]; rfl
theorem HandB.up {c : Fc} {m : Str → Option Value} {X : List (Addr × Obj)} {g : Array GenState} {dr : Drawn} {os : OsState} {hs : HS} {v : Bool} {s : St} {Q : Bool → Shared → Prop} {ps1 : PZ} (k : HandB W c m X hs s v g dr os Q) (p : hs.Le (hds ps1)) : HandB W c m X (hds ps1) s v g dr os Q:=fun ps h t q S ht=>k ps h t (p.trans q) S ht
theorem HandB.eq {c : Fc} {m : Str → Option Value} {X : List (Addr × Obj)} {g : Array GenState} {dr : Drawn} {os : OsState} {hs : HS} {a v : Bool} {s σ' : St} {Q : Bool → Shared → Prop} (k : HandB W c m X hs σ' v g dr os Q) (e : some (a,s) = some (v,σ')) : HandB W c m X hs s a g dr os Q:=pE (fun a s=>HandB W c m X hs s a g dr os Q) e k
theorem HandL.up {c : Fc} {m : Str → Option Value} {X : List (Addr × Obj)} {g : Array GenState} {dr : Drawn} {os : OsState} {hs : HS} {v : List V} {s : St} {Q : List Value → Shared → Prop} {ps1 : PZ} (k : HandL W c m X hs s v g dr os Q) (p : hs.Le (hds ps1)) : HandL W c m X (hds ps1) s v g dr os Q:=fun ps h t y q S r ht=>k ps h t y (p.trans q) S r ht
theorem HandL.eq {c : Fc} {m : Str → Option Value} {X : List (Addr × Obj)} {g : Array GenState} {dr : Drawn} {os : OsState} {hs : HS} {a v : List V} {s σ' : St} {Q : List Value → Shared → Prop} (k : HandL W c m X hs σ' v g dr os Q) (e : some (a,s) = some (v,σ')) : HandL W c m X hs s a g dr os Q:=pE (fun a s=>HandL W c m X hs s a g dr os Q) e k
theorem FOk.u30 {c : Fc} {d : Nat} (ok : FOk W c d) : c.A.units + 30 < cLine:=by have:=ok.units; show _ < 9900; lia
theorem okC_none {k : Nat} {pos : Pos} : OkE W cx cs cp d (.const .none) (.Constant .none k pos):=by
 refine ⟨?_⟩
 intro c hc ok env m X L σ ps h tk v σ' Q E g dr os S V ht e H
 exact wpAny_Constant_none ((H.eq (evE_const.symm.trans e)).stay S .none ht)
theorem okC_bool {b : Bool} {k : Nat} {pos : Pos} : OkE W cx cs cp d (.const (.bool b)) (.Constant (.bool b) k pos):=by
 refine ⟨?_⟩
 intro c hc ok env m X L σ ps h tk v σ' Q E g dr os S V ht e H
 exact wpAny_Constant_bool ((H.eq (evE_const.symm.trans e)).stay S (.bool b) ht)
theorem okC_int {i : Int} {k : Nat} {pos : Pos} : OkE W cx cs cp d (.const (.int i)) (.Constant (.int i) k pos):=by
 refine ⟨?_⟩
 intro c hc ok env m X L σ ps h tk v σ' Q E g dr os S V ht e H
 exact wpAny_Constant_int ((H.eq (evE_const.symm.trans e)).stay (t:=tk + 1) S (.int i _) (tk1 1 ht))
theorem okC_str {l : List Nat} {x : Str} {k : Nat} {pos : Pos} (hx : toS l = x) (hl : l.length ≤ LIM) : OkE W cx cs cp d (.const (.str l)) (.Constant (.str x) k pos):=by
 subst hx
 refine ⟨?_⟩
 intro c hc ok env m X L σ ps h tk v σ' Q E g dr os S V ht e H
 exact wpAny_Constant_str ((H.eq (evE_const.symm.trans e)).stay (t:=tk + 1) S (.str l _ hl) (tk1 1 ht))
theorem ok_loc {i : Nat} {x : Str} {pos : Pos} (hi : W.tb[i]? = some x) (hb : inB cs cp i x) (hs : (scOf cs cp).kind = .function) (hd : (x == ("__debug__" : Str)) = false) : OkE W cx cs cp d (.loc i) (.Name x pos):=by
 refine ⟨?_⟩
 intro c hc ok env m X L σ ps h tk v σ' Q E g dr os S V ht e H
 refine mp0 (evE_loc.symm.trans e) fun u hu e=>?_
 exact wpAny_Name (V.read S hc (hc ▸ ok.kind) hs (hc ▸ ok.ck) hi hb hu fun y r=>(H.eq e).stay S r ht) hd
theorem ok_glob {v : V} {y : Value} {x : Str} {pos : Pos} (hr : VR .nil v y) (hg : nsIn W.K mainGlobals x = some (some y)) (hk : (scOf cs cp).names.lookup x = some .globalImplicit) (hs : (scOf cs cp).kind = .function) (hd : (x == ("__debug__" : Str)) = false) :
 OkE W cx cs cp d (.glob v) (.Name x pos):=by
 refine ⟨?_⟩
 intro c hc ok env m X L σ ps h tk v' σ' Q E g dr os S V ht e H
 obtain ⟨g0,G0,m0,hm0,F0⟩:=S.F
 exact nameG_K F0 (ok.KR G0) (ok.TR G0) hg ((H.eq (evE_glob.symm.trans e)).stay S (hr.mono .nil) ht) V.scope.2.1 (V.kind hc hs) (V.kindOf hc hk nofun) hd
theorem name_bt {c : Fc} {env : Env} {m : Str → Option Value} {X : List (Addr × Obj)} {σ : St} {ps : PZ} {h : Heap} {L : Loc} {tk : Nat} {Q E : Value → Shared → Prop} {g : Array GenState} {dr : Drawn} {os : OsState} (S : SR W c m X σ ps h) (ok : FOk W c d) (hc : c.cs = cs)
 (V : Vw W cp c env m X (hds ps) L) {x : Str} {y : Value} {pos : Pos} (hg : nsIn W.K mainGlobals x = some none) (hv : bootBuiltins x = some y) (hn : x ≠ "__name__") (hk : (scOf cs cp).names.lookup x = some .globalImplicit) (hs : (scOf cs cp).kind = .function) (hd : (x == ("__debug__" : Str)) = false)
 (k : Q y ⟨h,g,dr,tk,os⟩) : wpAny (model W.prog W.w) c.A (eval (.Name x pos) env) Q E ⟨h,g,dr,tk,os⟩:=by
 refine Calls.Name_function_global (V.kind hc hs) (V.kindOf hc hk nofun) (Calls.loadGlobal_builtin (env:=env) (mg:=W.mg) (mb:=W.mb) ?_ (mg_none_of ok.X (topRead_of ok.T).g hg) ?_ (((topRead_of ok.T).builtins x hn).trans hv) k) hd
 ·rw [V.scope.2.1]; exact (topRead_of ok.T).g.keeps S.F.base
 ·rw [V.scope.2.2]; exact (topRead_of ok.T).b.keeps S.F.base
theorem ok_bin {op : BOp} {l r : PE} {x y : PySem.Expr} {pos : Pos} (hl : OkE W cx cs cp d l x) (hr : OkE W cx cs cp d r y) : OkE W cx cs cp d (.bin op l r) (.BinOp x (opB op) y pos):=by
 refine ⟨?_⟩
 intro c hc ok env m X L σ ps h tk v σ' Q E g dr os S V ht e H
 refine bd2 (evE_bin.symm.trans e) fun a σ1 e1 e=>bd2 e fun b σ2 e2 e3=>?_
 exact wpAny_BinOp (hl.1 c hc ok S V ht e1 fun ps1 h1 t1 y1 p1 S1 r1 ht1=>hr.1 c hc ok S1 (V.mono p1) ht1 e2 fun ps2 h2 t2 y2 p2 S2 r2 ht2=>bin_ok S2 (r1.mono p2) r2 e3 ht2 (H.up (p1.trans p2)))
theorem ok_cmp (G : GOk W cx d) {op : COp} {l r : PE} {x y : PySem.Expr} {pos : Pos} (hl : OkE W cx cs cp d l x) (hr : OkE W cx cs cp d r y) (hm : behindInMarks (opC op) y = false) : OkE W cx cs cp d (.cmp op l r) (.Compare x [opC op] [y] pos):=by
 refine ⟨?_⟩
 intro c hc ok env m X L σ ps h tk v σ' Q E g dr os S V ht e H
 refine bd2 (evE_cmp.symm.trans e) fun a σ1 e1 e=>bd2 e fun b σ2 e2 e=>mp0 e fun t e3 e=>?_
 exact wpAny_Compare1 (hl.1 c hc ok S V ht e1 fun ps1 h1 t1 y1 p1 S1 r1 ht1=>hr.1 c hc ok S1 (V.mono p1) ht1 e2 fun ps2 h2 t2 y2 p2 S2 r2 ht2=>cmp_ok G.so S2 (S2.K ok) (r1.mono p2) r2 e3 ok.u30 ht2 fun t ht=>(H.eq e) ps2 h2 t _ (p1.trans p2) S2 (.bool _) ht) hm
end
end
section
section
variable {W : Wd} {cx : Cx} {cs : Scope} {cp : Option Cp} {d : Nat}
theorem wpAny_release {M : Model} {A : Around} {E : Value → Shared → Prop} {s : Shared} {vs keep : List Value} {Q : Unit → Shared → Prop} (h : Q () s) : wpAny M A (release vs keep) Q E s:=fun Γ p J=>by
 rw [Sem.wp_release]; exact h
theorem chain_cons {M : Model} {A : Around} {E Q : Value → Shared → Prop} {s : Shared} {pos : Pos} {left : Value} {op op2 : CmpOp} {ops : List CmpOp} {r r2 : Sem Value} {rs : List (Sem Value)}
 (h : wpAny M A r (fun rv s₁=>wpAny M A (compareOp op left rv) (fun c s₂=>wpAny M A (truthy c) (fun b s₃=>if b then wpAny M A (compareChain pos rv (op2 :: ops) (r2 :: rs)) Q E s₃ else Q c s₃) E s₂) E s₁) E s) :
 wpAny M A (compareChain pos left (op :: op2 :: ops) (r :: r2 :: rs)) Q E s:=by
 show wpAny M A (do
  let rv ← holding [left] r
  standAt pos
  let c ← holding [left,rv] (compareOp op left rv)
  release [left,rv] [c]
  if ← holding [c,rv] (truthy c) then compareChain pos rv (op2 :: ops) (r2 :: rs) else pure c) Q E s
 refine wpAny_bind (wpAny_holding (wpAny_mono h (fun rv s₁ h₁=>wpAny_bind (wpAny_standAt (wpAny_bind (wpAny_holding (wpAny_mono h₁ (fun c s₂ h₂=>wpAny_bind (wpAny_release (wpAny_bind (wpAny_holding (wpAny_mono h₂ (fun b s₃ h₃=>?_) fun J J e=>e))))) fun J J e=>e))))) fun J J e=>e))
 cases b with
 | true=>exact h₃
 | false=>exact wpAny_pure h₃
theorem chain_one {M : Model} {A : Around} {E Q : Value → Shared → Prop} {s : Shared} {pos : Pos} {left : Value} {op : CmpOp} {r : Sem Value}
 (h : wpAny M A r (fun rv s₁=>wpAny M A (compareOp op left rv) Q E s₁) E s) :
 wpAny M A (compareChain pos left [op] [r]) Q E s:=by
 show wpAny M A (do
  let rv ← holding [left] r
  standAt pos
  operate [left,rv] (compareOp op left rv)) Q E s
 exact wpAny_bind (wpAny_holding (wpAny_mono h (fun rv s₁ h₁=>wpAny_bind (wpAny_standAt (wpAny_operating h₁))) fun J J e=>e))
theorem test_cons {M : Model} {A : Around} {E : Value → Shared → Prop} {Q : Bool → Shared → Prop} {s : Shared} {pos : Pos} {left : Value} {op op2 : CmpOp} {ops : List CmpOp} {r r2 : Sem Value} {rs : List (Sem Value)}
 (h : wpAny M A r (fun rv s₁=>wpAny M A (compareOp op left rv) (fun c s₂=>wpAny M A (truthy c) (fun b s₃=>if b then wpAny M A (testChain pos rv (op2 :: ops) (r2 :: rs)) Q E s₃ else Q false s₃) E s₂) E s₁) E s) :
 wpAny M A (testChain pos left (op :: op2 :: ops) (r :: r2 :: rs)) Q E s:=by
 show wpAny M A (do
  let rv ← holding [left] r
  standAt pos
  let c ← holding [left,rv] (compareOp op left rv)
  release [left,rv] [c]
  if ← holding [c,rv] (truthy c) then testChain pos rv (op2 :: ops) (r2 :: rs) else pure false) Q E s
 refine wpAny_bind (wpAny_holding (wpAny_mono h (fun rv s₁ h₁=>wpAny_bind (wpAny_standAt (wpAny_bind (wpAny_holding (wpAny_mono h₁ (fun c s₂ h₂=>wpAny_bind (wpAny_release (wpAny_bind (wpAny_holding (wpAny_mono h₂ (fun b s₃ h₃=>?_) fun J J e=>e))))) fun J J e=>e))))) fun J J e=>e))
 cases b with
 | true=>exact h₃
 | false=>exact wpAny_pure h₃
theorem test_one {M : Model} {A : Around} {E : Value → Shared → Prop} {Q : Bool → Shared → Prop} {s : Shared} {pos : Pos} {left : Value} {op : CmpOp} {r : Sem Value}
 (h : wpAny M A r (fun rv s₁=>wpAny M A (compareOp op left rv) (fun c s₂=>wpAny M A (truthy c) Q E s₂) E s₁) E s) :
 wpAny M A (testChain pos left [op] [r]) Q E s:=by
 show wpAny M A (do
  let rv ← holding [left] r
  standAt pos
  let c ← operate [left,rv] (compareOp op left rv)
  holding [c] (truthy c)) Q E s
 exact wpAny_bind (wpAny_holding (wpAny_mono h (fun rv s₁ h₁=>wpAny_bind (wpAny_standAt (wpAny_bind (wpAny_operating (wpAny_mono h₁ (fun c s₂ h₂=>wpAny_holding h₂) fun J J e=>e))))) fun J J e=>e))
theorem ok_chain (G : GOk W cx d) {o1 o2 : COp} {a b z : PE} {x y w : PySem.Expr} {pos : Pos} (ha : OkE W cx cs cp d a x) (hb : OkE W cx cs cp d b y) (hz : OkE W cx cs cp d z w) (hm : behindInMarks (opC o2) w = false) :
 OkE W cx cs cp d (.chain o1 o2 a b z) (.Compare x [opC o1,opC o2] [y,w] pos):=by
 refine ⟨?_⟩
 intro c hc ok env m X L σ ps h tk v σ' Q E g dr os S V ht e H
 refine bd2 (evE_chain.symm.trans e) fun a1 σ1 e1 e=>bd2 e fun b1 σ2 e2 e=>bdE e fun t e3 e4=>?_
 rw [arm_eval_Compare]
 refine wpAny_bind (ha.1 c hc ok S V ht e1 fun ps1 h1 t1 y1 p1 S1 r1 ht1=>?_)
 show wpAny _ _ (compareChain pos y1 [opC o1,opC o2] [eval y env,markedBehindIn (opC o2) w (eval w env)]) _ _ _
 rw [markedBehindIn_of_false hm]
 refine chain_cons (hb.1 c hc ok S1 (V.mono p1) ht1 e2 fun ps2 h2 t2 y2 p2 S2 r2 ht2=>cmp_ok G.so S2 (S2.K ok) (r1.mono p2) r2 e3 ok.u30 ht2 fun t3 ht3=>wpAny_truthy_bool ?_)
 cases t with
 | false=>exact (H.eq e4) ps2 h2 t3 _ (p1.trans p2) S2 (.bool _) ht3
 | true=>exact bd2 e4 fun z1 σ3 e5 e=>mp0 e fun u e6 e=>chain_one (hz.1 c hc ok S2 (V.mono (p1.trans p2)) ht3 e5 fun ps3 h3 t4 y3 p3 S3 r3 ht4=>cmp_ok G.so S3 (S3.K ok) (r2.mono p3) r3 e6 ok.u30 ht4 fun t5 ht5=>(H.eq e) ps3 h3 t5 _ ((p1.trans p2).trans p3) S3 (.bool _) ht5)
theorem evT_chain {L : Loc} {σ : St} {o1 o2 : COp} {x y z : PE} : evT cx (.chain o1 o2 x y z) L σ = (evE cx (.chain o1 o2 x y z) L σ).bind fun (v,σ1)=>(truthyV cx σ1 v).map fun b=>(b,σ1):=rfl
theorem evT_cmp {L : Loc} {σ : St} {o1 : COp} {x y : PE} : evT cx (.cmp o1 x y) L σ = (evE cx (.cmp o1 x y) L σ).bind fun (v,σ1)=>(truthyV cx σ1 v).map fun b=>(b,σ1):=rfl
theorem tstE {G : Prop} {b b' : Bool} {s σ0 σ' : St} {v0 : V} (e7 : (truthyV cx σ0 v0).map (fun b=>(b,σ0)) = some (b',σ')) (e : some (V.bool b,s) = some (v0,σ0)) (k : some (b,s) = some (b',σ') → G) : G:=by
 cases e; exact k e7
theorem okT_chain (G : GOk W cx d) {o1 o2 : COp} {a b z : PE} {x y w : PySem.Expr} {pos : Pos} (ha : OkE W cx cs cp d a x) (hb : OkE W cx cs cp d b y) (hz : OkE W cx cs cp d z w) (hm : behindInMarks (opC o2) w = false) :
 OkT W cx cs cp d (.chain o1 o2 a b z) (.Compare x [opC o1,opC o2] [y,w] pos):=by
 refine ⟨?_⟩
 intro c hc ok env m X L σ ps h tk v σ' Q E g dr os S V ht e H
 refine bd2 (evT_chain.symm.trans e) fun v0 σ0 e0 e7=>bd2 (evE_chain.symm.trans e0) fun a1 σ1 e1 e=>bd2 e fun b1 σ2 e2 e=>bdE e fun t e3 e4=>?_
 rw [arm_isTrue_Compare]
 refine wpAny_bind (ha.1 c hc ok S V ht e1 fun ps1 h1 t1 y1 p1 S1 r1 ht1=>?_)
 show wpAny _ _ (testChain pos y1 [opC o1,opC o2] [eval y env,markedBehindIn (opC o2) w (eval w env)]) _ _ _
 rw [markedBehindIn_of_false hm]
 refine test_cons (hb.1 c hc ok S1 (V.mono p1) ht1 e2 fun ps2 h2 t2 y2 p2 S2 r2 ht2=>cmp_ok G.so S2 (S2.K ok) (r1.mono p2) r2 e3 ok.u30 ht2 fun t3 ht3=>wpAny_truthy_bool ?_)
 cases t with
 | false=>exact tstE e7 e4 fun e=>(H.eq e) ps2 h2 t3 (p1.trans p2) S2 ht3
 | true=>exact bd2 e4 fun z1 σ3 e5 e=>mp0 e fun u e6 e=>tstE e7 e fun e=>test_one (hz.1 c hc ok S2 (V.mono (p1.trans p2)) ht3 e5 fun ps3 h3 t4 y3 p3 S3 r3 ht4=>cmp_ok G.so S3 (S3.K ok) (r2.mono p3) r3 e6 ok.u30 ht4 fun t5 ht5=>wpAny_truthy_bool ((H.eq e) ps3 h3 t5 ((p1.trans p2).trans p3) S3 ht5))
theorem okT_cmp (G : GOk W cx d) {op : COp} {l r : PE} {x y : PySem.Expr} {pos : Pos} (hl : OkE W cx cs cp d l x) (hr : OkE W cx cs cp d r y) (hm : behindInMarks (opC op) y = false) : OkT W cx cs cp d (.cmp op l r) (.Compare x [opC op] [y] pos):=by
 refine ⟨?_⟩
 intro c hc ok env m X L σ ps h tk v σ' Q E g dr os S V ht e H
 refine bd2 (evT_cmp.symm.trans e) fun v0 σ0 e0 e7=>bd2 (evE_cmp.symm.trans e0) fun a σ1 e1 e=>bd2 e fun b σ2 e2 e=>mp0 e fun t e3 e=>tstE e7 e fun e=>?_
 exact wpAny_isTrue_Compare1 (hl.1 c hc ok S V ht e1 fun ps1 h1 t1 y1 p1 S1 r1 ht1=>hr.1 c hc ok S1 (V.mono p1) ht1 e2 fun ps2 h2 t2 y2 p2 S2 r2 ht2=>cmp_ok G.so S2 (S2.K ok) (r1.mono p2) r2 e3 ok.u30 ht2 fun t ht=>wpAny_truthy_bool ((H.eq e) ps2 h2 t (p1.trans p2) S2 ht)) hm
theorem okT_val (G : GOk W cx d) {e : PE} {x : PySem.Expr} (he : OkE W cx cs cp d e x) (hv : ∀ L σ,evT cx e L σ = (evE cx e L σ).bind fun (v,σ1)=>(truthyV cx σ1 v).map fun b=>(b,σ1))
 (hx : ∀ env whole,isTrue x env whole = (do let v ← whole; standAt x.pos; holding [v] (truthy v))) : OkT W cx cs cp d e x:=by
 refine ⟨?_⟩
 intro c hc ok env m X L σ ps h tk v σ' Q E g dr os S V ht ee H
 refine bd2 ((hv L σ).symm.trans ee) fun v0 σ0 e1 e=>mp0 e fun bb e2 e=>?_
 exact wpAny_isTrue_value (he.1 c hc ok S V ht e1 fun ps1 h1 t1 y1 p1 S1 r1 ht1=>truthy_ok G.so S1 (S1.K ok) r1 e2 ht1 fun t ht=>(H.eq e) ps1 h1 t p1 S1 ht) (hx _ _)
theorem okT_not {e : PE} {x : PySem.Expr} {pos : Pos} (he : OkT W cx cs cp d e x) : OkT W cx cs cp d (.notE e) (.UnaryOp .Not x pos):=by
 refine ⟨?_⟩
 intro c hc ok env m X L σ ps h tk v σ' Q E g dr os S V ht ee H
 exact mp2 (evT_notE.symm.trans ee) fun b σ0 e1 e=>wpAny_isTrue_Not (he.1 c hc ok S V ht e1 (H.eq e))
structure OkA (W : Wd) (cx : Cx) (cs : Scope) (cp : Option Cp) (d : Nat) (op : BoolOp) (e : PE) (xs : List PySem.Expr) : Prop where
 h : ∀ (c : Fc),c.cs = cs → FOk W c d → ∀ {env : Env} {m : Str → Option Value} {X : List (Addr × Obj)} {L : Loc} {σ : St} {ps : PZ} {h : Heap} {tk : Nat} {b : Bool} {σ' : St} {Q : Bool → Shared → Prop} {E : Value → Shared → Prop} {g : Array GenState} {dr : Drawn} {os : OsState},
  SR W c m X σ ps h → Vw W cp c env m X (hds ps) L → 1 ≤ tk → evT cx e L σ = some (b,σ') → HandB W c m X (hds ps) σ' b g dr os Q → wpAny (model W.prog W.w) c.A (allTrue op xs env) Q E ⟨h,g,dr,tk,os⟩
theorem okA_one {op : BoolOp} {e : PE} {x : PySem.Expr} (he : OkT W cx cs cp d e x) : OkA W cx cs cp d op e [x]:=by
 refine ⟨?_⟩
 intro c hc ok env m X L σ ps h tk v σ' Q E g dr os S V ht ee H
 cases op with
 | And =>
  refine wpAny_allTrue_And_cons (he.1 c hc ok S V ht ee fun ps1 h1 t1 p1 S1 ht1=>?_)
  cases v with
  | true=>exact wpAny_allTrue_And_nil (H ps1 h1 t1 p1 S1 ht1)
  | false=>exact H ps1 h1 t1 p1 S1 ht1
 | Or =>
  refine wpAny_allTrue_Or_cons (he.1 c hc ok S V ht ee fun ps1 h1 t1 p1 S1 ht1=>?_)
  cases v with
  | false=>exact wpAny_allTrue_Or_nil (H ps1 h1 t1 p1 S1 ht1)
  | true=>exact H ps1 h1 t1 p1 S1 ht1
theorem okA_and {l r : PE} {x : PySem.Expr} {xs : List PySem.Expr} (hl : OkT W cx cs cp d l x) (hr : OkA W cx cs cp d .And r xs) : OkA W cx cs cp d .And (.andE l r) (x :: xs):=by
 refine ⟨?_⟩
 intro c hc ok env m X L σ ps h tk v σ' Q E g dr os S V ht ee H
 refine bd2 (evT_andE.symm.trans ee) fun b σ0 e1 e2=>wpAny_allTrue_And_cons (hl.1 c hc ok S V ht e1 fun ps1 h1 t1 p1 S1 ht1=>?_)
 cases b with
 | true=>exact hr.1 c hc ok S1 (V.mono p1) ht1 e2 (H.up p1)
 | false=>exact (H.eq e2) ps1 h1 t1 p1 S1 ht1
theorem okA_or {l r : PE} {x : PySem.Expr} {xs : List PySem.Expr} (hl : OkT W cx cs cp d l x) (hr : OkA W cx cs cp d .Or r xs) : OkA W cx cs cp d .Or (.orE l r) (x :: xs):=by
 refine ⟨?_⟩
 intro c hc ok env m X L σ ps h tk v σ' Q E g dr os S V ht ee H
 refine bd2 (evT_orE.symm.trans ee) fun b σ0 e1 e2=>wpAny_allTrue_Or_cons (hl.1 c hc ok S V ht e1 fun ps1 h1 t1 p1 S1 ht1=>?_)
 cases b with
 | false=>exact hr.1 c hc ok S1 (V.mono p1) ht1 e2 (H.up p1)
 | true=>exact (H.eq e2) ps1 h1 t1 p1 S1 ht1
theorem okT_bool {op : BoolOp} {e : PE} {xs : List PySem.Expr} {pos : Pos} (he : OkA W cx cs cp d op e xs) : OkT W cx cs cp d e (.BoolOp op xs pos):=by
 refine ⟨?_⟩
 intro c hc ok env m X L σ ps h tk v σ' Q E g dr os S V ht ee H
 exact wpAny_isTrue_BoolOp (he.1 c hc ok S V ht ee H)
structure OkB (W : Wd) (cx : Cx) (cs : Scope) (cp : Option Cp) (d : Nat) (op : BoolOp) (e : PE) (xs : List PySem.Expr) : Prop where
 h : ∀ (c : Fc),c.cs = cs → FOk W c d → ∀ {pos : Pos} {env : Env} {m : Str → Option Value} {X : List (Addr × Obj)} {L : Loc} {σ : St} {ps : PZ} {h : Heap} {tk : Nat} {v : V} {σ' : St} {Q : Value → Shared → Prop} {E : Value → Shared → Prop} {g : Array GenState} {dr : Drawn} {os : OsState},
  SR W c m X σ ps h → Vw W cp c env m X (hds ps) L → 1 ≤ tk → evE cx e L σ = some (v,σ') → Hand W c m X (hds ps) σ' v g dr os Q → wpAny (model W.prog W.w) c.A (boolOp pos op (evalEach xs env)) Q E ⟨h,g,dr,tk,os⟩
theorem okB_one {op : BoolOp} {e : PE} {x : PySem.Expr} (he : OkE W cx cs cp d e x) : OkB W cx cs cp d op e [x]:=by
 refine ⟨?_⟩
 intro c hc ok pos env m X L σ ps h tk v σ' Q E g dr os S V ht ee H
 exact he.1 c hc ok S V ht ee H
theorem okB_and (G : GOk W cx d) {l r : PE} {x y : PySem.Expr} {xs : List PySem.Expr} (hl : OkE W cx cs cp d l x) (hr : OkB W cx cs cp d .And r (y :: xs)) : OkB W cx cs cp d .And (.andE l r) (x :: y :: xs):=by
 refine ⟨?_⟩
 intro c hc ok pos env m X L σ ps h tk v σ' Q E g dr os S V ht ee H
 refine bd2 (evE_andE.symm.trans ee) fun v0 σ0 e1 e=>bdE e fun b e2 e3=>?_
 refine wpAny_bind (m:=eval x env) (hl.1 c hc ok S V ht e1 fun ps1 h1 t1 y1 p1 S1 r1 ht1=>wpAny_bind (wpAny_standAt (wpAny_bind (wpAny_holding (truthy_ok G.so S1 (S1.K ok) r1 e2 ht1 fun t2 ht2=>?_)))))
 cases b with
 | true=>exact hr.1 c hc ok S1 (V.mono p1) ht2 e3 (H.up p1)
 | false=>exact wpAny_pure ((H.eq e3) ps1 h1 t2 y1 p1 S1 r1 ht2)
theorem okB_or (G : GOk W cx d) {l r : PE} {x y : PySem.Expr} {xs : List PySem.Expr} (hl : OkE W cx cs cp d l x) (hr : OkB W cx cs cp d .Or r (y :: xs)) : OkB W cx cs cp d .Or (.orE l r) (x :: y :: xs):=by
 refine ⟨?_⟩
 intro c hc ok pos env m X L σ ps h tk v σ' Q E g dr os S V ht ee H
 refine bd2 (evE_orE.symm.trans ee) fun v0 σ0 e1 e=>bdE e fun b e2 e3=>?_
 refine wpAny_bind (m:=eval x env) (hl.1 c hc ok S V ht e1 fun ps1 h1 t1 y1 p1 S1 r1 ht1=>wpAny_bind (wpAny_standAt (wpAny_bind (wpAny_holding (truthy_ok G.so S1 (S1.K ok) r1 e2 ht1 fun t2 ht2=>?_)))))
 cases b with
 | false=>exact hr.1 c hc ok S1 (V.mono p1) ht2 e3 (H.up p1)
 | true=>exact wpAny_pure ((H.eq e3) ps1 h1 t2 y1 p1 S1 r1 ht2)
theorem ok_bool {op : BoolOp} {e : PE} {xs : List PySem.Expr} {pos : Pos} (he : OkB W cx cs cp d op e xs) : OkE W cx cs cp d e (.BoolOp op xs pos):=by
 refine ⟨?_⟩
 intro c hc ok env m X L σ ps h tk v σ' Q E g dr os S V ht ee H
 rw [arm_eval_BoolOp]
 exact he.1 c hc ok S V ht ee H
theorem ok_not (G : GOk W cx d) {e : PE} {x : PySem.Expr} {pos : Pos} (he : OkE W cx cs cp d e x) : OkE W cx cs cp d (.notE e) (.UnaryOp .Not x pos):=by
 refine ⟨?_⟩
 intro c hc ok env m X L σ ps h tk v σ' Q E g dr os S V ht ee H
 refine bd2 (evE_notE.symm.trans ee) fun v0 σ0 e1 e=>mp0 e fun b e2 e=>?_
 exact wpAny_UnaryOp (he.1 c hc ok S V ht e1 fun ps1 h1 t1 y1 p1 S1 r1 ht1=>not_value (truthy_ok G.so S1 (S1.K ok) r1 e2 ht1 fun t ht=>(H.eq e) ps1 h1 t _ p1 S1 (.bool _) ht))
theorem ok_neg {e : PE} {x : PySem.Expr} {pos : Pos} (he : OkE W cx cs cp d e x) : OkE W cx cs cp d (.neg e) (.UnaryOp .USub x pos):=by
 refine ⟨?_⟩
 intro c hc ok env m X L σ ps h tk v σ' Q E g dr os S V ht ee H
 refine bd2 (evE_neg.symm.trans ee) fun v0 σ0 e1 e=>wpAny_UnaryOp (he.1 c hc ok S V ht e1 fun ps1 h1 t1 y1 p1 S1 r1 ht1=>?_)
 exact intE (f:=fun i=>some (.int (-i),σ0)) r1 e fun i t e=>PyProof.Rows.neg_int ((H.eq e) ps1 h1 (t1 + 1) _ p1 S1 (.int _ _) (tk1 1 ht1))
theorem ok_ife (G : GOk W cx d) {t b o : PE} {x y z : PySem.Expr} {pos : Pos} (ht' : OkT W cx cs cp d t x) (hb : OkE W cx cs cp d b y) (ho : OkE W cx cs cp d o z) : OkE W cx cs cp d (.ife t b o) (.IfExp x y z pos):=by
 refine ⟨?_⟩
 intro c hc ok env m X L σ ps h tk v σ' Q E g dr os S V ht ee H
 refine bd2 (evE_ife.symm.trans ee) fun v0 σ0 e1 e2=>wpAny_IfExp (ht'.1 c hc ok S V ht e1 fun ps1 h1 t1 p1 S1 ht1=>?_)
 cases v0 with
 | true=>exact hb.1 c hc ok S1 (V.mono p1) ht1 e2 (H.up p1)
 | false=>exact ho.1 c hc ok S1 (V.mono p1) ht1 e2 (H.up p1)
end
end
section
section
variable {W : Wd} {cx : Cx} {cs : Scope} {cp : Option Cp} {d : Nat}
theorem ok_attr (G : GOk W cx d) {e : PE} {f : Nat} {x : PySem.Expr} {nm : Str} {pos : Pos} (hn : W.tb[f]? = some nm) (he : OkE W cx cs cp d e x) (hb : ∀ env whole,attributeBase x nm env whole = whole) : OkE W cx cs cp d (.attr e f) (.Attribute x nm pos):=by
 refine ⟨?_⟩
 intro c hc ok env m X L σ ps h tk v σ' Q E g dr os S V ht ee H
 refine bd2 (evE_attr.symm.trans ee) fun v0 σ0 e1 e2=>?_
 rw [arm_eval_Attribute,hb]
 exact wpAny_bind (he.1 c hc ok S V ht e1 fun ps1 h1 t1 y1 p1 S1 r1 ht1=>wpAny_bind (wpAny_standAt (wpAny_bind (wpAny_holding (getAttr_ok G.so G.co S1 ok.X hn r1 e2 ht1 fun ps2 h2 t2 y2 p2 S2 r2 ht2=>wpAny_bind (wpAny_letTemporaryGo (wpAny_pure (H ps2 h2 t2 y2 (p1.trans p2) S2 r2 ht2))))))))
theorem sub_ty (G : GOk W cx d) {c : Fc} {m : Str → Option Value} {X : List (Addr × Obj)} {σ : St} {ps : PZ} {h : Heap} (S : SR W c m X σ ps h) (K : W.K.In h) {o : V} {x : Value} (ra : VR (hds ps) o x) {β : Type} {g' : List Nat → Option β} {f : O → Option β} {b : β}
 (e : sob cx σ o g' f = some b) (hf : ∀ ob,f ob = some b → (∃ vs,ob = .list vs) ∨ ∃ vs,ob = .dict vs) {g : Array GenState} {dr : Drawn} {tk : Nat} {os : OsState} :
 ∃ T id,Shared.TypeIs ⟨h,g,dr,tk,os⟩ x T ∧ typeLookup (.type T) "__getitem__" = pure (some (.builtin id)):=by
 refine sobE G.so S K ra e (fun s t J J J=>⟨"str",_,typeIs_str _ _ _,slot_str_getitem.lookup⟩) fun ob A' J ro e=>?_
 rcases hf ob e with ⟨vs,rfl⟩ | ⟨vs,rfl⟩
 ·obtain ⟨its,n,hA,_⟩:=ro
  exact ⟨"list",_,⟨_,hA,rfl⟩,slot_list_getitem.lookup⟩
 ·obtain ⟨ks,ob,hA,d1,_⟩:=ro
  have D : h.DictOf (PySem.strKind W.prog W.w) A' ks:=Heap.dictOf_iff.mpr ⟨_,hA,d1⟩
  exact ⟨"dict",_,D.mapOf.typeIs (s:=⟨h,g,dr,tk,os⟩),slot_dict_getitem.lookup⟩
theorem subO_sh {i v : V} (ob : O) (e : subO ob i = some v) : (∃ vs,ob = .list vs) ∨ ∃ vs,ob = .dict vs:=by
 cases ob with
 | list vs=>exact .inl ⟨vs,rfl⟩
 | dict vs=>exact .inr ⟨vs,rfl⟩
 | _=>exact noE e
theorem subTail {A : Around} {E Q : Value → Shared → Prop} {s : Shared} {value slice : PySem.Expr} {o i : Value} {T id : String} {ops : List Value} (hT : s.TypeIs o T)
 (hl : typeLookup (.type T) "__getitem__" = pure (some (.builtin id))) (hs : subscripted slice false o i = operate ops (getItem o i)) (h : wpAny (model W.prog W.w) A (getItem o i) Q E s) :
 wpAny (model W.prog W.w) A (subscriptTail value slice o i) Q E s:=by
 unfold subscriptTail
 refine wpAny_bind ?_
 rw [getitemInPython_of_ne hT.not_modules]
 refine wpAny_bind (wpAny_specialOf hT hl ?_)
 have fin : wpAny (model W.prog W.w) A (subscripted slice false o i) (fun r s₃=>wpAny (model W.prog W.w) A (letTemporaryGo value o r >>= fun J=>pure r) Q E s₃) E s:=by
  rw [hs]
  exact wpAny_operating (wpAny_mono h (fun r s₃ h₃=>wpAny_bind (wpAny_letTemporaryGo (wpAny_pure h₃))) fun J J x=>x)
 first
  | exact wpAny_pure (wpAny_bind fin)
  | exact wpAny_bind (wpAny_pure (wpAny_bind fin))
  | exact wpAny_bind fin
theorem ok_sub (G : GOk W cx d) {e i : PE} {x y : PySem.Expr} {pos : Pos} (he : OkE W cx cs cp d e x) (hi : OkE W cx cs cp d i y) (hs : ∀ o i,subscripted y false o i = operate [o,i] (getItem o i)) : OkE W cx cs cp d (.sub e i) (.Subscript x y pos):=by
 refine ⟨?_⟩
 intro c hc ok env m X L σ ps h tk v σ' Q E g dr os S V ht ee H
 refine bd2 (evE_sub.symm.trans ee) fun v0 σ0 e1 e=>bd2 e fun v1 σ1 e2 e=>mp0 e fun v2 e3 e=>?_
 refine Subscript_ (he.1 c hc ok S V ht e1 fun ps1 h1 t1 y1 p1 S1 r1 ht1=>hi.1 c hc ok S1 (V.mono p1) ht1 e2 fun ps2 h2 t2 y2 p2 S2 r2 ht2=>?_)
 obtain ⟨T,id,hT,hl⟩:=sub_ty G S2 (S2.K ok) (r1.mono p2) (show sob _ _ _ _ _ = _ from e3) subO_sh (g:=g) (dr:=dr) (tk:=t2) (os:=os)
 exact subTail hT hl (hs _ _) (sub_ok G.so S2 (S2.K ok) (r1.mono p2) r2 e3 ht2 ((H.eq e).up (p1.trans p2)))
structure OkP (W : Wd) (cx : Cx) (cs : Scope) (cp : Option Cp) (d : Nat) (e : PE) (x : Option PySem.Expr) : Prop where
 h : ∀ (c : Fc),c.cs = cs → FOk W c d → ∀ {env : Env} {m : Str → Option Value} {X : List (Addr × Obj)} {L : Loc} {σ : St} {ps : PZ} {h : Heap} {tk : Nat} {v : V} {σ' : St} {Q : Value → Shared → Prop} {E : Value → Shared → Prop} {g : Array GenState} {dr : Drawn} {os : OsState},
  SR W c m X σ ps h → Vw W cp c env m X (hds ps) L → 1 ≤ tk → evE cx e L σ = some (v,σ') → Hand W c m X (hds ps) σ' v g dr os Q → wpAny (model W.prog W.w) c.A (evalPart x env) Q E ⟨h,g,dr,tk,os⟩
theorem okP_none : OkP W cx cs cp d (.const .none) none:=by
 refine ⟨?_⟩
 intro c hc ok env m X L σ ps h tk v σ' Q E g dr os S V ht e H
 rw [evalPart_none]
 exact wpAny_pure ((H.eq (evE_const.symm.trans e)).stay S .none ht)
theorem okP_some {e : PE} {x : PySem.Expr} (he : OkE W cx cs cp d e x) : OkP W cx cs cp d e (some x):=⟨he.1⟩
theorem ok_slice (G : GOk W cx d) {e lo hi : PE} {x : PySem.Expr} {xl xh : Option PySem.Expr} {p pos : Pos} (he : OkE W cx cs cp d e x) (hl : OkP W cx cs cp d lo xl) (hh : OkP W cx cs cp d hi xh) : OkE W cx cs cp d (.slice e lo hi) (.Subscript x (.Slice xl xh none p) pos):=by
 refine ⟨?_⟩
 intro c hc ok env m X L σ ps h tk v σ' Q E g dr os S V ht ee H
 refine bd2 (evE_slice.symm.trans ee) fun v0 σ0 e1 e=>bd2 e fun v1 σ1 e2 e=>bd2 e fun v2 σ2 e3 e4=>?_
 refine Subscript_ (he.1 c hc ok S V ht e1 fun ps1 h1 t1 y1 p1 S1 r1 ht1=>wpAny_Slice (hl.1 c hc ok S1 (V.mono p1) ht1 e2 fun ps2 h2 t2 y2 p2 S2 r2 ht2=>hh.1 c hc ok S2 (V.mono (p1.trans p2)) ht2 e3 fun ps3 h3 t3 y3 p3 S3 r3 ht3=>?_))
 rw [evalPart_none]
 have S4:=S3.garb { cls:=.type "slice",data:=.fields #[y2,y3,.none] }
 obtain ⟨T,id,hT,hlk⟩:=sub_ty G S4 (S4.K ok) (r1.mono (p2.trans p3)) (show sob _ _ _ _ _ = _ from e4) (fun ob e=>oListE e fun vs q J=>.inl ⟨vs,q⟩) (g:=g) (dr:=dr) (tk:=t3) (os:=os)
 exact wpAny_pure (subTail (ops:=[.ref h3.objs.size,y1]) hT hlk rfl (slice_ok G.so S4 (S4.K ok) (r1.mono (p2.trans p3)) (r2.mono p3) r3 ⟨_,Heap.get?_push_size _ rfl,rfl,rfl⟩ e4 ht3 (H.up ((p1.trans p2).trans p3))))
theorem okEs_nil : OkEs W cx cs cp d [] []:=by
 refine ⟨?_⟩
 intro c hc ok pos env m X L σ ps h tk vs σ' Q E g dr os S V ht e H
 exact wpAny_items_nil ((H.eq (evEs_nil.symm.trans e)) ps h tk [] (.rfl) S .nil ht)
theorem okEs_cons {e : PE} {x : PySem.Expr} {es : List PE} {xs : List PySem.Expr} (he : OkE W cx cs cp d e x) (hes : OkEs W cx cs cp d es xs) (hx : ∀ env,starEach (x :: xs) env = (false,eval x env) :: starEach xs env) : OkEs W cx cs cp d (e :: es) (x :: xs):=by
 refine ⟨?_⟩
 intro c hc ok pos env m X L σ ps h tk vs σ' Q E g dr os S V ht ee H
 refine bd2 (evEs_cons.symm.trans ee) fun v0 σ0 e1 e=>bd2 e fun v1 σ1 e2 e=>?_
 exact wpAny_items_cons (he.1 c hc ok S V ht e1 fun ps1 h1 t1 y1 p1 S1 r1 ht1=>hes.1 c hc ok S1 (V.mono p1) ht1 e2 fun ps2 h2 t2 y2 p2 S2 r2 ht2=>(H.eq e) ps2 h2 t2 _ (p1.trans p2) S2 (.cons (r1.mono p2) r2) ht2) (hx _)
theorem alloc_list {c : Fc} {m : Str → Option Value} {X : List (Addr × Obj)} {σ : St} {ps : PZ} {h : Heap} {tk : Nat} {g : Array GenState} {dr : Drawn} {os : OsState} (S : SR W c m X σ ps h) {l : List V} {il : List Value} {v : V} {σ' : St} (i1 : All2 (VR (hds ps)) l il) (e : allocL l σ = some (v,σ')) (ht : 1 ≤ tk)
 {Q : Value → Shared → Prop} (k : Hand W c m X (hds ps) σ' v g dr os Q) : il.length ≤ sizeLine ∧ Q (.ref h.objs.size) ⟨h.push { cls:=.type "list",data:=.seq il.toArray },g,dr,tk,os⟩ :=
 ⟨gdE e fun hl J=>i1.len ▸ lim_line (Nat.le_trans hl (Nat.le_add_right _ _)),alloc_app (vs:=l) (ws:=l) (its:=il) (its':=il) S i1 e (S.F.push _) (S.F.npush S.N _ rfl) ht k⟩
theorem ok_list {es : List PE} {xs : List PySem.Expr} {pos : Pos} (he : OkEs W cx cs cp d es xs) : OkE W cx cs cp d (.listE es) (.List xs pos):=by
 refine ⟨?_⟩
 intro c hc ok env m X L σ ps h tk v σ' Q E g dr os S V ht ee H
 refine bd2 (evE_listE.symm.trans ee) fun v0 σ0 e1 e2=>?_
 exact wpAny_List (he.1 c hc ok S V ht e1 fun ps1 h1 t1 y1 p1 S1 r1 ht1=>alloc_list S1 r1 e2 ht1 (H.up p1))
theorem no_ref {hs : HS} {vs : List V} {ys : List Value} (r : All2 (VR hs) vs ys) : vs.any isR = false → All2 (VR ⟨[],hs.z⟩) vs ys:=by
 induction r with
 | nil=>exact fun J=>.nil
 | cons h _ ih =>
  intro e
  have e:=Bool.or_eq_false_iff.mp ((List.any_cons).symm.trans e)
  refine .cons ?_ (ih e.2)
  cases h with
  | none=>exact .none
  | bool b=>exact .bool b
  | int i t=>exact .int i t
  | str s t h=>exact .str s t h
  | ref=>cases e.1
  | sref a=>exact .sref a
  | frz z=>exact .frz z
  | bad A=>exact .bad A
theorem ok_tup {es : List PE} {xs : List PySem.Expr} {n : Nat} {pos : Pos} (he : OkEs W cx cs cp d es xs) : OkE W cx cs cp d (.tupE es) (.Tuple xs n pos):=by
 refine ⟨?_⟩
 intro c hc ok env m X L σ ps h tk v σ' Q E g dr os S V ht ee H
 refine bd2 (evE_tupE.symm.trans ee) fun v0 σ0 e1 e=>gdE e fun hl e=>?_
 refine wpAny_Tuple (he.1 c hc ok S V ht e1 fun ps1 h1 t1 y1 p1 S1 r1 ht1=>⟨r1.len ▸ lim_line (Nat.le_trans hl (Nat.le_add_right _ _)),?_⟩)
 have hl:=Nat.le_trans hl (Nat.le_add_right LIM LIM)
 unfold tupV at e
 cases ha : v0.any isR with
 | true =>
  rw [ha] at e
  refine (H.eq e) (ps1.add [(h1.objs.size,{ cls:=.type "tuple",data:=.seq y1.toArray })]) _ t1 _ (p1.trans pre_snoc) (S1.push1 (ob:={ cls:=.type "tuple",data:=.seq y1.toArray }) rfl (.tuple (r1.mono fun J J=>VR.mono .add) hl)) ?_ ht1
  rw [hds_snoc]
  exact VR.last (hds_len.trans S1.len.symm)
 | false =>
  rw [ha] at e
  exact (H.eq e) (ps1.tree h1.objs.size { cls:=.type "tuple",data:=.seq y1.toArray } (.tuple v0)) _ t1 _ (p1.trans pre_tree) (S1.tree (S1.F.push _) (S1.F.npush S1.N _ rfl) (fun p hp=>Heap.lt_size (S1.N p hp).1) (.tuple (no_ref r1 ha) hl)) (.frz (.inr ⟨rfl,rfl⟩)) ht1
end
end
section
theorem stored_nd {kvs : List (Str × Value)} (nd : (kvs.map (·.1)).Nodup) (k : Str) (v : Value) : ((stored kvs k v).map (·.1)).Nodup:=by
 unfold stored
 split
 ·have : (kvs.map (fun kv=>if kv.1 = k then (kv.1,v) else kv)).map (·.1) = kvs.map (·.1):=by
   rw [List.map_map]
   apply List.map_congr_left
   intro a _
   show (if a.1 = k then (a.1,v) else a).1 = a.1
   split <;> rfl
  rw [this]; exact nd
 ·rename_i hn
  rw [List.map_append]
  refine List.nodup_append.mpr ⟨nd,by simp,fun a ha b hb q=>?_⟩
  subst q
  simp only [List.map_cons,List.map_nil,List.mem_singleton] at hb
  subst hb
  obtain ⟨p,hp,hpk⟩:=List.mem_map.mp ha
  exact hn (List.any_eq_true.mpr ⟨p,hp,by simpa using hpk⟩)
theorem merged_put {hs : HS} {l : List (List Nat × V)} {kvs : List (Str × Value)} (i : All2 (KV hs) l kvs) : ∀ {d0 : List (List Nat × V)} {acc : List (Str × Value)},All2 (KV hs) d0 acc → (acc.map (·.1)).Nodup →
 All2 (KV hs) (putAll l d0) (merged acc kvs) ∧ ((merged acc kvs).map (·.1)).Nodup ∧ (putAll l d0).length ≤ d0.length + l.length:=by
 induction i with
 | nil=>intro d0 acc h nd; exact ⟨h,nd,by simp [putAll]⟩
 | @cons a b l mm h t ih =>
  intro d0 acc h0 nd
  obtain ⟨i,v⟩:=a
  obtain ⟨z,u⟩:=b
  obtain ⟨hk,hv⟩:=h
  simp only at hk hv
  subst hk
  have:=ih (stored_put hv h0 nd (key:=i)) (stored_nd nd (toS i) u)
  refine ⟨this.1,this.2.1,?_⟩
  have h1:=this.2.2
  have h2:=putS_len i v d0
  show (putAll l (putS i v d0)).length ≤ _
  simp only [List.length_cons]
  lia
section
variable {W : Wd} {cx : Cx} {cs : Scope} {cp : Option Cp} {d : Nat}
theorem SR.claim {c : Fc} {m : Str → Option Value} {X : List (Addr × Obj)} {σ : St} {ps : PZ} {h h' : Heap} {D : Addr} {o o' : Obj} {ob : O} (S : SR W c m ((D,o) :: X) σ ps h) (hs : Heap.SameBut D h h') (ho : h'.get? D = some o') (hr : ORel W.prog W.w W.tb ((hds ps).add D) ob [(D,o')]) :
 SR W c m X (σ ++ [ob]) (ps.add [(D,o')]) h':=by
 have D0:=S.N (D,o) (by simp)
 have nd:=S.nd
 have e : ((ps.flatten ++ (D,o) :: X).map (·.1)).Perm (D :: (ps.flatten ++ X).map (·.1)):=by
  rw [List.map_append,List.map_cons,List.map_append]
  exact List.perm_middle
 rw [e.nodup_iff] at nd
 have nd1:=(List.nodup_cons.mp nd).1
 have ne : ∀ p ∈ ps.flatten ++ X,p.1 ≠ D:=fun p hp q=>nd1 (q ▸ List.mem_map_of_mem hp)
 refine ⟨S.F.change hs D0.2.1 D0.2.2,fun p hp=>?_,?_,?_,S.fz⟩
 ·rcases List.mem_append.mp ((add_perm (part:=[(D,o')])).mem_iff.mp hp) with hp | hp
  ·obtain rfl:=List.mem_singleton.mp hp
   exact ⟨ho,D0.2⟩
  ·have z:=S.N p (by simp only [List.mem_append,List.mem_cons] at hp ⊢; rcases hp with q | q; exact .inl q; exact .inr (.inr q))
   exact ⟨(hs.2 _ (ne p hp)).trans z.1,z.2⟩
 ·have q:=(add_perm (part:=[(D,o')]) (ps:=ps) (X:=X)).map Prod.fst
  exact q.nodup_iff.mpr nd
 ·rw [hds_snoc]
  exact All2.snoc (S.rel.mono fun J J=>ORel.mono .add) hr
theorem SR.take {c : Fc} {m : Str → Option Value} {X : List (Addr × Obj)} {σ : St} {ps : PZ} {h : Heap} (S : SR W c m X σ ps h) (o : Obj) (hf : o.isFreed = false) : SR W c m ((h.objs.size,o) :: X) σ ps (h.push o):=by
 have N':=S.F.npush S.N o hf
 refine ⟨S.F.push _,fun p hp=>N' p ?_,?_,S.rel,S.fz⟩
 ·simp only [List.mem_append,List.mem_cons] at hp ⊢
  rcases hp with q | q | q
  ·exact .inr (.inl q)
  ·exact .inl q
  ·exact .inr (.inr q)
 ·have e : ((ps.flatten ++ (h.objs.size,o) :: X).map (·.1)).Perm (h.objs.size :: (ps.flatten ++ X).map (·.1)):=by
   rw [List.map_append,List.map_cons,List.map_append]
   exact List.perm_middle
  rw [e.nodup_iff]
  refine List.nodup_cons.mpr ⟨fun q=>?_,S.nd⟩
  obtain ⟨p,hp,e⟩:=List.mem_map.mp q
  have:=Heap.lt_size (S.N p hp).1
  rw [e] at this
  exact Nat.lt_irrefl _ this
theorem Vw.more {c : Fc} {env : Env} {m : Str → Option Value} {X : List (Addr × Obj)} {hs : HS} {L : Loc} (V : Vw W cp c env m X hs L) (p : Addr × Obj) : Vw W cp c env m (p :: X) hs L:=by
 unfold Vw at V ⊢
 split at V
 ·exact V
 ·obtain ⟨C,o,mc,h1,h2,h3,h4⟩:=V
  exact ⟨C,o,mc,h1,.tail _ h2,h3,h4⟩
noncomputable def pairT (env : Env) (pos : Pos) (l : List (PySem.Expr × PySem.Expr)) : List (Sem Value × Sem Value):=l.map fun p=>(eval p.1 env,do let x ← eval p.2 env; standAt pos; pure x)
noncomputable def KeysAre (ks : List (List Nat)) (l : List (PySem.Expr × PySem.Expr)) : Prop:=All2 (fun k p=>∃ n pos,p.1 = PySem.Expr.Constant (.str (toS k)) n pos) ks l
theorem pairs_ok : ∀ {ks : List (List Nat)} {l : List (PySem.Expr × PySem.Expr)} {es : List PE},KeysAre ks l → All2 (fun e p=>OkE W cx cs cp d e p.2) es l → ∀ (c : Fc),c.cs = cs → FOk W c d →
 ∀ {pos : Pos} {env : Env} {m : Str → Option Value} {X : List (Addr × Obj)} {L : Loc} {σ : St} {ps : PZ} {h : Heap} {tk : Nat} {vs : List V} {σ' : St} {Q : List (Value × Value) → Shared → Prop} {E : Value → Shared → Prop} {g : Array GenState} {dr : Drawn} {os : OsState},
 SR W c m X σ ps h → Vw W cp c env m X (hds ps) L → 1 ≤ tk → evEs cx es L σ = some (vs,σ') →
 (∀ ps' h' t' ys kvs,(hds ps).Le (hds ps') → SR W c m X σ' ps' h' → Carries (PySem.strKind W.prog W.w) ys kvs → All2 (KV (hds ps')) (ks.zip vs) kvs → 1 ≤ t' → Q ys ⟨h',g,dr,t',os⟩) →
 wpAny (model W.prog W.w) c.A (evalPairs (pairT env pos l)) Q E ⟨h,g,dr,tk,os⟩:=by
 intro ks l es hk
 induction hk generalizing es with
 | nil =>
  intro he c hc ok pos env m X L σ ps h tk vs σ' Q E g dr os S V ht ee H
  cases he
  simp only [evEs_nil,evEs_cons,Option.some.injEq,Prod.mk.injEq] at ee
  obtain ⟨rfl,rfl⟩:=ee
  exact evalPairs_nil (H ps h tk [] [] (.rfl) S trivial .nil ht)
 | @cons k p ks l hp t ih =>
  intro he c hc ok pos env m X L σ ps h tk vs σ' Q E g dr os S V ht ee H
  cases he with
  | @cons e _ es _ h1 h2 =>
   simp only [evEs_nil,evEs_cons,Option.bind_eq_some_iff,Prod.exists,Option.some.injEq,Prod.mk.injEq] at ee
   obtain ⟨v0,σ0,e1,v1,σ1,e2,rfl,rfl⟩:=ee
   obtain ⟨kx,vx⟩:=p
   obtain ⟨n,ppos,hkx⟩:=hp
   simp only at hkx
   subst hkx
   refine evalPairs_cons (wpAny_Constant_str (wpAny_bind (h1.1 c hc ok S V (tk:=tk + 1) (by lia) e1 fun ps1 h1' t1 y1 p1 S1 r1 ht1=>wpAny_bind (wpAny_standAt (wpAny_pure ?_)))))
   refine ih h2 c hc ok S1 (V.mono p1) ht1 e2 fun ps2 h2' t2 ys kvs p2 S2 q1 q2 ht2=>?_
   exact H ps2 h2' t2 _ ((toS k,y1) :: kvs) (p1.trans p2) S2 ⟨strKind_is _ _ _ _,rfl,q1⟩ (.cons ⟨rfl,r1.mono p2⟩ q2) ht2
theorem keys_len {ks : List (List Nat)} {l : List (PySem.Expr × PySem.Expr)} (h : KeysAre ks l) : ks.length = l.length:=All2.len h
theorem not_modules {c : Fc} (ok : FOk W c d) {m : Str → Option Value} {X : List (Addr × Obj)} {σ : St} {ps : PZ} {h : Heap} (S : SR W c m X σ ps h) : (h.objs.size == sysModules) = false:=by
 obtain ⟨g0,G0,m0,hm0,F0⟩:=S.F
 exact F0.notModules (modules_low (ok.TR G0).nolimit)
theorem zip_pairT {env : Env} {pos : Pos} : ∀ (l : List (PySem.Expr × PySem.Expr)),(evalEachOpt (l.map fun p=>some p.1) env).zip ((evalEach (l.map (·.2)) env).map fun v=>do let x ← v; standAt pos; pure x) = (pairT env pos l).map fun p=>(some p.1,p.2)
 | []=>rfl
 | p :: r=>by
  have:=zip_pairT (env:=env) (pos:=pos) r
  exact congrArg (fun t=>(some (eval p.1 env),(do let x ← eval p.2 env; standAt pos; pure x)) :: t) this
theorem ok_dict {ks : List (List Nat)} {es : List PE} {l : List (PySem.Expr × PySem.Expr)} {keys : List (Option PySem.Expr)} {values : List PySem.Expr} {pos : Pos} (hk : KeysAre ks l) (he : All2 (fun e p=>OkE W cx cs cp d e p.2) es l) (h1 : keys = l.map fun p=>some p.1) (h2 : values = l.map (·.2)) (h0 : ks ≠ []) :
 OkE W cx cs cp d (.dictE ks es) (.Dict keys values pos):=by
 refine ⟨?_⟩
 intro c hc ok env m X L σ ps h tk v σ' Q E g dr os S V ht ee H
 subst h1 h2
 simp only [evE_dictE,evE_new,evE_len,Option.bind_eq_some_iff,Prod.exists] at ee
 obtain ⟨vs,σ1,e1,e2⟩:=ee
 split at e2
 ·rename_i hl
  cases e2
  have n0 : pairT env pos l ≠ []:=by
   have:=keys_len hk
   cases l with
   | nil=>cases ks with
    | nil=>exact absurd rfl h0
    | cons a b=>simp at this
   | cons a b=>simp [pairT]
  have ms:=not_modules ok S
  refine wpAny_Dict_pairs (knd:=PySem.strKind W.prog W.w) (zip_pairT l) n0 (by simp [pairT,← keys_len hk]; exact hl.2) ?_
  have S0:=S.take { cls:=.type "dict",data:=.dict #[] } rfl
  refine pairs_ok hk he c hc ok S0 (V.more _) ht e1 fun ps' h' t' ys kvs p1 S1 q1 q2 ht'=>?_
  have e0 : Obj.IsDictOf (PySem.strKind W.prog W.w) { cls:=.type "dict",data:=.dict #[] } []:=by
   obtain ⟨o,ho,hd⟩:=Heap.dictOf_iff.mp (Heap.DictOf.new (knd:=PySem.strKind W.prog W.w) h)
   rw [Heap.get?_push_size _ rfl] at ho
   exact (Option.some.inj ho) ▸ hd
  refine ⟨kvs,q1,Heap.dictOf_iff.mpr ⟨_,(S1.N (h.objs.size,{ cls:=.type "dict",data:=.dict #[] }) (by simp)).1,e0⟩,fun h2 hd hs=>?_⟩
  obtain ⟨o',ho',hd'⟩:=Heap.dictOf_iff.mp hd
  obtain ⟨m1,m2,m3⟩:=merged_put q2 (All2.nil (R:=KV (hds ps'))) (by simp)
  have pre : (hds ps').Le ((hds ps').add h.objs.size):=.add
  have zl : (ks.zip vs).length ≤ 15:=by rw [List.length_zip]; lia
  have S2:=S1.claim (o':=o') (ob:=.dict (putAll (ks.zip vs) [])) hs ho' (.dict hd' (m1.mono fun J J z=>⟨z.1,z.2.mono pre⟩) (by simp only [List.length_nil] at m3; unfold LIM; lia) ms)
  refine H _ _ _ _ (p1.trans pre_snoc) S2 ?_ (by show 1 ≤ t' + ys.length; lia)
  rw [hds_snoc]
  exact VR.last (hds_len.trans S1.len.symm)
 ·cases e2
theorem ok_dict0 {pos : Pos} : OkE W cx cs cp d (.dictE [] []) (.Dict [] [] pos):=by
 refine ⟨?_⟩
 intro c hc ok env m X L σ ps h tk v σ' Q E g dr os S V ht ee H
 simp only [evE_dictE,evE_len,evEs_nil,evEs_cons,Option.bind_some,List.length_nil,Nat.zero_le,and_self,if_true,List.zip_nil_left,putAll,List.foldl_nil,allocO,Option.some.injEq,Prod.mk.injEq] at ee
 obtain ⟨rfl,rfl⟩:=ee
 obtain ⟨g0,G0,m0,hm0,F0⟩:=S.F
 refine newDict_K F0 (G0.news S.N) (ok.TR G0).nolimit fun D h' o F' N' lt nm hd J J J=>?_
 have S2:=S.new1 (o:=.dict []) ⟨g0,G0,m0,hm0,F'⟩ (G0.back N') lt (.dict hd .nil (by simp) nm)
 refine H _ _ _ _ pre_snoc S2 ?_ ht
 rw [hds_snoc]
 exact VR.last (hds_len.trans S.len.symm)
end
end
section
section
variable {W : Wd} {cx : Cx} {cs : Scope} {cp : Option Cp} {d : Nat}
theorem FOk.toC {c : Fc} (ok : FOk W c d) : FOkC W c d:=⟨ok.frames,ok.hh,by have:=ok.depth; lia,by have:=ok.units; lia,ok.X,ok.T,ok.kind,ok.ck⟩
noncomputable def Fc.at (c : Fc) (A : Around) : Fc:={ c with A:=A }
theorem FrU.at {c : Fc} {A : Around} {h : Heap} {m : Str → Option Value} (F : FrU c h m) : FrU (c.at A) h m:=let ⟨g,G,m0,q,f⟩:=F; ⟨g,⟨G.T,G.B,G.D⟩,m0,q,f⟩
theorem FrU.off_at {c : Fc} {A : Around} {h : Heap} {m : Str → Option Value} (F : FrU (c.at A) h m) : FrU c h m:=let ⟨g,G,m0,q,f⟩:=F; ⟨g,⟨G.T,G.B,G.D⟩,m0,q,f⟩
theorem FOk.under {c : Fc} (ok : FOk W c d) (C : Addr) (r : List Value) (kw : List (Str × Value)) : FOkC W (c.at (c.A.under (.builtin "type.__call__" ⟨.ref C :: r,kw⟩))) d:=by
 refine ⟨ok.frames,ok.hh,?_,?_,ok.X,ok.T,ok.kind,ok.ck⟩
 ·have:=ok.depth
  show c.A.depth + 1 + 3 * d + 2 ≤ 990
  lia
 ·have:=ok.units
  show c.A.units + 1 + 30 * d + 280 ≤ 9800
  lia
theorem evalArgs_any {M : Model} {A : Around} {E : Value → Shared → Prop} {s : Shared} {f : Value} {args : List (Bool × Sem Value)} {Q : Args → Shared → Prop} (hp : args.any (·.1) = false)
 (h : wpAny M A (spliced args) (fun vs s'=>Q ⟨vs,[]⟩ s') E s) : wpAny M A (evalArgs f true args []) Q E s:=by
 cases args with
 | nil =>
  unfold evalArgs
  show wpAny M A (spliced [] >>= _) Q E s
  refine wpAny_bind (wpAny_mono h (fun vs s' h'=>?_) fun J J x=>x)
  refine wpAny_holding ?_
  exact wpAny_bind (wpAny_pure (wpAny_bind (wpAny_pure (wpAny_pure h'))))
 | cons a r =>
  obtain ⟨b,x⟩:=a
  have : b = false:=by
   simp only [List.any_cons,Bool.or_eq_false_iff] at hp; exact hp.1
  subst this
  exact Calls.evalArgs_plain h
theorem callEs {f : Value} {first : List Value} {es : List PE} {xs : List PySem.Expr} (hes : OkEs W cx cs cp d es xs) {c : Fc} (hc : c.cs = cs) (ok : FOk W c d) {pos : Pos} {env : Env} (hp : (backTo pos (starEach xs env)).any (·.1) = false)
 {m : Str → Option Value} {X : List (Addr × Obj)} {L : Loc} {σ : St} {ps : PZ} {h : Heap} {tk : Nat} {vs : List V} {σ' : St} {Q : Value → Shared → Prop} {E : Value → Shared → Prop} {g : Array GenState} {dr : Drawn} {os : OsState}
 (S : SR W c m X σ ps h) (V : Vw W cp c env m X (hds ps) L) (ht : 1 ≤ tk) (e : evEs cx es L σ = some (vs,σ'))
 (hk : ∀ ps' h',(hds ps).Le (hds ps') → SR W c m X σ' ps' h' → ∃ k,(k = Keeper.frame ∨ k = Keeper.machine ∨ k = Keeper.boundFrame) ∧ Looks (model W.prog W.w) h' (keeperOf f) k)
 (H : ∀ ps' h' t' ys,(hds ps).Le (hds ps') → SR W c m X σ' ps' h' → All2 (VR (hds ps')) vs ys → 1 ≤ t' → wpAny (model W.prog W.w) c.A (call f (first ++ ys)) Q E ⟨h',g,dr,t',os⟩) :
 wpAny (model W.prog W.w) c.A (callWith pos f first (backTo pos (starEach xs env)) []) Q E ⟨h,g,dr,tk,os⟩:=by
 refine callWith_of (P:=fun h'=>∃ k,(k = Keeper.frame ∨ k = Keeper.machine ∨ k = Keeper.boundFrame) ∧ Looks (model W.prog W.w) h' (keeperOf f) k) (by rw [hp]; rfl) (fun h' p=>p) (evalArgs_any hp ?_)
 exact hes.1 c hc ok S V ht e fun ps' h' t' ys p1 S1 r1 ht1=>⟨hk ps' h' p1 S1,H ps' h' t' ys p1 S1 r1 ht1⟩
theorem ok_call (G : GOk W cx d) {f : Nat} {es : List PE} {fx : PySem.Expr} {xs : List PySem.Expr} {pos : Pos} (hf : OkE W cx cs cp d (.glob (.sref f)) fx) (hes : OkEs W cx cs cp d es xs) (hk : keepIn W.K (.ref f) = true) (hB : f < BIG)
 (hp : ∀ env,(backTo pos (starEach xs env)).any (·.1) = false)
 (he : ∀ env,eval (.Call fx xs [] pos) env = (do callWith pos (← eval fx env) [] (backTo pos (starEach xs env)) (backToKw pos (keywordEach [] env)))) : OkE W cx cs cp d (.call f es) (.Call fx xs [] pos):=by
 refine ⟨?_⟩
 intro c hc ok env m X L σ ps h tk v σ' Q E g dr os S V ht ee H
 refine bd2 (evE_call.symm.trans ee) fun vs σ1 e1 e2=>?_
 refine Call_ (hf.1 c hc ok S V ht (v:=.sref f) (σ':=σ) rfl fun ps1 h1 t1 y1 p1 S1 r1 ht1=>?_) (he env)
 cases r1
 exact callEs hes hc ok (hp env) S1 (V.mono p1) ht1 e1 (fun ps' h' J S'=>keeps_K hk h' (S'.K ok)) fun ps2 h2 t2 ys p2 S2 r2 ht2=>wpAny_call (G.call f vs σ1 v σ' hB e2 c ok.toC S2 r2 ht2 (H.up (p1.trans p2)))
theorem SR.made {c : Fc} {m : Str → Option Value} {X : List (Addr × Obj)} {σ : St} {ps : PZ} {h h' : Heap} {x dx : Addr} {cl : Nat} (S : SR W c m X σ ps h) (F' : FrU c h' m) (N' : News c.h₀ c.L h' ((x,instObj cl dx) :: (dx,dictOf [] 0) :: (ps.flatten ++ X))) (lt : ∀ p ∈ ps.flatten ++ X,p.1 < dx) (ltx : dx < x) :
 SR W c m X (σ ++ [.inst cl []]) (ps.add [(x,instObj cl dx),(dx,dictOf [] 0)]) h':=by
 refine S.new (part:=[(x,instObj cl dx),(dx,dictOf [] 0)]) F' N' ?_ (fun q hq p hp=>?_) (.inst .nil .nil (Nat.zero_le _))
 ·exact List.nodup_cons.mpr ⟨fun q=>(Nat.ne_of_lt ltx) (List.mem_singleton.mp q).symm,List.nodup_cons.mpr ⟨nofun,.nil⟩⟩
 ·have h1:=lt p hp
  rcases List.mem_cons.mp hq with rfl | hq
  ·exact Nat.ne_of_lt (Nat.lt_trans h1 ltx)
  ·obtain rfl:=List.mem_singleton.mp hq
   exact Nat.ne_of_lt h1
theorem ok_new (G : GOk W cx d) {cl : Nat} {es : List PE} {fx : PySem.Expr} {xs : List PySem.Expr} {pos : Pos} (hf : OkE W cx cs cp d (.glob (.sref cl)) fx) (hes : OkEs W cx cs cp d es xs) (hk : keepIn W.K (.ref cl) = true) (hm : makesIn W.K cl = true)
 (hi : W.tb[cx.init]? = some "__init__") (hp : ∀ env,(backTo pos (starEach xs env)).any (·.1) = false)
 (he : ∀ env,eval (.Call fx xs [] pos) env = (do callWith pos (← eval fx env) [] (backTo pos (starEach xs env)) (backToKw pos (keywordEach [] env)))) : OkE W cx cs cp d (.new cl es) (.Call fx xs [] pos):=by
 refine ⟨?_⟩
 intro c hc ok env m X L σ ps h tk v σ' Q E g dr os S V ht ee H
 refine bd2 (evE_new.symm.trans ee) fun vs σ1 e1 e=>bdE e fun gg e2 e=>bd2 e fun r σ2 e3 e4=>?_
 refine Call_ (hf.1 c hc ok S V ht (v:=.sref cl) (σ':=σ) rfl fun ps1 h1 t1 y1 p1 S1 r1 ht1=>?_) (he env)
 cases r1
 refine callEs hes hc ok (hp env) S1 (V.mono p1) ht1 e1 (fun ps' h' J S'=>keeps_K hk h' (S'.K ok)) fun ps2 h2 t2 ys p2 S2 r2 ht2=>wpAny_call ?_
 obtain ⟨x',hx',hfn,hty,_,_,_,hB⟩:=G.co.meth _ _ _ e2
 obtain rfl:=Option.some.inj (hx'.symm.trans hi)
 obtain ⟨g0,G0,m0,hm0,F0⟩:=S2.F
 refine make_K (s:=⟨h2,g,dr,t2,os⟩) F0 (G0.news S2.N) (S2.K ok) hm hfn hty fun x dx h' F' N' lt ltx=>?_
 have Sn:=S2.made ⟨g0,G0,m0,hm0,F'⟩ (G0.back N') lt ltx
 have hl : VR ((hds ps2).add x) (.ref σ1.length) (.ref x):=VR.last (hds_len.trans S2.len.symm)
 have hh : hds (ps2.add [(x,instObj cl dx),(dx,dictOf [] 0)]) = (hds ps2).add x:=hds_snoc
 refine G.call gg (.ref σ1.length :: vs) _ _ _ hB e3 (c.at _) (ok.under cl ys []) (X:=X) (m:=m) (ps:=ps2.add [(x,instObj cl dx),(dx,dictOf [] 0)]) ⟨Sn.F.at,Sn.N,Sn.nd,Sn.rel,Sn.fz⟩ (by rw [hh]; exact .cons hl (r2.mono fun J J z=>z.mono .add)) ht2 fun ps3 h3 t3 y3 p3 S3 r3 ht3=>?_
 cases r3 with
 | none=>rw [hh] at p3; exact ⟨rfl,(H.eq e4) ps3 h3 t3 _ ((p1.trans p2).trans (HS.Le.add.trans p3)) ⟨S3.F.off_at,S3.N,S3.nd,S3.rel,S3.fz⟩ (hl.mono p3) ht3⟩
 | _=>exact noE e4
theorem keep_fn {f : Nat} (this : fnIn W.K f = true) : keepIn W.K (.ref f) = true:=by
 unfold fnIn at this
 unfold keepIn
 dsimp only
 split at this
 ·rename_i q; rw [q]
 ·cases this
theorem clsCall_ok (G : GOk W cx d) (hfn : ∀ f args σ r,f < BIG → cx.call f args σ = some r → fnIn W.K f = true) {mi : Nat} {es : List PE} {nm : Str} {xs : List PySem.Expr} {pos : Pos} (hn : W.tb[mi]? = some nm) (hes : OkEs W cx cs cp d es xs) {c : Fc} (hc : c.cs = cs) (ok : FOk W c d) {env : Env} (hp : (backTo pos (starEach xs env)).any (·.1) = false)
 {m : Str → Option Value} {X : List (Addr × Obj)} {L : Loc} {σ : St} {ps : PZ} {h : Heap} {tk : Nat} {v ov : V} {σ' : St} {Q : Value → Shared → Prop} {E : Value → Shared → Prop} {g : Array GenState} {dr : Drawn} {os : OsState} {pl : Sem Bool} {A1 D1 cl n1 : Nat} {es' : List DictEntry}
 (S : SR W c m X σ ps h) (V : Vw W cp c env m X (hds ps) L) (ht : 1 ≤ tk) (r : VR (hds ps) ov (.ref A1)) (I : InstAt h A1 (instObj cl D1) cl (some (dictOf es' n1))) (gl : getL nm es' = some none)
 (e : clsCall cx cl mi ov σ (evEs cx es L) = some (v,σ')) (H : Hand W c m X (hds ps) σ' v g dr os Q) :
 wpAny (model W.prog W.w) c.A (getMethod (.ref A1) nm pl) (fun fx s₂=>wpAny (model W.prog W.w) c.A (callWith pos fx.1 fx.2 (backTo pos (starEach xs env)) []) Q E s₂) E ⟨h,g,dr,tk,os⟩:=by
 refine bdE e fun gg e2 e=>bd2 e fun vs σ2 e3 e4=>?_
 obtain ⟨x',hx',hf,hty,_,_,_,hB⟩:=G.co.meth _ _ _ e2
 obtain rfl:=Option.some.inj (hx'.symm.trans hn)
 obtain ⟨⟨g1,g2⟩,_⟩:=G.co.plain cl mi (.inr (.inl (congrArg Option.isSome e2)))
 refine method_fn (S.K ok) I g1 g2 hf hty (by show (lookIn x' (dictOf es' n1)).map _ = _; rw [lookIn_dict,gl]; rfl) ?_
 exact callEs hes hc ok hp S V ht e3 (fun ps' h' J S'=>keeps_K (keep_fn (hfn _ _ _ _ hB e4)) h' (S'.K ok)) fun ps2 h2 t2 ys p2 S2 r2 ht2=>wpAny_call (G.call gg (ov :: vs) σ2 v σ' hB e4 c ok.toC S2 (.cons (r.mono p2) r2) ht2 (H.up p2))
theorem ok_meth (G : GOk W cx d) (hfn : ∀ f args σ r,f < BIG → cx.call f args σ = some r → fnIn W.K f = true) {o : PE} {mi : Nat} {es : List PE} {x : PySem.Expr} {nm : Str} {xs : List PySem.Expr} {apos pos : Pos} (hn : W.tb[mi]? = some nm) (ho : OkE W cx cs cp d o x) (hes : OkEs W cx cs cp d es xs)
 (hp : ∀ env,(backTo pos (starEach xs env)).any (·.1) = false)
 (he : ∀ env,∃ pl,eval (.Call (.Attribute x nm apos) xs [] pos) env = (do
  let ov ← eval x env
  standAt apos.atName
  let (f,first) ← holding [ov] (getMethod ov nm pl)
  callWith pos f first (backTo pos (starEach xs env)) [])) : OkE W cx cs cp d (.meth o mi es) (.Call (.Attribute x nm apos) xs [] pos):=by
 refine ⟨?_⟩
 intro c hc ok env m X L σ ps h tk v σ' Q E g dr os S V ht ee H
 refine bd2 (evE_meth.symm.trans ee) fun v0 σ1 e1 e2=>?_
 obtain ⟨pl,he⟩:=he env
 refine MethodCall_ (pl:=pl) (ho.1 c hc ok S V ht e1 fun ps1 h1 t1 y1 p1 S1 r1 ht1=>?_) he
 have V1:=V.mono p1
 have H1:=H.up p1
 clear ee e1 H V S
 cases v0 with
 | ref a =>
  dsimp only [methV] at e2
  have ga0 : ∀ q fs cl,σ1[a]? = some (.inst cl fs) → getK mi fs = some (.ref q) → cx.clsi cl mi = true → getAttrV cx (.ref a) mi σ1 = some (.ref q,σ1):=fun q fs cl h1 h2 h3=>by
   show (σ1[a]?).bind _ = _
   rw [h1]
   show ownA cx cl mi fs σ1 _ = _
   unfold ownA
   rw [h2]
   exact if_pos h3
  have r1':=r1
  revert r1'
  refine cellIE S1 r1 e2 fun a' A1 D1 es' n1 cl fs ha hob hpp g1 g2 i1 nd1 b1 e r1'=>?_
  obtain rfl:=V.ref_inj ha
  have I : InstAt h1 A1 (instObj cl D1) cl (some (dictOf es' n1)):=⟨g1,rfl,rfl,g2⟩
  have gl:=getL_of G.co.nd hn i1
  cases hq : getK mi fs with
  | some vq =>
   rw [hq] at e
   cases vq with
   | ref q =>
    refine gdE e fun hci e=>bdE e fun ob hqq e=>?_
    cases ob with
    | meth gg self =>
     refine bd2 e fun vs σ2 e3 e=>gdE e fun hq2 e4=>?_
     obtain ⟨hq2,hB⟩:=hq2
     obtain ⟨⟨g1,g2⟩,_⟩:=G.co.plain _ _ (.inl hci)
     refine method_usual (r:=none) (S1.K ok) I g1 g2 (G.co.name hn hci).1 rfl (getAttr_ok G.so G.co S1 ok.X hn r1' (ga0 q fs cl hob hq hci) ht1 fun ps2 h2 t2 y2 p2 S2 r2 ht2=>?_)
     have key : ∀ {ps' : PZ} {h' : Heap},(hds ps2).Le (hds ps') → SR W c m X σ2 ps' h' → ∃ A3 y3,y2 = .ref A3 ∧ h'.get? A3 = some (methodObj (.ref gg) y3) ∧ VR (hds ps') self y3:=fun p' S'=>by
      refine ownE S' (r2.mono p') hq2 fun part3 hp3 hr3=>?_
      cases hr3 with
      | meth rs=>exact ⟨_,_,rfl,S'.at hp3 (.head _),rs⟩
     refine callEs hes hc ok (hp env) S2 (V1.mono p2) ht2 e3 (fun ps' h' p' S'=>?_) fun ps3 h3 t3 ys p3 S3 r3 ht3=>wpAny_call ?_
     ·obtain ⟨A3,y3,rfl,ha,_⟩:=key p' S'
      exact keeps_M (hfn _ _ _ _ hB e4) h' ⟨ha,S'.K ok⟩
     ·obtain ⟨A3,y3,rfl,ha,rs⟩:=key p3 S3
      exact method_call ha (G.call gg (self :: vs) σ2 v σ' hB e4 c ok.toC S3 (.cons rs r3) ht3 (H1.up (p2.trans p3)))
    | _=>exact noE e
   | _=>exact noE e
  | none =>
   rw [hq] at e gl
   exact clsCall_ok G hfn hn hes hc ok (hp env) S1 V1 ht1 r1' I gl e H1
 | sref a =>
  cases r1
  refine bdE e2 fun ob hob e=>oInstE e fun cl fs q e1=>?_
  subst q
  obtain ⟨es',D1,n1,g1,g2,i1,_⟩:=G.so.ro (hs:=hds ps1) (S1.K ok) hob
  have gl:=getL_of G.co.nd hn i1
  cases hq : getK mi fs with
  | some _=>rw [hq] at e1; exact noE e1
  | none =>
   rw [hq] at e1 gl
   exact clsCall_ok G hfn hn hes hc ok (hp env) S1 V1 ht1 (.sref a) ⟨g1,rfl,rfl,g2⟩ gl e1 H1
 | _=>exact noE e2
end
end
section
section
variable {W : Wd} {cx : Cx} {cs : Scope} {cp : Option Cp} {d : Nat}
noncomputable def Val1 (W : Wd) (cx : Cx) (d : Nat) (f : Value) (g1 : V → St → Option (V × St)) : Prop :=
 ∀ (c : Fc),FOk W c d → ∀ {m : Str → Option Value} {X : List (Addr × Obj)} {σ : St} {ps : PZ} {h : Heap} {tk : Nat} {v r : V} {σ' : St} {y : Value} {Q : Value → Shared → Prop} {E : Value → Shared → Prop} {g : Array GenState} {dr : Drawn} {os : OsState},
  SR W c m X σ ps h → VR (hds ps) v y → 1 ≤ tk → g1 v σ = some (r,σ') → Hand W c m X (hds ps) σ' r g dr os Q → wpAny (model W.prog W.w) c.A (call f [y]) Q E ⟨h,g,dr,tk,os⟩
structure BtOk (W : Wd) (cs : Scope) (cp : Option Cp) (x : Str) (y : Value) : Prop where
 hg : nsIn W.K mainGlobals x = some none
 hv : bootBuiltins x = some y
 hn : x ≠ "__name__"
 hk : (scOf cs cp).names.lookup x = some .globalImplicit
 hs : (scOf cs cp).kind = .function
 hd : (x == ("__debug__" : Str)) = false
theorem keeps_bt {M : Model} {h : Heap} {f : Value} (hf : ∀ a,f ≠ .ref a) : ∃ k,(k = Keeper.frame ∨ k = Keeper.machine ∨ k = Keeper.boundFrame) ∧ Looks M h (keeperOf f) k:=by
 refine ⟨.machine,.inr (.inl rfl),?_⟩
 cases f with
 | ref a=>exact absurd rfl (hf a)
 | _=>exact Looks.of_pure rfl
theorem ok_fn1 {f : Value} {g1 : V → St → Option (V × St)} {mk e : PE} {x : PySem.Expr} {nm : Str} {npos pos : Pos} (hev : ∀ L σ,evE cx mk L σ = (evE cx e L σ).bind fun p=>g1 p.1 p.2) (B : BtOk W cs cp nm f) (hf : ∀ a,f ≠ .ref a) (V1 : Val1 W cx d f g1) (he : OkE W cx cs cp d e x)
 (hx : ∀ env,starEach [x] env = (false,eval x env) :: starEach [] env)
 (hc : ∀ env,eval (.Call (.Name nm npos) [x] [] pos) env = (do callWith pos (← eval (.Name nm npos) env) [] (backTo pos (starEach [x] env)) (backToKw pos (keywordEach [] env)))) : OkE W cx cs cp d mk (.Call (.Name nm npos) [x] [] pos):=by
 refine ⟨?_⟩
 intro c hcs ok env m X L σ ps h tk v σ' Q E g dr os S V ht ee H
 refine bd2 ((hev L σ).symm.trans ee) fun v0 σ1 e1 e2=>?_
 refine Call_ (name_bt S ok hcs V B.hg B.hv B.hn B.hk B.hs B.hd ?_) (hc env)
 refine callEs (first:=[]) (okEs_cons he okEs_nil hx) hcs ok (by rw [hx]; rfl) S V ht (vs:=[v0]) (σ':=σ1) (by rw [evEs_cons,e1]; rfl) (fun J J J J=>keeps_bt hf) fun ps2 h2 t2 ys p2 S2 r2 ht2=>?_
 cases r2 with
 | cons r2 rn =>
  cases rn
  exact V1 c ok S2 r2 ht2 e2 (H.up p2)
theorem len_ok (G : GOk W cx d) : Val1 W cx d (.builtin "len") (lenV cx):=by
 intro c ok m X σ ps h tk v r σ' y Q E g dr os S ra ht e H
 refine sobE G.so S (S.K ok) ra e (fun s t J hl e=>?_) fun o A' J ro e=>?_
 ·refine PyProof.Rows.len_str (by rw [toS_len]; exact Int.not_le.mpr (lim63 (Nat.le_trans hl (Nat.le_add_right _ _)))) ?_
  rw [toS_len]
  exact (H.eq e).stay (t:=tk + 1 + 1) S (.int _ _) (tk1 2 ht)
 ·cases o with
  | list vs =>
   obtain ⟨its,n,hA,i1,hn⟩:=ro
   refine PyProof.Rows.len_list (items:=its.toArray) ⟨_,hA,rfl,_,rfl⟩ (by rw [List.size_toArray,← i1.len]; exact lim63 hn) ?_
   rw [List.size_toArray,← i1.len]
   exact (H.eq e).stay (t:=tk + 1 + 1) S (.int _ _) (tk1 2 ht)
  | dict kvs =>
   obtain ⟨ks,ob,hA,d1,i1,b1,y1⟩:=ro
   have D : h.DictOf (PySem.strKind W.prog W.w) A' ks:=Heap.dictOf_iff.mpr ⟨_,hA,d1⟩
   refine call_len_dict y1 D (by rw [← i1.len]; exact lim63 (Nat.le_trans b1 (Nat.le_add_right _ _))) ?_
   rw [← i1.len]
   exact (H.eq e).stay (t:=tk + 1 + 1) S (.int _ _) (tk1 2 ht)
  | _=>exact noE e
theorem ord_ok : Val1 W cx d (.builtin "ord") ordV:=by
 intro c ok m X σ ps h tk v r σ' y Q E g dr os S ra ht e H
 refine strE ra e fun s t J e=>?_
 cases s with
 | nil=>exact noE e
 | cons a s=>cases s with
  | nil=>exact PySem.P.ord_of_char ((H.eq e).stay (t:=tk + 1) S (.int _ _) (tk1 1 ht))
  | cons _ _=>exact noE e
theorem chr_ok : Val1 W cx d (.builtin "chr") chrV:=by
 intro c ok m X σ ps h tk v r σ' y Q E g dr os S ra ht e H
 exact intE ra e fun i t e=>gdE e fun hl e=>PySem.P.chr_of_int (by simp; lia) ((H.eq e).stay (y:=.str (toS [_]) tk) (t:=tk + 1) S (.str _ _ (show 1 ≤ LIM by decide)) (tk1 1 ht))
theorem sum_ints {hs : HS} : ∀ {vs : List V} {its : List Value} {a r : Int},All2 (VR hs) vs its → sumV vs a = some r → ∃ ns,IntsAre its ns ∧ r = a + ns.sum
 | [],_,a,r,i,e=>by cases i; cases e; exact ⟨[],.nil,by simp⟩
 | v :: vs,_,a,r,i,e=>by
  cases i with
  | cons h t =>
   cases v with
   | int z =>
    cases h
    obtain ⟨ns,h1,h2⟩:=sum_ints (a:=a + z) t e
    exact ⟨z :: ns,.cons _ _ h1,h2.trans ((Int.add_assoc ..).trans (congrArg (a + ·) List.sum_cons.symm))⟩
   | _=>exact noE e
theorem sum_ok (G : GOk W cx d) : Val1 W cx d (.builtin "sum") (sumOV cx):=by
 intro c ok m X σ ps h tk v r σ' y Q E g dr os S ra ht e H
 refine objE G.so S (S.K ok) ra e fun o A' J ro e=>oListE e fun vs q e1=>mp0 e1 fun i hi e2=>?_
 subst q
 obtain ⟨its,n,hA,i1,hn⟩:=ro
 obtain ⟨ns,h1,h2⟩:=sum_ints i1 hi
 obtain ⟨g0,G0,m0,hm0,F0⟩:=S.F
 refine wpAny_with_toks (Nat.le_refl _) (sumK ok.hh F0 (G0.news S.N) ⟨_,hA,rfl,_,rfl⟩ h1 fun h' tk' t' F' N' hk=>?_)
 rw [Int.zero_add] at h2
 subst h2
 exact (H.eq e2) ps h' tk' _ (.rfl) (S.keep ⟨g0,G0,m0,hm0,F'⟩ (G0.back N')) (.int _ _) (Nat.le_trans ht hk)
theorem rng_new {c : Fc} {m : Str → Option Value} {X : List (Addr × Obj)} {σ : St} {ps : PZ} {h : Heap} {tk : Nat} {g : Array GenState} {dr : Drawn} {os : OsState} (S : SR W c m X σ ps h) {a b s : Int} {t u w : Tok} {v : V} {σ' : St} (e : allocO (.rng a b s) σ = some (v,σ')) (ht : 1 ≤ tk) {Q : Value → Shared → Prop} (k : Hand W c m X (hds ps) σ' v g dr os Q) :
 Q (.ref h.objs.size) ⟨h.push { cls:=.type "range",dict:=none,data:=.fields #[.int a t,.int b u,.int s w],slots:=#[] },g,dr,tk,os⟩:=by
 refine (k.eq e) _ _ _ _ pre_snoc (S.push1 (o:=.rng _ _ _) rfl .rng) ?_ ht
 rw [hds_snoc]
 exact VR.last (hds_len.trans S.len.symm)
theorem range_ok : Val1 W cx d (.type "range") rangeV:=by
 intro c ok m X σ ps h tk v r σ' y Q E g dr os S ra ht e H
 exact intE ra e fun i t e=>gdE e fun hl e=>call_range_1 (rng_new S e (tk1 (t:=tk) 2 ht) H)
theorem alloc_copy {c : Fc} {m : Str → Option Value} {X : List (Addr × Obj)} {σ : St} {ps : PZ} {h : Heap} {tk : Nat} {g : Array GenState} {dr : Drawn} {os : OsState} (S : SR W c m X σ ps h) {l : List V} {il : List Value} {v : V} {σ' : St} (i1 : All2 (VR (hds ps)) l il) (e : allocL l σ = some (v,σ')) (ht : 1 ≤ tk)
 {D : Addr} {n : Nat} {h' : Heap} (F' : FrU c h' m) (N' : News c.h₀ c.L h' ((D,listOf il.toArray n) :: (ps.flatten ++ X))) (lt : ∀ p ∈ ps.flatten ++ X,p.1 < D)
 {Q : Value → Shared → Prop} (k : Hand W c m X (hds ps) σ' v g dr os Q) : Q (.ref D) ⟨h',g,dr,tk,os⟩:=by
 refine gdE e fun hl e=>(k.eq e) (ps.add [(D,listOf il.toArray n)]) _ tk _ pre_snoc (S.new1 F' N' lt (.list (i1.mono fun J J=>VR.mono .add) (Nat.le_trans hl (Nat.le_add_right _ _)))) ?_ ht
 rw [hds_snoc]
 exact VR.last (hds_len.trans S.len.symm)
theorem size_lim {hs : HS} {l : List V} {il : List Value} (i : All2 (VR hs) l il) (h : l.length ≤ LIM + LIM) : il.toArray.size ≤ sizeLine:=by
 simp only [List.size_toArray,← i.len]; exact lim_line h
theorem keys_vr {hs : HS} {prog : Program} {w : World} : ∀ {kvs : List (List Nat × V)} {ks : List (Str × Value)} {vs : List Value},All2 (KV hs) kvs ks → (kvs.all fun p=>decide (p.1.length ≤ LIM)) = true → vs.length = ks.length →
 (∀ (j : Nat) v,vs[j]? = some v → ∃ k x,ks[j]? = some (k,x) ∧ (PySem.strKind prog w).is k v = true) → All2 (VR hs) (kvs.map fun p=>.str p.1) vs
 | _,_,[],.nil,_,_,_=>.nil
 | _,_,_ :: _,.nil,_,hl,_=>by simp at hl
 | _,_,[],.cons _ _,_,hl,_=>by simp at hl
 | _,_,v :: vs,.cons (a:=a) (b:=b) h t,hb,hl,hv=>by
  rw [List.all_cons,Bool.and_eq_true] at hb
  refine .cons ?_ (keys_vr (prog:=prog) (w:=w) t hb.2 (by simpa using hl) fun j u hu=>?_)
  ·obtain ⟨k,x,hk,hs⟩:=hv 0 v rfl
   simp at hk
   obtain ⟨t',rfl⟩:=Value.isStrOf_shape hs
   have h1:=h.1
   rw [hk] at h1
   simp only at h1
   subst h1
   exact .str _ _ (by simpa using hb.1)
  ·have:=hv (j + 1) u (by simpa using hu)
   simpa using this
theorem SR.grow1 {c : Fc} {m : Str → Option Value} {X : List (Addr × Obj)} {σ : St} {ps : PZ} {h h' : Heap} (S : SR W c m X σ ps h) (hk : ∀ b x,h.get? b = some x → h'.get? b = some x) {ob : Obj} {o : O} (ho : h'.get? h.objs.size = some ob)
 (hr : ORel W.prog W.w W.tb ((hds ps).add h.objs.size) o [(h.objs.size,ob)]) : SR W c m X (σ ++ [o]) (ps.add [(h.objs.size,ob)]) h':=by
 refine S.new1 (S.F.keeps hk) (fun p hp=>?_) (fun p hp=>Heap.lt_size (S.N p hp).1) hr
 rcases List.mem_cons.mp hp with rfl | hp
 ·refine ⟨ho,Nat.ne_of_gt (let ⟨_,_,f⟩:=S.F.ns; f.lt),?_⟩
  obtain ⟨g0,G0,m0,hm0,F0⟩:=S.F
  refine G0.none.mpr ?_
  cases q : g0.get? h.objs.size with
  | none=>rfl
  | some x=>exact absurd (Heap.lt_size (F0.keep _ _ q)) (Nat.lt_irrefl _)
 ·exact ⟨hk _ _ (S.N p hp).1,(S.N p hp).2⟩
theorem toS_cps (l : List Nat) : (toS l).cps.size = l.length:=by simp [toS]
theorem signs_vr {hs : HS} : ∀ {l : List Nat} {ys : List Value},ys.length = l.length → (∀ (j : Nat) v,ys[j]? = some v → ∃ c u,l[j]? = some c ∧ v = .str ⟨#[c]⟩ u) → All2 (VR hs) (l.map fun ch=>V.str [ch]) ys
 | [],[],_,_=>.nil
 | [],_ :: _,h,_=>by simp at h
 | _ :: _,[],h,_=>by simp at h
 | x :: l,y :: ys,h,hv=>by
  refine .cons ?_ (signs_vr (by simpa using h) fun j v e=>by simpa using hv (j + 1) v (by simpa using e))
  obtain ⟨c,u,h1,rfl⟩:=hv 0 y rfl
  simp at h1
  subst h1
  exact .str [x] u (by unfold LIM; simp)
theorem keysE {G : Prop} {kvs : List (List Nat × V)} {vs : List V} (e : keysO kvs = some vs) (k : (kvs.all fun p=>decide (p.1.length ≤ LIM)) = true → vs = (kvs.map fun p=>.str p.1) → G) : G:=gdE e fun hb e=>k hb (Option.some.inj e).symm
theorem listOf_ok (G : GOk W cx d) : Val1 W cx d (.type "list") (fun v σ=>(listOfV cx σ v).bind fun vs=>allocL vs σ):=by
 intro c ok m X σ ps h tk v r σ' y Q E g dr os S ra ht e H
 refine bdE e fun vs e1 e2=>sobE G.so S (S.K ok) ra e1 (fun s t J hl e1=>?_) fun o A' J ro e1=>?_
 ·obtain rfl:=Option.some.inj e1
  refine wpAny_with_toks (Nat.le_refl _) (call_list_str ok.hh (toS s) t (fun h' tk' acc' c' hk hD hacc hkk=>?_) (by rw [toS_cps]; exact lim_line (Nat.le_trans hl (Nat.le_add_right _ _))))
  refine gdE e2 fun hlim e2=>?_
  have S':=S.grow1 (o:=.list (s.map fun ch=>V.str [ch])) (ob:=listOf acc'.toList.toArray c') hk (by rw [Array.toArray_toList]; exact hD) (.list (signs_vr (by simpa [toS] using hacc.1) fun j v hv=>by
   obtain ⟨c1,u,h1,h2⟩:=hacc.2 j v (by simpa using hv)
   exact ⟨c1,u,by simpa [toS] using h1,h2⟩) (Nat.le_trans hlim (Nat.le_add_right _ _)))
  refine (H.eq e2) _ _ _ _ pre_snoc S' ?_ (Nat.le_trans ht hkk)
  rw [hds_snoc]
  exact VR.last (hds_len.trans S.len.symm)
 ·obtain ⟨g0,G0,m0,hm0,F0⟩:=S.F
  cases o with
  | list vs' =>
   obtain rfl:=Option.some.inj e1
   obtain ⟨its,n,hA,i1,hn⟩:=ro
   exact list_copyK F0 (G0.news S.N) ⟨_,hA,rfl,_,rfl⟩ (fun D c' h' F' N' lt=>alloc_copy S i1 e2 ht ⟨g0,G0,m0,hm0,F'⟩ (G0.back N') lt H) (size_lim i1 hn)
  | tuple vs' =>
   obtain rfl:=Option.some.inj e1
   obtain ⟨its,n,hA,i1,hn⟩:=ro
   exact list_copyKT F0 (G0.news S.N) ⟨_,hA,rfl,_,rfl⟩ (fun D c' h' F' N' lt=>alloc_copy S i1 e2 ht ⟨g0,G0,m0,hm0,F'⟩ (G0.back N') lt H) (size_lim i1 hn)
  | dict kvs =>
   obtain ⟨ks,ob,hA,d1,i1,b1,y1⟩:=ro
   refine keysE e1 fun hb q=>?_
   subst q
   have D : h.DictOf (PySem.strKind W.prog W.w) A' ks:=Heap.dictOf_iff.mpr ⟨_,hA,d1⟩
   obtain ⟨ep,hat⟩:=D.dictAt
   exact wpAny_with_toks (Nat.le_refl _) (kdl_N (kdl_dict (knd:=PySem.strKind W.prog W.w) (kvs:=ks) (ep:=ep) y1) ok.hh F0 (G0.news S.N) hat (i1.len ▸ lim_line (Nat.le_trans b1 (Nat.le_add_right _ _))) fun B c' h' tk' vs F' N' lt hl hv hk=>alloc_copy S (keys_vr i1 hb hl hv) e2 (Nat.le_trans ht hk) ⟨g0,G0,m0,hm0,F'⟩ (G0.back N') lt H)
  | _=>exact noE e1
end
end
section
section
variable {W : Wd} {cx : Cx} {cs : Scope} {cp : Option Cp} {d : Nat}
noncomputable def ValM (W : Wd) (cx : Cx) (d : Nat) (id : String) (gm : V → List V → St → Option (V × St)) : Prop :=
 ∀ (c : Fc),FOk W c d → ∀ {m : Str → Option Value} {X : List (Addr × Obj)} {σ : St} {ps : PZ} {h : Heap} {tk : Nat} {o r : V} {vs : List V} {σ' : St} {x : Value} {ys : List Value} {Q : Value → Shared → Prop} {E : Value → Shared → Prop} {g : Array GenState} {dr : Drawn} {os : OsState},
  SR W c m X σ ps h → VR (hds ps) o x → All2 (VR (hds ps)) vs ys → 1 ≤ tk → gm o vs σ = some (r,σ') → Hand W c m X (hds ps) σ' r g dr os Q → wpAny (model W.prog W.w) c.A (call (.builtin id) (x :: ys)) Q E ⟨h,g,dr,tk,os⟩
noncomputable def GetM (W : Wd) (id : String) (nm : Str) (P : V → St → Prop) : Prop :=
 ∀ (c : Fc) {m : Str → Option Value} {X : List (Addr × Obj)} {σ : St} {ps : PZ} {h : Heap} {tk : Nat} {o : V} {x : Value} {pl : Sem Bool} {A : Around} {Q : Value × List Value → Shared → Prop} {E : Value → Shared → Prop} {g : Array GenState} {dr : Drawn} {os : OsState},
  SR W c m X σ ps h → VR (hds ps) o x → P o σ → Q (.builtin id,[x]) ⟨h,g,dr,tk,os⟩ → wpAny (model W.prog W.w) A (getMethod x nm pl) Q E ⟨h,g,dr,tk,os⟩
theorem ok_bm {id : String} {gm : V → List V → St → Option (V × St)} {P : V → St → Prop} {mk o : PE} {es : List PE} {x : PySem.Expr} {xs : List PySem.Expr} {nm : Str} {apos pos : Pos}
 (hev : ∀ L σ r σ',evE cx mk L σ = some (r,σ') → ∃ ov σ1 vs σ2,evE cx o L σ = some (ov,σ1) ∧ P ov σ1 ∧ evEs cx es L σ1 = some (vs,σ2) ∧ gm ov vs σ2 = some (r,σ')) (GM : GetM W id nm P) (VM : ValM W cx d id gm)
 (ho : OkE W cx cs cp d o x) (hes : OkEs W cx cs cp d es xs) (hp : ∀ env,(backTo pos (starEach xs env)).any (·.1) = false)
 (he : ∀ env,∃ pl,eval (.Call (.Attribute x nm apos) xs [] pos) env = (do
  let ov ← eval x env
  standAt apos.atName
  let (f,first) ← holding [ov] (getMethod ov nm pl)
  callWith pos f first (backTo pos (starEach xs env)) [])) : OkE W cx cs cp d mk (.Call (.Attribute x nm apos) xs [] pos):=by
 refine ⟨?_⟩
 intro c hc ok env m X L σ ps h tk v σ' Q E g dr os S V ht ee H
 obtain ⟨ov,σ1,vs,σ2,e1,hP,e2,e3⟩:=hev _ _ _ _ ee
 obtain ⟨pl,he⟩:=he env
 refine MethodCall_ (pl:=pl) (ho.1 c hc ok S V ht e1 fun ps1 h1 t1 y1 p1 S1 r1 ht1=>GM c S1 r1 hP ?_) he
 refine callEs hes hc ok (hp env) S1 (V.mono p1) ht1 e2 (fun J J J J=>keeps_bt (fun a q=>nomatch q)) fun ps2 h2 t2 ys p2 S2 r2 ht2=>?_
 exact VM c ok S2 (r1.mono p2) r2 ht2 e3 (H.up (p1.trans p2))
@[elab_as_elim] theorem vconsE {hs : HS} {P : List Value → Prop} {β : Type} {vs : List V} {ys : List Value} {f : V → List V → Option β} {b : β} (rs : All2 (VR hs) vs ys) (e : vcons vs f = some b) (k : ∀ v y r ys',VR hs v y → All2 (VR hs) r ys' → f v r = some b → P (y :: ys')) : P ys:=by
 cases rs with
 | nil=>exact noE e
 | cons h t=>exact k _ _ _ _ h t e
@[elab_as_elim] theorem vnilE {hs : HS} {P : List Value → Prop} {β : Type} {vs : List V} {ys : List Value} {f : Option β} {b : β} (rs : All2 (VR hs) vs ys) (e : vnil vs f = some b) (k : f = some b → P []) : P ys:=by
 cases rs with
 | nil=>exact k e
 | cons h t=>exact noE e
noncomputable def IsStrV (o : V) (_ : St) : Prop:=∃ s,o = .str s
theorem get_str {id : String} {nm : Str} (slot : Slot "str" nm id) (ty : typeOf (.builtin id) = pure (.type "method_descriptor")) : GetM W id nm IsStrV:=by
 intro c m X σ ps h tk o x pl A Q E g dr os S ra hP hq
 obtain ⟨s,rfl⟩:=hP
 cases ra
 exact GM.of _ (typeIs_str _ _ _) slot ty GM.noRef hq
theorem isList_of {σ : St} {o : V} (e : isListV σ o = true) : ∃ a vs,o = .ref a ∧ σ[a]? = some (.list vs):=by
 cases o with
 | ref a =>
  dsimp only [isListV] at e
  cases q : σ[a]? with
  | none=>rw [q] at e; cases e
  | some o =>
   rw [q] at e
   cases o with
   | list vs=>exact ⟨a,vs,rfl,q⟩
   | _=>cases e
 | _=>cases e
theorem get_list {id : String} {nm : Str} (slot : Slot "list" nm id) (ty : typeOf (.builtin id) = pure (.type "method_descriptor")) : GetM W id nm (fun o σ=>isListV σ o = true):=by
 intro c m X σ ps h tk o x pl A Q E g dr os S ra hP hq
 obtain ⟨a,vs,rfl,ho⟩:=isList_of hP
 obtain ⟨part,hp,rfl,hr⟩:=S.own ra ho
 cases hr with
 | @list _ its A1 n1 i1 hn =>
  have g1:=S.at hp (.head _)
  exact getMethod_builtin (s:=⟨h,g,dr,tk,os⟩) ⟨_,g1,rfl⟩ PySem.F.plainAttrs_list slot ty (fun a e=>by cases e; exact ⟨_,g1,rfl⟩) hq
theorem SR.turn {c : Fc} {m : Str → Option Value} {X : List (Addr × Obj)} {σ : St} {ps : PZ} {h : Heap} (S : SR W c m X σ ps h) {a : Nat} {A1 : Addr} {its its' : List Value} {n1 : Nat} (hp : ps.p[a]? = some [(A1,listOf its.toArray n1)]) (f : Array Value → Array Value) (hf : f its.toArray = its'.toArray) {vs : List V}
 (i : All2 (VR (hds ps)) vs its') (hl : vs.length ≤ LIM + LIM) : ∃ ps',hds ps' = hds ps ∧ SR W c m X (σ.set a (.list vs)) ps' (h.update A1 (Obj.mapSeq f)):=by
 have g1:=S.at hp (.head _)
 have q:=PySem.IsL.update (g1 : PySem.IsL h _ its.toArray n1) f
 rw [hf] at q
 obtain ⟨S',he⟩:=S.put (pre:=[]) (post:=[]) (ob:=.list vs) hp (Heap.SameBut.update ..) q (.list i hl)
 exact ⟨_,he,S'⟩
theorem append_ok : ValM W cx d "list.append" (fun o vs σ=>vcons vs fun v r=>vnil r (appendV o v σ)):=by
 intro c ok m X σ ps h tk o r vs σ' x ys Q E g dr os S ra rs ht e H
 refine vconsE rs e fun v0 y0 J J rv rs e=>vnilE rs e fun e=>cellLE S ra e fun a A1 its n1 vs' J J hp g1 i1 hn e=>gdE e fun hl e=>?_
 refine append_at (s:=⟨h,g,dr,tk,os⟩) g1 (fun h' hs ho'=>?_) (size_lim i1 hn)
 have e1 : its.toArray.push y0 = (its ++ [y0]).toArray:=List.push_toArray ..
 rw [e1] at ho'
 obtain ⟨S',he⟩:=S.put (pre:=[]) (post:=[]) (ob:=.list (vs' ++ [v0])) hp hs ho' (.list (i1.snoc rv) (by rw [List.length_append]; exact Nat.add_le_add hl (show 1 ≤ LIM by decide)))
 exact (H.eq e) _ _ _ _ (by rw [he]; exact .rfl) S' .none ht
theorem erase_arr (l : List Value) (k : Nat) (hk : k < l.length) : l.toArray.eraseIdxIfInBounds k = (l.eraseIdx k).toArray:=by
 unfold Array.eraseIdxIfInBounds
 rw [dif_pos (by simpa using hk)]
 apply Array.toList_inj.mp
 rw [Array.toList_eraseIdx]
theorem popAt_ok : ValM W cx d "list.pop" (fun o vs σ=>popL o vs σ):=by
 intro c ok m X σ ps h tk o r vs σ' x ys Q E g dr os S ra rs ht e H
 refine vnilE rs e fun e=>?_
 refine cellLE S ra e fun a A1 its n1 vs' J J hp g1 i1 hn e=>bdE e fun k hk e=>mp0 e fun v hv e=>?_
 obtain ⟨y,hy,ry⟩:=i1.get hv
 have hkl : k < its.length:=(List.getElem?_eq_some_iff.mp hy).1
 have hk2 : k = its.toArray.size - 1:=by
  rw [List.size_toArray,← i1.len]
  refine ifE hk (fun h0 J=>absurd h0 (by decide)) fun J e=>gdE e fun J e=>?_
  exact (Option.some.inj e).symm
 obtain ⟨ps',he,S'⟩:=S.turn hp (fun xs=>xs.eraseIdxIfInBounds k) (erase_arr its k hkl) (i1.eraseIdx k) (Nat.le_trans (List.length_eraseIdx_le ..) hn)
 refine call_meets PySem.F.slot_list_pop ⟨_,g1,rfl⟩ PySem.F.entry_list_pop (PySem.F.args_list_pop_1 _) (PySem.MeetsSeq.list_pop_last A1 its.toArray n1 y (by rw [← hk2]; simpa using hy) (size_lim i1 hn)) ⟨g1,?_⟩
 rw [← hk2]
 exact (H.eq e) _ _ _ _ (by rw [he]; exact .rfl) S' (by rw [he]; exact ry) ht
theorem strs_of {hs : HS} : ∀ {vs : List V} {its : List Value} {ss : List (List Nat)},All2 (VR hs) vs its → strsV vs = some ss → StrsAre its (ss.map toS)
 | [],_,ss,i,e=>by cases i; cases e; exact .nil
 | v :: vs,_,ss,i,e=>by
  cases i with
  | cons h t =>
   cases v with
   | str s =>
    obtain ⟨ss',h',rfl⟩:=Option.map_eq_some_iff.mp (show (strsV vs).map (s :: ·) = _ from e)
    cases h
    exact .cons _ _ (strs_of t h')
   | _=>exact noE e
theorem join_eq0 (sep : List Nat) : ∀ ss : List (List Nat),Str.join (toS sep) (ss.map toS) = toS (joinL sep ss)
 | []=>rfl
 | [x]=>rfl
 | x :: y :: r=>by
  have ih:=join_eq0 sep (y :: r)
  show toS x ++ toS sep ++ Str.join (toS sep) ((y :: r).map toS) = _
  rw [ih,toS_app,toS_app]; rfl
theorem join_eq (sep : List Nat) (ss : List (List Nat)) : Txt.join (toS sep) (ss.map toS) = toS (joinL sep ss):=by
 show Builtin.Str.glued _ _ = _
 rw [StrLaws.glued_eq_join,join_eq0]
theorem items_of (G : GOk W cx d) {c : Fc} {m : Str → Option Value} {X : List (Addr × Obj)} {σ : St} {ps : PZ} {h : Heap} (S : SR W c m X σ ps h) (K : W.K.In h) {v : V} {x : Value} (ra : VR (hds ps) v x) {vs : List V} (e : itemsV cx σ v = some vs) :
 ∃ A its,x = .ref A ∧ All2 (VR (hds ps)) vs its ∧ vs.length ≤ LIM + LIM ∧ ((∃ n,h.get? A = some (listOf its.toArray n)) ∨ ∃ n,h.get? A = some { cls:=.type "tuple",data:=.seq its.toArray n }):=by
 refine objE G.so S K ra e fun o A' J ro e=>?_
 cases o with
 | list =>
  obtain ⟨its,n,hA,i1,hn⟩:=ro
  obtain rfl:=Option.some.inj e
  exact ⟨_,its,rfl,i1,hn,.inl ⟨n,hA⟩⟩
 | tuple =>
  obtain ⟨its,n,hA,i1,hn⟩:=ro
  obtain rfl:=Option.some.inj e
  exact ⟨_,its,rfl,i1,hn,.inr ⟨n,hA⟩⟩
 | _=>exact noE e
theorem lens_toS (ss : List (List Nat)) : ((ss.map toS).map (·.length)) = ss.map (·.length):=by
 rw [List.map_map]; apply List.map_congr_left; intro a _; exact toS_len a
theorem join_ok (G : GOk W cx d) : ValM W cx d "str.join" (fun o vs σ=>strO o fun s=>vcons vs fun v r=>vnil r (joinV cx s v σ)):=by
 intro c ok m X σ ps h tk o r vs σ' x ys Q E g dr os S ra rs ht e H
 refine strE ra e fun sep t J e=>vconsE rs e fun v0 y0 J J rv rs e=>vnilE rs e fun e=>bdE e fun vs' e1 e=>bdE e fun ss e2 e=>gdE e fun hb e3=>?_
 obtain ⟨A1,its,rfl,i1,hn,hg⟩:=items_of G S (S.K ok) rv e1
 have hs:=strs_of i1 e2
 have hok : ((ss.map toS).map (·.length)).sum + (ss.map toS).length * (toS sep).length ≤ 16777216:=by
  rw [lens_toS,List.length_map,toS_len]; exact Nat.le_trans hb.1 (by decide)
 have fin : ∀ t' k,tk ≤ k → Q (.str (Txt.join (toS sep) (ss.map toS)) t') ⟨h,g,dr,k,os⟩:=fun t' k hk=>by
  rw [join_eq]; exact (H.eq e3).stay S (.str _ _ hb.2) (Nat.le_trans ht hk)
 rcases hg with ⟨n,hg⟩ | ⟨n,hg⟩
 ·exact wpAny_with_toks (Nat.le_refl _) (join_list (items:=its.toArray) ⟨_,hg,rfl,_,rfl⟩ hs hok fin)
 ·exact wpAny_with_toks (Nat.le_refl _) (join_tuple (items:=its.toArray) ⟨_,hg,rfl,_,rfl⟩ hs hok fin)
theorem clamp_pos {j : Int} (n : Nat) (h : 0 ≤ j) : (max 0 (if j < 0 then j + n else j)).toNat = j.toNat:=by
 rw [if_neg (by lia),Int.max_eq_right h]
theorem gives_count4 (x y : Str) (j : Int) (t u v w : Tok) : Gives (Builtin.«str.count» ⟨[.str x t,.str y u,.int 0 v,.int j w],[]⟩) (.int (Builtin.Str.occurrences x y 0 (min ((max 0 (if j < 0 then j + x.length else j)).toNat) x.length) (x.length + 1)).length):=by
 show Gives (retInt (Builtin.Str.occurrences x y 0 (min ((max 0 (if j < 0 then j + x.length else j)).toNat) x.length) (x.length + 1)).length) _
 exact .of_eq rfl
theorem gives_rfind4 (x y : Str) (j : Int) (t u v w : Tok) : Gives (Builtin.«str.rfind» ⟨[.str x t,.str y u,.int 0 v,.int j w],[]⟩) (.int (match Builtin.Str.lastOccurrence x y 0 (min ((max 0 (if j < 0 then j + x.length else j)).toNat) x.length) with | some i=>(i : Int) | none=>-1)):=by
 show Gives (match Builtin.Str.lastOccurrence x y 0 (min ((max 0 (if j < 0 then j + x.length else j)).toNat) x.length) with | some i=>retInt i | none=>(do rule "str.rfind.not-found"; retInt (-1))) _
 cases Builtin.Str.lastOccurrence x y 0 (min ((max 0 (if j < 0 then j + x.length else j)).toNat) x.length) with
 | none=>exact .rule (.of_eq rfl)
 | some i=>exact .of_eq rfl
noncomputable def args3 (f : List Nat → V → V → Option (V × St)) (vs : List V) : Option (V × St):=vcons vs fun p r=>strO p fun p=>vcons r fun l r=>vcons r fun u r=>vnil r (f p l u)
theorem count3_ok : ValM W cx d "str.count" (fun o vs σ=>args3 (fun p l u=>count3V p o l u σ) vs):=by
 intro c ok m X σ ps h tk o r vs σ' x ys Q E g dr os S ra rs ht e H
 refine vconsE rs e fun v0 y0 J J r1 rs e=>strE r1 e fun p t J e=>vconsE rs e fun l yl J J r2 rs e=>vconsE rs e fun u yu J J r3 rs e=>vnilE rs e fun e=>strE ra e fun s ts J e=>intE r2 e fun i ti e=>intE r3 e fun j tj e=>gdE e fun hb e9=>?_
 obtain ⟨rfl,hb⟩:=hb
 refine call_gives PySem.F.slot_str_count (typeIs_str _ _ _) PySem.F.entry_str_count (PySem.F.args_str_count_4 _ _ _ _) (gives_count4 _ _ _ _ _ _ _) ?_
 rw [toS_len,clamp_pos _ hb.1]
 exact (H.eq e9).stay (t:=tk + 1) S (.int _ _) (tk1 1 ht)
theorem rfind3_ok : ValM W cx d "str.rfind" (fun o vs σ=>args3 (fun p l u=>rfind3V p o l u σ) vs):=by
 intro c ok m X σ ps h tk o r vs σ' x ys Q E g dr os S ra rs ht e H
 refine vconsE rs e fun v0 y0 J J r1 rs e=>strE r1 e fun p t J e=>vconsE rs e fun l yl J J r2 rs e=>vconsE rs e fun u yu J J r3 rs e=>vnilE rs e fun e=>strE ra e fun s ts J e=>intE r2 e fun i ti e=>intE r3 e fun j tj e=>gdE e fun hb e9=>?_
 obtain ⟨rfl,hb⟩:=hb
 refine call_gives PySem.F.slot_str_rfind (typeIs_str _ _ _) PySem.F.entry_str_rfind (PySem.F.args_str_rfind_4 _ _ _ _) (gives_rfind4 _ _ _ _ _ _ _) ?_
 rw [toS_len,clamp_pos _ hb.1]
 exact (H.eq e9).stay (t:=tk + 1) S (.int _ _) (tk1 1 ht)
theorem strs_vr {hs : HS} : ∀ {l : List (Str × Tok)} {xs : List Str},l.map (·.1) = xs → (xs.all fun x=>decide (x.length ≤ LIM)) = true → All2 (VR hs) (xs.map fun x=>.str (ofS x)) (strValues l)
 | [],_,e,_=>by subst e; exact .nil
 | (x,t) :: r,_,e,hb=>by
  subst e
  simp only [List.map_cons,List.all_cons,Bool.and_eq_true] at hb
  refine .cons ?_ (strs_vr rfl hb.2)
  have : (Value.str x t) = .str (toS (ofS x)) t:=by rw [toS_ofS]
  show VR hs _ (.str x t)
  rw [this]
  exact .str _ _ (by have:=hb.1; simp only [decide_eq_true_eq] at this; rw [← toS_len,toS_ofS]; exact this)
theorem split_ok : ValM W cx d "str.split" (fun o vs σ=>vcons vs fun p r=>strO p fun p=>vnil r (splitV p o σ)):=by
 intro c ok m X σ ps h tk o r vs σ' x ys Q E g dr os S ra rs ht e H
 refine vconsE rs e fun v0 y0 J J r1 rs e=>strE r1 e fun p t J e=>vnilE rs e fun e=>strE ra e fun s ts hl e=>gdE e fun hb e=>?_
 obtain ⟨g0,G0,m0,hm0,F0⟩:=S.F
 refine wpAny_with_toks (Nat.le_refl _) (KSpl.split1 F0 (G0.news S.N) (by rw [toS_len]; have:=hb.1; cases p <;> simp_all) (fun D l h' k e1 hst F' N' lt hk=>?_) (by rw [toS_len,sizeLine_eq]; unfold LIM at hl; lia))
 exact alloc_copy S (strs_vr e1 hb.2) e (Nat.le_trans ht hk) ⟨g0,G0,m0,hm0,F'⟩ (G0.back N') lt H
theorem ok_repl {a b : List Nat} {sa sb : Str} {o : PE} {x : PySem.Expr} {ka kb : Nat} {pa pb apos pos : Pos} (hsa : toS a = sa) (hsb : toS b = sb) (ho : OkE W cx cs cp d o x)
 (he : ∀ env,∃ pl,eval (.Call (.Attribute x "replace" apos) [.Constant (.str sa) ka pa,.Constant (.str sb) kb pb] [] pos) env = (do
  let ov ← eval x env
  standAt apos.atName
  let (f,first) ← holding [ov] (getMethod ov "replace" pl)
  callWith pos f first (backTo pos (starEach [.Constant (.str sa) ka pa,.Constant (.str sb) kb pb] env)) [])) : OkE W cx cs cp d (.replC o a b) (.Call (.Attribute x "replace" apos) [.Constant (.str sa) ka pa,.Constant (.str sb) kb pb] [] pos):=by
 refine ⟨?_⟩
 intro c hc ok env m X L σ ps h tk v σ' Q E g dr os S V ht ee H
 subst hsa hsb
 refine bd2 (evE_replC.symm.trans ee) fun ov σ1 e1 e2=>?_
 obtain ⟨pl,he⟩:=he env
 refine MethodCall_ (pl:=pl) (ho.1 c hc ok S V ht e1 fun ps1 h1 t1 y1 p1 S1 r1 ht1=>strE r1 e2 fun s t hl e=>gdE e fun hb e=>?_) he
 refine GM.of _ (typeIs_str _ _ _) PySem.F.slot_str_replace PySem.F.type_str_replace GM.noRef ?_
 refine callWith_of (P:=fun J=>True) rfl (fun h' J=>keeps_bt (fun a q=>nomatch q)) (evalArgs_any rfl ?_)
 refine wpAny_items_cons (wpAny_Constant_str (wpAny_items_cons (wpAny_Constant_str (wpAny_items_nil ⟨trivial,?_⟩))))
 have ne : (toS a == toS b) = false:=beq_eq_false_iff_ne.mpr fun q=>hb.2.1 (toS_inj q)
 refine wpAny_with_toks (n:=t1) (show t1 ≤ t1 + 1 + 1 from Nat.le_add_right t1 2) (PySem.SC.replaceW (x:=toS s) (y:=toS a) (z:=toS b) (u:=t1) (v:=t1 + 1) (Nat.ne_of_gt ht1) (Nat.succ_ne_zero t1) (Nat.ne_of_lt (Nat.lt_succ_self t1)) ne (by rw [toS_len]; unfold LIM at hl; lia) (by rw [toS_len]; exact hb.2.2) fun t' k hk=>?_)
 have : (Value.str (Txt.replace (toS s) (toS a) (toS b)) t') = .str (toS (ofS (Txt.replace (toS s) (toS a) (toS b)))) t':=by rw [toS_ofS]
 rw [this]
 exact (H.eq e) ps1 h1 k _ p1 S1 (.str _ _ hb.1) (Nat.le_trans ht1 hk)
end
end
section
noncomputable def strItTy (o : Obj) : Prop:=o.cls = .type "str_ascii_iterator" ∨ o.cls = .type "str_iterator"
inductive ItOb (W : Wd) (cx : Cx) (σ : St) (v : V) (x : Value) (i : Nat) (ob : Obj) : Prop
 | str {s : List Nat} {t : Tok} : v = .str s → x = .str (toS s) t → strItTy ob → ob.data = .fields #[.str (toS s) t,.int i 0] → ItOb W cx σ v x i ob
 | list {vs : List V} {l : Addr} : objOf cx σ v = some (.list vs) → x = .ref l → ob.cls = .type "list_iterator" → ob.data = .fields #[.ref l,.int i 0] → ItOb W cx σ v x i ob
 | tuple {vs : List V} {l : Addr} : objOf cx σ v = some (.tuple vs) → x = .ref l → ob.cls = .type "tuple_iterator" → ob.data = .fields #[.ref l,.int i 0] → ItOb W cx σ v x i ob
 | rng {a b s : Int} : objOf cx σ v = some (.rng a b s) → ob = { cls:=.type "range_iterator",dict:=none,data:=.fields #[rawInt (a + s * i),rawInt ((rngN a b s : Int) - i),rawInt s],slots:=#[] } → ItOb W cx σ v x i ob
 | dict {a : Nat} {kvs : List (List Nat × V)} {ks : List (Str × Value)} {ep : Nat} : v = .sref a → cx.so a = some (.dict kvs) → x = .ref a → (∀ h : Heap,W.K.In h → h.DictAt (PySem.strKind W.prog W.w) a ks ep) → All2 (KV .nil) kvs ks → ob.cls = .type "dict_keyiterator" → ob.data = .fields #[.ref a,.int i 0,.int ks.length 0,.int ep 0] → ItOb W cx σ v x i ob
theorem ItOb.still {W : Wd} {cx : Cx} {σ σ' : St} {v : V} {x : Value} {i : Nat} {ob : Obj} (h : ItOb W cx σ v x i ob) (e : stillV cx σ σ' v = true) : ItOb W cx σ' v x i ob:=by
 have e:=still_iff.mp e
 cases h with
 | str h1 h2 h3 h4=>exact .str h1 h2 h3 h4
 | list h1 h2 h3 h4=>exact .list (e.trans h1) h2 h3 h4
 | tuple h1 h2 h3 h4=>exact .tuple (e.trans h1) h2 h3 h4
 | rng h1 h2=>exact .rng (e.trans h1) h2
 | dict h1 h2 h3 h4 h5 h6 h7=>exact .dict h1 h2 h3 h4 h5 h6 h7
theorem still_sym {cx : Cx} {σ σ' : St} {v : V} (e : stillV cx σ σ' v = true) : stillV cx σ' σ v = true:=still_iff.mpr (still_iff.mp e).symm
theorem iter_still {cx : Cx} {σ σ' : St} {v : V} (e : stillV cx σ σ' v = true) : iterV cx σ' v = iterV cx σ v:=by
 have e:=still_iff.mp e
 cases v with
 | ref a=>exact congrArg (·.bind (iterO (.ref a))) e
 | sref a=>exact congrArg (·.bind (iterO (.sref a))) e
 | frz a=>exact congrArg (·.bind (iterO (.frz a))) e
 | _=>rfl
theorem iter_obj {cx : Cx} {σ : St} {v : V} {o : O} (e : objOf cx σ v = some o) : iterV cx σ v = iterO v o:=by
 cases v with
 | ref a=>exact congrArg (·.bind (iterO (.ref a))) e
 | sref a=>exact congrArg (·.bind (iterO (.sref a))) e
 | frz a=>exact congrArg (·.bind (iterO (.frz a))) e
 | _=>exact noE e
section
variable {W : Wd} {cx : Cx} {cs : Scope} {cp : Option Cp} {d : Nat} {c : Fc} {m : Str → Option Value} {X P Y : List (Addr × Obj)} {σ : St} {ps : PZ} {h h' : Heap} {g : Array GenState} {dr : Drawn} {tk : Nat} {os : OsState} {A : Around} {E : Value → Shared → Prop}
theorem SR.offX {I : Addr} {ob : Obj} (S : SR W c m (P ++ (I,ob) :: Y) σ ps h) : ∀ p ∈ ps.flatten ++ (P ++ Y),p.1 ≠ I:=by
 intro p hp q
 have nd:=S.nd
 have e : ((ps.flatten ++ (P ++ (I,ob) :: Y)).map (·.1)).Perm (I :: (ps.flatten ++ (P ++ Y)).map (·.1)):=by
  simp only [List.map_append,List.map_cons]
  rw [← List.append_assoc,← List.append_assoc]
  exact List.perm_middle
 rw [e.nodup_iff] at nd
 exact (List.nodup_cons.mp nd).1 (q ▸ List.mem_map_of_mem (f:=(·.1)) hp)
theorem SR.frX {I : Addr} {ob : Obj} (S : SR W c m (P ++ (I,ob) :: Y) σ ps h) (hk : ∀ b x,b ≠ I → h.get? b = some x → h'.get? b = some x) : FrU c h' m:=by
 have D0:=S.N (I,ob) (by simp)
 exact S.F.off hk D0.2.1 D0.2.2
theorem SR.dropX {I : Addr} {ob : Obj} (S : SR W c m (P ++ (I,ob) :: Y) σ ps h) (hk : ∀ b x,b ≠ I → h.get? b = some x → h'.get? b = some x) : SR W c m (P ++ Y) σ ps h':=by
 have off:=S.offX
 refine ⟨S.frX hk,fun p hp=>?_,?_,S.rel,S.fz⟩
 ·have z:=S.N p (by simp only [List.mem_append,List.mem_cons] at hp ⊢; rcases hp with q | q | q; exact .inl q; exact .inr (.inl q); exact .inr (.inr (.inr q)))
  exact ⟨hk _ _ (off p hp) z.1,z.2⟩
 ·have nd:=S.nd
  refine List.Nodup.sublist ?_ nd
  apply List.Sublist.map
  exact List.Sublist.append_left (List.Sublist.append_left (List.sublist_cons_self _ _) _) _
theorem SR.putX {I : Addr} {ob ob' : Obj} (S : SR W c m (P ++ (I,ob) :: Y) σ ps h) (hk : ∀ b x,b ≠ I → h.get? b = some x → h'.get? b = some x) (ho : h'.get? I = some ob') : SR W c m (P ++ (I,ob') :: Y) σ ps h':=by
 have off:=S.offX
 have D0:=S.N (I,ob) (by simp)
 refine ⟨S.frX hk,fun p hp=>?_,?_,S.rel,S.fz⟩
 ·by_cases q : p = (I,ob')
  ·subst q; exact ⟨ho,D0.2⟩
  ·have hp' : p ∈ ps.flatten ++ (P ++ Y):=by
    simp only [List.mem_append,List.mem_cons] at hp ⊢
    rcases hp with h1 | h1 | h1 | h1
    ·exact .inl h1
    ·exact .inr (.inl h1)
    ·exact absurd h1 q
    ·exact .inr (.inr h1)
   have z:=S.N p (by simp only [List.mem_append,List.mem_cons] at hp' ⊢; rcases hp' with q | q | q; exact .inl q; exact .inr (.inl q); exact .inr (.inr (.inr q)))
   exact ⟨hk _ _ (off p hp') z.1,z.2⟩
 ·have nd:=S.nd
  simpa using nd
theorem rz1 (a b : Int) : (if a < b then (b - a - 1) / 1 + 1 else 0) = ((b - a).toNat : Int):=by
 by_cases h : a < b
 ·rw [if_pos h,Int.ediv_one,Int.toNat_of_nonneg (Int.sub_nonneg_of_le (Int.le_of_lt h)),Int.sub_add_cancel]
 ·rw [if_neg h,Int.toNat_of_nonpos (Int.sub_nonpos_of_le (Int.not_lt.mp h))]; rfl
theorem rng_size {a b s : Int} (h : s = 1 ∨ s = -1) : Builtin.Range.rangeSize a b s = (rngN a b s : Int):=by
 rcases h with rfl | rfl
 ·exact (if_pos (by decide)).trans ((rz1 a b).trans (congrArg Int.ofNat (if_pos rfl).symm))
 ·exact (if_neg (by decide)).trans ((rz1 b a).trans (congrArg Int.ofNat (if_neg (by decide)).symm))
theorem fitsL {i : Int} (h1 : -200001 ≤ i) (h2 : i ≤ 200001) : Builtin.Range.rangeFitsLong i = true:=Bool.and_eq_true_iff.mpr ⟨decide_eq_true (Int.le_trans (by decide) h1),decide_eq_true (Int.lt_of_le_of_lt h2 (by decide))⟩
theorem rng_small {a b s : Int} (h1 : -((100000 : Nat) : Int) ≤ a ∧ a ≤ ((100000 : Nat) : Int)) (h2 : -((100000 : Nat) : Int) ≤ b ∧ b ≤ ((100000 : Nat) : Int)) (h : s = 1 ∨ s = -1) : Builtin.Range.small a b s = true:=by
 have f : ∀ {x y : Int},-((100000 : Nat) : Int) ≤ x → y ≤ ((100000 : Nat) : Int) → (y - x).toNat ≤ 200000:=fun h h'=>Int.toNat_le.mpr (Int.le_trans (Int.sub_le_sub h' h) (by decide))
 have hs : rngN a b s ≤ 200000:=by
  unfold rngN
  by_cases q : s = 1
  ·rw [if_pos q]; exact f h1.1 h2.2
  ·rw [if_neg q]; exact f h2.1 h1.2
 refine Bool.and_eq_true_iff.mpr ⟨Bool.and_eq_true_iff.mpr ⟨Bool.and_eq_true_iff.mpr ⟨Bool.and_eq_true_iff.mpr ⟨fitsL (Int.le_trans (by decide) h1.1) (Int.le_trans h1.2 (by decide)),fitsL (Int.le_trans (by decide) h2.1) (Int.le_trans h2.2 (by decide))⟩,?_⟩,
  by rw [rng_size h]; exact fitsL (Int.le_trans (by decide) (Int.natCast_nonneg _)) (Int.le_trans (Int.ofNat_le.mpr hs) (by decide))⟩,Bool.or_eq_true_iff.mpr (.inr ?_)⟩
 ·rcases h with rfl | rfl <;> rfl
 ·have z : Builtin.Range.rangeFitsLong (b + 0) = true:=by rw [Int.add_zero]; exact fitsL (Int.le_trans (by decide) h2.1) (Int.le_trans h2.2 (by decide))
  rcases h with rfl | rfl
  ·exact (if_pos (by decide)).trans z
  ·exact (if_neg (by decide)).trans z
theorem it_new (G : GOk W cx d) (ok : FOk W c d) (S : SR W c m X σ ps h) {v : V} {x : Value} {xs : List V} {Q : Value → Shared → Prop} (ra : VR (hds ps) v x) (e : iterV cx σ v = some xs)
 (k : ∀ I ob h',ItOb W cx σ v x 0 ob → SR W c m ((I,ob) :: X) σ ps h' → Q (.ref I) ⟨h',g,dr,tk,os⟩) : wpAny (model W.prog W.w) A (pyIter x) Q E ⟨h,g,dr,tk,os⟩:=by
 have ra':=ra
 revert ra' k
 refine sobE G.so S (S.K ok) ra e (fun s t hv hl J k ra'=>?_) fun o A' ho ro e k ra'=>?_
 ·refine wpAny_pyIter_strU (k _ { cls:=.type (strIterType (toS s)),data:=.fields #[.str (toS s) t,.int 0 0] } _ (.str hv rfl ?_ rfl) (S.take _ rfl))
  unfold strItTy strIterType
  dsimp only
  split
  ·exact .inl rfl
  ·exact .inr rfl
 ·cases o with
  | list vs =>
   obtain ⟨its,n,hA,_⟩:=ro
   exact wpAny_pyIter_list (items:=its.toArray) ⟨_,hA,rfl,_,rfl⟩ (k _ _ _ (.list ho rfl rfl rfl) (S.take _ rfl))
  | tuple vs =>
   obtain ⟨its,n,hA,_⟩:=ro
   exact wpAny_pyIter_tuple (items:=its.toArray) ⟨_,hA,rfl,_,rfl⟩ (k _ _ _ (.tuple ho rfl rfl rfl) (S.take _ rfl))
  | rng a b s' =>
   obtain ⟨t,u,w',hA⟩:=ro
   refine gdE e fun hb J=>wpAny_pyIter_range (a:=a) (b:=b) (c:=s') hA (rng_small hb.1 hb.2.1 hb.2.2) ?_
   rw [rng_size hb.2.2]
   exact k _ _ _ (.rng ho (by simp)) (S.take _ rfl)
  | dict kvs =>
   cases v with
   | sref a =>
    cases ra'
    obtain ⟨part,hp1,hp2,hr⟩:=G.so.at_ _ _ ho
    cases hr with
    | @dict _ ks A1 o1 d1 i1 b1 y1 =>
     obtain rfl : A1 = _:=hp1
     have hl:=hp2 _ (.head _)
     obtain ⟨es,ep,q1,q2,q3⟩:=d1
     have hat : ∀ h : Heap,W.K.In h → h.DictAt (PySem.strKind W.prog W.w) A1 ks ep:=fun h K=>⟨o1,es,K _ _ hl,q1,q2,q3⟩
     exact wpAny_pyIter_dict y1 (hat h (S.K ok)) (k _ _ _ (.dict rfl ho rfl hat i1 rfl rfl) (S.take _ rfl))
   | _=>exact noE e
  | _=>exact noE e
theorem rng_iter {v : V} {a b s : Int} {xs : List V} (h1 : objOf cx σ v = some (.rng a b s)) (e : iterV cx σ v = some xs) : xs = ((List.range (rngN a b s)).map fun k=>.int (a + s * Int.ofNat k)) ∧ (s = 1 ∨ s = -1) :=
 gdE ((iter_obj h1).symm.trans e) fun hb e=>⟨(Option.some.inj e).symm,hb.2.2⟩
theorem dict_iter {v : V} {a : Nat} {kvs : List (List Nat × V)} {xs : List V} (h1 : v = .sref a) (h2 : cx.so a = some (.dict kvs)) (e : iterV cx σ v = some xs) : xs = (kvs.map fun p=>.str p.1) ∧ (kvs.all fun p=>decide (p.1.length ≤ LIM)) = true:=by
 subst h1
 exact keysE ((iter_obj (v:=.sref a) h2).symm.trans e) fun hb q=>⟨q,hb⟩
theorem it_list (G : GOk W cx d) (ok : FOk W c d) (S : SR W c m X σ ps h) {v : V} {xs vs : List V} {l : Addr} (ra : VR (hds ps) v (.ref l)) (e : iterV cx σ v = some xs) (h1 : objOf cx σ v = some (.list vs)) : ∃ its n,h.get? l = some (listOf (List.toArray its) n) ∧ All2 (VR (hds ps)) xs its:=by
 obtain rfl : vs = xs:=Option.some.inj ((iter_obj h1).symm.trans e)
 obtain ⟨A,q,its,n,hA,i1,_⟩:=obj_ro G.so S (S.K ok) ra h1
 obtain rfl:=Value.ref.inj q
 exact ⟨its,n,hA,i1⟩
theorem it_tuple (G : GOk W cx d) (ok : FOk W c d) (S : SR W c m X σ ps h) {v : V} {xs vs : List V} {l : Addr} (ra : VR (hds ps) v (.ref l)) (e : iterV cx σ v = some xs) (h1 : objOf cx σ v = some (.tuple vs)) : ∃ its n,h.get? l = some { cls:=.type "tuple",data:=.seq (List.toArray its) n } ∧ All2 (VR (hds ps)) xs its:=by
 obtain rfl : vs = xs:=Option.some.inj ((iter_obj h1).symm.trans e)
 obtain ⟨A,q,its,n,hA,i1,_⟩:=obj_ro G.so S (S.K ok) ra h1
 obtain rfl:=Value.ref.inj q
 exact ⟨its,n,hA,i1⟩
theorem same_keep {I : Addr} (hs : Heap.SameBut I h h') : ∀ b x,b ≠ I → h.get? b = some x → h'.get? b = some x:=fun b x q e=>(hs.2 b q).trans e
theorem it_next (G : GOk W cx d) (ok : FOk W c d) {I : Addr} {ob : Obj} (S : SR W c m (P ++ (I,ob) :: Y) σ ps h) {v u : V} {x : Value} {i : Nat} {xs : List V} {Q : Option Value → Shared → Prop} (ra : VR (hds ps) v x) (e : iterV cx σ v = some xs) (it : ItOb W cx σ v x i ob) (hu : xs[i]? = some u) (ht : 1 ≤ tk)
 (k : ∀ ob' h' y tk',ItOb W cx σ v x (i + 1) ob' → SR W c m (P ++ (I,ob') :: Y) σ ps h' → VR (hds ps) u y → 1 ≤ tk' → Q (some y) ⟨h',g,dr,tk',os⟩) : wpAny (model W.prog W.w) A (pyNext (.ref I)) Q E ⟨h,g,dr,tk,os⟩:=by
 have gI:=(S.N (I,ob) (by simp)).1
 cases it with
 | @str s t h1 h2 h3 h4 =>
  subst h1 h2
  obtain rfl:=Option.some.inj e
  rw [List.getElem?_map,Option.map_eq_some_iff] at hu
  obtain ⟨ch,hc,rfl⟩:=hu
  have hx : (toS s).cps[i]? = some ch:=by simpa [toS] using hc
  have vr : ∀ t',VR (hds ps) (.str [ch]) (.str ⟨#[ch]⟩ t'):=fun t'=>.str [ch] t' (by unfold LIM; simp)
  rcases h3 with h3 | h3
  ·refine wpAny_pyNext_ascii_item (t:=t) (i:=i) ⟨ob,gI,h3,h4⟩ hx fun h' hit hs=>?_
   obtain ⟨ob',go,gc,gd⟩:=hit
   exact k ob' h' _ _ (.str rfl rfl (.inl gc) gd) (S.putX (same_keep hs) go) (vr _) (by show 1 ≤ tk + 1; lia)
  ·refine wpAny_pyNext_wide_item (t:=t) (i:=i) ⟨ob,gI,h3,h4⟩ hx fun h' hit hs=>?_
   obtain ⟨ob',go,gc,gd⟩:=hit
   exact k ob' h' _ _ (.str rfl rfl (.inr gc) gd) (S.putX (same_keep hs) go) (vr _) (by show 1 ≤ tk + 1; lia)
 | @list vs l h1 h2 h3 h4 =>
  subst h2
  obtain ⟨its,n,hA,i1⟩:=it_list G ok S ra e h1
  obtain ⟨y,hy,ry⟩:=i1.get hu
  refine wpAny_pyNext_list_item (items:=its.toArray) ⟨ob,gI,h3,h4⟩ ⟨_,hA,rfl,_,rfl⟩ (by simpa using hy) fun h' hit hs=>?_
  obtain ⟨ob',go,gc,gd⟩:=hit
  exact k ob' h' _ _ (.list h1 rfl gc gd) (S.putX (same_keep hs) go) ry ht
 | @tuple vs l h1 h2 h3 h4 =>
  subst h2
  obtain ⟨its,n,hA,i1⟩:=it_tuple G ok S ra e h1
  obtain ⟨y,hy,ry⟩:=i1.get hu
  refine wpAny_pyNext_tuple_item (items:=its.toArray) ⟨ob,gI,h3,h4⟩ ⟨_,hA,rfl,_,rfl⟩ (by simpa using hy) fun h' hit hs=>?_
  obtain ⟨ob',go,gc,gd⟩:=hit
  exact k ob' h' _ _ (.tuple h1 rfl gc gd) (S.putX (same_keep hs) go) ry ht
 | @rng a b s' h1 h2 =>
  obtain ⟨rfl,hs⟩:=rng_iter h1 e
  rw [List.getElem?_map,Option.map_eq_some_iff] at hu
  obtain ⟨j,hj,rfl⟩:=hu
  obtain ⟨hlt,hj2⟩:=List.getElem?_eq_some_iff.mp hj
  simp only [List.getElem_range] at hj2
  subst hj2
  simp only [List.length_range] at hlt
  subst h2
  refine wpAny_pyNext_range_item (x:=a + s' * (i : Int)) (left:=(rngN a b s' : Int) - i) (step:=s') gI (by lia) fun h' hit hs=>?_
  refine k _ h' _ _ (.rng h1 ?_) (S.putX (same_keep hs) hit) (.int _ _) (by show 1 ≤ tk + 1; lia)
  have e1 : a + s' * (i : Int) + s' = a + s' * ((i + 1 : Nat) : Int):=by rw [Int.natCast_add,Int.mul_add,Int.add_assoc]; simp
  have e2 : (rngN a b s' : Int) - (i : Int) - 1 = (rngN a b s' : Int) - ((i + 1 : Nat) : Int):=by lia
  rw [e1,e2]
 | @dict a kvs ks ep h1 h2 h3 h4 h5 h6 h7 =>
  obtain ⟨rfl,hb⟩:=dict_iter h1 h2 e
  rw [List.getElem?_map,Option.map_eq_some_iff] at hu
  obtain ⟨⟨kk,vv⟩,hj,rfl⟩:=hu
  obtain ⟨⟨kx,vx⟩,hx,r1,_⟩:=h5.get hj
  simp only at r1
  subst r1
  subst h3
  refine wpAny_pyNext_dict_item (knd:=PySem.strKind W.prog W.w) ⟨ob,gI,h6,h7⟩ (h4 h (S.K ok)) hx fun key h' hk hit hs=>?_
  obtain ⟨t',rfl⟩:=Value.isStrOf_shape hk
  obtain ⟨ob',go,gc,gd⟩:=hit
  exact k ob' h' _ tk (.dict h1 h2 rfl h4 h5 gc gd) (S.putX (same_keep hs) go) (.str _ _ (of_decide_eq_true (List.all_eq_true.mp hb _ (List.mem_of_getElem? hj)))) ht
theorem it_end (G : GOk W cx d) (ok : FOk W c d) {I : Addr} {ob : Obj} (S : SR W c m (P ++ (I,ob) :: Y) σ ps h) {v : V} {x : Value} {i : Nat} {xs : List V} {Q : Option Value → Shared → Prop} (ra : VR (hds ps) v x) (e : iterV cx σ v = some xs) (it : ItOb W cx σ v x i ob) (hu : xs[i]? = none) (hil : i ≤ xs.length) (hA : A.handled = none)
 (k : ∀ h',SR W c m (P ++ Y) σ ps h' → Q none ⟨h',g,dr,tk,os⟩) : wpAny (model W.prog W.w) A (pyNext (.ref I)) Q E ⟨h,g,dr,tk,os⟩:=by
 have gI:=(S.N (I,ob) (by simp)).1
 have fin : ∀ h',Heap.ExtBut I h h' → Q none ⟨h',g,dr,tk,os⟩:=fun h' hs=>k h' (S.dropX fun b x q e=>hs b x q e)
 cases it with
 | @str s t h1 h2 h3 h4 =>
  subst h1 h2
  obtain rfl:=Option.some.inj e
  have hx : (toS s).cps[i]? = none:=by
   rw [List.getElem?_map,Option.map_eq_none_iff] at hu
   simpa [toS] using hu
  rcases h3 with h3 | h3
  ·exact wpAny_pyNext_ascii_end (t:=t) (i:=i) hA ⟨ob,gI,h3,h4⟩ hx fin
  ·exact wpAny_pyNext_wide_end (t:=t) (i:=i) hA ⟨ob,gI,h3,h4⟩ hx fin
 | @list vs l h1 h2 h3 h4 =>
  subst h2
  obtain ⟨its,n,hA',i1⟩:=it_list G ok S ra e h1
  exact wpAny_pyNext_list_end (items:=its.toArray) hA ⟨ob,gI,h3,h4⟩ ⟨_,hA',rfl,_,rfl⟩ (by rw [List.getElem?_toArray]; exact List.getElem?_eq_none (i1.len ▸ List.getElem?_eq_none_iff.mp hu)) fin
 | @tuple vs l h1 h2 h3 h4 =>
  subst h2
  obtain ⟨its,n,hA',i1⟩:=it_tuple G ok S ra e h1
  exact wpAny_pyNext_tuple_end (items:=its.toArray) hA ⟨ob,gI,h3,h4⟩ ⟨_,hA',rfl,_,rfl⟩ (by rw [List.getElem?_toArray]; exact List.getElem?_eq_none (i1.len ▸ List.getElem?_eq_none_iff.mp hu)) fin
 | @rng a b s' h1 h2 =>
  obtain ⟨rfl,hs⟩:=rng_iter h1 e
  simp at hu hil
  subst h2
  exact wpAny_pyNext_range_end (x:=a + s' * (i : Int)) (left:=(rngN a b s' : Int) - i) (step:=s') hA gI (by lia) fin
 | @dict a kvs ks ep h1 h2 h3 h4 h5 h6 h7 =>
  obtain ⟨rfl,hb⟩:=dict_iter h1 h2 e
  subst h3
  refine wpAny_pyNext_dict_end (knd:=PySem.strKind W.prog W.w) hA ⟨ob,gI,h6,h7⟩ (h4 h (S.K ok)) ?_ fin
  have:=h5.len
  simp at hu ⊢; lia
end
end
section
section
variable {W : Wd} {cx : Cx} {cs : Scope} {cp : Option Cp} {d : Nat} {c : Fc} {m : Str → Option Value} {X P Y : List (Addr × Obj)} {σ : St} {ps : PZ} {h h' : Heap} {g : Array GenState} {dr : Drawn} {tk : Nat} {os : OsState} {A : Around}
theorem draw_ok (G : GOk W cx d) (ok : FOk W c d) {I : Addr} {v : V} {x : Value} {vs : List V} (ra : VR (hds ps) v x) (e : iterV cx σ v = some vs) : ∀ (n i : Nat) (ob : Obj) (h : Heap) (tk : Nat) (Q : List Value → Shared → Prop) (E : Value → Shared → Prop),
 SR W c m (P ++ (I,ob) :: Y) σ ps h → ItOb W cx σ v x i ob → i + n = vs.length → 1 ≤ tk →
 (∀ ob' h' tk' ys,SR W c m (P ++ (I,ob') :: Y) σ ps h' → ItOb W cx σ v x vs.length ob' → All2 (VR (hds ps)) (vs.drop i) ys → 1 ≤ tk' → Q ys ⟨h',g,dr,tk',os⟩) →
 wpAny (model W.prog W.w) A (draw (.ref I) n) Q E ⟨h,g,dr,tk,os⟩
 | 0,i,ob,h,tk,Q,E,S,it,hn,ht,k=>by
  show wpAny _ _ (pure []) Q E _
  have hi : i = vs.length:=by omega
  subst hi
  exact wpAny_pure (k ob h tk [] S it (by rw [List.drop_length]; exact .nil) ht)
 | n + 1,i,ob,h,tk,Q,E,S,it,hn,ht,k=>by
  have hlt : i < vs.length:=by lia
  show wpAny _ _ (pyNext (.ref I) >>= _) Q E _
  refine wpAny_bind (it_next G ok S ra e it (List.getElem?_eq_getElem hlt) ht fun ob1 h1 y tk1 it1 S1 ry ht1=>?_)
  refine wpAny_bind (wpAny_holding (draw_ok G ok ra e n (i + 1) ob1 h1 tk1 _ _ S1 it1 (by lia) ht1 fun ob2 h2 tk2 ys S2 it2 rys ht2=>wpAny_pure ?_))
  refine k ob2 h2 tk2 (y :: ys) S2 it2 ?_ ht2
  rw [List.drop_eq_getElem_cons hlt]
  exact .cons ry rys
theorem items_iter {v : V} {vs : List V} (e : itemsV cx σ v = some vs) : iterV cx σ v = some vs:=by
 refine bdE e fun o ho e=>(iter_obj ho).trans ?_
 cases o with
 | list=>exact e
 | tuple=>exact e
 | _=>exact noE e
theorem items_ty (G : GOk W cx d) (ok : FOk W c d) (S : SR W c m X σ ps h) {v : V} {x : Value} {vs : List V} (ra : VR (hds ps) v x) (e : itemsV cx σ v = some vs) : ∃ T id,Shared.TypeIs ⟨h,g,dr,tk,os⟩ x T ∧ typeLookup (.type T) "__iter__" = pure (some (.builtin id)):=by
 obtain ⟨A1,its,rfl,i1,hn,hg⟩:=items_of G S (S.K ok) ra e
 rcases hg with ⟨n,hg⟩ | ⟨n,hg⟩
 ·exact ⟨"list",_,⟨_,hg,rfl⟩,slot_list_iter.lookup⟩
 ·exact ⟨"tuple",_,⟨_,hg,rfl⟩,PySem.F.slot_tuple_iter.lookup⟩
theorem unpackItems_ok (G : GOk W cx d) (ok : FOk W c d) (S : SR W c m X σ ps h) {v : V} {x : Value} {vs : List V} {Q : List Value → Shared → Prop} {E : Value → Shared → Prop} (ra : VR (hds ps) v x) (e : itemsV cx σ v = some vs) (ht : 1 ≤ tk) (hA : A.handled = none)
 (k : ∀ h' tk' ys,SR W c m X σ ps h' → All2 (VR (hds ps)) vs ys → 1 ≤ tk' → Q ys ⟨h',g,dr,tk',os⟩) : wpAny (model W.prog W.w) A (unpackItems x vs.length none) Q E ⟨h,g,dr,tk,os⟩:=by
 obtain ⟨T,id,hT,hl⟩:=items_ty G ok S ra e (g:=g) (dr:=dr) (tk:=tk) (os:=os)
 unfold unpackItems
 refine wpAny_bind ?_
 unfold notIterableAtAll
 refine wpAny_bind (wpAny_specialOf hT hl ?_)
 refine wpAny_pure ?_
 simp only [Bool.false_eq_true,if_false]
 refine wpAny_bind (wpAny_holding (it_new G ok S ra (items_iter e) fun I ob h1 it1 S1=>?_))
 refine wpAny_bind (wpAny_holding (draw_ok (P:=[]) G ok ra (items_iter e) vs.length 0 ob h1 tk _ _ S1 it1 (by lia) ht fun ob2 h2 tk2 ys S2 it2 rys ht2=>?_))
 rw [List.drop_zero] at rys
 rw [if_neg (by rw [← rys.len]; lia)]
 refine wpAny_bind (wpAny_holding (it_end (P:=[]) G ok S2 ra (items_iter e) it2 (by simp) (Nat.le_refl _) hA fun h3 S3=>?_))
 simp only [Option.isSome_none,Bool.false_eq_true,if_false]
 exact wpAny_pure (k h3 tk2 ys S3 rys ht2)
theorem getK_putK {β : Type} (i j : Nat) (v : β) : ∀ L : List (Nat × β),getK j (putK i v L) = if j = i then some v else getK j L
 | []=>by
  by_cases q : j = i
  ·subst q; rw [if_pos rfl]; exact gK1 ..
  ·rw [if_neg q]; exact gK2 v [] fun z=>q z.symm
 | (a,w) :: r=>by
  have ih:=getK_putK i j v r
  by_cases q1 : a = i
  ·subst q1
   rw [pK1]
   by_cases q : j = a
   ·subst q; rw [if_pos rfl]; exact gK1 ..
   ·have q' : ¬ a = j:=fun z=>q z.symm
    rw [if_neg q,gK2 v r q',gK2 w r q']
  ·rw [pK2 v w r q1]
   by_cases q : a = j
   ·subst q
    rw [if_neg q1,gK1,gK1]
   ·rw [gK2 _ _ q,gK2 _ _ q]
    exact ih
theorem LR.put {tb : List Str} {hs : HS} {L : Loc} {m : Str → Option Value} (nd : tb.Nodup) (lr : LR tb hs L m) {i : Nat} {x : Str} {v : V} {y : Value} (hi : tb[i]? = some x) (rv : VR hs v y) : LR tb hs (putK i v L) (fun z=>if z = x then some y else m z):=by
 intro j u e
 rw [getK_putK] at e
 split at e
 ·rename_i q
  subst q
  cases e
  exact ⟨x,y,hi,by simp,rv⟩
 ·rename_i q
  obtain ⟨z,w,h1,h2,h3⟩:=lr j u e
  refine ⟨z,w,h1,?_,h3⟩
  have : ¬ z = x:=fun e'=>q (tb_inj nd (e' ▸ h1) hi)
  simp [this,h2]
theorem CellsAre.mono {m m' : Str → Option Value} {cl : List (Str × Addr)} {l : List (Addr × Obj)} (C : CellsAre m cl l) (h : ∀ x,cl.lookup x ≠ none → m x = m' x) : CellsAre m' cl l:=by
 induction C with
 | nil=>exact .nil
 | @cons n a o cs cells e r ih =>
  refine .cons (h n (by simp) ▸ e) (ih fun x hx=>h x ?_)
  rw [List.lookup_cons]
  split
  ·exact nofun
  ·exact hx
theorem store_fn (nd : W.tb.Nodup) (ck : CsOk c.cs) (S : SR W c m X σ ps h) {L : Loc} (lr : LR W.tb (hds ps) L m) {i : Nat} {x : Str} {v : V} {y : Value} {Q : Unit → Shared → Prop} {E : Value → Shared → Prop} (hi : W.tb[i]? = some x) (rv : VR (hds ps) v y) (hk : c.cs.names.lookup x = some .local) (hf : c.cs.kind = .function)
 (k : ∀ m' h',SR W c m' X σ ps h' → LR W.tb (hds ps) (putK i v L) m' → Q () ⟨h',g,dr,tk + 1,os⟩) : wpAny (model W.prog W.w) A (storeName c.env x y) Q E ⟨h,g,dr,tk,os⟩:=by
 obtain ⟨m0,q,f⟩:=S.F.ns
 have nx : c.cl.lookup x = none:=ck.loc hk nofun
 refine wpAny_storeName_local (m:=m0) hk f (fun h' hn hs=>k _ h' ⟨S.F.set (m':=fun z=>if z = x then some y else m z) (fun z hz=>?_) hn hs,S.N.set hs,S.nd,S.rel,S.fz.1,CellsAre.mono S.fz.2 fun z hz=>?_⟩ (lr.put nd hi rv)) ?_
 ·dsimp only
  rw [q z hz]
 ·have : ¬ z = x:=fun e=>hz (e ▸ nx)
  rw [if_neg this]
 show (c.cs.kind == .class || (c.cs.kind == .module && _)) = false
 rw [hf]; rfl
end
end
section
inductive TgOk (W : Wd) (names : List (Str × NameKind)) : Ft → PySem.Expr → Prop
 | one {i : Nat} {x : Str} {p : Pos} : W.tb[i]? = some x → names.lookup x = some .local → TgOk W names (.one i) (.Name x p)
noncomputable def tgs : Ft → List Nat
 | .one i=>[i]
theorem it_go {W : Wd} {prog : Program} {w : World} {A : Around} {E : Value → Shared → Prop} {names : List (Str × NameKind)} {t : Ft} {x y : Value} {target : PySem.Expr} {Q : Unit → Shared → Prop} {s : Shared} (tg : TgOk W names t target) (h : Q () s) : wpAny (model prog w) A (letOwnedTupleGo target x y) Q E s:=by
 cases tg with | one=>exact wpAny_pure h
section
variable {W : Wd} {cx : Cx} {cs : Scope} {cp : Option Cp} {d : Nat} {c : Fc} {σ : St} {ps : PZ} {h : Heap} {g : Array GenState} {dr : Drawn} {tk : Nat} {os : OsState} {A : Around} {E : Value → Shared → Prop}
abbrev Zf:=Loc → List Nat → (Str → Option Value) → List (Addr × Obj) → Prop
noncomputable def StoreOk (W : Wd) (c : Fc) (σ : St) (ps : PZ) (env : Env) (names : List (Str × NameKind)) (Z : Zf) : Prop :=
 ∀ {i : Nat} {x : Str} {v : V} {y : Value} {L : Loc} {B : List Nat} {m : Str → Option Value} {X : List (Addr × Obj)} {h : Heap} {g : Array GenState} {dr : Drawn} {tk : Nat} {os : OsState} {A : Around} {Q : Unit → Shared → Prop} {E : Value → Shared → Prop},W.tb[i]? = some x → names.lookup x = some .local → VR (hds ps) v y → SR W c m X σ ps h → Z L B m X →
  (∀ m' X' h',SR W c m' X' σ ps h' → Z (putK i v L) (i :: B) m' X' → Q () ⟨h',g,dr,tk + 1,os⟩) → wpAny (model W.prog W.w) A (storeName env x y) Q E ⟨h,g,dr,tk,os⟩
theorem bind_ok (G : GOk W cx d) (ok : FOk W c d) {env : Env} {names : List (Str × NameKind)} {Z : Zf} (so : StoreOk W c σ ps env names Z) {t : Ft} {target : PySem.Expr} (tg : TgOk W names t target) {v : V} {y : Value} {L L1 : Loc} {B : List Nat} {m : Str → Option Value} {X : List (Addr × Obj)} {Q : Unit → Shared → Prop}
 (S : SR W c m X σ ps h) (z : Z L B m X) (rv : VR (hds ps) v y) (e : bindFt cx σ t v L = some L1) (ht : 1 ≤ tk) (hA : A.handled = none)
 (k : ∀ m' X' h' tk',SR W c m' X' σ ps h' → Z L1 (tgs t ++ B) m' X' → 1 ≤ tk' → Q () ⟨h',g,dr,tk',os⟩) : wpAny (model W.prog W.w) A (assign target env y) Q E ⟨h,g,dr,tk,os⟩:=by
 cases tg with
 | one hi hl =>
  cases e
  rw [arm_assign_Name]
  exact wpAny_bind (wpAny_standAt (wpAny_bindName (so hi hl rv S z fun m' X' h' S' z'=>k m' X' h' _ S' z' (by lia))))
end
end
section
section
variable {prog : Program} {w : World} {A : Around} {R : Result → Shared → Prop} {s : Shared}
theorem comp_step {elt target iter : PySem.Expr} {gens : List Comprehension} {scope : Scope} {pos : Pos} {depth : Nat} {it acc : Value} {env : Env} {T : Sem Fin}
 (hturn : compTurn (.ListComp elt gens scope pos) depth it acc env = (standAt iter.pos >>= fun J=>pyNext it >>= fun r=>match r with
  | none=>pure (.done .next)
  | some v=>letOwnedTupleGo target it v >>= fun J=>assign target env v >>= fun J=>T))
 (h : wpAny (model prog w) A (pyNext it) (fun r s₁=>match r with
  | none=>R (.ok .next) s₁
  | some v=>wpAny (model prog w) A (letOwnedTupleGo target it v) (fun J s₂=>wpAny (model prog w) A (assign target env v) (fun J s₃=>wpAny (model prog w) A T
   (fun fin s'=>match fin with | .done f=>R (.ok f) s' | .again c'=>c'.quiet = true ∧ codeAny (model prog w) A c' R s')
   (notedBy (model prog w) A env fun e s'=>R (.error e) s') s₃) (notedBy (model prog w) A env fun e s'=>R (.error e) s') s₂) (notedBy (model prog w) A env fun e s'=>R (.error e) s') s₁)
  (notedBy (model prog w) A env fun e s'=>R (.error e) s') s) :
 codeAny (model prog w) A (.compLoop (.ListComp elt gens scope pos) depth it acc env) R s:=by
 refine codeAny_of_tree ?_
 show wpAny _ A ((compTurn (.ListComp elt gens scope pos) depth it acc env).onRaise (fun x=>do noteFrame x env; theTreesLotGoes x)) _ _ s
 refine wpAny_noted ?_
 rw [hturn]
 refine wpAny_bind (wpAny_standAt (wpAny_bind (wpAny_mono h (fun r s₁ h₁=>?_) fun J J h'=>h')))
 cases r with
 | none=>exact wpAny_pure h₁
 | some v=>exact wpAny_bind (wpAny_mono h₁ (fun J s₂ h₂=>wpAny_bind (wpAny_mono h₂ (fun J s₃ h₃=>h₃) fun J J h'=>h')) fun J J h'=>h')
noncomputable def emitT (elt : PySem.Expr) (acc : Value) (env : Env) : Sem Unit:=(eval elt env >>= fun x=>call (.builtin "list.append") [acc,x] >>= fun J=>pure ())
noncomputable def ifsT (ifs : List PySem.Expr) (env : Env) : Sem Bool:=forIn ifs true fun c ok=>if ok = true then isTrue c env (eval c env) >>= fun b=>pure (ForInStep.yield b) else pure (ForInStep.yield ok)
noncomputable def restT (ifs : List PySem.Expr) (env : Env) (a : Sem Unit) (b : Sem Fin) : Sem Fin:=ifsT ifs env >>= fun ok=>if ok = true then a >>= fun J=>b else b
theorem turn0 (elt target iter : PySem.Expr) (ifs : List PySem.Expr) (scope : Scope) (pos : Pos) (it acc : Value) (env : Env) :
 compTurn (.ListComp elt [⟨target,iter,ifs,0⟩] scope pos) 0 it acc env = (standAt iter.pos >>= fun J=>pyNext it >>= fun r=>match r with
  | none=>pure (.done .next)
  | some v=>letOwnedTupleGo target it v >>= fun J=>assign target env v >>= fun J =>
   restT ifs env (emitT elt acc env) (again (.compLoop (.ListComp elt [⟨target,iter,ifs,0⟩] scope pos) 0 it acc env))):=by rfl
end
theorem compL_nil {bind : V → Loc → St → Option Loc} {still : St → Bool} {elt : Loc → St → Option (List V × St)} {L : Loc} {σ : St} : compL bind still elt [] L σ = if still σ then some ([],σ) else none:=rfl
theorem compL_cons {bind : V → Loc → St → Option Loc} {still : St → Bool} {elt : Loc → St → Option (List V × St)} {L : Loc} {σ : St} {v : V} {vs : List V} : compL bind still elt (v :: vs) L σ = if still σ then (bind v L σ).bind fun L1=>(elt L1 σ).bind fun (xs,σ1)=>(compL bind still elt vs L1 σ1).bind fun (ys,σ2)=>some (xs ++ ys,σ2) else none:=rfl
theorem putK_other {β : Type} (i j : Nat) (v : β) (L : List (Nat × β)) (h : j ≠ i) : getK j (putK i v L) = getK j L:=by
 rw [getK_putK,if_neg h]
theorem bindFt_get {cx : Cx} {σ : St} {t : Ft} {v : V} {L L1 : Loc} {j : Nat} (e : bindFt cx σ t v L = some L1) (h : j ∉ tgs t) : getK j L1 = getK j L:=by
 cases t with
 | one i =>
  cases e
  exact putK_other _ _ _ _ (fun q=>h (q ▸ .head _))
theorem LRb.put {tb : List Str} {hs : HS} {L : Loc} {m : Str → Option Value} {B : List Nat} (nd : tb.Nodup) (lr : LRb tb hs L m B) {i : Nat} {x : Str} {v : V} {y : Value} (hi : tb[i]? = some x) (rv : VR hs v y) : LRb tb hs (putK i v L) (fun z=>if z = x then some y else m z) (i :: B):=by
 intro j hj u e
 rw [getK_putK] at e
 split at e
 ·rename_i q
  subst q
  cases e
  exact ⟨x,y,hi,by simp,rv⟩
 ·rename_i q
  rcases List.mem_cons.mp hj with rfl | hj
  ·exact absurd rfl q
  ·obtain ⟨z,w,h1,h2,h3⟩:=lr j hj u e
   refine ⟨z,w,h1,?_,h3⟩
   have : ¬ z = x:=fun e'=>q (tb_inj nd (e' ▸ h1) hi)
   simp [this,h2]
section
variable {W : Wd} {cx : Cx} {cs : Scope} {cp : Option Cp} {d : Nat} {c : Fc} {m : Str → Option Value} {X P Y : List (Addr × Obj)} {σ : St} {ps : PZ} {h : Heap} {g : Array GenState} {dr : Drawn} {tk : Nat} {os : OsState} {A : Around}
theorem LRf.next {tb : List Str} {hs : HS} {sc : Scope} {L L1 : Loc} {m : Str → Option Value} (r : LRf tb hs sc L m) (h : ∀ i x,tb[i]? = some x → sc.names.lookup x = some .free → getK i L1 = getK i L) : LRf tb hs sc L1 m:=fun i x v h1 h2 e=>r i x v h1 h2 ((h i x h1 h2) ▸ e)
theorem tgs_local {names : List (Str × NameKind)} {t : Ft} {e : PySem.Expr} (g : TgOk W names t e) : ∀ j ∈ tgs t,∃ x,W.tb[j]? = some x ∧ names.lookup x = some .local:=by
 cases g with
 | one h1 h2 =>
  intro j hj
  obtain rfl:=List.mem_singleton.mp hj
  exact ⟨_,h1,h2⟩
noncomputable def Zc (W : Wd) (ps : PZ) (m : Str → Option Value) (C : Addr) (Y : List (Addr × Obj)) : Zf:=fun L B m' X'=>m' = m ∧ ∃ o mc,X' = (C,o) :: Y ∧ IsNs o mc ∧ LRb W.tb (hds ps) L mc B
theorem store_c (nd : W.tb.Nodup) {C : Addr} {sc : Scope} (hf : sc.kind = .function) : StoreOk W c σ ps (cEnv c sc C) sc.names (Zc W ps m C Y):=by
 intro i x v y L B m' X' h g dr tk os A Q E hi hl rv S z k
 obtain ⟨rfl,o,mc,rfl,⟨es,ep,q1,q2,q3⟩,lr⟩:=z
 have gC:=(S.N (C,o) (by simp)).1
 refine wpAny_storeName_local (m:=mc) (cEnv_kind hl nofun) ⟨o,es,ep,gC,q1,q2,q3⟩ (fun h' hn' hs=>?_) ?_
 ·obtain ⟨o',es',ep',g',r⟩:=hn'
  exact k _ _ h' (S.putX (P:=[]) (same_keep hs) g') ⟨rfl,o',_,rfl,⟨es',ep',r⟩,lr.put nd hi rv⟩
 ·show (sc.kind == .class || (sc.kind == .module && _)) = false
  rw [hf]; rfl
inductive OkIf (W : Wd) (cx : Cx) (cs : Scope) (cp : Option Cp) (d : Nat) : PE → List PySem.Expr → Prop
 | no : OkIf W cx cs cp d (.const (.bool true)) []
 | one {e : PE} {x : PySem.Expr} : OkT W cx cs cp d e x → OkIf W cx cs cp d e [x]
theorem evT_true {L : Loc} : evT cx (.const (.bool true)) L σ = some (true,σ):=rfl
theorem ok_rest {cp : Option Cp} {e : PE} {ifs : List PySem.Expr} (o : OkIf W cx cs cp d e ifs) (hc : c.cs = cs) (ok : FOk W c d) {env : Env} {L : Loc} {b : Bool} {σ' : St} {a : Sem Unit} {z : Sem Fin} {Q : Fin → Shared → Prop} {E : Value → Shared → Prop}
 (S : SR W c m X σ ps h) (V : Vw W cp c env m X (hds ps) L) (ht : 1 ≤ tk) (e1 : evT cx e L σ = some (b,σ'))
 (H : ∀ ps' h' tk',(hds ps).Le (hds ps') → SR W c m X σ' ps' h' → 1 ≤ tk' → wpAny (model W.prog W.w) c.A (if b = true then a >>= fun J=>z else z) Q E ⟨h',g,dr,tk',os⟩) : wpAny (model W.prog W.w) c.A (restT ifs env a z) Q E ⟨h,g,dr,tk,os⟩:=by
 cases o with
 | no =>
  cases evT_true.symm.trans e1
  exact H ps h tk .rfl S ht
 | one ho =>
  refine wpAny_bind (wpAny_bind (wpAny_bind (ho.1 c hc ok S V ht e1 ?_)))
  exact fun ps' h' tk' p S' ht'=>wpAny_pure (wpAny_pure (H ps' h' tk' p S' ht'))
theorem drop_at {xs rest : List V} {u : V} {i : Nat} (hd : xs.drop i = u :: rest) : xs[i]? = some u ∧ xs.drop (i + 1) = rest:=by
 refine ⟨?_,by rw [← List.drop_drop,hd]; rfl⟩
 have : (xs.drop i)[0]? = some u:=by rw [hd]; rfl
 rwa [List.getElem?_drop] at this
theorem compL_consE {bind : V → Loc → St → Option Loc} {still : St → Bool} {elt : Loc → St → Option (List V × St)} {L : Loc} {σ σ' : St} {u : V} {rest vs : List V} {P : Prop} (e : compL bind still elt (u :: rest) L σ = some (vs,σ'))
 (k : still σ = true → ∀ L1,bind u L σ = some L1 → ∀ w1 σ2,elt L1 σ = some (w1,σ2) → ∀ vs2,compL bind still elt rest L1 σ2 = some (vs2,σ') → w1 ++ vs2 = vs → P) : P :=
 gdE (compL_cons.symm.trans e) fun hst e1=>bdE e1 fun L1 b1 e1=>bd2 e1 fun w1 σ2 e2 e5=>bd2 e5 fun vs2 σ3 b3 e6=>by
  obtain ⟨q,rfl⟩:=Prod.mk.inj (Option.some.inj e6)
  exact k hst L1 b1 w1 σ2 e2 vs2 b3 q
inductive CmI (W : Wd) (cx : Cx) (c : Fc) (m : Str → Option Value) (X : List (Addr × Obj)) (p0 : HS) (g : Array GenState) (dr : Drawn) (os : OsState) (sc : Scope) (t : Ft) (cnd e : PE) (σ1 : St) (v : V) (x : Value) (xs : List V) (C I D : Addr) (σ' : St) (tot : List V) : List V → Shared → Prop
 | mk (rest : List V) (i : Nat) (L : Loc) (σ : St) (ps : PZ) (h : Heap) (tk : Nat) (ob o : Obj) (mc : Str → Option Value) (ys : List Value) (n : Nat) (acc vs : List V) : xs.drop i = rest → i ≤ xs.length → SR W c m ((C,o) :: (I,ob) :: (D,listOf ys.toArray n) :: X) σ ps h → IsNs o mc → ItOb W cx σ1 v x i ob → All2 (VR (hds ps)) acc ys → 1 ≤ tk → LRf W.tb (hds ps) sc L m →
  compL (fun v L s=>bindFt cx s t v L) (fun s=>stillV cx σ1 s v) (fun L1 s=>(evT cx cnd L1 s).bind fun (b,s1)=>eltL b s1 (evE cx e L1 s1)) rest L σ = some (vs,σ') → acc ++ vs = tot → p0.Le (hds ps) → CmI W cx c m X p0 g dr os sc t cnd e σ1 v x xs C I D σ' tot rest ⟨h,g,dr,tk,os⟩
theorem comp_emit (G : GOk W cx d) (hc : c.cs = cs) (ok : FOk W c d) {sc : Scope} (hf : sc.kind = .function) {t : Ft} {target iter elt : PySem.Expr} {gens : List Comprehension} {ifs : List PySem.Expr} {pos : Pos} {depth : Nat} {cnd e : PE} {C I D : Addr} {R : Result → Shared → Prop}
 (tg : TgOk W sc.names t target) (hcnd : OkIf W cx cs (some (sc,tgs t)) d cnd ifs) (he : OkE W cx cs (some (sc,tgs t)) d e elt)
 (hturn : compTurn (.ListComp elt gens sc pos) depth (.ref I) (.ref D) (cEnv c sc C) = (standAt iter.pos >>= fun J=>pyNext (.ref I) >>= fun r=>match r with
  | none=>pure (.done .next)
  | some v=>letOwnedTupleGo target (.ref I) v >>= fun J=>assign target (cEnv c sc C) v >>= fun J =>
   restT ifs (cEnv c sc C) (emitT elt (.ref D) (cEnv c sc C)) (again (.compLoop (.ListComp elt gens sc pos) depth (.ref I) (.ref D) (cEnv c sc C)))))
 {v : V} {x : Value} {σ1 σ' : St} {xs tot : List V} (hx : iterV cx σ1 v = some xs) {p0 : HS} (rv0 : VR p0 v x) (hz : tot.length ≤ LIM)
 (hR : ∀ ps' h' tk' o' mc' ys' n',p0.Le (hds ps') → SR W c m ((C,o') :: (D,listOf (List.toArray ys') n') :: X) σ' ps' h' → IsNs o' mc' → All2 (VR (hds ps')) tot ys' → 1 ≤ tk' → R (.ok .next) ⟨h',g,dr,tk',os⟩) :
 ∀ (rest : List V) (s : Shared),CmI W cx c m X p0 g dr os sc t cnd e σ1 v x xs C I D σ' tot rest s →
  codeAny (model W.prog W.w) c.A (.compLoop (.ListComp elt gens sc pos) depth (.ref I) (.ref D) (cEnv c sc C)) R s:=by
 intro rest
 induction rest with
 | nil =>
  intro s J
  cases J with
  | mk i L σ ps h tk ob o mc ys n acc vs hd hi S hns it ra ht lf e1 q p =>
  refine gdE (compL_nil.symm.trans e1) fun hst e1=>?_
  obtain ⟨rfl,rfl⟩:=Prod.mk.inj (Option.some.inj e1)
  refine comp_step hturn (it_end (P:=[(C,o)]) G ok S (rv0.mono p) ((iter_still hst).trans hx) (it.still hst) (List.getElem?_eq_none (List.drop_eq_nil_iff.mp hd)) hi ok.hh fun h' S'=>?_)
  exact hR ps h' tk o mc ys n p S' hns ((List.append_nil acc).symm.trans q ▸ ra) ht
 | cons u rest ih =>
  intro s J
  cases J with
  | mk i L σ ps h tk ob o mc ys n acc vs hd hi S hns it ra ht lf e1 q p =>
  refine compL_consE e1 fun hst L1 b1 w1 σ2 e2 vs2 b3 q2=>bd2 e2 fun b σ2a b0 e2=>?_
  have hui:=drop_at hd
  refine comp_step hturn ?_
  refine it_next (P:=[(C,o)]) G ok S (rv0.mono p) ((iter_still hst).trans hx) (it.still hst) hui.1 ht fun ob1 h1 y1 tk1 it1 S1 ry1 ht1=>?_
  refine it_go tg ?_
  refine bind_ok (Z:=Zc W ps m C ((I,ob1) :: (D,listOf ys.toArray n) :: X)) G ok (store_c G.co.nd hf) tg (B:=[]) S1 ⟨rfl,o,mc,rfl,hns,nofun⟩ ry1 b1 ht1 ok.hh fun m2 X2 h2 tk2 S2 z2 ht2=>?_
  obtain ⟨rfl,o2,mc2,rfl,hns2,lr2⟩:=z2
  have lf2 : LRf W.tb (hds ps) sc L1 m2:=lf.next fun j x h1 h2=>bindFt_get b1 fun q=>by
   obtain ⟨x',h3,h4⟩:=tgs_local tg j q
   obtain rfl:=Option.some.inj (h1.symm.trans h3)
   rw [h2] at h4; cases h4
  have nxt : ∀ (ps4 : PZ) (h4 : Heap) (tk4 : Nat) (ys' : List Value) (n' : Nat),(hds ps).Le (hds ps4) → SR W c m2 ((C,o2) :: (I,ob1) :: (D,listOf ys'.toArray n') :: X) σ2 ps4 h4 → All2 (VR (hds ps4)) (acc ++ w1) ys' → 1 ≤ tk4 → codeAny (model W.prog W.w) c.A (.compLoop (.ListComp elt gens sc pos) depth (.ref I) (.ref D) (cEnv c sc C)) R ⟨h4,g,dr,tk4,os⟩:=fun ps4 h4 tk4 ys' n' p4 S4 ra4 ht4 =>
   ih _ (.mk rest (i + 1) L1 σ2 ps4 h4 tk4 ob1 o2 mc2 ys' n' (acc ++ w1) vs2 hui.2 (List.getElem?_eq_some_iff.mp hui.1).1 S4 hns2 (it1.still (still_sym hst)) ra4 ht4 (lf2.mono p4) b3 ((List.append_assoc ..).trans (q2 ▸ q)) (p.trans p4))
  have hlen : ys.length ≤ LIM:=by rw [← ra.len]; exact Nat.le_trans (by rw [← q,List.length_append]; exact Nat.le_add_right ..) hz
  clear ih hR
  refine ok_rest hcnd hc ok S2 ⟨C,o2,mc2,rfl,.head _,hns2,(List.append_nil (tgs t)) ▸ lr2,lf2⟩ ht2 b0 fun ps9 h9 tk9 p9 S9 ht9=>?_
  cases b with
  | false =>
   obtain ⟨rfl,rfl⟩:=Prod.mk.inj (Option.some.inj e2)
   exact wpAny_pure ⟨rfl,nxt ps9 h9 tk9 ys n p9 S9 (by rw [List.append_nil]; exact ra.mono fun J J z=>z.mono p9) ht9⟩
  | true =>
  refine mp2 e2 fun w σ2' b2 q=>?_
  obtain ⟨rfl,rfl⟩:=Prod.mk.inj (Option.some.inj q)
  refine wpAny_bind (wpAny_bind (he.1 c hc ok S9 ⟨C,o2,mc2,rfl,.head _,hns2,(List.append_nil (tgs t)) ▸ lr2.mono p9,lf2.mono p9⟩ ht9 b2 fun ps3 h3 tk3 y3 p3 S3 r3 ht3=>wpAny_bind ?_))
  refine append_at (s:=⟨h3,g,dr,tk3,os⟩) (S3.N (D,listOf ys.toArray n) (by simp)).1 (fun h4 hs4 ho4=>wpAny_pure (wpAny_pure ⟨rfl,?_⟩)) (by rw [List.size_toArray,sizeLine_eq]; unfold LIM at hlen; lia)
  have e2 : ys.toArray.push y3 = (ys ++ [y3]).toArray:=List.push_toArray ..
  rw [e2] at ho4
  have p93:=p9.trans p3
  exact nxt ps3 h4 tk3 (ys ++ [y3]) (n + 1) p93 (S3.putX (P:=[(C,o2),(I,ob1)]) (same_keep hs4) ho4) ((ra.mono fun J J z=>z.mono p93).snoc r3) ht3
end
end
section
section
variable {W : Wd} {cx : Cx} {cs : Scope} {cp : Option Cp} {d : Nat} {c : Fc} {m : Str → Option Value} {X X' P Y : List (Addr × Obj)} {σ : St} {ps : PZ} {h : Heap} {g : Array GenState} {dr : Drawn} {tk : Nat} {os : OsState} {A : Around}
theorem SR.perm (S : SR W c m X σ ps h) (p : X.Perm X') : SR W c m X' σ ps h:=by
 refine ⟨S.F,fun q hq=>S.N q ?_,?_,S.rel,S.fz⟩
 ·rcases List.mem_append.mp hq with hq | hq
  ·exact List.mem_append_left _ hq
  ·exact List.mem_append_right _ (p.mem_iff.mpr hq)
 ·have : ((ps.flatten ++ X).map (·.1)).Perm ((ps.flatten ++ X').map (·.1)):=List.Perm.map _ (List.Perm.append_left _ p)
  exact this.nodup_iff.mp S.nd
theorem it_self {prog : Program} {w : World} {E : Value → Shared → Prop} {σ : St} {v : V} {x : Value} {i : Nat} {ob : Obj} {I : Addr} {Q : Value → Shared → Prop} {s : Shared} (it : ItOb W cx σ v x i ob) (hI : s.heap.get? I = some ob) (h : Q (.ref I) s) :
 wpAny (model prog w) A (pyIter (.ref I)) Q E s:=by
 cases it with
 | str h1 h2 h3 h4 =>
  rcases h3 with h3 | h3
  ·exact wpAny_pyIter_striter_ascii ⟨ob,hI,h3,h4⟩ h
  ·exact wpAny_pyIter_striter_wide ⟨ob,hI,h3,h4⟩ h
 | list h1 h2 h3 h4=>exact wpAny_pyIter_listiter ⟨ob,hI,h3,h4⟩ h
 | tuple h1 h2 h3 h4=>exact wpAny_pyIter_tupleiter ⟨ob,hI,h3,h4⟩ h
 | rng h1 h2=>subst h2; exact wpAny_pyIter_rangeiter hI h
 | dict h1 h2 h3 h4 h5 h6 h7=>exact wpAny_pyIter_keyiter ⟨ob,hI,h6,h7⟩ h
structure ScOk (cs : Scope) (cp : Option Cp) (sc : Scope) : Prop where
 free : ∀ x ∈ sc.names,x.2 = .free → cp = none ∧ cs.names.lookup x.1 = some .cell
 cell : ∀ x ∈ sc.names,x.2 ≠ .cell
 kind : sc.kind = .function
 names : ∀ x ∈ sc.names,x.2 = .local → sc.names.lookup x.1 = some .local
theorem clos_ok {env : Env} {cl : List (Str × Addr)} {sc : Scope} (h : ∀ x ∈ sc.names,x.2 = .free → ∃ A,env.cells.lookup x.1 = some A ∧ cl.lookup x.1 = some A) : closureFor sc env = pure (closL cl sc.names []):=by
 unfold closureFor
 have key : ∀ (l : List (Str × NameKind)) (acc : List (Str × Addr)),(∀ x ∈ l,x.2 = .free → ∃ A,env.cells.lookup x.1 = some A ∧ cl.lookup x.1 = some A) →
  (forIn l acc fun (x : Str × NameKind) (r : List (Str × Addr))=>(match x with
   | (name,kind)=>if (kind == NameKind.free) = true then do
    let c ← cellOf env name
    pure (ForInStep.yield ((name,c) :: r))
    else pure (ForInStep.yield r) : Sem _)) = pure (closL cl l acc):=by
  intro l
  induction l with
  | nil=>intro acc _; rfl
  | cons p r ih =>
   intro acc hl
   obtain ⟨n,k⟩:=p
   rw [List.forIn_cons]
   dsimp only
   rw [show closL cl ((n,k) :: r) acc = closL cl r (if k == .free then (n,(cl.lookup n).getD 0) :: acc else acc) from rfl]
   by_cases q : (k == NameKind.free) = true
   ·obtain ⟨A,e1,e2⟩:=hl _ (.head _) (eq_of_beq q)
    have e1 : env.cells.lookup n = some A:=e1
    have e2 : cl.lookup n = some A:=e2
    rw [if_pos q,if_pos q,e2]
    unfold cellOf
    rw [e1]
    exact ih _ fun x hx=>hl x (.tail _ hx)
   ·rw [if_neg q,if_neg q]
    exact ih _ fun x hx=>hl x (.tail _ hx)
 exact (congrArg (· >>= pure) (key sc.names [] h)).trans rfl
theorem Vw.free {sc : Scope} (so : ScOk cs cp sc) (hc : c.cs = cs) (ck : CsOk cs) {env : Env} {hs : HS} {L : Loc} (V : Vw W cp c env m X hs L) : closureFor sc env = pure (closL c.cl sc.names []) ∧ (∀ C,compEnvC sc (closL c.cl sc.names []) C env = cEnv c sc C) ∧ LRf W.tb hs sc L m:=by
 subst hc
 unfold Vw at V
 split at V
 ·obtain ⟨rfl,lr⟩:=V
  refine ⟨clos_ok fun x hx hf=>?_,fun J=>rfl,fun i x v h1 J e=>?_⟩
  ·obtain ⟨A,e⟩:=ck.cell (n:=c.L + 1) (so.free x hx hf).2
   exact ⟨A,(by show c.cl.lookup _ = _; rw [Fc.cl,e]; simp),by rw [Fc.cl,e]; simp⟩
  ·obtain ⟨x',y,q1,q2,q3⟩:=lr i v e
   obtain rfl:=Option.some.inj (h1.symm.trans q1)
   exact ⟨y,q2,q3⟩
 ·have nf : ∀ x ∈ sc.names,x.2 ≠ .free:=fun x hx hf=>nomatch (so.free x hx hf).1
  obtain ⟨_,_,_,rfl,_⟩:=V
  refine ⟨clos_ok fun x hx hf=>absurd hf (nf x hx),fun C=>?_,fun i x v h1 h2 e=>absurd rfl (nf _ (mem_of_lookup h2))⟩
  have e : ∀ env : Env,relabel sc env = sc:=fun env=>by
   unfold relabel
   have : (sc.names.map fun (n,k)=>if (k == NameKind.free && env.scope.kind == .function && env.kindOf n == some .cell) then (n,NameKind.cell) else (n,k)) = sc.names:=by
    refine (List.map_congr_left fun x hx=>?_).trans (List.map_id _)
    have : (x.2 == NameKind.free) = false:=beq_eq_false_iff_ne.mpr (nf x hx)
    dsimp only
    rw [this]
    rfl
   rw [this]
  show Env.mk (relabel sc _) .. = Env.mk (relabel sc _) ..
  rw [e,e]
  rfl
theorem comp_open (G : GOk W cx d) (ok : FOk W c d) {sc : Scope} (so : ScOk cs cp sc) {e : PE} {iter elt : PySem.Expr} {target : PySem.Expr} {ifs : List PySem.Expr} {pos pp : Pos} {env : Env} {use : Option (Value → Sem Unit)} {Q E : Value → Shared → Prop} {L : Loc} {v : V} {σ1 : St} {xs : List V}
 (hc : c.cs = cs) (hit : OkE W cx cs cp d e iter) (hs : ∀ env x,foldedSetIterable iter env x = pure x)
 (S : SR W c m X σ ps h) (V : Vw W cp c env m X (hds ps) L) (ht : 1 ≤ tk) (e1 : evE cx e L σ = some (v,σ1)) (hx : iterV cx σ1 v = some xs)
 (loop : ∀ (ps1 : PZ) (h1 : Heap) (tk1 : Nat) (x : Value) (C I D : Addr) (o ob : Obj),(hds ps).Le (hds ps1) → SR W c m ((C,o) :: (I,ob) :: (D,listOf ([] : List Value).toArray 0) :: X) σ1 ps1 h1 → IsNs o (fun J=>none) → ItOb W cx σ1 v x 0 ob → VR (hds ps1) v x → 1 ≤ tk1 →
  codeAny (model W.prog W.w) c.A (.compLoop (.ListComp elt [⟨target,iter,ifs,0⟩] sc pos) 0 (.ref I) (.ref D) (cEnv c sc C)) (compPost (model W.prog W.w) c.A E use Q (.ref D) C) ⟨h1,g,dr,tk1,os⟩) :
 wpAny (model W.prog W.w) c.A (comprehension (.ListComp elt [⟨target,iter,ifs,0⟩] sc pos) sc env pp (newList []) false (eval iter env) use) Q E ⟨h,g,dr,tk,os⟩:=by
 obtain ⟨fc,fe,_⟩:=V.free so hc (hc ▸ ok.ck)
 refine wpAny_comprehension_free (use:=use) rfl (fun x=>hs env x) fc so.kind so.names (hit.1 c hc ok S V ht e1 fun ps1 h1 tk1 y1 p1 S1 r1 ht1=>?_)
 refine it_new G ok S1 r1 hx fun I ob h2 it2 S2=>?_
 refine wpAny_newObj_type (hd:=by size_fits) ?_
 have S3:=S2.take { cls:=.type "list",data:=.seq ([] : List Value).toArray } rfl
 refine wpAny_newFunctionEnv so.cell (by intro y hy; simp at hy) (fun h4 hns hsb=>?_) so.kind
 have S4:=S3.take { cls:=.type "dict",data:=.dict #[] } rfl
 obtain ⟨o,es,ep,go,q1,q2,q3⟩:=hns
 have S5:=S4.putX (P:=[]) (same_keep hsb) go
 have S6:=S5.perm (X':=(_,o) :: (I,ob) :: (h2.objs.size,listOf ([] : List Value).toArray 0) :: X) (List.Perm.cons _ (List.Perm.swap ..))
 have key : codeAny (model W.prog W.w) c.A (.compLoop (.ListComp elt [⟨target,iter,ifs,0⟩] sc pos) 0 (.ref I) (.ref h2.objs.size) (compEnvC sc (closL c.cl sc.names []) (h2.push { cls:=.type "list",data:=.seq ([] : List Value).toArray }).objs.size env))
  (compPost (model W.prog W.w) c.A E use Q (.ref h2.objs.size) (h2.push { cls:=.type "list",data:=.seq ([] : List Value).toArray }).objs.size) ⟨h4,g,dr,tk1,os⟩:=by
  rw [fe]
  exact loop ps1 h4 tk1 y1 _ I h2.objs.size o ob p1 S6 ⟨es,ep,q1,q2,q3⟩ it2 r1 ht1
 exact codeAny_compStart_list key (it_self it2 (S6.N (I,ob) (by simp)).1 key)
theorem comp_claim {C D : Addr} {o : Obj} {ys : List Value} {n : Nat} {vs : List V} (S : SR W c m ((C,o) :: (D,listOf ys.toArray n) :: X) σ ps h) (ra : All2 (VR (hds ps)) vs ys) (hl : vs.length ≤ LIM) :
 SR W c m ((C,o) :: X) (σ ++ [.list vs]) (ps.add [(D,listOf ys.toArray n)]) h ∧ VR (hds (ps.add [(D,listOf ys.toArray n)])) (.ref σ.length) (.ref D):=by
 refine ⟨SR.claim (S.perm (X':=(D,listOf ys.toArray n) :: (C,o) :: X) (List.Perm.swap ..)) (Heap.SameBut.refl _ _) (S.N (D,listOf ys.toArray n) (by simp)).1 (.list (ra.mono fun J J=>VR.mono .add) (Nat.le_trans hl (Nat.le_add_right _ _))),?_⟩
 rw [hds_snoc]
 exact VR.last (hds_len.trans S.len.symm)
theorem ok_comp (G : GOk W cx d) {sc : Scope} (so : ScOk cs cp sc) {t : Ft} {e cnd el : PE} {target iter elt : PySem.Expr} {ifs : List PySem.Expr} {pos : Pos} (tg : TgOk W sc.names t target) (hit : OkE W cx cs cp d e iter) (hcnd : OkIf W cx cs (some (sc,tgs t)) d cnd ifs) (he : OkE W cx cs (some (sc,tgs t)) d el elt) (hs : ∀ env x,foldedSetIterable iter env x = pure x) :
 OkE W cx cs cp d (.comp t e cnd el) (.ListComp elt [⟨target,iter,ifs,0⟩] sc pos):=by
 refine ⟨?_⟩
 intro c hc ok env m X L σ ps h tk v σ' Q E g dr os S V ht ee H
 refine bd2 (evE_comp.symm.trans ee) fun v0 σ1 e1 e=>bdE e fun xs hx e=>bd2 e fun vs σ2 e2 e3=>gdE e3 fun hlim e3=>?_
 rw [eval_ListComp]
 refine comp_open G ok so hc hit hs S V ht e1 hx fun ps1 h1 tk1 x C I D o ob p1 S1 hns it1 rv ht1=>?_
 refine comp_emit G hc ok so.kind tg hcnd he (turn0 ..) hx rv hlim (fun ps7 h7 tk7 o7 mc7 ys7 n7 p7 S7 hns7 ra7 ht7=>?_) xs _ (.mk xs 0 L σ1 ps1 h1 tk1 ob o _ [] 0 [] vs rfl (Nat.zero_le _) S1 hns it1 .nil ht1 ((V.free so hc (hc ▸ ok.ck)).2.2.mono p1) e2 rfl .rfl)
 obtain ⟨es7,ep7,z1,z2,z3⟩:=hns7
 obtain ⟨S9,r9⟩:=comp_claim S7 ra7 hlim
 exact ⟨mc7,⟨o7,es7,ep7,(S7.N (_,o7) (by simp)).1,z1,z2,z3⟩,fun h8 hs8=>(H.eq e3) _ _ _ _ ((p1.trans p7).trans pre_snoc) (S9.dropX (P:=[]) (same_keep hs8)) r9 ht7⟩
end
end
section
inductive FlR (hs : HS) : Fl → Flow → Prop
 | next : FlR hs .next .next
 | brk : FlR hs .brk .brk
 | cont : FlR hs .cont .cont
 | ret {v : V} {y : Value} : VR hs v y → FlR hs (.ret v) (.ret y)
theorem FlR.mono {hs hs' : HS} {fl : Fl} {f : Flow} (r : FlR hs fl f) (p : hs.Le hs') : FlR hs' fl f:=by
 cases r with
 | next=>exact .next
 | brk=>exact .brk
 | cont=>exact .cont
 | ret h=>exact .ret (h.mono p)
abbrev HandS (W : Wd) (c : Fc) (X : List (Addr × Obj)) (hs : HS) (σ' : St) (L' : Loc) (fl : Fl) (g : Array GenState) (dr : Drawn) (os : OsState) (Q : Flow → Shared → Prop) : Prop :=
 ∀ m' ps' h' t' f,hs.Le (hds ps') → SR W c m' X σ' ps' h' → LR W.tb (hds ps') L' m' → FlR (hds ps') fl f → 1 ≤ t' → Q f ⟨h',g,dr,t',os⟩
structure OkS (W : Wd) (cx : Cx) (cs : Scope) (d : Nat) (s : PS) (st : Stmt) : Prop where
 h : ∀ (c : Fc),c.cs = cs → FOk W c d → ∀ {m : Str → Option Value} {X : List (Addr × Obj)} {L : Loc} {σ : St} {ps : PZ} {h : Heap} {tk : Nat} {fl : Fl} {L' : Loc} {σ' : St} {Q : Flow → Shared → Prop} {E : Value → Shared → Prop} {g : Array GenState} {dr : Drawn} {os : OsState} {z : Nat} {hz : HS},
  SR W c m X σ ps h → LR W.tb (hds ps) L m → 1 ≤ tk → hz.a.length = z → hz.Le (hds ps) → evS cx s z L σ = some (fl,L',σ') → HandS W c X hz σ' L' fl g dr os Q → wpAny (model W.prog W.w) c.A (exec st c.env) Q E ⟨h,g,dr,tk,os⟩
structure OkSs (W : Wd) (cx : Cx) (cs : Scope) (d : Nat) (ss : List PS) (sts : List Stmt) : Prop where
 h : ∀ (c : Fc),c.cs = cs → FOk W c d → ∀ {m : Str → Option Value} {X : List (Addr × Obj)} {L : Loc} {σ : St} {ps : PZ} {h : Heap} {tk : Nat} {fl : Fl} {L' : Loc} {σ' : St} {Q : Flow → Shared → Prop} {E : Value → Shared → Prop} {g : Array GenState} {dr : Drawn} {os : OsState} {z : Nat} {hz : HS},
  SR W c m X σ ps h → LR W.tb (hds ps) L m → 1 ≤ tk → hz.a.length = z → hz.Le (hds ps) → evSs cx ss z L σ = some (fl,L',σ') → HandS W c X hz σ' L' fl g dr os Q → wpAny (model W.prog W.w) c.A (execs sts c.env) Q E ⟨h,g,dr,tk,os⟩
theorem HandS.eq {W : Wd} {c : Fc} {X : List (Addr × Obj)} {hs : HS} {σ σ' : St} {L L' : Loc} {fl f : Fl} {g : Array GenState} {dr : Drawn} {os : OsState} {Q : Flow → Shared → Prop} (k : HandS W c X hs σ' L' fl g dr os Q) (e : some (f,L,σ) = some (fl,L',σ')) : HandS W c X hs σ L f g dr os Q:=triE (fun f l s=>HandS W c X hs s l f g dr os Q) e k
section
variable {c : Cx} {L : Loc} {σ : St} {z : Nat}
theorem evSs_nil : evSs c [] z L σ = some (.next,L,σ):=rfl
theorem evSs_cons {s : PS} {r : List PS} : evSs c (s :: r) z L σ = (evS c s z L σ).bind fun (f,L1,σ1)=>match f with | .next=>evSs c r z L1 σ1 | f=>some (f,L1,σ1):=rfl
theorem evS_expr {e : PE} : evS c (.expr e) z L σ = (evE c e L σ).map fun (_,σ1)=>(.next,L,σ1):=rfl
theorem evS_assign {t : Tg} {e : PE} : evS c (.assign t e) z L σ = (evE c e L σ).bind fun (v,σ1)=>(asgT c t v L σ1).map fun (L1,σ2)=>(.next,L1,σ2):=rfl
theorem evS_assignT {ts : List Tg} {e : PE} : evS c (.assignT ts e) z L σ = (evE c e L σ).bind fun (v,σ1)=>(itemsV c σ1 v).bind fun vs=>(asgTs c ts vs L σ1).map fun (L1,σ2)=>(.next,L1,σ2):=rfl
theorem evS_augL {i : Nat} {op : BOp} {e : PE} : evS c (.augL i op e) z L σ = (getK i L).bind fun a=>(evE c e L σ).bind fun (b,σ1)=>(iopV c op a b σ1).map fun (v,σ2)=>(.next,putK i v L,σ2):=rfl
theorem evS_augA {o e : PE} {f : Nat} {op : BOp} : evS c (.augA o f op e) z L σ = (evE c o L σ).bind fun (ov,σ1)=>(getAttrV c ov f σ1).bind fun (a,σ2)=>(evE c e L σ2).bind fun (b,σ3)=>(iopV c op a b σ3).bind fun (v,σ4)=>(setAttrV c ov f v σ4).map fun s=>(.next,L,s):=rfl
theorem evS_augS {o i e : PE} {op : BOp} : evS c (.augS o i op e) z L σ = (evE c o L σ).bind fun (ov,σ1)=>(evE c i L σ1).bind fun (iv,σ2)=>(subV c σ2 ov iv).bind fun a=>(evE c e L σ2).bind fun (b,σ3)=>(iopV c op a b σ3).bind fun (v,σ4)=>(setSubV ov iv v σ4).map fun s=>(.next,L,s):=rfl
theorem evS_ifs {t : PE} {b o : List PS} : evS c (.ifs t b o) z L σ = (evT c t L σ).bind fun (x,σ1)=>match x with | true=>evSs c b z L σ1 | false=>evSs c o z L σ1:=rfl
theorem evS_ret {e : PE} : evS c (.ret e) z L σ = (evE c e L σ).map fun (v,σ1)=>(.ret v,L,σ1):=rfl
theorem asgT_a {o : PE} {f : Nat} {v : V} : asgT c (.a o f) v L σ = (evE c o L σ).bind fun (ov,σ1)=>(setAttrV c ov f v σ1).map fun s=>(L,s):=rfl
end
section
variable {W : Wd} {cx : Cx} {cs : Scope} {d : Nat}
theorem okSs_nil : OkSs W cx cs d [] []:=by
 refine ⟨?_⟩
 intro c hc ok m X L σ ps h tk fl L' σ' Q E g dr os z hz S lr ht hl pz e H
 exact wpAny_execs_nil ((H.eq (evSs_nil.symm.trans e)) m ps h tk _ pz S lr .next ht)
theorem okSs_cons {s : PS} {st : Stmt} {ss : List PS} {sts : List Stmt} (hs : OkS W cx cs d s st) (hss : OkSs W cx cs d ss sts) : OkSs W cx cs d (s :: ss) (st :: sts):=by
 refine ⟨?_⟩
 intro c hc ok m X L σ ps h tk fl L' σ' Q E g dr os z hz S lr ht hl pz e H
 refine bd3 (evSs_cons.symm.trans e) fun f1 L1 σ1 e1 e2=>?_
 refine wpAny_execs_cons (hs.1 c hc ok S lr ht hl pz e1 fun m1 ps1 h1 t1 ff p1 S1 lr1 fr1 ht1=>?_)
 cases fr1 with
 | next=>exact hss.1 c hc ok S1 lr1 ht1 hl p1 e2 H
 | brk=>exact (H.eq e2) m1 ps1 h1 t1 _ p1 S1 lr1 .brk ht1
 | cont=>exact (H.eq e2) m1 ps1 h1 t1 _ p1 S1 lr1 .cont ht1
 | ret hv=>exact (H.eq e2) m1 ps1 h1 t1 _ p1 S1 lr1 (.ret hv) ht1
theorem okS_pass {pos : Pos} : OkS W cx cs d .pass (.Pass pos):=by
 refine ⟨?_⟩
 intro c hc ok m X L σ ps h tk fl L' σ' Q E g dr os z hz S lr ht hl pz e H
 exact wpAny_Pass ((H.eq e) m ps h tk _ pz S lr .next ht)
theorem okS_brk {pos : Pos} : OkS W cx cs d .brk (.Break pos):=by
 refine ⟨?_⟩
 intro c hc ok m X L σ ps h tk fl L' σ' Q E g dr os z hz S lr ht hl pz e H
 exact wpAny_Break ((H.eq e) m ps h tk _ pz S lr .brk ht)
theorem okS_cont {pos : Pos} : OkS W cx cs d .cont (.Continue pos):=by
 refine ⟨?_⟩
 intro c hc ok m X L σ ps h tk fl L' σ' Q E g dr os z hz S lr ht hl pz e H
 exact wpAny_Continue ((H.eq e) m ps h tk _ pz S lr .cont ht)
theorem okS_ret {e : PE} {x : PySem.Expr} {pos : Pos} (he : OkE W cx cs none d e x) : OkS W cx cs d (.ret e) (.Return (some x) pos):=by
 refine ⟨?_⟩
 intro c hc ok m X L σ ps h tk fl L' σ' Q E g dr os z hz S lr ht hl pz ee H
 refine mp2 (evS_ret.symm.trans ee) fun v σ1 e1 e=>?_
 exact wpAny_Return_some (he.1 c hc ok S ⟨rfl,lr⟩ ht e1 fun ps1 h1 t1 y1 p1 S1 r1 ht1=>(H.eq e) m ps1 h1 t1 _ (pz.trans p1) S1 (lr.mono p1) (.ret r1) ht1)
theorem okS_expr {e : PE} {x : PySem.Expr} {pos : Pos} (he : OkE W cx cs none d e x) (hs : ∀ env,swapsWith x none pos.line env = pure false) : OkS W cx cs d (.expr e) (.Expr x pos):=by
 refine ⟨?_⟩
 intro c hc ok m X L σ ps h tk fl L' σ' Q E g dr os z hz S lr ht hl pz ee H
 refine mp2 (evS_expr.symm.trans ee) fun v σ1 e1 e=>?_
 refine wpAny_Expr_any (he.1 c hc ok S ⟨rfl,lr⟩ ht e1 fun ps1 h1 t1 y1 p1 S1 r1 ht1=>(H.eq e) m ps1 h1 t1 _ (pz.trans p1) S1 (lr.mono p1) .next ht1) ?_ (hs _)
 show (c.cs.kind == .module && _) = false
 rw [ok.kind]; rfl
structure OkTg (W : Wd) (cx : Cx) (cs : Scope) (d : Nat) (t : Tg) (x : PySem.Expr) : Prop where
 h : ∀ (c : Fc),c.cs = cs → FOk W c d → ∀ {m : Str → Option Value} {X : List (Addr × Obj)} {L : Loc} {σ : St} {ps : PZ} {h : Heap} {tk : Nat} {v : V} {y : Value} {L' : Loc} {σ' : St} {Q : Unit → Shared → Prop} {E : Value → Shared → Prop} {g : Array GenState} {dr : Drawn} {os : OsState},
  SR W c m X σ ps h → LR W.tb (hds ps) L m → VR (hds ps) v y → 1 ≤ tk → asgT cx t v L σ = some (L',σ') →
  (∀ m' ps' h' t',(hds ps).Le (hds ps') → SR W c m' X σ' ps' h' → LR W.tb (hds ps') L' m' → 1 ≤ t' → Q () ⟨h',g,dr,t',os⟩) → wpAny (model W.prog W.w) c.A (assign x c.env y) Q E ⟨h,g,dr,tk,os⟩
theorem store_cell {c : Fc} {m : Str → Option Value} {X : List (Addr × Obj)} {σ : St} {ps : PZ} {h : Heap} {g : Array GenState} {dr : Drawn} {tk : Nat} {os : OsState} {A : Around} (nd : W.tb.Nodup) (ck : CsOk c.cs) (S : SR W c m X σ ps h) {L : Loc} (lr : LR W.tb (hds ps) L m) {i : Nat} {x : Str} {v : V} {y : Value} {Q : Unit → Shared → Prop} {E : Value → Shared → Prop} (hi : W.tb[i]? = some x) (rv : VR (hds ps) v y) (hk : c.cs.names.lookup x = some .cell) (hf : c.cs.kind = .function)
 (k : ∀ m' ps' h',hds ps' = hds ps → SR W c m' X σ ps' h' → LR W.tb (hds ps) (putK i v L) m' → Q () ⟨h',g,dr,tk,os⟩) : wpAny (model W.prog W.w) A (storeName c.env x y) Q E ⟨h,g,dr,tk,os⟩:=by
 obtain ⟨B,o,e1,e2,e3,e4⟩:=S.cell ck hk
 have ef : ∀ o,(PZ.mk ps.p ps.zl ps.z [(B,o)]).flatten ++ X = (ps.p.flatten ++ ps.zl) ++ (B,o) :: X:=fun o=>by
  show (ps.p.flatten ++ (ps.zl ++ [(B,o)])) ++ X = _
  simp
 have e0 : ps.flatten ++ X = (ps.p.flatten ++ ps.zl) ++ (B,o) :: X:=(ef o) ▸ e2 ▸ rfl
 have N:=S.N
 have n0:=S.nd
 rw [e0] at N n0
 have nb:=N (B,o) (List.mem_append_right _ (.head _))
 have n1:=n0
 rw [List.map_append,List.map_cons] at n1
 obtain ⟨_,n2,n3⟩:=List.nodup_append.mp n1
 refine wpAny_storeName_cell hf hk (c:=B) (by show c.cl.lookup _ = _; rw [e1]; simp) ⟨o,e4,e3⟩ fun h' ⟨o',g',d'⟩ hs=>?_
 refine k (fun z=>if z = x then some y else m z) ⟨ps.p,ps.zl,ps.z,[(B,o')]⟩ h' rfl ⟨?_,?_,?_,S.rel,S.fz.1,?_⟩ (lr.put nd hi rv)
 ·obtain ⟨g0,G0,m0,hm0,F0⟩:=S.F.change hs nb.2.1 nb.2.2
  refine ⟨g0,G0,m0,fun z hz=>(hm0 z hz).trans ?_,F0⟩
  have : ¬ z = x:=fun e=>by rw [e1,e] at hz; simp at hz
  dsimp only
  rw [if_neg this]
 ·rw [ef]
  exact N.setAt (fun p hp e=>n3 _ (List.mem_map_of_mem hp) _ (.head _) e) (fun p hp e=>(List.nodup_cons.mp n2).1 (List.mem_map.mpr ⟨p,hp,e⟩)) hs g'
 ·rw [ef]
  simpa using n0
 ·rw [e1]
  exact .cons (d'.trans (by rw [if_pos rfl])) .nil
theorem okTg_l (G : GOk W cx d) {i : Nat} {x : Str} {p : Pos} (hi : W.tb[i]? = some x) (hk : cs.names.lookup x = some .local ∨ cs.names.lookup x = some .cell) : OkTg W cx cs d (.l i) (.Name x p):=by
 refine ⟨?_⟩
 intro c hc ok m X L σ ps h tk v y L' σ' Q E g dr os S lr rv ht e H
 obtain ⟨rfl,rfl⟩:=Prod.mk.inj (Option.some.inj e)
 subst hc
 rw [arm_assign_Name]
 refine wpAny_bind (wpAny_standAt (wpAny_bindName ?_))
 rcases hk with hk | hk
 ·exact store_fn G.co.nd ok.ck S lr hi rv hk ok.kind fun m' h' S' lr'=>H m' ps h' _ (.rfl) S' lr' (tk1 1 ht)
 ·exact store_cell G.co.nd ok.ck S lr hi rv hk ok.kind fun m' ps' h' q S' lr'=>H m' ps' h' _ (q ▸ .rfl) S' (q ▸ lr') ht
theorem okTg_a (G : GOk W cx d) {o : PE} {f : Nat} {x : PySem.Expr} {nm : Str} {p : Pos} (hn : W.tb[f]? = some nm) (ho : OkE W cx cs none d o x) : OkTg W cx cs d (.a o f) (.Attribute x nm p):=by
 refine ⟨?_⟩
 intro c hc ok m X L σ ps h tk v y L' σ' Q E g dr os S lr rv ht e H
 refine bd2 (asgT_a.symm.trans e) fun ov σ1 e1 e=>mp0 e fun s e2 e3=>?_
 obtain ⟨rfl,rfl⟩:=Prod.mk.inj (Option.some.inj e3)
 rw [arm_assign_Attribute]
 refine wpAny_bind (wpAny_holding (ho.1 c hc ok S ⟨rfl,lr⟩ ht e1 fun ps1 h1 t1 y1 p1 S1 r1 ht1=>wpAny_bind (wpAny_standAt (wpAny_bind (wpAny_holding ?_)))))
 refine setAttr_ok G.co S1 ok.X hn r1 (rv.mono p1) e2 ht1 fun ps2 h2 t2 he S2 ht2=>wpAny_release ?_
 exact H m ps2 h2 t2 (by rw [he]; exact p1) S2 (by rw [he]; exact lr.mono p1) ht2
theorem okS_assign {t : Tg} {e : PE} {x y : PySem.Expr} {pos : Pos} (ht' : OkTg W cx cs d t x) (he : OkE W cx cs none d e y) (hs : ∀ env,swapsWithSole [x] y pos.line env = pure false) (hw : ∀ env,swappedStores [x] y env = pure none)
 (ha : ∀ env,assignEach [x] env = [(false,assign x env)]) : OkS W cx cs d (.assign t e) (.Assign [x] y pos):=by
 refine ⟨?_⟩
 intro c hc ok m X L σ ps h tk fl L' σ' Q E g dr os z hz S lr ht hl pz ee H
 refine bd2 (evS_assign.symm.trans ee) fun v σ1 e1 e=>mp2 e fun L1 σ2 e2 e=>?_
 refine wpAny_Assign_stores (he.1 c hc ok S ⟨rfl,lr⟩ ht e1 fun ps1 h1 t1 y1 p1 S1 r1 ht1=>?_) (hs _) (hw _)
 rw [ha]
 exact ht'.1 c hc ok S1 (lr.mono p1) r1 ht1 e2 fun m2 ps2 h2 t2 p2 S2 lr2 ht2=>(H.eq e) m2 ps2 h2 t2 _ (pz.trans (p1.trans p2)) S2 lr2 .next ht2
theorem okS_assignC (G : GOk W cx d) {sc : Scope} (so : ScOk cs none sc) {t : Ft} {e cnd el : PE} {target iter elt : PySem.Expr} {ifs : List PySem.Expr} {i : Nat} {y : Str} {py pos spos : Pos} (tg : TgOk W sc.names t target) (hit : OkE W cx cs none d e iter) (hcnd : OkIf W cx cs (some (sc,tgs t)) d cnd ifs) (he : OkE W cx cs (some (sc,tgs t)) d el elt) (hs : ∀ env x,foldedSetIterable iter env x = pure x)
 (hi : W.tb[i]? = some y) (hk : cs.names.lookup y = some .local) (hf : cs.kind = .function) (hln : (py.line == pos.line) = true) (hno : (sc.names.any fun x=>x.1 == y && (x.2 == .local || x.2 == .cell)) = false) :
 OkS W cx cs d (.assign (.l i) (.comp t e cnd el)) (.Assign [.Name y py] (.ListComp elt [⟨target,iter,ifs,0⟩] sc pos) spos):=by
 refine ⟨?_⟩
 intro c hc ok m X L σ ps h tk fl L' σ' Q E g dr os z hz S lr ht hl pz ee H
 refine bd2 (evS_assign.symm.trans ee) fun v σ3 q1 q=>mp2 q fun L1 σ4 q2 q3=>?_
 refine bd2 (evE_comp.symm.trans q1) fun v0 σ1 e1 e=>bdE e fun xs hx e=>bd2 e fun vs σ2 e2 e3=>gdE e3 fun hlim e3=>?_
 have hkind : c.env.kindOf y = some .local:=by
  show c.cs.names.lookup _ = _
  rw [hc]; exact hk
 have hblk : (c.env.blockKind == .function) = true:=by
  have : c.env.scope.kind = .function:=by
   show c.cs.kind = _
   rw [hc]; exact hf
  unfold Env.blockKind
  rw [this]; rfl
 have hsw : swapsWith (.ListComp elt [⟨target,iter,ifs,0⟩] sc pos) (some (.Name y py)) spos.line c.env = pure true:=by
  show (pure (_ && _ && _ && !_) : Sem Bool) = _
  rw [hblk,hkind]
  show (pure (_ && (py.line == pos.line) && !(sc.names.any fun x=>x.1 == y && (x.2 == .local || x.2 == .cell))) : Sem Bool) = _
  rw [hln,hno]; rfl
 have V : Vw W none c c.env m X (hds ps) L:=⟨rfl,lr⟩
 rw [exec_Assign_Name_used _ _ _ _ hsw]
 refine wpAny_bind (wpAny_standAt (wpAny_bind ?_))
 show wpAny _ _ (do let _ ← comprehension (.ListComp elt [⟨target,iter,ifs,0⟩] sc pos) sc c.env _ (newList []) false (eval iter c.env) (some (assign (.Name y py) c.env))) _ _ _
 refine wpAny_bind (wpAny_mono (comp_open (Q:=fun J s'=>Q .next s') G ok so hc hit hs S V ht e1 hx fun ps1 h1 tk1 x C I D o ob p1 S1 hns it1 rv ht1=>?_) (fun J J hq=>wpAny_pure (wpAny_pure hq)) fun J J e=>e)
 refine comp_emit G hc ok so.kind tg hcnd he (turn0 ..) hx rv hlim (fun ps7 h7 tk7 o7 mc7 ys7 n7 p7 S7 hns7 ra7 ht7=>?_) xs _ (.mk xs 0 L σ1 ps1 h1 tk1 ob o _ [] 0 [] vs rfl (Nat.zero_le _) S1 hns it1 .nil ht1 ((V.free so hc (hc ▸ ok.ck)).2.2.mono p1) e2 rfl .rfl)
 obtain ⟨es7,ep7,z1,z2,z3⟩:=hns7
 obtain ⟨S9,r9⟩:=comp_claim S7 ra7 hlim
 cases e3
 have p9:=(p1.trans p7).trans (pre_snoc (ps:=ps7) (part:=[(D,listOf ys7.toArray n7)]))
 show wpAny _ _ (assign (.Name y py) c.env (.ref D)) _ _ _
 refine (okTg_l G (p:=py) hi (.inl hk)).1 c hc ok S9 (lr.mono p9) r9 ht7 q2 fun m2 ps2 h2 t2 p2 S2 lr2 ht2=>?_
 exact ⟨mc7,⟨o7,es7,ep7,(S2.N (_,o7) (by simp)).1,z1,z2,z3⟩,fun h8 hs8=>(H.eq q3) m2 ps2 h8 t2 _ (pz.trans (p9.trans p2)) (S2.dropX (P:=[]) (same_keep hs8)) lr2 .next ht2⟩
theorem asgTs_ok (G : GOk W cx d) {ts : List Tg} {xs : List PySem.Expr} (r : All2 (OkTg W cx cs d) ts xs) (c : Fc) (hc : c.cs = cs) (ok : FOk W c d) : ∀ {m : Str → Option Value} {X : List (Addr × Obj)} {L : Loc} {σ : St} {ps : PZ} {h : Heap} {tk : Nat} {vs : List V} {ys : List Value} {L' : Loc} {σ' : St} {Q : Unit → Shared → Prop} {E : Value → Shared → Prop} {g : Array GenState} {dr : Drawn} {os : OsState},
 SR W c m X σ ps h → LR W.tb (hds ps) L m → All2 (VR (hds ps)) vs ys → 1 ≤ tk → asgTs cx ts vs L σ = some (L',σ') →
 (∀ m' ps' h' t',(hds ps).Le (hds ps') → SR W c m' X σ' ps' h' → LR W.tb (hds ps') L' m' → 1 ≤ t' → Q () ⟨h',g,dr,t',os⟩) → wpAny (model W.prog W.w) c.A (assignInOrder (xs.map fun e=>assign e c.env) ys) Q E ⟨h,g,dr,tk,os⟩:=by
 induction r with
 | nil =>
  intro m X L σ ps h tk vs ys L' σ' Q E g dr os S lr rv ht e H
  cases rv with
  | nil =>
   obtain ⟨rfl,rfl⟩:=Prod.mk.inj (Option.some.inj e)
   exact wpAny_pure (H m ps h tk .rfl S lr ht)
  | cons _ _=>exact noE e
 | @cons t x ts xs h0 _ ih =>
  intro m X L σ ps h tk vs ys L' σ' Q E g dr os S lr rv ht e H
  cases rv with
  | nil=>exact noE e
  | @cons v y vs ys h1 h2 =>
   refine bd2 (show (asgT cx t v L σ).bind _ = _ from e) fun L1 σ1 e1 e2=>?_
   show wpAny _ c.A (holding ys (assign x c.env y) >>= fun J=>assignInOrder (xs.map fun e=>assign e c.env) ys) Q E _
   refine wpAny_bind (wpAny_holding (h0.1 c hc ok S lr h1 ht e1 fun m1 ps1 h1' t1 p1 S1 lr1 ht1=>?_))
   exact ih S1 lr1 (h2.mono fun J J z=>z.mono p1) ht1 e2 fun m2 ps2 h2 t2 p2 S2 lr2 ht2=>H m2 ps2 h2 t2 (p1.trans p2) S2 lr2 ht2
theorem okS_assignT (G : GOk W cx d) {ts : List Tg} {e : PE} {elts : List PySem.Expr} {n : Nat} {tp : Pos} {y : PySem.Expr} {pos : Pos} (r : All2 (OkTg W cx cs d) ts elts) (he : OkE W cx cs none d e y) (hs : ∀ env,swapsWithSole [.Tuple elts n tp] y pos.line env = pure false) (hw : ∀ env,swappedStores [.Tuple elts n tp] y env = pure none)
 (ha : ∀ env,assignEach elts env = elts.map fun e=>(false,assign e env)) : OkS W cx cs d (.assignT ts e) (.Assign [.Tuple elts n tp] y pos):=by
 refine ⟨?_⟩
 intro c hc ok m X L σ ps h tk fl L' σ' Q E g dr os z hz S lr ht hl pz ee H
 refine bd2 (evS_assignT.symm.trans ee) fun v σ1 e1 e=>bdE e fun vs e2 e=>mp2 e fun L1 σ2 e3 e=>?_
 refine Assign_Tuple (he.1 c hc ok S ⟨rfl,lr⟩ ht e1 fun ps1 h1 t1 y1 p1 S1 r1 ht1=>?_) (hs _) (hw _)
 have len : elts.length = vs.length:=by
  have key : ∀ {ts : List Tg} {vs : List V} {L : Loc} {σ : St} {r : Loc × St},asgTs cx ts vs L σ = some r → ts.length = vs.length:=by
   intro ts
   induction ts with
   | nil=>intro vs L σ r e; cases vs with
    | nil=>rfl
    | cons _ _=>exact noE e
   | cons a q ih=>intro vs L σ r e; cases vs with
    | nil=>exact noE e
    | cons b q'=>exact bd2 (show (asgT cx a b L σ).bind _ = _ from e) fun J J J e=>congrArg Nat.succ (ih e)
  rw [← key e3,r.len]
 rw [arm_assign_Tuple]
 refine wpAny_bind (wpAny_standAt ?_)
 unfold unpack
 rw [ha]
 have l1 : (elts.map fun e=>(false,assign e c.env)).length = vs.length:=by rw [List.length_map,len]
 have l2 : (elts.map fun e=>(false,assign e c.env)).findIdx? (·.1) = none:=by
  rw [List.findIdx?_eq_none_iff]; intro x hx; obtain ⟨a,_,rfl⟩:=List.mem_map.mp hx; rfl
 have l3 : (elts.map fun e=>(false,assign e c.env)).map (·.2) = elts.map fun e=>assign e c.env:=by rw [List.map_map]; rfl
 rw [l1,l2,l3]
 refine wpAny_bind (wpAny_holding (unpackItems_ok G ok S1 r1 e2 ht1 ok.hh fun h' tk' ys S' rys ht'=>?_))
 exact asgTs_ok G r c hc ok S' (lr.mono p1) rys ht' e3 fun m2 ps2 h2 t2 p2 S2 lr2 ht2=>(H.eq e) m2 ps2 h2 t2 _ (pz.trans (p1.trans p2)) S2 lr2 .next ht2
theorem okS_augL (G : GOk W cx d) {i : Nat} {op : BOp} {e : PE} {x : Str} {y : PySem.Expr} {p pos : Pos} (ho : op = .add ∨ op = .sub) (hi : W.tb[i]? = some x) (hk : cs.names.lookup x = some .local) (he : OkE W cx cs none d e y) : OkS W cx cs d (.augL i op e) (.AugAssign (.Name x p) (opB op) y pos):=by
 refine ⟨?_⟩
 intro c hc ok m X L σ ps h tk fl L' σ' Q E g dr os z hz S lr ht hl pz ee H
 refine bdE (evS_augL.symm.trans ee) fun a e0 e=>bd2 e fun b σ1 e1 e=>mp2 e fun v σ2 e2 e=>?_
 subst hc
 obtain ⟨x',ya,h1,h2,h3⟩:=lr i a e0
 obtain rfl:=Option.some.inj (h1.symm.trans hi)
 obtain ⟨m0,q0,f0⟩:=S.F.ns
 refine wpAny_AugAssign_Name (wpAny_loadName_local (m:=m0) ok.kind hk f0 ((q0 _ (ok.ck.loc hk nofun)).trans h2) (he.1 c rfl ok S ⟨rfl,lr⟩ ht e1 fun ps1 h1 t1 y1 p1 S1 r1 ht1=>?_))
 refine iop_ok S1 ho (h3.mono p1) r1 e2 ht1 fun ps2 h2 t2 y2 p2 S2 r2 ht2=>?_
 exact store_fn G.co.nd ok.ck S2 ((lr.mono p1).mono p2) hi r2 hk ok.kind fun m' h' S' lr'=>(H.eq e) m' ps2 h' _ _ (pz.trans (p1.trans p2)) S' lr' .next (tk1 1 ht2)
theorem okS_augA (G : GOk W cx d) {o : PE} {f : Nat} {op : BOp} {e : PE} {x y : PySem.Expr} {nm : Str} {p pos : Pos} (hop : op = .add ∨ op = .sub) (hn : W.tb[f]? = some nm) (ho : OkE W cx cs none d o x) (he : OkE W cx cs none d e y) : OkS W cx cs d (.augA o f op e) (.AugAssign (.Attribute x nm p) (opB op) y pos):=by
 refine ⟨?_⟩
 intro c hc ok m X L σ ps h tk fl L' σ' Q E g dr os z hz S lr ht hl pz ee H
 refine bd2 (evS_augA.symm.trans ee) fun ov σ1 e1 e=>bd2 e fun a σ2 e2 e=>bd2 e fun b σ3 e3 e=>bd2 e fun v σ4 e4 e=>mp0 e fun s e5 e=>?_
 refine wpAny_AugAssign_AttributeAny (ho.1 c hc ok S ⟨rfl,lr⟩ ht e1 fun ps1 h1 t1 y1 p1 S1 r1 ht1=>?_)
 refine getAttr_ok G.so G.co S1 ok.X hn r1 e2 ht1 fun ps2 h2 t2 y2 p2 S2 r2 ht2=>?_
 refine he.1 c hc ok S2 ⟨rfl,(lr.mono p1).mono p2⟩ ht2 e3 fun ps3 h3 t3 y3 p3 S3 r3 ht3=>?_
 refine iop_ok S3 hop (r2.mono p3) r3 e4 ht3 fun ps4 h4 t4 y4 p4 S4 r4 ht4=>?_
 refine setAttr_ok G.co S4 ok.X hn (r1.mono ((p2.trans p3).trans p4)) r4 e5 ht4 fun ps5 h5 t5 he S5 ht5=>?_
 exact (H.eq e) m ps5 h5 t5 _ (by rw [he]; exact pz.trans (((p1.trans p2).trans p3).trans p4)) S5 (by rw [he]; exact lr.mono (((p1.trans p2).trans p3).trans p4)) .next ht5
theorem okS_augS (G : GOk W cx d) {o i : PE} {op : BOp} {e : PE} {x y z : PySem.Expr} {p pos : Pos} (hop : op = .add ∨ op = .sub) (ho : OkE W cx cs none d o x) (hi : OkE W cx cs none d i y) (he : OkE W cx cs none d e z)
 (hst : ∀ ov iv new,augStore y ov iv new = (do holding [new,ov,iv] (setItem ov iv new); release [new,ov,iv] []; pure .next)) : OkS W cx cs d (.augS o i op e) (.AugAssign (.Subscript x y p) (opB op) z pos):=by
 refine ⟨?_⟩
 intro c hc ok m X L σ ps h tk fl L' σ' Q E g dr os z hz S lr ht hl pz ee H
 refine bd2 (evS_augS.symm.trans ee) fun ov σ1 e1 e=>bd2 e fun iv σ2 e2 e=>bdE e fun a e3 e=>bd2 e fun b σ3 e4 e=>bd2 e fun v σ4 e5 e=>mp0 e fun s e6 e=>?_
 refine wpAny_AugAssign_SubscriptAny (ho.1 c hc ok S ⟨rfl,lr⟩ ht e1 fun ps1 h1 t1 y1 p1 S1 r1 ht1=>?_) hst
 refine hi.1 c hc ok S1 ⟨rfl,lr.mono p1⟩ ht1 e2 fun ps2 h2 t2 y2 p2 S2 r2 ht2=>?_
 refine sub_ok G.so S2 (S2.K ok) (r1.mono p2) r2 e3 ht2 fun ps3 h3 t3 y3 p3 S3 r3 ht3=>?_
 refine he.1 c hc ok S3 ⟨rfl,(lr.mono (p1.trans p2)).mono p3⟩ ht3 e4 fun ps4 h4 t4 y4 p4 S4 r4 ht4=>?_
 refine iop_ok S4 hop (r3.mono p4) r4 e5 ht4 fun ps5 h5 t5 y5 p5 S5 r5 ht5=>?_
 refine setSub_ok S5 (r1.mono (((p2.trans p3).trans p4).trans p5)) (r2.mono ((p3.trans p4).trans p5)) r5 e6 ht5 fun ps6 h6 t6 he S6 ht6=>?_
 exact (H.eq e) m ps6 h6 t6 _ (by rw [he]; exact pz.trans ((((p1.trans p2).trans p3).trans p4).trans p5)) S6 (by rw [he]; exact lr.mono ((((p1.trans p2).trans p3).trans p4).trans p5)) .next ht6
theorem okS_if {t : PE} {b o : List PS} {x : PySem.Expr} {bs os' : List Stmt} {pos : Pos} (ht' : OkT W cx cs none d t x) (hb : OkSs W cx cs d b bs) (ho : OkSs W cx cs d o os') : OkS W cx cs d (.ifs t b o) (.If x bs os' pos):=by
 refine ⟨?_⟩
 intro c hc ok m X L σ ps h tk fl L' σ' Q E g dr os z hz S lr ht hl pz ee H
 refine bd2 (evS_ifs.symm.trans ee) fun bb σ1 e1 e2=>?_
 refine wpAny_If (ht'.1 c hc ok S ⟨rfl,lr⟩ ht e1 fun ps1 h1 t1 p1 S1 ht1=>?_)
 cases bb with
 | true=>exact hb.1 c hc ok S1 (lr.mono p1) ht1 hl (pz.trans p1) e2 H
 | false=>exact ho.1 c hc ok S1 (lr.mono p1) ht1 hl (pz.trans p1) e2 H
end
end
section
section
variable {c : Cx} {L : Loc} {σ : St} {z : Nat}
theorem evS_whiles {t : PE} {b : List PS} : evS c (.whiles t b) z L σ = whileL (fun L s=>evT c t L s) (fun L s=>evSs c b z L s) c.fuel L σ:=rfl
theorem evS_fors {t : Ft} {it : PE} {b : List PS} : evS c (.fors t it b) z L σ = (evE c it L σ).bind fun (v,σ1)=>(iterV c σ1 v).bind fun xs=>forL (fun v L s=>bindFt c s t v L) (fun s=>stillV c σ1 s v) (fun L s=>evSs c b σ1.length L s) xs L σ1:=rfl
theorem whileL_succ {test : Loc → St → Option (Bool × St)} {body : Loc → St → Option (Fl × Loc × St)} {n : Nat} : whileL test body (n + 1) L σ = (test L σ).bind fun (b,σ1)=>match b with
 | false=>some (.next,L,σ1)
 | true=>(body L σ1).bind fun (f,L2,σ2)=>match f with
  | .brk=>some (.next,L2,σ2)
  | .ret v=>some (.ret v,L2,σ2)
  | _=>whileL test body n L2 σ2:=rfl
theorem forL_nil {bind : V → Loc → St → Option Loc} {still : St → Bool} {body : Loc → St → Option (Fl × Loc × St)} : forL bind still body [] L σ = if still σ then some (.next,L,σ) else none:=rfl
theorem forL_cons {bind : V → Loc → St → Option Loc} {still : St → Bool} {body : Loc → St → Option (Fl × Loc × St)} {v : V} {vs : List V} : forL bind still body (v :: vs) L σ = if still σ then
 (bind v L σ).bind fun L1=>(body L1 σ).bind fun (f,L2,σ2)=>match f with
  | .brk=>some (.next,L2,σ2)
  | .ret v=>some (.ret v,L2,σ2)
  | _=>forL bind still body vs L2 σ2
 else none:=rfl
end
section
variable {W : Wd} {cx : Cx} {cs : Scope} {d : Nat}
inductive WhI (W : Wd) (cx : Cx) (c : Fc) (X : List (Addr × Obj)) (hz : HS) (g : Array GenState) (dr : Drawn) (os : OsState) (t : PE) (b : List PS) (z : Nat) (r : Fl × Loc × St) (n : Nat) : Shared → Prop
 | mk (m : Str → Option Value) (L : Loc) (σ : St) (ps : PZ) (h : Heap) (tk : Nat) : SR W c m X σ ps h → LR W.tb (hds ps) L m → 1 ≤ tk → hz.Le (hds ps) → whileL (fun L s=>evT cx t L s) (fun L s=>evSs cx b z L s) n L σ = some r → WhI W cx c X hz g dr os t b z r n ⟨h,g,dr,tk,os⟩
theorem okS_while {t : PE} {b : List PS} {x : PySem.Expr} {bs : List Stmt} {pos : Pos} (ht' : OkT W cx cs none d t x) (hb : OkSs W cx cs d b bs) : OkS W cx cs d (.whiles t b) (.While x bs [] pos):=by
 refine ⟨?_⟩
 intro c hc ok m X L σ ps h tk fl L' σ' Q E g dr os z hz S lr ht hl pz ee H
 refine wpAny_While ?_
 refine codeAny_whileLoop (fun n s=>WhI W cx c X hz g dr os t b z (fl,L',σ') n s) (fun n s I=>?_) cx.fuel (.mk m L σ ps h tk S lr ht pz (evS_whiles.symm.trans ee))
 cases I with
 | mk m1 L1 σ1 ps1 h1 tk1 S1 lr1 ht1 p1 e1 =>
 cases n with
 | zero=>exact noE e1
 | succ n =>
  refine bd2 (whileL_succ.symm.trans e1) fun bb σ2 e2 e3=>?_
  refine ht'.1 c hc ok S1 ⟨rfl,lr1⟩ ht1 e2 fun ps2 h2 t2 p2 S2 ht2=>?_
  cases bb with
  | false=>exact wpAny_execs_nil ((H.eq e3) m1 ps2 h2 t2 _ (p1.trans p2) S2 (lr1.mono p2) .next ht2)
  | true =>
   refine bd3 e3 fun f3 L3 σ3 e4 e5=>?_
   refine hb.1 c hc ok S2 (lr1.mono p2) ht2 hl (p1.trans p2) e4 fun m3 ps3 h3 t3 ff p3 S3 lr3 fr3 ht3=>?_
   cases fr3 with
   | next=>exact ⟨n,Nat.lt_succ_self _,.mk m3 L3 σ3 ps3 h3 t3 S3 lr3 ht3 p3 e5⟩
   | cont=>exact ⟨n,Nat.lt_succ_self _,.mk m3 L3 σ3 ps3 h3 t3 S3 lr3 ht3 p3 e5⟩
   | brk=>exact (H.eq e5) m3 ps3 h3 t3 _ (p3) S3 lr3 .next ht3
   | ret hv=>exact (H.eq e5) m3 ps3 h3 t3 _ (p3) S3 lr3 (.ret hv) ht3
noncomputable def Zfn (W : Wd) (ps : PZ) (X : List (Addr × Obj)) : Zf:=fun L B m' X'=>X' = X ∧ LR W.tb (hds ps) L m'
theorem store_f {c : Fc} {σ : St} {ps : PZ} {X : List (Addr × Obj)} (nd : W.tb.Nodup) (ck : CsOk c.cs) (hf : c.cs.kind = .function) : StoreOk W c σ ps c.env c.cs.names (Zfn W ps X):=by
 intro i x v y L B m' X' h g dr tk os A Q E hi hl rv S z k
 obtain ⟨rfl,lr⟩:=z
 exact store_fn nd ck S lr hi rv hl hf fun m2 h2 S2 lr2=>k m2 _ h2 S2 ⟨rfl,lr2⟩
inductive FoI (W : Wd) (cx : Cx) (c : Fc) (X : List (Addr × Obj)) (h0 : HS) (g : Array GenState) (dr : Drawn) (os : OsState) (t : Ft) (b : List PS) (σ0 : St) (v : V) (x : Value) (xs : List V) (I : Addr) (r : Fl × Loc × St) : Nat → Shared → Prop
 | mk (i : Nat) (rest : List V) (m : Str → Option Value) (L : Loc) (σ : St) (ps : PZ) (h : Heap) (tk : Nat) (ob : Obj) : xs.drop i = rest → i ≤ xs.length → SR W c m ((I,ob) :: X) σ ps h → LR W.tb (hds ps) L m → ItOb W cx σ0 v x i ob → 1 ≤ tk → h0.Le (hds ps) →
  forL (fun v L s=>bindFt cx s t v L) (fun s=>stillV cx σ0 s v) (fun L s=>evSs cx b σ0.length L s) rest L σ = some r → FoI W cx c X h0 g dr os t b σ0 v x xs I r (rest.length + 1) ⟨h,g,dr,tk,os⟩
theorem okS_for (G : GOk W cx d) {t : Ft} {e : PE} {b : List PS} {target iter : PySem.Expr} {bs : List Stmt} {pos : Pos} (tg : TgOk W cs.names t target) (he : OkE W cx cs none d e iter) (hb : OkSs W cx cs d b bs) (hs : ∀ env x,foldedSetIterable iter env x = pure x) :
 OkS W cx cs d (.fors t e b) (.For target iter bs [] pos):=by
 refine ⟨?_⟩
 intro c hc ok m X L σ ps h tk fl L' σ' Q E g dr os z hz S lr ht hlz pz ee H
 subst hc
 refine bd2 (evS_fors.symm.trans ee) fun v σ0 e1 e=>bdE e fun xs hx e2=>?_
 refine wpAny_For (he.1 c rfl ok S ⟨rfl,lr⟩ ht e1 fun ps0 h0 t0 x p0 S0 r0 ht0=>?_) (hs _)
 refine it_new G ok S0 r0 hx fun I ob h1 it1 S1=>?_
 refine codeAny_forLoop_any (fun n s=>FoI W cx c X (hds ps0) g dr os t b σ0 v x xs I (fl,L',σ') n s) (fun n s J=>?_) (xs.length + 1) (.mk 0 xs m L σ0 ps0 h1 t0 ob rfl (Nat.zero_le _) S1 (lr.mono p0) it1 ht0 .rfl e2)
 cases J with
 | mk i rest m1 L1 σ1 ps1 h1 tk1 ob1 hd hi S1 lr1 it1 ht1 p1 e3 =>
 have rv:=r0.mono p1
 cases rest with
 | nil =>
  refine gdE (forL_nil.symm.trans e3) fun hst e3=>it_end (P:=[]) G ok S1 rv ((iter_still hst).trans hx) (it1.still hst) (List.getElem?_eq_none (List.drop_eq_nil_iff.mp hd)) hi ok.hh fun h' S'=>?_
  exact wpAny_execs_nil ((H.eq e3) m1 ps1 h' tk1 _ (pz.trans (p0.trans p1)) S' lr1 .next ht1)
 | cons u rest =>
  refine gdE (forL_cons.symm.trans e3) fun hst e3=>bdE e3 fun L2 b1 e3=>bd3 e3 fun f2 L3 σ3 e4 e5=>?_
  have hu:=drop_at hd
  refine it_next (P:=[]) G ok S1 rv ((iter_still hst).trans hx) (it1.still hst) hu.1 ht1 fun ob2 h2 y2 tk2 it2 S2 ry2 ht2=>?_
  have S2' : SR W c m1 ((I,ob2) :: X) σ1 ps1 h2:=S2
  refine it_go tg ?_
  refine bind_ok (Z:=Zfn W ps1 ((I,ob2) :: X)) G ok (store_f G.co.nd ok.ck ok.kind) tg (B:=[]) S2' ⟨rfl,lr1⟩ ry2 b1 ht2 ok.hh fun m3 X3 h3 tk3 S3 z3 ht3=>?_
  obtain ⟨rfl,lr3⟩:=z3
  refine hb.1 c rfl ok S3 lr3 ht3 (hds_len.trans S0.len.symm) p1 e4 fun m4 ps4 h4 t4 ff p4 S4 lr4 fr4 ht4=>?_
  have I4 : forL (fun v L s=>bindFt cx s t v L) (fun s=>stillV cx σ0 s v) (fun L s=>evSs cx b σ0.length L s) rest L3 σ3 = some (fl,L',σ') → ∃ n,n < rest.length + 1 + 1 ∧ FoI W cx c X (hds ps0) g dr os t b σ0 v x xs I (fl,L',σ') n ⟨h4,g,dr,t4,os⟩:=fun e5 =>
   ⟨_,Nat.lt_succ_self _,.mk (i + 1) rest m4 L3 σ3 ps4 h4 t4 ob2 hu.2 (List.getElem?_eq_some_iff.mp hu.1).1 S4 lr4 (it2.still (still_sym hst)) ht4 p4 e5⟩
  cases fr4 with
  | next=>exact I4 e5
  | cont=>exact I4 e5
  | brk=>exact (H.eq e5) m4 ps4 h4 t4 _ (pz.trans (p0.trans p4)) (S4.dropX (P:=[]) fun J J J e=>e) lr4 .next ht4
  | ret hv=>exact (H.eq e5) m4 ps4 h4 t4 _ (pz.trans (p0.trans p4)) (S4.dropX (P:=[]) fun J J J e=>e) lr4 (.ret hv) ht4
end
noncomputable def PZ.gc (ps : PZ) (σ : St) (n : Nat) : PZ:=⟨ps.p.take n,ps.zl ++ (ps.p.drop n).flatten,fun o A=>ps.z o A ∨ ∃ a k ob,n ≤ a ∧ σ[a]? = some ob ∧ (hds ps).a[a]? = some A ∧ frzO (rz σ n k) ob = .frz o,ps.cs⟩
theorem All2.mapl {α β γ : Type} {R : α → β → Prop} {S : γ → β → Prop} {f : α → γ} {l : List α} {m : List β} (h : All2 R l m) (k : ∀ a b,R a b → S (f a) b) : All2 S (l.map f) m:=by
 induction h with
 | nil=>exact .nil
 | cons h _ ih=>exact .cons (k _ _ h) ih
theorem map_fst {α β γ : Type} {f : β → γ} (l : List (α × β)) : (l.map fun p=>(p.1,f p.2)).map (·.1) = l.map (·.1):=by rw [List.map_map]; rfl
section
variable {W : Wd} {c : Fc} {m : Str → Option Value} {X : List (Addr × Obj)} {σ : St} {ps : PZ} {h : Heap} {n : Nat} {v : V} {x : Value}
theorem vr_rz {k : Nat} (r : VR (hds ps) v x) : VR ⟨[],(ps.gc σ n).z⟩ (rz σ n k v) x:=by
 cases r with
 | none=>cases k <;> exact .none
 | bool b=>cases k <;> exact .bool b
 | int i t=>cases k <;> exact .int i t
 | str s t h=>cases k <;> exact .str s t h
 | sref a=>cases k <;> exact .sref a
 | frz z=>cases k <;> exact .frz (.inl z)
 | bad A=>cases k <;> exact .bad A
 | @ref a A hA =>
  cases k with
  | zero=>exact .bad A
  | succ k =>
   show VR _ (bif Nat.ble n a then (match σ[a]? with | some o=>frzO (rz σ n k) o | none=>.bad) else .bad) _
   cases hb : Nat.ble n a with
   | false=>exact .bad A
   | true =>
    cases ho : σ[a]? with
    | none=>exact .bad A
    | some ob =>
     show VR _ (frzO (rz σ n k) ob) _
     cases hf : frzO (rz σ n k) ob with
     | frz o=>exact .frz (.inr ⟨a,k,ob,Nat.le_of_ble_eq_true hb,ho,hA,hf⟩)
     | bad=>exact .bad A
     | _=>cases ob <;> cases hf
theorem gc_le : HS.Le ⟨[],(ps.gc σ n).z⟩ (hds (ps.gc σ n)):=⟨⟨_,rfl⟩,fun J J h=>h⟩
theorem vr_rv (r : VR (hds ps) v x) : VR (hds (ps.gc σ n)) (rv σ n v) x:=by
 cases r with
 | none=>exact .none
 | bool b=>exact .bool b
 | int i t=>exact .int i t
 | str s t h=>exact .str s t h
 | sref a=>exact .sref a
 | frz z=>exact .frz (.inl z)
 | bad A=>exact .bad A
 | @ref a A hA =>
  show VR _ (bif Nat.blt a n then .ref a else rz σ n 6 (.ref a)) _
  cases hb : Nat.blt a n with
  | false=>exact (vr_rz (.ref hA)).mono gc_le
  | true =>
   refine .ref ?_
   show ((ps.p.take n).map hd1)[a]? = _
   rw [List.map_take,List.getElem?_take_of_lt (Nat.le_of_ble_eq_true hb)]
   exact hA
theorem or_map {hs hs' : HS} {f : V → V} (k : ∀ {v x},VR hs v x → VR hs' (f v) x) {o : O} {part : Part} (r : ORel W.prog W.w W.tb hs o part) : ORel W.prog W.w W.tb hs' (oMap f o) part:=by
 cases r with
 | list h1 h2=>exact .list (h1.mapl fun J J=>k) (by rw [List.length_map]; exact h2)
 | tuple h1 h2=>exact .tuple (h1.mapl fun J J=>k) (by rw [List.length_map]; exact h2)
 | dict h1 h2 h3 h4=>exact .dict h1 (h2.mapl fun J J z=>⟨z.1,k z.2⟩) (by rw [List.length_map]; exact h3) h4
 | inst h1 h2 h3=>exact .inst (h1.mapl fun _ _ ⟨x,t,q1,q2,q3⟩=>⟨x,t,q1,q2,k q3⟩) (by rw [map_fst]; exact h2) (by rw [List.length_map]; exact h3)
 | meth h1=>exact .meth (k h1)
 | rng=>exact .rng
theorem or_frz {hs hs' : HS} {f : V → V} (k : ∀ {v x},VR hs v x → VR hs' (f v) x) {o ob : O} {part : Part} (r : ORel W.prog W.w W.tb hs ob part) (e : frzO f ob = .frz o) : ORel W.prog W.w W.tb hs' o part:=by
 have z:=or_map k r
 cases ob with
 | list=>cases e; exact z
 | tuple=>cases e; exact z
 | dict=>cases e; exact z
 | _=>cases e
theorem gc_perm : ((ps.gc σ n).flatten ++ X).Perm (ps.flatten ++ X):=by
 refine List.Perm.append_right _ ?_
 show ((ps.p.take n).flatten ++ ((ps.zl ++ (ps.p.drop n).flatten) ++ ps.cs)).Perm (ps.p.flatten ++ (ps.zl ++ ps.cs))
 rw [← List.append_assoc,← List.append_assoc ps.p.flatten]
 refine List.Perm.append_right _ ?_
 refine (List.Perm.append_left _ List.perm_append_comm).trans ?_
 rw [← List.append_assoc,← List.flatten_append,List.take_append_drop]
theorem SR.gc (S : SR W c m X σ ps h) (n : Nat) : SR W c m X (gcS σ n) (ps.gc σ n) h:=by
 refine ⟨S.F,fun p hp=>S.N p (gc_perm.mem_iff.mp hp),?_,(S.rel.take n).mapl fun J J=>or_map vr_rv,?_⟩
 ·have q:=(gc_perm (X:=X) (ps:=ps) (σ:=σ) (n:=n)).map Prod.fst
  exact q.nodup_iff.mpr S.nd
 ·refine ⟨?_,S.fz.2⟩
  rintro o A (z | ⟨a,k,ob,hn,ho,hA,hf⟩)
  ·obtain ⟨part,h1,h2,h3⟩:=S.fz.1 o A z
   exact ⟨part,h1,fun q hq=>List.mem_append_left _ (h2 q hq),h3.mono (⟨⟨_,rfl⟩,fun J J h=>Or.inl h⟩ : HS.Le ⟨[],ps.z⟩ ⟨[],(ps.gc σ n).z⟩)⟩
  ·obtain ⟨part,hp,hr⟩:=S.obj ho
   refine ⟨part,Option.some.inj ((hds_get hp).symm.trans hA),fun q hq=>List.mem_append_right _ (List.mem_flatten.mpr ⟨part,?_,hq⟩),or_frz vr_rz hr hf⟩
   refine List.mem_of_getElem? (i:=a - n) ?_
   rw [List.getElem?_drop,Nat.add_sub_cancel' hn]
   exact hp
theorem LR.gc {tb : List Str} {L : Loc} (lr : LR tb (hds ps) L m) : LR tb (hds (ps.gc σ n)) (gcL σ n L) m:=fun i v e=>by
 obtain ⟨w,hw,rfl⟩:=Option.map_eq_some_iff.mp ((getK_map i L).symm.trans e)
 obtain ⟨x,y,h1,h2,h3⟩:=lr i w hw
 exact ⟨x,y,h1,h2,vr_rv h3⟩
theorem HS.Le.gc {hz : HS} (p : hz.Le (hds ps)) (hl : hz.a.length ≤ n) : hz.Le (hds (ps.gc σ n)):=by
 refine ⟨?_,fun o A z=>.inl (p.z o A z)⟩
 show hz.a <+: (ps.p.take n).map hd1
 rw [List.map_take]
 exact List.prefix_take_iff.mpr ⟨p.a,hl⟩
end
theorem evSs_gc {c : Cx} {L : Loc} {σ : St} {z k : Nat} {r : List PS} : evSs c (.gc k :: r) z L σ = evSs c r z (gcL σ (z + k) L) (gcS σ (z + k)):=rfl
theorem okSs_gc {W : Wd} {cx : Cx} {cs : Scope} {d k : Nat} {ss : List PS} {sts : List Stmt} (hss : OkSs W cx cs d ss sts) : OkSs W cx cs d (.gc k :: ss) sts:=by
 refine ⟨?_⟩
 intro c hc ok m X L σ ps h tk fl L' σ' Q E g dr os z hz S lr ht hl pz e H
 exact hss.1 c hc ok (S.gc (z + k)) lr.gc ht hl (pz.gc (hl ▸ Nat.le_add_right _ _)) (evSs_gc.symm.trans e) H
theorem evS_retf {c : Cx} {L : Loc} {σ : St} {z : Nat} {e : PE} : evS c (.retf e) z L σ = (evE c e L σ).map fun (v,σ1)=>(.ret (rv σ1 z v),gcL σ1 z L,gcS σ1 z):=rfl
theorem okS_retf {W : Wd} {cx : Cx} {cs : Scope} {d : Nat} {e : PE} {x : PySem.Expr} {pos : Pos} (he : OkE W cx cs none d e x) : OkS W cx cs d (.retf e) (.Return (some x) pos):=by
 refine ⟨?_⟩
 intro c hc ok m X L σ ps h tk fl L' σ' Q E g dr os z hz S lr ht hl pz ee H
 refine mp2 (evS_retf.symm.trans ee) fun v σ1 e1 e=>?_
 exact wpAny_Return_some (he.1 c hc ok S ⟨rfl,lr⟩ ht e1 fun ps1 h1 t1 y1 p1 S1 r1 ht1=>(H.eq e) m _ h1 t1 _ ((pz.trans p1).gc (hl ▸ Nat.le_refl _)) (S1.gc z) (lr.mono p1).gc (.ret (vr_rv r1)) ht1)
end
section
theorem ke_init : Slot "KeyError" "__init__" "KeyError.__init__":=.of (owner:="KeyError") (n:="__init__") (by rw [typeLookup_type,builtinLookup_eq_fast]; kernel_rfl) (by decide +kernel) (by decide +kernel) (by decide +kernel)
 (by first | exact .inl (by decide +kernel) | exact .inr (by decide +kernel)) (by rw [isSubtype_type]; kernel_rfl)
theorem ke_entry : entryFor table "KeyError.__init__" = some Builtin.«BaseException.__init__»:=entryFor_alias (id':="BaseException.__init__") (by rw [fastTable_eq_tree]; kernel_rfl) (by first | rfl | decide +kernel) (by decide +kernel) (by rw [fastTable_eq_tree]; kernel_rfl)
theorem ke_raise : ExcRaiseFacts "KeyError" where
 isExc:=by rw [isSubtype_type]; kernel_rfl
 plainMeta:=by kernel_rfl
theorem ke_sub1 : isSubtype (.type "KeyError") (.type "LookupError") = pure true:=by rw [isSubtype_type]; kernel_rfl
theorem ke_sub0 : isSubtype (.type "KeyError") (.type "KeyError") = pure true:=by rw [isSubtype_type]; kernel_rfl
theorem ke_mro : ∃ m,mroOf (.type "KeyError") = pure m ∧ m.isEmpty = false:=⟨[.type "KeyError",.type "LookupError",.type "Exception",.type "BaseException",.type "object"],by rw [mroOf_type]; kernel_rfl,rfl⟩
theorem ke_made : Bind.madeBy (.type "KeyError") = pure (some "LookupError.__new__"):=by kernel_rfl
theorem ke_newOk (rest : List Value) : checkBuiltinCall "LookupError.__new__" ⟨.type "KeyError" :: rest,[]⟩ = pure ():=by kernel_rfl
section
variable {prog : Program} {w : World} {A : Around} {R : Result → Shared → Prop}
theorem ke_new {rest : List Value} {hp : Heap} {g : Array GenState} {d : Drawn} {tk : Nat} {os : OsState}
 (h : R (.ok (.ret (.ref (hp.objs.size + 1)))) ⟨(hp.push { cls:=.type "tuple",data:=.seq rest.toArray }).push { cls:=.type "KeyError",data:=.fields #[.ref hp.objs.size,.none,.none,.none,.bool false,.none] },g,d,tk,os⟩)
 (hrest : rest.length ≤ sizeLine) : codeAny (model prog w) A (.builtin "LookupError.__new__" ⟨.type "KeyError" :: rest,[]⟩) R ⟨hp,g,d,tk,os⟩:=by
 have hsub:=ke_sub1
 have hna : isSubtype (.type "KeyError") (.type "AttributeError") = pure false:=by rw [isSubtype_type]; kernel_rfl
 have hnn : isSubtype (.type "KeyError") (.type "NameError") = pure false:=by rw [isSubtype_type]; kernel_rfl
 have hmade : Bind.madeHere "BaseException.__new__" (.type "KeyError") = pure ():=by kernel_rfl
 have hown : ("LookupError.__new__" : String).dropRight 8 = "LookupError":=by decide +kernel
 have hends : ("LookupError.__new__" : String).endsWith ".__new__" = true:=by decide +kernel
 refine codeAny_builtinAt PySem.F.excCall_LookupError.entry ?_
 unfold Builtin.«BaseException.__new__»
 refine PySem.wpAt_bind ?_
 show PySem.wpAt _ _ _ (stack >>= _) _ _ _
 refine PySem.wpAt_bind (PySem.wpAt_stack fun p below=>PySem.wpAt_of_wpAny ?_)
 wp_walk
 refine PySem.wpAt_of_wpAny ?_
 rw [hown]
 wp_walk
 show R _ _
 rw [Heap.size_push]
 exact h
theorem ke_check {M : Model} {A : Around} {self : Value} {rest : List Value} {E : Value → Shared → Prop} {Q : Unit → Shared → Prop} {s : Shared} (hT : Shared.TypeIs s self "KeyError") (h : Q () s) : wpAny M A (checkBuiltinCall "KeyError.__init__" ⟨self :: rest,[]⟩) Q E s:=by
 have hsub:=ke_sub0
 have hshort : ("KeyError" != "*") = true:=by decide +kernel
 have k1 : builtinKind "KeyError.__init__" = some .slot:=by kernel_rfl
 have k2 : splitId "KeyError.__init__" = some ("KeyError","__init__"):=by kernel_rfl
 have k3 : Manifest.signature? "KeyError.__init__" = some ⟨.positional,"*","KeyError",.self,[⟨"args",.varPos,false⟩]⟩:=by kernel_rfl
 simp only [checkBuiltinCall,k1,k2,k3]
 obtain ⟨hp,g,d,tk,os⟩:=s
 wp_walk
 refine wpAny_onRaise ?_
 rw [show ∀ (a b : String) (n : Nat),Bind.check ⟨.positional,"*","KeyError",.self,[⟨"args",.varPos,false⟩]⟩ a b n (List.map (fun x=>x.fst) ({ pos:=self :: rest } : Args).kw) = pure () from
  fun a b n=>check_star_args _ _ _ _ _ _]
 exact wpAny_pure h
structure KeF (cls newId initId : String) : Prop where
 notType : (Value.type cls == Value.type "type") = false
 canMake : ((Manifest.find? cls).bind fun x=>List.findSome? (fun t=>(Manifest.find? t).bind fun b =>
  if b.noNew = true then some true else if (b.attrs.any fun x=>x.fst == "__new__") = true then some false else none) x.mro).getD false = false
 noVec : ∀ args,checkTypeCall cls args = pure ()
 mro : ∃ m,mroOf (.type cls) = pure m ∧ m.isEmpty = false
 made : Bind.madeBy (.type cls) = pure (some newId)
 quiet : newId.startsWith "lifetime." = false
 newOk : ∀ rest,checkBuiltinCall newId ⟨.type cls :: rest,[]⟩ = pure ()
 sub : isSubtype (.type cls) (.type cls) = pure true
 init : Slot cls "__init__" initId
 entry : entryFor table initId = some Builtin.«BaseException.__init__»
 new : ∀ {A : Around} {R : Result → Shared → Prop} {rest : List Value} {hp : Heap} {g : Array GenState} {d : Drawn} {tk : Nat} {os : OsState},R (.ok (.ret (.ref (hp.objs.size + 1)))) ⟨(hp.push { cls:=.type "tuple",data:=.seq rest.toArray }).push { cls:=.type cls,data:=.fields #[.ref hp.objs.size,.none,.none,.none,.bool false,.none] },g,d,tk,os⟩ →
  rest.length ≤ sizeLine → codeAny (model prog w) A (.builtin newId ⟨.type cls :: rest,[]⟩) R ⟨hp,g,d,tk,os⟩
 check : ∀ {M : Model} {A : Around} {self : Value} {rest : List Value} {E : Value → Shared → Prop} {Q : Unit → Shared → Prop} {s : Shared},Shared.TypeIs s self cls → Q () s → wpAny M A (checkBuiltinCall initId ⟨self :: rest,[]⟩) Q E s
theorem ke_tcall {cls newId initId : String} (F : KeF (prog:=prog) (w:=w) cls newId initId) {rest : List Value} {E : Value → Shared → Prop} {Q : Fin → Shared → Prop} {hp : Heap} {g : Array GenState} {d : Drawn} {tk : Nat} {os : OsState}
 (h : ∀ h' e,Heap.MadeExc hp h' e cls rest → Q (.done (.ret (.ref e))) ⟨h',g,d,tk,os⟩) (hrest : rest.length ≤ sizeLine) :
 wpAny (model prog w) A (Builtin.«type.__call__» ⟨.type cls :: rest,[]⟩) Q E ⟨hp,g,d,tk,os⟩:=by
 have hnt:=F.notType
 have hcan:=F.canMake
 have hchk:=F.noVec ⟨rest,[]⟩
 obtain ⟨m,hmro,hne⟩:=F.mro
 have hmade:=F.made
 wp_walk
 refine codeAny_call_builtin_code (Code.quiet_builtin _ F.quiet) (wpAny_of_eq (F.newOk rest) ?_)
 refine F.new ?_ hrest
 show wpAny _ _ _ _ _ _
 have hget : ((hp.push { cls:=.type "tuple",data:=.seq rest.toArray }).push
  { cls:=.type cls,data:=.fields #[.ref hp.objs.size,.none,.none,.none,.bool false,.none] }).get? (hp.objs.size + 1) = some
  { cls:=.type cls,data:=.fields #[.ref hp.objs.size,.none,.none,.none,.bool false,.none] }:=by heap_get
 refine wpAny_bind (wpAny_isInstance ⟨_,hget,rfl⟩ F.sub ?_)
 wp_step
 refine wpAny_bind (wpAny_holding (wpAny_callSpecial?_slot ⟨_,hget,rfl⟩ F.init (wpAny_call (codeAny_call_builtin F.init.plain F.entry (F.check ⟨_,hget,rfl⟩ ?_)))))
 wp_walk
 refine h _ _ ⟨fun b o hb=>?_,Heap.get?_none_of_le (Nat.le_succ _),hp.objs.size + 2,?_,Heap.get?_none_of_le (by lia),?_⟩
 ·rw [Heap.get?_update_other _ _ (Nat.ne_of_gt (Nat.lt_succ_of_lt (Heap.lt_size hb)))]
  exact Heap.get?_push_of_some _ (Heap.get?_push_of_some _ (Heap.get?_push_of_some _ hb))
 ·rw [Heap.get?_update_self _ (Heap.get?_push_of_some _ hget) rfl]
  simp only [Heap.size_push]
  rfl
 ·rw [Heap.get?_update_other _ _ (show hp.objs.size + 1 ≠ hp.objs.size + 2 by lia)]
  exact Heap.get?_push_at (by simp only [Heap.size_push]) rfl
theorem ke_facts : KeF (prog:=prog) (w:=w) "KeyError" "LookupError.__new__" "KeyError.__init__" where
 notType:=by decide +kernel
 canMake:=by kernel_rfl
 noVec:=fun args=>by kernel_rfl
 mro:=ke_mro
 made:=ke_made
 quiet:=by decide +kernel
 newOk:=ke_newOk
 sub:=ke_sub0
 init:=ke_init
 entry:=ke_entry
 new:=ke_new
 check:=ke_check
theorem ke_call {rest : List Value} {E : Value → Shared → Prop} {Q : Value → Shared → Prop} {hp : Heap} {g : Array GenState} {d : Drawn} {tk : Nat} {os : OsState}
 (h : ∀ h' e,Heap.MadeExc hp h' e "KeyError" rest → Q (.ref e) ⟨h',g,d,tk,os⟩) (hrest : rest.length ≤ sizeLine) : wpAny (model prog w) A (call (.type "KeyError") rest) Q E ⟨hp,g,d,tk,os⟩:=by
 refine wpAny_call (codeAny_of_tree ?_)
 show wpAny _ _ (again (.builtin "type.__call__" ⟨.type "KeyError" :: rest,[]⟩)) _ _ _
 exact wpAny_pure ⟨Code.quiet_builtin _ (by decide +kernel),codeAny_builtin entry_typeCall (ke_tcall ke_facts (fun h' e hm=>h h' e hm) hrest)⟩
end
end
section
structure OkSsX (W : Wd) (cx : Cx) (cs : Scope) (d : Nat) (ss : List PS) (sts : List Stmt) : Prop where
 h : ∀ (c : Fc),c.cs = cs → FOk W c d → ∀ {m : Str → Option Value} {X : List (Addr × Obj)} {L : Loc} {σ : St} {ps : PZ} {h : Heap} {tk : Nat} {fl : Fl} {L' : Loc} {σ' : St} {Q : Flow → Shared → Prop} {E : Value → Shared → Prop} {g : Array GenState} {dr : Drawn} {os : OsState} {z : Nat} {hz : HS},
  SR W c m X σ ps h → LR W.tb (hds ps) L m → 1 ≤ tk → hz.a.length = z → hz.Le (hds ps) → evSs cx ss z L σ = some (fl,L',σ') → (fl ≠ .next → HandS W c X hz σ' L' fl g dr os Q) →
  (fl = .next → ∀ m' ps' h1 h' e y t',hz.Le (hds ps') → SR W c m' X σ' ps' h1 → Heap.MadeExc h1 h' e "KeyError" [y] → 1 ≤ t' → E (.ref e) ⟨h',g,dr,t',os⟩) → wpAny (model W.prog W.w) c.A (execs sts c.env) Q E ⟨h,g,dr,tk,os⟩
section
variable {W : Wd} {cx : Cx} {cs : Scope} {d : Nat}
theorem okSsX_cons {s : PS} {st : Stmt} {ss : List PS} {sts : List Stmt} (hs : OkS W cx cs d s st) (hss : OkSsX W cx cs d ss sts) : OkSsX W cx cs d (s :: ss) (st :: sts):=by
 refine ⟨?_⟩
 intro c hc ok m X L σ ps h tk fl L' σ' Q E g dr os z hz S lr ht hl pz e H HE
 refine bd3 (evSs_cons.symm.trans e) fun f1 L1 σ1 e1 e2=>?_
 refine wpAny_execs_cons (hs.1 c hc ok S lr ht hl pz e1 fun m1 ps1 h1 t1 ff p1 S1 lr1 fr1 ht1=>?_)
 cases fr1 with
 | next=>exact hss.1 c hc ok S1 lr1 ht1 hl p1 e2 H HE
 | brk=>exact triE (fun f l s=>f ≠ .next → HandS W c X hz s l f g dr os Q) e2 H nofun m1 ps1 h1 t1 _ p1 S1 lr1 .brk ht1
 | cont=>exact triE (fun f l s=>f ≠ .next → HandS W c X hz s l f g dr os Q) e2 H nofun m1 ps1 h1 t1 _ p1 S1 lr1 .cont ht1
 | ret hv=>exact triE (fun f l s=>f ≠ .next → HandS W c X hz s l f g dr os Q) e2 H nofun m1 ps1 h1 t1 _ p1 S1 lr1 (.ret hv) ht1
theorem okSsX_raise {e : PE} {x : PySem.Expr} {npos cpos pos : Pos} (B : BtOk W cs none "KeyError" (.type "KeyError")) (he : OkE W cx cs none d e x)
 (hx : ∀ env,starEach [x] env = (false,eval x env) :: starEach [] env)
 (hcl : ∀ env,eval (.Call (.Name "KeyError" npos) [x] [] cpos) env = (do callWith cpos (← eval (.Name "KeyError" npos) env) [] (backTo cpos (starEach [x] env)) (backToKw cpos (keywordEach [] env)))) :
 OkSsX W cx cs d [.expr e] [.Raise (some (.Call (.Name "KeyError" npos) [x] [] cpos)) none pos]:=by
 refine ⟨?_⟩
 intro c hc ok m X L σ ps h tk fl L' σ' Q E g dr os z hz S lr ht hl pz ee H HE
 refine bd3 (evSs_cons.symm.trans ee) fun f1 L1 σ1 e1 e2=>?_
 refine mp2 (evS_expr.symm.trans e1) fun v σ2 e3 e4=>?_
 have HE:=triE (fun f l s=>f = .next → ∀ m' ps' h1 h' e y t',hz.Le (hds ps') → SR W c m' X s ps' h1 → Heap.MadeExc h1 h' e "KeyError" [y] → 1 ≤ t' → E (.ref e) ⟨h',g,dr,t',os⟩)
  (triE (fun f l s=>(match f with | .next=>evSs cx [] z l s | f=>some (f,l,s)) = some (fl,L',σ')) e4 e2 : some (Fl.next,L,σ2) = _) HE
 clear H e1 e2 e4
 have V : Vw W none c c.env m X (hds ps) L:=⟨rfl,lr⟩
 refine wpAny_execs_cons (wpAny_Raise_made ke_raise ok.hh ?_)
 refine Call_ (name_bt S ok hc V B.hg B.hv B.hn B.hk B.hs B.hd ?_) (hcl _)
 refine callEs (first:=[]) (okEs_cons he okEs_nil hx) hc ok (by rw [hx]; rfl) S V ht (vs:=[v]) (by rw [evEs_cons,e3]; rfl) (fun J J J J=>keeps_bt nofun) fun ps2 h2 t2 ys p2 S2 r2 ht2=>?_
 cases r2 with
 | @cons _ y _ _ r2 rn =>
  cases rn
  refine ke_call (fun h' ea hm=>?_) (show 1 ≤ sizeLine by decide)
  obtain ⟨t,q1,q2,q3⟩:=hm.there
  exact ⟨ea,t,rfl,q1,HE rfl m ps2 h2 h' ea y t2 (pz.trans p2) S2 hm ht2⟩
end
end
section
structure GX (W : Wd) (cx : Cx) (d : Nat) : Prop where
 G : GOk W cx d
 init : W.tb[cx.init]? = some "__init__"
 fn : ∀ f args σ r,f < BIG → cx.call f args σ = some r → fnIn W.K f = true
 fnX : ∀ f args σ r,cx.call (f + BIG) args σ = some r → fnIn W.K f = true
noncomputable def PK (scope : Scope) (x : Str) : Prop:=scope.names.lookup x = some .local ∨ scope.names.lookup x = some .cell
noncomputable def BindOk (W : Wd) (fn : Fn) (fd : FuncData) (scope : Scope) : Prop :=
 ∀ (args : List V) (L : Loc),bindP fn.params args fn.dflt = some L → ∀ (hs : HS) (xs : List Value),All2 (VR hs) args xs →
  ∃ binds,(∀ s : Shared,W.K.In s.heap → BindsTo s fd ⟨xs,[]⟩ binds) ∧ (∀ y ∈ binds,PK scope y.1) ∧ LR W.tb hs L (fun y=>binds.reverse.lookup y)
structure FnAt (W : Wd) (f : Nat) (fn : Fn) (qual name : Str) (params : Arguments) (body : List Stmt) (scope : Scope) (dV kV doc pm cdv ct oc : Value) (an od : Option Addr) (osl : Array (Option Value)) : Prop where
 at_ : W.K.lookup f = some ⟨oc,od,.func (fnOf name qual params body scope dV kV doc pm an cdv ct),osl⟩
 code : codeIn W.K cdv qual = true
 kind : scope.kind = .function
 co : scope.isCoroutine = false
 gen : scope.isGenerator = false
 ck : CsOk scope
 bind : BindOk W fn (fnOf name qual params body scope dV kV doc pm an cdv ct) scope
structure FnOk (W : Wd) (f : Nat) (fn : Fn) (qual name : Str) (params : Arguments) (body : List Stmt) (scope : Scope) (dV kV doc pm cdv ct oc : Value) (an od : Option Addr) (osl : Array (Option Value)) : Prop where
 a : FnAt W f fn qual name params body scope dV kV doc pm cdv ct oc an od osl
 body : ∀ (cx : Cx) (d : Nat),GX W cx d → OkSs W cx scope d fn.body body
inductive FnEx (W : Wd) (f : Nat) (fn : Fn) : Prop
 | mk {qual name : Str} {params : Arguments} {body : List Stmt} {scope : Scope} {dV kV doc pm cdv ct oc : Value} {an od : Option Addr} {osl : Array (Option Value)} : FnOk W f fn qual name params body scope dV kV doc pm cdv ct oc an od osl → FnEx W f fn
theorem fn_in {K : Frag} {f : Nat} {oc : Value} {od : Option Addr} {fd : FuncData} {osl : Array (Option Value)} (h : K.lookup f = some ⟨oc,od,.func fd,osl⟩) : fnIn K f = true:=by
 unfold fnIn
 rw [h]
theorem FnEx.fn {W : Wd} {f : Nat} {fn : Fn} (x : FnEx W f fn) : fnIn W.K f = true:=by
 cases x with | mk o=>exact fn_in o.a.at_
theorem runF_succ {p : Pr} {fuel d f : Nat} {args : List V} {σ : St} : runF p fuel (d + 1) f args σ = (p.fns f).bind fun fn=>(bindP fn.params args fn.dflt).bind fun L =>
 (evSs (cxOf p fuel (runF p fuel d)) fn.body σ.length L σ).bind fun (fl,_,σ1)=>endF f fl σ1:=rfl
theorem endF_lo {f : Nat} {fl : Fl} {σ : St} (h : f < BIG) : endF f fl σ = some ((match fl with | .ret v=>v | _=>.none),σ):=by
 unfold endF
 rw [show Nat.blt f BIG = true from decide_eq_true (p:=f < BIG) h ▸ (Nat.blt_eq.mpr h)]; rfl
structure FnOkX (W : Wd) (f : Nat) (fn : Fn) (qual name : Str) (params : Arguments) (body : List Stmt) (scope : Scope) (dV kV doc pm cdv ct oc : Value) (an od : Option Addr) (osl : Array (Option Value)) : Prop where
 a : FnAt W f fn qual name params body scope dV kV doc pm cdv ct oc an od osl
 nc : ∀ x ∈ scope.names,x.2 ≠ .cell
 body : ∀ (cx : Cx) (d : Nat),GX W cx d → OkSsX W cx scope d fn.body body
inductive FnExX (W : Wd) (f : Nat) (fn : Fn) : Prop
 | mk {qual name : Str} {params : Arguments} {body : List Stmt} {scope : Scope} {dV kV doc pm cdv ct oc : Value} {an od : Option Addr} {osl : Array (Option Value)} : FnOkX W f fn qual name params body scope dV kV doc pm cdv ct oc an od osl → FnExX W f fn
theorem FnExX.fn {W : Wd} {f : Nat} {fn : Fn} (x : FnExX W f fn) : fnIn W.K f = true:=by
 cases x with | mk o=>exact fn_in o.a.at_
theorem endF_hi {f : Nat} {fl : Fl} {σ : St} : endF (f + BIG) fl σ = match fl with
 | .next=>some (.none,σ)
 | .ret v=>(match v with | .none=>none | v=>some (v,σ))
 | _=>none:=by
 unfold endF
 rw [show Nat.blt (f + BIG) BIG = false from by
  cases q : Nat.blt (f + BIG) BIG with
  | false=>rfl
  | true=>exact absurd (Nat.blt_eq.mp q) (by lia)]
 rfl
theorem CsOk.isCell {cs : Scope} (k : CsOk cs) {n : Nat} {x : Str} (h : (cellsFrom n cs.names []).lookup x ≠ none) : cs.names.lookup x = some .cell:=by
 rcases k n with ⟨_,e⟩ | ⟨y,A,e,q,_⟩
 ·rw [e] at h; exact absurd rfl h
 ·rw [e,List.lookup_cons] at h
  cases z : x == y with
  | true=>exact eq_of_beq z ▸ q
  | false=>rw [z] at h; exact absurd rfl h
theorem bind_last {binds : List (Str × Value)} {n x : Str} {v : Value} {o : Option Value} : ((((n,v) :: binds).reverse).lookup x).or o = (binds.reverse.lookup x).or (if x = n then some v else o):=by
 rw [List.reverse_cons,List.lookup_append,Option.or_assoc]
 congr 1
 rw [List.lookup_cons]
 by_cases q : x = n
 ·subst q; simp
 ·rw [beq_eq_false_iff_ne.mpr q,if_neg q]; rfl
theorem bindL_get {k : Str → Option NameKind} {x : Str} : ∀ {binds : List (Str × Value)} {m : Str → Option Value},(∀ p ∈ binds,p.1 = x → k x = some .local) → bindL k binds m x = (binds.reverse.lookup x).or (m x)
 | [],m,_=>rfl
 | (n,v) :: r,m,h=>by
  unfold bindL
  rw [bindL_get (binds:=r) fun p hp=>h p (.tail _ hp),bind_last]
  congr 1
  by_cases q : x = n
  ·rw [if_pos q,← q,if_pos (h (n,v) (.head _) q.symm),if_pos rfl]
  ·rw [if_neg q]
   split
   ·dsimp only
    rw [if_neg q]
   ·rfl
theorem bindC_get {k : Str → Option NameKind} {x : Str} : ∀ {binds : List (Str × Value)} {m : Str → Option Value},(∀ p ∈ binds,p.1 = x → k x ≠ some .local) → bindC k binds m x = (binds.reverse.lookup x).or (m x)
 | [],m,_=>rfl
 | (n,v) :: r,m,h=>by
  unfold bindC
  rw [bindC_get (binds:=r) fun p hp=>h p (.tail _ hp),bind_last]
  congr 1
  by_cases q : x = n
  ·rw [if_pos q,← q,if_neg (h (n,v) (.head _) q.symm),if_pos rfl]
  ·rw [if_neg q]
   split
   ·rfl
   ·dsimp only
    rw [if_neg q]
theorem CsOk.none {cs : Scope} (k : CsOk cs) (h : ∀ p ∈ cs.names,p.2 ≠ .cell) {n : Nat} : cellsFrom n cs.names [] = []:=by
 rcases k n with ⟨_,e⟩ | ⟨y,A,_,q,_⟩
 ·exact e
 ·exact absurd rfl (h _ (mem_of_lookup q))
theorem envOf_noc {name : Str} {cs : Scope} {L a : Addr} {cd : Value} (e : cellsFrom (L + 1) cs.names [] = []) : envOfC name cs L a cd = envOf name cs L a cd:=by
 unfold envOfC envOf
 rw [e]
theorem RaisedS.less {base G : Heap} {l : List Env} {e t : Addr} {cls : Value} {vs : List Value} {news news' : List (Addr × Obj)} {h : Heap} (R : RaisedS base G l e cls t vs news h) (q : ∀ {x},x ∈ news' → x ∈ news) : RaisedS base G l e cls t vs news' h:=by
 obtain ⟨⟨B,hB,hBG,hl,hfl,hnew⟩,htup⟩:=R
 exact ⟨⟨B,hB,hBG,fun p hp=>hl p (q hp),hfl,hnew⟩,htup⟩
theorem go_back {W : Wd} {c : Fc} {g0 g2 h h' : Heap} {L' : Addr} {m0 m2 : Str → Option Value} {news : List (Addr × Obj)} (G0 : Gd c g0) (F0 : Fr g0 c.L h m0) (FG : Fr g0 c.L (hideAll h (news.map (·.1))) m0) (T' : KtsTurn ((c.env :: c.outer).filterMap (·.frame)) (hideAll h (news.map (·.1))) g2) (F' : Fr g2 L' h' m2) :
 ∃ g3,Gd c g3 ∧ Fr g3 c.L h' m0 ∧ ∀ l,News g2 L' h' l → News g3 c.L h' l:=by
 obtain ⟨oL,es,ep,hLg,hLd,hLk,hLf⟩:=FG.ns
 have nL₀ : g0.get? c.L = none:=kts_self F0
 obtain ⟨sl,hs⟩:=T'.up hLg
 obtain ⟨T₁,S₁⟩:=kts_turn_at (h:=h') (fs:=fsOf c) (g:=g0)
  (fun b hb=>by
   obtain ⟨_,o,ho',_⟩:=G0.B.frames.mem hb
   exact ⟨o,ho'⟩)
  (fun b o e nmem=>F'.keep b o (T'.other b o (FG.keep b o e) (fun q=>by
   rcases kts_mem (name:=c.cn) (scope:=c.cs) (a:=c.a) (cd:=c.ccd) q with z | z
   ·rw [z,nL₀] at e
    cases e
   ·exact nmem z)))
  (fun b o e hm=>by
   obtain ⟨sl',hs'⟩:=T'.up (FG.keep b o e)
   exact ⟨sl',F'.keep _ _ hs'⟩)
 have B₃ : Below c.A₀ c.base c.outer (ktsHeap h' (fsOf c) g0):=⟨G0.B.stack,fun b o e=>T₁.other b o (G0.B.stays b o e) (fun hm=>by
  rw [(G0.B.frames.mem hm).1] at e
  cases e),G0.B.frames.of_keeps fun b o e J=>by
  obtain ⟨sl',hs'⟩:=T₁.up e
  exact ⟨_,hs',rfl⟩⟩
 refine ⟨_,⟨G0.T.trans T₁,B₃,G0.D.turn T₁⟩,⟨⟨_,es,ep,F'.keep _ _ hs,hLd,hLk,hLf⟩,S₁,by rw [T₁.size]; exact F0.above⟩,fun l N' p hp=>⟨(N' p hp).1,fun q=>?_,?_⟩⟩
 ·have:=(N' p hp).2.2; rw [q,hs] at this; cases this
 ·refine T₁.none_ _ ?_
  cases q : g0.get? p.1 with
  | none=>rfl
  | some o =>
   obtain ⟨sl',hs'⟩:=T'.up (FG.keep _ _ q)
   have:=(N' p hp).2.2
   rw [hs'] at this
   cases this
noncomputable def Fc.call (c : Fc) (qual : Str) (scope : Scope) (h : Heap) (f : Addr) (cdv : Value) (news : List (Addr × Obj)) : Fc :=
 { cn:=qual,cs:=scope,L:=h.objs.size,a:=f,ccd:=cdv,h₀:=hideAll h (news.map (·.1)),A₀:=c.A,base:=c.base,outer:=c.env :: c.outer,A:=c.A.deeper (envOfC qual scope h.objs.size f cdv) }
section
variable {W : Wd} {f : Nat} {fn : Fn} {qual name : Str} {params : Arguments} {body : List Stmt} {scope : Scope} {dV kV doc pm cdv ct oc : Value} {an od : Option Addr} {osl : Array (Option Value)}
 {c : Fc} {d : Nat} {m : Str → Option Value} {X : List (Addr × Obj)} {σ : St} {ps : PZ} {h : Heap} {tk : Nat} {g : Array GenState} {dr : Drawn} {os : OsState} {R : Result → Shared → Prop}
theorem app4 {α : Type} (a b c d : List α) : (a ++ (b ++ c)) ++ d = (a ++ b) ++ (c ++ d):=by rw [← List.append_assoc,List.append_assoc]
theorem back_sub {ps' : PZ} {l X : List (Addr × Obj)} : ((PZ.mk ps'.p ps'.zl ps'.z l).flatten ++ X).Sublist (ps'.flatten ++ (l ++ X)):=by
 show ((ps'.p.flatten ++ (ps'.zl ++ l)) ++ X).Sublist ((ps'.p.flatten ++ (ps'.zl ++ ps'.cs)) ++ (l ++ X))
 rw [app4,app4]
 exact (List.Sublist.refl _).append (List.sublist_append_right _ _)
theorem leave (s0 : Shared) {m' : Str → Option Value} {σ1 : St} {ps' : PZ} {h' : Heap} (ok : FOkC W c (d + 1)) (S : SR W c m X σ ps s0.heap) (S' : SR W (c.call qual scope s0.heap f cdv (ps.flatten ++ X)) m' (ps.cs ++ X) σ1 ps' h') : SR W c m X σ1 ⟨ps'.p,ps'.zl,ps'.z,ps.cs⟩ h':=by
 obtain ⟨g0,G0,m0,hm0,F0⟩:=S.F
 obtain ⟨FG,_,_,_⟩:=groundX (s:=s0) (R:=fun J J=>True) G0.B F0 (G0.news S.N) ok.frames (show c.env.frame = some c.L from rfl) ok.kind
 obtain ⟨g2,G2,m2,_,F2⟩:=S'.F
 obtain ⟨g3,G3,F3,N3⟩:=go_back (W:=W) G0 F0 FG G2.T F2
 exact ⟨⟨g3,G3,m0,hm0,F3⟩,fun p hp=>G3.back (N3 _ (G2.news S'.N)) p (back_sub.subset hp),S'.nd.sublist (back_sub.map _),S'.rel,S'.fz.1,S.fz.2⟩
theorem leave_raise (s0 : Shared) {m' : Str → Option Value} {σ1 : St} {ps' : PZ} {h1 : Heap} {s' : Shared} {ea : Addr} {y : Value} {E : Value → Shared → Prop} (ok : FOkC W c (d + 1)) (S : SR W c m X σ ps s0.heap) (nc : ∀ n,cellsFrom n scope.names [] = []) (hk : scope.kind = .function) (S' : SR W (c.call qual scope s0.heap f cdv (ps.flatten ++ X)) m' (ps.cs ++ X) σ1 ps' h1) (hm : Heap.MadeExc h1 s'.heap ea "KeyError" [y])
 (k : ∀ h2,RsX W c m X σ1 ⟨ps'.p,ps'.zl,ps'.z,ps.cs⟩ ea h2 → R (.error (.ref ea)) { s' with heap:=h2 }) :
 wpAny (model W.prog W.w) (c.call qual scope s0.heap f cdv (ps.flatten ++ X)).A (leaving (c.call qual scope s0.heap f cdv (ps.flatten ++ X)).env (.ref ea)) (fun J s''=>R (.error (.ref ea)) s'') E s':=by
 obtain ⟨g0,G0,m0,hm0,F0⟩:=S.F
 obtain ⟨FG,_,_,_⟩:=groundX (s:=s0) (R:=fun J J=>True) G0.B F0 (G0.news S.N) ok.frames (show c.env.frame = some c.L from rfl) ok.kind
 obtain ⟨g2,G2,m2,_,F2⟩:=S'.F
 show wpAny _ (c.A.deeper (envOfC qual scope s0.heap.objs.size f cdv)) (leaving (envOfC qual scope s0.heap.objs.size f cdv) _) _ _ _
 rw [envOf_noc (nc _)]
 refine leave_raiseS G2.B ⟨hm.keeps,hm.new,hm.there⟩ F2 (G2.news S'.N) (fun h2 t R1 J U=>?_) hk
 obtain ⟨g3,T3,F3,B3⟩:=kts_ground (name:=c.cn) (scope:=c.cs) (a:=c.a) (cd:=c.ccd) (B:=g2) (h₅:=g2) G0.B FG (fun b o e nm=>G2.T.other b o e nm) (fun J J e=>e) (fun b o e J=>G2.T.up e)
 exact k h2 ⟨⟨t,[y],g2,⟨g3,⟨G0.T.trans T3,B3,G0.D.turn T3⟩,m0,hm0,F3⟩,RaisedS.less R1 (fun z=>back_sub.subset z),U⟩,S'.nd.sublist (back_sub.map _),S'.rel,S'.fz.1,S.fz.2⟩
theorem enter (o : FnAt W f fn qual name params body scope dV kV doc pm cdv ct oc an od osl) (ok : FOkC W c (d + 1)) {args : List V} {xs : List Value} {L0 : Loc} (e2 : bindP fn.params args fn.dflt = some L0) (S : SR W c m X σ ps h) (ra : All2 (VR (hds ps)) args xs) (ht : 1 ≤ tk)
 (k : ∀ (c' : Fc) m' ps' h₁ tk',c'.cs = scope → FOk W c' d → SR W c' m' (ps.cs ++ X) σ ps' h₁ → LR W.tb (hds ps') L0 m' → hds ps' = hds ps → 1 ≤ tk' →
  (∀ {m2 σ1 ps2 h2},SR W c' m2 (ps.cs ++ X) σ1 ps2 h2 → SR W c m X σ1 ⟨ps2.p,ps2.zl,ps2.z,ps.cs⟩ h2) →
  (∀ {m2 σ1 ps2 h1 s' ea y E},(∀ n,cellsFrom n scope.names [] = []) → SR W c' m2 (ps.cs ++ X) σ1 ps2 h1 → Heap.MadeExc h1 (Shared.heap s') ea "KeyError" [y] → (∀ h2,RsX W c m X σ1 ⟨ps2.p,ps2.zl,ps2.z,ps.cs⟩ ea h2 → R (.error (.ref ea)) { s' with heap:=h2 }) → wpAny (model W.prog W.w) c'.A (leaving c'.env (.ref ea)) (fun J s''=>R (.error (.ref ea)) s'') E s') →
  wpAny (model W.prog W.w) c'.A (execs body c'.env) (fun fl s'=>R (.ok (.ret (match fl with | .ret v=>v | _=>.none))) s')
   (fun e s'=>wpAny (model W.prog W.w) c'.A (leaving c'.env e) (fun J s''=>R (.error e) s'') (fun e' s''=>R (.error e') s'') s') ⟨h₁,g,dr,tk',os⟩) :
 codeAny (model W.prog W.w) c.A (.call (.ref f) ⟨xs,[]⟩) R ⟨h,g,dr,tk,os⟩:=by
 obtain ⟨binds,b1,b2,b3⟩:=o.bind args L0 e2 _ xs ra
 obtain ⟨g0,G0,m0,hm0,F0⟩:=S.F
 have K:=ok.X.keeps S.F.base
 have hd:=ok.depth
 have hu:=ok.units
 have N0:=G0.news S.N
 obtain ⟨FG,BG,st,_⟩:=groundX (s:=⟨h,g,dr,tk,os⟩) (R:=R) G0.B F0 N0 ok.frames (show c.env.frame = some c.L from rfl) ok.kind
 refine codeAny_call_function (by show _ < 1000; lia) (K _ _ o.at_) rfl o.co o.gen rfl (codeRec_of K o.code) (b1 _ K _ _ _ _ ?_)
 refine wpAny_with_toks (n:=1) ht (wpAny_newFunctionEnv_cells o.kind (fun x hx=>?_) fun env' he s' x ht'=>?_)
 ·rcases b2 x hx with q | q
  ·exact .inl q
  ·obtain ⟨A,e⟩:=o.ck.cell (n:=h.objs.size + 1) q
   exact .inr ⟨q,by rw [e]; simp⟩
 subst he
 refine ⟨(ok.T.keeps G0.B.stays).nolimit.keeps F0.keep |>.keeps x.toInCall.keep,codeAny_func ?_⟩
 obtain ⟨h₁,tk',rfl,_⟩:=x.done
 have hk₁:=x.toInCall.keep
 have hcl : ∀ n a,(n,a) ∈ cellsFrom (h.objs.size + 1) scope.names [] → (cellsFrom (h.objs.size + 1) scope.names []).lookup n = some a:=fun n a hm=>by
  rcases o.ck (h.objs.size + 1) with ⟨_,e⟩ | ⟨y,A,e,_⟩
  ·rw [e] at hm; cases hm
  ·rw [e] at hm ⊢
   obtain ⟨rfl,rfl⟩:=Prod.mk.inj (List.mem_singleton.mp hm)
   simp
 obtain ⟨cells,NC,Y⟩:=Cl.news (h₀:=h) (Nat.le_refl _) fun n a hm=>⟨x.cell n a (hcl n a hm),x.above n a hm⟩
 have Y' : CellsAre (fun y=>binds.reverse.lookup y) (cellsFrom (h.objs.size + 1) scope.names []) cells:=CellsAre.mono Y fun z hz=>by
  have q:=o.ck.isCell hz
  refine (bindC_get (m:=fun J=>none) fun p J J e=>?_).trans (Option.or_none ..)
  have e : scope.names.lookup z = some .local:=e
  rw [q] at e; cases e
 have nc : ∀ p ∈ cells,∀ q ∈ ps.flatten ++ X,p.1 ≠ q.1:=fun p hp q hq e=>by
  have z:=(NC p hp).2.2
  rw [e,(S.N q hq).1] at z; cases z
 have e1 : (PZ.mk ps.p ps.zl ps.z cells).flatten ++ (ps.cs ++ X) = (ps.p.flatten ++ ps.zl) ++ (cells ++ (ps.cs ++ X)):=app4 ..
 have e3 : ps.flatten ++ X = (ps.p.flatten ++ ps.zl) ++ (ps.cs ++ X):=app4 ..
 have pm : ((PZ.mk ps.p ps.zl ps.z cells).flatten ++ (ps.cs ++ X)).Perm (cells ++ (ps.flatten ++ X)):=by
  rw [e1,e3]
  exact List.perm_append_comm_assoc ..
 refine k (c.call qual scope h f cdv (ps.flatten ++ X)) (fun y=>binds.reverse.lookup y) ⟨ps.p,ps.zl,ps.z,cells⟩ h₁ tk' rfl ⟨?_,ok.hh,?_,?_,ok.X,ok.T,o.kind,o.ck,rfl⟩ ⟨⟨_,⟨.refl,BG,fun b hb=>?_⟩,_,fun z hz=>?_,x.toInCall.ns,fun b o e=>hk₁ b o (of_hideAll _ e),Nat.le_of_eq (hideAll_size _ _)⟩,fun p hp=>?_,?_,S.rel,S.fz.1,Y'⟩ b3 rfl ht' (leave ⟨h,g,dr,tk,os⟩ ok S) (fun nc=>leave_raise ⟨h,g,dr,tk,os⟩ ok S nc o.kind)
 ·show c.A.frames.map (_ :: ·) = _
  rw [ok.frames]; rfl
 ·show c.A.depth + 1 + 3 * d + 3 ≤ 990
  lia
 ·show c.A.units + 3 + 30 * d + 300 ≤ 9800
  lia
 ·rcases kts_mem (name:=c.cn) (scope:=c.cs) (a:=c.a) (cd:=c.ccd) hb with rfl | hb
  ·obtain ⟨oL,es,ep,hLg,hLd,_⟩:=FG.ns
   exact ⟨oL,es,ep,hLg,hLd⟩
  ·obtain ⟨o,es',n',ho',hd'⟩:=G0.D b hb
   exact ⟨o,es',n',st b o ho',hd'⟩
 ·refine (bindL_get (m:=fun J=>none) fun p hp e=>?_).trans (Option.or_none ..)
  rcases b2 p hp with q | q
  ·exact e ▸ q
  ·obtain ⟨A,ea⟩:=o.ck.cell (n:=h.objs.size + 1) q
   have hz : (cellsFrom (h.objs.size + 1) scope.names []).lookup z = none:=hz
   rw [ea,e] at hz
   simp at hz
 ·rcases List.mem_append.mp (pm.mem_iff.mp hp) with hp | hp
  ·refine ⟨(NC p hp).1,(NC p hp).2.1,?_⟩
   show (hideAll h _).get? p.1 = none
   cases q : (hideAll h ((ps.flatten ++ X).map (·.1))).get? p.1 with
   | none=>rfl
   | some o=>have:=of_hideAll _ q; rw [(NC p hp).2.2] at this; cases this
  ·exact ⟨hk₁ _ _ (S.N p hp).1,Nat.ne_of_lt (Heap.lt_size (S.N p hp).1),hideAll_none _ (List.mem_map_of_mem hp)⟩
 ·refine ((pm.map (·.1)).nodup_iff).mpr ?_
  rw [List.map_append]
  refine List.nodup_append.mpr ⟨?_,S.nd,fun a ha b hb q=>?_⟩
  ·rcases o.ck (h.objs.size + 1) with ⟨_,e⟩ | ⟨y,A,e,_⟩
   ·rw [e] at Y; cases Y; exact .nil
   ·rw [e] at Y
    obtain ⟨o,rfl,_⟩:=Y.one
    exact List.nodup_cons.mpr ⟨nofun,.nil⟩
  ·obtain ⟨p,hp,rfl⟩:=List.mem_map.mp ha
   obtain ⟨r,hr,rfl⟩:=List.mem_map.mp hb
   exact nc p hp r hr q
end
theorem calls_ok (W : Wd) (p : Pr) (hso : SoOk W p.so) (hco : ∀ fuel call,ClsOk W (cxOf p fuel call)) (hi : W.tb[p.init]? = some "__init__") (hf : ∀ f fn,f < BIG → p.fns f = some fn → FnEx W f fn) (hfx : ∀ f fn,p.fns (f + BIG) = some fn → FnExX W f fn) (fuel : Nat) :
 ∀ d,CallOk W (runF p fuel d) d ∧ CallOkX W (runF p fuel d) d
 | 0=>⟨fun f args σ v σ' J e=>noE e,fun f args σ v σ' e=>noE e⟩
 | d + 1=>by
  have ih:=calls_ok W p hso hco hi hf hfx fuel d
  have gx : GX W (cxOf p fuel (runF p fuel d)) d:=⟨⟨hso,hco _ _,ih.1,ih.2⟩,hi,fun f' args' σ2 r' hb e'=>by
   have e' : runF p fuel d f' args' σ2 = some r':=e'
   cases d with
   | zero=>exact noE e'
   | succ d=>exact bdE (runF_succ.symm.trans e') fun fn' q J=>(hf f' fn' hb q).fn,fun f' args' σ2 r' e'=>by
   have e' : runF p fuel d (f' + BIG) args' σ2 = some r':=e'
   cases d with
   | zero=>exact noE e'
   | succ d=>exact bdE (runF_succ.symm.trans e') fun fn' q J=>(hfx f' fn' q).fn⟩
  refine ⟨?_,?_⟩
  ·intro f args σ v σ' hlt e c ok m X ps h tk xs R g dr os S ra ht H
   refine bdE (runF_succ.symm.trans e) fun fn e1 e=>bdE e fun L0 e2 e=>bd3 e fun fl L1 σ1 e3 e4=>?_
   have e4:=(endF_lo hlt).symm.trans e4
   cases hf f fn hlt e1 with
   | mk o =>
   refine enter o.a ok e2 S ra ht fun c' mc ps1 h₁ tk' hc ok' S1 lr hh ht1 back J=>?_
   refine (o.body _ d gx).1 _ hc ok' S1 lr ht1 (hds_len.trans S1.len.symm) .rfl e3 fun m' ps' h' t' ff pp S' lr' fr ht'=>?_
   refine H.eq e4 ⟨ps'.p,ps'.zl,ps'.z,ps.cs⟩ h' t' _ (hh ▸ pp) (back S') ?_ ht'
   cases fr with
   | ret hv=>exact hv
   | _=>exact .none
  ·intro f args σ v σ' e c ok m X ps h tk xs R g dr os S ra ht H HX
   refine bdE (runF_succ.symm.trans e) fun fn e1 e=>bdE e fun L0 e2 e=>bd3 e fun fl L1 σ1 e3 e4=>?_
   have e4:=endF_hi.symm.trans e4
   cases hfx f fn e1 with
   | mk o =>
   refine enter o.a ok e2 S ra ht fun c' mc ps1 h₁ tk' hc ok' S1 lr hh ht1 back raise=>?_
   refine (o.body _ d gx).1 _ hc ok' S1 lr ht1 (hds_len.trans S1.len.symm) .rfl e3 (fun hne m' ps' h' t' ff pp S' lr' fr ht'=>?_) (fun hfl m' ps' h1 h' ea y t' pp S' hm ht'=>?_)
   ·have S2:=back S'
    cases fr with
    | @ret v0 y0 hv =>
     have q : v0 ≠ .none ∧ some (v0,σ1) = some (v,σ'):=by
      cases v0 with
      | none=>exact noE e4
      | _=>exact ⟨nofun,e4⟩
     cases q.2
     exact H q.1 ⟨ps'.p,ps'.zl,ps'.z,ps.cs⟩ h' t' _ (hh ▸ pp) S2 hv ht'
    | next=>exact absurd rfl hne
    | _=>exact noE e4
   ·subst hfl
    cases e4
    exact raise (fun n=>o.a.ck.none o.nc) S' hm fun h2 RX=>HX rfl ea ⟨ps'.p,ps'.zl,ps'.z,ps.cs⟩ h2 t' (hh ▸ pp) RX ht'
end
section
section
variable {W : Wd} {cx : Cx} {cs : Scope} {d : Nat}
theorem ke_isExc : isSubtype (.type "KeyError") (.type "BaseException") = pure true:=by rw [isSubtype_type]; kernel_rfl
theorem ke_notTuple : isSubtype (.type ((Manifest.find? "KeyError").elim "type" fun y=>y.metatype)) (.type "tuple") = pure false:=by rw [isSubtype_type]; kernel_rfl
theorem evS_tryC {c : Cx} {i j : Nat} {o : PE} {m : Nat} {e : PE} {z : Nat} {L : Loc} {σ : St} : evS c (.tryC i j o m e) z L σ = (evE c o L σ).bind fun (ov,σ1)=>(methX c ov m σ1 (evE c e L)).bind fun (v,σ2)=>match v with
 | .none=>some (.next,putK i .none L,σ2)
 | .str s=>some (.next,putK j (.int s.length) (putK i (.str s) L),σ2)
 | _=>none:=rfl
theorem ok_methX (G : GOk W cx d) (hfx : ∀ f args σ r,cx.call (f + BIG) args σ = some r → fnIn W.K f = true) {mi : Nat} {o e : PE} {ox ex : PySem.Expr} {nm : Str} {apos cpos : Pos}
 (hn : W.tb[mi]? = some nm) (ho : OkE W cx cs none d o ox) (he' : OkE W cx cs none d e ex) (hxs : ∀ env,starEach [ex] env = (false,eval ex env) :: starEach [] env)
 (he : ∀ env,∃ pl,eval (.Call (.Attribute ox nm apos) [ex] [] cpos) env = (do
  let ov ← eval ox env
  standAt apos.atName
  let (f,first) ← holding [ov] (getMethod ov nm pl)
  callWith cpos f first (backTo cpos (starEach [ex] env)) []))
 {c : Fc} (hc : c.cs = cs) (ok : FOk W c d) {m : Str → Option Value} {X : List (Addr × Obj)} {L : Loc} {σ σ1 σ2 : St} {ps : PZ} {h : Heap} {tk : Nat} {v0 v : V} {Q E : Value → Shared → Prop} {g : Array GenState} {dr : Drawn} {os : OsState}
 (S : SR W c m X σ ps h) (lr : LR W.tb (hds ps) L m) (ht : 1 ≤ tk) (e1 : evE cx o L σ = some (v0,σ1)) (e3 : methX cx v0 mi σ1 (evE cx e L) = some (v,σ2))
 (Hq : v ≠ .none → Hand W c m X (hds ps) σ2 v g dr os Q) (He : v = .none → ∀ ea ps' h' t',(hds ps).Le (hds ps') → RsX W c m X σ2 ps' ea h' → 1 ≤ t' → E (.ref ea) ⟨h',g,dr,t',os⟩) :
 wpAny (model W.prog W.w) c.A (eval (.Call (.Attribute ox nm apos) [ex] [] cpos) c.env) Q E ⟨h,g,dr,tk,os⟩:=by
 obtain ⟨pl,hev⟩:=he c.env
 have V : Vw W none c c.env m X (hds ps) L:=⟨rfl,lr⟩
 refine MethodCall_ (pl:=pl) (ho.1 c hc ok S V ht e1 fun ps1 h1 t1 y1 p1 S1 r1 ht1=>?_) hev
 have V1:=V.mono p1
 have Hq1:=fun hne=>(Hq hne).up p1
 have He1:=fun hv ea ps' h' t' p=>He hv ea ps' h' t' (p1.trans p)
 clear Hq He S V hev
 cases r1 with
 | sref a =>
  refine bdE e3 fun ob hob e=>oInstE e fun cl fs q e5=>?_
  subst q
  obtain ⟨es',D1,n1,g1,g2,i1,_⟩:=G.so.ro (hs:=hds ps1) (S1.K ok) hob
  have gl:=getL_of G.co.nd hn i1
  clear i1 hob
  cases hq : getK mi fs with
  | some _=>rw [hq] at e5; exact noE e5
  | none =>
   rw [hq] at e5 gl
   refine bdE e5 fun gg e6 e=>bd2 e fun vv σ3 e7 e8=>?_
   obtain ⟨x',hx',hf,hty,_,_,_,hB⟩:=G.co.meth _ _ _ e6
   obtain rfl:=Option.some.inj (hx'.symm.trans hn)
   obtain ⟨⟨g3,g4⟩,_⟩:=G.co.plain cl mi (.inr (.inl (congrArg Option.isSome e6)))
   refine method_fn (S1.K ok) (⟨g1,rfl,rfl,g2⟩ : InstAt h1 a (instObj cl D1) cl (some (dictOf es' n1))) g3 g4 hf hty (by show (lookIn x' (dictOf es' n1)).map _ = _; rw [lookIn_dict,gl]; rfl) ?_
   refine callEs (okEs_cons he' okEs_nil hxs) hc ok (by rw [hxs]; rfl) S1 V1 ht1 (vs:=[vv]) (by rw [evEs_cons,e7]; rfl) (fun ps' h' J S'=>keeps_K (keep_fn (hfx _ _ _ _ e8)) h' (S'.K ok)) fun ps2 h2' t2 ys p2 S2 r2 ht2=>wpAny_call ?_
   exact G.callX gg [.sref a,vv] σ3 v σ2 e8 c ok.toC S2 (.cons (.sref a) r2) ht2 (fun hne=>(Hq1 hne).up p2) fun hv ea ps3 h3 t3 p3 RX ht3=>He1 hv ea ps3 h3 t3 (p2.trans p3) RX ht3
 | _=>exact noE e3
theorem okS_tryC (G : GOk W cx d) (hfx : ∀ f args σ r,cx.call (f + BIG) args σ = some r → fnIn W.K f = true) {i j mi kk : Nat} {o e : PE} {ox ex : PySem.Expr} {nm xi : Str} {apos cpos p1 p3 hpos tpos np np1 np3 kp : Pos} {st2 : Stmt}
 (hnc : ∀ p ∈ cs.names,p.2 ≠ .cell) (hn : W.tb[mi]? = some nm) (hi : W.tb[i]? = some xi) (hk : cs.names.lookup xi = some .local) (B : BtOk W cs none "KeyError" (.type "KeyError")) (ho : OkE W cx cs none d o ox) (he' : OkE W cx cs none d e ex)
 (hxs : ∀ env,starEach [ex] env = (false,eval ex env) :: starEach [] env)
 (he : ∀ env,∃ pl,eval (.Call (.Attribute ox nm apos) [ex] [] cpos) env = (do
  let ov ← eval ox env
  standAt apos.atName
  let (f,first) ← holding [ov] (getMethod ov nm pl)
  callWith cpos f first (backTo cpos (starEach [ex] env)) []))
 (hs1 : ∀ env,swapsWithSole [.Name xi np1] (.Call (.Attribute ox nm apos) [ex] [] cpos) p1.line env = pure false) (hw1 : ∀ env,swappedStores [.Name xi np1] (.Call (.Attribute ox nm apos) [ex] [] cpos) env = pure none) (ha1 : ∀ env,assignEach [.Name xi np1] env = [(false,assign (.Name xi np1) env)])
 (h2 : OkS W cx cs d (.assign (.l j) (.un .len (.loc i))) st2)
 (hs3 : ∀ env,swapsWithSole [.Name xi np3] (.Constant .none kk kp) p3.line env = pure false) (hw3 : ∀ env,swappedStores [.Name xi np3] (.Constant .none kk kp) env = pure none) (ha3 : ∀ env,assignEach [.Name xi np3] env = [(false,assign (.Name xi np3) env)]) :
 OkS W cx cs d (.tryC i j o mi e) (.Try [.Assign [.Name xi np1] (.Call (.Attribute ox nm apos) [ex] [] cpos) p1,st2] [.ExceptHandler (some (.Name "KeyError" np)) none [.Assign [.Name xi np3] (.Constant .none kk kp) p3] hpos] [] [] tpos):=by
 refine ⟨?_⟩
 intro c hc ok m X L σ ps h tk fl L' σ' Q E g dr os z hz S lr ht hl pz ee H
 refine bd2 (evS_tryC.symm.trans ee) fun v0 σ1 e1 e2=>bd2 e2 fun v σ2 e3 e4=>?_
 refine wpAny_Try_except ?_
 refine wpAny_execs_cons (wpAny_Assign_stores (ok_methX G hfx hn ho he' hxs he hc ok S lr ht e1 e3 (fun hne ps3 h3 t3 y3 p3 S3 r3 ht3=>?_) (fun hv ea ps3 h3 t3 p3 RX ht3=>?_)) (hs1 _) (hw1 _))
 ·cases v with
  | str s =>
   have H:=H.eq e4
   have lr3:=lr.mono p3
   show wpAny _ _ _ _ _ _
   rw [ha1]
   refine (okTg_l G (p:=np1) hi (.inl hk)).1 c hc ok S3 lr3 r3 ht3 rfl fun m4 ps4 h4 t4 p4 S4 lr4 ht4=>?_
   have q2 : evS cx (.assign (.l j) (.un .len (.loc i))) z (putK i (.str s) L) σ2 = some (.next,putK j (.int s.length) (putK i (.str s) L),σ2):=by
    show ((evE cx (.un .len (.loc i)) _ _).bind _) = _
    rw [evE_len,evE_loc,(getK_putK i i _ L).trans (if_pos rfl)]; rfl
   refine wpAny_execs_cons (h2.1 c hc ok S4 lr4 ht4 hl (pz.trans (p3.trans p4)) q2 fun m5 ps5 h5 t5 ff p5 S5 lr5 fr5 ht5=>?_)
   cases fr5 with
   | next=>exact wpAny_execs_nil (wpAny_execs_nil (H m5 ps5 h5 t5 _ p5 S5 lr5 .next ht5))
  | none=>exact absurd rfl hne
  | _=>exact noE e4
 ·subst hv
  have H:=H.eq e4
  obtain ⟨⟨t,vs,GG,⟨g0,G0,m0,hm0,F0⟩,R0,U0⟩,nd0,rel0,fz0⟩:=RX
  have hA:=ok.dp
  have ev : c.env = envOf c.cn c.cs c.L c.a c.ccd:=envOf_noc (ok.ck.none (hc ▸ hnc))
  rw [ev] at R0
  rw [hA,ev]
  refine wpAny_mono (caught_S0 (E:=fun J J=>False) R0 F0 G0.B U0 ok.X ok.T G0.D G0.T B.hg B.hv B.hn ke_isExc ke_notTuple ke_sub0 (fun h' g' news₂ T' F' N2 J N' B' J J D'=>?_) (hc ▸ B.hs) ?_ B.hd PassesOwnAt.never) (fun J s₂ h=>wpAny_mono h (fun J s₃ h=>wpAny_mono h (fun J J x=>x) (fun J J z=>z.elim)) (fun J J z=>z.elim)) (fun J J z=>z.elim)
  ·have S5 : SR W c m X σ2 ps3 h':=⟨⟨g',⟨T',B',D'⟩,m0,hm0,F'⟩,(Gd.back ⟨T',B',D'⟩ N'),nd0,rel0,fz0⟩
   rw [← ev,← hA]
   refine wpAny_execs_cons (wpAny_Assign_stores (wpAny_Constant_none ?_) (hs3 _) (hw3 _))
   rw [ha3]
   show wpAny _ _ (assign (.Name xi np3) c.env .none) _ _ _
   rw [arm_assign_Name]
   exact wpAny_bind (wpAny_standAt (wpAny_bindName (store_fn G.co.nd ok.ck S5 (lr.mono p3) hi .none (hc ▸ hk) ok.kind fun m' h'' S' lr'=>wpAny_execs_nil (H m' ps3 h'' _ _ (pz.trans p3) S' lr' .next (tk1 1 ht3)))))
  ·show c.cs.names.lookup _ = _
   rw [hc]; exact B.hk
end
end
section
structure BE (K : Frag) (fd : FuncData) (vs : List Value) (binds : List (Str × Value)) : Prop where
 h : ∀ s : Shared,K.In s.heap → BindsTo s fd ⟨vs,[]⟩ binds
theorem BE.of_eq {K : Frag} {fd : FuncData} {vs : List Value} {binds : List (Str × Value)} (h : bindArgs fd ⟨vs,[]⟩ = pure binds) : BE K fd vs binds:=⟨fun s X=>BindsTo.of_eq h⟩
noncomputable def bindRest (fd : FuncData) (vs : List Value) : { k : Option (Array Value) → Sem (List (Str × Value)) // bindArgs fd ⟨vs,[]⟩ = seqItems? fd.defaults >>= k }:=⟨_,rfl⟩
theorem BE.df {K : Frag} {fd : FuncData} {T : Addr} {vs : List Value} {binds : List (Str × Value)} {its : List Value} {n : Nat} (hd : fd.defaults = .ref T) (ho : K.lookup T = some { cls:=.type "tuple",data:=.seq its.toArray n })
 (h : (bindRest fd vs).1 (some its.toArray) = pure binds) : BE K fd vs binds :=
 ⟨fun s X=>BindsTo.of_defaults hd (X _ _ ho) rfl (bindRest fd vs).2 h⟩
section
variable {W : Wd} {fn : Fn} {fd : FuncData} {scope : Scope}
theorem bind_0 (hp : fn.params = []) (hb : BE W.K fd [] []) : BindOk W fn fd scope:=by
 intro args L e hs xs ra
 rw [hp] at e
 cases ra with
 | nil =>
  obtain rfl:=Option.some.inj e
  exact ⟨[],⟨hb.h,⟨(fun y hy=>nomatch hy),(fun i v h=>by cases h)⟩⟩⟩
 | cons _ _=>exact noE e
theorem one_lr {tb : List Str} {hs : HS} {i : Nat} {x : Str} {a : V} {va : Value} (hi : tb[i]? = some x) (h1 : VR hs a va) : LR tb hs [(i,a)] (fun z=>[(x,va)].reverse.lookup z):=by
 intro j v h
 by_cases q : i = j
 ·subst q; obtain rfl:=Option.some.inj ((gK1 i a []).symm.trans h); exact ⟨x,_,hi,by simp,h1⟩
 ·exact noE ((gK2 a [] q).symm.trans h)
theorem LR.cons {tb : List Str} {hs : HS} {i : Nat} {x : Str} {a : V} {va : Value} {L : Loc} {binds : List (Str × Value)} (hi : tb[i]? = some x) (hne : x ∉ binds.map (·.1)) (h1 : VR hs a va) (l : LR tb hs L (fun z=>binds.reverse.lookup z)) : LR tb hs ((i,a) :: L) (fun z=>((x,va) :: binds).reverse.lookup z):=by
 intro j v h
 simp only [getK,BT.beq_eq] at h
 by_cases q : i = j
 ·subst q
  simp at h; subst h
  refine ⟨x,va,hi,?_,h1⟩
  have : binds.reverse.lookup x = none:=List.lookup_eq_none_iff.mpr fun p hp=>by
   rw [bne_iff_ne]
   exact fun e=>hne (e ▸ List.mem_map_of_mem (List.mem_reverse.mp hp))
  rw [List.reverse_cons]
  show List.lookup x (binds.reverse ++ [(x,va)]) = _
  rw [List.lookup_append,this]
  simp [List.lookup]
 ·simp only [q,decide_false,cond_false] at h
  obtain ⟨y,w,h2,h3,h4⟩:=l j v h
  refine ⟨y,w,h2,?_,h4⟩
  rw [List.reverse_cons]
  show List.lookup y (binds.reverse ++ [(x,va)]) = _
  rw [List.lookup_append]
  show (List.lookup y binds.reverse).or _ = _
  rw [show List.lookup y binds.reverse = some w from h3]; rfl
theorem zip_lr {tb : List Str} {hs : HS} {is : List Nat} {xs : List Str} (h : All2 (fun i x=>tb[i]? = some x) is xs) : ∀ {vs : List V} {ys : List Value} {L : Loc},xs.Nodup → All2 (VR hs) vs ys → bindP is vs [] = some L → LR tb hs L (fun z=>(xs.zip ys).reverse.lookup z) ∧ xs.length = ys.length:=by
 induction h with
 | nil =>
  intro vs ys L _ r e
  cases r with
  | nil=>obtain rfl:=Option.some.inj e; exact ⟨(fun i v h=>noE h),rfl⟩
  | cons _ _=>exact noE e
 | @cons i x is xs h1 _ ih =>
  intro vs ys L nd r e
  cases r with
  | nil=>exact noE e
  | @cons v y vs ys h2 r2 =>
   refine mpE (P:=fun L=>LR tb hs L (fun z=>((x :: xs).zip (y :: ys)).reverse.lookup z) ∧ (x :: xs).length = (y :: ys).length) (show (bindP is vs ([].drop ([].length - is.length))).map ((i,v) :: ·) = some L from e) fun L0 e0=>?_
   obtain ⟨a,b⟩:=ih (List.nodup_cons.mp nd).2 r2 (show bindP is vs [] = some L0 by rw [← e0,List.drop_nil])
   refine ⟨LR.cons h1 (fun hm=>(List.nodup_cons.mp nd).1 ?_) h2 a,congrArg (· + 1) b⟩
   obtain ⟨p,hp,rfl⟩:=List.mem_map.mp hm
   exact (List.of_mem_zip hp).1
noncomputable def pkB (scope : Scope) (x : Str) : Bool:=decide (scope.names.lookup x = some .local) || decide (scope.names.lookup x = some .cell)
theorem pkB_ok {scope : Scope} {x : Str} (h : pkB scope x = true) : PK scope x:=(Bool.or_eq_true_iff.mp h).imp of_decide_eq_true of_decide_eq_true
noncomputable def Cur : Nat → (List Value → Prop) → Prop
 | 0,P=>P []
 | n + 1,P=>∀ v,Cur n fun vs=>P (v :: vs)
theorem cur {n : Nat} : ∀ {P : List Value → Prop},Cur n P → ∀ {vs : List Value},n = vs.length → P vs:=by
 induction n with
 | zero=>intro P h vs e; cases vs with | nil=>exact h | cons _ _=>cases e
 | succ n ih=>intro P h vs e; cases vs with | nil=>cases e | cons v vs=>exact ih (h v) (Nat.succ.inj e)
theorem bindP_c {i : Nat} {is : List Nat} {v : V} {args : List V} : bindP (i :: is) (v :: args) [] = (bindP is args []).map ((i,v) :: ·):=by
 show (bindP is args ([].drop _)).map _ = _
 rw [List.drop_nil]
theorem bindP_d {i j : Nat} {is : List Nat} {v d : V} {args : List V} : bindP (i :: j :: is) (v :: args) [d] = (bindP (j :: is) args [d]).map ((i,v) :: ·):=by
 show (bindP (j :: is) args (List.drop _ [d])).map _ = _
 rw [show [d].length - (j :: is).length = 0 from Nat.sub_eq_zero_of_le (Nat.succ_le_succ (Nat.zero_le _))]; rfl
theorem bindP_1 {d : V} : ∀ {is : List Nat} {args : List V} {L : Loc},bindP is args [d] = some L → bindP is args [] = some L ∨ bindP is (args ++ [d]) [] = some L
 | [],[],_,e=>.inl e
 | [],_ :: _,_,e=>noE e
 | [i],v :: args,_,e=>.inl e
 | i :: j :: is,v :: args,_,e=>by
  rw [bindP_d] at e
  refine mpE (P:=fun L=>bindP (i :: j :: is) (v :: args) [] = some L ∨ bindP (i :: j :: is) ((v :: args) ++ [d]) [] = some L) e fun L0 e0=>?_
  exact (bindP_1 e0).imp (fun h=>by rw [bindP_c,h]; rfl) fun h=>by rw [List.cons_append,bindP_c,h]; rfl
 | [i],[],_,e=>.inr e
 | i :: j :: is,[],_,e=>noE ((if_neg (by simp)).symm.trans e)
theorem bind_nd {is : List Nat} {xs : List Str} {d : V} {dv : Value} (hp : fn.params = is) (hd : fn.dflt = [d]) (hdv : VR .nil d dv) (hi : All2 (fun i x=>W.tb[i]? = some x) is xs) (nd : xs.Nodup) (hl : (xs.all fun x=>pkB scope x) = true)
 (hb : Cur xs.length fun vs=>BE W.K fd vs (xs.zip vs)) (hb1 : Cur (xs.length - 1) fun vs=>BE W.K fd vs (xs.zip (vs ++ [dv]))) : BindOk W fn fd scope:=by
 intro args L e hs ys ra
 rw [hp,hd] at e
 have loc : ∀ zs : List Value,∀ y ∈ xs.zip zs,PK scope y.1:=fun zs y hy=>pkB_ok (List.all_eq_true.mp hl _ (List.of_mem_zip hy).1)
 rcases bindP_1 e with e | e
 ·obtain ⟨a,b⟩:=zip_lr hi nd ra e
  exact ⟨_,(cur hb b).h,fun y hy=>loc _ y hy,a⟩
 ·obtain ⟨a,b⟩:=zip_lr hi nd (ra.snoc (hdv.mono .nil)) e
  exact ⟨_,(cur hb1 (by rw [b,List.length_append]; rfl)).h,fun y hy=>loc _ y hy,a⟩
theorem bind_n {is : List Nat} {xs : List Str} (hp : fn.params = is) (hd : fn.dflt = []) (hi : All2 (fun i x=>W.tb[i]? = some x) is xs) (nd : xs.Nodup) (hl : (xs.all fun x=>pkB scope x) = true) (hb : Cur xs.length fun vs=>BE W.K fd vs (xs.zip vs)) : BindOk W fn fd scope:=by
 intro args L e hs ys ra
 rw [hp,hd] at e
 obtain ⟨a,b⟩:=zip_lr hi nd ra e
 exact ⟨_,(cur hb b).h,fun y hy=>pkB_ok (List.all_eq_true.mp hl _ (List.of_mem_zip hy).1),a⟩
end
theorem lookup_app {K xs : Frag} {a : Addr} {o : Obj} (h : List.lookup a K = some o) : List.lookup a (K ++ xs) = some o:=by
 induction K with
 | nil=>simp at h
 | cons p r ih =>
  obtain ⟨b,ob⟩:=p
  rw [List.cons_append,List.lookup_cons] at *
  split
  ·rename_i q; rw [q] at h; exact h
  ·rename_i q; rw [q] at h; exact ih h
theorem lookup_last {K : Frag} {a : Addr} {o : Obj} (h : List.lookup a K = none) : List.lookup a (K ++ [(a,o)]) = some o:=by
 induction K with
 | nil=>simp [List.lookup]
 | cons p r ih =>
  obtain ⟨b,ob⟩:=p
  rw [List.cons_append,List.lookup_cons] at *
  split
  ·rename_i q; rw [q] at h; simp at h
  ·rename_i q; rw [q] at h; exact ih h
end
theorem noB {p : Prop} (h : false = true) : p:=nomatch h
theorem an {a b : Bool} {p : Prop} (h : (a && b) = true) (k : a = true → b = true → p) : p:=by
 cases a with
 | true=>exact k rfl h
 | false=>exact noB h
noncomputable def onX (K0 : Str → Bool) (K1 : Const → Bool) (K2 : PySem.Expr → Str → Pos → Bool) (K3 : PySem.Expr → PySem.Expr → Bool) (K4 : Option PySem.Expr → Option PySem.Expr → Option PySem.Expr → Bool) (K5 : PySem.Expr → Operator → PySem.Expr → Bool) (K6 : UnaryOp → PySem.Expr → Bool) (K7 : BoolOp → List PySem.Expr → Bool) (K8 : PySem.Expr → List CmpOp → List PySem.Expr → Bool) (K9 : PySem.Expr → PySem.Expr → PySem.Expr → Bool) (K10 : List PySem.Expr → Bool) (K11 : List PySem.Expr → Bool) (K12 : List (Option PySem.Expr) → List PySem.Expr → Bool) (K13 : PySem.Expr → List Comprehension → Scope → Bool) (K14 : PySem.Expr → List PySem.Expr → List Keyword → Pos → Bool) (x : PySem.Expr) : Bool:=match x with
 | .Name n _=>K0 n
 | .Constant c _ _=>K1 c
 | .Attribute y n p=>K2 y n p
 | .Subscript y z _=>K3 y z
 | .Slice a b c _=>K4 a b c
 | .BinOp y op z _=>K5 y op z
 | .UnaryOp op y _=>K6 op y
 | .BoolOp op l _=>K7 op l
 | .Compare y ops l _=>K8 y ops l
 | .IfExp t b f _=>K9 t b f
 | .List l _=>K10 l
 | .Tuple l _ _=>K11 l
 | .Dict l m _=>K12 l m
 | .ListComp y g sc _=>K13 y g sc
 | .Call f l kw p=>K14 f l kw p
 | _=>false
theorem onXE {P : PySem.Expr → Prop} {x : PySem.Expr} {K0 : Str → Bool} {K1 : Const → Bool} {K2 : PySem.Expr → Str → Pos → Bool} {K3 : PySem.Expr → PySem.Expr → Bool} {K4 : Option PySem.Expr → Option PySem.Expr → Option PySem.Expr → Bool} {K5 : PySem.Expr → Operator → PySem.Expr → Bool} {K6 : UnaryOp → PySem.Expr → Bool} {K7 : BoolOp → List PySem.Expr → Bool} {K8 : PySem.Expr → List CmpOp → List PySem.Expr → Bool} {K9 : PySem.Expr → PySem.Expr → PySem.Expr → Bool} {K10 : List PySem.Expr → Bool} {K11 : List PySem.Expr → Bool} {K12 : List (Option PySem.Expr) → List PySem.Expr → Bool} {K13 : PySem.Expr → List Comprehension → Scope → Bool} {K14 : PySem.Expr → List PySem.Expr → List Keyword → Pos → Bool} (h : onX K0 K1 K2 K3 K4 K5 K6 K7 K8 K9 K10 K11 K12 K13 K14 x = true) (h0 : ∀ n p,K0 n = true → P (.Name n p)) (h1 : ∀ c j p,K1 c = true → P (.Constant c j p)) (h2 : ∀ y n p,K2 y n p = true → P (.Attribute y n p)) (h3 : ∀ y z p,K3 y z = true → P (.Subscript y z p)) (h4 : ∀ a b c p,K4 a b c = true → P (.Slice a b c p)) (h5 : ∀ y op z p,K5 y op z = true → P (.BinOp y op z p)) (h6 : ∀ op y p,K6 op y = true → P (.UnaryOp op y p)) (h7 : ∀ op l p,K7 op l = true → P (.BoolOp op l p)) (h8 : ∀ y ops l p,K8 y ops l = true → P (.Compare y ops l p)) (h9 : ∀ t b f p,K9 t b f = true → P (.IfExp t b f p)) (h10 : ∀ l p,K10 l = true → P (.List l p)) (h11 : ∀ l j p,K11 l = true → P (.Tuple l j p)) (h12 : ∀ l m p,K12 l m = true → P (.Dict l m p)) (h13 : ∀ y g sc p,K13 y g sc = true → P (.ListComp y g sc p)) (h14 : ∀ f l kw p,K14 f l kw p = true → P (.Call f l kw p)) : P x:=by
 cases x with
 | Name n p=>exact h0 _ _ h
 | Constant c j p=>exact h1 _ _ _ h
 | Attribute y n p=>exact h2 _ _ _ h
 | Subscript y z p=>exact h3 _ _ _ h
 | Slice a b c p=>exact h4 _ _ _ _ h
 | BinOp y op z p=>exact h5 _ _ _ _ h
 | UnaryOp op y p=>exact h6 _ _ _ h
 | BoolOp op l p=>exact h7 _ _ _ h
 | Compare y ops l p=>exact h8 _ _ _ _ h
 | IfExp t b f p=>exact h9 _ _ _ _ h
 | List l p=>exact h10 _ _ h
 | Tuple l j p=>exact h11 _ _ _ h
 | Dict l m p=>exact h12 _ _ _ h
 | ListComp y g sc p=>exact h13 _ _ _ _ h
 | Call f l kw p=>exact h14 _ _ _ _ h
 | _=>exact noB h
noncomputable def xName (x : PySem.Expr) (k : Str → Bool) : Bool:=onX k (fun J=>false) (fun J J J=>false) (fun J J=>false) (fun J J J=>false) (fun J J J=>false) (fun J J=>false) (fun J J=>false) (fun J J J=>false) (fun J J J=>false) (fun J=>false) (fun J=>false) (fun J J=>false) (fun J J J=>false) (fun J J J J=>false) x
@[elab_as_elim] theorem xNameE {P : PySem.Expr → Prop} {x : PySem.Expr} {k : Str → Bool} (h : xName x k = true) (H : ∀ n p,k n = true → P (.Name n p)) : P x :=
 onXE h H (fun J J J=>noB) (fun J J J=>noB) (fun J J J=>noB) (fun J J J J=>noB) (fun J J J J=>noB) (fun J J J=>noB) (fun J J J=>noB) (fun J J J J=>noB) (fun J J J J=>noB) (fun J J=>noB) (fun J J J=>noB) (fun J J J=>noB) (fun J J J J=>noB) (fun J J J J=>noB)
noncomputable def xConstant (x : PySem.Expr) (k : Const → Bool) : Bool:=onX (fun J=>false) k (fun J J J=>false) (fun J J=>false) (fun J J J=>false) (fun J J J=>false) (fun J J=>false) (fun J J=>false) (fun J J J=>false) (fun J J J=>false) (fun J=>false) (fun J=>false) (fun J J=>false) (fun J J J=>false) (fun J J J J=>false) x
@[elab_as_elim] theorem xConstantE {P : PySem.Expr → Prop} {x : PySem.Expr} {k : Const → Bool} (h : xConstant x k = true) (H : ∀ c j p,k c = true → P (.Constant c j p)) : P x :=
 onXE h (fun J J=>noB) H (fun J J J=>noB) (fun J J J=>noB) (fun J J J J=>noB) (fun J J J J=>noB) (fun J J J=>noB) (fun J J J=>noB) (fun J J J J=>noB) (fun J J J J=>noB) (fun J J=>noB) (fun J J J=>noB) (fun J J J=>noB) (fun J J J J=>noB) (fun J J J J=>noB)
noncomputable def xAttribute (x : PySem.Expr) (k : PySem.Expr → Str → Pos → Bool) : Bool:=onX (fun J=>false) (fun J=>false) k (fun J J=>false) (fun J J J=>false) (fun J J J=>false) (fun J J=>false) (fun J J=>false) (fun J J J=>false) (fun J J J=>false) (fun J=>false) (fun J=>false) (fun J J=>false) (fun J J J=>false) (fun J J J J=>false) x
@[elab_as_elim] theorem xAttributeE {P : PySem.Expr → Prop} {x : PySem.Expr} {k : PySem.Expr → Str → Pos → Bool} (h : xAttribute x k = true) (H : ∀ y n p,k y n p = true → P (.Attribute y n p)) : P x :=
 onXE h (fun J J=>noB) (fun J J J=>noB) H (fun J J J=>noB) (fun J J J J=>noB) (fun J J J J=>noB) (fun J J J=>noB) (fun J J J=>noB) (fun J J J J=>noB) (fun J J J J=>noB) (fun J J=>noB) (fun J J J=>noB) (fun J J J=>noB) (fun J J J J=>noB) (fun J J J J=>noB)
noncomputable def xSubscript (x : PySem.Expr) (k : PySem.Expr → PySem.Expr → Bool) : Bool:=onX (fun J=>false) (fun J=>false) (fun J J J=>false) k (fun J J J=>false) (fun J J J=>false) (fun J J=>false) (fun J J=>false) (fun J J J=>false) (fun J J J=>false) (fun J=>false) (fun J=>false) (fun J J=>false) (fun J J J=>false) (fun J J J J=>false) x
@[elab_as_elim] theorem xSubscriptE {P : PySem.Expr → Prop} {x : PySem.Expr} {k : PySem.Expr → PySem.Expr → Bool} (h : xSubscript x k = true) (H : ∀ y z p,k y z = true → P (.Subscript y z p)) : P x :=
 onXE h (fun J J=>noB) (fun J J J=>noB) (fun J J J=>noB) H (fun J J J J=>noB) (fun J J J J=>noB) (fun J J J=>noB) (fun J J J=>noB) (fun J J J J=>noB) (fun J J J J=>noB) (fun J J=>noB) (fun J J J=>noB) (fun J J J=>noB) (fun J J J J=>noB) (fun J J J J=>noB)
noncomputable def xSlice (x : PySem.Expr) (k : Option PySem.Expr → Option PySem.Expr → Option PySem.Expr → Bool) : Bool:=onX (fun J=>false) (fun J=>false) (fun J J J=>false) (fun J J=>false) k (fun J J J=>false) (fun J J=>false) (fun J J=>false) (fun J J J=>false) (fun J J J=>false) (fun J=>false) (fun J=>false) (fun J J=>false) (fun J J J=>false) (fun J J J J=>false) x
@[elab_as_elim] theorem xSliceE {P : PySem.Expr → Prop} {x : PySem.Expr} {k : Option PySem.Expr → Option PySem.Expr → Option PySem.Expr → Bool} (h : xSlice x k = true) (H : ∀ a b c p,k a b c = true → P (.Slice a b c p)) : P x :=
 onXE h (fun J J=>noB) (fun J J J=>noB) (fun J J J=>noB) (fun J J J=>noB) H (fun J J J J=>noB) (fun J J J=>noB) (fun J J J=>noB) (fun J J J J=>noB) (fun J J J J=>noB) (fun J J=>noB) (fun J J J=>noB) (fun J J J=>noB) (fun J J J J=>noB) (fun J J J J=>noB)
noncomputable def xBinOp (x : PySem.Expr) (k : PySem.Expr → Operator → PySem.Expr → Bool) : Bool:=onX (fun J=>false) (fun J=>false) (fun J J J=>false) (fun J J=>false) (fun J J J=>false) k (fun J J=>false) (fun J J=>false) (fun J J J=>false) (fun J J J=>false) (fun J=>false) (fun J=>false) (fun J J=>false) (fun J J J=>false) (fun J J J J=>false) x
@[elab_as_elim] theorem xBinOpE {P : PySem.Expr → Prop} {x : PySem.Expr} {k : PySem.Expr → Operator → PySem.Expr → Bool} (h : xBinOp x k = true) (H : ∀ y op z p,k y op z = true → P (.BinOp y op z p)) : P x :=
 onXE h (fun J J=>noB) (fun J J J=>noB) (fun J J J=>noB) (fun J J J=>noB) (fun J J J J=>noB) H (fun J J J=>noB) (fun J J J=>noB) (fun J J J J=>noB) (fun J J J J=>noB) (fun J J=>noB) (fun J J J=>noB) (fun J J J=>noB) (fun J J J J=>noB) (fun J J J J=>noB)
noncomputable def xUnaryOp (x : PySem.Expr) (k : UnaryOp → PySem.Expr → Bool) : Bool:=onX (fun J=>false) (fun J=>false) (fun J J J=>false) (fun J J=>false) (fun J J J=>false) (fun J J J=>false) k (fun J J=>false) (fun J J J=>false) (fun J J J=>false) (fun J=>false) (fun J=>false) (fun J J=>false) (fun J J J=>false) (fun J J J J=>false) x
@[elab_as_elim] theorem xUnaryOpE {P : PySem.Expr → Prop} {x : PySem.Expr} {k : UnaryOp → PySem.Expr → Bool} (h : xUnaryOp x k = true) (H : ∀ op y p,k op y = true → P (.UnaryOp op y p)) : P x :=
 onXE h (fun J J=>noB) (fun J J J=>noB) (fun J J J=>noB) (fun J J J=>noB) (fun J J J J=>noB) (fun J J J J=>noB) H (fun J J J=>noB) (fun J J J J=>noB) (fun J J J J=>noB) (fun J J=>noB) (fun J J J=>noB) (fun J J J=>noB) (fun J J J J=>noB) (fun J J J J=>noB)
noncomputable def xBoolOp (x : PySem.Expr) (k : BoolOp → List PySem.Expr → Bool) : Bool:=onX (fun J=>false) (fun J=>false) (fun J J J=>false) (fun J J=>false) (fun J J J=>false) (fun J J J=>false) (fun J J=>false) k (fun J J J=>false) (fun J J J=>false) (fun J=>false) (fun J=>false) (fun J J=>false) (fun J J J=>false) (fun J J J J=>false) x
@[elab_as_elim] theorem xBoolOpE {P : PySem.Expr → Prop} {x : PySem.Expr} {k : BoolOp → List PySem.Expr → Bool} (h : xBoolOp x k = true) (H : ∀ op l p,k op l = true → P (.BoolOp op l p)) : P x :=
 onXE h (fun J J=>noB) (fun J J J=>noB) (fun J J J=>noB) (fun J J J=>noB) (fun J J J J=>noB) (fun J J J J=>noB) (fun J J J=>noB) H (fun J J J J=>noB) (fun J J J J=>noB) (fun J J=>noB) (fun J J J=>noB) (fun J J J=>noB) (fun J J J J=>noB) (fun J J J J=>noB)
noncomputable def xCompare (x : PySem.Expr) (k : PySem.Expr → List CmpOp → List PySem.Expr → Bool) : Bool:=onX (fun J=>false) (fun J=>false) (fun J J J=>false) (fun J J=>false) (fun J J J=>false) (fun J J J=>false) (fun J J=>false) (fun J J=>false) k (fun J J J=>false) (fun J=>false) (fun J=>false) (fun J J=>false) (fun J J J=>false) (fun J J J J=>false) x
@[elab_as_elim] theorem xCompareE {P : PySem.Expr → Prop} {x : PySem.Expr} {k : PySem.Expr → List CmpOp → List PySem.Expr → Bool} (h : xCompare x k = true) (H : ∀ y ops l p,k y ops l = true → P (.Compare y ops l p)) : P x :=
 onXE h (fun J J=>noB) (fun J J J=>noB) (fun J J J=>noB) (fun J J J=>noB) (fun J J J J=>noB) (fun J J J J=>noB) (fun J J J=>noB) (fun J J J=>noB) H (fun J J J J=>noB) (fun J J=>noB) (fun J J J=>noB) (fun J J J=>noB) (fun J J J J=>noB) (fun J J J J=>noB)
noncomputable def xIfExp (x : PySem.Expr) (k : PySem.Expr → PySem.Expr → PySem.Expr → Bool) : Bool:=onX (fun J=>false) (fun J=>false) (fun J J J=>false) (fun J J=>false) (fun J J J=>false) (fun J J J=>false) (fun J J=>false) (fun J J=>false) (fun J J J=>false) k (fun J=>false) (fun J=>false) (fun J J=>false) (fun J J J=>false) (fun J J J J=>false) x
@[elab_as_elim] theorem xIfExpE {P : PySem.Expr → Prop} {x : PySem.Expr} {k : PySem.Expr → PySem.Expr → PySem.Expr → Bool} (h : xIfExp x k = true) (H : ∀ t b f p,k t b f = true → P (.IfExp t b f p)) : P x :=
 onXE h (fun J J=>noB) (fun J J J=>noB) (fun J J J=>noB) (fun J J J=>noB) (fun J J J J=>noB) (fun J J J J=>noB) (fun J J J=>noB) (fun J J J=>noB) (fun J J J J=>noB) H (fun J J=>noB) (fun J J J=>noB) (fun J J J=>noB) (fun J J J J=>noB) (fun J J J J=>noB)
noncomputable def xList (x : PySem.Expr) (k : List PySem.Expr → Bool) : Bool:=onX (fun J=>false) (fun J=>false) (fun J J J=>false) (fun J J=>false) (fun J J J=>false) (fun J J J=>false) (fun J J=>false) (fun J J=>false) (fun J J J=>false) (fun J J J=>false) k (fun J=>false) (fun J J=>false) (fun J J J=>false) (fun J J J J=>false) x
@[elab_as_elim] theorem xListE {P : PySem.Expr → Prop} {x : PySem.Expr} {k : List PySem.Expr → Bool} (h : xList x k = true) (H : ∀ l p,k l = true → P (.List l p)) : P x :=
 onXE h (fun J J=>noB) (fun J J J=>noB) (fun J J J=>noB) (fun J J J=>noB) (fun J J J J=>noB) (fun J J J J=>noB) (fun J J J=>noB) (fun J J J=>noB) (fun J J J J=>noB) (fun J J J J=>noB) H (fun J J J=>noB) (fun J J J=>noB) (fun J J J J=>noB) (fun J J J J=>noB)
noncomputable def xTuple (x : PySem.Expr) (k : List PySem.Expr → Bool) : Bool:=onX (fun J=>false) (fun J=>false) (fun J J J=>false) (fun J J=>false) (fun J J J=>false) (fun J J J=>false) (fun J J=>false) (fun J J=>false) (fun J J J=>false) (fun J J J=>false) (fun J=>false) k (fun J J=>false) (fun J J J=>false) (fun J J J J=>false) x
@[elab_as_elim] theorem xTupleE {P : PySem.Expr → Prop} {x : PySem.Expr} {k : List PySem.Expr → Bool} (h : xTuple x k = true) (H : ∀ l j p,k l = true → P (.Tuple l j p)) : P x :=
 onXE h (fun J J=>noB) (fun J J J=>noB) (fun J J J=>noB) (fun J J J=>noB) (fun J J J J=>noB) (fun J J J J=>noB) (fun J J J=>noB) (fun J J J=>noB) (fun J J J J=>noB) (fun J J J J=>noB) (fun J J=>noB) H (fun J J J=>noB) (fun J J J J=>noB) (fun J J J J=>noB)
noncomputable def xDict (x : PySem.Expr) (k : List (Option PySem.Expr) → List PySem.Expr → Bool) : Bool:=onX (fun J=>false) (fun J=>false) (fun J J J=>false) (fun J J=>false) (fun J J J=>false) (fun J J J=>false) (fun J J=>false) (fun J J=>false) (fun J J J=>false) (fun J J J=>false) (fun J=>false) (fun J=>false) k (fun J J J=>false) (fun J J J J=>false) x
@[elab_as_elim] theorem xDictE {P : PySem.Expr → Prop} {x : PySem.Expr} {k : List (Option PySem.Expr) → List PySem.Expr → Bool} (h : xDict x k = true) (H : ∀ l m p,k l m = true → P (.Dict l m p)) : P x :=
 onXE h (fun J J=>noB) (fun J J J=>noB) (fun J J J=>noB) (fun J J J=>noB) (fun J J J J=>noB) (fun J J J J=>noB) (fun J J J=>noB) (fun J J J=>noB) (fun J J J J=>noB) (fun J J J J=>noB) (fun J J=>noB) (fun J J J=>noB) H (fun J J J J=>noB) (fun J J J J=>noB)
noncomputable def xListComp (x : PySem.Expr) (k : PySem.Expr → List Comprehension → Scope → Bool) : Bool:=onX (fun J=>false) (fun J=>false) (fun J J J=>false) (fun J J=>false) (fun J J J=>false) (fun J J J=>false) (fun J J=>false) (fun J J=>false) (fun J J J=>false) (fun J J J=>false) (fun J=>false) (fun J=>false) (fun J J=>false) k (fun J J J J=>false) x
@[elab_as_elim] theorem xListCompE {P : PySem.Expr → Prop} {x : PySem.Expr} {k : PySem.Expr → List Comprehension → Scope → Bool} (h : xListComp x k = true) (H : ∀ y g sc p,k y g sc = true → P (.ListComp y g sc p)) : P x :=
 onXE h (fun J J=>noB) (fun J J J=>noB) (fun J J J=>noB) (fun J J J=>noB) (fun J J J J=>noB) (fun J J J J=>noB) (fun J J J=>noB) (fun J J J=>noB) (fun J J J J=>noB) (fun J J J J=>noB) (fun J J=>noB) (fun J J J=>noB) (fun J J J=>noB) H (fun J J J J=>noB)
noncomputable def xCall (x : PySem.Expr) (k : PySem.Expr → List PySem.Expr → List Keyword → Pos → Bool) : Bool:=onX (fun J=>false) (fun J=>false) (fun J J J=>false) (fun J J=>false) (fun J J J=>false) (fun J J J=>false) (fun J J=>false) (fun J J=>false) (fun J J J=>false) (fun J J J=>false) (fun J=>false) (fun J=>false) (fun J J=>false) (fun J J J=>false) k x
@[elab_as_elim] theorem xCallE {P : PySem.Expr → Prop} {x : PySem.Expr} {k : PySem.Expr → List PySem.Expr → List Keyword → Pos → Bool} (h : xCall x k = true) (H : ∀ f l kw p,k f l kw p = true → P (.Call f l kw p)) : P x :=
 onXE h (fun J J=>noB) (fun J J J=>noB) (fun J J J=>noB) (fun J J J=>noB) (fun J J J J=>noB) (fun J J J J=>noB) (fun J J J=>noB) (fun J J J=>noB) (fun J J J J=>noB) (fun J J J J=>noB) (fun J J=>noB) (fun J J J=>noB) (fun J J J=>noB) (fun J J J J=>noB) H
noncomputable def onS (K0 : PySem.Expr → Bool) (K1 : List PySem.Expr → PySem.Expr → Bool) (K2 : PySem.Expr → Operator → PySem.Expr → Bool) (K3 : PySem.Expr → List Stmt → List Stmt → Bool) (K4 : PySem.Expr → List Stmt → List Stmt → Bool) (K5 : PySem.Expr → PySem.Expr → List Stmt → List Stmt → Bool) (K6 : Option PySem.Expr → Bool) (K7 : Bool) (K8 : Bool) (K9 : Bool) (x : Stmt) : Bool:=match x with
 | .Expr x _=>K0 x
 | .Assign l y _=>K1 l y
 | .AugAssign x op y _=>K2 x op y
 | .If x a b _=>K3 x a b
 | .While x a b _=>K4 x a b
 | .For x y a b _=>K5 x y a b
 | .Return x _=>K6 x
 | .Pass _=>K7
 | .Break _=>K8
 | .Continue _=>K9
 | _=>false
theorem onSE {P : Stmt → Prop} {x : Stmt} {K0 : PySem.Expr → Bool} {K1 : List PySem.Expr → PySem.Expr → Bool} {K2 : PySem.Expr → Operator → PySem.Expr → Bool} {K3 : PySem.Expr → List Stmt → List Stmt → Bool} {K4 : PySem.Expr → List Stmt → List Stmt → Bool} {K5 : PySem.Expr → PySem.Expr → List Stmt → List Stmt → Bool} {K6 : Option PySem.Expr → Bool} {K7 : Bool} {K8 : Bool} {K9 : Bool} (h : onS K0 K1 K2 K3 K4 K5 K6 K7 K8 K9 x = true) (h0 : ∀ x p,K0 x = true → P (.Expr x p)) (h1 : ∀ l y p,K1 l y = true → P (.Assign l y p)) (h2 : ∀ x op y p,K2 x op y = true → P (.AugAssign x op y p)) (h3 : ∀ x a b p,K3 x a b = true → P (.If x a b p)) (h4 : ∀ x a b p,K4 x a b = true → P (.While x a b p)) (h5 : ∀ x y a b p,K5 x y a b = true → P (.For x y a b p)) (h6 : ∀ x p,K6 x = true → P (.Return x p)) (h7 : ∀ p,K7  = true → P (.Pass p)) (h8 : ∀ p,K8  = true → P (.Break p)) (h9 : ∀ p,K9  = true → P (.Continue p)) : P x:=by
 cases x with
 | Expr x p=>exact h0 _ _ h
 | Assign l y p=>exact h1 _ _ _ h
 | AugAssign x op y p=>exact h2 _ _ _ _ h
 | If x a b p=>exact h3 _ _ _ _ h
 | While x a b p=>exact h4 _ _ _ _ h
 | For x y a b p=>exact h5 _ _ _ _ _ h
 | Return x p=>exact h6 _ _ h
 | Pass p=>exact h7 _ h
 | Break p=>exact h8 _ h
 | Continue p=>exact h9 _ h
 | _=>exact noB h
noncomputable def sExpr (x : Stmt) (k : PySem.Expr → Bool) : Bool:=onS k (fun J J=>false) (fun J J J=>false) (fun J J J=>false) (fun J J J=>false) (fun J J J J=>false) (fun J=>false) false false false x
@[elab_as_elim] theorem sExprE {P : Stmt → Prop} {x : Stmt} {k : PySem.Expr → Bool} (h : sExpr x k = true) (H : ∀ x p,k x = true → P (.Expr x p)) : P x :=
 onSE h H (fun J J J=>noB) (fun J J J J=>noB) (fun J J J J=>noB) (fun J J J J=>noB) (fun J J J J J=>noB) (fun J J=>noB) (fun J=>noB) (fun J=>noB) (fun J=>noB)
noncomputable def sAssign (x : Stmt) (k : List PySem.Expr → PySem.Expr → Bool) : Bool:=onS (fun J=>false) k (fun J J J=>false) (fun J J J=>false) (fun J J J=>false) (fun J J J J=>false) (fun J=>false) false false false x
@[elab_as_elim] theorem sAssignE {P : Stmt → Prop} {x : Stmt} {k : List PySem.Expr → PySem.Expr → Bool} (h : sAssign x k = true) (H : ∀ l y p,k l y = true → P (.Assign l y p)) : P x :=
 onSE h (fun J J=>noB) H (fun J J J J=>noB) (fun J J J J=>noB) (fun J J J J=>noB) (fun J J J J J=>noB) (fun J J=>noB) (fun J=>noB) (fun J=>noB) (fun J=>noB)
noncomputable def sAugAssign (x : Stmt) (k : PySem.Expr → Operator → PySem.Expr → Bool) : Bool:=onS (fun J=>false) (fun J J=>false) k (fun J J J=>false) (fun J J J=>false) (fun J J J J=>false) (fun J=>false) false false false x
@[elab_as_elim] theorem sAugAssignE {P : Stmt → Prop} {x : Stmt} {k : PySem.Expr → Operator → PySem.Expr → Bool} (h : sAugAssign x k = true) (H : ∀ x op y p,k x op y = true → P (.AugAssign x op y p)) : P x :=
 onSE h (fun J J=>noB) (fun J J J=>noB) H (fun J J J J=>noB) (fun J J J J=>noB) (fun J J J J J=>noB) (fun J J=>noB) (fun J=>noB) (fun J=>noB) (fun J=>noB)
noncomputable def sIf (x : Stmt) (k : PySem.Expr → List Stmt → List Stmt → Bool) : Bool:=onS (fun J=>false) (fun J J=>false) (fun J J J=>false) k (fun J J J=>false) (fun J J J J=>false) (fun J=>false) false false false x
@[elab_as_elim] theorem sIfE {P : Stmt → Prop} {x : Stmt} {k : PySem.Expr → List Stmt → List Stmt → Bool} (h : sIf x k = true) (H : ∀ x a b p,k x a b = true → P (.If x a b p)) : P x :=
 onSE h (fun J J=>noB) (fun J J J=>noB) (fun J J J J=>noB) H (fun J J J J=>noB) (fun J J J J J=>noB) (fun J J=>noB) (fun J=>noB) (fun J=>noB) (fun J=>noB)
noncomputable def sWhile (x : Stmt) (k : PySem.Expr → List Stmt → List Stmt → Bool) : Bool:=onS (fun J=>false) (fun J J=>false) (fun J J J=>false) (fun J J J=>false) k (fun J J J J=>false) (fun J=>false) false false false x
@[elab_as_elim] theorem sWhileE {P : Stmt → Prop} {x : Stmt} {k : PySem.Expr → List Stmt → List Stmt → Bool} (h : sWhile x k = true) (H : ∀ x a b p,k x a b = true → P (.While x a b p)) : P x :=
 onSE h (fun J J=>noB) (fun J J J=>noB) (fun J J J J=>noB) (fun J J J J=>noB) H (fun J J J J J=>noB) (fun J J=>noB) (fun J=>noB) (fun J=>noB) (fun J=>noB)
noncomputable def sFor (x : Stmt) (k : PySem.Expr → PySem.Expr → List Stmt → List Stmt → Bool) : Bool:=onS (fun J=>false) (fun J J=>false) (fun J J J=>false) (fun J J J=>false) (fun J J J=>false) k (fun J=>false) false false false x
@[elab_as_elim] theorem sForE {P : Stmt → Prop} {x : Stmt} {k : PySem.Expr → PySem.Expr → List Stmt → List Stmt → Bool} (h : sFor x k = true) (H : ∀ x y a b p,k x y a b = true → P (.For x y a b p)) : P x :=
 onSE h (fun J J=>noB) (fun J J J=>noB) (fun J J J J=>noB) (fun J J J J=>noB) (fun J J J J=>noB) H (fun J J=>noB) (fun J=>noB) (fun J=>noB) (fun J=>noB)
noncomputable def sReturn (x : Stmt) (k : Option PySem.Expr → Bool) : Bool:=onS (fun J=>false) (fun J J=>false) (fun J J J=>false) (fun J J J=>false) (fun J J J=>false) (fun J J J J=>false) k false false false x
@[elab_as_elim] theorem sReturnE {P : Stmt → Prop} {x : Stmt} {k : Option PySem.Expr → Bool} (h : sReturn x k = true) (H : ∀ x p,k x = true → P (.Return x p)) : P x :=
 onSE h (fun J J=>noB) (fun J J J=>noB) (fun J J J J=>noB) (fun J J J J=>noB) (fun J J J J=>noB) (fun J J J J J=>noB) H (fun J=>noB) (fun J=>noB) (fun J=>noB)
noncomputable def sPass (x : Stmt) (k : Bool) : Bool:=onS (fun J=>false) (fun J J=>false) (fun J J J=>false) (fun J J J=>false) (fun J J J=>false) (fun J J J J=>false) (fun J=>false) k false false x
@[elab_as_elim] theorem sPassE {P : Stmt → Prop} {x : Stmt} {k : Bool} (h : sPass x k = true) (H : ∀ p,k  = true → P (.Pass p)) : P x :=
 onSE h (fun J J=>noB) (fun J J J=>noB) (fun J J J J=>noB) (fun J J J J=>noB) (fun J J J J=>noB) (fun J J J J J=>noB) (fun J J=>noB) H (fun J=>noB) (fun J=>noB)
noncomputable def sBreak (x : Stmt) (k : Bool) : Bool:=onS (fun J=>false) (fun J J=>false) (fun J J J=>false) (fun J J J=>false) (fun J J J=>false) (fun J J J J=>false) (fun J=>false) false k false x
@[elab_as_elim] theorem sBreakE {P : Stmt → Prop} {x : Stmt} {k : Bool} (h : sBreak x k = true) (H : ∀ p,k  = true → P (.Break p)) : P x :=
 onSE h (fun J J=>noB) (fun J J J=>noB) (fun J J J J=>noB) (fun J J J J=>noB) (fun J J J J=>noB) (fun J J J J J=>noB) (fun J J=>noB) (fun J=>noB) H (fun J=>noB)
noncomputable def sContinue (x : Stmt) (k : Bool) : Bool:=onS (fun J=>false) (fun J J=>false) (fun J J J=>false) (fun J J J=>false) (fun J J J=>false) (fun J J J J=>false) (fun J=>false) false false k x
@[elab_as_elim] theorem sContinueE {P : Stmt → Prop} {x : Stmt} {k : Bool} (h : sContinue x k = true) (H : ∀ p,k  = true → P (.Continue p)) : P x :=
 onSE h (fun J J=>noB) (fun J J J=>noB) (fun J J J J=>noB) (fun J J J J=>noB) (fun J J J J=>noB) (fun J J J J J=>noB) (fun J J=>noB) (fun J=>noB) (fun J=>noB) H
noncomputable def r1 {α : Type} (l : List α) (k : α → Bool) : Bool:=match l with | x :: r=>(match r with | []=>k x | _ :: _=>false) | []=>false
@[elab_as_elim] theorem r1E {α : Type} {P : List α → Prop} {l : List α} {k : α → Bool} (h : r1 l k = true) (H : ∀ x,k x = true → P [x]) : P l:=by
 cases l with
 | nil=>exact noB h
 | cons x r=>cases r with
  | nil=>exact H x h
  | cons _ _=>exact noB h
noncomputable def rCons {α : Type} (l : List α) (k : α → List α → Bool) : Bool:=match l with | x :: r=>k x r | []=>false
@[elab_as_elim] theorem rConsE {α : Type} {P : List α → Prop} {l : List α} {k : α → List α → Bool} (h : rCons l k = true) (H : ∀ x r,k x r = true → P (x :: r)) : P l:=by
 cases l with
 | nil=>exact noB h
 | cons x r=>exact H x r h
noncomputable def rNil {α : Type} (l : List α) : Bool:=match l with | []=>true | _=>false
theorem rNilE {α : Type} {l : List α} (h : rNil l = true) : l = []:=by
 cases l with
 | nil=>rfl
 | cons _ _=>exact noB h
noncomputable def rSome {α : Type} (l : Option α) (k : α → Bool) : Bool:=match l with | some x=>k x | none=>false
@[elab_as_elim] theorem rSomeE {α : Type} {P : Option α → Prop} {l : Option α} {k : α → Bool} (h : rSome l k = true) (H : ∀ x,k x = true → P (some x)) : P l:=by
 cases l with
 | none=>exact noB h
 | some x=>exact H x h
noncomputable def rNone {α : Type} (l : Option α) : Bool:=match l with | none=>true | some _=>false
theorem rNoneE {α : Type} {l : Option α} (h : rNone l = true) : l = none:=by
 cases l with
 | none=>rfl
 | some x=>exact noB h
noncomputable def isI (x : PySem.Expr) (l : List Nat) : Bool:=l.any (Nat.beq x.ctorIdx)
noncomputable def rdX (x : PySem.Expr) : Bool:=onX (fun a=>true) (fun a=>true) (fun a b c=>true) (fun a b=>true) (fun a b c=>true) (fun a b c=>true) (fun a b=>true) (fun a b=>true) (fun a b c=>true) (fun a b c=>true) (fun a=>true) (fun a=>true) (fun a b=>true) (fun a b c=>true) (fun a b c d=>true) x
noncomputable def ordX (x : PySem.Expr) : Bool:=rdX x && !isI x [26]
noncomputable def noComp (x : PySem.Expr) : Bool:=rdX x && !isI x [8]
noncomputable def noTup (x : PySem.Expr) : Bool:=rdX x && !isI x [25]
noncomputable def plainT (x : PySem.Expr) : Bool:=rdX x && !isI x [0,3,5,15]
noncomputable def noCall (x : PySem.Expr) : Bool:=rdX x && (!isI x [16] || xCall x fun f b c d=>rdX f && !isI f [23])
structure XF (x : PySem.Expr) : Prop where
 star : isI x [26] = false → ∀ xs env,starEach (x :: xs) env = (false,eval x env) :: starEach xs env
 sub : isI x [26] = false → ∀ o i,subscripted x false o i = operate [o,i] (getItem o i)
 aug : isI x [26] = false → ∀ ov iv new,augStore x ov iv new = (do holding [new,ov,iv] (setItem ov iv new); release [new,ov,iv] []; pure .next)
 set : isI x [26] = false → ∀ env v,foldedSetIterable x env v = pure v
 mark : isI x [26] = false → ∀ op,behindInMarks op x = false
 comp : isI x [8] = false → ∀ t n env,swapsWith x t n env = pure false
 tup : isI x [25] = false → ∀ l n p env,swappedStores [.Tuple l n p] x env = pure none
 plain : isI x [0,3,5,15] = false → ∀ env w,isTrue x env w = (do let v ← w; standAt x.pos; holding [v] (truthy v))
 call : isI x [16] = false → ∀ nm env w,attributeBase x nm env w = w
 name : isI x [23] = false → ∀ l k p nm env w,attributeBase (.Call x l k p) nm env w = w
theorem xf {x : PySem.Expr} (h : rdX x = true) : XF x:=by
 refine onXE (P:=XF) h (fun a b hh=>?_) (fun a b c hh=>?_) (fun a b c hh=>?_) (fun a b c hh=>?_) (fun a b c d hh=>?_) (fun a b c d hh=>?_) (fun a b c hh=>?_) (fun a b c hh=>?_) (fun a b c d hh=>?_) (fun a b c d hh=>?_) (fun a b hh=>?_) (fun a b c hh=>?_) (fun a b c hh=>?_) (fun a b c d hh=>?_) (fun a b c d hh=>?_)
 all_goals exact ⟨by first | exact fun h=>noB h.symm | exact fun h a b=>rfl,by first | exact fun h=>noB h.symm | exact fun h a b=>rfl,by first | exact fun h=>noB h.symm | exact fun h a b c=>rfl,by first | exact fun h=>noB h.symm | exact fun h a b=>rfl,by first | exact fun h=>noB h.symm | exact fun h a=>rfl,by first | exact fun h=>noB h.symm | exact fun h a b c=>rfl,by first | exact fun h=>noB h.symm | exact fun h a b c d=>rfl,by first | exact fun h=>noB h.symm | exact fun h a b=>rfl,by first | exact fun h=>noB h.symm | exact fun h a b c=>rfl,by first | exact fun h=>noB h.symm | exact fun h a b c d e f=>rfl⟩
theorem nt {b : Bool} (h : (!b) = true) : b = false:=by
 cases b with
 | false=>rfl
 | true=>exact noB h
theorem ordF {x : PySem.Expr} {p : Prop} (h : ordX x = true) (k : XF x → isI x [26] = false → p) : p:=an h fun h1 h2=>k (xf h1) (nt h2)
theorem noComp_eq {x : PySem.Expr} (h : noComp x = true) (t : Option PySem.Expr) (n : Nat) (env : Env) : swapsWith x t n env = pure false:=an h fun h1 h2=>(xf h1).comp (nt h2) t n env
theorem noTup_eq {x : PySem.Expr} (h : noTup x = true) (l : List PySem.Expr) (n : Nat) (p : Pos) (env : Env) : swappedStores [.Tuple l n p] x env = pure none:=an h fun h1 h2=>(xf h1).tup (nt h2) l n p env
theorem plainT_eq {x : PySem.Expr} (h : plainT x = true) (env : Env) (w : Sem Value) : isTrue x env w = (do let v ← w; standAt x.pos; holding [v] (truthy v)):=an h fun h1 h2=>(xf h1).plain (nt h2) env w
theorem noCall_eq {x : PySem.Expr} (h : noCall x = true) (nm : Str) (env : Env) (w : Sem Value) : attributeBase x nm env w = w:=by
 refine an h fun h1 h2=>?_
 cases q : isI x [16] with
 | false=>exact (xf h1).call q nm env w
 | true =>
  rw [q] at h2
  exact xCallE (P:=fun x=>attributeBase x nm env w = w) h2 fun f l k p h=>an h fun h3 h4=>(xf h3).name (nt h4) l k p nm env w
section
section
variable {W : Wd} {cx : Cx} {cs : Scope} {cp : Option Cp} {d : Nat}
theorem ok_dead {x : PySem.Expr} : OkE W cx cs cp d (.neg (.const .none)) x:=by
 refine ⟨?_⟩
 intro c hc ok env m X L σ ps h tk v σ' Q E g dr os S V ht ee H
 exact noE ee
theorem okS_asrt {t : PE} {x : PySem.Expr} {pos : Pos} (ht' : OkT W cx cs none d t x) : OkS W cx cs d (.asrt t) (.Assert x none pos):=by
 refine ⟨?_⟩
 intro c hc ok m X L σ ps h tk fl L' σ' Q E g dr os z hz S lr ht hl pz ee H
 refine bd2 (show (evT cx t L σ).bind _ = _ from ee) fun b σ1 e1 e2=>?_
 refine wpAny_Assert_new ok.hh (ht'.1 c hc ok S ⟨rfl,lr⟩ ht e1 fun ps1 h1 t1 p1 S1 ht1=>?_)
 cases b with
 | true=>exact (H.eq e2) m ps1 h1 t1 _ (pz.trans p1) S1 (lr.mono p1) .next ht1
 | false=>exact noE e2
theorem ok_rng2 {a b : PE} {x y : PySem.Expr} {npos pos : Pos} (B : BtOk W cs cp "range" (.type "range")) (ha : OkE W cx cs cp d a x) (hb : OkE W cx cs cp d b y)
 (hx1 : ∀ env,starEach [x,y] env = (false,eval x env) :: starEach [y] env) (hx2 : ∀ env,starEach [y] env = (false,eval y env) :: starEach [] env)
 (hc : ∀ env,eval (.Call (.Name "range" npos) [x,y] [] pos) env = (do callWith pos (← eval (.Name "range" npos) env) [] (backTo pos (starEach [x,y] env)) (backToKw pos (keywordEach [] env)))) : OkE W cx cs cp d (.rng2 a b) (.Call (.Name "range" npos) [x,y] [] pos):=by
 refine ⟨?_⟩
 intro c hcs ok env m X L σ ps h tk v σ' Q E g dr os S V ht ee H
 refine bd2 (evE_rng2.symm.trans ee) fun v1 σ1 e1 e=>bd2 e fun v2 σ2 e2 e3=>?_
 refine Call_ (name_bt S ok hcs V B.hg B.hv B.hn B.hk B.hs B.hd ?_) (hc env)
 refine callEs (first:=[]) (okEs_cons ha (okEs_cons hb okEs_nil hx2) hx1) hcs ok (by rw [hx1,hx2]; rfl) S V ht (vs:=[v1,v2]) (σ':=σ2) (by rw [evEs_cons,e1]; show ((evEs cx [b] L σ1).bind _) = _; rw [evEs_cons,e2]; rfl) (fun J J J J=>keeps_bt nofun) fun ps2 h2 t2 ys p2 S2 r2 ht2=>?_
 cases r2 with
 | cons r1 rn =>
  cases rn with
  | cons r2 rn =>
   cases rn
   exact intE r1 e3 fun i t e=>intE r2 e fun j u e=>gdE e fun hl e=>call_range_2 (rng_new S2 e (tk1 (t:=t2) 1 ht2) (H.up p2))
theorem ok_rng3 {a b e : PE} {x y z : PySem.Expr} {npos pos : Pos} (B : BtOk W cs cp "range" (.type "range")) (ha : OkE W cx cs cp d a x) (hb : OkE W cx cs cp d b y) (he : OkE W cx cs cp d e z)
 (hx1 : ∀ env,starEach [x,y,z] env = (false,eval x env) :: starEach [y,z] env) (hx2 : ∀ env,starEach [y,z] env = (false,eval y env) :: starEach [z] env) (hx3 : ∀ env,starEach [z] env = (false,eval z env) :: starEach [] env)
 (hc : ∀ env,eval (.Call (.Name "range" npos) [x,y,z] [] pos) env = (do callWith pos (← eval (.Name "range" npos) env) [] (backTo pos (starEach [x,y,z] env)) (backToKw pos (keywordEach [] env)))) : OkE W cx cs cp d (.rng3 a b e) (.Call (.Name "range" npos) [x,y,z] [] pos):=by
 refine ⟨?_⟩
 intro c hcs ok env m X L σ ps h tk v σ' Q E g dr os S V ht ee H
 refine bd2 (evE_rng3.symm.trans ee) fun v1 σ1 e1 q=>bd2 q fun v2 σ2 e2 q=>bd2 q fun v3 σ3 e3 e4=>?_
 refine Call_ (name_bt S ok hcs V B.hg B.hv B.hn B.hk B.hs B.hd ?_) (hc env)
 refine callEs (first:=[]) (okEs_cons ha (okEs_cons hb (okEs_cons he okEs_nil hx3) hx2) hx1) hcs ok (by rw [hx1,hx2,hx3]; rfl) S V ht (vs:=[v1,v2,v3]) (σ':=σ3) (by rw [evEs_cons,e1]; show ((evEs cx [b,e] L σ1).bind _) = _; rw [evEs_cons,e2]; show (Option.bind ((evEs cx [e] L σ2).bind _) _) = _; rw [evEs_cons,e3]; rfl) (fun J J J J=>keeps_bt nofun) fun ps2 h2 t2 ys p2 S2 r2 ht2=>?_
 cases r2 with
 | cons r1 rn =>
  cases rn with
  | cons r2 rn =>
   cases rn with
   | cons r3 rn =>
    cases rn
    refine intE r1 e4 fun i t e=>intE r2 e fun j u e=>intE r3 e fun k w e=>gdE e fun hl e9=>?_
    obtain ⟨h1,h2,rfl⟩:=hl
    unfold LIM at h1 h2
    exact call_range_3 (by decide) (rng_new S2 e9 ht2 (H.up p2)) (.inl (PyProof.noPylong_small (by lia)))
theorem in_core (G : GOk W cx d) {mi : Nat} (hn : W.tb[mi]? = some "__contains__") {c : Fc} (ok : FOk W c d) {m : Str → Option Value} {X : List (Addr × Obj)} {σ : St} {ps : PZ} {h : Heap} {tk : Nat} {a b v : V} {x y : Value} {σ' : St} {Q E : Value → Shared → Prop} {g : Array GenState} {dr : Drawn} {os : OsState}
 (S : SR W c m X σ ps h) (ht : 1 ≤ tk) (ra : VR (hds ps) a x) (rb : VR (hds ps) b y) (e : inMV cx a b mi σ = some (v,σ')) (k : ∀ q ps' h' t',v = .bool q → (hds ps).Le (hds ps') → SR W c m X σ' ps' h' → 1 ≤ t' → Q (.bool q) ⟨h',g,dr,t',os⟩) :
 wpAny (model W.prog W.w) c.A (compareOp .In x y) Q E ⟨h,g,dr,tk,os⟩:=by
 cases rb with
 | sref a0 =>
  refine bdE e fun ob hob e=>oInstE e fun cl fs q e=>bdE e fun gg e4 e=>bd2 e fun r σ3 e5 e6=>?_
  subst q
  obtain ⟨es',D1,n1,g1,g2,i1,_⟩:=G.so.ro (hs:=hds ps) (S.K ok) hob
  have I : InstAt h a0 (instObj cl D1) cl (some (dictOf es' n1)):=⟨g1,rfl,rfl,g2⟩
  obtain ⟨x',hx',hf,hty,_,_,_,hB⟩:=G.co.meth _ _ _ e4
  obtain rfl:=Option.some.inj (hx'.symm.trans hn)
  obtain ⟨g0,G0,m0,hm0,F0⟩:=S.F
  refine in_K (s:=⟨h,g,dr,tk,os⟩) F0 (ok.KR G0) I hf (by unfold isFn; rw [hty]; rfl) (wpAny_call ?_)
  refine G.call gg [.sref a0,a] σ _ _ hB e5 c ok.toC S (.cons (.sref a0) (.cons ra .nil)) ht fun ps4 h4 t4 y4 p4 S4 r4 ht4=>?_
  cases r4 with
  | bool bb=>cases e6; exact wpAny_truthy_bool (k bb ps4 h4 t4 rfl p4 S4 ht4)
  | _=>exact noE e6
 | _=>exact noE e
theorem ok_inM (G : GOk W cx d) {mi : Nat} {e o : PE} {x y : PySem.Expr} {pos : Pos} (hn : W.tb[mi]? = some "__contains__") (he : OkE W cx cs cp d e x) (ho : OkE W cx cs cp d o y) (hm : behindInMarks .In y = false) : OkE W cx cs cp d (.inM e o mi) (.Compare x [.In] [y] pos):=by
 refine ⟨?_⟩
 intro c hc ok env m X L σ ps h tk v σ' Q E g dr os S V ht ee H
 refine bd2 (evE_inM.symm.trans ee) fun a σ1 e1 e=>bd2 e fun b σ2 e2 e3=>?_
 exact wpAny_Compare1 (he.1 c hc ok S V ht e1 fun ps1 h1 t1 y1 p1 S1 r1 ht1=>ho.1 c hc ok S1 (V.mono p1) ht1 e2 fun ps2 h2 t2 y2 p2 S2 r2 ht2=>in_core G hn ok S2 ht2 (r1.mono p2) r2 e3 fun q ps4 h4 t4 hv p4 S4 ht4=>H ps4 h4 t4 _ ((p1.trans p2).trans p4) S4 (hv ▸ .bool q) ht4) hm
theorem okT_inM (G : GOk W cx d) {mi : Nat} {e o : PE} {x y : PySem.Expr} {pos : Pos} (hn : W.tb[mi]? = some "__contains__") (he : OkE W cx cs cp d e x) (ho : OkE W cx cs cp d o y) (hm : behindInMarks .In y = false) : OkT W cx cs cp d (.inM e o mi) (.Compare x [.In] [y] pos):=by
 refine ⟨?_⟩
 intro c hc ok env m X L σ ps h tk v σ' Q E g dr os S V ht ee H
 refine bd2 (show ((evE cx (.inM e o mi) L σ).bind fun (v,σ1)=>(truthyV cx σ1 v).map fun b=>(b,σ1)) = _ from ee) fun v0 σ0 e0 e7=>bd2 (evE_inM.symm.trans e0) fun a σ1 e1 e=>bd2 e fun b σ2 e2 e3=>?_
 refine wpAny_isTrue_Compare1 (he.1 c hc ok S V ht e1 fun ps1 h1 t1 y1 p1 S1 r1 ht1=>ho.1 c hc ok S1 (V.mono p1) ht1 e2 fun ps2 h2 t2 y2 p2 S2 r2 ht2=>in_core G hn ok S2 ht2 (r1.mono p2) r2 e3 fun q ps4 h4 t4 hv p4 S4 ht4=>wpAny_truthy_bool ?_) hm
 subst hv
 exact (H.eq e7) ps4 h4 t4 ((p1.trans p2).trans p4) S4 ht4
theorem starts_eq (s p : List Nat) : Txt.startswith (toS s) (toS p) = p.isPrefixOf s:=by
 have h : Builtin.Str.subAt (toS s) (toS p) 0 = true ↔ p <+: s:=by
  rw [StrLaws.subAt_eq,toS_list,toS_list,toS_len,List.drop_zero,beq_iff_eq,List.prefix_iff_eq_take]
  exact eq_comm
 rw [Bool.eq_iff_iff,List.isPrefixOf_iff_prefix,← h]
 unfold Txt.startswith
 rw [Bool.and_eq_true]
 exact ⟨fun q=>q.2,fun q=>⟨decide_eq_true (by have:=(h.mp q).length_le; rw [toS_len,toS_len]; lia),q⟩⟩
theorem starts_ok : ValM W cx d "str.startswith" (fun o vs σ=>Internal.v1 vs fun p=>startsV p o σ):=by
 intro c ok m X σ ps h tk o r vs σ' x ys Q E g dr os S ra rs ht e H
 refine vconsE rs e fun v0 y0 J J r1 rs e=>vnilE rs e fun e=>strE ra e fun s ts hl e=>strE r1 e fun p t J e=>?_
 exact SC.startswith (by rw [starts_eq]; exact (H.eq e) ps h tk _ .rfl S (.bool _) ht)
end
end
section
open PySem.W.Fast (sEq sEq_iff lEq lEq_iff)
structure Tc where
 tb : List Str
 gl : List (Str × Option V)
 fa : List Nat
 ca : List Nat
structure TcOk (W : Wd) (t : Tc) : Prop where
 tb : W.tb = t.tb
 gl : ∀ x v,(x,some v) ∈ t.gl → ∃ y,VR .nil v y ∧ nsIn W.K mainGlobals x = some (some y)
 bt : ∀ x,(x,none) ∈ t.gl → nsIn W.K mainGlobals x = some none
 fa : ∀ f,t.fa.any (Nat.beq f) = true → keepIn W.K (.ref f) = true ∧ f < BIG
 ca : ∀ c,t.ca.any (Nat.beq c) = true → keepIn W.K (.ref c) = true ∧ makesIn W.K c = true
noncomputable def lkS {β : Type} (x : Str) : List (Str × β) → Option β
 | []=>none
 | (y,v) :: r=>bif sEq x y then some v else lkS x r
theorem sEq_beq (x y : Str) : sEq x y = (x == y):=by
 rw [Bool.eq_iff_iff,sEq_iff,beq_iff_eq]
theorem lkS_eq {β : Type} (x : Str) : ∀ l : List (Str × β),lkS x l = l.lookup x
 | []=>rfl
 | (y,v) :: r=>by
  show (bif sEq x y then some v else lkS x r) = _
  rw [List.lookup_cons,sEq_beq,lkS_eq x r]
  cases x == y <;> rfl
theorem lkS_mem {β : Type} {x : Str} {v : β} : ∀ {l : List (Str × β)},lkS x l = some v → (x,v) ∈ l
 | [],h=>noE h
 | (y,w) :: r,h=>by
  have h1 : (bif sEq x y then some w else lkS x r) = some v:=h
  cases q : sEq x y with
  | true =>
   rw [q] at h1
   obtain rfl:=sEq_iff.mp q
   obtain rfl : w = v:=Option.some.inj h1
   exact .head _
  | false=>rw [q] at h1; exact .tail _ (lkS_mem h1)
noncomputable def nmK (l : List (Str × NameKind)) (x : Str) (k : NameKind) : Bool:=match lkS x l with | some k'=>decide (k' = k) | none=>false
noncomputable def noCell (l : List (Str × NameKind)) : Bool:=l.all fun p=>decide (p.2 ≠ .cell)
theorem noCell_ok {l : List (Str × NameKind)} (h : noCell l = true) : ∀ p ∈ l,p.2 ≠ .cell:=fun p hp=>of_decide_eq_true (List.all_eq_true.mp h p hp)
theorem nmK_ok {l : List (Str × NameKind)} {x : Str} {k : NameKind} (h : nmK l x k = true) : l.lookup x = some k:=by
 unfold nmK at h
 rw [lkS_eq] at h
 cases q : l.lookup x with
 | none=>rw [q] at h; exact noB h
 | some k'=>rw [q] at h; rw [of_decide_eq_true h]
noncomputable def nmI (tb : List Str) (i : Nat) (x : Str) : Bool:=match tb[i]? with | some y=>sEq y x | none=>false
theorem nmI_ok {tb : List Str} {i : Nat} {x : Str} (h : nmI tb i x = true) : tb[i]? = some x:=by
 unfold nmI at h
 cases q : tb[i]? with
 | none=>rw [q] at h; exact noB h
 | some k'=>rw [q] at h; rw [sEq_iff.mp h]
noncomputable def eqVb (v w : V) : Bool:=match v with
 | .none=>(match w with | .none=>true | _=>false)
 | .bool a=>(match w with | .bool b=>decide (a = b) | _=>false)
 | .int a=>(match w with | .int b=>decide (a = b) | _=>false)
 | .str a=>(match w with | .str b=>lEq a b | _=>false)
 | .sref a=>(match w with | .sref b=>Nat.beq a b | _=>false)
 | _=>false
theorem eqVb_ok {v w : V} (h : eqVb v w = true) : v = w:=by
 cases v with
 | none=>cases w <;> first | rfl | exact noB h
 | bool a=>cases w <;> first | exact noB h | exact congrArg V.bool (of_decide_eq_true h)
 | int a=>cases w <;> first | exact noB h | exact congrArg V.int (of_decide_eq_true h)
 | str a=>cases w <;> first | exact noB h | exact congrArg V.str (lEq_iff.mp h)
 | sref a=>cases w <;> first | exact noB h | exact congrArg V.sref (Nat.eq_of_beq_eq_true h)
 | _=>exact noB h
noncomputable def constV (c : Const) : Option V:=match c with
 | .none=>some .none
 | .bool b=>some (.bool b)
 | .int i=>some (.int i)
 | .str s=>bif Nat.ble s.cps.toList.length 100000 then some (.str s.cps.toList) else none
 | _=>none
noncomputable def cEq (c : Const) (v : V) : Bool:=match constV c with | some w=>eqVb w v | none=>false
section
variable {W : Wd} {cx : Cx} {cs : Scope} {cp : Option Cp} {d : Nat}
theorem cEq_ok {c : Const} {v : V} (h : cEq c v = true) {k : Nat} {p : Pos} : OkE W cx cs cp d (.const v) (.Constant c k p):=by
 unfold cEq at h
 cases q : constV c with
 | none=>rw [q] at h; exact noB h
 | some w =>
  rw [q] at h
  obtain rfl:=eqVb_ok h
  cases c with
  | none=>obtain rfl:=Option.some.inj q; exact okC_none
  | bool b=>obtain rfl:=Option.some.inj q; exact okC_bool
  | int i=>obtain rfl:=Option.some.inj q; exact okC_int
  | str s =>
   have q : (bif Nat.ble s.cps.toList.length 100000 then some (V.str s.cps.toList) else none) = some w:=q
   cases hb : Nat.ble s.cps.toList.length 100000 with
   | false=>rw [hb] at q; exact noE q
   | true =>
    rw [hb] at q
    obtain rfl:=Option.some.inj q
    exact okC_str rfl (Nat.le_of_ble_eq_true hb)
  | _=>exact noE q
end
noncomputable def dbg : Str:=Str.ofString "__debug__"
noncomputable def gOk (t : Tc) (x : Str) (v : V) : Bool:=match lkS x t.gl with | some o=>(match o with | some w=>eqVb w v | none=>false) | none=>false
noncomputable def bOk (t : Tc) (x : Str) : Bool:=match lkS x t.gl with | some o=>rNone o | none=>false
theorem dbg_ok {x : Str} (h : (!sEq x dbg) = true) : (x == ("__debug__" : Str)) = false:=(sEq_beq x dbg).symm.trans (nt h)
section
variable {W : Wd} {t : Tc} (T : TcOk W t)
include T
theorem gOk_ok {x : Str} {v : V} (h : gOk t x v = true) : ∃ y,VR .nil v y ∧ nsIn W.K mainGlobals x = some (some y):=by
 unfold gOk at h
 cases q : lkS x t.gl with
 | none=>rw [q] at h; exact noB h
 | some o =>
  rw [q] at h
  cases o with
  | none=>exact noB h
  | some w=>obtain rfl:=eqVb_ok h; exact T.gl x w (lkS_mem q)
theorem bOk_ok {x : Str} (h : bOk t x = true) : nsIn W.K mainGlobals x = some none:=by
 unfold bOk at h
 cases q : lkS x t.gl with
 | none=>rw [q] at h; exact noB h
 | some o=>rw [q] at h; obtain rfl:=rNoneE h; exact T.bt x (lkS_mem q)
end
noncomputable def unN (op : UOp) : Str:=match op with
 | .len=>Str.ofString "len" | .ord=>Str.ofString "ord" | .chr=>Str.ofString "chr" | .sum=>Str.ofString "sum" | .listOf=>Str.ofString "list" | .range=>Str.ofString "range"
noncomputable def unB (op : UOp) : Value:=match op with
 | .len=>.builtin "len" | .ord=>.builtin "ord" | .chr=>.builtin "chr" | .sum=>.builtin "sum" | .listOf=>.type "list" | .range=>.type "range"
structure UnOk (op : UOp) : Prop where
 v : bootBuiltins (unN op) = some (unB op)
 n : unN op ≠ "__name__"
 d : (unN op == ("__debug__" : Str)) = false
 r : ∀ a,unB op ≠ .ref a
theorem un_boot (op : UOp) : UnOk op:=by
 cases op with
 | len=>exact ⟨by show bootBuiltins (Str.ofString "len") = _; boot_by_name,by decide,by kernel_rfl,fun a h=>nomatch h⟩
 | ord=>exact ⟨by show bootBuiltins (Str.ofString "ord") = _; boot_by_name,by decide,by kernel_rfl,fun a h=>nomatch h⟩
 | chr=>exact ⟨by show bootBuiltins (Str.ofString "chr") = _; boot_by_name,by decide,by kernel_rfl,fun a h=>nomatch h⟩
 | sum=>exact ⟨by show bootBuiltins (Str.ofString "sum") = _; boot_by_name,by decide,by kernel_rfl,fun a h=>nomatch h⟩
 | listOf=>exact ⟨by show bootBuiltins (Str.ofString "list") = _; boot_by_name,by decide,by kernel_rfl,fun a h=>nomatch h⟩
 | range=>exact ⟨by show bootBuiltins (Str.ofString "range") = _; boot_by_name,by decide,by kernel_rfl,fun a h=>nomatch h⟩
noncomputable def bmN (op : MOp) : Str:=match op with
 | .append=>Str.ofString "append" | .popAt=>Str.ofString "pop" | .join=>Str.ofString "join" | .count3=>Str.ofString "count" | .rfind3=>Str.ofString "rfind" | .split=>Str.ofString "split" | .starts=>Str.ofString "startswith"
noncomputable def bmI (op : MOp) : String:=match op with
 | .append=>"list.append" | .popAt=>"list.pop" | .join=>"str.join" | .count3=>"str.count" | .rfind3=>"str.rfind" | .split=>"str.split" | .starts=>"str.startswith"
section
variable {W : Wd} {cx : Cx} {d : Nat}
theorem un_val (G : GOk W cx d) (op : UOp) : Val1 W cx d (unB op) (unF cx op):=by
 cases op with
 | len=>exact len_ok G
 | ord=>exact ord_ok
 | chr=>exact chr_ok
 | sum=>exact sum_ok G
 | listOf=>exact listOf_ok G
 | range=>exact range_ok
theorem isStrV_of {v : V} (h : isStrV v = true) : ∃ s,v = .str s:=by
 cases v with
 | str s=>exact ⟨s,rfl⟩
 | _=>exact noB h
theorem get_strB {id : String} {nm : Str} (slot : Slot "str" nm id) (ty : typeOf (.builtin id) = pure (.type "method_descriptor")) : GetM W id nm (fun o σ=>isStrV o = true) :=
 fun c m X σ ps h tk o x pl A Q E g dr os S ra hP hq=>get_str slot ty c S ra (isStrV_of hP) hq
theorem bm_get (op : MOp) : GetM W (bmI op) (bmN op) (fun o σ=>bmP op σ o = true):=by
 cases op with
 | append=>exact get_list PySem.F.slot_list_append PySem.F.type_list_append
 | popAt=>exact get_list PySem.F.slot_list_pop PySem.F.type_list_pop
 | join=>exact get_strB PySem.F.slot_str_join PySem.F.type_str_join
 | count3=>exact get_strB PySem.F.slot_str_count PySem.F.type_str_count
 | rfind3=>exact get_strB PySem.F.slot_str_rfind PySem.F.type_str_rfind
 | split=>exact get_strB PySem.F.slot_str_split PySem.F.type_str_split
 | starts=>exact get_strB PySem.F.slot_str_startswith PySem.F.type_str_startswith
theorem bm_val (G : GOk W cx d) (op : MOp) : ValM W cx d (bmI op) (bmF cx op):=by
 cases op with
 | append=>exact append_ok
 | popAt=>exact popAt_ok
 | join=>exact join_ok G
 | count3=>exact count3_ok
 | rfind3=>exact rfind3_ok
 | split=>exact split_ok
 | starts=>exact starts_ok
end
section
variable {W : Wd} {cx : Cx} {cs : Scope} {cp : Option Cp} {d : Nat}
theorem bif_E {β : Type} {a : Bool} {x : Option β} {y : β} {p : Prop} (e : (bif a then x else none) = some y) (k : a = true → x = some y → p) : p:=by
 cases a with
 | true=>exact k rfl e
 | false=>exact noE e
theorem okEs_of {es : List PE} {xs : List PySem.Expr} (h : All2 (fun e x=>OkE W cx cs cp d e x) es xs) (hs : xs.all ordX = true) : OkEs W cx cs cp d es xs ∧ ∀ pos env,(backTo pos (starEach xs env)).any (·.1) = false:=by
 induction h with
 | nil=>exact ⟨okEs_nil,fun pos env=>rfl⟩
 | @cons e x es xs h _ ih =>
  refine an (show (ordX x && xs.all ordX) = true from hs) fun h1 h2=>ordF h1 fun f q=>?_
  obtain ⟨i1,i2⟩:=ih h2
  refine ⟨okEs_cons h i1 (f.star q xs),fun pos env=>?_⟩
  rw [f.star q]
  exact i2 pos env
theorem dict_l {P : PE → PySem.Expr → Prop} : ∀ {ks : List (List Nat)} {es : List PE} {keys : List (Option PySem.Expr)} {values : List PySem.Expr},All2 (fun k x=>∃ n pos,x = some (PySem.Expr.Constant (.str (toS k)) n pos)) ks keys → All2 P es values → ks.length = es.length →
 ∃ l : List (PySem.Expr × PySem.Expr),(keys = l.map fun p=>some p.1) ∧ values = l.map (·.2) ∧ KeysAre ks l ∧ All2 (fun e p=>P e p.2) es l:=by
 intro ks es keys values h1
 induction h1 generalizing es values with
 | nil =>
  intro h2 hl
  cases h2 with
  | nil=>exact ⟨[],rfl,rfl,.nil,.nil⟩
  | cons _ _=>cases hl
 | cons h _ ih =>
  intro h2 hl
  cases h2 with
  | nil=>cases hl
  | @cons e x es xs h2 h3 =>
   obtain ⟨n,pos,rfl⟩:=h
   obtain ⟨l,q1,q2,q3,q4⟩:=ih h3 (Nat.succ.inj hl)
   exact ⟨(_,x) :: l,congrArg (_ :: ·) q1,congrArg (x :: ·) q2,.cons ⟨n,pos,rfl⟩ q3,.cons h2 q4⟩
theorem methArm {x : PySem.Expr} {nm : Str} {apos pos : Pos} {xs : List PySem.Expr} (h1 : noCall x = true) (hp : ∀ pos env,(backTo pos (starEach xs env)).any (·.1) = false) (h3 : Nat.blt xs.length 30 = true) (h4 : Nat.beq apos.endLine pos.line = true) : ∀ env,∃ pl,eval (.Call (.Attribute x nm apos) xs [] pos) env = (do
 let ov ← eval x env
 standAt apos.atName
 let (f,first) ← holding [ov] (getMethod ov nm pl)
 callWith pos f first (backTo pos (starEach xs env)) []):=by
 intro env
 refine ⟨(do return (← importBound x env).getD true),?_⟩
 have e1 : methodCallForm (xs.length + ([] : List Keyword).length) (backTo pos (starEach xs env)) (backToKw pos (keywordEach [] env)) = true:=by
  unfold methodCallForm
  have : (backTo pos (starEach xs env)).all (!·.1) = true:=by
   have:=hp pos env
   rw [List.all_eq_not_any_not]
   simpa using this
  rw [this]
  show (true && true && decide (xs.length + 0 + 0 < 30)) = true
  rw [decide_eq_true (by simpa using h3)]; rfl
 have e2 : methodCallPos true x env apos pos = pure pos:=by
  unfold methodCallPos
  have : (apos.endLine == pos.line) = true:=beq_iff_eq.mpr (Nat.eq_of_beq_eq_true h4)
  rw [this]; rfl
 show (do let ov ← attributeBase x nm env (eval x env); standAt apos.atName; methodCall x nm apos pos env ov (xs.length + ([] : List Keyword).length) (backTo pos (starEach xs env)) (backToKw pos (keywordEach [] env))) = _
 rw [noCall_eq h1]
 unfold methodCall
 rw [e1,e2]
 rfl
end
end
section
open PySem.W.Fast (sEq sEq_iff lEq lEq_iff)
structure Ck where
 e : Option Cp → PySem.Expr → Bool
 t : Option Cp → PySem.Expr → Bool
 a : BoolOp → Option Cp → List PySem.Expr → Bool
 b : BoolOp → Option Cp → List PySem.Expr → Bool
noncomputable def ckT (e t : Option Cp → PySem.Expr → Bool) : Ck:=⟨e,t,fun op cp xs=>r1 xs (t cp),fun op cp xs=>r1 xs (e cp)⟩
noncomputable def ckB (o : BoolOp) (a b : Option Cp → List PySem.Expr → Bool) : Ck :=
 let e : Option Cp → PySem.Expr → Bool:=fun cp x=>xBoolOp x fun op xs=>decide (op = o) && b cp xs
 let u : Option Cp → PySem.Expr → Bool:=fun cp x=>xBoolOp x fun op xs=>decide (op = o) && a cp xs
 ⟨e,u,fun op cp xs=>(decide (op = o) && a cp xs) || r1 xs (u cp),fun op cp xs=>(decide (op = o) && b cp xs) || r1 xs (e cp)⟩
noncomputable def ckP (e : Option Cp → PySem.Expr → Bool) : Ck:=ckT e fun cp x=>plainT x && e cp x
noncomputable def csB (cs : Scope) : Bool:=match cellsFrom 0 cs.names [] with
 | []=>noCell cs.names
 | q :: r=>rNil r && (nmK cs.names q.1 .cell && cs.names.all fun p=>decide (p.2 ≠ .cell) || sEq p.1 q.1)
noncomputable def isNo (cp : Option Cp) : Bool:=match cp with | none=>true | some _=>false
noncomputable def scB (cs : Scope) (cp : Option Cp) (sc : Scope) : Bool:=decide (sc.kind = .function) && sc.names.all fun p=>(decide (p.2 ≠ .free) || (isNo cp && nmK cs.names p.1 .cell)) && decide (p.2 ≠ .cell) && (decide (p.2 ≠ .local) || nmK sc.names p.1 .local)
noncomputable def locB (cs : Scope) (cp : Option Cp) (i : Nat) (n : Str) : Bool:=match cp with
 | none=>nmK cs.names n .local || nmK cs.names n .cell
 | some p=>(p.2.any (Nat.beq i) && nmK p.1.names n .local) || (nmK p.1.names n .free && nmK cs.names n .cell)
noncomputable def tgB (tb : List Str) (l : List (Str × NameKind)) (t : Ft) (x : PySem.Expr) : Bool:=match t with
 | .one i=>xName x fun n=>nmI tb i n && nmK l n .local
noncomputable def isNoneC (e : PE) : Bool:=match e with | .const v=>eqVb v .none | _=>false
noncomputable def ckPart (e : PE) (k : PySem.Expr → Bool) (x : Option PySem.Expr) : Bool:=match x with | some x=>k x | none=>isNoneC e
noncomputable def keysB : List (List Nat) → List (Option PySem.Expr) → Bool
 | [],xs=>rNil xs
 | k :: ks,xs=>rCons xs fun x r=>(rSome x fun x=>xConstant x fun c=>match c with | .str s=>lEq k s.cps.toList | _=>false) && keysB ks r
noncomputable def compB (g : List Comprehension) (k : PySem.Expr → PySem.Expr → List PySem.Expr → Bool) : Bool:=r1 g fun c=>decide (c.is_async = 0) && ordX c.iter && k c.target c.iter c.ifs
noncomputable def isTC (e : PE) : Bool:=match e with | .const v=>eqVb v (.bool true) | _=>false
noncomputable def ifB (e : PE) (k : PySem.Expr → Bool) (xs : List PySem.Expr) : Bool:=match xs with | []=>isTC e | x :: r=>rNil r && k x
noncomputable def callB (x : PySem.Expr) (k : Str → List PySem.Expr → Bool) : Bool:=xCall x fun f xs kw p=>rNil kw && xs.all ordX && xName f fun n=>!sEq n dbg && k n xs
noncomputable def methB (x : PySem.Expr) (k : PySem.Expr → Str → List PySem.Expr → Bool) : Bool:=xCall x fun f xs kw p=>rNil kw && xs.all ordX && Nat.blt xs.length 30 && xAttribute f fun y n ap=>Nat.beq ap.endLine p.line && noCall y && k y n xs
noncomputable def strB (x : PySem.Expr) (k : List Nat) : Bool:=xConstant x fun c=>match c with | .str s=>lEq k s.cps.toList | _=>false
noncomputable def globB (t : Tc) (sc : Scope) (n : Str) (v : V) : Bool:=gOk t n v && nmK sc.names n .globalImplicit
noncomputable def isDead (e : PE) : Bool:=match e with | .const v=>(match v with | .none=>true | _=>false) | _=>false
mutual
noncomputable def ck (t : Tc) (cs : Scope) : PE → Ck
 | .const v=>ckP fun cp x=>xConstant x fun c=>cEq c v
 | .loc i=>ckP fun cp x=>xName x fun n=>!sEq n dbg && nmI t.tb i n && locB cs cp i n
 | .glob v=>ckP fun cp x=>xName x fun n=>!sEq n dbg && globB t (scOf cs cp) n v
 | .attr e f=>ckP fun cp x=>xAttribute x fun y n p=>(ck t cs e).e cp y && nmI t.tb f n && noCall y
 | .sub e i=>ckP fun cp x=>xSubscript x fun y z=>(ck t cs e).e cp y && (ck t cs i).e cp z && ordX z
 | .slice e lo hi=>ckP fun cp x=>xSubscript x fun y z=>(ck t cs e).e cp y && xSlice z fun a b c=>ckPart lo ((ck t cs lo).e cp) a && ckPart hi ((ck t cs hi).e cp) b && rNone c
 | .bin op l r=>ckP fun cp x=>xBinOp x fun y o z=>decide (o = opB op) && (ck t cs l).e cp y && (ck t cs r).e cp z
 | .cmp op l r =>
  let f (a b : Option Cp → PySem.Expr → Bool) : Option Cp → PySem.Expr → Bool:=fun cp x=>xCompare x fun y os zs=>r1 os fun o=>r1 zs fun z=>decide (o = opC op) && a cp y && b cp z && ordX z
  ckT (f (ck t cs l).e (ck t cs r).e) (f (ck t cs l).e (ck t cs r).e)
 | .chain o1 o2 u v w =>
  let f (a b c : Option Cp → PySem.Expr → Bool) : Option Cp → PySem.Expr → Bool:=fun cp x=>xCompare x fun y os zs=>rCons os fun p os=>r1 os fun q=>rCons zs fun z zs=>r1 zs fun k=>decide (p = opC o1) && decide (q = opC o2) && a cp y && b cp z && c cp k && ordX k
  ckT (f (ck t cs u).e (ck t cs v).e (ck t cs w).e) (f (ck t cs u).e (ck t cs v).e (ck t cs w).e)
 | .notE e=>ckT (fun cp x=>xUnaryOp x fun op y=>decide (op = .Not) && (ck t cs e).e cp y) fun cp x=>xUnaryOp x fun op y=>decide (op = .Not) && (ck t cs e).t cp y
 | .neg e=>ckP fun cp x=>isDead e || xUnaryOp x fun op y=>decide (op = .USub) && (ck t cs e).e cp y
 | .andE l r=>ckB .And (fun cp xs=>rCons xs fun x r0=>(ck t cs l).t cp x && (ck t cs r).a .And cp r0) fun cp xs=>rCons xs fun x r0=>rCons r0 fun y ys=>(ck t cs l).e cp x && (ck t cs r).b .And cp r0
 | .orE l r=>ckB .Or (fun cp xs=>rCons xs fun x r0=>(ck t cs l).t cp x && (ck t cs r).a .Or cp r0) fun cp xs=>rCons xs fun x r0=>rCons r0 fun y ys=>(ck t cs l).e cp x && (ck t cs r).b .Or cp r0
 | .ife u b o=>ckP fun cp x=>xIfExp x fun y z w=>(ck t cs u).t cp y && (ck t cs b).e cp z && (ck t cs o).e cp w
 | .listE es=>ckP fun cp x=>xList x fun xs=>ckl t cs es cp xs && xs.all ordX
 | .tupE es=>ckP fun cp x=>xTuple x fun xs=>ckl t cs es cp xs && xs.all ordX
 | .dictE ks es=>ckP fun cp x=>xDict x fun keys vs=>bif ks.isEmpty then es.isEmpty && rNil keys && rNil vs else Nat.beq ks.length es.length && keysB ks keys && ckl t cs es cp vs
 | .comp f it cnd el=>ckP fun cp x=>xListComp x fun y g sc=>scB cs cp sc && compB g fun tg z ifs=>ifB cnd ((ck t cs cnd).t (some (sc,tgs f))) ifs && tgB t.tb sc.names f tg && (ck t cs it).e cp z && (ck t cs el).e (some (sc,tgs f)) y
 | .call f es=>ckP fun cp x=>callB x fun n xs=>globB t (scOf cs cp) n (.sref f) && t.fa.any (Nat.beq f) && ckl t cs es cp xs
 | .new c es=>ckP fun cp x=>callB x fun n xs=>globB t (scOf cs cp) n (.sref c) && t.ca.any (Nat.beq c) && ckl t cs es cp xs
 | .meth o m es=>ckP fun cp x=>methB x fun y n xs=>(ck t cs o).e cp y && nmI t.tb m n && ckl t cs es cp xs
 | .replC o a b=>ckP fun cp x=>methB x fun y n xs=>sEq n (Str.ofString "replace") && (ck t cs o).e cp y && rCons xs fun u r=>r1 r fun w=>strB u a && strB w b
 | .un op e=>ckP fun cp x=>callB x fun n xs=>sEq n (unN op) && bOk t n && nmK (scOf cs cp).names n .globalImplicit && r1 xs fun y=>(ck t cs e).e cp y
 | .bm op o es=>ckP fun cp x=>methB x fun y n xs=>sEq n (bmN op) && (ck t cs o).e cp y && ckl t cs es cp xs
 | .rng2 a b=>ckP fun cp x=>callB x fun n xs=>sEq n (unN .range) && bOk t n && nmK (scOf cs cp).names n .globalImplicit && rCons xs fun y r=>r1 r fun z=>(ck t cs a).e cp y && (ck t cs b).e cp z
 | .rng3 a b e=>ckP fun cp x=>callB x fun n xs=>sEq n (unN .range) && bOk t n && nmK (scOf cs cp).names n .globalImplicit && rCons xs fun y r=>rCons r fun z r=>r1 r fun u=>(ck t cs a).e cp y && (ck t cs b).e cp z && (ck t cs e).e cp u
 | .inM e o m =>
  let f : Option Cp → PySem.Expr → Bool:=fun cp x=>xCompare x fun y os zs=>r1 os fun p=>r1 zs fun z=>decide (p = .In) && (ck t cs e).e cp y && (ck t cs o).e cp z && ordX z && nmI t.tb m "__contains__"
  ckT f f
termination_by structural e=>e
noncomputable def ckl (t : Tc) (cs : Scope) : List PE → Option Cp → List PySem.Expr → Bool
 | [],cp,xs=>rNil xs
 | e :: es,cp,xs=>rCons xs fun x r=>(ck t cs e).e cp x && ckl t cs es cp r
termination_by structural e=>e
end
end
section
open PySem.W.Fast (sEq sEq_iff lEq lEq_iff)
section
variable {W : Wd} {cx : Cx} {cs : Scope} {d : Nat} {t : Tc}
structure CkOk (W : Wd) (cx : Cx) (cs : Scope) (d : Nat) (pe : PE) (k : Ck) : Prop where
 e : ∀ cp x,(scOf cs cp).kind = .function → k.e cp x = true → OkE W cx cs cp d pe x
 t : ∀ cp x,(scOf cs cp).kind = .function → k.t cp x = true → OkT W cx cs cp d pe x
 a : ∀ op cp xs,(scOf cs cp).kind = .function → k.a op cp xs = true → OkA W cx cs cp d op pe xs
 b : ∀ op cp xs,(scOf cs cp).kind = .function → k.b op cp xs = true → OkB W cx cs cp d op pe xs
theorem ckT_ok {e : PE} {f g : Option Cp → PySem.Expr → Bool} (he : ∀ cp x,(scOf cs cp).kind = .function → f cp x = true → OkE W cx cs cp d e x) (ht : ∀ cp x,(scOf cs cp).kind = .function → g cp x = true → OkT W cx cs cp d e x) : CkOk W cx cs d e (ckT f g) :=
 ⟨he,ht,fun op cp xs hk h=>r1E (P:=fun xs=>OkA W cx cs cp d op e xs) h fun x h=>okA_one (ht cp x hk h),fun op cp xs hk h=>r1E (P:=fun xs=>OkB W cx cs cp d op e xs) h fun x h=>okB_one (he cp x hk h)⟩
theorem ckP_ok (G : GOk W cx d) {e : PE} {f : Option Cp → PySem.Expr → Bool} (hv : ∀ L σ,evT cx e L σ = (evE cx e L σ).bind fun (v,σ1)=>(truthyV cx σ1 v).map fun b=>(b,σ1)) (he : ∀ cp x,(scOf cs cp).kind = .function → f cp x = true → OkE W cx cs cp d e x) : CkOk W cx cs d e (ckP f) :=
 ckT_ok he fun cp x hk h=>an h fun h1 h2=>okT_val G (he cp x hk h2) hv (plainT_eq h1)
theorem ckB_ok {o : BoolOp} {e : PE} {a b : Option Cp → List PySem.Expr → Bool} (ha : ∀ cp xs,(scOf cs cp).kind = .function → a cp xs = true → OkA W cx cs cp d o e xs) (hb : ∀ cp xs,(scOf cs cp).kind = .function → b cp xs = true → OkB W cx cs cp d o e xs) : CkOk W cx cs d e (ckB o a b) :=
 have he : ∀ cp x,(scOf cs cp).kind = .function → (xBoolOp x fun op xs=>decide (op = o) && b cp xs) = true → OkE W cx cs cp d e x:=fun cp x hk h=>xBoolOpE h fun op xs p h=>an h fun h1 h2=>of_decide_eq_true h1 ▸ ok_bool (hb cp xs hk h2)
 have ht : ∀ cp x,(scOf cs cp).kind = .function → (xBoolOp x fun op xs=>decide (op = o) && a cp xs) = true → OkT W cx cs cp d e x:=fun cp x hk h=>xBoolOpE h fun op xs p h=>an h fun h1 h2=>of_decide_eq_true h1 ▸ okT_bool (ha cp xs hk h2)
 ⟨he,ht,fun op cp xs hk h=>(Bool.or_eq_true_iff.mp h).elim (fun h=>an h fun h1 h2=>of_decide_eq_true h1 ▸ ha cp xs hk h2) (fun h=>r1E (P:=fun xs=>OkA W cx cs cp d op e xs) h fun x h=>okA_one (ht cp x hk h)),
  fun op cp xs hk h=>(Bool.or_eq_true_iff.mp h).elim (fun h=>an h fun h1 h2=>of_decide_eq_true h1 ▸ hb cp xs hk h2) (fun h=>r1E (P:=fun xs=>OkB W cx cs cp d op e xs) h fun x h=>okB_one (he cp x hk h))⟩
theorem isNo_ok {cp : Option Cp} (h : isNo cp = true) : cp = none:=by
 cases cp with
 | none=>rfl
 | some p=>exact noB h
theorem sc_ok {cp : Option Cp} {sc : Scope} (h : scB cs cp sc = true) : ScOk cs cp sc:=by
 refine an h fun h1 h2=>?_
 have h2:=List.all_eq_true.mp h2
 refine ⟨fun x hx e=>?_,fun x hx=>?_,of_decide_eq_true h1,fun x hx e=>?_⟩
 ·exact an (h2 x hx) fun h J=>an h fun h J=>(Bool.or_eq_true_iff.mp h).elim (fun k=>absurd e (of_decide_eq_true k)) (fun k=>an k fun a b=>⟨isNo_ok a,nmK_ok b⟩)
 ·exact an (h2 x hx) fun h J=>an h fun J h=>of_decide_eq_true h
 ·refine an (h2 x hx) fun J h=>?_
  rw [e] at h
  exact nmK_ok h
theorem tgB_ok (T : TcOk W t) {l : List (Str × NameKind)} {f : Ft} {x : PySem.Expr} (h : tgB t.tb l f x = true) : TgOk W l f x:=by
 cases f with
 | one i=>exact xNameE h fun n p h=>an h fun h3 h4=>.one (T.tb ▸ nmI_ok h3) (nmK_ok h4)
theorem ckPart_ok {cp : Option Cp} {e : PE} {k : PySem.Expr → Bool} {x : Option PySem.Expr} (he : ∀ x,k x = true → OkE W cx cs cp d e x) (h : ckPart e k x = true) : OkP W cx cs cp d e x:=by
 cases x with
 | some x=>exact okP_some (he x h)
 | none =>
  cases e with
  | const v=>obtain rfl:=eqVb_ok (show eqVb v .none = true from h); exact okP_none
  | _=>exact noB h
theorem strK {c : Const} {k : List Nat} (h : (match c with | .str s=>lEq k s.cps.toList | _=>false) = true) : c = .str (toS k):=by
 cases c with
 | str s=>rw [lEq_iff.mp h]; exact congrArg Const.str (toS_ofS s).symm
 | _=>exact noB h
theorem keysB_ok : ∀ {ks : List (List Nat)} {xs : List (Option PySem.Expr)},keysB ks xs = true → All2 (fun k x=>∃ n pos,x = some (PySem.Expr.Constant (.str (toS k)) n pos)) ks xs
 | [],xs,h=>by rw [rNilE h]; exact .nil
 | k :: ks,xs,h=>rConsE (P:=fun xs=>All2 _ (k :: ks) xs) h fun x r h=>an h fun h1 h2=>.cons (rSomeE (P:=fun x=>∃ n pos,x = some (PySem.Expr.Constant (.str (toS k)) n pos)) h1 fun x h=>xConstantE (P:=fun x=>∃ n pos,some x = some (PySem.Expr.Constant (.str (toS k)) n pos)) h fun c j p h=>⟨j,p,by rw [strK h]⟩) (keysB_ok h2)
theorem compB_E {P : List Comprehension → Prop} {g : List Comprehension} {k : PySem.Expr → PySem.Expr → List PySem.Expr → Bool} (h : compB g k = true) (H : ∀ tg it ifs,ordX it = true → k tg it ifs = true → P [⟨tg,it,ifs,0⟩]) : P g:=by
 refine r1E (P:=P) h fun c h=>an h fun h h4=>an h fun h2 h3=>?_
 obtain ⟨tg,it,ifs,a⟩:=c
 obtain rfl : a = 0:=of_decide_eq_true h2
 exact H tg it ifs h3 h4
theorem ifB_ok {cp : Option Cp} {e : PE} {k : PySem.Expr → Bool} {xs : List PySem.Expr} (he : ∀ x,k x = true → OkT W cx cs cp d e x) (h : ifB e k xs = true) : OkIf W cx cs cp d e xs:=by
 cases xs with
 | nil =>
  cases e with
  | const v=>obtain rfl:=eqVb_ok (show eqVb v (.bool true) = true from h); exact .no
  | _=>exact noB h
 | cons x r =>
  refine an (show (rNil r && k x) = true from h) fun h1 h2=>?_
  obtain rfl:=rNilE h1
  exact .one (he x h2)
theorem chkCallE {P : PySem.Expr → Prop} {x : PySem.Expr} {k : Str → List PySem.Expr → Bool} (h : callB x k = true) (H : ∀ n q xs p,xs.all ordX = true → (n == ("__debug__" : Str)) = false → k n xs = true → P (.Call (.Name n q) xs [] p)) : P x:=by
 refine xCallE h fun f l kw p h=>an h fun h h3=>an h fun h1 h2=>?_
 obtain rfl:=rNilE h1
 exact xNameE (P:=fun f=>P (.Call f l [] p)) h3 fun n q h=>an h fun h4 h5=>H n q l p h2 (dbg_ok h4) h5
@[elab_as_elim] theorem chkMethE {P : PySem.Expr → Prop} {x : PySem.Expr} {k : PySem.Expr → Str → List PySem.Expr → Bool} (h : methB x k = true) (H : ∀ y n q xs p,xs.all ordX = true → Nat.blt xs.length 30 = true → Nat.beq q.endLine p.line = true → noCall y = true → k y n xs = true → P (.Call (.Attribute y n q) xs [] p)) : P x:=by
 refine xCallE h fun f l kw p h=>an h fun h h4=>an h fun h h3=>an h fun h1 h2=>?_
 obtain rfl:=rNilE h1
 exact xAttributeE (P:=fun f=>P (.Call f l [] p)) h4 fun y n q h=>an h fun h h7=>an h fun h5 h6=>H y n q l p h2 h3 h5 h6 h7
theorem glob_ok (T : TcOk W t) {cp : Option Cp} {n : Str} {v : V} {p : Pos} (hk : (scOf cs cp).kind = .function) (hd : (n == ("__debug__" : Str)) = false) (h : globB t (scOf cs cp) n v = true) : OkE W cx cs cp d (.glob v) (.Name n p) :=
 an h fun h1 h2=>let ⟨y,r,g⟩:=gOk_ok T h1; ok_glob r g (nmK_ok h2) hk hd
theorem isDead_eq {e : PE} (h : isDead e = true) : e = .const .none:=by
 cases e with
 | const v=>cases v with
  | none=>rfl
  | _=>exact noB h
 | _=>exact noB h
theorem locB_ok {cp : Option Cp} {i : Nat} {n : Str} (h : locB cs cp i n = true) : inB cs cp i n:=by
 cases cp with
 | none=>exact (Bool.or_eq_true_iff.mp h).imp nmK_ok nmK_ok
 | some p =>
  refine (Bool.or_eq_true_iff.mp h).imp (fun h=>an h fun h1 h2=>⟨?_,nmK_ok h2⟩) (fun h=>an h fun h1 h2=>⟨nmK_ok h1,nmK_ok h2⟩)
  obtain ⟨j,hj,e⟩:=List.any_eq_true.mp h1
  exact Nat.eq_of_beq_eq_true e ▸ hj
theorem csB_ok {cs : Scope} (h : csB cs = true) : CsOk cs:=by
 intro n
 have e:=cellsFrom_names cs.names n 0 [] [] rfl
 unfold csB at h
 cases q : cellsFrom 0 cs.names [] with
 | nil =>
  rw [q] at h e
  exact .inl ⟨noCell_ok h,List.map_eq_nil_iff.mp e⟩
 | cons p r =>
  rw [q] at h e
  refine an h fun h0 h=>an h fun h1 h2=>?_
  cases rNilE h0
  obtain ⟨⟨y,A⟩,l,e1,e2,e3⟩:=List.map_eq_cons_iff.mp e
  cases List.map_eq_nil_iff.mp e3
  refine .inr ⟨p.1,A,e1.trans (by rw [show p.1 = y from e2.symm]),nmK_ok h1,fun z hz hc=>?_⟩
  exact (Bool.or_eq_true_iff.mp (List.all_eq_true.mp h2 z hz)).elim (fun k=>absurd hc (of_decide_eq_true k)) sEq_iff.mp
theorem ck_ok (T : TcOk W t) (gx : GX W cx d) (e : PE) : CkOk W cx cs d e (ck t cs e):=by
 refine PE.rec (motive_1:=fun e=>CkOk W cx cs d e (ck t cs e)) (motive_2:=fun es=>∀ cp xs,(scOf cs cp).kind = .function → ckl t cs es cp xs = true → All2 (fun e x=>OkE W cx cs cp d e x) es xs)
  ?const ?loc ?glob ?attr ?sub ?slice ?bin ?cmp ?chain ?notE ?neg ?andE ?orE ?ife ?listE ?tupE ?dictE ?comp ?call ?new ?meth ?replC ?un ?bm ?rng2 ?rng3 ?inM ?nil ?cons e
 case const=>exact fun v=>ckP_ok gx.G (fun J J=>rfl) fun cp x hk h=>xConstantE h fun c j p h=>cEq_ok h
 case loc =>
  refine fun i=>ckP_ok gx.G (fun J J=>rfl) fun cp x hk h=>xNameE h fun n p h=>an h fun h h4=>an h fun h1 h2=>ok_loc (T.tb ▸ nmI_ok h2) (locB_ok h4) hk (dbg_ok h1)
 case glob=>exact fun v=>ckP_ok gx.G (fun J J=>rfl) fun cp x hk h=>xNameE h fun n p h=>an h fun h1 h2=>glob_ok T hk (dbg_ok h1) h2
 case attr=>exact fun e f ih=>ckP_ok gx.G (fun J J=>rfl) fun cp x hk h=>xAttributeE h fun y n p h=>an h fun h h3=>an h fun h1 h2=>ok_attr gx.G (T.tb ▸ nmI_ok h2) (ih.e cp y hk h1) (noCall_eq h3 n)
 case sub=>exact fun e i ih ih2=>ckP_ok gx.G (fun J J=>rfl) fun cp x hk h=>xSubscriptE h fun y z p h=>an h fun h h3=>an h fun h1 h2=>ordF h3 fun f q=>ok_sub gx.G (ih.e cp y hk h1) (ih2.e cp z hk h2) (f.sub q)
 case slice =>
  refine fun e lo hi ih ih2 ih3=>ckP_ok gx.G (fun J J=>rfl) fun cp x hk h=>xSubscriptE h fun y z p h=>an h fun h1 h2=>xSliceE (P:=fun z=>OkE W cx cs cp d _ (.Subscript y z p)) h2 fun a b c q h=>an h fun h h5=>an h fun h3 h4=>?_
  obtain rfl:=rNoneE h5
  exact ok_slice gx.G (ih.e cp y hk h1) (ckPart_ok (fun x h=>ih2.e cp x hk h) h3) (ckPart_ok (fun x h=>ih3.e cp x hk h) h4)
 case bin=>exact fun op l r ih ih2=>ckP_ok gx.G (fun J J=>rfl) fun cp x hk h=>xBinOpE h fun y o z p h=>an h fun h h3=>an h fun h1 h2=>of_decide_eq_true h1 ▸ ok_bin (ih.e cp y hk h2) (ih2.e cp z hk h3)
 case cmp =>
  refine fun op l r ih ih2=>ckT_ok (fun cp x hk h=>xCompareE h fun y os zs p h=>r1E (P:=fun os=>OkE W cx cs cp d _ (.Compare y os zs p)) h fun o h=>r1E (P:=fun zs=>OkE W cx cs cp d _ (.Compare y [o] zs p)) h fun z h=>an h fun h h4=>an h fun h h3=>an h fun h1 h2=>ordF h4 fun f q=>of_decide_eq_true h1 ▸ ok_cmp gx.G (ih.e cp y hk h2) (ih2.e cp z hk h3) (f.mark q _))
   fun cp x hk h=>xCompareE h fun y os zs p h=>r1E (P:=fun os=>OkT W cx cs cp d _ (.Compare y os zs p)) h fun o h=>r1E (P:=fun zs=>OkT W cx cs cp d _ (.Compare y [o] zs p)) h fun z h=>an h fun h h4=>an h fun h h3=>an h fun h1 h2=>ordF h4 fun f q=>of_decide_eq_true h1 ▸ okT_cmp gx.G (ih.e cp y hk h2) (ih2.e cp z hk h3) (f.mark q _)
 case chain =>
  refine fun o1 o2 u v w ih ih2 ih3=>ckT_ok (fun cp x hk h=>xCompareE h fun y os zs p h=>rConsE (P:=fun os=>OkE W cx cs cp d _ (.Compare y os zs p)) h fun a r h=>r1E (P:=fun r=>OkE W cx cs cp d _ (.Compare y (a :: r) zs p)) h fun b h=>rConsE (P:=fun zs=>OkE W cx cs cp d _ (.Compare y [a,b] zs p)) h fun z r h=>r1E (P:=fun r=>OkE W cx cs cp d _ (.Compare y [a,b] (z :: r) p)) h fun k h=>?_)
   fun cp x hk h=>xCompareE h fun y os zs p h=>rConsE (P:=fun os=>OkT W cx cs cp d _ (.Compare y os zs p)) h fun a r h=>r1E (P:=fun r=>OkT W cx cs cp d _ (.Compare y (a :: r) zs p)) h fun b h=>rConsE (P:=fun zs=>OkT W cx cs cp d _ (.Compare y [a,b] zs p)) h fun z r h=>r1E (P:=fun r=>OkT W cx cs cp d _ (.Compare y [a,b] (z :: r) p)) h fun k h=>?_
  all_goals
   refine an h fun h h6=>an h fun h h5=>an h fun h h4=>an h fun h h3=>an h fun h1 h2=>ordF h6 fun f q=>?_
   obtain rfl:=of_decide_eq_true h1
   obtain rfl:=of_decide_eq_true h2
  ·exact ok_chain gx.G (ih.e cp y hk h3) (ih2.e cp z hk h4) (ih3.e cp k hk h5) (f.mark q _)
  ·exact okT_chain gx.G (ih.e cp y hk h3) (ih2.e cp z hk h4) (ih3.e cp k hk h5) (f.mark q _)
 case notE =>
  refine fun e ih=>ckT_ok (fun cp x hk h=>xUnaryOpE h fun op y p h=>an h fun h1 h2=>?_) fun cp x hk h=>xUnaryOpE h fun op y p h=>an h fun h1 h2=>?_
  all_goals obtain rfl:=of_decide_eq_true h1
  ·exact ok_not gx.G (ih.e cp y hk h2)
  ·exact okT_not (ih.t cp y hk h2)
 case neg =>
  refine fun e ih=>ckP_ok gx.G (fun J J=>rfl) fun cp x hk h=>?_
  replace h : (isDead e || xUnaryOp x fun op y=>decide (op = .USub) && (ck t cs e).e cp y) = true:=h
  cases hd : isDead e with
  | true=>obtain rfl:=isDead_eq hd; exact ok_dead
  | false =>
   rw [hd,Bool.false_or] at h
   refine xUnaryOpE h fun op y p h=>an h fun h1 h2=>?_
   obtain rfl:=of_decide_eq_true h1
   exact ok_neg (ih.e cp y hk h2)
 case andE =>
  exact fun l r ih ih2=>ckB_ok (fun cp xs hk h=>rConsE (P:=fun xs=>OkA W cx cs cp d .And (.andE l r) xs) h fun x r0 h=>an h fun h1 h2=>okA_and (ih.t cp x hk h1) (ih2.a _ cp r0 hk h2)) fun cp xs hk h=>rConsE (P:=fun xs=>OkB W cx cs cp d .And (.andE l r) xs) h fun x r0 h=>by
   cases r0 with
   | nil=>exact noB h
   | cons y ys=>exact an h fun h1 h2=>okB_and gx.G (ih.e cp x hk h1) (ih2.b _ cp _ hk h2)
 case orE =>
  exact fun l r ih ih2=>ckB_ok (fun cp xs hk h=>rConsE (P:=fun xs=>OkA W cx cs cp d .Or (.orE l r) xs) h fun x r0 h=>an h fun h1 h2=>okA_or (ih.t cp x hk h1) (ih2.a _ cp r0 hk h2)) fun cp xs hk h=>rConsE (P:=fun xs=>OkB W cx cs cp d .Or (.orE l r) xs) h fun x r0 h=>by
   cases r0 with
   | nil=>exact noB h
   | cons y ys=>exact an h fun h1 h2=>okB_or gx.G (ih.e cp x hk h1) (ih2.b _ cp _ hk h2)
 case ife=>exact fun u b o ih ih2 ih3=>ckP_ok gx.G (fun J J=>rfl) fun cp x hk h=>xIfExpE h fun y z w p h=>an h fun h h3=>an h fun h1 h2=>ok_ife gx.G (ih.t cp y hk h1) (ih2.e cp z hk h2) (ih3.e cp w hk h3)
 case listE=>exact fun es ih=>ckP_ok gx.G (fun J J=>rfl) fun cp x hk h=>xListE h fun xs p h=>an h fun h1 h2=>ok_list (okEs_of (ih cp xs hk h1) h2).1
 case tupE=>exact fun es ih=>ckP_ok gx.G (fun J J=>rfl) fun cp x hk h=>xTupleE h fun xs j p h=>an h fun h1 h2=>ok_tup (okEs_of (ih cp xs hk h1) h2).1
 case dictE =>
  refine fun ks es ih=>ckP_ok gx.G (fun J J=>rfl) fun cp x hk h=>xDictE h fun keys vs p h=>?_
  cases ks with
  | nil =>
   refine an h fun h h3=>an h fun h1 h2=>?_
   obtain rfl:=rNilE h2
   obtain rfl:=rNilE h3
   obtain rfl : es = []:=List.isEmpty_iff.mp h1
   exact ok_dict0
  | cons k ks =>
   refine an h fun h h4=>an h fun h2 h3=>?_
   obtain ⟨l,q1,q2,q3,q4⟩:=dict_l (keysB_ok h3) (ih cp vs hk h4) (Nat.eq_of_beq_eq_true h2)
   exact ok_dict q3 q4 q1 q2 fun e=>nomatch e
 case comp =>
  refine fun f it cnd el ih ih1 ih2=>ckP_ok gx.G (fun J J=>rfl) fun cp x hk h=>xListCompE h fun y g sc p h=>an h fun h1 h2=>compB_E (P:=fun g=>OkE W cx cs cp d _ (.ListComp y g sc p)) h2 fun tg z ifs ho h=>an h fun h h6=>an h fun h h5=>an h fun h3 h4=>ordF ho fun f q=>?_
  have so:=sc_ok h1
  exact ok_comp gx.G so (tgB_ok T h4) (ih.e cp z hk h5) (ifB_ok (fun x h=>ih1.t _ x so.kind h) h3) (ih2.e _ y so.kind h6) (f.set q)
 case call =>
  refine fun f es ih=>ckP_ok gx.G (fun J J=>rfl) fun cp x hk h=>chkCallE h fun n q xs p hs hd h=>an h fun h h3=>an h fun h1 h2=>?_
  obtain ⟨o1,o2⟩:=okEs_of (ih cp xs hk h3) hs
  obtain ⟨k1,k2⟩:=T.fa f h2
  exact ok_call gx.G (glob_ok T hk hd h1) o1 k1 k2 (o2 p) fun env=>rfl
 case new =>
  refine fun c es ih=>ckP_ok gx.G (fun J J=>rfl) fun cp x hk h=>chkCallE h fun n q xs p hs hd h=>an h fun h h3=>an h fun h1 h2=>?_
  obtain ⟨o1,o2⟩:=okEs_of (ih cp xs hk h3) hs
  obtain ⟨k1,k2⟩:=T.ca c h2
  exact ok_new gx.G (glob_ok T hk hd h1) o1 k1 k2 gx.init (o2 p) fun env=>rfl
 case meth =>
  refine fun o m es ih ih2=>ckP_ok gx.G (fun J J=>rfl) fun cp x hk h=>chkMethE h fun y n q xs p hs hl hp hc h=>an h fun h h3=>an h fun h1 h2=>?_
  obtain ⟨o1,o2⟩:=okEs_of (ih2 cp xs hk h3) hs
  exact ok_meth gx.G gx.fn (T.tb ▸ nmI_ok h2) (ih.e cp y hk h1) o1 (o2 p) (methArm hc o2 hl hp)
 case replC =>
  refine fun o a b ih=>ckP_ok gx.G (fun J J=>rfl) fun cp x hk h=>chkMethE h fun y n q xs p hs hl hp hc h=>an h fun h h3=>an h fun h1 h2=>?_
  obtain rfl:=sEq_iff.mp h1
  refine rConsE (P:=fun xs=>xs.all ordX = true → Nat.blt xs.length 30 = true → OkE W cx cs cp d _ (.Call (.Attribute y _ q) xs [] p)) h3 (fun u r h=>r1E (P:=fun r=>(u :: r).all ordX = true → Nat.blt (u :: r).length 30 = true → OkE W cx cs cp d _ (.Call (.Attribute y _ q) (u :: r) [] p)) h fun w h=>an h fun h4 h5=>?_) hs hl
  refine xConstantE (P:=fun u=>[u,w].all ordX = true → Nat.blt [u,w].length 30 = true → OkE W cx cs cp d _ (.Call (.Attribute y _ q) [u,w] [] p)) h4 fun c1 j1 p1 h4=>xConstantE (P:=fun w=>[PySem.Expr.Constant c1 j1 p1,w].all ordX = true → Nat.blt [PySem.Expr.Constant c1 j1 p1,w].length 30 = true → OkE W cx cs cp d _ (.Call (.Attribute y _ q) [.Constant c1 j1 p1,w] [] p)) h5 fun c2 j2 p2 h5 hs hl=>?_
  obtain rfl:=strK h4
  obtain rfl:=strK h5
  exact ok_repl rfl rfl (ih.e cp y hk h2) (methArm hc (fun pos env=>rfl) hl hp)
 case un =>
  refine fun op e ih=>ckP_ok gx.G (fun J J=>rfl) fun cp x hk h=>chkCallE h fun n q xs p hs hd h=>an h fun h h4=>an h fun h h3=>an h fun h1 h2=>?_
  obtain rfl:=sEq_iff.mp h1
  have u:=un_boot op
  refine r1E (P:=fun xs=>xs.all ordX = true → OkE W cx cs cp d _ (.Call (.Name (unN op) q) xs [] p)) h4 (fun y h hs=>an (show (ordX y && true) = true from hs) fun ho J=>ordF ho fun f z=>?_) hs
  exact ok_fn1 (e:=e) (fun J J=>evE_un) ⟨bOk_ok T h2,u.v,u.n,nmK_ok h3,hk,hd⟩ u.r (un_val gx.G op) (ih.e cp y hk h) (f.star z []) fun env=>rfl
 case bm =>
  refine fun op o es ih ih2=>ckP_ok gx.G (fun J J=>rfl) fun cp x hk h=>chkMethE h fun y n q xs p hs hl hp hc h=>an h fun h h3=>an h fun h1 h2=>?_
  obtain rfl:=sEq_iff.mp h1
  obtain ⟨o1,o2⟩:=okEs_of (ih2 cp xs hk h3) hs
  exact ok_bm (fun L σ r σ' ee=>bd2 (evE_bm.symm.trans ee) fun ov σ1 e1 e=>bif_E e fun e2 e=>bd2 e fun vs σ2 e3 e4=>⟨ov,σ1,vs,σ2,e1,e2,e3,e4⟩) (bm_get op) (bm_val gx.G op) (ih.e cp y hk h2) o1 (o2 p) (methArm hc o2 hl hp)
 case rng2 =>
  refine fun a b ih ih2=>ckP_ok gx.G (fun J J=>rfl) fun cp x hk h=>chkCallE h fun n q xs p hs hd h=>an h fun h h4=>an h fun h h3=>an h fun h1 h2=>?_
  obtain rfl:=sEq_iff.mp h1
  have u:=un_boot .range
  refine rConsE (P:=fun xs=>xs.all ordX = true → OkE W cx cs cp d _ (.Call (.Name (unN .range) q) xs [] p)) h4 (fun y r h=>r1E (P:=fun r=>(y :: r).all ordX = true → OkE W cx cs cp d _ (.Call (.Name (unN .range) q) (y :: r) [] p)) h fun z h hs=>an (show (ordX y && (ordX z && true)) = true from hs) fun hy hz=>an hz fun hz J=>an h fun h5 h6=>ordF hy fun f w=>ordF hz fun f2 w2=>?_) hs
  exact ok_rng2 ⟨bOk_ok T h2,u.v,u.n,nmK_ok h3,hk,hd⟩ (ih.e cp y hk h5) (ih2.e cp z hk h6) (f.star w [z]) (f2.star w2 []) fun env=>rfl
 case rng3 =>
  refine fun a b e ih ih2 ih3=>ckP_ok gx.G (fun J J=>rfl) fun cp x hk h=>chkCallE h fun n q xs p hs hd h=>an h fun h h4=>an h fun h h3=>an h fun h1 h2=>?_
  obtain rfl:=sEq_iff.mp h1
  have u:=un_boot .range
  refine rConsE (P:=fun xs=>xs.all ordX = true → OkE W cx cs cp d _ (.Call (.Name (unN .range) q) xs [] p)) h4 (fun y r h=>rConsE (P:=fun r=>(y :: r).all ordX = true → OkE W cx cs cp d _ (.Call (.Name (unN .range) q) (y :: r) [] p)) h fun z r h=>r1E (P:=fun r=>(y :: z :: r).all ordX = true → OkE W cx cs cp d _ (.Call (.Name (unN .range) q) (y :: z :: r) [] p)) h fun o h hs=>an (show (ordX y && (ordX z && (ordX o && true))) = true from hs) fun hy hz=>an hz fun hz ho=>an ho fun ho J=>an h fun h h7=>an h fun h5 h6=>ordF hy fun f w=>ordF hz fun f2 w2=>ordF ho fun f3 w3=>?_) hs
  exact ok_rng3 ⟨bOk_ok T h2,u.v,u.n,nmK_ok h3,hk,hd⟩ (ih.e cp y hk h5) (ih2.e cp z hk h6) (ih3.e cp o hk h7) (f.star w [z,o]) (f2.star w2 [o]) (f3.star w3 []) fun env=>rfl
 case inM =>
  exact fun e o m ih ih2=>ckT_ok (fun cp x hk h=>xCompareE h fun y os zs p h=>r1E (P:=fun os=>OkE W cx cs cp d _ (.Compare y os zs p)) h fun o' h=>r1E (P:=fun zs=>OkE W cx cs cp d _ (.Compare y [o'] zs p)) h fun z h=>an h fun h h5=>an h fun h h4=>an h fun h h3=>an h fun h1 h2=>ordF h4 fun f q=>of_decide_eq_true h1 ▸ ok_inM gx.G (T.tb ▸ nmI_ok h5) (ih.e cp y hk h2) (ih2.e cp z hk h3) (f.mark q _))
   (fun cp x hk h=>xCompareE h fun y os zs p h=>r1E (P:=fun os=>OkT W cx cs cp d _ (.Compare y os zs p)) h fun o' h=>r1E (P:=fun zs=>OkT W cx cs cp d _ (.Compare y [o'] zs p)) h fun z h=>an h fun h h5=>an h fun h h4=>an h fun h h3=>an h fun h1 h2=>ordF h4 fun f q=>of_decide_eq_true h1 ▸ okT_inM gx.G (T.tb ▸ nmI_ok h5) (ih.e cp y hk h2) (ih2.e cp z hk h3) (f.mark q _))
 case nil=>exact fun cp xs hk h=>by rw [rNilE h]; exact .nil
 case cons=>exact fun e es ih ih2 cp xs hk h=>rConsE (P:=fun xs=>All2 _ (e :: es) xs) h fun x r h=>an h fun h1 h2=>.cons (ih.e cp x hk h1) (ih2 cp r hk h2)
end
end
section
open PySem.W.Fast (sEq sEq_iff lEq lEq_iff)
noncomputable def ckTg (t : Tc) (cs : Scope) (g : Tg) (x : PySem.Expr) : Bool:=match g with
 | .l i=>xName x fun n=>nmI t.tb i n && locB cs none i n
 | .a o f=>xAttribute x fun y n p=>(ck t cs o).e none y && nmI t.tb f n
noncomputable def ckTgs (t : Tc) (cs : Scope) : List Tg → List PySem.Expr → Bool
 | [],xs=>rNil xs
 | g :: gs,xs=>rCons xs fun x r=>ckTg t cs g x && ckTgs t cs gs r
noncomputable def addSub (op : BOp) : Bool:=match op with | .add=>true | .sub=>true | _=>false
noncomputable def sAssert (st : Stmt) (k : PySem.Expr → Bool) : Bool:=match st with | .Assert x m p=>(match m with | none=>k x | some _=>false) | _=>false
theorem sAssertE {st : Stmt} {k : PySem.Expr → Bool} {P : Stmt → Prop} (h : sAssert st k = true) (H : ∀ x p,k x = true → P (.Assert x none p)) : P st:=by
 cases st with
 | Assert x m p=>cases m with
  | none=>exact H x p h
  | some _=>exact noB h
 | _=>exact noB h
noncomputable def isDeadS (s : PS) : Bool:=match s with | .expr e=>(match e with | .neg e=>isDead e | _=>false) | _=>false
noncomputable def isGc (s : PS) : Bool:=match s with | .gc _=>true | _=>false
noncomputable def asgK (t : Tc) (cs : Scope) (g : Tg) (e : PE) (x y : PySem.Expr) : Bool:=match g with
 | .l i=>(match e with
  | .comp _ _ _ _=>xName x fun n=>nmI t.tb i n && nmK cs.names n .local && xListComp y fun J J sc=>(x.pos.line == y.pos.line) && !(sc.names.any fun p=>p.1 == n && (p.2 == .local || p.2 == .cell))
  | _=>false)
 | _=>false
noncomputable def asgC (t : Tc) (cs : Scope) (g : Tg) (e : PE) (st : Stmt) : Bool:=sAssign st fun xs y=>(ck t cs e).e none y && r1 xs fun x=>(noComp y && ckTg t cs g x) || asgK t cs g e x y
noncomputable def asgNB (t : Tc) (cs : Scope) (i : Nat) (s : Stmt) (k : PySem.Expr → Bool) : Bool:=sAssign s fun xs y=>r1 xs fun x=>xName x fun n=>nmI t.tb i n && nmK cs.names n .local && noComp y && k y
noncomputable def isCN (y : PySem.Expr) : Bool:=xConstant y fun c=>match c with | .none=>true | _=>false
noncomputable def hdB (h : ExceptHandler) (k : Str → Stmt → Bool) : Bool:=match h with | .ExceptHandler ty nm b p=>(match nm with | some _=>false | none=>rSome ty fun x=>xName x fun n=>r1 b fun s=>k n s)
noncomputable def tryB (t : Tc) (cs : Scope) (i j m : Nat) (o e : PE) (st : Stmt) : Bool:=match st with
 | .Try b hs oe fb p=>rNil oe && rNil fb && rCons b fun s1 r=>r1 r fun s2=>r1 hs fun hd=>hdB hd fun kn s3 =>
  sEq kn (Str.ofString "KeyError") && bOk t kn && nmK cs.names kn .globalImplicit && asgNB t cs i s3 isCN && asgNB t cs i s1 (fun y=>methB y fun oy n xs=>(ck t cs o).e none oy && nmI t.tb m n && r1 xs fun ex=>(ck t cs e).e none ex) && asgC t cs (.l j) (.un .len (.loc i)) s2 && noCell cs.names
 | _=>false
mutual
noncomputable def ckS (t : Tc) (cs : Scope) : PS → Stmt → Bool
 | .expr e,st=>sExpr st fun x=>(ck t cs e).e none x && noComp x
 | .assign g e,st=>asgC t cs g e st
 | .assignT gs e,st=>sAssign st fun xs y=>(ck t cs e).e none y && noComp y && r1 xs fun x=>xTuple x fun l=>noTup y && ckTgs t cs gs l
 | .augL i op e,st=>sAugAssign st fun x o y=>decide (o = opB op) && addSub op && (ck t cs e).e none y && xName x fun n=>nmI t.tb i n && nmK cs.names n .local
 | .augA u f op e,st=>sAugAssign st fun x o y=>decide (o = opB op) && addSub op && (ck t cs e).e none y && xAttribute x fun z n p=>(ck t cs u).e none z && nmI t.tb f n
 | .augS u i op e,st=>sAugAssign st fun x o y=>decide (o = opB op) && addSub op && (ck t cs e).e none y && xSubscript x fun z w=>(ck t cs u).e none z && (ck t cs i).e none w && ordX w
 | .ifs u b o,st=>sIf st fun x p q=>(ck t cs u).t none x && ckSs t cs b p && ckSs t cs o q
 | .whiles u b,st=>sWhile st fun x p q=>(ck t cs u).t none x && ckSs t cs b p && rNil q
 | .fors f it b,st=>sFor st fun x y p q=>(ck t cs it).e none y && ckSs t cs b p && rNil q && tgB t.tb cs.names f x && ordX y
 | .ret e,st=>sReturn st fun x=>rSome x fun x=>(ck t cs e).e none x
 | .brk,st=>sBreak st true
 | .cont,st=>sContinue st true
 | .pass,st=>sPass st true
 | .gc k,st=>false
 | .asrt e,st=>sAssert st fun x=>(ck t cs e).t none x
 | .tryC i j o m e,st=>tryB t cs i j m o e st
 | .retf e,st=>sReturn st fun x=>rSome x fun x=>(ck t cs e).e none x
termination_by structural s=>s
noncomputable def ckSs (t : Tc) (cs : Scope) : List PS → List Stmt → Bool
 | [],sts=>rNil sts
 | s :: ss,sts=>bif isGc s then ckSs t cs ss sts else bif isDeadS s then true else rCons sts fun st r=>ckS t cs s st && ckSs t cs ss r
termination_by structural s=>s
end
section
variable {W : Wd} {cx : Cx} {cs : Scope} {d : Nat} {t : Tc}
theorem addSub_ok {op : BOp} (h : addSub op = true) : op = .add ∨ op = .sub:=by
 cases op with
 | add=>exact .inl rfl
 | sub=>exact .inr rfl
 | _=>exact noB h
structure TgX (W : Wd) (cx : Cx) (cs : Scope) (d : Nat) (g : Tg) (x : PySem.Expr) : Prop where
 ok : OkTg W cx cs d g x
 sw : ∀ y env,swappedStores [x] y env = pure none
 ea : ∀ xs env,assignEach (x :: xs) env = (false,assign x env) :: assignEach xs env
theorem ckTg_ok (T : TcOk W t) (gx : GX W cx d) (hk : cs.kind = .function) {g : Tg} {x : PySem.Expr} (h : ckTg t cs g x = true) : TgX W cx cs d g x:=by
 cases g with
 | l i=>exact xNameE h fun n p h=>an h fun h1 h2=>⟨okTg_l gx.G (T.tb ▸ nmI_ok h1) (locB_ok h2),fun J J=>rfl,fun J J=>rfl⟩
 | a o f=>exact xAttributeE h fun y n p h=>an h fun h1 h2=>⟨okTg_a gx.G (T.tb ▸ nmI_ok h2) ((ck_ok T gx o).e none y hk h1),fun J J=>rfl,fun J J=>rfl⟩
theorem ckTgs_ok (T : TcOk W t) (gx : GX W cx d) (hk : cs.kind = .function) : ∀ {gs : List Tg} {xs : List PySem.Expr},ckTgs t cs gs xs = true → All2 (OkTg W cx cs d) gs xs ∧ ∀ env,assignEach xs env = xs.map fun e=>(false,assign e env)
 | [],xs,h=>by rw [rNilE h]; exact ⟨.nil,fun J=>rfl⟩
 | g :: gs,xs,h=>rConsE (P:=fun xs=>All2 (OkTg W cx cs d) (g :: gs) xs ∧ ∀ env,assignEach xs env = xs.map fun e=>(false,assign e env)) h fun x r h=>an h fun h1 h2 =>
  let x1:=ckTg_ok T gx hk h1
  let x2:=ckTgs_ok T gx hk h2
  ⟨.cons x1.ok x2.1,fun env=>(x1.ea r env).trans (congrArg (_ :: ·) (x2.2 env))⟩
@[elab_as_elim] theorem asgNB_E {P : Stmt → Prop} {i : Nat} {s : Stmt} {k : PySem.Expr → Bool} (h : asgNB t cs i s k = true) (H : ∀ n np y p,nmI t.tb i n = true → nmK cs.names n .local = true → noComp y = true → k y = true → P (.Assign [.Name n np] y p)) : P s :=
 sAssignE h fun xs y p h=>r1E (P:=fun xs=>P (.Assign xs y p)) h fun x h=>xNameE (P:=fun x=>P (.Assign [x] y p)) h fun n np h=>an h fun h h4=>an h fun h h3=>an h fun h1 h2=>H n np y p h1 h2 h3 h4
@[elab_as_elim] theorem isCN_E {P : PySem.Expr → Prop} {y : PySem.Expr} (h : isCN y = true) (H : ∀ k p,P (.Constant .none k p)) : P y:=xConstantE h fun c j p h=>by
 cases c with
 | none=>exact H j p
 | _=>exact noB h
theorem tryBE {P : Stmt → Prop} {i j m : Nat} {o e : PE} {st : Stmt} (h : tryB t cs i j m o e st = true) (H : ∀ s1 s2 n np s3 hp p,sEq n (Str.ofString "KeyError") = true → bOk t n = true → nmK cs.names n .globalImplicit = true → asgNB t cs i s3 isCN = true →
 asgNB t cs i s1 (fun y=>methB y fun oy n xs=>(ck t cs o).e none oy && nmI t.tb m n && r1 xs fun ex=>(ck t cs e).e none ex) = true → asgC t cs (.l j) (.un .len (.loc i)) s2 = true → noCell cs.names = true → P (.Try [s1,s2] [.ExceptHandler (some (.Name n np)) none [s3] hp] [] [] p)) : P st:=by
 cases st with
 | Try b hs oe fb p =>
  refine an (show (rNil oe && rNil fb && _) = true from h) fun h h3=>an h fun h1 h2=>?_
  rw [rNilE h1,rNilE h2]
  refine rConsE (P:=fun b=>P (.Try b hs [] [] p)) h3 fun s1 r h=>r1E (P:=fun r=>P (.Try (s1 :: r) hs [] [] p)) h fun s2 h=>r1E (P:=fun hs=>P (.Try [s1,s2] hs [] [] p)) h fun hd h=>?_
  cases hd with
  | ExceptHandler ty nm b hp =>
   cases nm with
   | some _=>exact noB h
   | none=>exact rSomeE (P:=fun ty=>P (.Try [s1,s2] [.ExceptHandler ty none b hp] [] [] p)) h fun x h=>xNameE (P:=fun x=>P (.Try [s1,s2] [.ExceptHandler (some x) none b hp] [] [] p)) h fun n np h=>r1E (P:=fun b=>P (.Try [s1,s2] [.ExceptHandler (some (.Name n np)) none b hp] [] [] p)) h fun s3 h=>an h fun h h0=>an h fun h h9=>an h fun h h8=>an h fun h h7=>an h fun h h6=>an h fun h4 h5=>H s1 s2 n np s3 hp p h4 h5 h6 h7 h8 h9 h0
 | _=>exact noB h
theorem ke_boot : bootBuiltins (Str.ofString "KeyError") = some (.type "KeyError"):=by boot_by_name
theorem tryB_ok (T : TcOk W t) (gx : GX W cx d) (hk : cs.kind = .function) {i j m : Nat} {o e : PE} {st : Stmt} (h : tryB t cs i j m o e st = true) (h2 : ∀ s,asgC t cs (.l j) (.un .len (.loc i)) s = true → OkS W cx cs d (.assign (.l j) (.un .len (.loc i))) s) : OkS W cx cs d (.tryC i j o m e) st:=by
 refine tryBE h fun s1 s2 n np s3 hp p h4 h5 h6 h7 h8 h9 h0=>?_
 obtain rfl:=sEq_iff.mp h4
 refine asgNB_E h7 fun n3 np3 y3 p3 a1 a2 a3 a4=>asgNB_E h8 fun n1 np1 y1 p1 b1 b2 b3 b4=>?_
 have e2:=T.tb ▸ nmI_ok b1
 obtain rfl:=Option.some.inj ((T.tb ▸ nmI_ok a1).symm.trans e2)
 revert a3
 refine isCN_E a4 fun kk kp a3=>?_
 revert b3
 refine chkMethE b4 fun oy n q xs cp hs hl hq hc h b3=>an h fun h h12=>an h fun h10 h11=>?_
 revert hs hl b3
 refine r1E h12 fun ex h13 hs hl b3=>an (show (ordX ex && true) = true from hs) fun ho J=>ordF ho fun f z=>?_
 exact okS_tryC gx.G gx.fnX (noCell_ok h0) (T.tb ▸ nmI_ok h11) e2 (nmK_ok b2) ⟨bOk_ok T h5,ke_boot,by decide,nmK_ok h6,hk,by kernel_rfl⟩ ((ck_ok T gx o).e none oy hk h10) ((ck_ok T gx e).e none ex hk h13) (f.star z []) (methArm hc (fun pos env=>by rw [f.star z []]; rfl) hl hq)
  (fun env=>noComp_eq b3 (some (.Name n3 np1)) p1.line env) (fun J=>rfl) (fun J=>rfl) (h2 s2 h9) (fun env=>noComp_eq a3 (some (.Name n3 np3)) p3.line env) (fun J=>rfl) (fun J=>rfl)
theorem asgK_ok (T : TcOk W t) (gx : GX W cx d) (hk : cs.kind = .function) {g : Tg} {e : PE} {x y : PySem.Expr} {p : Pos} (h0 : (ck t cs e).e none y = true) (h : asgK t cs g e x y = true) : OkS W cx cs d (.assign g e) (.Assign [x] y p):=by
 cases g with
 | a o f=>exact noB h
 | l i=>cases e with
  | comp f it cnd el =>
   refine xNameE (P:=fun x'=>x = x' → OkS W cx cs d (.assign (.l i) (.comp f it cnd el)) (.Assign [x'] y p)) h (fun n np h ex=>an h fun h h3=>an h fun h1 h2=>?_) rfl
   subst ex
   revert h3
   refine xListCompE (P:=fun y=>xListComp y (fun J J sc=>(np.line == y.pos.line) && !(sc.names.any fun p=>p.1 == n && (p.2 == .local || p.2 == .cell))) = true → OkS W cx cs d (.assign (.l i) (.comp f it cnd el)) (.Assign [.Name n np] y p)) h0 fun y g sc q h h3=>an (show ((np.line == q.line) && !(sc.names.any fun p=>p.1 == n && (p.2 == .local || p.2 == .cell))) = true from h3) fun h7 h8=>an h fun h4 h=>?_
   have so:=sc_ok h4
   exact compB_E (P:=fun g=>OkS W cx cs d _ (.Assign [.Name n np] (.ListComp y g sc q) p)) h fun tg z ifs ho h=>an h fun h h6=>an h fun h h5=>an h fun h3 h4=>ordF ho fun f q =>
    okS_assignC gx.G so (tgB_ok T h4) ((ck_ok T gx it).e none z hk h5) (ifB_ok (fun x h=>(ck_ok T gx cnd).t _ x so.kind h) h3) ((ck_ok T gx el).e _ y so.kind h6) (f.set q) (T.tb ▸ nmI_ok h1) (nmK_ok h2) hk h7 (nt h8)
  | _=>exact noB h
theorem asgC_ok (T : TcOk W t) (gx : GX W cx d) (hk : cs.kind = .function) {g : Tg} {e : PE} {st : Stmt} (h : asgC t cs g e st = true) : OkS W cx cs d (.assign g e) st :=
 sAssignE h fun xs y p h=>an h fun h1 h3=>r1E (P:=fun xs=>OkS W cx cs d (.assign g e) (.Assign xs y p)) h3 fun x h=>(Bool.or_eq_true_iff.mp h).elim
  (fun h=>an h fun h2 h =>
   let x1:=ckTg_ok T gx hk h
   okS_assign (pos:=p) x1.ok ((ck_ok T gx e).e none y hk h1) (fun env=>noComp_eq h2 (some x) p.line env) (fun env=>x1.sw y env) (fun env=>x1.ea [] env))
  fun h=>asgK_ok T gx hk h1 h
theorem okSs_deadC {s : PS} {ss : List PS} {sts : List Stmt} (h : isDeadS s = true) : OkSs W cx cs d (s :: ss) sts:=by
 cases s with
 | expr e=>cases e with
  | neg e =>
   obtain rfl:=isDead_eq h
   refine ⟨?_⟩
   intro c hc ok m X L σ ps h tk fl L' σ' Q E g dr os z hz S lr ht hl pz ee H
   exact noE ee
  | _=>exact noB h
 | _=>exact noB h
theorem ckS_ok (T : TcOk W t) (gx : GX W cx d) (hk : cs.kind = .function) (ss : List PS) : ∀ sts,ckSs t cs ss sts = true → OkSs W cx cs d ss sts:=by
 have E : ∀ (e : PE) (x : PySem.Expr),(ck t cs e).e none x = true → OkE W cx cs none d e x:=fun e x h=>(ck_ok T gx e).e none x hk h
 have C : ∀ (e : PE) (x : PySem.Expr),(ck t cs e).t none x = true → OkT W cx cs none d e x:=fun e x h=>(ck_ok T gx e).t none x hk h
 refine PS.rec_1 (motive_1:=fun s=>isGc s = false → ∀ st,ckS t cs s st = true → OkS W cx cs d s st) (motive_2:=fun ss=>∀ sts,ckSs t cs ss sts = true → OkSs W cx cs d ss sts)
  ?expr ?assign ?assignT ?augL ?augA ?augS ?ifs ?whiles ?fors ?asrt ?tryC ?ret ?brk ?cont ?pass ?gc ?retf ?nil ?cons ss
 case expr =>
  exact fun e J st h=>sExprE h fun x p h=>an h fun h1 h2=>okS_expr (E e x h1) (noComp_eq h2 _ _)
 case assign =>
  exact fun g e J st h=>asgC_ok T gx hk h
 case assignT =>
  refine fun g e J st h=>sAssignE h fun xs y p h=>an h fun h h4=>an h fun h1 h2=>r1E (P:=fun xs=>OkS W cx cs d (.assignT g e) (.Assign xs y p)) h4 fun x h=>xTupleE (P:=fun x=>OkS W cx cs d (.assignT g e) (.Assign [x] y p)) h fun l n q h=>?_
  exact an h fun h3 h =>
   let x1:=ckTgs_ok T gx hk h
   okS_assignT (pos:=p) gx.G x1.1 (E e y h1) (fun env=>noComp_eq h2 (some (.Tuple l n q)) p.line env) (noTup_eq h3 l n q) x1.2
 case augL =>
  exact fun i op e J st h=>sAugAssignE h fun x o y p h=>an h fun h h4=>an h fun h h3=>an h fun h1 h2=>xNameE (P:=fun x=>OkS W cx cs d (.augL i op e) (.AugAssign x o y p)) h4 fun n q h=>an h fun h5 h6=>of_decide_eq_true h1 ▸ okS_augL gx.G (addSub_ok h2) (T.tb ▸ nmI_ok h5) (nmK_ok h6) (E e y h3)
 case augA =>
  exact fun u f op e J st h=>sAugAssignE h fun x o y p h=>an h fun h h4=>an h fun h h3=>an h fun h1 h2=>xAttributeE (P:=fun x=>OkS W cx cs d (.augA u f op e) (.AugAssign x o y p)) h4 fun z n q h=>an h fun h5 h6=>of_decide_eq_true h1 ▸ okS_augA gx.G (addSub_ok h2) (T.tb ▸ nmI_ok h6) (E u z h5) (E e y h3)
 case augS =>
  exact fun u i op e J st h=>sAugAssignE h fun x o y p h=>an h fun h h4=>an h fun h h3=>an h fun h1 h2=>xSubscriptE (P:=fun x=>OkS W cx cs d (.augS u i op e) (.AugAssign x o y p)) h4 fun z w q h=>an h fun h h7=>an h fun h5 h6=>ordF h7 fun f g=>of_decide_eq_true h1 ▸ okS_augS gx.G (addSub_ok h2) (E u z h5) (E i w h6) (E e y h3) (f.aug g)
 case ifs =>
  exact fun u b o ih ih2 J st h=>sIfE h fun x p q l h=>an h fun h h3=>an h fun h1 h2=>okS_if (C u x h1) (ih p h2) (ih2 q h3)
 case whiles =>
  exact fun u b ih J st h=>sWhileE h fun x p q l h=>an h fun h h3=>an h fun h1 h2=>rNilE h3 ▸ okS_while (C u x h1) (ih p h2)
 case fors =>
  exact fun f it b ih J st h=>sForE h fun x y p q l h=>an h fun h h5=>an h fun h h4=>an h fun h h3=>an h fun h1 h2=>ordF h5 fun f g=>rNilE h3 ▸ okS_for gx.G (tgB_ok T h4) (E it y h1) (ih p h2) (f.set g)
 case asrt =>
  exact fun e J st h=>sAssertE h fun x p h=>okS_asrt (C e x h)
 case tryC =>
  exact fun i j o m e J st h=>tryB_ok T gx hk h fun s h=>asgC_ok T gx hk h
 case ret =>
  exact fun e J st h=>sReturnE h fun x p h=>rSomeE (P:=fun x=>OkS W cx cs d (.ret e) (.Return x p)) h fun x h=>okS_ret (E e x h)
 case brk =>
  exact fun J st h=>sBreakE h fun p J=>okS_brk
 case cont =>
  exact fun J st h=>sContinueE h fun p J=>okS_cont
 case pass =>
  exact fun J st h=>sPassE h fun p J=>okS_pass
 case gc =>
  exact fun k h=>noB h.symm
 case retf =>
  exact fun e J st h=>sReturnE h fun x p h=>rSomeE (P:=fun x=>OkS W cx cs d (.retf e) (.Return x p)) h fun x h=>okS_retf (E e x h)
 case nil =>
  exact fun sts h=>by rw [rNilE h]; exact okSs_nil
 case cons =>
  intro s ss ih ih2 sts h
  have h : (bif isGc s then ckSs t cs ss sts else bif isDeadS s then true else rCons sts fun st r=>ckS t cs s st && ckSs t cs ss r) = true:=h
  cases q : isGc s with
  | true =>
   rw [q] at h
   cases s with
   | gc k=>exact okSs_gc (ih2 sts h)
   | _=>exact noB q
  | false =>
   rw [q] at h
   cases q2 : isDeadS s with
   | true=>exact okSs_deadC q2
   | false =>
   rw [q2] at h
   exact rConsE (P:=fun sts=>OkSs W cx cs d (s :: ss) sts) h fun st r h=>an h fun h1 h2=>okSs_cons (ih q st h1) (ih2 r h2)
end
end
section
open PySem.W.Fast (sEq sEq_iff lEq lEq_iff)
theorem getK_mem {β : Type} {k : Nat} {v : β} : ∀ {l : List (Nat × β)},getK k l = some v → (k,v) ∈ l
 | [],h=>noE h
 | (i,w) :: r,h=>by
  have h1 : (bif Nat.beq i k then some w else getK k r) = some v:=h
  cases hb : Nat.beq i k with
  | true =>
   rw [hb] at h1
   obtain rfl : w = v:=Option.some.inj h1
   rw [Nat.eq_of_beq_eq_true hb]
   exact .head _
  | false=>rw [hb] at h1; exact .tail _ (getK_mem h1)
theorem two_mem {β : Type} {l : List (Nat × List (Nat × β))} {a b : Nat} {v : β} (h : two l a b = some v) {f : Nat → Nat → β → Bool} (hf : (l.all fun p=>p.2.all fun q=>f p.1 q.1 q.2) = true) : f a b v = true:=by
 unfold two at h
 cases q : getK a l with
 | none=>rw [q] at h; exact noE h
 | some r =>
  rw [q] at h
  exact List.all_eq_true.mp (List.all_eq_true.mp hf _ (getK_mem q)) _ (getK_mem h)
theorem twoI_mem {l : List (Nat × List Nat)} {a b : Nat} (h : twoI l a b = true) {f : Nat → Nat → Bool} (hf : (l.all fun p=>p.2.all fun q=>f p.1 q) = true) : f a b = true:=by
 unfold twoI at h
 cases q : getK a l with
 | none=>rw [q] at h; exact noB h
 | some r =>
  rw [q] at h
  exact List.all_eq_true.mp (List.all_eq_true.mp hf _ (getK_mem q)) _ (List.contains_iff_mem.mp h)
noncomputable def vrB (v : V) (y : Value) : Bool:=match v with
 | .none=>decide (y = .none)
 | .bool b=>decide (y = .bool b)
 | .int i=>(match y with | .int j _=>decide (i = j) | _=>false)
 | .str s=>(match y with | .str x _=>lEq s x.cps.toList && Nat.ble s.length 100000 | _=>false)
 | .sref a=>decide (y = .ref a)
 | _=>false
theorem vrB_ok {hs : HS} {v : V} {y : Value} (h : vrB v y = true) : VR hs v y:=by
 cases v with
 | none=>rw [of_decide_eq_true h]; exact .none
 | bool b=>rw [of_decide_eq_true h]; exact .bool b
 | sref b=>rw [of_decide_eq_true h]; exact .sref b
 | int i=>cases y with
  | int j t=>obtain rfl : i = j:=of_decide_eq_true h; exact .int i t
  | _=>exact noB h
 | str s=>cases y with
  | str x t =>
   refine an (show (lEq s x.cps.toList && Nat.ble s.length 100000) = true from h) fun h1 h2=>?_
   have e : x = toS s:=by rw [lEq_iff.mp h1]; exact (toS_ofS x).symm
   rw [e]
   exact .str s t (Nat.le_of_ble_eq_true h2)
  | _=>exact noB h
 | _=>exact noB h
noncomputable def vrL : List V → List Value → Bool
 | [],ys=>rNil ys
 | v :: vs,ys=>rCons ys fun y r=>vrB v y && vrL vs r
theorem vrL_ok {hs : HS} : ∀ {vs : List V} {ys : List Value},vrL vs ys = true → All2 (VR hs) vs ys
 | [],ys,h=>by rw [rNilE h]; exact .nil
 | v :: vs,ys,h=>rConsE (P:=fun ys=>All2 (VR hs) (v :: vs) ys) h fun y r h=>an h fun h1 h2=>.cons (vrB_ok h1) (vrL_ok h2)
noncomputable def glB (K : Frag) (p : Str × Option V) : Bool:=match p.2 with
 | some v=>(match nsIn K mainGlobals p.1 with | some o=>rSome o fun y=>vrB v y | none=>false)
 | none=>(match nsIn K mainGlobals p.1 with | some o=>rNone o | none=>false)
noncomputable def tcB (K : Frag) (t : Tc) : Bool:=t.gl.all (glB K) && t.fa.all (fun f=>keepIn K (.ref f) && Nat.blt f 1000000) && t.ca.all fun c=>keepIn K (.ref c) && makesIn K c
theorem glB_some {K : Frag} {x : Str} {v : V} (h : glB K (x,some v) = true) : ∃ y,VR .nil v y ∧ nsIn K mainGlobals x = some (some y):=by
 have h1 : (match nsIn K mainGlobals x with | some o=>rSome o fun y=>vrB v y | none=>false) = true:=h
 cases q : nsIn K mainGlobals x with
 | none=>rw [q] at h1; exact noB h1
 | some o =>
  rw [q] at h1
  exact rSomeE (P:=fun o=>∃ y,VR .nil v y ∧ some o = some (some y)) h1 fun y h=>⟨y,vrB_ok h,rfl⟩
theorem glB_none {K : Frag} {x : Str} (h : glB K (x,none) = true) : nsIn K mainGlobals x = some none:=by
 have h1 : (match nsIn K mainGlobals x with | some o=>rNone o | none=>false) = true:=h
 cases q : nsIn K mainGlobals x with
 | none=>rw [q] at h1; exact noB h1
 | some o=>rw [q] at h1; rw [rNoneE h1]
theorem any_all {l : List Nat} {f : Nat} {k : Nat → Bool} (h : l.any (Nat.beq f) = true) (ha : l.all k = true) : k f = true:=by
 obtain ⟨j,hj,e⟩:=List.any_eq_true.mp h
 rw [Nat.eq_of_beq_eq_true e]
 exact List.all_eq_true.mp ha j hj
theorem tcB_ok {W : Wd} {t : Tc} (ht : W.tb = t.tb) (h : tcB W.K t = true) : TcOk W t :=
 an h fun h h3=>an h fun h1 h2=>⟨ht,fun x v hm=>glB_some (List.all_eq_true.mp h1 _ hm),fun x hm=>glB_none (List.all_eq_true.mp h1 _ hm),
  fun f hf=>an (any_all hf h2) fun a b=>⟨a,Nat.le_of_ble_eq_true b⟩,fun c hc=>an (any_all hc h3) fun a b=>⟨a,b⟩⟩
noncomputable def fdOf (K : Frag) (f : Nat) : FuncData:=match K.lookup f with | some o=>(match o.data with | .func fd=>fd | _=>default) | none=>default
noncomputable def isFn (fd : FuncData) (k : List Stmt → Bool) : Bool:=match fd.body with | .stmts b=>k b | _=>false
noncomputable def fdChk (t : Tc) (K : Frag) (fn : Fn) (fd : FuncData) : Bool:=decide (fd.scope.kind = .function) && (!fd.scope.isCoroutine && (!fd.scope.isGenerator && (csB fd.scope && (codeIn K fd.code fd.qualname && (decide (fd.globals = mainGlobals) && (rNil fd.closure && (decide (fd.builtins = builtinsNs) && isFn fd fun b=>ckSs t fd.scope fn.body b)))))))
noncomputable def fnB (t : Tc) (K : Frag) (f : Nat) (fn : Fn) : Bool:=match K.lookup f with
 | some o=>(match o.data with | .func fd=>fdChk t K fn fd | _=>false)
 | none=>false
theorem isFn_ok {fd : FuncData} {k : List Stmt → Bool} (h : isFn fd k = true) : ∃ b,fd.body = .stmts b ∧ k b = true:=by
 unfold isFn at h
 cases q : fd.body with
 | stmts b=>rw [q] at h; exact ⟨b,rfl,h⟩
 | expr b=>rw [q] at h; exact noB h
theorem fd_eta {fd : FuncData} {b : List Stmt} (h1 : fd.body = .stmts b) (h2 : fd.globals = mainGlobals) (h3 : fd.closure = []) (h4 : fd.builtins = builtinsNs) : fd = fnOf fd.name fd.qualname fd.params b fd.scope fd.defaults fd.kwdefaults fd.doc fd.pyModule fd.annotations fd.code fd.closureTuple:=by
 cases fd
 cases h1; cases h2; cases h3; cases h4
 rfl
theorem fdChk_ok {W : Wd} {t : Tc} (T : TcOk W t) {f : Nat} {fn : Fn} {fd : FuncData} {oc : Value} {od : Option Addr} {osl : Array (Option Value)} (q : W.K.lookup f = some ⟨oc,od,.func fd,osl⟩) (h : fdChk t W.K fn fd = true) (hb : BindOk W fn fd fd.scope) : FnEx W f fn :=
 an h fun h1 h=>an h fun h2 h=>an h fun h3 h=>an h fun h4 h=>an h fun h5 h=>an h fun h6 h=>an h fun h7 h=>an h fun h8 h=>by
  obtain ⟨b,e,h9⟩:=isFn_ok h
  have e2:=fd_eta e (of_decide_eq_true h6) (rNilE h7) (of_decide_eq_true h8)
  exact ⟨⟨⟨q.trans (congrArg (fun z=>some (Obj.mk oc od (.func z) osl)) e2),h5,of_decide_eq_true h1,nt h2,nt h3,csB_ok h4,Eq.mp (congrArg (fun z=>BindOk W fn z fd.scope) e2) hb⟩,fun cx d gx=>ckS_ok T gx (of_decide_eq_true h1) fn.body b h9⟩⟩
theorem fnB_ok {W : Wd} {t : Tc} (T : TcOk W t) {f : Nat} {fn : Fn} (h : fnB t W.K f fn = true) (hb : BindOk W fn (fdOf W.K f) (fdOf W.K f).scope) : FnEx W f fn:=by
 unfold fdOf at hb
 unfold fnB at h
 cases q : W.K.lookup f with
 | none=>rw [q] at h; exact noB h
 | some o =>
  rw [q] at h hb
  obtain ⟨oc,od,dt,osl⟩:=o
  cases dt with
  | func fd=>exact fdChk_ok T q h hb
  | _=>exact noB h
noncomputable def atB (tb : List Str) (f : Nat) (k : Str → Bool) : Bool:=match tb[f]? with | some x=>k x | none=>false
theorem atB_ok {tb : List Str} {f : Nat} {k : Str → Bool} (h : atB tb f k = true) : ∃ x,tb[f]? = some x ∧ k x = true:=by
 unfold atB at h
 cases q : tb[f]? with
 | none=>rw [q] at h; exact noB h
 | some x=>rw [q] at h; exact ⟨x,rfl,h⟩
noncomputable def plB (K : Frag) (cl : Nat) : Bool:=decide (findIn K (.ref cl) "__getattribute__" = some (some (.builtin "object.__getattribute__"))) && decide (findIn K (.ref cl) "__getattr__" = some none) && hasDictIn K cl && decide (findIn K (.ref cl) "__setattr__" = some (some (.builtin "object.__setattr__"))) && plainOver K cl
noncomputable def ciB (tb : List Str) (K : Frag) (cl f : Nat) : Bool:=atB tb f fun x=>decide (findIn K (.ref cl) x = some none) && decide (takerIn K cl x = some none)
noncomputable def cmB (tb : List Str) (K : Frag) (cl f g : Nat) : Bool:=atB tb f fun x=>decide (findIn K (.ref cl) x = some (some (.ref g))) && decide (typeIn K (.ref g) = some (.type "function")) && decide (specialIn K (.ref g) "__get__" = some (some (.builtin "function.__get__"))) && decide (takesIn K (.ref g) = some false) && !copiedNames.contains x && Nat.blt g 1000000
noncomputable def cvB (tb : List Str) (K : Frag) (cl f : Nat) (v : V) : Bool:=atB tb f fun x=>(match findIn K (.ref cl) x with | some o=>rSome o fun a=>decide (specialIn K a "__get__" = some none) && handedIn a && !copiedNames.contains x && vrB v a | none=>false)
noncomputable def clB (tb : List Str) (K : Frag) (cs : List Nat) (tm : List (Nat × List (Nat × Nat))) (tv : List (Nat × List (Nat × V))) (ti : List (Nat × List Nat)) : Bool :=
 cs.all (plB K) && (tm.all fun p=>p.2.all fun q=>cs.any (Nat.beq p.1) && cmB tb K p.1 q.1 q.2) && (tv.all fun p=>p.2.all fun q=>cs.any (Nat.beq p.1) && cvB tb K p.1 q.1 q.2) && (ti.all fun p=>p.2.all fun q=>cs.any (Nat.beq p.1) && ciB tb K p.1 q)
theorem clB_ok {W : Wd} {cx : Cx} {cs : List Nat} {tm : List (Nat × List (Nat × Nat))} {tv : List (Nat × List (Nat × V))} {ti : List (Nat × List Nat)} (nd : W.tb.Nodup) (e1 : cx.clsm = two tm) (e2 : cx.clsv = two tv) (e3 : cx.clsi = twoI ti) (h : clB W.tb W.K cs tm tv ti = true) : ClsOk W cx:=by
 refine an h fun h h4=>an h fun h h3=>an h fun h1 h2=>?_
 have M : ∀ cl f g,cx.clsm cl f = some g → cs.any (Nat.beq cl) = true ∧ cmB W.tb W.K cl f g = true:=fun cl f g h=>by
  rw [e1] at h
  exact an (two_mem (f:=fun a b c=>cs.any (Nat.beq a) && cmB W.tb W.K a b c) h h2) fun a b=>⟨a,b⟩
 have Vv : ∀ cl f v,cx.clsv cl f = some v → cs.any (Nat.beq cl) = true ∧ cvB W.tb W.K cl f v = true:=fun cl f g h=>by
  rw [e2] at h
  exact an (two_mem (f:=fun a b c=>cs.any (Nat.beq a) && cvB W.tb W.K a b c) h h3) fun a b=>⟨a,b⟩
 have I : ∀ cl f,cx.clsi cl f = true → cs.any (Nat.beq cl) = true ∧ ciB W.tb W.K cl f = true:=fun cl f h=>by
  rw [e3] at h
  exact an (twoI_mem (f:=fun a b=>cs.any (Nat.beq a) && ciB W.tb W.K a b) h h4) fun a b=>⟨a,b⟩
 refine ⟨nd,fun cl f h=>?_,fun cl f h=>?_,fun cl f g h=>?_,fun cl f v h=>?_⟩
 ·obtain ⟨x,hx,h⟩:=atB_ok (I cl f h).2
  exact an h fun a b=>⟨x,hx,of_decide_eq_true a,of_decide_eq_true b⟩
 ·have hc : cs.any (Nat.beq cl) = true:=by
   rcases h with h | h | h
   ·exact (I cl f h).1
   ·obtain ⟨g,hg⟩:=Option.isSome_iff_exists.mp h; exact (M cl f g hg).1
   ·obtain ⟨g,hg⟩:=Option.isSome_iff_exists.mp h; exact (Vv cl f g hg).1
  exact an (any_all hc h1) fun h h9=>an h fun h h8=>an h fun h h7=>an h fun h5 h6=>⟨⟨of_decide_eq_true h5,of_decide_eq_true h6⟩,h7,of_decide_eq_true h8,h9⟩
 ·obtain ⟨x,hx,h⟩:=atB_ok (M cl f g h).2
  exact an h fun h h9=>an h fun h h8=>an h fun h h7=>an h fun h h6=>an h fun h4 h5=>⟨x,hx,of_decide_eq_true h4,of_decide_eq_true h5,of_decide_eq_true h6,of_decide_eq_true h7,nt h8,Nat.le_of_ble_eq_true h9⟩
 ·obtain ⟨x,hx,h⟩:=atB_ok (Vv cl f v h).2
  cases q : findIn W.K (.ref cl) x with
  | none=>rw [q] at h; exact noB h
  | some o =>
   rw [q] at h
   exact rSomeE (P:=fun o=>findIn W.K (.ref cl) x = some o → _) h (fun a h q=>an h fun h h9=>an h fun h h8=>an h fun h6 h7=>⟨x,a,hx,q,of_decide_eq_true h6,h7,nt h8,vrB_ok h9⟩) q
noncomputable def seqOf (K : Frag) (a : Nat) : List Value:=match K.lookup a with | some o=>(match o.data with | .seq its _=>its.toList | _=>[]) | none=>[]
noncomputable def epOf (K : Frag) (a : Nat) : Nat:=match K.lookup a with | some o=>(match o.data with | .seq _ n=>n | .dict _ n=>n | _=>0) | none=>0
noncomputable def esOf (K : Frag) (a : Nat) : List DictEntry:=match K.lookup a with | some o=>(match o.data with | .dict es _=>es.toList | _=>[]) | none=>[]
noncomputable def keyS (e : DictEntry) : Str:=match e.key with | .str x _=>x | _=>Str.empty
noncomputable def enB (p : List Nat × V) (e : DictEntry) : Bool:=match e.key with | .str x _=>lEq p.1 x.cps.toList && vrB p.2 e.val | _=>false
noncomputable def enL : List (List Nat × V) → List DictEntry → Bool
 | [],ys=>rNil ys
 | v :: vs,ys=>rCons ys fun y r=>enB v y && enL vs r
structure SoAt (W : Wd) (a : Nat) (o : O) : Prop where
 h : ∃ part : Part,hd1 part = a ∧ (∀ q ∈ part,W.K.lookup q.1 = some q.2) ∧ ORel W.prog W.w W.tb HS.nil o part
theorem so_one {W : Wd} {a : Nat} {o : O} {ob : Obj} (h : W.K.lookup a = some ob) (r : ORel W.prog W.w W.tb HS.nil o [(a,ob)]) : SoAt W a o:=⟨_,rfl,fun q hq=>by rw [List.mem_singleton.mp hq]; exact h,r⟩
theorem so_tup {W : Wd} {a : Nat} {vs : List V} (h : W.K.lookup a = some { cls:=.type "tuple",data:=.seq (seqOf W.K a).toArray (epOf W.K a) }) (hv : (vrL vs (seqOf W.K a) && Nat.ble vs.length 100000) = true) : SoAt W a (.tuple vs) :=
 so_one h (an hv fun h1 h2=>.tuple (vrL_ok h1) (Nat.le_trans (Nat.le_of_ble_eq_true h2) (Nat.le_add_right _ _)))
theorem so_list {W : Wd} {a : Nat} {vs : List V} (h : W.K.lookup a = some (listOf (seqOf W.K a).toArray (epOf W.K a))) (hv : (vrL vs (seqOf W.K a) && Nat.ble vs.length 100000) = true) : SoAt W a (.list vs) :=
 so_one h (an hv fun h1 h2=>.list (vrL_ok h1) (Nat.le_trans (Nat.le_of_ble_eq_true h2) (Nat.le_add_right _ _)))
noncomputable def avL (tb : List Str) : List (Nat × V) → List DictEntry → Bool
 | [],ys=>rNil ys
 | p :: vs,ys=>rCons ys fun e r=>(match e.key with | .str x _=>nmI tb p.1 x | _=>false) && vrB p.2 e.val && avL tb vs r
theorem so_inst {W : Wd} {a C D : Nat} {fs : List (Nat × V)} (h : W.K.lookup a = some (instObj C D)) (h2 : W.K.lookup D = some (dictOf (esOf W.K D) (epOf W.K D))) (hv : All2 (AV W.tb HS.nil) fs (esOf W.K D)) (nd : (fs.map (·.1)).Nodup) (hl : Nat.ble fs.length 900 = true) : SoAt W a (.inst C fs) :=
 ⟨[(a,instObj C D),(D,dictOf (esOf W.K D) (epOf W.K D))],rfl,fun q hq=>by
  rcases List.mem_cons.mp hq with rfl | hq
  ·exact h
  ·rw [List.mem_singleton.mp hq]; exact h2,.inst hv nd (Nat.le_of_ble_eq_true hl)⟩
theorem so_dict {W : Wd} {a : Nat} {kvs : List (List Nat × V)} (h : W.K.lookup a = some { cls:=.type "dict",data:=.dict (esOf W.K a).toArray (epOf W.K a) }) (hh : (esOf W.K a).map (·.hash) = (esOf W.K a).map fun e=>PyData.keyHash W.w.params (keyS e)) (hv : enL kvs (esOf W.K a) = true) (nd : (kvs.map (·.1)).Nodup) (hl : Nat.ble kvs.length 100000 = true) (hA : (a == sysModules) = false) : SoAt W a (.dict kvs):=by
 refine so_one h ?_
 have key : ∀ {kvs : List (List Nat × V)} {es : List DictEntry},es.map (·.hash) = es.map (fun e=>PyData.keyHash W.w.params (keyS e)) → enL kvs es = true →
  ∃ ks : List (Str × Value),(∀ e ∈ es,∃ k,(PySem.strKind W.prog W.w).is k e.key = true ∧ e.hash = PyData.keyHash W.w.params k) ∧ Pairs (PySem.strKind W.prog W.w) es ks ∧ All2 (KV HS.nil) kvs ks ∧ ks.map (·.1) = (kvs.map (·.1)).map toS:=by
  intro kvs
  induction kvs with
  | nil=>intro es _ hv; rw [rNilE hv]; exact ⟨[],(fun e he=>nomatch he),Pairs.nil,.nil,rfl⟩
  | cons p r ih =>
   intro es hh hv
   refine rConsE (P:=fun es=>es.map (·.hash) = es.map (fun e=>PyData.keyHash W.w.params (keyS e)) → ∃ ks : List (Str × Value),(∀ e ∈ es,∃ k,(PySem.strKind W.prog W.w).is k e.key = true ∧ e.hash = PyData.keyHash W.w.params k) ∧ Pairs (PySem.strKind W.prog W.w) es ks ∧ All2 (KV HS.nil) (p :: r) ks ∧ ks.map (·.1) = ((p :: r).map (·.1)).map toS) hv (fun e es h hh=>an h fun h1 h2=>?_) hh
   obtain ⟨hash,key,val⟩:=e
   obtain ⟨hh1,hh2⟩:=List.cons.inj hh
   obtain ⟨ks,q1,q2,q3,q4⟩:=ih hh2 h2
   cases key with
   | str x t =>
    refine an (show (lEq p.1 x.cps.toList && vrB p.2 val) = true from h1) fun h3 h4=>?_
    have e : x = toS p.1:=by rw [lEq_iff.mp h3]; exact (toS_ofS x).symm
    refine ⟨(x,val) :: ks,fun e' he=>?_,Pairs.cons (strKind_is W.prog W.w x t) rfl q2,.cons ⟨e,vrB_ok h4⟩ q3,?_⟩
    ·rcases List.mem_cons.mp he with rfl | he
     ·exact ⟨x,strKind_is W.prog W.w x t,hh1⟩
     ·exact q1 e' he
    ·show x :: ks.map (·.1) = toS p.1 :: _
     rw [q4,e]
   | _=>exact noB h1
 obtain ⟨ks,h1,h2,h3,h4⟩:=key hh hv
 refine ORel.dict (ks:=ks) ⟨(esOf W.K a).toArray,epOf W.K a,⟨rfl,rfl,rfl⟩,rfl,fun e he=>?_,by simpa using h2,?_⟩ h3 (Nat.le_of_ble_eq_true hl) hA
 ·obtain ⟨k,h5,h6⟩:=h1 e (by simpa using he)
  exact ⟨k,h5,h6.trans rfl⟩
 ·rw [h4]
  exact List.pairwise_map.mpr (nd.imp fun hne he=>hne (toS_inj he))
noncomputable def dfT (K : Frag) (f : Nat) : Nat:=match (fdOf K f).defaults with | .ref T=>T | _=>0
theorem dfK {K : Frag} {f : Nat} {vs : List Value} {binds : List (Str × Value)} (hd : (fdOf K f).defaults = .ref (dfT K f)) (ho : K.lookup (dfT K f) = some { cls:=.type "tuple",data:=.seq (seqOf K (dfT K f)).toArray (epOf K (dfT K f)) })
 (h : (bindRest (fdOf K f) vs).1 (some (seqOf K (dfT K f)).toArray) = pure binds) : BE K (fdOf K f) vs binds:=.df hd ho h
noncomputable def allP {α : Type} (P : α → Prop) : List α → Prop
 | []=>True
 | x :: r=>P x ∧ allP P r
theorem allP_mem {α : Type} {P : α → Prop} : ∀ {l : List α},allP P l → ∀ x ∈ l,P x
 | y :: r,h,x,hx=>by
  rcases List.mem_cons.mp hx with e | hx
  ·exact e ▸ h.1
  ·exact allP_mem h.2 x hx
theorem fns_of {W : Wd} {t : Tc} (T : TcOk W t) {l : List (Nat × Fn)} (h : allP (fun p : Nat × Fn=>fnB t W.K p.1 p.2 = true) l) (hb : allP (fun p : Nat × Fn=>BindOk W p.2 (fdOf W.K p.1) (fdOf W.K p.1).scope) l) (f : Nat) (fn : Fn) (e : getK f l = some fn) : FnEx W f fn :=
 fnB_ok T (allP_mem h _ (getK_mem e)) (allP_mem hb _ (getK_mem e))
theorem so_of {W : Wd} {l : List (Nat × O)} {sp : Nat} {o : O} (h : allP (fun p : Nat × O=>SoAt W p.1 p.2) l) (hs : SoAt W sp o) : SoOk W (fun a=>match getK a l with | some o=>some o | none=>getK a [(sp,o)]):=by
 refine ⟨fun a o' e=>?_⟩
 have k : SoAt W a o':=by
  have e1 : (match getK a l with | some o=>some o | none=>getK a [(sp,o)]) = some o':=e
  cases q : getK a l with
  | some o2=>rw [q] at e1; obtain rfl:=Option.some.inj e1; exact allP_mem h _ (getK_mem q)
  | none =>
   rw [q] at e1
   have e2 : (bif Nat.beq sp a then some o else none) = some o':=e1
   exact bif_E e2 fun h1 h2=>by rw [← Nat.eq_of_beq_eq_true h1,← Option.some.inj h2]; exact hs
 exact k.h
theorem ints_all {vs : List Value} {is : List Int} (h : IntsAre vs is) : All2 (VR HS.nil) (is.map V.int) vs:=by
 induction h with
 | nil=>exact .nil
 | cons n t _ ih=>exact .cons (.int n t) ih
theorem script_ob {P : Params} {h : Heap} {sp : Addr} {d : WData} (w1 : Well P h (.ref sp) d) (hd : ∃ xs,d = .list xs) {vs : List Value} (hL : h.IsList sp vs.toArray) : ∃ n,h.get? sp = some (listOf vs.toArray n):=by
 obtain ⟨xs,rfl⟩:=hd
 cases w1 with
 | list h1 _ =>
  obtain ⟨o,h2,_,n,h3⟩:=hL
  rw [h1] at h2
  cases h2
  cases h3
  exact ⟨_,h1⟩
theorem lookup_in {K : Frag} {a : Addr} {o : Obj} {h : Heap} (k : K.In h) (e : h.get? a = some o) : List.lookup a (K ++ [(a,o)]) = some o:=by
 cases q : List.lookup a K with
 | none=>exact lookup_last q
 | some o' =>
  obtain rfl:=Option.some.inj (e.symm.trans (k _ _ q))
  exact lookup_app q
theorem in_app {K : Frag} {a : Addr} {o : Obj} {h : Heap} (k : K.In h) (e : h.get? a = some o) : Frag.In (K ++ [(a,o)]) h:=by
 intro b x hb
 cases q : List.lookup b K with
 | some o' =>
  rw [lookup_app q] at hb
  obtain rfl:=Option.some.inj hb
  exact k _ _ q
 | none =>
  rw [List.lookup_append,q] at hb
  have hb : (List.lookup b [(a,o)]) = some x:=hb
  rw [List.lookup_cons] at hb
  cases hab : b == a with
  | true=>rw [hab] at hb; obtain rfl:=Option.some.inj hb; rw [beq_iff_eq.mp hab]; exact e
  | false=>rw [hab] at hb; exact noE hb
theorem gx_of (W : Wd) (p : Pr) (hso : SoOk W p.so) (hco : ∀ fuel call,ClsOk W (cxOf p fuel call)) (hi : W.tb[p.init]? = some "__init__") (hf : ∀ f fn,f < BIG → p.fns f = some fn → FnEx W f fn) (hfx : ∀ f fn,p.fns (f + BIG) = some fn → FnExX W f fn) (fuel d : Nat) : GX W (cxOf p fuel (runF p fuel d)) d:=by
 have ih:=calls_ok W p hso hco hi hf hfx fuel d
 refine ⟨⟨hso,hco _ _,ih.1,ih.2⟩,hi,fun f' args' σ2 r' hb e'=>?_,fun f' args' σ2 r' e'=>?_⟩
 ·have e' : runF p fuel d f' args' σ2 = some r':=e'
  cases d with
  | zero=>exact noE e'
  | succ d=>exact bdE (runF_succ.symm.trans e') fun fn' q J=>(hf f' fn' hb q).fn
 ·have e' : runF p fuel d (f' + BIG) args' σ2 = some r':=e'
  cases d with
  | zero=>exact noE e'
  | succ d=>exact bdE (runF_succ.symm.trans e') fun fn' q J=>(hfx f' fn' q).fn
theorem body_of {W : Wd} {f : Nat} {fn : Fn} (x : FnEx W f fn) {qual name : Str} {params : Arguments} {body : List Stmt} {scope : Scope} {dV kV doc pm cdv ct oc : Value} {an od : Option Addr} {osl : Array (Option Value)}
 (h : W.K.lookup f = some ⟨oc,od,.func (fnOf name qual params body scope dV kV doc pm an cdv ct),osl⟩) : scope.kind = .function ∧ CsOk scope ∧ ∀ (cx : Cx) (d : Nat),GX W cx d → OkSs W cx scope d fn.body body:=by
 obtain ⟨o⟩:=x
 rename_i qual' name' params' body' scope' dV' kV' doc' pm' cdv' ct' oc' an' od' osl'
 have e:=Data.func.inj (congrArg Obj.data (Option.some.inj (o.a.at_.symm.trans h)))
 obtain rfl : body' = body:=FuncBody.stmts.inj (congrArg FuncData.body e)
 obtain rfl : scope' = scope:=congrArg FuncData.scope e
 exact ⟨o.a.kind,o.a.ck,o.body⟩
theorem run_law {W : Wd} {p : Pr} {lawF sp : Nat} {fn : Fn} {fuel d : Nat} (hso : SoOk W p.so) (hco : ∀ fuel call,ClsOk W (cxOf p fuel call)) (hi : W.tb[p.init]? = some "__init__") (hf : ∀ f fn,f < BIG → p.fns f = some fn → FnEx W f fn) (hfx : ∀ f fn,p.fns (f + BIG) = some fn → FnExX W f fn)
 {qual name : Str} {params : Arguments} {body : List Stmt} {scope : Scope} {dV kV doc pm cdv ct oc : Value} {an od : Option Addr} {osl : Array (Option Value)}
 (hat : W.K.lookup lawF = some ⟨oc,od,.func (fnOf name qual params body scope dV kV doc pm an cdv ct),osl⟩) (hnc : noCell scope.names = true) (hB : lawF < BIG) (hfn : p.fns lawF = some fn)
 {i : Nat} {x : Str} (hx : W.tb[i]? = some x) {s₁ : Shared} (T : Top W.p W.loose W.mean W.mg W.mb s₁.heap) (KX : W.K.In s₁.heap) {fa : Addr} {cd : Value} {h₁ : Heap} {nm : Str} {g : Array GenState} {dr : Drawn} {tk : Nat} {os : OsState}
 (F : PyProof.Rows.Fr s₁.heap s₁.heap.objs.size h₁ (fun z=>[(x,Value.ref sp)].reverse.lookup z)) (N0 : News s₁.heap s₁.heap.objs.size h₁ []) (ht : 1 ≤ tk) (hd : d ≤ 100)
 (he : ∃ L' σ',evSs (cxOf p fuel (runF p fuel d)) fn.body 0 [(i,.sref sp)] [] = some (.ret (.bool true),L',σ')) {Q : Flow → Shared → Prop} {E : Value → Shared → Prop}
 (H : ∀ h' t',(∀ b o,s₁.heap.get? b = some o → h'.get? b = some o) → Q (.ret (.bool true)) ⟨h',g,dr,t',os⟩) :
 wpAny (model W.prog W.w) (callerA.deeper (envOf nm scope s₁.heap.objs.size fa cd)) (execs body (envOf nm scope s₁.heap.objs.size fa cd)) Q E ⟨h₁,g,dr,tk,os⟩:=by
 obtain ⟨L',σ',he⟩:=he
 obtain ⟨hk,ck,hb⟩:=body_of (hf _ _ hB hfn) hat
 have ev:=fun (L a : Addr)=>envOf_noc (name:=nm) (L:=L) (a:=a) (cd:=cd) (ck.none (noCell_ok hnc) (n:=L + 1))
 rw [← ev]
 refine (hb _ d (gx_of W p hso hco hi hf hfx fuel d)).1 { cn:=nm,cs:=scope,L:=s₁.heap.objs.size,a:=fa,ccd:=cd,h₀:=s₁.heap,A₀:=callerA,base:=s₁.heap,outer:=[],A:=callerA.deeper (envOfC nm scope s₁.heap.objs.size fa cd) } rfl
  ⟨Around.frames_deeper rfl,rfl,?_,?_,KX,T,hk,ck,rfl⟩ (m:=fun z=>[(x,Value.ref sp)].reverse.lookup z) (X:=[]) (ps:=⟨[],[],fun J J=>False,[]⟩) ⟨⟨s₁.heap,⟨.refl,below_caller s₁.heap,ktsDicts_nil⟩,_,fun J J=>rfl,F⟩,N0,List.nodup_nil,.nil,fun J J h=>h.elim,(show CellsAre _ (cellsFrom (s₁.heap.objs.size + 1) scope.names []) [] by rw [ck.none (noCell_ok hnc)]; exact .nil)⟩ (one_lr hx (.sref sp)) ht (hz:=HS.nil) rfl .nil he fun m' ps' h' t' f p' S' lr' fr ht'=>?_
 ·show 1 + 300 + 1 + 3 * d + 3 ≤ 990
  lia
 ·show 4 + 3 + 30 * d + 300 ≤ 9800
  lia
 ·cases fr with
  | ret r =>
   cases r
   obtain ⟨_,G,_,_,F2⟩:=S'.F
   exact H h' t' fun b o e=>F2.keep b o (G.T.other b o e fun q=>nomatch q)
theorem or_list {prog : Program} {w : World} {tb : List Str} {hs : HS} {o : O} {part : Part} {its : List Value} {n : Nat} (r : ORel prog w tb hs o part) (h : ∀ q ∈ part,q.1 = hd1 part → q.2 = listOf its.toArray n) : ∃ vs,o = .list vs ∧ All2 (VR hs) vs its:=by
 have ty : ∀ {q : Addr × Obj} {k : String},q ∈ part → q.1 = hd1 part → q.2.cls = .type k → k ≠ "list" → False:=fun hm e hc hne=>hne (Value.type.inj (hc.symm.trans (congrArg Obj.cls (h _ hm e))))
 cases r with
 | @list vs its' A n' h1 h2 =>
  refine ⟨vs,rfl,?_⟩
  have e:=h _ (.head _) rfl
  have e2:=congrArg (fun o : Obj=>match o.data with | .seq a _=>a.toList | _=>[]) e
  obtain rfl : its' = its:=e2
  exact h1
 | tuple=>exact (ty (.head _) rfl rfl (by decide)).elim
 | dict h1 h2 h3 h4 =>
  obtain ⟨es,n',⟨q1,_⟩,_⟩:=h1
  exact (ty (.head _) rfl q1 (by decide)).elim
 | inst=>exact nomatch (congrArg Obj.cls (h _ (.head _) rfl))
 | meth=>exact (ty (.head _) rfl rfl (by decide)).elim
 | rng=>exact (ty (.head _) rfl rfl (by decide)).elim
noncomputable def lsOk (o : O) : Bool:=match o with | .list vs=>(match vs with | v :: _=>isStrV v | []=>false) | _=>true
theorem so_none {W : Wd} {l : List (Nat × O)} (h : allP (fun q : Nat × O=>SoAt W q.1 q.2) l) (hn : (l.all fun q=>lsOk q.2) = true) {g : Heap} (X : W.K.In g) {sp n : Nat} {its : List Value} {is : List Int} (hI : IntsAre its is) (e : g.get? sp = some (listOf its.toArray n)) : getK sp l = none:=by
 cases q : getK sp l with
 | none=>rfl
 | some o =>
  obtain ⟨part,h0,h1,h2⟩:=(allP_mem h _ (getK_mem q)).h
  obtain ⟨vs,rfl,i⟩:=or_list (its:=its) (n:=n) h2 fun q hq he=>Option.some.inj ((X _ _ (h1 q hq)).symm.trans (by rw [he,h0]; exact e))
  have h3 : lsOk (.list vs) = true:=List.all_eq_true.mp hn _ (getK_mem q)
  cases i with
  | nil=>exact noB h3
  | cons r _ =>
   cases hI with
   | cons=>cases r with | int=>exact noB h3
end
section
open PySem.W.Fast (sEq sEq_iff lEq lEq_iff)
noncomputable def sRaise (st : Stmt) (k : PySem.Expr → Bool) : Bool:=match st with | .Raise ex c p=>(match c with | some _=>false | none=>rSome ex k) | _=>false
noncomputable def ckRaise (t : Tc) (cs : Scope) (s : PS) (sts : List Stmt) : Bool:=match s with
 | .expr e=>r1 sts fun st=>sRaise st fun y=>callB y fun n xs=>sEq n (Str.ofString "KeyError") && bOk t n && nmK cs.names n .globalImplicit && r1 xs fun x=>(ck t cs e).e none x
 | _=>false
noncomputable def ckSsX (t : Tc) (cs : Scope) : List PS → List Stmt → Bool
 | [],sts=>false
 | s :: ss,sts=>bif ss.isEmpty then ckRaise t cs s sts else rCons sts fun st r=>!isGc s && ckSs t cs [s] [st] && ckSsX t cs ss r
section
variable {W : Wd} {cx : Cx} {cs : Scope} {d : Nat} {t : Tc}
theorem ckRaise_ok (T : TcOk W t) (gx : GX W cx d) (hk : cs.kind = .function) {s : PS} {sts : List Stmt} (h : ckRaise t cs s sts = true) : OkSsX W cx cs d [s] sts:=by
 cases s with
 | expr e =>
  refine r1E (P:=fun sts=>OkSsX W cx cs d [.expr e] sts) h fun st h=>?_
  cases st with
  | Raise ex c p=>cases c with
   | some _=>exact noB h
   | none =>
    refine rSomeE (P:=fun ex=>OkSsX W cx cs d [.expr e] [.Raise ex none p]) h fun y h=>?_
    refine chkCallE (P:=fun y=>OkSsX W cx cs d [.expr e] [.Raise (some y) none p]) h fun n q xs cp hs hd h=>an h fun h h4=>an h fun h h3=>an h fun h1 h2=>?_
    obtain rfl:=sEq_iff.mp h1
    refine r1E (P:=fun xs=>xs.all ordX = true → OkSsX W cx cs d [.expr e] [.Raise (some (.Call (.Name (Str.ofString "KeyError") q) xs [] cp)) none p]) h4 (fun x h hs=>an (show (ordX x && true) = true from hs) fun ho J=>ordF ho fun f z=>?_) hs
    exact okSsX_raise ⟨bOk_ok T h2,ke_boot,by decide,nmK_ok h3,hk,hd⟩ ((ck_ok T gx e).e none x hk h) (f.star z []) fun env=>rfl
  | _=>exact noB h
 | _=>exact noB h
end
end
section
theorem exec_of_one {M : Model} {A : Around} {st : Stmt} {env : Env} {Q : Flow → Shared → Prop} {E : Value → Shared → Prop} {s : Shared} (h : wpAny M A (execs [st] env) Q E s) : wpAny M A (exec st env) Q E s:=fun Γ p hΓ=>by
 have h:=h Γ p hΓ
 rw [execs_cons,Sem.wp_bind'] at h
 refine Sem.wp_mono M Γ _ (fun f p' s' h'=>?_) (fun J J J h'=>h') _ _ h
 cases f <;> exact h'
section
variable {W : Wd} {cx : Cx} {cs : Scope} {d : Nat} {t : Tc}
theorem okS_of_one {s : PS} {st : Stmt} (h : OkSs W cx cs d [s] [st]) : OkS W cx cs d s st:=by
 refine ⟨?_⟩
 intro c hc ok m X L σ ps h' tk fl L' σ' Q E g dr os z hz S lr ht hl pz e H
 refine exec_of_one (h.1 c hc ok S lr ht hl pz (evSs_cons.trans ?_) H)
 rw [e]
 cases fl <;> rfl
theorem ckSsX_ok (T : TcOk W t) (gx : GX W cx d) (hk : cs.kind = .function) : ∀ {ss : List PS} {sts : List Stmt},ckSsX t cs ss sts = true → OkSsX W cx cs d ss sts
 | [],sts,h=>noB h
 | [s],sts,h=>ckRaise_ok T gx hk h
 | s :: s2 :: ss,sts,h=>rConsE (P:=fun sts=>OkSsX W cx cs d (s :: s2 :: ss) sts) h fun st r h=>an h fun h h2=>an h fun J h1=>okSsX_cons (okS_of_one (ckS_ok T gx hk [s] [st] h1)) (ckSsX_ok T gx hk h2)
end
end
noncomputable def fdChkX (t : Tc) (K : Frag) (fn : Fn) (fd : FuncData) : Bool:=decide (fd.scope.kind = .function) && (!fd.scope.isCoroutine && (!fd.scope.isGenerator && ((csB fd.scope && noCell fd.scope.names) && (codeIn K fd.code fd.qualname && (decide (fd.globals = mainGlobals) && (rNil fd.closure && (decide (fd.builtins = builtinsNs) && isFn fd fun b=>ckSsX t fd.scope fn.body b)))))))
theorem fdChkX_ok {W : Wd} {t : Tc} (T : TcOk W t) {f : Nat} {fn : Fn} {fd : FuncData} {oc : Value} {od : Option Addr} {osl : Array (Option Value)} (q : W.K.lookup f = some ⟨oc,od,.func fd,osl⟩) (h : fdChkX t W.K fn fd = true) (hb : BindOk W fn fd fd.scope) : FnExX W f fn :=
 an h fun h1 h=>an h fun h2 h=>an h fun h3 h=>an h fun h4 h=>an h fun h5 h=>an h fun h6 h=>an h fun h7 h=>an h fun h8 h=>by
  obtain ⟨b,e,h9⟩:=isFn_ok h
  have e2:=fd_eta e (of_decide_eq_true h6) (rNilE h7) (of_decide_eq_true h8)
  exact ⟨⟨⟨q.trans (congrArg (fun z=>some (Obj.mk oc od (.func z) osl)) e2),h5,of_decide_eq_true h1,nt h2,nt h3,csB_ok (an h4 fun a J=>a),Eq.mp (congrArg (fun z=>BindOk W fn z fd.scope) e2) hb⟩,noCell_ok (an h4 fun J a=>a),fun cx d gx=>ckSsX_ok T gx (of_decide_eq_true h1) h9⟩⟩
noncomputable def fnBX (t : Tc) (K : Frag) (f : Nat) (fn : Fn) : Bool:=match K.lookup f with
 | some o=>(match o.data with | .func fd=>fdChkX t K fn fd | _=>false)
 | none=>false
theorem fnBX_ok {W : Wd} {t : Tc} (T : TcOk W t) {f : Nat} {fn : Fn} (h : fnBX t W.K f fn = true) (hb : BindOk W fn (fdOf W.K f) (fdOf W.K f).scope) : FnExX W f fn:=by
 unfold fdOf at hb
 unfold fnBX at h
 cases q : W.K.lookup f with
 | none=>rw [q] at h; exact noB h
 | some o =>
  rw [q] at h hb
  obtain ⟨oc,od,dt,osl⟩:=o
  cases dt with
  | func fd=>exact fdChkX_ok T q h hb
  | _=>exact noB h
theorem fns_ofX {W : Wd} {t : Tc} (T : TcOk W t) {l : List (Nat × Fn)} (h : allP (fun p : Nat × Fn=>fnBX t W.K p.1 p.2 = true) l) (hb : allP (fun p : Nat × Fn=>BindOk W p.2 (fdOf W.K p.1) (fdOf W.K p.1).scope) l) (f : Nat) (fn : Fn) (e : getK f l = some fn) : FnExX W f fn :=
 fnBX_ok T (allP_mem h _ (getK_mem e)) (allP_mem hb _ (getK_mem e))
noncomputable def fnsL (l lx : List (Nat × Fn)) (f : Nat) : Option Fn:=bif Nat.blt f BIG then getK f l else getK (f - BIG) lx
theorem fnsL_lo {l lx : List (Nat × Fn)} {f : Nat} (h : f < BIG) : fnsL l lx f = getK f l:=by
 unfold fnsL; rw [Nat.blt_eq.mpr h]; rfl
theorem fnsL_hi {l lx : List (Nat × Fn)} {f : Nat} : fnsL l lx (f + BIG) = getK f lx:=by
 unfold fnsL
 rw [show Nat.blt (f + BIG) BIG = false from by
  cases q : Nat.blt (f + BIG) BIG with
  | false=>rfl
  | true=>exact absurd (Nat.blt_eq.mp q) (by lia),Nat.add_sub_cancel]
 rfl
namespace Law2
noncomputable def f63 : List PS:=[(.assign (.a (.loc 34) 3) (.loc 3)),
 (.assign (.a (.loc 34) 16) (.const (.int 0)))]
noncomputable def f70 : List PS:=[(.assign (.l 56) (.slice (.attr (.loc 34) 3) (.attr (.loc 34) 16) (.bin .add (.attr (.loc 34) 16) (.loc 76)))),
 (.augA (.loc 34) 16 .add (.len (.loc 56))),
 (.ret (.loc 56))]
noncomputable def f84 : List PS:=[(.ret (.orE (.chain .le .le (.const (.int 1)) (.loc 82) (.const (.int 8))) (.orE (.cmp .eq (.loc 82) (.const (.int 11))) (.orE (.chain .le .le (.const (.int 14)) (.loc 82) (.const (.int 31))) (.orE (.chain .le .le (.const (.int 127)) (.loc 82) (.const (.int 159))) (.orE (.chain .le .le (.const (.int 64976)) (.loc 82) (.const (.int 65007))) (.orE (.cmp .isin (.bin .mod (.loc 82) (.const (.int 65536))) (.tupE [(.const (.int 65534)),(.const (.int 65535))])) (.chain .le .le (.const (.int 55296)) (.loc 82) (.const (.int 57343))))))))))]
noncomputable def f98 : List PS:=[(.assign (.a (.loc 34) 52) (.attr (.loc 34) 66)),
 (.assign (.a (.loc 34) 67) (.listE [(.const (.int 0))])),
 (.assign (.a (.loc 34) 48) (.meth (.loc 34) 68 [(.loc 69)])),
 (.expr (.meth (.loc 34) 70 []))]
noncomputable def f105 : List PS:=[(.assign (.a (.loc 34) 46) (.const (.str []))),
 (.assign (.a (.loc 34) 41) (.const (.int 0))),
 (.assign (.a (.loc 34) 47) (.const (.int 0))),
 (.assign (.a (.loc 34) 77) (.listE [])),
 (.assign (.a (.loc 34) 43) (.const (.int 0))),
 (.assign (.a (.loc 34) 44) (.const (.int 0))),
 (.assign (.a (.loc 34) 50) (.const .none))]
noncomputable def f112 : List PS:=[(.assign (.l 13) (.new 73 [(.loc 69)])),
 (.ret (.loc 13))]
noncomputable def f119 : List PS:=[(.assign (.l 46) (.attr (.loc 34) 46)),
 (.assign (.l 71) (.count3 (.loc 46) [10] (.const (.int 0)) (.loc 72))),
 (.assign (.l 73) (.bin .add (.attr (.loc 34) 43) (.loc 71))),
 (.assign (.l 74) (.rfind3 (.loc 46) [10] (.const (.int 0)) (.loc 72))),
 (.ifs (.cmp .eq (.loc 74) (.neg (.const (.int 1)))) [(.assign (.l 75) (.bin .add (.attr (.loc 34) 44) (.loc 72)))] [(.assign (.l 75) (.bin .sub (.loc 72) (.bin .add (.loc 74) (.const (.int 1)))))]),
 (.ret (.tupE [(.loc 73),(.loc 75)]))]
noncomputable def f126 : List PS:=[(.assignT [(.l 53),(.l 54)] (.meth (.loc 34) 45 [(.attr (.loc 34) 47)])),
 (.ret (.tupE [(.bin .add (.loc 53) (.const (.int 1))),(.loc 54)]))]
noncomputable def f133 : List PS:=[(.ifs (.cmp .ge (.attr (.loc 34) 47) (.attr (.loc 34) 41)) [(.ifs (.notE (.meth (.loc 34) 14 [])) [(.ret (.glob .none))] [])] []),
 (.assign (.l 47) (.attr (.loc 34) 47)),
 (.assign (.l 21) (.sub (.attr (.loc 34) 46) (.loc 47))),
 (.assign (.a (.loc 34) 47) (.bin .add (.loc 47) (.const (.int 1)))),
 (.ret (.loc 21))]
noncomputable def f141 : List PS:=[(.ifs (.cmp .is (.loc 41) (.const .none)) [(.assign (.l 41) (.attr (.loc 34) 42))] []),
 (.assignT [(.a (.loc 34) 43),(.a (.loc 34) 44)] (.meth (.loc 34) 45 [(.attr (.loc 34) 41)])),
 (.assign (.a (.loc 34) 46) (.const (.str []))),
 (.assign (.a (.loc 34) 41) (.const (.int 0))),
 (.assign (.a (.loc 34) 47) (.const (.int 0))),
 (.assign (.l 29) (.meth (.attr (.loc 34) 48) 49 [(.loc 41)])),
 (.ifs (.attr (.loc 34) 50) [(.assign (.l 29) (.bin .add (.attr (.loc 34) 50) (.loc 29))),
 (.assign (.a (.loc 34) 50) (.const .none))] [(.ifs (.notE (.loc 29)) [(.ret (.const (.bool false)))] [])]),
 (.ifs (.cmp .gt (.len (.loc 29)) (.const (.int 1))) [(.assign (.l 51) (.ord (.sub (.loc 29) (.neg (.const (.int 1)))))),
 (.ifs (.orE (.cmp .eq (.loc 51) (.const (.int 13))) (.chain .le .le (.const (.int 55296)) (.loc 51) (.const (.int 56319)))) [(.assign (.a (.loc 34) 50) (.sub (.loc 29) (.neg (.const (.int 1))))),
 (.assign (.l 29) (.slice (.loc 29) (.const .none) (.neg (.const (.int 1)))))] [])] []),
 (.ifs (.attr (.loc 34) 52) [(.expr (.meth (.loc 34) 52 [(.loc 29)]))] []),
 (.assign (.l 29) (.replC (.loc 29) [13,10] [10])),
 (.assign (.l 29) (.replC (.loc 29) [13] [10])),
 (.assign (.a (.loc 34) 46) (.loc 29)),
 (.assign (.a (.loc 34) 41) (.len (.loc 29))),
 (.ret (.const (.bool true)))]
noncomputable def f148 : List PS:=[(.fors (.one 25) (.loc 29) [(.ifs (.call 84 [(.ord (.loc 25))]) [(.expr (.append (.attr (.loc 34) 77) (.const (.str [105,110,118,97,108,105,100,45,99,111,100,101,112,111,105,110,116]))))] [])])]
noncomputable def f156 : List PS:=[(.assign (.l 78) (.listE [])),
 (.whiles (.const (.bool true)) [(.assign (.l 9) (.attr (.loc 34) 47)),
 (.whiles (.andE (.cmp .ne (.loc 9) (.attr (.loc 34) 41)) (.cmp .eq (.cmp .isin (.sub (.attr (.loc 34) 46) (.loc 9)) (.loc 79)) (.loc 80))) [(.augL 9 .add (.const (.int 1)))]),
 (.ifs (.cmp .eq (.loc 9) (.attr (.loc 34) 47)) [(.ifs (.cmp .ne (.attr (.loc 34) 47) (.attr (.loc 34) 41)) [.brk] [])] [(.ifs (.cmp .ne (.loc 9) (.attr (.loc 34) 41)) [(.expr (.append (.loc 78) (.slice (.attr (.loc 34) 46) (.attr (.loc 34) 47) (.loc 9)))),
 (.assign (.a (.loc 34) 47) (.loc 9)),
 .brk] [])]),
 (.expr (.append (.loc 78) (.slice (.attr (.loc 34) 46) (.attr (.loc 34) 47) (.const .none)))),
 (.ifs (.notE (.meth (.loc 34) 14 [])) [.brk] [])]),
 (.assign (.l 81) (.join [] (.loc 78))),
 (.retf (.loc 81))]
noncomputable def f163 : List PS:=[(.ifs (.cmp .isnot (.loc 21) (.glob .none)) [(.ifs (.cmp .eq (.attr (.loc 34) 47) (.const (.int 0))) [(.assign (.a (.loc 34) 46) (.bin .add (.loc 21) (.attr (.loc 34) 46))),
 (.augA (.loc 34) 41 .add (.const (.int 1)))] [(.augA (.loc 34) 47 .sub (.const (.int 1))),
 (.asrt (.cmp .eq (.sub (.attr (.loc 34) 46) (.attr (.loc 34) 47)) (.loc 21)))])] [])]
noncomputable def f178 : List PS:=[(.ifs (.cmp .is (.loc 118) (.const .none)) [(.assign (.l 118) (.len (.loc 55)))] []),
 (.whiles (.cmp .lt (.loc 119) (.loc 118)) [(.assign (.l 120) (.bin .fdiv (.bin .add (.loc 119) (.loc 118)) (.const (.int 2)))),
 (.ifs (.cmp .lt (.sub (.loc 55) (.loc 120)) (.loc 26)) [(.assign (.l 119) (.bin .add (.loc 120) (.const (.int 1))))] [(.assign (.l 118) (.loc 120))])]),
 (.ret (.loc 119))]
noncomputable def f199 : List PS:=[(.ret (.cmp .isin (.loc 26) (.attr (.loc 34) 111)))]
noncomputable def f220 : List PS:=[(.ifs (.cmp .isin (.loc 110) (.attr (.loc 34) 111)) [(.ret (.const (.bool true)))] []),
 (.ifs (.starts (.loc 110) (.attr (.loc 34) 112)) [(.assignT [(.l 113),(.l 114)] (.attr (.loc 34) 115)),
 (.assign (.l 84) (.call 178 [(.attr (.loc 34) 116),(.loc 110),(.loc 113),(.loc 114)]))] [(.assign (.l 84) (.neg (.const .none)))]),
 (.ifs (.cmp .eq (.loc 84) (.len (.attr (.loc 34) 116))) [(.ret (.const (.bool false)))] []),
 (.ret (.starts (.sub (.attr (.loc 34) 116) (.loc 84)) (.loc 110)))]
noncomputable def f227 : List PS:=[(.ifs (.inM (.loc 110) (.loc 34) 117) [(.ret (.loc 110))] []),
 (.fors (.one 84) (.rng2 (.const (.int 1)) (.bin .add (.len (.loc 110)) (.const (.int 1)))) [(.ifs (.inM (.slice (.loc 110) (.const .none) (.neg (.loc 84))) (.loc 34) 117) [(.ret (.slice (.loc 110) (.const .none) (.neg (.loc 84))))] [])]),
 (.expr (.loc 110))]
noncomputable def f261 : List PS:=[(.assign (.a (.loc 34) 13) (.new 166 [(.loc 13)])),
 (.assign (.a (.loc 34) 35) (.loc 35)),
 (.assign (.a (.loc 34) 36) (.const (.bool false))),
 (.assign (.a (.loc 34) 37) (.listE [])),
 (.assign (.a (.loc 34) 38) (.attr (.loc 34) 39)),
 (.assign (.a (.loc 34) 40) (.const (.bool false))),
 (.assign (.a (.loc 34) 19) (.const .none))]
noncomputable def f283 : List PS:=[(.assign (.l 100) (.const (.str [38]))),
 (.assign (.l 101) (.listE [(.meth (.attr (.loc 34) 13) 21 [])])),
 (.ifs (.orE (.cmp .isin (.sub (.loc 101) (.const (.int 0))) (.glob (.sref 22))) (.orE (.cmp .isin (.sub (.loc 101) (.const (.int 0))) (.tupE [(.glob .none),(.const (.str [60])),(.const (.str [38]))])) (.andE (.cmp .isnot (.loc 102) (.const .none)) (.cmp .eq (.loc 102) (.sub (.loc 101) (.const (.int 0))))))) [(.expr (.meth (.attr (.loc 34) 13) 103 [(.sub (.loc 101) (.const (.int 0)))]))] [(.ifs (.cmp .eq (.sub (.loc 101) (.const (.int 0))) (.const (.str [35]))) [(.expr (.neg (.const .none)))] [(.whiles (.cmp .isnot (.sub (.loc 101) (.neg (.const (.int 1)))) (.glob .none)) [(.ifs (.notE (.meth (.glob (.sref 236)) 104 [(.join [] (.loc 101))])) [.brk] []),
 (.expr (.append (.loc 101) (.meth (.attr (.loc 34) 13) 21 [])))]),
 (.tryC 105 106 (.glob (.sref 236)) 107 (.join [] (.slice (.loc 101) (.const .none) (.neg (.const (.int 1)))))),
 (.gc 1),
 (.ifs (.cmp .isnot (.loc 105) (.const .none)) [(.ifs (.cmp .ne (.sub (.loc 105) (.neg (.const (.int 1)))) (.const (.str [59]))) [(.expr (.append (.attr (.loc 34) 12) (.dictE [[116,121,112,101],[100,97,116,97]] [(.sub (.glob (.sref 48)) (.const (.str [80,97,114,115,101,69,114,114,111,114]))),(.const (.str [110,97,109,101,100,45,101,110,116,105,116,121,45,119,105,116,104,111,117,116,45,115,101,109,105,99,111,108,111,110]))])))] []),
 (.gc 1),
 (.ifs (.andE (.cmp .ne (.sub (.loc 105) (.neg (.const (.int 1)))) (.const (.str [59]))) (.andE (.loc 108) (.orE (.cmp .isin (.sub (.loc 101) (.loc 106)) (.glob (.sref 27))) (.orE (.cmp .isin (.sub (.loc 101) (.loc 106)) (.glob (.sref 32))) (.cmp .eq (.sub (.loc 101) (.loc 106)) (.const (.str [61]))))))) [(.expr (.meth (.attr (.loc 34) 13) 103 [(.pop (.loc 101))])),
 (.assign (.l 100) (.bin .add (.const (.str [38])) (.join [] (.loc 101))))] [(.assign (.l 100) (.sub (.glob (.sref 43)) (.loc 105))),
 (.expr (.meth (.attr (.loc 34) 13) 103 [(.pop (.loc 101))])),
 (.augL 100 .add (.join [] (.slice (.loc 101) (.loc 106) (.const .none)))),
 (.gc 1)])] [(.expr (.append (.attr (.loc 34) 12) (.dictE [[116,121,112,101],[100,97,116,97]] [(.sub (.glob (.sref 48)) (.const (.str [80,97,114,115,101,69,114,114,111,114]))),(.const (.str [101,120,112,101,99,116,101,100,45,110,97,109,101,100,45,101,110,116,105,116,121]))]))),
 (.gc 1),
 (.expr (.meth (.attr (.loc 34) 13) 103 [(.pop (.loc 101))])),
 (.assign (.l 100) (.bin .add (.const (.str [38])) (.join [] (.loc 101))))])])]),
 (.ifs (.loc 108) [(.augS (.sub (.sub (.attr (.loc 34) 19) (.const (.str [100,97,116,97]))) (.neg (.const (.int 1)))) (.const (.int 1)) .add (.loc 100))] [(.ifs (.cmp .isin (.loc 100) (.glob (.sref 22))) [(.assign (.l 109) (.const (.str [83,112,97,99,101,67,104,97,114,97,99,116,101,114,115])))] [(.assign (.l 109) (.const (.str [67,104,97,114,97,99,116,101,114,115])))]),
 (.expr (.append (.attr (.loc 34) 12) (.dictE [[116,121,112,101],[100,97,116,97]] [(.sub (.glob (.sref 48)) (.loc 109)),(.loc 100)])))]),
 (.gc 0)]
noncomputable def f773 : List PS:=[(.retf (.listE [(.const (.str [38,108,116,59])),(.const (.str [38,97,109,112,59])),(.const (.str [38])),(.const (.str [38,110,111,116])),(.const (.str [38,110,111])),(.const (.str [97,109,112,59])),(.const (.str [108,116])),(.const (.str [116,59])),(.const (.str [105,110,59])),(.const (.str [98,59])),(.const (.str [61])),(.const (.str [59])),(.const (.str [49])),(.const (.str [120])),(.const (.str [32])),(.const (.str [10])),(.const (.str [60])),(.const (.str [62])),(.const (.str [34])),(.const (.str [90])),(.const (.str [65,77,80])),(.const (.str [123])),(.const (.str [12]))]))]
noncomputable def f780 : List PS:=[(.assign (.l 32) (.bin .fdiv (.loc 31) (.const (.int 3)))),
 (.ifs (.cmp .eq (.bin .mod (.loc 31) (.const (.int 3))) (.const (.int 0))) [(.assign (.l 7) (.listOf (.glob (.sref 43)))),
 (.retf (.listE [(.sub (.glob (.sref 43)) (.sub (.loc 7) (.bin .mod (.loc 32) (.len (.loc 7)))))]))] []),
 (.ifs (.cmp .eq (.bin .mod (.loc 31) (.const (.int 3))) (.const (.int 1))) [(.retf (.listOf (.sub (.call 773 []) (.bin .mod (.loc 32) (.const (.int 23))))))] []),
 (.assign (.l 126) (.bin .add (.const (.int 161)) (.bin .mod (.loc 32) (.const (.int 1113951))))),
 (.retf (.listE [(.ife (.chain .le .lt (.const (.int 55296)) (.loc 126) (.const (.int 57344))) (.const (.str [955])) (.chr (.loc 126)))]))]
noncomputable def f787 : List PS:=[(.ret (.orE (.cmp .eq (.loc 98) (.const (.str [61]))) (.orE (.chain .le .le (.const (.str [48])) (.loc 98) (.const (.str [57]))) (.orE (.chain .le .le (.const (.str [65])) (.loc 98) (.const (.str [90]))) (.chain .le .le (.const (.str [97])) (.loc 98) (.const (.str [122])))))))]
noncomputable def f794 : List PS:=[(.assign (.l 93) (.const (.str []))),
 (.fors (.one 8) (.glob (.sref 43)) [(.ifs (.andE (.cmp .eq (.slice (.loc 99) (.const .none) (.len (.loc 8))) (.loc 8)) (.cmp .gt (.len (.loc 8)) (.len (.loc 93)))) [(.assign (.l 93) (.loc 8))] [])]),
 (.ret (.loc 93))]
noncomputable def f801 : List PS:=[(.ifs (.cmp .isin (.slice (.loc 92) (.const .none) (.const (.int 1))) (.tupE [(.const (.str [])),(.const (.str [32])),(.const (.str [10])),(.const (.str [12])),(.const (.str [38])),(.const (.str [60]))])) [(.retf (.listE []))] []),
 (.assign (.l 93) (.call 794 [(.loc 92)])),
 (.ifs (.cmp .eq (.loc 93) (.const (.str []))) [(.retf (.listE [(.const (.str [101,120,112,101,99,116,101,100,45,110,97,109,101,100,45,101,110,116,105,116,121]))]))] []),
 (.ifs (.andE (.loc 121) (.andE (.cmp .ne (.sub (.loc 93) (.neg (.const (.int 1)))) (.const (.str [59]))) (.call 787 [(.slice (.loc 92) (.len (.loc 93)) (.bin .add (.len (.loc 93)) (.const (.int 1))))]))) [(.retf (.listE [(.const (.str [110,97,109,101,100,45,101,110,116,105,116,121,45,119,105,116,104,111,117,116,45,115,101,109,105,99,111,108,111,110]))]))] []),
 (.retf (.const .none))]
noncomputable def f806 : List PS:=[(.assign (.l 7) (.comp (.one 8) (.glob (.sref 43)) (.cmp .eq (.sub (.glob (.sref 43)) (.loc 8)) (.loc 127)) (.loc 8))),
 (.ifs (.cmp .eq (.bin .mod (.loc 129) (.bin .add (.len (.loc 7)) (.const (.int 1)))) (.len (.loc 7))) [(.ifs (.cmp .eq (.loc 127) (.const (.str [38]))) [(.assign (.l 87) (.call 801 [(.loc 92),(.loc 121)])),
 (.ifs (.cmp .isnot (.loc 87) (.const .none)) [(.retf (.tupE [(.loc 127),(.loc 87)]))] [])] [(.ifs (.cmp .ne (.loc 127) (.ife (.loc 121) (.const (.str [34])) (.const (.str [60])))) [(.retf (.tupE [(.loc 127),(.listE [])]))] [])])] []),
 (.assign (.l 8) (.sub (.bin .add (.loc 7) (.loc 7)) (.bin .mod (.loc 129) (.bin .add (.len (.loc 7)) (.const (.int 1)))))),
 (.ifs (.cmp .ne (.sub (.loc 8) (.neg (.const (.int 1)))) (.const (.str [59]))) [(.ifs (.andE (.cmp .eq (.call 794 [(.bin .add (.loc 8) (.loc 92))]) (.loc 8)) (.notE (.andE (.loc 121) (.call 787 [(.slice (.loc 92) (.const .none) (.const (.int 1)))])))) [(.retf (.tupE [(.bin .add (.const (.str [38])) (.loc 8)),(.listE [(.const (.str [110,97,109,101,100,45,101,110,116,105,116,121,45,119,105,116,104,111,117,116,45,115,101,109,105,99,111,108,111,110]))])]))] []),
 (.assign (.l 8) (.bin .add (.loc 8) (.const (.str [59]))))] []),
 (.retf (.tupE [(.bin .add (.const (.str [38])) (.loc 8)),(.listE [])]))]
noncomputable def f813 : List PS:=[(.assign (.l 3) (.const (.str []))),
 (.assign (.l 87) (.listE [])),
 (.gc 0),
 (.fors (.one 84) (.rng3 (.bin .sub (.len (.loc 122)) (.const (.int 1))) (.neg (.const (.int 1))) (.neg (.const (.int 1)))) [(.assign (.l 127) (.sub (.loc 122) (.loc 84))),
 (.ifs (.orE (.cmp .eq (.loc 127) (.const (.str [38]))) (.andE (.cmp .eq (.loc 125) (.const (.int 0))) (.orE (.cmp .gt (.ord (.sub (.loc 127) (.neg (.const (.int 1))))) (.const (.int 127))) (.cmp .isin (.loc 127) (.const (.str [60,62,34])))))) [(.assignT [(.l 128),(.l 124)] (.call 806 [(.loc 127),(.loc 3),(.loc 121),(.bin .add (.bin .add (.bin .fdiv (.sub (.loc 83) (.bin .mod (.loc 84) (.len (.loc 83)))) (.const (.int 3))) (.loc 84)) (.loc 125))])),
 (.assign (.l 3) (.bin .add (.loc 128) (.loc 3))),
 (.assign (.l 87) (.bin .add (.loc 124) (.loc 87)))] [(.assign (.l 3) (.bin .add (.loc 127) (.loc 3)))]),
 (.gc 0)]),
 (.retf (.tupE [(.loc 3),(.loc 87)]))]
noncomputable def f820 : List PS:=[(.assign (.l 11) (.new 762 [(.loc 3)])),
 (.gc 7),
 (.expr (.meth (.attr (.loc 11) 13) 14 [(.loc 76)])),
 (.assign (.l 91) (.meth (.attr (.loc 11) 13) 60 [(.tupE [(.const (.str [38]))])])),
 (.assign (.l 87) (.listE [])),
 (.gc 8),
 (.whiles (.cmp .eq (.meth (.attr (.loc 11) 13) 21 []) (.const (.str [38]))) [(.assign (.a (.loc 11) 12) (.listE [])),
 (.assign (.a (.loc 11) 19) (.dictE [[116,121,112,101],[110,97,109,101],[100,97,116,97],[115,101,108,102,67,108,111,115,105,110,103]] [(.sub (.glob (.sref 48)) (.const (.str [83,116,97,114,116,84,97,103]))),(.const (.str [105])),(.listE [(.listE [(.const (.str [107])),(.loc 91)])]),(.const (.bool false))])),
 (.expr (.meth (.loc 11) 95 [(.loc 6),(.cmp .isnot (.loc 6) (.const .none))])),
 (.assign (.l 91) (.sub (.sub (.sub (.attr (.loc 11) 19) (.const (.str [100,97,116,97]))) (.const (.int 0))) (.const (.int 1)))),
 (.fors (.one 18) (.attr (.loc 11) 12) [(.ifs (.andE (.cmp .eq (.sub (.loc 18) (.const (.str [116,121,112,101]))) (.sub (.glob (.sref 48)) (.const (.str [67,104,97,114,97,99,116,101,114,115])))) (.cmp .is (.loc 6) (.const .none))) [(.assign (.l 91) (.bin .add (.loc 91) (.sub (.loc 18) (.const (.str [100,97,116,97])))))] [(.expr (.append (.loc 87) (.sub (.loc 18) (.const (.str [100,97,116,97])))))])]),
 (.assign (.l 91) (.bin .add (.loc 91) (.meth (.attr (.loc 11) 13) 60 [(.tupE [(.const (.str [38]))])]))),
 (.gc 8)]),
 (.retf (.tupE [(.loc 91),(.loc 87),(.meth (.attr (.loc 11) 13) 23 [])]))]
noncomputable def f827 : List PS:=[(.assign (.l 83) (.orE (.slice (.loc 2) (.const .none) (.const (.int 4))) (.listE [(.const (.int 0))]))),
 (.gc 0),
 (.assign (.l 121) (.cmp .eq (.bin .mod (.sum (.loc 83)) (.const (.int 2))) (.const (.int 1)))),
 (.assign (.l 122) (.listE [])),
 (.gc 0),
 (.fors (.one 31) (.loc 83) [(.assign (.l 122) (.bin .add (.loc 122) (.call 780 [(.loc 31)]))),
 (.gc 0)]),
 (.assign (.l 123) (.listE [(.join [] (.loc 122))])),
 (.assign (.l 124) (.listE [])),
 (.fors (.one 125) (.range (.bin .add (.const (.int 1)) (.bin .mod (.bin .fdiv (.sum (.loc 83)) (.const (.int 2))) (.const (.int 3))))) [(.assignT [(.l 3),(.l 87)] (.call 813 [(.loc 122),(.loc 121),(.loc 83),(.loc 125)])),
 (.expr (.append (.loc 123) (.loc 3))),
 (.expr (.append (.loc 124) (.loc 87))),
 (.assign (.l 122) (.listOf (.loc 3))),
 (.gc 0)]),
 (.gc 2),
 (.assign (.l 3) (.pop (.loc 123))),
 (.whiles (.loc 123) [(.assign (.l 55) (.splitC (.loc 3) [10])),
 (.gc 2),
 (.assign (.l 15) (.pop (.loc 123))),
 (.ifs (.cmp .ne (.call 820 [(.loc 3),(.ife (.loc 121) (.const (.str [34])) (.const .none)),(.bin .add (.const (.int 1)) (.bin .mod (.sum (.loc 83)) (.const (.int 19))))]) (.tupE [(.loc 15),(.pop (.loc 124)),(.tupE [(.len (.loc 55)),(.len (.sub (.loc 55) (.neg (.const (.int 1)))))])])) [(.ret (.const (.bool false)))] []),
 (.assign (.l 3) (.loc 15)),
 (.gc 2)]),
 (.ret (.const (.bool true)))]
noncomputable def fnL : List (Nat × Fn):=[
 (63,⟨[34,3],[],f63⟩),
 (70,⟨[34,76],[],f70⟩),
 (84,⟨[82],[],f84⟩),
 (98,⟨[34,69],[],f98⟩),
 (105,⟨[34],[],f105⟩),
 (112,⟨[34,69],[],f112⟩),
 (119,⟨[34,72],[],f119⟩),
 (126,⟨[34],[],f126⟩),
 (133,⟨[34],[],f133⟩),
 (141,⟨[34,41],[.none],f141⟩),
 (148,⟨[34,29],[],f148⟩),
 (156,⟨[34,79,80],[(.bool false)],f156⟩),
 (163,⟨[34,21],[],f163⟩),
 (178,⟨[55,26,119,118],[],f178⟩),
 (199,⟨[34,26],[],f199⟩),
 (220,⟨[34,110],[],f220⟩),
 (261,⟨[34,13,35],[.none],f261⟩),
 (283,⟨[34,102,108],[],f283⟩),
 (773,⟨[],[],f773⟩),
 (780,⟨[31],[],f780⟩),
 (787,⟨[98],[],f787⟩),
 (794,⟨[99],[],f794⟩),
 (801,⟨[92,121],[],f801⟩),
 (806,⟨[127,92,121,129],[],f806⟩),
 (813,⟨[122,121,83,125],[],f813⟩),
 (820,⟨[3,6,76],[],f820⟩),
 (827,⟨[2],[],f827⟩)]
noncomputable def fnXL : List (Nat × Fn):=[
 (227,⟨[34,110],[],f227⟩)]
noncomputable def clsmL : List (Nat × List (Nat × Nat)):=[
 (73,[(0,63),(49,70)]),
 (166,[(0,98),(70,105),(68,112),(45,119),(23,126),(21,133),(14,141),(66,148),(60,156),(103,163)]),
 (230,[(0,192),(117,199),(104,220),(107,227)]),
 (762,[(0,261),(95,283),(28,297),(39,304),(24,542),(61,549),(59,556),(62,591)])]
noncomputable def clsvL : List (Nat × List (Nat × V)):=[
 (73,[]),
 (166,[(42,(.int 10240))]),
 (230,[]),
 (762,[])]
noncomputable def clsiL : List (Nat × List Nat):=[(73,[16,3]),(166,[50,46,47,41,48,77,67,44,43,52]),(230,[115,112,111,116]),(762,[19,40,36,37,35,38,13,12])]
noncomputable def soL : List (Nat × O):=[
 (22,.tuple [(.str [9]),(.str [10]),(.str [12]),(.str [32]),(.str [13])]),
 (27,.tuple [(.str [97]),(.str [98]),(.str [99]),(.str [100]),(.str [101]),(.str [102]),(.str [103]),(.str [104]),(.str [105]),(.str [106]),(.str [107]),(.str [108]),(.str [109]),(.str [110]),(.str [111]),(.str [112]),(.str [113]),(.str [114]),(.str [115]),(.str [116]),(.str [117]),(.str [118]),(.str [119]),(.str [120]),(.str [121]),(.str [122]),(.str [65]),(.str [66]),(.str [67]),(.str [68]),(.str [69]),(.str [70]),(.str [71]),(.str [72]),(.str [73]),(.str [74]),(.str [75]),(.str [76]),(.str [77]),(.str [78]),(.str [79]),(.str [80]),(.str [81]),(.str [82]),(.str [83]),(.str [84]),(.str [85]),(.str [86]),(.str [87]),(.str [88]),(.str [89]),(.str [90])]),
 (32,.tuple [(.str [48]),(.str [49]),(.str [50]),(.str [51]),(.str [52]),(.str [53]),(.str [54]),(.str [55]),(.str [56]),(.str [57])]),
 (43,.dict [([65,77,80],(.str [38])),([65,77,80,59],(.str [38])),([69,97,99,117,116,101],(.str [201])),([69,97,99,117,116,101,59],(.str [201])),([77,111,112,102,59],(.str [120132])),([97,99,59],(.str [8766])),([97,99,69,59],(.str [8766,819])),([97,99,117,116,101],(.str [180])),([97,99,117,116,101,59],(.str [180])),([97,109,112],(.str [38])),([97,109,112,59],(.str [38])),([97,110,103,59],(.str [8736])),([97,110,103,108,101,59],(.str [8736])),([98,110,101,59],(.str [61,8421])),([99,111,112,121],(.str [169])),([99,111,112,121,59],(.str [169])),([101,97,99,117,116,101],(.str [233])),([101,97,99,117,116,101,59],(.str [233])),([102,114,97,99,49,50],(.str [189])),([102,114,97,99,49,50,59],(.str [189])),([103,116],(.str [62])),([103,116,59],(.str [62])),([108,116],(.str [60])),([108,116,59],(.str [60])),([110,98,115,112],(.str [160])),([110,98,115,112,59],(.str [160])),([110,111,116],(.str [172])),([110,111,116,59],(.str [172])),([110,111,116,105,110,59],(.str [8713])),([110,111,116,110,105,59],(.str [8716])),([112,97,114,97],(.str [182])),([112,97,114,97,59],(.str [182])),([112,97,114,97,108,108,101,108,59],(.str [8741])),([113,117,111,116],(.str [34])),([113,117,111,116,59],(.str [34])),([115,117,112,49],(.str [185])),([115,117,112,49,59],(.str [185])),([115,117,112,50],(.str [178])),([115,117,112,50,59],(.str [178])),([115,117,112,59],(.str [8835])),([116,105,109,101,115],(.str [215])),([116,105,109,101,115,59],(.str [215])),([116,105,109,101,115,98,59],(.str [8864]))]),
 (48,.dict [([68,111,99,116,121,112,101],(.int 0)),([67,104,97,114,97,99,116,101,114,115],(.int 1)),([83,112,97,99,101,67,104,97,114,97,99,116,101,114,115],(.int 2)),([83,116,97,114,116,84,97,103],(.int 3)),([69,110,100,84,97,103],(.int 4)),([69,109,112,116,121,84,97,103],(.int 5)),([67,111,109,109,101,110,116],(.int 6)),([80,97,114,115,101,69,114,114,111,114],(.int 7))]),
 (243,.list [(.str [65,77,80]),(.str [65,77,80,59]),(.str [69,97,99,117,116,101]),(.str [69,97,99,117,116,101,59]),(.str [77,111,112,102,59]),(.str [97,99,59]),(.str [97,99,69,59]),(.str [97,99,117,116,101]),(.str [97,99,117,116,101,59]),(.str [97,109,112]),(.str [97,109,112,59]),(.str [97,110,103,59]),(.str [97,110,103,108,101,59]),(.str [98,110,101,59]),(.str [99,111,112,121]),(.str [99,111,112,121,59]),(.str [101,97,99,117,116,101]),(.str [101,97,99,117,116,101,59]),(.str [102,114,97,99,49,50]),(.str [102,114,97,99,49,50,59]),(.str [103,116]),(.str [103,116,59]),(.str [108,116]),(.str [108,116,59]),(.str [110,98,115,112]),(.str [110,98,115,112,59]),(.str [110,111,116]),(.str [110,111,116,59]),(.str [110,111,116,105,110,59]),(.str [110,111,116,110,105,59]),(.str [112,97,114,97]),(.str [112,97,114,97,59]),(.str [112,97,114,97,108,108,101,108,59]),(.str [113,117,111,116]),(.str [113,117,111,116,59]),(.str [115,117,112,49]),(.str [115,117,112,49,59]),(.str [115,117,112,50]),(.str [115,117,112,50,59]),(.str [115,117,112,59]),(.str [116,105,109,101,115]),(.str [116,105,109,101,115,59]),(.str [116,105,109,101,115,98,59])]),
 (246,.tuple [(.int 0),(.int 43)]),
 (236,.inst 230 [(111,(.sref 43)),(116,(.sref 243)),(112,(.str [])),(115,(.sref 246))])]
noncomputable def pr (sx : List (Nat × O)) : Pr:={ so:=fun a=>match getK a soL with | some o=>some o | none=>getK a sx,clsm:=two clsmL,clsv:=two clsvL,clsi:=twoI clsiL,init:=0,fns:=fnsL fnL fnXL }
noncomputable def tab : List String:=["__init__","tags","script","text","kind","title","closing","names","name","end","mended","reader","tokenQueue","stream","readChunk","due","place","count","token","currentToken","row","char","rounds","position","attributeNameState","c","key","value","emitCurrentToken","data","tape","n","k","m","self","parser","escapeFlag","lastFourChars","state","dataState","escape","chunkSize","_defaultChunkSize","prevNumLines","prevNumCols","_position","chunk","chunkOffset","dataStream","read","_bufferedCharacter","lastv","reportCharacterErrors","line","col","rows","part","leavingThisState","emitToken","beforeAttributeValueState","charsUntil","afterAttributeNameState","selfClosingStartTagState","_","word","raw","characterErrorsUCS4","newLines","openStream","source","reset","nLines","offset","positionLine","lastLinePos","positionColumn","size","errors","rv","characters","opposite","r","codepoint","numbers","i","cut","first","told","second","more","parts","signs","rest","best","stays","consumeEntity","head","tail","sign","words","output","charStack","allowedChar","unget","has_keys_with_prefix","entityName","entityLength","longest_prefix","fromAttribute","tokenType","prefix","_data","_cachestr","lo","hi","_cachepoints","_keys","__contains__","high","low","middle","inside","units","texts","faults","level","code","unit","spelled","way"]
noncomputable def lawF : Nat:=827
end Law2
section
open Builtin.Str StrLaws
noncomputable def spl (c : Nat) : List Nat → List (List Nat)
 | []=>[[]]
 | x :: r=>if x = c then [] :: spl c r else match spl c r with
  | []=>[[x]]
  | p :: q=>(x :: p) :: q
theorem spl1 (c : Nat) (r : List Nat) : spl c (c :: r) = [] :: spl c r:=if_pos rfl
theorem spl2 {c x : Nat} {r p : List Nat} {q : List (List Nat)} (h : ¬ x = c) (e : spl c r = p :: q) : spl c (x :: r) = (x :: p) :: q:=(if_neg h).trans (by rw [e])
theorem spl_ne (c : Nat) : ∀ l,spl c l ≠ []
 | []=>List.cons_ne_nil _ _
 | x :: r=>by
  by_cases h : x = c
  ·subst h; rw [spl1]; exact List.cons_ne_nil _ _
  ·cases e : spl c r with
   | nil=>exact absurd e (spl_ne c r)
   | cons p q=>rw [spl2 h e]; exact List.cons_ne_nil _ _
theorem spl_free (c : Nat) : ∀ l,c ∉ l → spl c l = [l]
 | [],_=>rfl
 | x :: r,h=>by
  have h1 : x ≠ c:=fun e=>h (e ▸ List.mem_cons_self ..)
  have h2 : c ∉ r:=fun e=>h (List.mem_cons_of_mem _ e)
  exact spl2 h1 (spl_free c r h2)
theorem spl_app (c : Nat) : ∀ a b,c ∉ a → spl c (a ++ c :: b) = a :: spl c b
 | [],b,_=>spl1 c b
 | x :: r,b,h=>by
  have h1 : x ≠ c:=fun e=>h (e ▸ List.mem_cons_self ..)
  have h2 : c ∉ r:=fun e=>h (List.mem_cons_of_mem _ e)
  exact spl2 h1 (spl_app c r b h2)
theorem spl_join (c : Nat) : ∀ parts : List Str,parts ≠ [] → (∀ p ∈ parts,c ∉ p.cps.toList) → spl c (Str.join ⟨#[c]⟩ parts).cps.toList = parts.map ofS
 | [],h,_=>absurd rfl h
 | [x],_,h=>by
  show spl c x.cps.toList = _
  rw [spl_free c _ (h x (List.mem_cons_self ..))]
  rfl
 | x :: y :: r,_,h=>by
  show spl c (x ++ ⟨#[c]⟩ ++ Str.join ⟨#[c]⟩ (y :: r)).cps.toList = _
  have ih:=spl_join c (y :: r) (by simp) (fun p hp=>h p (List.mem_cons_of_mem _ hp))
  have e : (x ++ ⟨#[c]⟩ ++ Str.join ⟨#[c]⟩ (y :: r)).cps.toList = x.cps.toList ++ c :: (Str.join ⟨#[c]⟩ (y :: r)).cps.toList:=by
   simp [Str.cps_append]
  rw [e,spl_app c _ _ (h x (List.mem_cons_self ..)),ih]
  rfl
theorem ofSP_toS (l : List Nat) : ofS (toS l) = l:=by simp [toS,ofS]
theorem split_ne (x y : Str) : Txt.split x y ≠ []:=by
 unfold Txt.split
 split
 ·simp
 ·split
  ·simp
  ·rw [partsBetween_eq]
   obtain ⟨p,r,h⟩:=partsFrom_ne x y.length 0 (occurrences x y 0 x.length (x.length + 1))
   rw [h]
   simp
theorem split_eq (l : List Nat) (c : Nat) : (Txt.split (toS l) (toS [c])).map ofS = spl c l:=by
 have h1:=spl_join c (Txt.split (toS l) (toS [c])) (split_ne _ _) (split_free (toS l) c)
 rw [← h1]
 have h2 : Str.join (toS [c]) (Txt.split (toS l) (toS [c])) = toS l:=join_split (toS l) (toS [c])
 have h3 : Str.join ⟨#[c]⟩ (Txt.split (toS l) (toS [c])) = toS l:=h2
 rw [h3]
 simp [toS]
noncomputable def joinD (d : List Nat) : List (List Nat) → List Nat
 | []=>[]
 | [x]=>x
 | x :: y :: r=>x ++ d ++ joinD d (y :: r)
theorem join_toL (d : Nat) : ∀ parts : List Str,(Str.join ⟨#[d]⟩ parts).cps.toList = joinD [d] (parts.map ofS)
 | []=>rfl
 | [x]=>rfl
 | x :: y :: r=>by
  show (x ++ ⟨#[d]⟩ ++ Str.join ⟨#[d]⟩ (y :: r)).cps.toList = _
  simp only [Str.cps_append,Array.toList_append,join_toL d (y :: r)]
  rfl
theorem joinD_cons (d x : Nat) : ∀ p q,joinD [d] ((x :: p) :: q) = x :: joinD [d] (p :: q)
 | p,[]=>rfl
 | p,y :: r=>rfl
theorem joinD_nil (d : Nat) : ∀ q,q ≠ [] → joinD [d] ([] :: q) = d :: joinD [d] q
 | [],h=>absurd rfl h
 | y :: r,_=>rfl
theorem join_spl (c d : Nat) : ∀ l,joinD [d] (spl c l) = l.map fun x=>if x = c then d else x
 | []=>rfl
 | x :: r=>by
  by_cases h : x = c
  ·subst h; rw [spl1,joinD_nil d _ (spl_ne x r),join_spl x d r,List.map_cons,if_pos rfl]
  ·have ih:=join_spl c d r
   cases hs : spl c r with
   | nil=>exact absurd hs (spl_ne c r)
   | cons p q=>rw [spl2 h hs,joinD_cons,← hs,ih,List.map_cons,if_neg h]
theorem repl_one (l : List Nat) (c d : Nat) : ofS (Txt.replace (toS l) (toS [c]) (toS [d])) = l.map fun x=>if x = c then d else x:=by
 have h : Txt.replace (toS l) (toS [c]) (toS [d]) = Str.join ⟨#[d]⟩ (Txt.split (toS l) (toS [c])):=replace_one (toS l) (toS [d]) c
 rw [h]
 show (Str.join ⟨#[d]⟩ _).cps.toList = _
 rw [join_toL,split_eq,join_spl]
noncomputable def noPair (c d : Nat) : List Nat → Bool
 | []=>true
 | [_]=>true
 | x :: y :: r=>!(x == c && y == d) && noPair c d (y :: r)
theorem noPair_at (c d : Nat) : ∀ l i,noPair c d l = true → ¬ ((l.drop i).take 2 == [c,d]) = true
 | [],i,_=>by simp
 | [x],0,_=>by simp
 | [x],i + 1,_=>by simp
 | x :: y :: r,0,h=>by
  have h1:=(Bool.and_eq_true_iff.mp (show (!(x == c && y == d) && noPair c d (y :: r)) = true from h)).1
  intro q
  obtain ⟨rfl,z⟩:=List.cons.inj (eq_of_beq q)
  obtain ⟨rfl,_⟩:=List.cons.inj z
  rw [beq_self_eq_true,beq_self_eq_true] at h1
  cases h1
 | x :: y :: r,i + 1,h=>by
  exact noPair_at c d (y :: r) i (Bool.and_eq_true_iff.mp (show (!(x == c && y == d) && noPair c d (y :: r)) = true from h)).2
theorem occ_size (s sub : Str) (hi limit : Nat) (hn : ∀ i,i + sub.length ≤ hi → subAt s sub i = false) : ∀ (l : List Nat) (st : Array Nat × Nat),(forIn l st (occBody s sub hi limit)).run = st
 | [],st=>rfl
 | a :: l,st=>by
  rw [List.forIn_cons]
  unfold occBody
  split
  ·rename_i h
   rw [hn a h.1.2] at h
   exact absurd h.2 (by simp)
  ·exact occ_size s sub hi limit hn l _
theorem repl_two (l : List Nat) (c d : Nat) (z : List Nat) (h : noPair c d l = true) : ofS (Txt.replace (toS l) (toS [c,d]) (toS z)) = l:=by
 unfold Txt.replace
 have e : occurrences (toS l) (toS [c,d]) 0 (toS l).length ((toS l).length + 1) = []:=by
  rw [occ_eq,occ_size]
  ·intro i _
   rw [subAt_eq]
   have:=noPair_at c d l i h
   simpa [toS,Str.length] using this
 rw [e]
 simp [ofSP_toS]
theorem cnt_range (c hi : Nat) : ∀ (l : List Nat) (m cur : Nat),l.length ≤ m → hi ≤ m + cur → (List.range' cur m).countP (fun i=>decide (i + 1 ≤ hi) && decide (l[i - cur]? = some c)) = (l.take (hi - cur)).count c
 | [],m,cur,_,_=>by
  simp
 | x :: l,0,cur,h,_=>by simp at h
 | x :: l,m + 1,cur,h,h2=>by
  rw [List.range'_succ,List.countP_cons]
  have ih:=cnt_range c hi l m (cur + 1) (Nat.le_of_succ_le_succ h) (Nat.le_trans h2 (Nat.le_of_eq (Nat.add_right_comm m 1 cur)))
  have e : (List.range' (cur + 1) m).countP (fun i=>decide (i + 1 ≤ hi) && decide ((x :: l)[i - cur]? = some c)) = (List.range' (cur + 1) m).countP (fun i=>decide (i + 1 ≤ hi) && decide (l[i - (cur + 1)]? = some c)):=by
   refine List.countP_congr fun i hi'=>?_
   have h4 : i - cur = (i - (cur + 1)) + 1:=(Nat.sub_add_cancel (Nat.sub_pos_of_lt (List.mem_range'_1.mp hi').1)).symm
   rw [h4,List.getElem?_cons_succ]
  rw [e,ih]
  by_cases hc : cur + 1 ≤ hi
  ·have h5 : hi - cur = (hi - (cur + 1)) + 1:=(Nat.sub_add_cancel (Nat.sub_pos_of_lt hc)).symm
   rw [h5,List.take_succ_cons,List.count_cons]
   simp [hc]
  ·have h5 : hi - cur = 0:=Nat.sub_eq_zero_of_le (Nat.le_of_lt_succ (Nat.not_le.mp hc))
   have h6 : hi - (cur + 1) = 0:=Nat.sub_eq_zero_of_le (Nat.le_of_lt (Nat.not_le.mp hc))
   simp [h5,h6,hc]
theorem take1_iff (s : Str) (c i : Nat) : subAt s ⟨#[c]⟩ i = true ↔ s.cps.toList[i]? = some c:=by
 rw [subAt_eq]
 exact take1_drop
theorem occ_cnt (s : Str) (c hi limit : Nat) (hl : hi < limit) : ∀ (m cur : Nat) (st : Array Nat × Nat),cur + m = hi + 1 → st.2 ≤ cur → st.1.size ≤ cur →
 (forIn (List.range' cur m) st (occBody s ⟨#[c]⟩ hi limit)).run.fst.size = st.1.size + (List.range' cur m).countP (fun i=>decide (i + 1 ≤ hi) && decide (s.cps.toList[i]? = some c)):=by
 intro m
 induction m with
 | zero=>intro cur st _ _ _; simp
 | succ m ih =>
  intro cur st h0 h1 h2
  rw [List.range'_succ,List.forIn_cons,List.countP_cons]
  unfold occBody
  by_cases hc : cur + (⟨#[c]⟩ : Str).length ≤ hi ∧ subAt s ⟨#[c]⟩ cur = true
  ·rw [if_pos ⟨⟨⟨by lia,h1⟩,hc.1⟩,hc.2⟩]
   refine Eq.trans (ih (cur + 1) (st.fst.push cur,cur + (⟨#[c]⟩ : Str).length) (by lia) (by show cur + 1 ≤ cur + 1; lia) (by simp; omega)) ?_
   have hx : s.cps.toList[cur]? = some c:=(take1_iff s c cur).mp hc.2
   have h4 : cur + 1 ≤ hi:=hc.1
   have h5 : (decide (cur + 1 ≤ hi) && decide (s.cps.toList[cur]? = some c)) = true:=by simp only [hx,h4,decide_true,Bool.and_self]
   rw [h5]
   simp
   lia
  ·rw [if_neg (fun h=>hc ⟨h.1.2,h.2⟩)]
   refine Eq.trans (ih (cur + 1) (st.fst,st.snd) (by lia) (by show st.2 ≤ _; lia) (by show st.1.size ≤ _; lia)) ?_
   have hx : (decide (cur + 1 ≤ hi) && decide (s.cps.toList[cur]? = some c)) = false:=by
    cases hd : (decide (cur + 1 ≤ hi) && decide (s.cps.toList[cur]? = some c)) with
    | false=>rfl
    | true =>
     simp only [Bool.and_eq_true,decide_eq_true_eq] at hd
     exact absurd ⟨hd.1,(take1_iff s c cur).mpr hd.2⟩ hc
   rw [hx]
   simp
theorem count_eq (l : List Nat) (c hi : Nat) (hh : hi ≤ l.length) : (occurrences (toS l) (toS [c]) 0 (min hi l.length) (l.length + 1)).length = (l.take hi).count c:=by
 rw [Nat.min_eq_left hh,occ_eq]
 have h0 : (forIn (List.range' 0 (hi + 1 - 0)) (#[],0) (occBody (toS l) (toS [c]) hi (l.length + 1))).run.fst.toList.length = _:=occ_cnt (toS l) c hi (l.length + 1) (by lia) (hi + 1 - 0) 0 (#[],0) (by lia) (Nat.le_refl _) (Nat.le_refl _)
 rw [h0]
 have h2 : (List.range' 0 (hi + 1 - 0)).countP (fun i=>decide (i + 1 ≤ hi) && decide ((toS l).cps.toList[i]? = some c)) = (List.range' 0 (hi + 1 - 0)).countP (fun i=>decide (i + 1 ≤ hi) && decide ((l.take hi)[i - 0]? = some c)):=by
  refine List.countP_congr fun i J=>?_
  simp only [toS,Nat.sub_zero,Bool.and_eq_true,decide_eq_true_eq]
  constructor <;> rintro ⟨a,b⟩ <;> refine ⟨a,?_⟩
  ·rw [List.getElem?_take_of_lt (by lia)]; exact of_decide_eq_true b
  ·rw [List.getElem?_take_of_lt (by lia)] at b; exact decide_eq_true b
 rw [h2,cnt_range c hi (l.take hi) (hi + 1 - 0) 0 (by simp; lia) (by lia),Nat.sub_zero,List.take_take,Nat.min_self]
 show 0 + _ = _
 lia
def lastIx (c : Nat) : List Nat → Option Nat
 | []=>none
 | x :: r=>match lastIx c r with
  | some i=>some (i + 1)
  | none=>if x = c then some 0 else none
theorem last_run1 (s : Str) (c hi : Nat) : ∀ (l : List Nat) (m cur : Nat) (st : Option Nat),l.length ≤ m → (∀ i,cur ≤ i → (i + 1 ≤ hi ∧ s.cps.toList[i]? = some c ↔ l[i - cur]? = some c)) →
 (forIn (List.range' cur m) st (lastBody s ⟨#[c]⟩ hi)).run = match lastIx c l with | some i=>some (i + cur) | none=>st
 | [],0,cur,st,_,_=>rfl
 | [],m + 1,cur,st,_,h=>by
  rw [List.range'_succ,List.forIn_cons]
  unfold lastBody
  rw [if_neg]
  ·exact last_run1 s c hi [] m (cur + 1) st (by simp) (fun i hi'=>by have:=h i (by lia); rw [List.getElem?_nil] at this ⊢; exact this)
  ·rintro ⟨a,b⟩
   have:=(h cur (Nat.le_refl _)).mp ⟨a,(take1_iff s c cur).mp b⟩
   simp at this
 | x :: l,0,cur,st,hl,_=>by simp at hl
 | x :: l,m + 1,cur,st,hl,h=>by
  rw [List.range'_succ,List.forIn_cons]
  have h0:=h cur (Nat.le_refl _)
  have hn : ∀ i,cur + 1 ≤ i → (i + 1 ≤ hi ∧ s.cps.toList[i]? = some c ↔ l[i - (cur + 1)]? = some c):=fun i hi'=>by
   have h1:=h i (by lia)
   have e : i - cur = (i - (cur + 1)) + 1:=by lia
   rw [e,List.getElem?_cons_succ] at h1
   exact h1
  rw [Nat.sub_self,List.getElem?_cons_zero] at h0
  have e : lastIx c (x :: l) = match lastIx c l with | some i=>some (i + 1) | none=>if x = c then some 0 else none:=rfl
  rw [e]
  unfold lastBody
  by_cases hx : x = c
  ·have h2 : cur + 1 ≤ hi ∧ s.cps.toList[cur]? = some c:=h0.mpr (by rw [hx])
   rw [if_pos ⟨h2.1,(take1_iff s c cur).mpr h2.2⟩]
   refine Eq.trans (last_run1 s c hi l m (cur + 1) (some cur) (by simpa using hl) hn) ?_
   cases lastIx c l with
   | none=>simp [hx]
   | some i=>simp; lia
  ·rw [if_neg]
   ·refine Eq.trans (last_run1 s c hi l m (cur + 1) st (by simpa using hl) hn) ?_
    cases lastIx c l with
    | none=>simp [hx]
    | some i=>simp; lia
   ·rintro ⟨a,b⟩
    have:=h0.mp ⟨a,(take1_iff s c cur).mp b⟩
    exact hx (Option.some.inj this)
theorem last_eq1 (l : List Nat) (c hi : Nat) (hh : hi ≤ l.length) : lastOccurrence (toS l) (toS [c]) 0 (min hi l.length) = lastIx c (l.take hi):=by
 rw [Nat.min_eq_left hh,last_eq]
 refine Eq.trans (last_run1 (toS l) c hi (l.take hi) (hi + 1 - 0) 0 none (by rw [List.length_take]; lia) (fun i J=>?_)) ?_
 ·simp only [toS,Nat.sub_zero]
  constructor
  ·rintro ⟨a,b⟩
   rw [List.getElem?_take_of_lt (by lia)]
   exact b
  ·intro b
   by_cases h : i < hi
   ·rw [List.getElem?_take_of_lt h] at b
    exact ⟨h,b⟩
   ·rw [List.getElem?_take_eq_none (by lia)] at b
    simp at b
 ·cases lastIx c (l.take hi) <;> simp
end
section
open Builtin.Str StrLaws
section
variable {cx : Cx} {L : Loc} {σ : St}
theorem tv_call {f : Nat} {es : List PE} : evT cx (.call f es) L σ = (evE cx (.call f es) L σ).bind fun (v,σ1)=>(truthyV cx σ1 v).map fun b=>(b,σ1):=rfl
theorem tv_meth {o : PE} {f : Nat} {es : List PE} : evT cx (.meth o f es) L σ = (evE cx (.meth o f es) L σ).bind fun (v,σ1)=>(truthyV cx σ1 v).map fun b=>(b,σ1):=rfl
end
section
variable {c : Cx} {L L1 : Loc} {σ σ1 : St} {z : Nat} {r : List PS} {e : PE} {v : V}
theorem asgL {i : Nat} (h : evE c e L σ = some (v,σ1)) : evSs c (.assign (.l i) e :: r) z L σ = evSs c r z (putK i v L) σ1:=by rw [evSs_cons,evS_assign,h]; rfl
theorem exprS (h : evE c e L σ = some (v,σ1)) : evSs c (.expr e :: r) z L σ = evSs c r z L σ1:=by rw [evSs_cons,evS_expr,h]; rfl
theorem gcs {k : Nat} : evSs c (.gc k :: r) z L σ = evSs c r z (gcL σ (z + k) L) (gcS σ (z + k)):=rfl
theorem ifS {t : PE} {b o : List PS} {x : Bool} (h : evT c t L σ = some (x,σ1)) : evSs c (.ifs t b o :: r) z L σ = (match x with | true=>evSs c b z L σ1 | false=>evSs c o z L σ1).bind fun (f,L1,σ1)=>match f with | .next=>evSs c r z L1 σ1 | f=>some (f,L1,σ1):=by rw [evSs_cons,evS_ifs,h]; rfl
theorem ifT {t : PE} {b o : List PS} (h : evT c t L σ = some (true,σ1)) : evSs c (.ifs t b o :: r) z L σ = (evSs c b z L σ1).bind fun (f,L1,σ1)=>match f with | .next=>evSs c r z L1 σ1 | f=>some (f,L1,σ1):=ifS h
theorem ifF {t : PE} {b o : List PS} (h : evT c t L σ = some (false,σ1)) : evSs c (.ifs t b o :: r) z L σ = (evSs c o z L σ1).bind fun (f,L1,σ1)=>match f with | .next=>evSs c r z L1 σ1 | f=>some (f,L1,σ1):=ifS h
theorem ifN {t : PE} {b : List PS} (h : evT c t L σ = some (false,σ1)) : evSs c (.ifs t b [] :: r) z L σ = evSs c r z L σ1:=ifS h
theorem retF' (h : evE c e L σ = some (v,σ1)) : evSs c (.retf e :: r) z L σ = some (.ret (rv σ1 z v),gcL σ1 z L,gcS σ1 z):=by rw [evSs_cons,evS_retf,h]; rfl
theorem retS (h : evE c e L σ = some (v,σ1)) : evSs c (.ret e :: r) z L σ = some (.ret v,L,σ1):=by rw [evSs_cons,evS_ret,h]; rfl
end
section
variable {c : Cx} {L : Loc} {σ σ1 σ2 : St} {l r : PE} {a b v : V}
theorem cmpE {op : COp} {x : Bool} (h1 : evE c l L σ = some (a,σ1)) (h2 : evE c r L σ1 = some (b,σ2)) (h3 : cmpV c σ2 op a b = some x) : evE c (.cmp op l r) L σ = some (.bool x,σ2):=by
 rw [evE_cmp,h1,Option.bind_some]
 show (evE c r L σ1).bind _ = _
 rw [h2,Option.bind_some]
 show (cmpV c σ2 op a b).map _ = _
 rw [h3]; rfl
theorem cmpT {op : COp} {x : Bool} (h1 : evE c l L σ = some (a,σ1)) (h2 : evE c r L σ1 = some (b,σ2)) (h3 : cmpV c σ2 op a b = some x) : evT c (.cmp op l r) L σ = some (x,σ2):=by
 rw [evT_cmp,cmpE h1 h2 h3]; rfl
theorem andT1 {x : Bool} (h1 : evT c l L σ = some (true,σ1)) (h2 : evT c r L σ1 = some (x,σ2)) : evT c (.andE l r) L σ = some (x,σ2):=by rw [evT_andE,h1]; exact h2
theorem andT0 (h1 : evT c l L σ = some (false,σ1)) : evT c (.andE l r) L σ = some (false,σ1):=by rw [evT_andE,h1]; rfl
theorem orT0 {x : Bool} (h1 : evT c l L σ = some (false,σ1)) (h2 : evT c r L σ1 = some (x,σ2)) : evT c (.orE l r) L σ = some (x,σ2):=by rw [evT_orE,h1]; exact h2
theorem orT1 (h1 : evT c l L σ = some (true,σ1)) : evT c (.orE l r) L σ = some (true,σ1):=by rw [evT_orE,h1]; rfl
theorem orT {a b : Bool} (h1 : evT c l L σ = some (a,σ)) (h2 : evT c r L σ = some (b,σ)) : evT c (.orE l r) L σ = some (a || b,σ):=by
 cases a with
 | true=>exact orT1 h1
 | false=>exact orT0 h1 h2
theorem andT {a b : Bool} (h1 : evT c l L σ = some (a,σ)) (h2 : evT c r L σ = some (b,σ)) : evT c (.andE l r) L σ = some (a && b,σ):=by
 cases a with
 | true=>exact andT1 h1 h2
 | false=>exact andT0 h1
theorem notT {x : Bool} (h1 : evT c l L σ = some (x,σ1)) : evT c (.notE l) L σ = some (!x,σ1):=by rw [evT_notE,h1]; rfl
theorem appE {a : Nat} {vs : List V} {σ' : St} (h1 : evE c l L σ = some (.ref a,σ1)) (hg0 : σ1[a]? = some (.list vs)) (h2 : evE c r L σ1 = some (v,σ2)) (hg : σ2[a]? = some (.list vs)) (hl : vs.length ≤ LIM) (hs : σ2.set a (.list (vs ++ [v])) = σ') : evE c (.append l r) L σ = some (.none,σ'):=by
 subst hs
 have h3 : isListV σ1 (.ref a) = true:=by show (match σ1[a]? with | some o=>oIsL o | none=>false) = true; rw [hg0]; rfl
 rw [evE_append,h1,Option.bind_some]
 show (bif isListV σ1 (.ref a) then (evE c r L σ1).bind _ else none) = _
 rw [h3,cond_true,h2,Option.bind_some]
 show (σ2[a]?).bind _ = _
 rw [hg,Option.bind_some]
 exact if_pos hl
theorem getE {i : Nat} (h : getK i L = some v) : evE c (.loc i) L σ = some (v,σ):=evE_loc.trans (congrArg (Option.map fun v=>(v,σ)) h)
end
noncomputable def retV : Fl → V | .ret v=>v | _=>.none
theorem fn_eq {p : Pr} {F d f : Nat} {args : List V} {σ : St} {fn : Fn} {L L' : Loc} {fl : Fl} {v : V} {σ' : St} (hB : Nat.blt f BIG = true) (h1 : p.fns f = some fn) (h2 : bindP fn.params args fn.dflt = some L)
 (h : evSs (cxOf p F (runF p F d)) fn.body σ.length L σ = some (fl,L',σ')) (hv : retV fl = v) : runF p F (d + 1) f args σ = some (v,σ'):=by
 rw [runF_succ,h1,Option.bind_some,h2,Option.bind_some,h,← hv]
 show endF f fl σ' = _
 unfold endF
 rw [hB]
 cases fl <;> rfl
theorem fn_ex {p : Pr} {F d f : Nat} {args : List V} {σ : St} {fn : Fn} {L : Loc} {fl : Fl} {v : V} {σ' : St} (hB : Nat.blt f BIG = true) (h1 : p.fns f = some fn) (h2 : bindP fn.params args fn.dflt = some L)
 (h : ∃ L',evSs (cxOf p F (runF p F d)) fn.body σ.length L σ = some (fl,L',σ')) (hv : retV fl = v) : runF p F (d + 1) f args σ = some (v,σ'):=let ⟨_,h⟩:=h; fn_eq hB h1 h2 h hv
theorem gk_eq {β : Type} {i : Nat} {v : β} : ∀ {L : List (Nat × β)},getK i (putK i v L) = some v:=(getK_putK i i v _).trans (if_pos rfl)
theorem gk_ne {β : Type} {i j : Nat} {v : β} {w : Option β} (h : i ≠ j) {L : List (Nat × β)} (e : getK i L = w) : getK i (putK j v L) = w:=(getK_putK j i v L).trans ((if_neg h).trans e)
theorem lk_last {σ : St} {o : O} : (σ ++ [o])[σ.length]? = some o:=List.getElem?_concat_length
noncomputable def Cld (σ : St) : Prop:=∀ s,σ.map (oMap (rv s σ.length)) = σ
theorem gcS_app {σ τ : St} (h : Cld σ) : gcS (σ ++ τ) σ.length = σ:=by
 show ((σ ++ τ).take σ.length).map _ = σ
 rw [List.take_left' rfl]
 exact h _
theorem gcS_id {σ : St} (h : Cld σ) : gcS σ σ.length = σ:=by
 have:=gcS_app (τ:=[]) h
 rwa [List.append_nil] at this
theorem allocL_eq {vs : List V} {σ : St} (h : vs.length ≤ LIM) : allocL vs σ = some (.ref σ.length,σ ++ [.list vs]):=if_pos h
theorem strsV_map : ∀ ps : List (List Nat),strsV (ps.map V.str) = some ps
 | []=>rfl
 | p :: r=>by show (strsV (r.map V.str)).map (p :: ·) = _; rw [strsV_map r]; rfl
theorem joinL_nil : ∀ ps : List (List Nat),joinL [] ps = ps.flatten
 | []=>rfl
 | [x]=>(List.append_nil x).symm
 | x :: y :: r=>by show x ++ [] ++ joinL [] (y :: r) = _; rw [joinL_nil (y :: r),List.append_nil]; rfl
theorem len_sum : ∀ ps : List (List Nat),(ps.map (·.length)).sum = ps.flatten.length
 | []=>rfl
 | x :: r=>by show x.length + (r.map (·.length)).sum = (x ++ r.flatten).length; rw [len_sum r,List.length_append]
theorem joinV_eq {c : Cx} {σ : St} {v : V} {ps : List (List Nat)} (e : objOf c σ v = some (.list (ps.map V.str))) (hl : ps.flatten.length ≤ LIM) : joinV c [] v σ = some (.str ps.flatten,σ):=by
 show ((objOf c σ v).bind itemsO).bind _ = _
 rw [e]
 show (strsV (ps.map V.str)).bind _ = _
 rw [strsV_map,Option.bind_some,joinL_nil,len_sum,List.length_nil,Nat.mul_zero,Nat.add_zero]
 exact if_pos ⟨hl,hl⟩
noncomputable def OutS (x : Option (Fl × Loc × St)) (Q : Fl → Loc → St → Prop) : Prop:=∃ f L σ,x = some (f,L,σ) ∧ Q f L σ
noncomputable def Lp (K : Fl → Loc → St → Prop) (I : Loc → St → Prop) : Fl → Loc → St → Prop
 | .brk,L,σ=>K .next L σ
 | .ret v,L,σ=>K (.ret v) L σ
 | _,L,σ=>I L σ
theorem whileL_rule {test : Loc → St → Option (Bool × St)} {body : Loc → St → Option (Fl × Loc × St)} {K : Fl → Loc → St → Prop} (I : Nat → Loc → St → Prop)
 (hs : ∀ n L σ,I n L σ → ∃ x σ1,test L σ = some (x,σ1) ∧ match x with | false=>K .next L σ1 | true=>OutS (body L σ1) (Lp K fun L2 σ2=>∃ m,m < n ∧ I m L2 σ2)) :
 ∀ (k n : Nat) (L : Loc) (σ : St),n < k → I n L σ → OutS (whileL test body k L σ) K
 | 0,n,L,σ,hk,_=>absurd hk (Nat.not_lt_zero _)
 | k + 1,n,L,σ,hk,h=>by
  obtain ⟨x,σ1,e,h1⟩:=hs n L σ h
  rw [whileL_succ,e,Option.bind_some]
  cases x with
  | false=>exact ⟨_,_,_,rfl,h1⟩
  | true =>
   obtain ⟨f,L2,σ2,e2,h2⟩:=h1
   show OutS ((body L σ1).bind _) K
   rw [e2,Option.bind_some]
   cases f with
   | brk=>exact ⟨_,_,_,rfl,h2⟩
   | ret v=>exact ⟨_,_,_,rfl,h2⟩
   | next=>obtain ⟨m,hm,h2⟩:=h2; exact whileL_rule I hs k m L2 σ2 (Nat.lt_of_lt_of_le hm (Nat.le_of_lt_succ hk)) h2
   | cont=>obtain ⟨m,hm,h2⟩:=h2; exact whileL_rule I hs k m L2 σ2 (Nat.lt_of_lt_of_le hm (Nat.le_of_lt_succ hk)) h2
theorem forL_rule {bind : V → Loc → St → Option Loc} {still : St → Bool} {body : Loc → St → Option (Fl × Loc × St)} {K : Fl → Loc → St → Prop} (I : List V → Loc → St → Prop)
 (hs : ∀ v vs L σ,I (v :: vs) L σ → still σ = true ∧ ∃ L1,bind v L σ = some L1 ∧ OutS (body L1 σ) (Lp K (I vs)))
 (hn : ∀ L σ,I [] L σ → still σ = true ∧ K .next L σ) : ∀ (xs : List V) (L : Loc) (σ : St),I xs L σ → OutS (forL bind still body xs L σ) K
 | [],L,σ,h=>⟨_,_,_,forL_nil.trans (if_pos (hn L σ h).1),(hn L σ h).2⟩
 | v :: vs,L,σ,h=>by
  obtain ⟨h1,L1,e,f,L2,σ2,e2,h2⟩:=hs v vs L σ h
  rw [forL_cons,if_pos h1,e,Option.bind_some,e2,Option.bind_some]
  cases f with
  | brk=>exact ⟨_,_,_,rfl,h2⟩
  | ret v=>exact ⟨_,_,_,rfl,h2⟩
  | next=>exact forL_rule I hs hn vs L2 σ2 h2
  | cont=>exact forL_rule I hs hn vs L2 σ2 h2
section
variable {c : Cx} {L : Loc} {σ : St}
theorem orB {l r : PE} {a b : Bool} (h1 : evE c l L σ = some (.bool a,σ)) (h2 : evE c r L σ = some (.bool b,σ)) : evE c (.orE l r) L σ = some (.bool (a || b),σ):=by
 rw [evE_orE,h1]
 cases a with
 | true=>rfl
 | false=>exact h2
theorem chainB {a e x : Int} {i : Nat} (h : getK i L = some (.int x)) : evE c (.chain .le .le (.const (.int a)) (.loc i) (.const (.int e))) L σ = some (.bool (decide (a ≤ x) && decide (x ≤ e)),σ):=by
 rw [evE_chain,evE_const,Option.bind_some]
 show ((evE c (.loc i) L σ).bind _) = _
 rw [evE_loc,h,Option.map_some,Option.bind_some]
 show ((some (decide (a ≤ x))).bind _) = _
 cases decide (a ≤ x) with
 | false=>rfl
 | true=>rfl
theorem idx_last {n : Nat} (h : 0 < n) : idxOf n (-1) = some (n - 1):=by
 unfold idxOf
 rw [if_neg (by decide),if_pos (by lia)]; rfl
theorem idx_nat {n j : Nat} (h : j < n) : idxOf n (j : Nat) = some j:=by
 unfold idxOf
 rw [if_pos (Int.natCast_nonneg _),Int.toNat_natCast,if_pos h]
theorem last_eq {i : Nat} {D : List Nat} {x : Nat} (hL : getK i L = some (.str D)) (hx : D.getLast? = some x) : evE c (.sub (.loc i) (.neg (.const (.int 1)))) L σ = some (.str [x],σ):=by
 have h0 : 0 < D.length:=by cases D with | nil=>cases hx | cons=>exact Nat.succ_pos _
 rw [evE_sub,evE_loc,hL,Option.map_some,Option.bind_some]
 show Option.map _ (((idxOf D.length (-1)).bind _)) = _
 rw [idx_last h0,Option.bind_some,← List.getLast?_eq_getElem?,hx]
 rfl
end
end
section
open Builtin.Str StrLaws
noncomputable abbrev cD (sx : List (Nat × O)) (F d : Nat) : Cx:=cxOf (Law2.pr sx) F (runF (Law2.pr sx) F d)
structure X2 where
 a : O
 b : O
 ca : ∀ σ n,oMap (rv σ n) a = a
 cb : ∀ σ n,oMap (rv σ n) b = b
noncomputable def colOf (p : Nat) (l : List Nat) : Nat:=match lastIx 10 l with | none=>p + l.length | some i=>l.length - (i + 1)
noncomputable def plc (m : List Nat) : O:=.tuple [.int ((m.count 10 + 1 : Nat)),.int (colOf 0 m : Nat)]
noncomputable abbrev errV : V:=.str [105,110,118,97,108,105,100,45,99,111,100,101,112,111,105,110,116]
noncomputable def smO (chunk : List Nat) (off : Nat) (pl pc : Nat) : O:=.inst 166 [(52,.ref 4),(67,.ref 5),(48,.ref 6),(46,.str chunk),(41,.int (chunk.length : Nat)),(47,.int (off : Nat)),(77,.ref 7),(43,.int (pl : Nat)),(44,.int (pc : Nat)),(50,.none)]
noncomputable abbrev smP (pre chunk : List Nat) (off : Nat) : O:=smO chunk off (pre.count 10) (colOf 0 pre)
noncomputable def txO (t : List Nat) (p e : Nat) : O × Nat:=(.inst 73 [(3,.str t),(16,.int (p : Nat))],e)
noncomputable def hS (xr : X2) (x0 sm : O) (tx : O × Nat) (rest : List O) : St:=xr.a :: xr.b :: x0 :: sm :: .meth 148 (.ref 3) :: .list [.int 0] :: tx.1 :: .list (List.replicate tx.2 errV) :: rest
noncomputable def inv (c : Nat) : Bool:=(decide (1 ≤ (c : Int)) && decide ((c : Int) ≤ 8)) || (((c : Int) == 11) || ((decide (14 ≤ (c : Int)) && decide ((c : Int) ≤ 31)) || ((decide (127 ≤ (c : Int)) && decide ((c : Int) ≤ 159)) || ((decide (64976 ≤ (c : Int)) && decide ((c : Int) ≤ 65007)) || (((65534 == Int.fmod c 65536) || ((65535 == Int.fmod c 65536) || false)) || (decide (55296 ≤ (c : Int)) && decide ((c : Int) ≤ 57343)))))))
noncomputable def okc (c : Nat) : Bool:=!(c == 13 || (c == 9 || (c == 35 || (Nat.ble 55296 c && Nat.ble c 57343))))
noncomputable def Txt' (t : List Nat) : Prop:=(∀ c ∈ t,okc c = true) ∧ t.length ≤ 10000
theorem ok_le {c : Nat} (h : okc c = true) : c ≠ 13 ∧ c ≠ 9 ∧ c ≠ 35 ∧ ¬ (55296 ≤ c ∧ c ≤ 57343):=by
 unfold okc at h
 simp only [Bool.not_eq_true',Bool.or_eq_false_iff,Bool.and_eq_false_iff,beq_eq_false_iff_ne] at h
 refine ⟨h.1,h.2.1,h.2.2.1,fun q=>?_⟩
 rcases h.2.2.2 with k | k
 ·rw [Nat.ble_eq_true_of_le q.1] at k; cases k
 ·rw [Nat.ble_eq_true_of_le q.2] at k; cases k
theorem count3_eq {s : List Nat} {c hi : Nat} {σ : St} (h1 : hi ≤ s.length) (h2 : s.length ≤ LIM) : count3V [c] (.str s) (.int 0) (.int (hi : Nat)) σ = some (.int ((s.take hi).count c : Nat),σ):=by
 have h3 : (0 : Int) = 0 ∧ (0 : Int) ≤ (hi : Nat) ∧ ((hi : Nat) : Int) ≤ LIM:=by lia
 refine (if_pos h3).trans ?_
 rw [Int.toNat_natCast,count_eq s c hi h1]
theorem rfind3_eq {s : List Nat} {c hi : Nat} {σ : St} (h1 : hi ≤ s.length) (h2 : s.length ≤ LIM) : rfind3V [c] (.str s) (.int 0) (.int (hi : Nat)) σ = some (.int (match lastIx c (s.take hi) with | some i=>(i : Int) | none=>-1),σ):=by
 have h3 : (0 : Int) = 0 ∧ (0 : Int) ≤ (hi : Nat) ∧ ((hi : Nat) : Int) ≤ LIM:=by lia
 refine (if_pos h3).trans ?_
 rw [Int.toNat_natCast,last_eq1 s c hi h1]
 all_goals (cases lastIx c (s.take hi) <;> rfl)
theorem lastIx_cons (c x : Nat) (r : List Nat) : lastIx c (x :: r) = match lastIx c r with | some i=>some (i + 1) | none=>if x = c then some 0 else none:=rfl
theorem lastIx_lt (c : Nat) : ∀ (l : List Nat) (i : Nat),lastIx c l = some i → i < l.length
 | x :: r,i,h=>by
  rw [lastIx_cons] at h
  cases hr : lastIx c r with
  | none =>
   rw [hr] at h
   have h : (if x = c then some 0 else none) = some i:=h
   by_cases q : x = c
   ·rw [if_pos q] at h; cases h; exact Nat.succ_pos _
   ·rw [if_neg q] at h; cases h
  | some j =>
   rw [hr] at h
   cases h
   exact Nat.succ_lt_succ (lastIx_lt c r j hr)
theorem lastIx_app (c : Nat) (b : List Nat) : ∀ a : List Nat,lastIx c (a ++ b) = match lastIx c b with | some i=>some (i + a.length) | none=>lastIx c a
 | []=>by
  show lastIx c b = _
  cases lastIx c b with
  | none=>rfl
  | some i=>rfl
 | x :: a=>by
  rw [List.cons_append,lastIx_cons,lastIx_app c b a]
  cases lastIx c b with
  | none=>rfl
  | some i=>rfl
theorem col_app (a b : List Nat) : colOf (colOf 0 a) b = colOf 0 (a ++ b):=by
 unfold colOf
 rw [lastIx_app]
 cases hb : lastIx 10 b with
 | none =>
  cases ha : lastIx 10 a with
  | none=>show 0 + a.length + b.length = 0 + (a ++ b).length; rw [List.length_append]; exact Nat.add_assoc ..
  | some i =>
   have:=lastIx_lt 10 a i ha
   show a.length - (i + 1) + b.length = (a ++ b).length - (i + 1)
   rw [List.length_append]; exact (Nat.sub_add_comm this).symm
 | some i =>
  show b.length - (i + 1) = (a ++ b).length - (i + a.length + 1)
  rw [List.length_append,Nat.add_comm i a.length]; exact (Nat.add_sub_add_left ..).symm
section
variable {F d : Nat} {sx : List (Nat × O)} {σ : St}
theorem x84 {x : Nat} : runF (Law2.pr sx) F (d + 1) 84 [.int (x : Nat)] σ = some (.bool (inv x),σ):=by
 have h : getK 82 [(82,V.int (x : Nat))] = some (.int (x : Nat)):=rfl
 refine fn_eq (by rfl) (L:=[(82,.int (x : Nat))]) rfl rfl (retS ?_) rfl
 exact orB (chainB h) (orB rfl (orB (chainB h) (orB (chainB h) (orB (chainB h) (orB rfl (chainB h))))))
variable {xr : X2} {x0 sm : O} {tx : O × Nat} {chunk t E : List Nat} {off n p s e z : Nat} {pl pc : Nat} {rest : List O} {v41 : V} {L2 : Loc}
theorem x148 {D : List Nat} (hl : tx.2 + D.length ≤ LIM) : ∃ e,runF (Law2.pr sx) F (d + 2) 148 [.ref 3,.str D] (hS xr x0 (smO chunk off pl pc) tx rest) = some (.none,hS xr x0 (smO chunk off pl pc) (tx.1,e) rest) ∧ e ≤ tx.2 + D.length:=by
 obtain ⟨f,L',σ',e1,rfl,e,rfl,he⟩:=forL_rule (K:=fun f L s=>f = .next ∧ ∃ e,s = hS xr x0 (smO chunk off pl pc) (tx.1,e) rest ∧ e ≤ tx.2 + D.length)
  (bind:=fun v L s=>bindFt (cD sx F (d + 1)) s (.one 25) v L) (still:=fun s=>stillV (cD sx F (d + 1)) (hS xr x0 (smO chunk off pl pc) tx rest) s (.str D))
  (body:=fun L s=>evSs (cD sx F (d + 1)) [.ifs (.call 84 [.ord (.loc 25)]) [.expr (.append (.attr (.loc 34) 77) (.const errV))] []] (hS xr x0 (smO chunk off pl pc) tx rest).length L s)
  (fun vs L s=>getK 34 L = some (.ref 3) ∧ (∀ v ∈ vs,∃ x : Nat,v = .str [x]) ∧ ∃ e,s = hS xr x0 (smO chunk off pl pc) (tx.1,e) rest ∧ e + vs.length ≤ tx.2 + D.length)
  (fun v vs L s ⟨h34,hv,e,hs,he⟩=>by
   subst hs
   obtain ⟨x,rfl⟩:=hv _ (.head _)
   refine ⟨still_iff.mpr rfl,putK 25 (.str [x]) L,rfl,?_⟩
   have he : e + 1 + vs.length ≤ tx.2 + D.length:=by rw [List.length_cons] at he; lia
   have a34 : getK 34 (putK 25 (.str [x]) L) = some (.ref 3):=gk_ne (by decide) h34
   have h1 : evE (cD sx F (d + 1)) (.loc 25) (putK 25 (.str [x]) L) (hS xr x0 (smO chunk off pl pc) (tx.1,e) rest) = some (.str [x],hS xr x0 (smO chunk off pl pc) (tx.1,e) rest):=getE gk_eq
   generalize putK 25 (.str [x]) L = L1 at a34 h1
   have h2 : evE (cD sx F (d + 1)) (.call 84 [.ord (.loc 25)]) L1 (hS xr x0 (smO chunk off pl pc) (tx.1,e) rest) = some (.bool (inv x),hS xr x0 (smO chunk off pl pc) (tx.1,e) rest):=by
    rw [evE_call,evEs_cons,evE_ord,h1]
    exact x84
   have t1 : evT (cD sx F (d + 1)) (.call 84 [.ord (.loc 25)]) L1 (hS xr x0 (smO chunk off pl pc) (tx.1,e) rest) = some (inv x,hS xr x0 (smO chunk off pl pc) (tx.1,e) rest):=by rw [tv_call,h2]; rfl
   cases hi : inv x with
   | false =>
    rw [hi] at t1
    exact ⟨.next,L1,_,(ifN t1).trans rfl,a34,fun v q=>hv v (.tail _ q),e,rfl,by lia⟩
   | true =>
    rw [hi] at t1
    have ea : evE (cD sx F (d + 1)) (.append (.attr (.loc 34) 77) (.const errV)) L1 (hS xr x0 (smO chunk off pl pc) (tx.1,e) rest) = some (.none,hS xr x0 (smO chunk off pl pc) (tx.1,e + 1) rest) :=
     appE (a:=7) (vs:=List.replicate e errV) (by rw [evE_attr,getE a34]; rfl) rfl evE_const rfl (by rw [List.length_replicate]; lia) (by rw [← List.replicate_succ']; rfl)
    exact ⟨.next,L1,_,(ifT t1).trans (by rw [exprS ea]; rfl),a34,fun v q=>hv v (.tail _ q),e + 1,rfl,he⟩)
  (fun L s ⟨_,_,e,hs,he⟩=>⟨still_iff.mpr rfl,rfl,e,hs,he⟩) (D.map fun ch=>V.str [ch]) [(34,.ref 3),(29,.str D)] (hS xr x0 (smO chunk off pl pc) tx rest)
  ⟨rfl,fun v hv=>by obtain ⟨x,_,rfl⟩:=List.mem_map.mp hv; exact ⟨x,rfl⟩,tx.2,rfl,by rw [List.length_map]; exact Nat.le_refl _⟩
 refine ⟨e,fn_eq (by rfl) (L:=[(34,.ref 3),(29,.str D)]) (fl:=.next) (L':=L') rfl rfl ?_ rfl,he⟩
 show evSs _ [.fors _ _ _] _ _ _ = _
 rw [evSs_cons,evS_fors]
 show (Option.bind (forL _ _ _ _ _ _) _) = _
 rw [e1]; rfl
theorem read_cut {t : List Nat} {p n : Nat} (hp : p ≤ t.length) : cut t (clampI t.length (p : Int)) (clampI t.length ((p : Int) + (n : Int))) = (t.drop p).take n:=by
 unfold cut clampI
 have h3 : ((p : Int) + (n : Int)).toNat = p + n:=rfl
 rw [if_neg (Int.not_lt.mpr (Int.natCast_nonneg _)),if_neg (show ¬ (p : Int) + (n : Int) < 0 from Int.not_lt.mpr (Int.natCast_nonneg (p + n))),h3,Int.toNat_natCast,Nat.min_eq_left hp]
 by_cases h4 : p + n ≤ t.length
 ·rw [Nat.min_eq_left h4,Nat.add_sub_cancel_left]
 ·have h5:=Nat.le_of_lt (Nat.not_le.mp h4)
  rw [Nat.min_eq_right h5,List.take_of_length_le (Nat.le_of_eq List.length_drop),List.take_of_length_le (by rw [List.length_drop]; exact Nat.sub_le_iff_le_add'.mpr h5)]
theorem x70 (hp : p ≤ t.length) : runF (Law2.pr sx) F (d + 1) 70 [.ref 6,.int (n : Nat)] (hS xr x0 sm (txO t p e) rest) = some (.str ((t.drop p).take n),hS xr x0 sm (txO t (p + ((t.drop p).take n).length) e) rest):=by
 rw [← read_cut hp]
 exact fn_eq (by rfl) rfl rfl rfl rfl
theorem x119 {o : Nat} (h1 : o ≤ chunk.length) (h2 : chunk.length ≤ LIM) : runF (Law2.pr sx) F (d + 1) 119 [.ref 3,.int (o : Nat)] (hS xr x0 (smO chunk off pl pc) tx rest) =
 some (.frz (.tuple [.int ((pl + (chunk.take o).count 10 : Nat)),.int (colOf pc (chunk.take o) : Nat)]),hS xr x0 (smO chunk off pl pc) tx rest):=by
 have hc : evSs (cD sx F d) Law2.f119 (hS xr x0 (smO chunk off pl pc) tx rest).length [(34,.ref 3),(72,.int (o : Nat))] (hS xr x0 (smO chunk off pl pc) tx rest) =
  evSs (cD sx F d) (Law2.f119.drop 4) (hS xr x0 (smO chunk off pl pc) tx rest).length [(34,.ref 3),(72,.int (o : Nat)),(46,.str chunk),(71,.int ((chunk.take o).count 10 : Nat)),(73,.int ((pl + (chunk.take o).count 10 : Nat))),(74,.int (match lastIx 10 (chunk.take o) with | some i=>(i : Int) | none=>-1))] (hS xr x0 (smO chunk off pl pc) tx rest):=by
  refine (asgL (v:=.str chunk) (σ1:=hS xr x0 (smO chunk off pl pc) tx rest) rfl).trans ?_
  refine (asgL (v:=.int ((chunk.take o).count 10 : Nat)) (σ1:=hS xr x0 (smO chunk off pl pc) tx rest) ?_).trans ?_
  ·exact count3_eq (c:=10) (σ:=hS xr x0 (smO chunk off pl pc) tx rest) h1 h2
  refine (asgL (v:=.int ((pl + (chunk.take o).count 10 : Nat))) (σ1:=hS xr x0 (smO chunk off pl pc) tx rest) rfl).trans ?_
  refine (asgL (v:=.int (match lastIx 10 (chunk.take o) with | some i=>(i : Int) | none=>-1)) (σ1:=hS xr x0 (smO chunk off pl pc) tx rest) ?_).trans ?_
  ·exact rfind3_eq (c:=10) (σ:=hS xr x0 (smO chunk off pl pc) tx rest) h1 h2
  rfl
 unfold colOf
 cases hl : lastIx 10 (chunk.take o) with
 | none =>
  rw [hl] at hc
  rw [List.length_take,Nat.min_eq_left h1]
  exact fn_ex (by rfl) (fl:=.ret (.frz (.tuple [.int ((pl + (chunk.take o).count 10 : Nat)),.int ((pc + o : Nat))]))) rfl rfl ⟨_,hc.trans rfl⟩ rfl
 | some i =>
  rw [hl] at hc
  have hi:=lastIx_lt 10 _ i hl
  rw [List.length_take,Nat.min_eq_left h1] at hi ⊢
  have e : ((o - (i + 1) : Nat) : Int) = (o : Int) - ((i : Int) + 1):=Int.ofNat_sub hi
  show _ = some (V.frz (.tuple [_,.int ((o - (i + 1) : Nat) : Int)]),_)
  rw [e]
  exact fn_ex (by rfl) (fl:=.ret (.frz (.tuple [.int ((pl + (chunk.take o).count 10 : Nat)),.int ((o : Int) - ((i : Int) + 1))]))) rfl rfl ⟨_,hc.trans rfl⟩ rfl
theorem x126 (h1 : off ≤ chunk.length) (h2 : chunk.length ≤ LIM) : runF (Law2.pr sx) F (d + 2) 126 [.ref 3] (hS xr x0 (smO chunk off pl pc) tx rest) =
 some (.frz (.tuple [.int ((pl + (chunk.take off).count 10 + 1 : Nat)),.int (colOf pc (chunk.take off) : Nat)]),hS xr x0 (smO chunk off pl pc) tx rest):=by
 refine fn_eq (by rfl) (fl:=.ret (.frz (.tuple [.int ((pl + (chunk.take off).count 10 + 1 : Nat)),.int (colOf pc (chunk.take off) : Nat)]))) (L':=[(34,.ref 3),(53,.int ((pl + (chunk.take off).count 10 : Nat))),(54,.int (colOf pc (chunk.take off) : Nat))]) rfl rfl ?_ rfl
 show evSs _ [.assignT _ _,.ret _] _ _ _ = _
 rw [evSs_cons,evS_assignT]
 have e : evE (cD sx F (d + 1)) (.meth (.loc 34) 45 [.attr (.loc 34) 47]) [(34,.ref 3)] (hS xr x0 (smO chunk off pl pc) tx rest) = some (.frz (.tuple [.int ((pl + (chunk.take off).count 10 : Nat)),.int (colOf pc (chunk.take off) : Nat)]),hS xr x0 (smO chunk off pl pc) tx rest):=x119 h1 h2
 show (((evE _ _ _ _).bind _).bind _) = _
 rw [e]
 rfl
theorem rep_id {s : List Nat} (h : 13 ∉ s) (hl : s.length ≤ LIM) : replV [13,10] [10] (.str s) σ = some (.str s,σ) ∧ replV [13] [10] (.str s) σ = some (.str s,σ):=by
 have np : noPair 13 10 s = true:=by
  induction s with
  | nil=>rfl
  | cons x r ih =>
   have h1:=ih (fun q=>h (.tail _ q)) (Nat.le_trans (Nat.le_succ _) hl)
   have hx : ¬ x = 13:=fun q=>h (q ▸ .head _)
   cases r with
   | nil=>rfl
   | cons y r=>exact Bool.and_eq_true_iff.mpr ⟨by rw [beq_false_of_ne hx]; rfl,h1⟩
 have e2:=repl_two s 13 10 [10] np
 have e1 : ofS (Txt.replace (toS s) (toS [13]) (toS [10])) = s:=by
  rw [repl_one]
  conv=>rhs; rw [← List.map_id s]
  exact List.map_congr_left fun x hx=>if_neg (by rintro rfl; exact h hx)
 constructor
 ·show (if _ then some (V.str _,σ) else none) = _
  rw [e2]
  exact if_pos ⟨hl,by decide,by decide⟩
 ·show (if _ then some (V.str _,σ) else none) = _
  rw [e1]
  exact if_pos ⟨hl,by decide,by decide⟩
theorem fldCall_eq {c : Cx} {cl m q g : Nat} {self : V} {σ σ2 : St} {as : St → Option (List V × St)} {vs : List V} (hc : c.clsi cl m = true) (hq : σ[q]? = some (.meth g self)) (ha : as σ = some (vs,σ2)) (h2 : σ2[q]? = some (.meth g self)) (hB : g < BIG) :
 fldCall c cl m (.ref q) σ as = c.call g (self :: vs) σ2:=by
 show (if c.clsi cl m = true then (σ[q]?).bind _ else none) = _
 rw [if_pos hc,hq,Option.bind_some]
 show (as σ).bind _ = _
 rw [ha,Option.bind_some]
 exact @if_pos _ (Classical.propDecidable _) ⟨h2,hB⟩ _ _ _
theorem x141d (hE : ∀ c ∈ E,okc c = true) (hl : tx.2 + E.length ≤ LIM) : ∃ L' e,evSs (cD sx F (d + 2)) (Law2.f141.drop 8) z ((34,.ref 3) :: (41,v41) :: (29,.str E) :: L2) (hS xr x0 (smO [] 0 pl pc) tx rest) = some (.ret (.bool true),L',hS xr x0 (smO E 0 pl pc) (tx.1,e) rest) ∧ e ≤ tx.2 + E.length:=by
 have h13 : 13 ∉ E:=fun q=>(ok_le (hE _ q)).1 rfl
 have hl2 : E.length ≤ LIM:=Nat.le_trans (Nat.le_add_left _ _) hl
 obtain ⟨e,e1,he⟩:=x148 (F:=F) (d:=d) (sx:=sx) (xr:=xr) (x0:=x0) (tx:=tx) (chunk:=[]) (off:=0) (pl:=pl) (pc:=pc) (rest:=rest) hl
 refine ⟨(34,.ref 3) :: (41,v41) :: (29,.str E) :: L2,e,?_,he⟩
 refine (ifT (σ1:=hS xr x0 (smO [] 0 pl pc) tx rest) rfl).trans ?_
 rw [exprS (v:=.none) (σ1:=hS xr x0 (smO [] 0 pl pc) (tx.1,e) rest) ?_]
 rotate_left
 ·exact (fldCall_eq (c:=cD sx F (d + 2)) (cl:=166) (m:=52) (q:=4) (g:=148) (self:=.ref 3) (σ:=hS xr x0 (smO [] 0 pl pc) tx rest) (as:=evEs (cD sx F (d + 2)) [.loc 29] ((34,.ref 3) :: (41,v41) :: (29,.str E) :: L2)) (σ2:=hS xr x0 (smO [] 0 pl pc) tx rest) (vs:=[.str E]) rfl rfl rfl rfl (by decide : 148 < BIG)).trans e1
 show evSs _ (Law2.f141.drop 9) z _ _ = _
 refine (asgL (v:=.str E) (σ1:=hS xr x0 (smO [] 0 pl pc) (tx.1,e) rest) ?_).trans ?_
 ·exact (rep_id (σ:=hS xr x0 (smO [] 0 pl pc) (tx.1,e) rest) h13 hl2).1
 refine (asgL (v:=.str E) (σ1:=hS xr x0 (smO [] 0 pl pc) (tx.1,e) rest) ?_).trans ?_
 ·exact (rep_id (σ:=hS xr x0 (smO [] 0 pl pc) (tx.1,e) rest) h13 hl2).2
 rfl
theorem x141b (hE : ∀ c ∈ E,okc c = true) (hl : tx.2 + E.length ≤ LIM) : ∃ L' e,evSs (cD sx F (d + 2)) (Law2.f141.drop 6) z [(34,.ref 3),(41,v41),(29,.str E)] (hS xr x0 (smO [] 0 pl pc) tx rest) = some (.ret (.bool (!E.isEmpty)),L',hS xr x0 (smO E 0 pl pc) (tx.1,e) rest) ∧ e ≤ tx.2 + E.length:=by
 cases hx : E.getLast? with
 | none =>
  obtain rfl:=List.getLast?_eq_none_iff.mp hx
  exact ⟨_,tx.2,rfl,Nat.le_refl _⟩
 | some x =>
  have hE0 : E.isEmpty = false:=by cases E with | nil=>cases hx | cons=>rfl
  have hok:=ok_le (hE x (List.mem_of_getLast? hx))
  have e6 : evSs (cD sx F (d + 2)) (Law2.f141.drop 6) z [(34,.ref 3),(41,v41),(29,.str E)] (hS xr x0 (smO [] 0 pl pc) tx rest) = evSs (cD sx F (d + 2)) (Law2.f141.drop 7) z [(34,.ref 3),(41,v41),(29,.str E)] (hS xr x0 (smO [] 0 pl pc) tx rest):=by
   refine (ifF (σ1:=hS xr x0 (smO [] 0 pl pc) tx rest) rfl).trans ?_
   have h29 : evT (cD sx F (d + 2)) (.notE (.loc 29)) [(34,.ref 3),(41,v41),(29,.str E)] (hS xr x0 (smO [] 0 pl pc) tx rest) = some (!!E.isEmpty,hS xr x0 (smO [] 0 pl pc) tx rest):=rfl
   rw [hE0] at h29
   rw [ifN h29]; rfl
  rw [e6,hE0]
  have h1 : evT (cD sx F (d + 2)) (.cmp .gt (.len (.loc 29)) (.const (.int 1))) [(34,.ref 3),(41,v41),(29,.str E)] (hS xr x0 (smO [] 0 pl pc) tx rest) = some (decide ((1 : Int) < (E.length : Nat)),hS xr x0 (smO [] 0 pl pc) tx rest):=rfl
  cases hq : decide ((1 : Int) < (E.length : Nat)) with
  | false =>
   rw [hq] at h1
   obtain ⟨L',e',e,he⟩:=x141d (F:=F) (d:=d) (sx:=sx) (xr:=xr) (x0:=x0) (tx:=tx) (pl:=pl) (pc:=pc) (z:=z) (v41:=v41) (rest:=rest) (L2:=[]) hE hl
   exact ⟨L',e',(ifN h1).trans e,he⟩
  | true =>
   rw [hq] at h1
   obtain ⟨L',e',e,he⟩:=x141d (F:=F) (d:=d) (sx:=sx) (xr:=xr) (x0:=x0) (tx:=tx) (pl:=pl) (pc:=pc) (z:=z) (v41:=v41) (rest:=rest) (L2:=[(51,.int (x : Nat))]) hE hl
   refine ⟨L',e',(ifT h1).trans (Eq.trans ?_ e),he⟩
   have h51 : evE (cD sx F (d + 2)) (.ord (.sub (.loc 29) (.neg (.const (.int 1))))) [(34,.ref 3),(41,v41),(29,.str E)] (hS xr x0 (smO [] 0 pl pc) tx rest) = some (.int (x : Nat),hS xr x0 (smO [] 0 pl pc) tx rest):=by
    rw [evE_ord,last_eq rfl hx]; rfl
   have ht : evT (cD sx F (d + 2)) (.orE (.cmp .eq (.loc 51) (.const (.int 13))) (.chain .le .le (.const (.int 55296)) (.loc 51) (.const (.int 56319)))) [(34,.ref 3),(41,v41),(29,.str E),(51,.int (x : Nat))] (hS xr x0 (smO [] 0 pl pc) tx rest) =
    some ((((x : Int) == 13) || (decide (55296 ≤ (x : Int)) && decide ((x : Int) ≤ 56319))),hS xr x0 (smO [] 0 pl pc) tx rest):=by
    refine orT rfl ?_
    rw [evT_chain,chainB (x:=(x : Int)) rfl]; rfl
   rw [show ((x : Int) == 13 || (decide (55296 ≤ (x : Int)) && decide ((x : Int) ≤ 56319))) = false by
    rw [show ((x : Int) == 13) = false from beq_false_of_ne (by lia),Bool.false_or,Bool.and_eq_false_iff,decide_eq_false_iff_not,decide_eq_false_iff_not]; lia] at ht
   have e8 : evSs (cD sx F (d + 2)) [.assign (.l 51) (.ord (.sub (.loc 29) (.neg (.const (.int 1))))),.ifs (.orE (.cmp .eq (.loc 51) (.const (.int 13))) (.chain .le .le (.const (.int 55296)) (.loc 51) (.const (.int 56319)))) [.assign (.a (.loc 34) 50) (.sub (.loc 29) (.neg (.const (.int 1)))),.assign (.l 29) (.slice (.loc 29) (.const .none) (.neg (.const (.int 1))))] []] z [(34,.ref 3),(41,v41),(29,.str E)] (hS xr x0 (smO [] 0 pl pc) tx rest) =
    some (.next,[(34,.ref 3),(41,v41),(29,.str E),(51,.int (x : Nat))],hS xr x0 (smO [] 0 pl pc) tx rest):=(asgL h51).trans ((ifN ht).trans rfl)
   rw [e8]; rfl
structure Lie (t : List Nat) (s : Nat) (chunk : List Nat) (off p e : Nat) : Prop where
 ho : off ≤ chunk.length
 hs : s + chunk.length = p
 hp : p ≤ t.length
 hd : t.drop s = chunk ++ t.drop p
 he : e ≤ p
theorem Lie.pre (H : Lie t s chunk off p e) : t.take p = t.take s ++ chunk:=by
 have h1 : (t.take s).length = s:=by rw [List.length_take]; exact Nat.min_eq_left (by have:=H.hs; have:=H.hp; lia)
 have h2 : t = (t.take s ++ chunk) ++ t.drop p:=by rw [List.append_assoc,← H.hd,List.take_append_drop]
 have h3 : (t.take s ++ chunk).length = p:=by rw [List.length_append,h1]; exact H.hs
 have h4 : ((t.take s ++ chunk) ++ t.drop p).take p = t.take s ++ chunk:=by rw [List.take_left' h3]
 rw [← h2] at h4; exact h4
theorem Lie.cl (H : Lie t s chunk off p e) : chunk.length ≤ t.length:=by have:=H.hs; have:=H.hp; lia
theorem x141a (hT : Txt' t) (H : Lie t s chunk off p e) : evSs (cD sx F (d + 2)) (Law2.f141.drop 1) z [(34,.ref 3),(41,.int (n : Nat))] (hS xr x0 (smP (t.take s) chunk off) (txO t p e) rest) =
 evSs (cD sx F (d + 2)) (Law2.f141.drop 6) z [(34,.ref 3),(41,.int (n : Nat)),(29,.str ((t.drop p).take n))] (hS xr x0 (smP (t.take p) [] 0) (txO t (p + ((t.drop p).take n).length) e) rest):=by
 have hc : chunk.length ≤ LIM:=Nat.le_trans H.cl (Nat.le_trans hT.2 (by decide))
 have e0:=x119 (F:=F) (d:=d + 1) (sx:=sx) (xr:=xr) (x0:=x0) (off:=off) (pl:=(t.take s).count 10) (pc:=colOf 0 (t.take s)) (tx:=txO t p e) (rest:=rest) (chunk:=chunk) (o:=chunk.length) (Nat.le_refl _) hc
 rw [List.take_length,col_app,← List.count_append,← H.pre] at e0
 have e1 : evE (cD sx F (d + 2)) (.meth (.loc 34) 45 [.attr (.loc 34) 41]) [(34,.ref 3),(41,.int (n : Nat))] (hS xr x0 (smP (t.take s) chunk off) (txO t p e) rest) = some (.frz (.tuple [.int ((t.take p).count 10 : Nat),.int (colOf 0 (t.take p) : Nat)]),hS xr x0 (smP (t.take s) chunk off) (txO t p e) rest):=e0
 have e2 : evSs (cD sx F (d + 2)) (Law2.f141.drop 1) z [(34,.ref 3),(41,.int (n : Nat))] (hS xr x0 (smP (t.take s) chunk off) (txO t p e) rest) = evSs (cD sx F (d + 2)) (Law2.f141.drop 5) z [(34,.ref 3),(41,.int (n : Nat))] (hS xr x0 (smP (t.take p) [] 0) (txO t p e) rest):=by
  show evSs _ (.assignT _ (.meth (.loc 34) 45 [.attr (.loc 34) 41]) :: _) _ _ _ = _
  rw [evSs_cons,evS_assignT,e1]
  rfl
 rw [e2]
 exact asgL (v:=.str ((t.drop p).take n)) (σ1:=hS xr x0 (smP (t.take p) [] 0) (txO t (p + ((t.drop p).take n).length) e) rest) (x70 (F:=F) (d:=d + 1) (sx:=sx) H.hp)
theorem Lie.next (H : Lie t s chunk off p e) {e' : Nat} (he : e' ≤ e + ((t.drop p).take n).length) : Lie t p ((t.drop p).take n) 0 (p + ((t.drop p).take n).length) e':=by
 refine ⟨Nat.zero_le _,rfl,?_,?_,Nat.le_trans he (Nat.add_le_add_right H.he _)⟩
 ·rw [List.length_take,List.length_drop]; exact Nat.add_le_of_le_sub' H.hp (Nat.min_le_right ..)
 ·rw [← List.drop_drop,List.length_take]
  rcases Nat.le_total n (t.drop p).length with q | q
  ·rw [Nat.min_eq_left q,List.take_append_drop]
  ·rw [Nat.min_eq_right q,List.drop_length,List.append_nil,List.take_of_length_le q]
theorem x141k (hT : Txt' t) (H : Lie t s chunk off p e) {E : List Nat} (hE : E = (t.drop p).take n) :
 ∃ L' e',evSs (cD sx F (d + 2)) (Law2.f141.drop 1) z [(34,.ref 3),(41,.int (n : Nat))] (hS xr x0 (smP (t.take s) chunk off) (txO t p e) rest) = some (.ret (.bool (!E.isEmpty)),L',hS xr x0 (smP (t.take p) E 0) (txO t (p + E.length) e') rest) ∧ Lie t p E 0 (p + E.length) e':=by
 subst hE
 have hl : ((t.drop p).take n).length ≤ t.length:=((List.take_sublist ..).trans (List.drop_sublist ..)).length_le
 obtain ⟨L',e',e1,he⟩:=x141b (F:=F) (d:=d) (sx:=sx) (xr:=xr) (x0:=x0) (tx:=txO t (p + ((t.drop p).take n).length) e) (pl:=(t.take p).count 10) (pc:=colOf 0 (t.take p)) (z:=z) (v41:=.int (n : Nat)) (rest:=rest) (E:=(t.drop p).take n) (fun c hc=>hT.1 c (List.mem_of_mem_drop (List.mem_of_mem_take hc))) (by
  show e + _ ≤ LIM
  exact Nat.le_trans (Nat.add_le_add (Nat.le_trans (Nat.le_trans H.he H.hp) hT.2) (Nat.le_trans hl hT.2)) (by decide))
 exact ⟨L',e',(x141a hT H).trans e1,H.next he⟩
theorem x141n (hT : Txt' t) (H : Lie t s chunk off p e) {E : List Nat} (hE : E = (t.drop p).take n) :
 ∃ e',runF (Law2.pr sx) F (d + 3) 141 [.ref 3,.int (n : Nat)] (hS xr x0 (smP (t.take s) chunk off) (txO t p e) rest) = some (.bool (!E.isEmpty),hS xr x0 (smP (t.take p) E 0) (txO t (p + E.length) e') rest) ∧ Lie t p E 0 (p + E.length) e':=by
 obtain ⟨L',e',e1,he⟩:=x141k (F:=F) (d:=d) (sx:=sx) (xr:=xr) (x0:=x0) (z:=rest.length + 8) (rest:=rest) hT H hE
 exact ⟨e',fn_ex (by rfl) (fl:=.ret _) rfl rfl ⟨L',Eq.trans (ifN (σ1:=hS xr x0 (smP (t.take s) chunk off) (txO t p e) rest) rfl) e1⟩ rfl,he⟩
theorem x141 (hT : Txt' t) (H : Lie t s chunk off p e) :
 ∃ e',runF (Law2.pr sx) F (d + 3) 141 [.ref 3] (hS xr x0 (smP (t.take s) chunk off) (txO t p e) rest) = some (.bool (!(t.drop p).isEmpty),hS xr x0 (smP (t.take p) (t.drop p) 0) (txO t t.length e') rest) ∧ Lie t p (t.drop p) 0 t.length e':=by
 have hq2 : p + (t.drop p).length = t.length:=by rw [List.length_drop]; exact Nat.add_sub_cancel' H.hp
 obtain ⟨L',e',e1,he⟩:=x141k (F:=F) (d:=d) (sx:=sx) (xr:=xr) (x0:=x0) (z:=rest.length + 8) (rest:=rest) (n:=10240) hT H (E:=t.drop p) (List.take_of_length_le (by rw [List.length_drop]; exact Nat.le_trans (Nat.sub_le ..) (Nat.le_trans hT.2 (by decide)))).symm
 rw [hq2] at e1 he
 exact ⟨e',fn_ex (by rfl) (fl:=.ret _) rfl rfl ⟨L',e1⟩ rfl,he⟩
end
end
section
open Builtin.Str StrLaws
noncomputable def optV : Option Nat → V | none=>.none | some x=>.str [x]
inductive Sv (t : List Nat) (k : Nat) : O → O × Nat → Prop
 | mk {s off p e : Nat} {chunk : List Nat} : Lie t s chunk off p e → k = s + off → Sv t k (smP (t.take s) chunk off) (txO t p e)
noncomputable def nxt (t : List Nat) (k : Nat) : Nat:=match t[k]? with | some _=>k + 1 | none=>k
theorem Lie.at {t chunk : List Nat} {s off p e : Nat} (H : Lie t s chunk off p e) : t.drop (s + off) = chunk.drop off ++ t.drop p:=by
 rw [← List.drop_drop,H.hd,List.drop_append_of_le_length H.ho]
theorem Sv.le {t : List Nat} {k : Nat} {sm : O} {tx : O × Nat} (H : Sv t k sm tx) : k ≤ t.length:=by
 cases H with | mk h q=>have:=h.ho; have:=h.hs; have:=h.hp; lia
section
variable {F d : Nat} {sx : List (Nat × O)} {xr : X2} {x0 sm : O} {tx : O × Nat} {chunk t : List Nat} {off n p k z s e : Nat} {pl pc : Nat} {rest : List O}
noncomputable def Ung (t : List Nat) (k : Nat) (sm : O) (tx : O × Nat) : Prop:=∀ (F d : Nat) (sx : List (Nat × O)) (xr : X2) (x0 : O) (rest : List O),∃ sm',runF (Law2.pr sx) F (d + 1) 163 [.ref 3,optV t[k]?] (hS xr x0 sm tx rest) = some (.none,hS xr x0 sm' tx rest) ∧ Sv t k sm' tx
theorem asrtS {c : Cx} {L : Loc} {σ σ1 : St} {z : Nat} {r : List PS} {e : PE} (h : evT c e L σ = some (true,σ1)) : evSs c (.asrt e :: r) z L σ = evSs c r z L σ1:=by
 rw [evSs_cons]
 show (((evT c e L σ).bind _).bind _) = _
 rw [h]; rfl
theorem sub_str {c : Cx} {L : Loc} {σ : St} {l r : PE} {s : List Nat} {j x : Nat} (h1 : evE c l L σ = some (.str s,σ)) (h2 : evE c r L σ = some (.int (j : Nat),σ)) (hx : s[j]? = some x) : evE c (.sub l r) L σ = some (.str [x],σ):=by
 rw [evE_sub,h1,Option.bind_some]
 show ((evE c r L σ).bind _) = _
 rw [h2,Option.bind_some]
 show Option.map _ (((idxOf s.length (j : Nat)).bind _)) = _
 rw [idx_nat (List.getElem?_eq_some_iff.mp hx).1,Option.bind_some,hx]; rfl
theorem x163n {σ : St} : runF (Law2.pr sx) F (d + 1) 163 [.ref 3,.none] σ = some (.none,σ):=fn_eq (by rfl) (fl:=.next) (L':=[(34,.ref 3),(21,.none)]) rfl rfl (ifN (σ1:=σ) rfl) rfl
theorem x163 {x : Nat} (hx : chunk[off]? = some x) : runF (Law2.pr sx) F (d + 1) 163 [.ref 3,.str [x]] (hS xr x0 (smO chunk (off + 1) pl pc) tx rest) = some (.none,hS xr x0 (smO chunk off pl pc) tx rest):=by
 have h1 : evT (cD sx F d) (.cmp .eq (.attr (.loc 34) 47) (.const (.int 0))) [(34,.ref 3),(21,.str [x])] (hS xr x0 (smO chunk (off + 1) pl pc) tx rest) = some (((off + 1 : Nat) : Int) == 0,hS xr x0 (smO chunk (off + 1) pl pc) tx rest):=rfl
 rw [show (((off + 1 : Nat) : Int) == 0) = false from beq_false_of_ne (by lia)] at h1
 have h2 : ∀ z,evSs (cD sx F d) [.augA (.loc 34) 47 .sub (.const (.int 1)),.asrt (.cmp .eq (.sub (.attr (.loc 34) 46) (.attr (.loc 34) 47)) (.loc 21))] z [(34,.ref 3),(21,.str [x])] (hS xr x0 (smO chunk (off + 1) pl pc) tx rest) =
  evSs (cD sx F d) [.asrt (.cmp .eq (.sub (.attr (.loc 34) 46) (.attr (.loc 34) 47)) (.loc 21))] z [(34,.ref 3),(21,.str [x])] (hS xr x0 (smO chunk off pl pc) tx rest):=by
  intro z
  have e : smO chunk off pl pc = .inst 166 [(52,.ref 4),(67,.ref 5),(48,.ref 6),(46,.str chunk),(41,.int (chunk.length : Nat)),(47,.int (((off + 1 : Nat) : Int) - 1)),(77,.ref 7),(43,.int pl),(44,.int pc),(50,.none)]:=by
   unfold smO
   rw [show ((off + 1 : Nat) : Int) - 1 = (off : Nat) by lia]
  rw [e]; rfl
 have h3 : evT (cD sx F d) (.cmp .eq (.sub (.attr (.loc 34) 46) (.attr (.loc 34) 47)) (.loc 21)) [(34,.ref 3),(21,.str [x])] (hS xr x0 (smO chunk off pl pc) tx rest) = some (true,hS xr x0 (smO chunk off pl pc) tx rest):=by
  refine cmpT (sub_str (s:=chunk) (j:=off) rfl rfl hx) (b:=.str [x]) rfl ?_
  show some (([x] : List Nat) == [x]) = _
  rw [beq_self_eq_true]
 refine fn_ex (by rfl) (fl:=.next) rfl rfl ⟨[(34,.ref 3),(21,.str [x])],(ifT (σ1:=hS xr x0 (smO chunk (off + 1) pl pc) tx rest) rfl).trans ?_⟩ rfl
 rw [ifF h1,h2,asrtS h3]
 rfl
theorem char_at {x : Nat} (hx : chunk[off]? = some x) : ∃ L',evSs (cD sx F d) (Law2.f133.drop 1) z [(34,.ref 3)] (hS xr x0 (smO chunk off pl pc) tx rest) = some (.ret (.str [x]),L',hS xr x0 (smO chunk (off + 1) pl pc) tx rest):=by
 apply Exists.intro
 refine (asgL (v:=.int (off : Nat)) (σ1:=hS xr x0 (smO chunk off pl pc) tx rest) rfl).trans ?_
 refine (asgL (v:=.str [x]) (σ1:=hS xr x0 (smO chunk off pl pc) tx rest) ?_).trans ?_
 ·exact sub_str (s:=chunk) (j:=off) rfl rfl hx
 rfl
theorem dropA {α : Type} {l r : List α} {k : Nat} {x : α} (h : l.drop k = x :: r) : l[k]? = some x ∧ l.drop (k + 1) = r ∧ k < l.length:=by
 have h1 : l[k]? = some x:=by
  have:=congrArg (fun q=>q[0]?) h
  simpa using this
 refine ⟨h1,?_,(List.getElem?_eq_some_iff.mp h1).1⟩
 rw [← List.drop_drop,h]; rfl
theorem Lie.step (H : Lie t s chunk off p e) (h : off < chunk.length) : Lie t s chunk (off + 1) p e:=⟨h,H.hs,H.hp,H.hd,H.he⟩
theorem sv_in (H : Lie t s chunk off p e) (hlt : off < chunk.length) : ∃ x,t[s + off]? = some x ∧ chunk[off]? = some x:=by
 refine ⟨chunk[off],?_,List.getElem?_eq_getElem hlt⟩
 have h:=H.at
 rw [List.drop_eq_getElem_cons hlt] at h
 exact (dropA h).1
theorem sv_char (hT : Txt' t) (H : Sv t k sm tx) : ∃ sm' tx',runF (Law2.pr sx) F (d + 4) 133 [.ref 3] (hS xr x0 sm tx rest) = some (optV t[k]?,hS xr x0 sm' tx' rest) ∧ Sv t (nxt t k) sm' tx' ∧ Ung t k sm' tx':=by
 cases H with | @mk s off p e chunk H hk =>
 subst hk
 have ht : evT (cD sx F (d + 3)) (.cmp .ge (.attr (.loc 34) 47) (.attr (.loc 34) 41)) [(34,.ref 3)] (hS xr x0 (smP (t.take s) chunk off) (txO t p e) rest) = some (decide (((chunk.length : Nat) : Int) ≤ (off : Nat)),hS xr x0 (smP (t.take s) chunk off) (txO t p e) rest):=rfl
 unfold nxt
 by_cases hlt : off < chunk.length
 ·rw [decide_eq_false (by lia)] at ht
  obtain ⟨x,q1,hx⟩:=sv_in H hlt
  obtain ⟨L',e1⟩:=char_at (F:=F) (d:=d + 3) (sx:=sx) (xr:=xr) (x0:=x0) (tx:=txO t p e) (rest:=rest) (pl:=(t.take s).count 10) (pc:=colOf 0 (t.take s)) (z:=rest.length + 8) hx
  rw [q1]
  refine ⟨smP (t.take s) chunk (off + 1),txO t p e,fn_ex (by rfl) (fl:=.ret (.str [x])) (σ':=hS xr x0 (smP (t.take s) chunk (off + 1)) (txO t p e) rest) rfl rfl ⟨L',(ifN ht).trans e1⟩ rfl,.mk (H.step hlt) (Nat.add_assoc ..),fun F d sx xr x0 rest=>?_⟩
  rw [q1]
  exact ⟨_,x163 hx,.mk H rfl⟩
 ·obtain rfl : off = chunk.length:=Nat.le_antisymm H.ho (Nat.le_of_not_lt hlt)
  rw [decide_eq_true (Int.le_refl _)] at ht
  obtain ⟨e',e1,H'⟩:=x141 (F:=F) (d:=d) (sx:=sx) (xr:=xr) (x0:=x0) (rest:=rest) hT H
  have ht2 : evT (cD sx F (d + 3)) (.notE (.meth (.loc 34) 14 [])) [(34,.ref 3)] (hS xr x0 (smP (t.take s) chunk chunk.length) (txO t p e) rest) = some ((t.drop p).isEmpty,hS xr x0 (smP (t.take p) (t.drop p) 0) (txO t t.length e') rest):=by
   have e1 : evE (cD sx F (d + 3)) (.meth (.loc 34) 14 []) [(34,.ref 3)] (hS xr x0 (smP (t.take s) chunk chunk.length) (txO t p e) rest) = _:=e1
   rw [evT_notE,tv_meth,e1]
   show some (!!(t.drop p).isEmpty,_) = _
   rw [Bool.not_not]
  rw [H.hs]
  cases hr : t.drop p with
  | nil =>
   rw [hr] at ht2 H'
   have hk1 : t[p]? = none:=List.getElem?_eq_none (List.drop_eq_nil_iff.mp hr)
   have S : Sv t p (smP (t.take p) [] 0) (txO t t.length e'):=.mk H' rfl
   rw [hk1]
   refine ⟨smP (t.take p) [] 0,txO t t.length e',fn_ex (by rfl) (fl:=.ret .none) (σ':=hS xr x0 (smP (t.take p) [] 0) (txO t t.length e') rest) rfl rfl ⟨[(34,.ref 3)],(ifT ht).trans (by rw [ifT ht2]; rfl)⟩ rfl,S,fun F d sx xr x0 rest=>?_⟩
   rw [hk1]
   exact ⟨_,x163n,S⟩
  | cons x r =>
   rw [hr] at ht2 H'
   obtain ⟨q1,q2,q3⟩:=dropA hr
   obtain ⟨L',e2⟩:=char_at (F:=F) (d:=d + 3) (sx:=sx) (xr:=xr) (x0:=x0) (chunk:=x :: r) (off:=0) (tx:=txO t t.length e') (rest:=rest) (pl:=(t.take p).count 10) (pc:=colOf 0 (t.take p)) (z:=rest.length + 8) rfl
   rw [q1]
   refine ⟨smP (t.take p) (x :: r) 1,txO t t.length e',fn_ex (by rfl) (fl:=.ret (.str [x])) (σ':=hS xr x0 (smP (t.take p) (x :: r) 1) (txO t t.length e') rest) rfl rfl ⟨L',(ifT ht).trans ?_⟩ rfl,.mk (H'.step (Nat.succ_pos _)) rfl,fun F d sx xr x0 rest=>?_⟩
   ·rw [ifN ht2]
    exact e2
   ·rw [q1]
    exact ⟨_,x163 (chunk:=x :: r) (off:=0) rfl,.mk H' rfl⟩
theorem sv_first (hT : Txt' t) (n : Nat) : ∃ sm tx v,runF (Law2.pr sx) F (d + 3) 141 [.ref 3,.int (n : Nat)] (hS xr x0 (smO [] 0 0 0) (txO t 0 0) rest) = some (v,hS xr x0 sm tx rest) ∧ Sv t 0 sm tx:=by
 obtain ⟨e',e1,H⟩:=x141n (F:=F) (d:=d) (sx:=sx) (xr:=xr) (x0:=x0) (rest:=rest) (n:=n) (s:=0) (chunk:=[]) (off:=0) (p:=0) (e:=0) hT ⟨Nat.le_refl _,rfl,Nat.zero_le _,rfl,Nat.le_refl _⟩ rfl
 exact ⟨_,_,_,e1,.mk H rfl⟩
theorem sv_pos (hT : Txt' t) (H : Sv t k sm tx) : runF (Law2.pr sx) F (d + 2) 126 [.ref 3] (hS xr x0 sm tx rest) = some (.frz (plc (t.take k)),hS xr x0 sm tx rest):=by
 cases H with | @mk s off p e chunk H hk =>
 subst hk
 have e0:=x126 (F:=F) (d:=d) (sx:=sx) (xr:=xr) (x0:=x0) (tx:=txO t p e) (rest:=rest) (pl:=(t.take s).count 10) (pc:=colOf 0 (t.take s)) H.ho (Nat.le_trans H.cl (Nat.le_trans hT.2 (by decide)))
 have e1 : t.take (s + off) = t.take s ++ chunk.take off:=by
  rw [List.take_add,H.hd,List.take_append_of_le_length H.ho]
 rw [col_app,← List.count_append,← e1] at e0
 exact e0
end
end
section
open Builtin.Str StrLaws
noncomputable def ampV : V:=.frz (.tuple [.str [38]])
noncomputable def na (x : Nat) : Bool:=((([38] : List Nat) == [x]) || false) == false
theorem na_iff {x : Nat} : na x = true ↔ x ≠ 38:=by
 unfold na
 by_cases h : x = 38
 ·subst h; decide
 ·rw [beq_false_of_ne (fun e=>h (List.cons.inj e).1.symm)]; exact ⟨fun J=>h,fun J=>rfl⟩
theorem tw_pre {p : Nat → Bool} : ∀ (l : List Nat),l.take (l.takeWhile p).length = l.takeWhile p
 | []=>rfl
 | x :: r=>by
  rw [List.takeWhile_cons]
  cases p x with
  | true=>exact congrArg (x :: ·) (tw_pre r)
  | false=>rfl
theorem tw_dw {p : Nat → Bool} (l : List Nat) : l.drop (l.takeWhile p).length = l.dropWhile p:=by
 have h:=List.takeWhile_append_dropWhile (p:=p) (l:=l)
 have e : l.drop (l.takeWhile p).length = (l.takeWhile p ++ l.dropWhile p).drop (l.takeWhile p).length:=by rw [h]
 rw [e,List.drop_left]
theorem dw_end {p : Nat → Bool} : ∀ (l : List Nat),l.dropWhile p = [] ∨ ∃ c r,l.dropWhile p = c :: r ∧ p c = false
 | []=>.inl rfl
 | x :: r=>by
  rw [List.dropWhile_cons]
  cases h : p x with
  | true=>exact dw_end r
  | false=>exact .inr ⟨x,r,rfl,h⟩
theorem tw_all {p : Nat → Bool} : ∀ {a : List Nat} (b : List Nat),(∀ c ∈ a,p c = true) → (a ++ b).takeWhile p = a ++ b.takeWhile p
 | [],b,_=>rfl
 | x :: a,b,h=>by
  show (x :: (a ++ b)).takeWhile p = _
  rw [List.takeWhile_cons,h x (.head _)]
  exact congrArg (x :: ·) (tw_all b fun c hc=>h c (.tail _ hc))
theorem tw_sat {p : Nat → Bool} : ∀ {l : List Nat} {c : Nat},c ∈ l.takeWhile p → p c = true
 | x :: l,c,h=>by
  rw [List.takeWhile_cons] at h
  cases hx : p x with
  | false=>rw [hx] at h; cases h
  | true =>
   rw [hx] at h
   rcases List.mem_cons.mp h with rfl | h
   ·exact hx
   ·exact tw_sat h
theorem set_last {o o' : O} : ∀ {rest : List O},(rest ++ [o]).set rest.length o' = rest ++ [o']
 | []=>rfl
 | x :: r=>congrArg (x :: ·) set_last
noncomputable def CldR (x0 : O) (rest : List O) : Prop:=∀ s,oMap (rv s (rest.length + 8)) x0 = x0 ∧ rest.map (oMap (rv s (rest.length + 8))) = rest
theorem rv_low {s : St} {a n : Nat} (h : a < n) : rv s n (.ref a) = .ref a:=by
 show (bif Nat.blt a n then V.ref a else _) = _
 rw [show Nat.blt a n = true from Nat.ble_eq_true_of_le h]; rfl
theorem map_rep {f : V → V} {v : V} (h : f v = v) : ∀ n,(List.replicate n v).map f = List.replicate n v
 | 0=>rfl
 | n + 1=>by rw [List.replicate_succ,List.map_cons,h,map_rep h n]
theorem cld_hS {xr : X2} {x0 sm : O} {tx : O × Nat} {rest : List O} {t : List Nat} {k : Nat} (h : Sv t k sm tx) (hR : CldR x0 rest) : Cld (hS xr x0 sm tx rest):=fun s=>by
 cases h with | @mk s0 off p e chunk _ _ =>
 have r2 : ∀ a,a < 8 → rv s (rest.length + 8) (.ref a) = .ref a:=fun a ha=>rv_low (Nat.lt_of_lt_of_le ha (Nat.le_add_left _ _))
 show oMap (rv s (rest.length + 8)) xr.a :: oMap (rv s (rest.length + 8)) xr.b :: oMap (rv s (rest.length + 8)) x0 :: O.inst 166 [(52,rv s (rest.length + 8) (.ref 4)),(67,rv s (rest.length + 8) (.ref 5)),(48,rv s (rest.length + 8) (.ref 6)),_,_,_,(77,rv s (rest.length + 8) (.ref 7)),_,_,_] :: .meth 148 (rv s (rest.length + 8) (.ref 3)) :: _ :: _ :: O.list ((List.replicate e errV).map (rv s (rest.length + 8))) :: rest.map (oMap (rv s (rest.length + 8))) = _
 rw [xr.ca,xr.cb,(hR s).1,(hR s).2,r2 3 (by decide),r2 4 (by decide),r2 5 (by decide),r2 6 (by decide),r2 7 (by decide),map_rep rfl]
 rfl
theorem cut_end {α : Type} {l : List α} {i : Nat} (h : i ≤ l.length) : cut l (clampI l.length (i : Nat)) l.length = l.drop i:=by
 unfold cut clampI
 rw [if_neg (by lia),Int.toNat_natCast,Nat.min_eq_left h,List.take_of_length_le (by rw [List.length_drop]; exact Nat.le_refl _)]
theorem cut_mid {α : Type} {l : List α} {i j : Nat} (h : i + j ≤ l.length) : cut l (clampI l.length (i : Nat)) (clampI l.length ((i + j : Nat) : Int)) = (l.drop i).take j:=by
 unfold cut clampI
 rw [if_neg (by lia),if_neg (by lia),Int.toNat_natCast,Int.toNat_natCast,Nat.min_eq_left h,Nat.min_eq_left (Nat.le_trans (Nat.le_add_right _ _) h),Nat.add_sub_cancel_left]
theorem addpart {parts : List (List Nat)} {q : List Nat} : O.list (parts.map V.str ++ [.str q]) = .list ((parts ++ [q]).map V.str):=by rw [List.map_append]; rfl
section
variable {F d : Nat} {sx : List (Nat × O)} {xr : X2} {x0 sm : O} {tx : O × Nat} {rest : List O} {t : List Nat} {k : Nat} {pl pc : Nat}
noncomputable def uL (N : Nat) (L9 : Loc) : Loc:=(34,.ref 3) :: (79,ampV) :: (80,.bool false) :: (78,.ref N) :: L9
noncomputable def uT : PE:=.andE (.cmp .ne (.loc 9) (.attr (.loc 34) 41)) (.cmp .eq (.cmp .isin (.sub (.attr (.loc 34) 46) (.loc 9)) (.loc 79)) (.loc 80))
theorem ut_at {chunk : List Nat} {off j x N : Nat} (hx : chunk[j]? = some x) : evT (cD sx F d) uT (uL N [(9,.int (j : Nat))]) (hS xr x0 (smO chunk off pl pc) tx rest) = some (na x,hS xr x0 (smO chunk off pl pc) tx rest):=by
 have hj : j < chunk.length:=(List.getElem?_eq_some_iff.mp hx).1
 have h1 : evT (cD sx F d) (.cmp .ne (.loc 9) (.attr (.loc 34) 41)) (uL N [(9,.int (j : Nat))]) (hS xr x0 (smO chunk off pl pc) tx rest) = some (!((j : Int) == (chunk.length : Nat)),hS xr x0 (smO chunk off pl pc) tx rest):=rfl
 rw [show ((j : Int) == (chunk.length : Nat)) = false from beq_false_of_ne (by lia)] at h1
 refine andT1 h1 ?_
 exact cmpT (cmpE (sub_str (s:=chunk) (j:=j) rfl rfl hx) (b:=ampV) rfl (x:=(([38] : List Nat) == [x]) || false) rfl) (b:=.bool false) rfl rfl
theorem ut_end {chunk : List Nat} {off N : Nat} : evT (cD sx F d) uT (uL N [(9,.int (chunk.length : Nat))]) (hS xr x0 (smO chunk off pl pc) tx rest) = some (false,hS xr x0 (smO chunk off pl pc) tx rest):=by
 have h1 : evT (cD sx F d) (.cmp .ne (.loc 9) (.attr (.loc 34) 41)) (uL N [(9,.int (chunk.length : Nat))]) (hS xr x0 (smO chunk off pl pc) tx rest) = some (!((chunk.length : Int) == (chunk.length : Nat)),hS xr x0 (smO chunk off pl pc) tx rest):=rfl
 rw [beq_self_eq_true] at h1
 exact andT0 h1
theorem until_in {chunk : List Nat} {off N z : Nat} : ∀ (w : List Nat) (j k : Nat),chunk.drop j = w → w.length < k → j ≤ chunk.length → whileL (fun L s=>evT (cD sx F d) uT L s) (fun L s=>evSs (cD sx F d) [.augL 9 .add (.const (.int 1))] z L s) k (uL N [(9,.int (j : Nat))]) (hS xr x0 (smO chunk off pl pc) tx rest) =
 some (.next,uL N [(9,.int ((j + (w.takeWhile na).length : Nat)))],hS xr x0 (smO chunk off pl pc) tx rest)
 | _,_,0,_,h,_=>absurd h (Nat.not_lt_zero _)
 | [],j,k + 1,hw,_,hj=>by
  obtain rfl : j = chunk.length:=Nat.le_antisymm hj (List.drop_eq_nil_iff.mp hw)
  rw [whileL_succ,ut_end]; rfl
 | x :: w,j,k + 1,hw,hk,hj=>by
  obtain ⟨hx,hw',hj'⟩:=dropA hw
  rw [whileL_succ,ut_at hx,Option.bind_some,List.takeWhile_cons]
  cases na x with
  | false=>rfl
  | true =>
   refine Eq.trans (until_in w (j + 1) k hw' (Nat.lt_of_succ_lt_succ hk) hj') ?_
   rw [Nat.add_assoc,Nat.add_comm 1]; rfl
theorem hS_get {l : O} : (hS xr x0 sm tx (rest ++ [l]))[rest.length + 8]? = some l:=lk_last (σ:=rest)
theorem hS_set {l l' : O} : (hS xr x0 sm tx (rest ++ [l])).set (rest.length + 8) l' = hS xr x0 sm tx (rest ++ [l']):=congrArg (fun r=>xr.a :: xr.b :: x0 :: sm :: O.meth 148 (.ref 3) :: O.list [.int 0] :: tx.1 :: O.list (List.replicate tx.2 errV) :: r) set_last
inductive UI (xr : X2) (x0 : O) (rest : List O) (t : List Nat) (k : Nat) : Nat → Loc → St → Prop
 | mk {s off p e : Nat} {chunk : List Nat} {parts : List (List Nat)} {L9 : Loc} : (L9 = [] ∨ ∃ v,L9 = [(9,v)]) → Lie t s chunk off p e → k + parts.flatten.length = s + off → t.drop k = parts.flatten ++ t.drop (s + off) → (∀ c ∈ parts.flatten,na c = true) → parts.length + (t.drop p).length ≤ 20000 →
  UI xr x0 rest t k (t.drop p).length (uL (rest.length + 8) L9) (hS xr x0 (smP (t.take s) chunk off) (txO t p e) (rest ++ [.list (parts.map .str)]))
inductive UE (xr : X2) (x0 : O) (rest : List O) (t : List Nat) (k : Nat) : Fl → Loc → St → Prop
 | mk {sm : O} {tx : O × Nat} {parts : List (List Nat)} {L9 : Loc} : parts.flatten = (t.drop k).takeWhile na → Sv t (k + ((t.drop k).takeWhile na).length) sm tx → UE xr x0 rest t k .next (uL (rest.length + 8) L9) (hS xr x0 sm tx (rest ++ [.list (parts.map .str)]))
theorem ue_mk {chunk : List Nat} {s off p e : Nat} {parts : List (List Nat)} {L9 : Loc} (H : Lie t s chunk off p e) (hk : k + parts.flatten.length = s + off) (hd : t.drop k = parts.flatten ++ t.drop (s + off)) (hn : ∀ c ∈ parts.flatten,na c = true) (he : t.drop (s + off) = [] ∨ ∃ c q,t.drop (s + off) = c :: q ∧ na c = false) :
 UE xr x0 rest t k .next (uL (rest.length + 8) L9) (hS xr x0 (smP (t.take s) chunk off) (txO t p e) (rest ++ [.list (parts.map .str)])):=by
 have e : parts.flatten = (t.drop k).takeWhile na:=by
  rw [hd,tw_all _ hn]
  rcases he with h | ⟨c,q,h,hc⟩
  ·rw [h]; exact (List.append_nil _).symm
  ·rw [h,List.takeWhile_cons,hc]; exact (List.append_nil _).symm
 refine .mk e ?_
 rw [← e]
 exact .mk H hk
theorem until_tail {chunk : List Nat} {s off p e : Nat} {parts : List (List Nat)} {v9 : V} {z : Nat} (hT : Txt' t) (H : Lie t s chunk off p e) (hk : k + parts.flatten.length = s + off) (hd : t.drop k = parts.flatten ++ t.drop (s + off)) (hn : ∀ c ∈ parts.flatten,na c = true) (hpn : parts.length + (t.drop p).length ≤ 20000) (hn2 : ∀ c ∈ chunk.drop off,na c = true) :
 OutS (evSs (cD sx F (d + 3)) [.expr (.append (.loc 78) (.slice (.attr (.loc 34) 46) (.attr (.loc 34) 47) (.const .none))),.ifs (.notE (.meth (.loc 34) 14 [])) [.brk] []] z (uL (rest.length + 8) [(9,v9)]) (hS xr x0 (smP (t.take s) chunk off) (txO t p e) (rest ++ [.list (parts.map .str)])))
  (Lp (UE xr x0 rest t k) fun L2 σ2=>∃ n,n < (t.drop p).length ∧ UI xr x0 rest t k n L2 σ2):=by
 have h1 : evE (cD sx F (d + 3)) (.slice (.attr (.loc 34) 46) (.attr (.loc 34) 47) (.const .none)) (uL (rest.length + 8) [(9,v9)]) (hS xr x0 (smP (t.take s) chunk off) (txO t p e) (rest ++ [.list (parts.map .str)])) = some (.str (chunk.drop off),hS xr x0 (smP (t.take s) chunk off) (txO t p e) (rest ++ [.list (parts.map .str)])):=by
  rw [← cut_end H.ho]; rfl
 have h2:=appE (c:=cD sx F (d + 3)) (l:=.loc 78) (a:=rest.length + 8) (L:=uL (rest.length + 8) [(9,v9)]) rfl hS_get h1 hS_get (by rw [List.length_map]; exact Nat.le_trans (Nat.le_trans (Nat.le_add_right _ _) hpn) (by decide)) (hS_set.trans (by rw [addpart]))
 obtain ⟨e',e1,H'⟩:=x141 (F:=F) (d:=d) (sx:=sx) (xr:=xr) (x0:=x0) (rest:=rest ++ [.list ((parts ++ [chunk.drop off]).map .str)]) hT H
 have e1 : evE (cD sx F (d + 3)) (.meth (.loc 34) 14 []) (uL (rest.length + 8) [(9,v9)]) (hS xr x0 (smP (t.take s) chunk off) (txO t p e) (rest ++ [.list ((parts ++ [chunk.drop off]).map .str)])) = _:=e1
 have h3 : evT (cD sx F (d + 3)) (.notE (.meth (.loc 34) 14 [])) (uL (rest.length + 8) [(9,v9)]) (hS xr x0 (smP (t.take s) chunk off) (txO t p e) (rest ++ [.list ((parts ++ [chunk.drop off]).map .str)])) = some (!!(t.drop p).isEmpty,_):=notT (by rw [tv_meth,e1]; rfl)
 have hfl : (parts ++ [chunk.drop off]).flatten = parts.flatten ++ chunk.drop off:=by rw [List.flatten_append,List.flatten_cons,List.flatten_nil,List.append_nil]
 have hn3 : ∀ c ∈ (parts ++ [chunk.drop off]).flatten,na c = true:=fun c hc=>by
  rw [hfl] at hc
  exact (List.mem_append.mp hc).elim (hn c) (hn2 c)
 have hd3 : t.drop k = (parts ++ [chunk.drop off]).flatten ++ t.drop p:=by rw [hd,hfl,List.append_assoc,H.at]
 have hk3 : k + (parts ++ [chunk.drop off]).flatten.length = p + 0:=by
  rw [hfl,List.length_append,List.length_drop,← Nat.add_assoc,hk,Nat.add_assoc,Nat.add_sub_cancel' H.ho]; exact H.hs
 rw [exprS h2]
 cases hr : t.drop p with
 | nil =>
  have H' : Lie t p [] 0 t.length e':=hr ▸ H'
  rw [hr] at h3
  rw [ifT h3]
  exact ⟨.brk,_,_,rfl,ue_mk H' hk3 hd3 hn3 (.inl hr)⟩
 | cons y r =>
  have H' : Lie t p (y :: r) 0 t.length e':=hr ▸ H'
  rw [hr] at h3 hpn
  rw [ifN h3]
  refine ⟨.next,_,_,rfl,(t.drop t.length).length,by rw [List.drop_length]; exact Nat.succ_pos _,.mk (.inr ⟨_,rfl⟩) H' hk3 hd3 hn3 ?_⟩
  rw [List.drop_length,List.length_append]; exact Nat.le_trans (Nat.add_le_add_left (Nat.succ_le_succ (Nat.zero_le _)) _) hpn
noncomputable def uB : List PS:=match (Law2.f156[1]? : Option PS) with | some (PS.whiles _ b)=>b | _=>[]
theorem until_body {n z : Nat} {L : Loc} {σ : St} (hF : 20000 < F) (hT : Txt' t) (h : UI xr x0 rest t k n L σ) : OutS (evSs (cD sx F (d + 3)) uB z L σ) (Lp (UE xr x0 rest t k) fun L2 σ2=>∃ n',n' < n ∧ UI xr x0 rest t k n' L2 σ2):=by
 cases h with | @mk s off p e chunk parts L9 h9 H hk hd hn hpn =>
 have ho:=H.ho
 have hcl:=Nat.le_trans H.cl hT.2
 have e9 : putK 9 (.int (off : Nat)) (uL (rest.length + 8) L9) = uL (rest.length + 8) [(9,.int (off : Nat))]:=by
  rcases h9 with rfl | ⟨v,rfl⟩ <;> rfl
 have e0:=asgL (c:=cD sx F (d + 3)) (i:=9) (e:=.attr (.loc 34) 47) (r:=uB.drop 1) (z:=z) (L:=uL (rest.length + 8) L9) (σ:=hS xr x0 (smP (t.take s) chunk off) (txO t p e) (rest ++ [.list (parts.map .str)])) (v:=.int (off : Nat)) (σ1:=hS xr x0 (smP (t.take s) chunk off) (txO t p e) (rest ++ [.list (parts.map .str)])) rfl
 rw [e9] at e0
 have e1:=until_in (F:=F) (d:=d + 3) (sx:=sx) (xr:=xr) (x0:=x0) (tx:=txO t p e) (rest:=rest ++ [.list (parts.map .str)]) (off:=off) (pl:=(t.take s).count 10) (pc:=colOf 0 (t.take s)) (N:=rest.length + 8) (z:=z) (chunk.drop off) off (cD sx F (d + 3)).fuel rfl (by show _ < F; rw [List.length_drop]; omega) ho
 have e2 : evSs (cD sx F (d + 3)) (uB.drop 1) z (uL (rest.length + 8) [(9,.int (off : Nat))]) (hS xr x0 (smP (t.take s) chunk off) (txO t p e) (rest ++ [.list (parts.map .str)])) = evSs (cD sx F (d + 3)) (uB.drop 2) z (uL (rest.length + 8) [(9,.int ((off + ((chunk.drop off).takeWhile na).length : Nat)))]) (hS xr x0 (smP (t.take s) chunk off) (txO t p e) (rest ++ [.list (parts.map .str)])):=by
  show evSs _ (.whiles uT [.augL 9 .add (.const (.int 1))] :: uB.drop 2) _ _ _ = _
  rw [evSs_cons,evS_whiles,e1]; rfl
 have hb : evSs (cD sx F (d + 3)) uB z (uL (rest.length + 8) L9) (hS xr x0 (smP (t.take s) chunk off) (txO t p e) (rest ++ [.list (parts.map .str)])) = _:=e0.trans e2
 rw [hb]
 clear hb e2 e1 e0 e9 h9
 have hqt:=tw_pre (p:=na) (chunk.drop off)
 have hqd:=tw_dw (p:=na) (chunk.drop off)
 have hqe:=dw_end (p:=na) (chunk.drop off)
 have hqs : ∀ c ∈ (chunk.drop off).takeWhile na,na c = true:=fun c hc=>tw_sat hc
 have hqa:=List.takeWhile_append_dropWhile (p:=na) (l:=chunk.drop off)
 rw [← hqd] at hqe hqa
 generalize (chunk.drop off).takeWhile na = q at hqt hqd hqe hqs hqa ⊢
 rw [List.drop_drop] at hqe hqa
 have hql:=congrArg List.length hqa
 rw [List.length_append,List.length_drop,List.length_drop] at hql
 have t1 : evT (cD sx F (d + 3)) (.cmp .eq (.loc 9) (.attr (.loc 34) 47)) (uL (rest.length + 8) [(9,.int ((off + q.length : Nat)))]) (hS xr x0 (smP (t.take s) chunk off) (txO t p e) (rest ++ [.list (parts.map .str)])) = some (((off + q.length : Nat) : Int) == (off : Nat),hS xr x0 (smP (t.take s) chunk off) (txO t p e) (rest ++ [.list (parts.map .str)])):=rfl
 have t2 : evT (cD sx F (d + 3)) (.cmp .ne (.attr (.loc 34) 47) (.attr (.loc 34) 41)) (uL (rest.length + 8) [(9,.int ((off + q.length : Nat)))]) (hS xr x0 (smP (t.take s) chunk off) (txO t p e) (rest ++ [.list (parts.map .str)])) = some (!((off : Int) == (chunk.length : Nat)),hS xr x0 (smP (t.take s) chunk off) (txO t p e) (rest ++ [.list (parts.map .str)])):=rfl
 have t3 : evT (cD sx F (d + 3)) (.cmp .ne (.loc 9) (.attr (.loc 34) 41)) (uL (rest.length + 8) [(9,.int ((off + q.length : Nat)))]) (hS xr x0 (smP (t.take s) chunk off) (txO t p e) (rest ++ [.list (parts.map .str)])) = some (!(((off + q.length : Nat) : Int) == (chunk.length : Nat)),hS xr x0 (smP (t.take s) chunk off) (txO t p e) (rest ++ [.list (parts.map .str)])):=rfl
 rw [show uB.drop 2 = .ifs (.cmp .eq (.loc 9) (.attr (.loc 34) 47)) [.ifs (.cmp .ne (.attr (.loc 34) 47) (.attr (.loc 34) 41)) [.brk] []] [.ifs (.cmp .ne (.loc 9) (.attr (.loc 34) 41)) [.expr (.append (.loc 78) (.slice (.attr (.loc 34) 46) (.attr (.loc 34) 47) (.loc 9))),.assign (.a (.loc 34) 47) (.loc 9),.brk] []] :: uB.drop 3 from rfl]
 have whole : off + q.length = chunk.length → ∀ c ∈ chunk.drop off,na c = true:=fun h c hc=>by
  rw [h,List.drop_length,List.append_nil] at hqa
  exact hqs c (hqa ▸ hc)
 have H2 : Lie t s chunk (off + q.length) p e:=⟨Nat.add_le_of_le_sub' ho (Nat.le_trans (Nat.le_add_right _ _) (Nat.le_of_eq hql)),H.hs,H.hp,H.hd,H.he⟩
 have stop : off + q.length ≠ chunk.length → ∃ c r,t.drop (s + (off + q.length)) = c :: r ∧ na c = false:=fun h=>by
  rw [H2.at]
  rcases hqe with h0 | ⟨c,r,h0,h1⟩
  ·have:=congrArg List.length h0
   rw [List.length_drop] at this
   exact absurd (Nat.le_antisymm H2.ho (Nat.sub_eq_zero_iff_le.mp this)) h
  ·exact ⟨c,r ++ t.drop p,by rw [h0]; rfl,h1⟩
 by_cases hq : q.length = 0
 ·rw [show (((off + q.length : Nat) : Int) == (off : Nat)) = true from beq_iff_eq.mpr (congrArg (fun n=>Int.ofNat (off + n)) hq)] at t1
  rw [ifT t1]
  by_cases ho2 : off = chunk.length
  ·rw [show ((off : Int) == (chunk.length : Nat)) = true from beq_iff_eq.mpr (congrArg Int.ofNat ho2)] at t2
   rw [ifN t2]
   exact until_tail hT H hk hd hn hpn (whole ((congrArg (off + ·) hq).trans ho2))
  ·rw [show ((off : Int) == (chunk.length : Nat)) = false from beq_false_of_ne fun z=>ho2 (Int.ofNat.inj z)] at t2
   rw [ifT t2]
   have:=stop fun z=>ho2 ((congrArg (off + ·) hq).symm.trans z)
   rw [hq,Nat.add_zero] at this
   exact ⟨.brk,_,_,rfl,ue_mk H hk hd hn (.inr this)⟩
 ·rw [show (((off + q.length : Nat) : Int) == (off : Nat)) = false from beq_false_of_ne fun z=>hq (Nat.add_left_cancel (Int.ofNat.inj z : off + q.length = off + 0))] at t1
  rw [ifF t1]
  by_cases ho2 : off + q.length = chunk.length
  ·rw [show (((off + q.length : Nat) : Int) == (chunk.length : Nat)) = true from beq_iff_eq.mpr (congrArg Int.ofNat ho2)] at t3
   rw [ifN t3]
   exact until_tail hT H hk hd hn hpn (whole ho2)
  ·rw [show (((off + q.length : Nat) : Int) == (chunk.length : Nat)) = false from beq_false_of_ne fun z=>ho2 (Int.ofNat.inj z)] at t3
   rw [ifT t3]
   have h1 : evE (cD sx F (d + 3)) (.slice (.attr (.loc 34) 46) (.attr (.loc 34) 47) (.loc 9)) (uL (rest.length + 8) [(9,.int ((off + q.length : Nat)))]) (hS xr x0 (smP (t.take s) chunk off) (txO t p e) (rest ++ [.list (parts.map .str)])) = some (.str q,hS xr x0 (smP (t.take s) chunk off) (txO t p e) (rest ++ [.list (parts.map .str)])):=by
    have:=cut_mid (l:=chunk) (i:=off) (j:=q.length) H2.ho
    rw [hqt] at this
    exact Eq.trans (b:=some (V.str (cut chunk (clampI chunk.length (off : Nat)) (clampI chunk.length ((off + q.length : Nat) : Int))),hS xr x0 (smP (t.take s) chunk off) (txO t p e) (rest ++ [.list (parts.map .str)]))) rfl (by rw [this])
   rw [exprS (appE (c:=cD sx F (d + 3)) (l:=.loc 78) (a:=rest.length + 8) (L:=uL (rest.length + 8) [(9,.int ((off + q.length : Nat)))]) rfl hS_get h1 hS_get (by rw [List.length_map]; exact Nat.le_trans (Nat.le_trans (Nat.le_add_right _ _) hpn) (by decide)) (hS_set.trans (by rw [addpart])))]
   have hfl : (parts ++ [q]).flatten = parts.flatten ++ q:=by rw [List.flatten_append,List.flatten_cons,List.flatten_nil,List.append_nil]
   refine ⟨.brk,_,_,rfl,ue_mk H2 (by rw [hfl,List.length_append]; omega) ?_ (fun c hc=>?_) (.inr (stop ho2))⟩
   ·rw [hd,hfl,List.append_assoc,H.at,H2.at,← List.append_assoc q,hqa]
   ·rw [hfl] at hc
    exact (List.mem_append.mp hc).elim (hn c) (hqs c)
theorem sv_until (hF : 20000 < F) (hT : Txt' t) (H : Sv t k sm tx) (hR : CldR x0 rest) : ∃ sm' tx',runF (Law2.pr sx) F (d + 4) 156 [.ref 3,ampV] (hS xr x0 sm tx rest) = some (.str ((t.drop k).takeWhile na),hS xr x0 sm' tx' rest) ∧ Sv t (k + ((t.drop k).takeWhile na).length) sm' tx':=by
 have h0 : ∃ n,n < F ∧ UI xr x0 rest t k n (uL (rest.length + 8) []) (hS xr x0 sm tx (rest ++ [.list []])):=by
  cases H with | @mk s off p e chunk H hk =>
  have h2:=hT.2
  exact ⟨(t.drop p).length,by rw [List.length_drop]; lia,.mk (parts:=[]) (.inl rfl) H hk (by rw [hk]; rfl) (fun c hc=>nomatch hc) (by rw [List.length_nil,List.length_drop]; lia)⟩
 obtain ⟨n,hn,h0⟩:=h0
 obtain ⟨fl,L',σ',e,hE⟩:=whileL_rule (test:=fun L s=>evT (cD sx F (d + 3)) (.const (.bool true)) L s) (body:=fun L s=>evSs (cD sx F (d + 3)) uB (rest.length + 8) L s) (K:=UE xr x0 rest t k) (UI xr x0 rest t k) (fun n L σ h=>⟨true,σ,rfl,until_body hF hT h⟩) (cD sx F (d + 3)).fuel n _ _ hn h0
 cases hE with | @mk sm' tx' parts L9 hfl hS' =>
 have hle : ((t.drop k).takeWhile na).length ≤ LIM:=by
  have:=(List.takeWhile_sublist (p:=na) (l:=t.drop k)).length_le
  rw [List.length_drop] at this
  exact Nat.le_trans this (Nat.le_trans (Nat.sub_le _ _) (Nat.le_trans hT.2 (by decide)))
 refine ⟨sm',tx',?_,hS'⟩
 have hj : evE (cD sx F (d + 3)) (.join [] (.loc 78)) (uL (rest.length + 8) L9) (hS xr x0 sm' tx' (rest ++ [.list (parts.map .str)])) = some (.str ((t.drop k).takeWhile na),hS xr x0 sm' tx' (rest ++ [.list (parts.map .str)])):=by
  have:=joinV_eq (c:=cD sx F (d + 3)) (v:=.ref (rest.length + 8)) (σ:=hS xr x0 sm' tx' (rest ++ [O.list (parts.map V.str)])) (ps:=parts) (show (hS xr x0 sm' tx' (rest ++ [.list (parts.map .str)]))[rest.length + 8]? = _ from hS_get) (by rw [hfl]; exact hle)
  rw [hfl] at this
  exact this
 have e1 : evSs (cD sx F (d + 3)) Law2.f156 (rest.length + 8) [(34,.ref 3),(79,ampV),(80,.bool false)] (hS xr x0 sm tx rest) = evSs (cD sx F (d + 3)) (Law2.f156.drop 2) (rest.length + 8) (uL (rest.length + 8) L9) (hS xr x0 sm' tx' (rest ++ [.list (parts.map .str)])):=by
  refine (asgL (v:=.ref (rest.length + 8)) (σ1:=hS xr x0 sm tx (rest ++ [.list []])) ?_).trans ?_
  ·rfl
  show evSs _ (.whiles (.const (.bool true)) uB :: Law2.f156.drop 2) _ _ _ = _
  rw [evSs_cons,evS_whiles]
  exact congrArg (fun x=>Option.bind x fun (f,L1,σ1)=>match f with | .next=>evSs (cD sx F (d + 3)) (Law2.f156.drop 2) (rest.length + 8) L1 σ1 | f=>some (f,L1,σ1)) e
 refine fn_ex (by rfl) (fl:=.ret (.str ((t.drop k).takeWhile na))) rfl rfl ⟨gcL (hS xr x0 sm' tx' (rest ++ [.list (parts.map .str)])) (rest.length + 8) (putK 81 (.str ((t.drop k).takeWhile na)) (uL (rest.length + 8) L9)),e1.trans ?_⟩ rfl
 rw [show Law2.f156.drop 2 = [.assign (.l 81) (.join [] (.loc 78)),.retf (.loc 81)] from rfl,asgL hj,retF' (getE gk_eq)]
 rw [show gcS (hS xr x0 sm' tx' (rest ++ [.list (parts.map .str)])) (rest.length + 8) = hS xr x0 sm' tx' rest from gcS_app (cld_hS hS' hR)]
 rfl
end
end
noncomputable def ents : List (List Nat × List Nat):=[([65,77,80],[38]),([65,77,80,59],[38]),([69,97,99,117,116,101],[201]),([69,97,99,117,116,101,59],[201]),([77,111,112,102,59],[120132]),([97,99,59],[8766]),([97,99,69,59],[8766,819]),([97,99,117,116,101],[180]),([97,99,117,116,101,59],[180]),([97,109,112],[38]),([97,109,112,59],[38]),([97,110,103,59],[8736]),([97,110,103,108,101,59],[8736]),([98,110,101,59],[61,8421]),([99,111,112,121],[169]),([99,111,112,121,59],[169]),([101,97,99,117,116,101],[233]),([101,97,99,117,116,101,59],[233]),([102,114,97,99,49,50],[189]),([102,114,97,99,49,50,59],[189]),([103,116],[62]),([103,116,59],[62]),([108,116],[60]),([108,116,59],[60]),([110,98,115,112],[160]),([110,98,115,112,59],[160]),([110,111,116],[172]),([110,111,116,59],[172]),([110,111,116,105,110,59],[8713]),([110,111,116,110,105,59],[8716]),([112,97,114,97],[182]),([112,97,114,97,59],[182]),([112,97,114,97,108,108,101,108,59],[8741]),([113,117,111,116],[34]),([113,117,111,116,59],[34]),([115,117,112,49],[185]),([115,117,112,49,59],[185]),([115,117,112,50],[178]),([115,117,112,50,59],[178]),([115,117,112,59],[8835]),([116,105,109,101,115],[215]),([116,105,109,101,115,59],[215]),([116,105,109,101,115,98,59],[8864])]
noncomputable def nms : List (List Nat):=ents.map (·.1)
noncomputable def ent (u : List Nat) : Option (List Nat):=getS u ents
noncomputable def mem (u : List Nat) : Bool:=(ent u).isSome
noncomputable def hp (u : List Nat) : Bool:=nms.any fun x=>u.isPrefixOf x
theorem nms_sorted : nms.Pairwise (fun a b=>a < b):=by decide +kernel
theorem getS_map {β γ : Type} (f : β → γ) (u : List Nat) : ∀ l : List (List Nat × β),getS u (l.map fun p=>(p.1,f p.2)) = (getS u l).map f
 | []=>rfl
 | (k,v) :: r=>by
  show (if k = u then some (f v) else getS u (r.map fun p=>(p.1,f p.2))) = (if k = u then some v else getS u r).map f
  by_cases h : k = u
  ·rw [if_pos h,if_pos h]; rfl
  ·rw [if_neg h,if_neg h,getS_map f u r]
theorem getS_iff {β : Type} (u : List Nat) : ∀ l : List (List Nat × β),(getS u l).isSome = true ↔ u ∈ l.map (·.1)
 | []=>⟨(fun h=>nomatch h),(fun h=>nomatch h)⟩
 | (k,v) :: r=>by
  show (if k = u then some v else getS u r).isSome = true ↔ u ∈ k :: r.map (·.1)
  by_cases h : k = u
  ·rw [if_pos h]; simp [h]
  ·rw [if_neg h,getS_iff u r,List.mem_cons]
   exact ⟨.inr,fun q=>q.resolve_left fun e=>h e.symm⟩
theorem mem_iff {u : List Nat} : mem u = true ↔ u ∈ nms:=getS_iff u ents
theorem nil_pre {x : List Nat} : ¬ x < []:=fun h=>nomatch h
theorem pre_mid : ∀ {u x y : List Nat},u.isPrefixOf y = true → ¬ x < u → ¬ y < x → u.isPrefixOf x = true
 | [],x,y,_,_,_=>rfl
 | a :: u,[],y,_,h,_=>absurd (List.Lex.nil) h
 | a :: u,b :: x,[],h,_,_=>by cases h
 | a :: u,b :: x,c :: y,h,h1,h2=>by
  simp only [List.isPrefixOf_cons₂,Bool.and_eq_true,beq_iff_eq] at h ⊢
  obtain ⟨rfl,h⟩:=h
  have e1 : ¬ b < a:=fun q=>h1 (List.Lex.rel q)
  have e2 : ¬ a < b:=fun q=>h2 (List.Lex.rel q)
  obtain rfl : a = b:=by lia
  exact ⟨rfl,pre_mid h (fun q=>h1 (List.Lex.cons q)) fun q=>h2 (List.Lex.cons q)⟩
theorem pre_ge : ∀ {u y : List Nat},u.isPrefixOf y = true → ¬ y < u
 | [],y,_=>nil_pre
 | a :: u,[],h=>by cases h
 | a :: u,b :: y,h=>by
  simp only [List.isPrefixOf_cons₂,Bool.and_eq_true,beq_iff_eq] at h
  obtain ⟨rfl,h⟩:=h
  intro q
  cases q with
  | rel q=>exact Nat.lt_irrefl _ q
  | cons q=>exact pre_ge h q
theorem lt_tr : ∀ {x y z : List Nat},x < y → y < z → x < z
 | x,y,z,h1,h2=>List.lt_trans h1 h2
theorem lt_as : ∀ {x y : List Nat},x < y → ¬ y < x:=fun h1 h2=>List.lt_irrefl _ (List.lt_trans h1 h2)
section
noncomputable def kvs : List (List Nat × V):=ents.map fun p=>(p.1,V.str p.2)
theorem getS_kvs (u : List Nat) : getS u kvs = (ent u).map V.str:=getS_map V.str u ents
section
variable {F d : Nat} {sx : List (Nat × O)} {σ : St} {u : List Nat}
theorem so43 : (Law2.pr sx).so 43 = some (.dict kvs):=rfl
theorem in43 {call} : cmpV (cxOf (Law2.pr sx) F call) σ .isin (.str u) (.sref 43) = some (mem u):=by
 show ((cxOf (Law2.pr sx) F call).so 43).bind (inO (.str u)) = _
 rw [show (cxOf (Law2.pr sx) F call).so 43 = some (.dict kvs) from so43 (sx:=sx)]
 show some (getS u kvs).isSome = _
 rw [getS_kvs,Option.isSome_map]; rfl
theorem x199 : runF (Law2.pr sx) F (d + 1) 199 [.sref 236,.str u] σ = some (.bool (mem u),σ) :=
 fn_eq (by rfl) (L:=[(34,.sref 236),(26,.str u)]) rfl rfl (retS (cmpE (b:=.sref 43) rfl rfl in43)) rfl
inductive BI (u : List Nat) (σ : St) : Nat → Loc → St → Prop
 | mk {lo hi : Nat} {Lm : Loc} : (Lm = [] ∨ ∃ v,Lm = [(120,v)]) → lo ≤ hi → hi ≤ 43 → (∀ j x,j < lo → nms[j]? = some x → x < u) → (∀ j x,hi ≤ j → nms[j]? = some x → ¬ x < u) → BI u σ (hi - lo) ((55,.sref 243) :: (26,.str u) :: (119,.int (lo : Nat)) :: (118,.int (hi : Nat)) :: Lm) σ
theorem nms_len : nms.length = 43:=rfl
theorem nms_lt {i j : Nat} {x y : List Nat} (h : i < j) (hx : nms[i]? = some x) (hy : nms[j]? = some y) : x < y:=by
 obtain ⟨a,rfl⟩:=List.getElem?_eq_some_iff.mp hx
 obtain ⟨b,rfl⟩:=List.getElem?_eq_some_iff.mp hy
 exact List.pairwise_iff_getElem.mp nms_sorted i j a b h
theorem x178 (hF : 100 < F) : ∃ i : Nat,runF (Law2.pr sx) F (d + 1) 178 [.sref 243,.str u,.int 0,.int 43] σ = some (.int i,σ) ∧ i ≤ 43 ∧ (∀ j x,j < i → nms[j]? = some x → x < u) ∧ (∀ j x,i ≤ j → nms[j]? = some x → ¬ x < u):=by
 obtain ⟨fl,L',σ',e,hE⟩:=whileL_rule (test:=fun L s=>evT (cD sx F d) (.cmp .lt (.loc 119) (.loc 118)) L s) (body:=fun L s=>evSs (cD sx F d) [.assign (.l 120) (.bin .fdiv (.bin .add (.loc 119) (.loc 118)) (.const (.int 2))),.ifs (.cmp .lt (.sub (.loc 55) (.loc 120)) (.loc 26)) [.assign (.l 119) (.bin .add (.loc 120) (.const (.int 1)))] [.assign (.l 118) (.loc 120)]] σ.length L s)
  (K:=fun fl L s=>fl = .next ∧ s = σ ∧ ∃ i : Nat,getK 119 L = some (.int i) ∧ i ≤ 43 ∧ (∀ j x,j < i → nms[j]? = some x → x < u) ∧ (∀ j x,i ≤ j → nms[j]? = some x → ¬ x < u)) (BI u σ) (fun n L s h=>by
  cases h with | @mk lo hi Lm hL h1 h2 h3 h4 =>
  refine ⟨decide ((lo : Int) < (hi : Nat)),σ,rfl,?_⟩
  cases hq : decide ((lo : Int) < (hi : Nat)) with
  | false =>
   have : lo = hi:=Nat.le_antisymm h1 (Int.ofNat_le.mp (Int.not_lt.mp (of_decide_eq_false hq)))
   subst this
   exact ⟨rfl,rfl,lo,rfl,h2,h3,h4⟩
  | true =>
   have hlt : lo < hi:=Int.ofNat_lt.mp (of_decide_eq_true hq)
   generalize hm : (lo + hi) / 2 = m
   have hm1 : lo ≤ m ∧ m < hi:=hm ▸ ⟨(Nat.le_div_iff_mul_le (by decide)).mpr (by rw [Nat.mul_two]; exact Nat.add_le_add_left h1 lo),(Nat.div_lt_iff_lt_mul (by decide)).mpr (by rw [Nat.mul_two]; exact Nat.add_lt_add_right hlt hi)⟩
   obtain ⟨x,hx⟩ : ∃ x,nms[m]? = some x:=⟨_,List.getElem?_eq_getElem (show m < nms.length by rw [nms_len]; exact Nat.lt_of_lt_of_le hm1.2 h2)⟩
   have e1 : evE (cD sx F d) (.bin .fdiv (.bin .add (.loc 119) (.loc 118)) (.const (.int 2))) ((55,.sref 243) :: (26,.str u) :: (119,.int (lo : Nat)) :: (118,.int (hi : Nat)) :: Lm) σ = some (.int (m : Nat),σ):=by
    have e : Int.fdiv ((lo : Int) + (hi : Nat)) 2 = (m : Nat):=by
     rw [← hm,Int.fdiv_eq_ediv_of_nonneg _ (by decide)]; rfl
    rw [← e]; rfl
   have e2 : putK 120 (.int (m : Nat)) ((55,.sref 243) :: (26,.str u) :: (119,.int (lo : Nat)) :: (118,.int (hi : Nat)) :: Lm) = (55,.sref 243) :: (26,.str u) :: (119,.int (lo : Nat)) :: (118,.int (hi : Nat)) :: [(120,.int (m : Nat))]:=by
    rcases hL with rfl | ⟨v,rfl⟩ <;> rfl
   have e3 : evT (cD sx F d) (.cmp .lt (.sub (.loc 55) (.loc 120)) (.loc 26)) ((55,.sref 243) :: (26,.str u) :: (119,.int (lo : Nat)) :: (118,.int (hi : Nat)) :: [(120,.int (m : Nat))]) σ = some (decide (x < u),σ):=by
    refine cmpT (a:=.str x) (b:=.str u) (σ1:=σ) ?_ rfl rfl
    show ((subO (.list (nms.map V.str)) (.int (m : Nat))).map _) = _
    show (((idxOf (nms.map V.str).length (m : Nat)).bind fun j=>(nms.map V.str)[j]?).map _) = _
    rw [idx_nat (by rw [List.length_map,nms_len]; lia),Option.bind_some,List.getElem?_map,hx]; rfl
   show OutS (evSs _ (.assign (.l 120) _ :: _) _ _ _) _
   rw [asgL e1,e2]
   by_cases hxu : x < u
   ·rw [decide_eq_true hxu] at e3
    refine ⟨.next,_,_,ifT e3,hi - (m + 1),Nat.sub_lt_sub_left hlt (Nat.lt_succ_of_le hm1.1),?_⟩
    exact .mk (lo:=m + 1) (.inr ⟨_,rfl⟩) hm1.2 h2 (fun j y hj hy=>by
     by_cases hjm : j = m
     ·subst hjm; obtain rfl:=Option.some.inj (hy.symm.trans hx); exact hxu
     ·exact lt_tr (nms_lt (Nat.lt_of_le_of_ne (Nat.le_of_lt_succ hj) hjm) hy hx) hxu) h4
   ·rw [decide_eq_false hxu] at e3
    refine ⟨.next,_,_,ifF e3,m - lo,Nat.sub_lt_sub_right hm1.1 hm1.2,?_⟩
    exact .mk (hi:=m) (.inr ⟨_,rfl⟩) hm1.1 (Nat.le_trans (Nat.le_of_lt hm1.2) h2) h3 fun j y hj hy=>by
     by_cases hjm : j = m
     ·subst hjm; obtain rfl:=Option.some.inj (hy.symm.trans hx); exact hxu
     ·exact fun q=>hxu (lt_tr (nms_lt (Nat.lt_of_le_of_ne hj (Ne.symm hjm)) hx hy) q)) F 43 ((55,.sref 243) :: (26,.str u) :: (119,.int (0 : Nat)) :: (118,.int (43 : Nat)) :: []) σ (Nat.lt_trans (by decide) hF) (.mk (.inl rfl) (by decide) (by decide) (fun j x h=>absurd h (Nat.not_lt_zero _)) fun j x h hx=>by
    have:=(List.getElem?_eq_some_iff.mp hx).1
    rw [nms_len] at this
    exact absurd (Nat.lt_of_lt_of_le this h) (Nat.lt_irrefl _))
 obtain ⟨rfl,rfl,i,hi,h1,h2,h3⟩:=hE
 refine ⟨i,fn_ex (by rfl) (fl:=.ret (.int i)) rfl rfl ⟨L',?_⟩ rfl,h1,h2,h3⟩
 refine (ifN (σ1:=σ') rfl).trans ?_
 show evSs _ [.whiles _ _,.ret (.loc 119)] _ _ _ = _
 rw [evSs_cons,evS_whiles]
 show (Option.bind (whileL _ _ F ((55,.sref 243) :: (26,.str u) :: (119,.int (0 : Nat)) :: (118,.int (43 : Nat)) :: []) σ') _) = _
 rw [e]
 exact retS (getE hi)
theorem hp_of {i : Nat} (h1 : ∀ j x,j < i → nms[j]? = some x → x < u) (h2 : ∀ j x,i ≤ j → nms[j]? = some x → ¬ x < u) : hp u = match nms[i]? with | some x=>u.isPrefixOf x | none=>false:=by
 cases hq : hp u with
 | true =>
  obtain ⟨y,hy,hu⟩:=List.any_eq_true.mp hq
  obtain ⟨j,hj⟩:=List.getElem?_of_mem hy
  have hij : i ≤ j:=Nat.le_of_not_lt fun q=>pre_ge hu (h1 j y q hj)
  have hjl:=(List.getElem?_eq_some_iff.mp hj).1
  have hx : nms[i]? = some nms[i]:=List.getElem?_eq_getElem (Nat.lt_of_le_of_lt hij hjl)
  rw [hx]
  refine (pre_mid hu (h2 i _ (Nat.le_refl _) hx) fun q=>?_).symm
  by_cases e : i = j
  ·subst e; obtain rfl:=Option.some.inj (hx.symm.trans hj); exact List.lt_irrefl _ q
  ·exact lt_as (nms_lt (by lia) hx hj) q
 | false =>
  cases hx : nms[i]? with
  | none=>rfl
  | some x =>
   cases hu : u.isPrefixOf x with
   | false=>exact hu.symm
   | true =>
    have : hp u = true:=List.any_eq_true.mpr ⟨x,List.mem_of_getElem? hx,hu⟩
    rw [hq] at this; cases this
theorem x220 (hF : 100 < F) : runF (Law2.pr sx) F (d + 2) 220 [.sref 236,.str u] σ = some (.bool (hp u),σ):=by
 have t1 : evT (cD sx F (d + 1)) (.cmp .isin (.loc 110) (.attr (.loc 34) 111)) [(34,.sref 236),(110,.str u)] σ = some (mem u,σ):=cmpT (b:=.sref 43) rfl rfl in43
 cases hm : mem u with
 | true =>
  have : hp u = true:=List.any_eq_true.mpr ⟨u,mem_iff.mp hm,List.isPrefixOf_iff_prefix.mpr (List.prefix_refl u)⟩
  rw [hm] at t1
  rw [this]
  exact fn_ex (by rfl) (fl:=.ret (.bool true)) rfl rfl ⟨_,(ifT t1).trans rfl⟩ rfl
 | false =>
  rw [hm] at t1
  obtain ⟨i,e1,hi,h1,h2⟩:=x178 (F:=F) (d:=d) (sx:=sx) (σ:=σ) (u:=u) hF
  have e2 : evE (cD sx F (d + 1)) (.call 178 [.attr (.loc 34) 116,.loc 110,.loc 113,.loc 114]) [(34,.sref 236),(110,.str u),(113,.int 0),(114,.int 43)] σ = some (.int i,σ):=e1
  have e3 : evSs (cD sx F (d + 1)) (Law2.f220.drop 1) σ.length [(34,.sref 236),(110,.str u)] σ = evSs (cD sx F (d + 1)) (Law2.f220.drop 2) σ.length [(34,.sref 236),(110,.str u),(113,.int 0),(114,.int 43),(84,.int i)] σ:=by
   have e0 : evT (cD sx F (d + 1)) (.starts (.loc 110) (.attr (.loc 34) 112)) [(34,.sref 236),(110,.str u)] σ = some (([] : List Nat).isPrefixOf u,σ):=rfl
   refine (ifT (e0.trans rfl)).trans ?_
   have e4 : evSs (cD sx F (d + 1)) [.assignT [.l 113,.l 114] (.attr (.loc 34) 115),.assign (.l 84) (.call 178 [.attr (.loc 34) 116,.loc 110,.loc 113,.loc 114])] σ.length [(34,.sref 236),(110,.str u)] σ = some (.next,[(34,.sref 236),(110,.str u),(113,.int 0),(114,.int 43),(84,.int i)],σ):=by
    rw [evSs_cons,evS_assignT]
    show evSs (cD sx F (d + 1)) [.assign (.l 84) (.call 178 [.attr (.loc 34) 116,.loc 110,.loc 113,.loc 114])] _ [(34,.sref 236),(110,.str u),(113,.int 0),(114,.int 43)] σ = _
    rw [asgL e2]; rfl
   show Option.bind (evSs _ [.assignT [.l 113,.l 114] _,_] _ _ _) _ = _
   rw [e4]; rfl
  have t2 : evT (cD sx F (d + 1)) (.cmp .eq (.loc 84) (.len (.attr (.loc 34) 116))) [(34,.sref 236),(110,.str u),(113,.int 0),(114,.int 43),(84,.int i)] σ = some ((i : Int) == 43,σ):=rfl
  rw [hp_of h1 h2]
  by_cases hi2 : i = 43
  ·subst hi2
   exact fn_ex (by rfl) (fl:=.ret (.bool false)) rfl rfl ⟨_,(ifN t1).trans (e3.trans ((ifT t2).trans rfl))⟩ rfl
  ·rw [show ((i : Int) == 43) = false from beq_false_of_ne (by lia)] at t2
   have hil : i < nms.length:=by rw [nms_len]; lia
   have hx : nms[i]? = some nms[i]:=List.getElem?_eq_getElem hil
   rw [hx]
   have e5 : evE (cD sx F (d + 1)) (.starts (.sub (.attr (.loc 34) 116) (.loc 84)) (.loc 110)) [(34,.sref 236),(110,.str u),(113,.int 0),(114,.int 43),(84,.int i)] σ = some (.bool (u.isPrefixOf nms[i]),σ):=by
    have e6 : evE (cD sx F (d + 1)) (.sub (.attr (.loc 34) 116) (.loc 84)) [(34,.sref 236),(110,.str u),(113,.int 0),(114,.int 43),(84,.int i)] σ = some (.str nms[i],σ):=by
     show (((idxOf (nms.map V.str).length (i : Nat)).bind fun j=>(nms.map V.str)[j]?).map _) = _
     rw [idx_nat (by rw [List.length_map,nms_len]; lia),Option.bind_some,List.getElem?_map,hx]; rfl
    rw [evE_bm,e6]; rfl
   exact fn_ex (by rfl) (fl:=.ret (.bool (u.isPrefixOf nms[i]))) rfl rfl ⟨_,(ifN t1).trans (e3.trans ((ifN t2).trans (retS e5)))⟩ rfl
end
end
section
noncomputable def lpf (u : List Nat) : Nat → Option (List Nat)
 | 0=>none
 | m + 1=>if mem (u.take m) = true then some (u.take m) else lpf u m
theorem fn_exX {p : Pr} {F d g : Nat} {args : List V} {σ : St} {fn : Fn} {L : Loc} {fl : Fl} {σ' : St} {r : Option (V × St)} (h1 : p.fns g = some fn) (h2 : bindP fn.params args fn.dflt = some L)
 (h : ∃ L',evSs (cxOf p F (runF p F d)) fn.body σ.length L σ = some (fl,L',σ')) (hr : endF g fl σ' = r) : runF p F (d + 1) g args σ = r:=by
 obtain ⟨L',h⟩:=h
 rw [runF_succ,h1,Option.bind_some,h2,Option.bind_some,h]
 exact hr
theorem tv_inM {cx : Cx} {L : Loc} {σ : St} {x o : PE} {m : Nat} : evT cx (.inM x o m) L σ = (evE cx (.inM x o m) L σ).bind fun (v,σ1)=>(truthyV cx σ1 v).map fun b=>(b,σ1):=rfl
theorem range2V_eq {i j : Int} {σ : St} (h : (-(LIM : Int) ≤ i ∧ i ≤ LIM) ∧ (-(LIM : Int) ≤ j ∧ j ≤ LIM)) : range2V (.int i) (.int j) σ = some (.ref σ.length,σ ++ [.rng i j 1]):=if_pos h
theorem iter_rng {v : V} {a b s : Int} (h : (-(LIM : Int) ≤ a ∧ a ≤ LIM) ∧ (-(LIM : Int) ≤ b ∧ b ≤ LIM) ∧ (s = 1 ∨ s = -1)) : iterO v (.rng a b s) = some ((List.range (rngN a b s)).map fun k=>.int (a + s * Int.ofNat k)):=if_pos h
section
variable {F d : Nat} {sx : List (Nat × O)} {σ : St} {u : List Nat}
noncomputable def flV : Option (List Nat) → Fl | some b=>.ret (.str b) | none=>.next
noncomputable def opS : Option (List Nat) → V | some b=>.str b | none=>.none
theorem take_cut {i : Nat} (h1 : 1 ≤ i) (h2 : i ≤ u.length) : cut u 0 (clampI u.length (-(i : Int))) = u.take (u.length - i):=by
 unfold cut clampI
 have e : (-(i : Int) + u.length).toNat = u.length - i:=by rw [Int.add_comm,← Int.sub_eq_add_neg,Int.toNat_sub]
 rw [if_pos (Int.neg_neg_of_pos (Int.ofNat_lt.mpr h1)),List.drop_zero,e]; rfl
theorem lp_loop {z : Nat} {bind : V → Loc → St → Option Loc} {still : St → Bool} {body : Loc → St → Option (Fl × Loc × St)} (hb : bind = fun v L s=>bindFt (cD sx F (d + 1)) s (.one 84) v L) (hs : still σ = true) (hbd : body = fun L s=>evSs (cD sx F (d + 1)) [.ifs (.inM (.slice (.loc 110) (.const .none) (.neg (.loc 84))) (.loc 34) 117) [.ret (.slice (.loc 110) (.const .none) (.neg (.loc 84)))] []] z L s) :
 ∀ (m j : Nat) (L84 : Loc),j + m = u.length → (L84 = [] ∨ ∃ v,L84 = [(84,v)]) → ∃ L',forL bind still body ((List.range' j m).map fun k=>V.int (1 + 1 * Int.ofNat k)) ((34,.sref 236) :: (110,.str u) :: L84) σ = some (flV (lpf u m),(34,V.sref 236) :: (110,V.str u) :: L',σ)
 | 0,j,L84,_,_=>⟨_,forL_nil.trans (if_pos hs)⟩
 | m + 1,j,L84,hj,hL=>by
  have e1 : bind (V.int (1 + 1 * Int.ofNat j)) ((34,.sref 236) :: (110,.str u) :: L84) σ = some [(34,.sref 236),(110,.str u),(84,.int ((j + 1 : Nat)))]:=by
   subst hb
   have : (1 + 1 * Int.ofNat j) = ((j + 1 : Nat) : Int):=by rw [Int.one_mul,Int.add_comm]; rfl
   rw [this]
   rcases hL with rfl | ⟨v,rfl⟩ <;> rfl
  have hcut : evE (cD sx F (d + 1)) (.slice (.loc 110) (.const .none) (.neg (.loc 84))) [(34,.sref 236),(110,.str u),(84,.int ((j + 1 : Nat)))] σ = some (.str (u.take m),σ):=by
   have h:=take_cut (u:=u) (i:=j + 1) (Nat.le_add_left ..) (hj ▸ Nat.add_le_add_left (Nat.le_add_left 1 m) j)
   rw [← hj,Nat.add_sub_add_left,Nat.add_sub_cancel,hj] at h
   rw [← h]; rfl
  have ht : evT (cD sx F (d + 1)) (.inM (.slice (.loc 110) (.const .none) (.neg (.loc 84))) (.loc 34) 117) [(34,.sref 236),(110,.str u),(84,.int ((j + 1 : Nat)))] σ = some (mem (u.take m),σ):=by
   have e : evE (cD sx F (d + 1)) (.inM (.slice (.loc 110) (.const .none) (.neg (.loc 84))) (.loc 34) 117) [(34,.sref 236),(110,.str u),(84,.int ((j + 1 : Nat)))] σ = some (.bool (mem (u.take m)),σ):=by
    rw [evE_inM,hcut]
    show ((runF (Law2.pr sx) F (d + 1) 199 [.sref 236,.str (u.take m)] σ).bind _) = _
    rw [x199]; rfl
   rw [tv_inM,e]; rfl
  rw [List.range'_succ,List.map_cons,forL_cons,if_pos hs,e1,Option.bind_some]
  have eb : body [(34,.sref 236),(110,.str u),(84,.int ((j + 1 : Nat)))] σ = if mem (u.take m) = true then some (.ret (.str (u.take m)),[(34,.sref 236),(110,.str u),(84,.int ((j + 1 : Nat)))],σ) else some (.next,[(34,.sref 236),(110,.str u),(84,.int ((j + 1 : Nat)))],σ):=by
   subst hbd
   cases hm : mem (u.take m) with
   | true =>
    rw [hm] at ht
    refine (ifT ht).trans ?_
    rw [retS hcut]; rfl
   | false=>rw [hm] at ht; exact (ifN ht).trans rfl
  show ∃ L',(body _ σ).bind _ = some (flV (if mem (u.take m) = true then some (u.take m) else lpf u m),(34,V.sref 236) :: (110,V.str u) :: L',σ)
  rw [eb]
  by_cases hm : mem (u.take m) = true
  ·rw [if_pos hm,if_pos hm]; exact ⟨_,rfl⟩
  ·rw [if_neg hm,if_neg hm]
   obtain ⟨L',e⟩:=lp_loop hb hs hbd m (j + 1) [(84,.int ((j + 1 : Nat)))] (by lia) (.inr ⟨_,rfl⟩)
   exact ⟨L',e⟩
theorem x227 (hl : u.length < 20000) : ∃ τ,runF (Law2.pr sx) F (d + 2) (227 + BIG) [.sref 236,.str u] σ = some (opS (lpf u (u.length + 1)),σ ++ τ):=by
 have e0 : evE (cD sx F (d + 1)) (.inM (.loc 110) (.loc 34) 117) [(34,.sref 236),(110,.str u)] σ = some (.bool (mem u),σ):=by
  rw [evE_inM]
  show ((runF (Law2.pr sx) F (d + 1) 199 [.sref 236,.str u] σ).bind _) = _
  rw [x199]; rfl
 have t0 : evT (cD sx F (d + 1)) (.inM (.loc 110) (.loc 34) 117) [(34,.sref 236),(110,.str u)] σ = some (mem u,σ):=by
  rw [tv_inM,e0]; rfl
 show ∃ τ,_ = some (opS (if mem (u.take u.length) = true then some (u.take u.length) else lpf u u.length),σ ++ τ)
 rw [List.take_length]
 by_cases hm : mem u = true
 ·rw [hm] at t0
  rw [if_pos hm]
  refine ⟨[],?_⟩
  rw [List.append_nil]
  exact fn_exX (fl:=.ret (.str u)) rfl rfl ⟨_,(ifT t0).trans rfl⟩ rfl
 ·rw [show mem u = false from Bool.eq_false_iff.mpr hm] at t0
  rw [if_neg hm]
  refine ⟨[.rng 1 ((u.length : Int) + 1) 1],?_⟩
  have e1 : evE (cD sx F (d + 1)) (.rng2 (.const (.int 1)) (.bin .add (.len (.loc 110)) (.const (.int 1)))) [(34,.sref 236),(110,.str u)] σ = some (.ref σ.length,σ ++ [.rng 1 ((u.length : Int) + 1) 1]):=by
   rw [evE_rng2]
   have h2 : (-(LIM : Int) ≤ (1 : Int) ∧ (1 : Int) ≤ LIM) ∧ (-(LIM : Int) ≤ (u.length : Int) + 1 ∧ (u.length : Int) + 1 ≤ LIM):=by unfold LIM; lia
   have h3:=range2V_eq (σ:=σ) h2
   rw [evE_const,Option.bind_some]
   show (evE _ (.bin .add (.len (.loc 110)) (.const (.int 1))) [(34,V.sref 236),(110,V.str u)] σ).bind _ = _
   rw [show evE (cD sx F (d + 1)) (.bin .add (.len (.loc 110)) (.const (.int 1))) [(34,V.sref 236),(110,V.str u)] σ = some (.int ((u.length : Int) + 1),σ) from rfl,Option.bind_some]
   exact h3
  obtain ⟨L',e⟩:=lp_loop (F:=F) (d:=d) (sx:=sx) (u:=u) (σ:=σ ++ [.rng 1 ((u.length : Int) + 1) 1]) (z:=(σ ++ [O.rng 1 ((u.length : Int) + 1) 1]).length) (still:=fun s=>stillV (cD sx F (d + 1)) (σ ++ [.rng 1 ((u.length : Int) + 1) 1]) s (.ref σ.length)) rfl (still_iff.mpr rfl) rfl u.length 0 [] (by lia) (.inl rfl)
  have e2 : iterV (cD sx F (d + 1)) (σ ++ [.rng 1 ((u.length : Int) + 1) 1]) (.ref σ.length) = some ((List.range' 0 u.length).map fun k=>V.int (1 + 1 * Int.ofNat k)):=by
   show ((σ ++ [O.rng 1 ((u.length : Int) + 1) 1])[σ.length]?).bind _ = _
   rw [lk_last,Option.bind_some]
   rw [iter_rng (by unfold LIM; lia),show rngN 1 ((u.length : Int) + 1) 1 = u.length by unfold rngN; rw [if_pos rfl]; lia,List.range_eq_range']
  have e3 : evSs (cD sx F (d + 1)) [.fors (.one 84) (.rng2 (.const (.int 1)) (.bin .add (.len (.loc 110)) (.const (.int 1)))) [.ifs (.inM (.slice (.loc 110) (.const .none) (.neg (.loc 84))) (.loc 34) 117) [.ret (.slice (.loc 110) (.const .none) (.neg (.loc 84)))] []],.expr (.loc 110)] σ.length [(34,.sref 236),(110,.str u)] σ =
   ((some (flV (lpf u u.length),(34,.sref 236) :: (110,.str u) :: L',σ ++ [O.rng 1 ((u.length : Int) + 1) 1]) : Option (Fl × Loc × St))).bind fun (f,L1,σ1)=>match f with | .next=>evSs (cD sx F (d + 1)) [.expr (.loc 110)] σ.length L1 σ1 | f=>some (f,L1,σ1):=by
   rw [evSs_cons,evS_fors,e1,Option.bind_some]
   show Option.bind (Option.bind (iterV _ _ _) _) _ = _
   rw [e2,Option.bind_some,← e]; try rfl
  cases hq : lpf u u.length with
  | some b =>
   rw [hq] at e3
   exact fn_exX (fl:=.ret (.str b)) rfl rfl ⟨_,(ifN t0).trans e3⟩ rfl
  | none =>
   rw [hq] at e3
   exact fn_exX (fl:=.next) rfl rfl ⟨(34,.sref 236) :: (110,.str u) :: L',(ifN t0).trans (e3.trans rfl)⟩ rfl
end
end
section
noncomputable def endS (cl : Option Nat) (s : List Nat) : Bool:=((([] : List Nat) == s) || ((([32] : List Nat) == s) || ((([10] : List Nat) == s) || ((([12] : List Nat) == s) || ((([38] : List Nat) == s) || ((([60] : List Nat) == s) || false)))))) || (match cl with | none=>false | some c=>s == [c])
noncomputable def closeS (s : List Nat) : Bool:=(s == [61]) || ((!decide (s < [48]) && !decide ([57] < s)) || ((!decide (s < [65]) && !decide ([90] < s)) || (!decide (s < [97]) && !decide ([122] < s))))
noncomputable def lstep (w b x : List Nat) : List Nat:=bif (w.take x.length == x) && decide ((b.length : Int) < (x.length : Nat)) then x else b
noncomputable def lng (w : List Nat) : List Nat:=nms.foldl (lstep w) []
section
variable {c : Cx} {L : Loc} {σ σ1 : St} {z : Nat} {r b : List PS} {t : Ft} {it e : PE} {v : V} {xs : List V} {x : Option (Fl × Loc × St)}
theorem forS (h1 : evE c it L σ = some (v,σ1)) (h2 : iterV c σ1 v = some xs) (h3 : forL (fun v L s=>bindFt c s t v L) (fun s=>stillV c σ1 s v) (fun L s=>evSs c b σ1.length L s) xs L σ1 = x) :
 evSs c (.fors t it b :: r) z L σ = x.bind fun (f,L1,σ1)=>match f with | .next=>evSs c r z L1 σ1 | f=>some (f,L1,σ1):=by
 rw [evSs_cons,evS_fors,h1,Option.bind_some]
 show Option.bind (Option.bind (iterV c σ1 v) _) _ = _
 rw [h2,Option.bind_some,h3]; try rfl
theorem whileS (h : whileL (fun L s=>evT c e L s) (fun L s=>evSs c b z L s) c.fuel L σ = x) : evSs c (.whiles e b :: r) z L σ = x.bind fun (f,L1,σ1)=>match f with | .next=>evSs c r z L1 σ1 | f=>some (f,L1,σ1):=by
 rw [evSs_cons,evS_whiles,h]; try rfl
end
section
variable {F d : Nat} {sx : List (Nat × O)} {σ : St}
theorem chainS {c : Cx} {L : Loc} {a e s : List Nat} {i : Nat} (h : getK i L = some (.str s)) : evE c (.chain .le .le (.const (.str a)) (.loc i) (.const (.str e))) L σ = some (.bool (!decide (s < a) && !decide (e < s)),σ):=by
 rw [evE_chain,evE_const,Option.bind_some]
 show ((evE c (.loc i) L σ).bind _) = _
 rw [evE_loc,h,Option.map_some,Option.bind_some]
 show ((some (!decide (s < a))).bind _) = _
 cases decide (s < a) with
 | false=>rfl
 | true=>rfl
theorem x787 {s : List Nat} : runF (Law2.pr sx) F (d + 1) 787 [.str s] σ = some (.bool (closeS s),σ):=by
 have h : getK 98 [(98,V.str s)] = some (.str s):=rfl
 exact fn_eq (by rfl) (L:=[(98,.str s)]) rfl rfl (retS (orB rfl (orB (chainS h) (orB (chainS h) (chainS h))))) rfl
theorem keys43 : iterV (cD sx F d) σ (.sref 43) = some (nms.map V.str):=rfl
theorem take_clamp {w x : List Nat} : cut w 0 (clampI w.length (x.length : Nat)) = w.take x.length:=by
 unfold cut clampI
 rw [if_neg (by lia),List.drop_zero,Int.toNat_natCast,Nat.sub_zero]
 rcases Nat.le_total x.length w.length with h | h
 ·rw [Nat.min_eq_left h]
 ·rw [Nat.min_eq_right h,List.take_of_length_le (Nat.le_refl _),List.take_of_length_le h]
noncomputable def lgB : List PS:=[.ifs (.andE (.cmp .eq (.slice (.loc 99) (.const .none) (.len (.loc 8))) (.loc 8)) (.cmp .gt (.len (.loc 8)) (.len (.loc 93)))) [.assign (.l 93) (.loc 8)] []]
theorem lg_loop {z : Nat} {w : List Nat} {still : St → Bool} (hs : still σ = true) : ∀ (xs : List (List Nat)) (b : List Nat) (L8 : Loc),(L8 = [] ∨ ∃ v,L8 = [(8,v)]) → ∃ L8',forL (fun v L s=>bindFt (cD sx F d) s (.one 8) v L) still (fun L s=>evSs (cD sx F d) lgB z L s) (xs.map V.str) ((99,.str w) :: (93,.str b) :: L8) σ = some (.next,(99,.str w) :: (93,.str (xs.foldl (lstep w) b)) :: L8',σ)
 | [],b,L8,_=>⟨_,forL_nil.trans (if_pos hs)⟩
 | x :: xs,b,L8,hL=>by
  have e1 : bindFt (cD sx F d) σ (.one 8) (V.str x) ((99,.str w) :: (93,.str b) :: L8) = some [(99,.str w),(93,.str b),(8,.str x)]:=by
   rcases hL with rfl | ⟨v,rfl⟩ <;> rfl
  have hc : evE (cD sx F d) (.slice (.loc 99) (.const .none) (.len (.loc 8))) [(99,.str w),(93,.str b),(8,.str x)] σ = some (.str (w.take x.length),σ):=by
   rw [← take_clamp]; rfl
  have ht : evT (cD sx F d) (.andE (.cmp .eq (.slice (.loc 99) (.const .none) (.len (.loc 8))) (.loc 8)) (.cmp .gt (.len (.loc 8)) (.len (.loc 93)))) [(99,.str w),(93,.str b),(8,.str x)] σ = some ((w.take x.length == x) && decide ((b.length : Int) < (x.length : Nat)),σ):=andT (cmpT hc (b:=.str x) rfl rfl) rfl
  rw [List.map_cons,forL_cons,if_pos hs,e1,Option.bind_some]
  show ∃ L8',(evSs (cD sx F d) lgB z _ σ).bind _ = some (Fl.next,(99,V.str w) :: (93,V.str (xs.foldl (lstep w) (lstep w b x))) :: L8',σ)
  unfold lstep lgB
  cases hq : (w.take x.length == x) && decide ((b.length : Int) < (x.length : Nat)) with
  | true =>
   rw [hq] at ht
   obtain ⟨L8',e⟩:=lg_loop hs xs x [(8,.str x)] (.inr ⟨_,rfl⟩)
   exact ⟨L8',by rw [ifT ht]; exact e⟩
  | false =>
   rw [hq] at ht
   obtain ⟨L8',e⟩:=lg_loop hs xs b [(8,.str x)] (.inr ⟨_,rfl⟩)
   exact ⟨L8',by rw [ifN ht]; exact e⟩
theorem x794 {w : List Nat} : runF (Law2.pr sx) F (d + 1) 794 [.str w] σ = some (.str (lng w),σ):=by
 obtain ⟨L8',e⟩:=lg_loop (F:=F) (d:=d) (sx:=sx) (σ:=σ) (z:=σ.length) (w:=w) (still:=fun s=>stillV (cD sx F d) σ s (.sref 43)) (still_iff.mpr rfl) nms [] [] (.inl rfl)
 exact fn_ex (by rfl) (fl:=.ret (.str (lng w))) rfl rfl ⟨(99,.str w) :: (93,.str (lng w)) :: L8',(asgL (v:=.str []) (σ1:=σ) rfl).trans ((forS (b:=lgB) (v:=.sref 43) (σ1:=σ) rfl keys43 e).trans rfl)⟩ rfl
theorem idx_mod {n : Nat} {i : Int} (hn : 0 < n) : ∃ j,idxOf n (Int.fmod i (n : Nat)) = some j ∧ j < n:=by
 have h1 : 0 ≤ Int.fmod i (n : Nat):=Int.fmod_nonneg_of_pos _ (Int.ofNat_lt.mpr hn)
 have h2 : Int.fmod i (n : Nat) < (n : Nat):=Int.fmod_lt_of_pos _ (Int.ofNat_lt.mpr hn)
 refine ⟨(Int.fmod i (n : Nat)).toNat,?_,(Int.toNat_lt h1).mpr h2⟩
 unfold idxOf
 rw [if_pos h1,if_pos ((Int.toNat_lt h1).mpr h2)]
theorem nms_ok : (nms.all fun s=>s.all okc && (Nat.ble s.length 12 && Nat.ble 1 s.length)) = true:=by decide +kernel
end
end
theorem pre_take {x w : List Nat} : (w.take x.length == x) = true ↔ x <+: w:=by
 rw [beq_iff_eq,List.prefix_iff_eq_take]
 exact ⟨fun h=>h.symm,fun h=>h.symm⟩
theorem lng_fold (w : List Nat) : ∀ (xs : List (List Nat)) (b : List Nat),(xs.foldl (lstep w) b = b ∨ xs.foldl (lstep w) b ∈ xs) ∧ (b <+: w → xs.foldl (lstep w) b <+: w) ∧ b.length ≤ (xs.foldl (lstep w) b).length ∧ ∀ x ∈ xs,x <+: w → x.length ≤ (xs.foldl (lstep w) b).length
 | [],b=>⟨.inl rfl,id,Nat.le_refl _,fun x h=>nomatch h⟩
 | y :: xs,b=>by
  obtain ⟨h1,h2,h3,h4⟩:=lng_fold w xs (lstep w b y)
  show ((xs.foldl (lstep w) (lstep w b y)) = b ∨ (xs.foldl (lstep w) (lstep w b y)) ∈ y :: xs) ∧ (b <+: w → (xs.foldl (lstep w) (lstep w b y)) <+: w) ∧ b.length ≤ (xs.foldl (lstep w) (lstep w b y)).length ∧ ∀ x ∈ y :: xs,x <+: w → x.length ≤ (xs.foldl (lstep w) (lstep w b y)).length
  have hs : (lstep w b y = y ∧ y <+: w ∧ b.length < y.length) ∨ (lstep w b y = b ∧ (y <+: w → y.length ≤ b.length)):=by
   unfold lstep
   cases hq : (w.take y.length == y) && decide ((b.length : Int) < (y.length : Nat)) with
   | true =>
    rw [Bool.and_eq_true,pre_take] at hq
    have:=of_decide_eq_true hq.2
    exact .inl ⟨rfl,hq.1,by omega⟩
   | false =>
    refine .inr ⟨rfl,fun hp=>?_⟩
    rw [pre_take.mpr hp,Bool.true_and] at hq
    have:=of_decide_eq_false hq
    lia
  generalize xs.foldl (lstep w) (lstep w b y) = r at h1 h2 h3 h4 ⊢
  generalize lstep w b y = c at h1 h2 h3 hs
  refine ⟨?_,fun hb=>h2 ?_,?_,fun x hx hp=>?_⟩
  ·rcases h1 with h1 | h1
   ·rcases hs with ⟨e,_⟩ | ⟨e,_⟩
    ·exact .inr (by rw [h1,e]; exact .head _)
    ·exact .inl (h1.trans e)
   ·exact .inr (.tail _ h1)
  ·rcases hs with ⟨e,hp,_⟩ | ⟨e,_⟩
   ·exact e ▸ hp
   ·exact e ▸ hb
  ·rcases hs with ⟨e,_,hl⟩ | ⟨e,_⟩
   ·rw [e] at h3; lia
   ·rw [e] at h3; exact h3
  ·rcases List.mem_cons.mp hx with rfl | hx
   ·rcases hs with ⟨e,_⟩ | ⟨e,hl⟩
    ·rw [e] at h3; exact h3
    ·rw [e] at h3; exact Nat.le_trans (hl hp) h3
   ·exact h4 x hx hp
structure Lng (w b : List Nat) : Prop where
 nm : b = [] ∨ b ∈ nms
 pre : b <+: w
 max : ∀ x ∈ nms,x <+: w → x.length ≤ b.length
theorem lng_is (w : List Nat) : Lng w (lng w):=by
 obtain ⟨h1,h2,_,h4⟩:=lng_fold w nms []
 exact ⟨h1,h2 (List.nil_prefix),h4⟩
theorem Lng.uniq {w b c : List Nat} (h : Lng w b) (k : Lng w c) : b = c:=by
 have e : b.length = c.length:=by
  refine Nat.le_antisymm ?_ ?_
  ·rcases h.nm with rfl | q
   ·exact Nat.zero_le _
   ·exact k.max b q h.pre
  ·rcases k.nm with rfl | q
   ·exact Nat.zero_le _
   ·exact h.max c q k.pre
 rw [List.prefix_iff_eq_take.mp h.pre,List.prefix_iff_eq_take.mp k.pre,e]
theorem Lng.eq {w b : List Nat} (h : Lng w b) : lng w = b:=(lng_is w).uniq h
noncomputable def semi (b : List Nat) : Bool:=match b.getLast? with | some x=>([x] : List Nat) == [59] | none=>true
theorem tab_pre : (nms.all fun x=>nms.all fun y=>!(x.isPrefixOf y) || x == y || (!semi x && semi y)) = true:=by decide +kernel
theorem tab_len : (nms.all fun x=>match ent x with | some v=>Nat.ble v.length x.length | none=>false) = true:=by decide +kernel
theorem tab_amp : (nms.all fun x=>x.all na) = true:=by decide +kernel
theorem tab_ne : ([] : List Nat) ∉ nms:=by decide +kernel
theorem t_pre {x y : List Nat} (hx : x ∈ nms) (hy : y ∈ nms) (h : x <+: y) (hne : x ≠ y) : semi x = false ∧ semi y = true:=by
 have:=List.all_eq_true.mp (List.all_eq_true.mp tab_pre x hx) y hy
 rw [List.isPrefixOf_iff_prefix.mpr h,beq_false_of_ne hne] at this
 simpa using this
theorem t_len {x : List Nat} (hx : x ∈ nms) : ∃ v,ent x = some v ∧ v.length ≤ x.length:=by
 have:=List.all_eq_true.mp tab_len x hx
 cases q : ent x with
 | none=>rw [q] at this; cases this
 | some v=>rw [q] at this; exact ⟨v,rfl,Nat.le_of_ble_eq_true this⟩
theorem t_amp {x : List Nat} (hx : x ∈ nms) : ∀ c ∈ x,na c = true:=List.all_eq_true.mp (List.all_eq_true.mp tab_amp x hx)
noncomputable def best (cl : Option Nat) (p : List Nat) : List Nat:=bif endS cl (p.take 1) then [] else lng p
noncomputable def stays (cl : Option Nat) (p : List Nat) : Bool:=(best cl p == []) || (cl.isSome && (!semi (best cl p) && closeS ((p.drop (best cl p).length).take 1)))
noncomputable def seg (cl : Option Nat) (p : List Nat) : List Nat:=bif stays cl p then 38 :: p else (ent (best cl p)).getD [] ++ p.drop (best cl p).length
noncomputable def eNo : List Nat:=[110,97,109,101,100,45,101,110,116,105,116,121,45,119,105,116,104,111,117,116,45,115,101,109,105,99,111,108,111,110]
noncomputable def eEx : List Nat:=[101,120,112,101,99,116,101,100,45,110,97,109,101,100,45,101,110,116,105,116,121]
noncomputable def tl (cl : Option Nat) (p : List Nat) : List (List Nat):=bif !(best cl p == []) && !semi (best cl p) then [eNo] else bif (best cl p == []) && !endS cl (p.take 1) then [eEx] else []
noncomputable def tellP (cl : Option Nat) : List (List Nat) → List Nat × List (List Nat)
 | []=>([],[])
 | p :: ps=>(p ++ (ps.map (seg cl)).flatten,(ps.map (tl cl)).flatten)
noncomputable def tell (cl : Option Nat) (m : List Nat) : List Nat × List (List Nat):=tellP cl (spl 38 m)
theorem close_nil : closeS [] = false:=by decide +kernel
theorem take1 {h : List Nat} (hh : h ≠ []) (t : List Nat) : (h ++ t).take 1 = h.take 1:=by
 cases h with
 | nil=>exact absurd rfl hh
 | cons x r=>rfl
theorem isSub_one (c : Nat) (l : List Nat) : isSub [c] l = l.contains c:=by
 have h:=StrLaws.found_one (toS l) c
 refine Eq.trans h ?_
 show decide (c ∈ l.toArray.toList) = _
 rw [List.contains_eq_mem]
theorem spl_cons (c x : Nat) (r : List Nat) : spl c (x :: r) = if x = c then [] :: spl c r else match spl c r with | []=>[[x]] | p :: q=>(x :: p) :: q:=by
 rfl
theorem tell_cons {cl : Option Nat} {p : List Nat} {ps : List (List Nat)} : tellP cl (p :: ps) = (p ++ (ps.map (seg cl)).flatten,(ps.map (tl cl)).flatten):=rfl
section
section
variable {c : Cx} {L : Loc} {σ σ1 σ2 σ3 : St} {l r e lo hi t o : PE} {v w a b : V} {s x y : List Nat} {i j : Nat} {vs : List V}
theorem evEs1 (h : evE c e L σ = some (v,σ1)) : evEs c [e] L σ = some ([v],σ1):=by rw [evEs_cons,h]; rfl
theorem evEs2 (h1 : evE c l L σ = some (v,σ1)) (h2 : evE c r L σ1 = some (w,σ2)) : evEs c [l,r] L σ = some ([v,w],σ2):=by
 rw [evEs_cons,h1,Option.bind_some]
 show Option.bind (evEs c [r] L σ1) _ = _
 rw [evEs1 h2]; rfl
theorem callE {f : Nat} {es : List PE} (h : evEs c es L σ = some (vs,σ1)) (h2 : c.call f vs σ1 = some (v,σ2)) : evE c (.call f es) L σ = some (v,σ2):=by
 rw [evE_call,h]; exact h2
theorem callT {f : Nat} {es : List PE} {q : Bool} (h : evEs c es L σ = some (vs,σ1)) (h2 : c.call f vs σ1 = some (.bool q,σ2)) : evT c (.call f es) L σ = some (q,σ2):=by
 rw [tv_call,callE h h2]; rfl
theorem lenE (h : evE c e L σ = some (.str s,σ1)) : evE c (.len e) L σ = some (.int (s.length : Nat),σ1):=by rw [evE_len,h]; rfl
theorem addE (h1 : evE c l L σ = some (.str x,σ1)) (h2 : evE c r L σ1 = some (.str y,σ2)) (hl : x.length + y.length ≤ LIM) : evE c (.bin .add l r) L σ = some (.str (x ++ y),σ2):=by
 rw [evE_bin,h1,Option.bind_some]
 show Option.bind (evE c r L σ1) _ = _
 rw [h2,Option.bind_some]
 exact if_pos hl
theorem iaddE {p q : Int} (h1 : evE c l L σ = some (.int p,σ1)) (h2 : evE c r L σ1 = some (.int q,σ2)) : evE c (.bin .add l r) L σ = some (.int (p + q),σ2):=by
 rw [evE_bin,h1,Option.bind_some]
 show Option.bind (evE c r L σ1) _ = _
 rw [h2]; rfl
theorem sliceE (h1 : evE c e L σ = some (.str s,σ1)) (h2 : evE c lo L σ1 = some (v,σ2)) (h3 : evE c hi L σ2 = some (w,σ3)) (hi' : sliceLo s.length v = some i) (hj : sliceHi s.length w = some j) : evE c (.slice e lo hi) L σ = some (.str (cut s i j),σ3):=by
 rw [evE_slice,h1,Option.bind_some]
 show Option.bind (evE c lo L σ1) _ = _
 rw [h2,Option.bind_some]
 show Option.bind (evE c _ L σ2) _ = _
 rw [h3,Option.bind_some]
 show ((sliceLo s.length v).bind fun i=>(sliceHi s.length w).bind fun j=>some (V.str (cut s i j),σ3)) = _
 rw [hi',Option.bind_some,hj]; rfl
theorem iteE {q : Bool} (h : evT c t L σ = some (q,σ1)) (h1 : q = true → evE c l L σ1 = some (v,σ2)) (h2 : q = false → evE c r L σ1 = some (v,σ2)) : evE c (.ife t l r) L σ = some (v,σ2):=by
 rw [evE_ife,h]
 cases q with
 | true=>exact h1 rfl
 | false=>exact h2 rfl
theorem andTL {p q : Bool} (h1 : evT c l L σ = some (p,σ1)) (h2 : p = true → evT c r L σ1 = some (q,σ1)) : evT c (.andE l r) L σ = some (p && q,σ1):=by
 rw [evT_andE,h1]
 cases p with
 | true=>exact h2 rfl
 | false=>rfl
theorem cut0 : cut s 0 j = s.take j:=by unfold cut; rw [List.drop_zero,Nat.sub_zero]
theorem clamp1 {n k : Nat} : clampI n (k : Nat) = min k n:=by
 unfold clampI
 rw [if_neg (by lia),Int.toNat_natCast]
theorem take_min {k : Nat} : s.take (min k s.length) = s.take k:=by
 rcases Nat.le_total k s.length with h | h
 ·rw [Nat.min_eq_left h]
 ·rw [Nat.min_eq_right h,List.take_length,List.take_of_length_le h]
theorem sl_take {k : Nat} (h1 : evE c e L σ = some (.str s,σ)) (h3 : evE c hi L σ = some (.int (k : Nat),σ)) : evE c (.slice e (.const .none) hi) L σ = some (.str (s.take k),σ):=by
 have:=sliceE (i:=0) h1 evE_const h3 (show sliceLo s.length .none = some 0 from rfl) (show sliceHi s.length (.int (k : Nat)) = some (clampI s.length (k : Nat)) from rfl)
 rw [cut0,clamp1,take_min] at this
 exact this
theorem sl_mid {k : Nat} (h1 : evE c e L σ = some (.str s,σ)) (h2 : evE c lo L σ = some (.int (k : Nat),σ)) (h3 : evE c hi L σ = some (.int ((k : Nat) + 1),σ)) : evE c (.slice e lo hi) L σ = some (.str ((s.drop k).take 1),σ):=by
 have:=sliceE h1 h2 h3 (show sliceLo s.length (.int (k : Nat)) = some (clampI s.length (k : Nat)) from rfl) (show sliceHi s.length (.int ((k : Nat) + 1)) = some (clampI s.length ((k : Nat) + 1)) from rfl)
 have e : cut s (clampI s.length (k : Nat)) (clampI s.length ((k : Nat) + 1)) = (s.drop k).take 1:=by
  rw [show ((k : Nat) : Int) + 1 = ((k + 1 : Nat) : Int) by lia,clamp1,clamp1]
  unfold cut
  rcases Nat.lt_or_ge k s.length with h | h
  ·rw [Nat.min_eq_left (Nat.le_of_lt h),Nat.min_eq_left h,show k.succ - k = 1 by lia]
  ·rw [Nat.min_eq_right h,Nat.min_eq_right (Nat.le_succ_of_le h),Nat.sub_self,List.take_zero,List.drop_eq_nil_of_le h]; rfl
 rw [e] at this
 exact this
end
section
variable {F d : Nat} {sx : List (Nat × O)} {σ : St} {L : Loc} {p b s : List Nat} {cl : Option Nat}
theorem isN_opt {call} : cmpV (cxOf (Law2.pr sx) F call) σ .isnot (optV cl) .none = some cl.isSome:=by cases cl <;> rfl
theorem semi_E {i : Nat} (hb : getK i L = some (.str b)) (hne : b ≠ []) {c : Cx} : evT c (.cmp .ne (.sub (.loc i) (.neg (.const (.int 1)))) (.const (.str [59]))) L σ = some (!semi b,σ) ∧ evE c (.cmp .ne (.sub (.loc i) (.neg (.const (.int 1)))) (.const (.str [59]))) L σ = some (.bool (!semi b),σ):=by
 cases hx : b.getLast? with
 | none=>exact absurd (List.getLast?_eq_none_iff.mp hx) hne
 | some x =>
  have e : cmpV c σ .ne (.str [x]) (.str [59]) = some (!semi b):=by
   unfold semi; rw [hx]; rfl
  exact ⟨cmpT (last_eq hb hx) evE_const e,cmpE (last_eq hb hx) evE_const e⟩
theorem best_le (cl : Option Nat) (p : List Nat) : (best cl p).length ≤ p.length:=by
 unfold best
 cases endS cl (p.take 1) with
 | true=>exact Nat.zero_le _
 | false=>exact (lng_is p).pre.length_le
theorem best_mem {cl : Option Nat} {p : List Nat} (h : best cl p ≠ []) : best cl p ∈ nms:=by
 unfold best at h ⊢
 cases q : endS cl (p.take 1) with
 | true=>rw [q] at h; exact absurd rfl h
 | false=>rw [q] at h; exact (lng_is p).nm.resolve_left h
theorem seg_len (cl : Option Nat) (p : List Nat) : (seg cl p).length ≤ p.length + 1:=by
 unfold seg
 cases hs : stays cl p with
 | true=>exact Nat.le_refl _
 | false =>
  have hne : best cl p ≠ []:=fun e=>by unfold stays at hs; rw [e] at hs; cases hs
  obtain ⟨v,e,hl⟩:=t_len (best_mem hne)
  have:=best_le cl p
  rw [cond_false,e]
  simp only [Option.getD_some,List.length_append,List.length_drop]
  lia
theorem sub43 {i : Nat} {v : List Nat} (hb : getK i L = some (.str b)) (e : ent b = some v) : evE (cD sx F d) (.sub (.glob (.sref 43)) (.loc i)) L σ = some (.str v,σ):=by
 rw [evE_sub,evE_glob,Option.bind_some]
 show Option.bind (evE _ (.loc i) L σ) _ = _
 rw [getE hb,Option.bind_some]
 show Option.map _ (getS b kvs) = _
 rw [getS_kvs,e]; rfl
end
end
section
noncomputable def tellV (q : List Nat × List (List Nat)) (m : List Nat) : V:=.frz (.tuple [.str q.1,.frz (.list (q.2.map V.str)),.frz (plc m)])
theorem rz_str {σ : St} {n k : Nat} {s : List Nat} : rz σ n k (.str s) = .str s:=by cases k <;> rfl
theorem rz_strs {σ : St} {n k : Nat} (l : List (List Nat)) : (l.map V.str).map (rz σ n k) = l.map V.str:=by
 rw [List.map_map]
 exact List.map_congr_left fun s J=>rz_str
section
variable {F d : Nat} {sx : List (Nat × O)} {σ : St} {L : Loc} {p b s : List Nat} {cl : Option Nat}
theorem spl_sum (c : Nat) : ∀ m : List Nat,((spl c m).map fun p=>p.length + 1).sum = m.length + 1
 | []=>rfl
 | x :: r=>by
  have ih:=spl_sum c r
  rw [spl_cons]
  by_cases hx : x = c
  ·rw [if_pos hx,List.map_cons,List.sum_cons,ih,List.length_cons]; show 0 + 1 + _ = _; lia
  ·rw [if_neg hx]
   cases q : spl c r with
   | nil=>exact absurd q (spl_ne c r)
   | cons p ps =>
    rw [q,List.map_cons,List.sum_cons] at ih
    show (List.map (fun p=>p.length + 1) ((x :: p) :: ps)).sum = _
    rw [List.map_cons,List.sum_cons,List.length_cons,List.length_cons]; lia
theorem spl_cnt (c : Nat) : ∀ m : List Nat,(spl c m).length ≤ m.length + 1
 | []=>Nat.le_refl _
 | x :: r=>by
  have ih:=spl_cnt c r
  rw [spl_cons]
  by_cases hx : x = c
  ·rw [if_pos hx,List.length_cons,List.length_cons]; lia
  ·rw [if_neg hx]
   cases q : spl c r with
   | nil=>exact absurd q (spl_ne c r)
   | cons p ps =>
    rw [q,List.length_cons] at ih
    rw [List.length_cons,List.length_cons]; lia
theorem split_all {c : Nat} {l : List Nat} {B : Nat} (hl : l.length ≤ B) : ∀ p ∈ spl c l,p.length ≤ B:=fun p hp=>by
 have h1 : p.length + 1 ≤ ((spl c l).map fun p=>p.length + 1).sum:=by
  have : ∀ {ls : List (List Nat)},p ∈ ls → p.length + 1 ≤ (ls.map fun p=>p.length + 1).sum:=fun {ls} h=>by
   induction ls with
   | nil=>cases h
   | cons q ls ih =>
    rw [List.map_cons,List.sum_cons]
    rcases List.mem_cons.mp h with rfl | h
    ·lia
    ·have:=ih h; lia
  exact this hp
 rw [spl_sum] at h1
 lia
theorem splitV_eq {c : Nat} {s : List Nat} (hs : s.length ≤ 10000) : splitV [c] (.str s) σ = some (.ref σ.length,σ ++ [.list ((spl c s).map V.str)]):=by
 have e:=split_eq s c
 show (if _ then allocL _ σ else none) = _
 have h1 : ((Txt.split (toS s) (toS [c])).all fun x=>decide (x.length ≤ LIM)) = true:=by
  refine List.all_eq_true.mpr fun x hx=>decide_eq_true ?_
  have : ofS x ∈ spl c s:=by rw [← e]; exact List.mem_map_of_mem hx
  have:=split_all hs _ this
  have q : x.length = (ofS x).length:=by show x.cps.size = x.cps.toList.length; rw [Array.length_toList]
  rw [q]; unfold LIM; lia
 rw [if_pos ⟨List.cons_ne_nil _ _,h1⟩]
 have e2 : (Txt.split (toS s) (toS [c])).map (fun x=>V.str (ofS x)) = (spl c s).map V.str:=by
  rw [← e,List.map_map]; rfl
 rw [e2]
 exact allocL_eq (by rw [List.length_map]; have:=spl_cnt c s; unfold LIM; lia)
end
theorem spl_len (c : Nat) : ∀ l,(spl c l).length = l.count c + 1
 | []=>rfl
 | x :: r=>by
  have ih:=spl_len c r
  by_cases h : x = c
  ·subst h; rw [spl1,List.length_cons,ih,List.count_cons_self]
  ·rw [List.count_cons_of_ne h]
   cases hs : spl c r with
   | nil=>exact absurd hs (spl_ne c r)
   | cons p q=>rw [spl2 h hs]; rw [hs] at ih; exact ih
theorem spl_ix : ∀ l,(lastIx 10 l = none ∧ spl 10 l = [l]) ∨ ∃ i p q t,lastIx 10 l = some i ∧ spl 10 l = p :: t ∧ t.getLast? = some q ∧ q.length = l.length - (i + 1)
 | []=>.inl ⟨rfl,rfl⟩
 | x :: r=>by
  have e : lastIx 10 (x :: r) = match lastIx 10 r with | some i=>some (i + 1) | none=>if x = 10 then some 0 else none:=rfl
  rcases spl_ix r with ⟨h1,h2⟩ | ⟨i,p,q,t,h1,h2,h3,h4⟩ <;> rw [h1] at e
  ·by_cases h : x = 10
   ·subst h; exact .inr ⟨0,[],r,[r],e,(spl1 10 r).trans (by rw [h2]),rfl,rfl⟩
   ·exact .inl ⟨e.trans (if_neg h),spl2 h h2⟩
  ·have h5 : q.length = (x :: r).length - (i + 1 + 1):=h4.trans (Nat.add_sub_add_right ..).symm
   by_cases h : x = 10
   ·subst h; exact .inr ⟨_,[],q,p :: t,e,(spl1 10 r).trans (by rw [h2]),by rw [List.getLast?_cons,h3]; rfl,h5⟩
   ·exact .inr ⟨_,x :: p,q,t,e,spl2 h h2,h3,h5⟩
theorem spl_last (l : List Nat) : ∃ q,(spl 10 l).getLast? = some q ∧ q.length = colOf 0 l:=by
 unfold colOf
 rcases spl_ix l with ⟨h1,h2⟩ | ⟨i,p,q,t,h1,h2,h3,h4⟩ <;> rw [h1,h2]
 ·exact ⟨l,rfl,(Nat.zero_add _).symm⟩
 ·exact ⟨q,by rw [List.getLast?_cons,h3]; rfl,h4⟩
end
section
section
variable {c : Cx} {L : Loc} {σ σ1 σ2 : St} {l r e : PE} {v : V}
theorem notE {p : Bool} (h : evE c e L σ = some (.bool p,σ1)) : evE c (.notE e) L σ = some (.bool (!p),σ1):=by rw [evE_notE,h]; rfl
end
end
structure Rd (w : List Nat) (n : Nat) : Prop where
 le : n ≤ w.length
 all : ∀ j,1 ≤ j → j ≤ n → hp (w.take j) = true
 stop : n = w.length ∨ hp (w.take (n + 1)) = false
theorem hp_of_pre {x w : List Nat} (hx : x ∈ nms) (hw : x <+: w) {j : Nat} (hj : j ≤ x.length) : hp (w.take j) = true:=by
 refine List.any_eq_true.mpr ⟨x,hx,List.isPrefixOf_iff_prefix.mpr ?_⟩
 have : w.take j = x.take j:=by
  obtain ⟨r,rfl⟩:=hw
  rw [List.take_append_of_le_length hj]
 rw [this]
 exact List.take_prefix j x
theorem Rd.nm {w : List Nat} {n : Nat} (h : Rd w n) {x : List Nat} (hx : x ∈ nms) (hw : x <+: w) : x.length ≤ n:=by
 rcases h.stop with e | e
 ·rw [e]; exact hw.length_le
 ·refine Nat.le_of_not_lt fun q=>?_
  rw [hp_of_pre hx hw q] at e; cases e
theorem Rd.amp {w : List Nat} {n : Nat} (h : Rd w n) : ∀ c ∈ w.take n,na c = true:=fun c hc=>by
 cases n with
 | zero=>rw [List.take_zero] at hc; cases hc
 | succ n =>
  obtain ⟨x,hx,hp⟩:=List.any_eq_true.mp (h.all (n + 1) (Nat.succ_le_succ (Nat.zero_le _)) (Nat.le_refl _))
  exact t_amp hx c ((List.isPrefixOf_iff_prefix.mp hp).subset hc)
theorem Rd.part {w : List Nat} {n : Nat} (h : Rd w n) : w.takeWhile na = w.take n ++ (w.drop n).takeWhile na:=by
 have:=tw_all (w.drop n) h.amp
 rwa [List.take_append_drop] at this
theorem lng_part (w : List Nat) : lng w = lng (w.takeWhile na):=by
 have h:=lng_is w
 refine (Lng.eq (b:=lng w) ⟨h.nm,?_,fun x hx hp=>h.max x hx (hp.trans (List.takeWhile_prefix _))⟩).symm
 rcases h.nm with e | e
 ·rw [e]; exact List.nil_prefix
 ·obtain ⟨r,hr⟩:=h.pre
  rw [← hr,tw_all r (t_amp e)]
  have hx : lng (lng w ++ r) = lng w:=by rw [hr]
  rw [hx]
  exact List.prefix_append _ _
theorem lpf_spec (u : List Nat) : ∀ m,m ≤ u.length + 1 → (∀ x ∈ nms,x <+: u → x.length < m) → lpf u m = if lng u = [] then none else some (lng u)
 | 0,_,h=>by
  have h1:=lng_is u
  rcases h1.nm with e | e
  ·rw [if_pos e]; rfl
  ·exact absurd (h _ e h1.pre) (Nat.not_lt_zero _)
 | m + 1,hm,h=>by
  show (if mem (u.take m) = true then some (u.take m) else lpf u m) = _
  by_cases q : mem (u.take m) = true
  ·rw [if_pos q]
   have hx:=mem_iff.mp q
   have hl : (u.take m).length = m:=by rw [List.length_take]; lia
   have e : lng u = u.take m:=Lng.eq ⟨.inr hx,List.take_prefix m u,fun x hx hp=>by rw [hl]; exact Nat.le_of_lt_succ (h x hx hp)⟩
   rw [e,if_neg (show ¬ u.take m = [] from fun e=>tab_ne (e ▸ hx))]
  ·rw [if_neg q]
   refine lpf_spec u m (Nat.le_of_succ_le hm) fun x hx hp=>?_
   have:=h x hx hp
   refine Nat.lt_of_le_of_ne (Nat.le_of_lt_succ this) fun e=>q (mem_iff.mpr ?_)
   rw [← e,← List.prefix_iff_eq_take.mp hp]
   exact hx
theorem Rd.lp {w : List Nat} {n : Nat} (h : Rd w n) : lpf (w.take n) (n + 1) = if lng w = [] then none else some (lng w):=by
 have hl : (w.take n).length = n:=by rw [List.length_take]; exact Nat.min_eq_left h.le
 have e : lng (w.take n) = lng w:=by
  have k:=lng_is w
  refine Lng.eq ⟨k.nm,?_,fun x hx hp=>k.max x hx (hp.trans (List.take_prefix n w))⟩
  rcases k.nm with e | e
  ·rw [e]; exact List.nil_prefix
  ·refine List.prefix_of_prefix_length_le k.pre (List.take_prefix n w) ?_
   rw [hl]; exact h.nm e k.pre
 rw [lpf_spec (w.take n) (n + 1) (by rw [hl]; exact Nat.le_refl _) fun x hx hp=>Nat.lt_succ_of_le (hl ▸ hp.length_le),e]
noncomputable def stk (w : List Nat) (i : Nat) : List V:=(List.range i).map fun j=>optV w[j]?
theorem stk_succ (w : List Nat) (i : Nat) : stk w (i + 1) = stk w i ++ [optV w[i]?]:=by
 unfold stk
 rw [List.range_succ,List.map_append]; rfl
theorem stk_len (w : List Nat) (i : Nat) : (stk w i).length = i:=by unfold stk; rw [List.length_map,List.length_range]
theorem stk_take (w : List Nat) : ∀ {i : Nat},i ≤ w.length → stk w i = ((w.take i).map fun c=>[c]).map V.str
 | 0,_=>rfl
 | i + 1,h=>by
  have hx : w[i]? = some w[i]:=List.getElem?_eq_getElem h
  rw [stk_succ,stk_take w (Nat.le_of_succ_le h),List.take_succ_eq_append_getElem h,List.map_append,List.map_append,hx]; rfl
theorem flat_one : ∀ l : List Nat,(l.map fun c=>[c]).flatten = l
 | []=>rfl
 | x :: l=>by rw [List.map_cons,List.flatten_cons,flat_one l]; rfl
theorem stk_get {w : List Nat} {i j : Nat} (h : j < i) : (stk w i)[j]? = some (optV w[j]?):=by
 unfold stk
 rw [List.getElem?_map,List.getElem?_range h]; rfl
theorem stk_drop {w : List Nat} {n j : Nat} (h : n ≤ w.length) : (stk w n).drop j = (((w.take n).drop j).map fun c=>[c]).map V.str:=by
 rw [stk_take w h,List.map_drop,List.map_drop]
noncomputable def spB (c : Nat) : Bool:=(([9] : List Nat) == [c]) || ((([10] : List Nat) == [c]) || ((([12] : List Nat) == [c]) || ((([32] : List Nat) == [c]) || ((([13] : List Nat) == [c]) || false))))
noncomputable def ltB (c : Nat) : Bool:=false || ((([60] : List Nat) == [c]) || ((([38] : List Nat) == [c]) || false))
noncomputable def clB' (cl : Option Nat) (c : Nat) : Bool:=match cl with | none=>false | some x=>([x] : List Nat) == [c]
noncomputable def fstB (cl : Option Nat) (c0 : Option Nat) : Bool:=match c0 with | none=>true | some c=>spB c || (ltB c || clB' cl c)
theorem one_beq (a b : Nat) : (([a] : List Nat) == [b]) = (a == b):=by
 by_cases h : a = b
 ·subst h; rw [beq_self_eq_true,beq_self_eq_true]
 ·rw [beq_false_of_ne h,beq_false_of_ne fun e=>h (List.cons.inj e).1]
theorem nil_beq (b : Nat) : (([] : List Nat) == [b]) = false:=rfl
theorem fst_ends {cl : Option Nat} {w : List Nat} (hw : ∀ c ∈ w,okc c = true) : fstB cl w[0]? = endS cl ((w.takeWhile na).take 1):=by
 cases w with
 | nil=>rfl
 | cons c r =>
  have hc:=ok_le (hw c (.head _))
  show (spB c || (ltB c || clB' cl c)) = _
  rw [List.takeWhile_cons]
  by_cases h : c = 38
  ·subst h
   rw [show na 38 = false from by decide]
   unfold spB ltB clB' endS
   simp only [one_beq]
   rfl
  ·rw [na_iff.mpr h]
   show _ = endS cl [c]
   unfold spB ltB clB' endS
   simp only [one_beq,nil_beq]
   have e9 : (9 == c) = false:=beq_false_of_ne (by lia)
   have e13 : (13 == c) = false:=beq_false_of_ne (by lia)
   rw [e9,e13]
   have e : (match cl with | none=>false | some x=>x == c) = (match cl with | none=>false | some x=>c == x):=by
    cases cl with
    | none=>rfl
    | some x=>exact Bool.beq_comm
   rw [e]
   cases (10 == c) <;> cases (32 == c) <;> cases (60 == c) <;> cases (38 == c) <;> cases (12 == c) <;> rfl
noncomputable def lettersL : List Nat:=[97,98,99,100,101,102,103,104,105,106,107,108,109,110,111,112,113,114,115,116,117,118,119,120,121,122,65,66,67,68,69,70,71,72,73,74,75,76,77,78,79,80,81,82,83,84,85,86,87,88,89,90]
noncomputable def digitsL : List Nat:=[48,49,50,51,52,53,54,55,56,57]
noncomputable def cloB (c : Nat) : Bool:=lettersL.contains c || (digitsL.contains c || c == 61)
theorem clo_tab : ((List.range 256).all fun c=>cloB c == closeS [c]) = true:=by decide +kernel
theorem lt_one {a b : Nat} : (decide (([a] : List Nat) < [b])) = decide (a < b):=by
 by_cases h : a < b
 ·rw [decide_eq_true h]; exact decide_eq_true (List.Lex.rel h)
 ·rw [decide_eq_false h]
  refine decide_eq_false fun q=>?_
  cases q with
  | rel q=>exact h q
  | cons q=>cases q
theorem clo_ok {c : Nat} (h : okc c = true) : cloB c = closeS [c]:=by
 by_cases hc : c < 256
 ·exact beq_iff_eq.mp (List.all_eq_true.mp clo_tab c (List.mem_range.mpr hc))
 ·have e1 : ∀ l : List Nat,(l.all fun x=>Nat.blt x 256) = true → l.contains c = false:=fun l hl=>by
   rw [← Bool.not_eq_true,List.contains_iff_mem]
   exact fun q=>hc (Nat.le_of_ble_eq_true (List.all_eq_true.mp hl c q))
  unfold cloB closeS
  rw [e1 lettersL rfl,e1 digitsL rfl,beq_false_of_ne (by omega),one_beq,beq_false_of_ne (by omega),lt_one,lt_one,lt_one,lt_one,lt_one,lt_one,decide_eq_true (show 57 < c by omega),decide_eq_true (show 90 < c by omega),decide_eq_true (show 122 < c by omega)]
  simp
noncomputable def cloO : Option Nat → Bool | none=>false | some c=>cloB c
theorem clo_part {w : List Nat} {j : Nat} (hw : ∀ c ∈ w,okc c = true) (hj : j ≤ (w.takeWhile na).length) : cloO w[j]? = closeS (((w.takeWhile na).drop j).take 1):=by
 have e : w = w.takeWhile na ++ w.dropWhile na:=List.takeWhile_append_dropWhile.symm
 by_cases h : j < (w.takeWhile na).length
 ·have e1 : w[j]? = some (w.takeWhile na)[j]:=by
   have : (w.takeWhile na ++ w.dropWhile na)[j]? = some (w.takeWhile na)[j]:=by rw [List.getElem?_append_left h,List.getElem?_eq_getElem h]
   rwa [← e] at this
  rw [e1,List.drop_eq_getElem_cons h]
  exact clo_ok (hw _ (List.mem_of_getElem? e1))
 ·have hj2 : j = (w.takeWhile na).length:=Nat.le_antisymm hj (Nat.le_of_not_lt h)
  rw [List.drop_eq_nil_of_le (Nat.le_of_not_lt h)]
  show _ = closeS []
  rw [close_nil]
  have e1 : w[j]? = (w.dropWhile na)[0]?:=by
   have : (w.takeWhile na ++ w.dropWhile na)[j]? = (w.dropWhile na)[0]?:=by rw [List.getElem?_append_right (Nat.le_of_eq hj2.symm),hj2,Nat.sub_self]
   rwa [← e] at this
  rw [e1]
  rcases dw_end (p:=na) w with q | ⟨c,r,q,hc⟩
  ·rw [q]; rfl
  ·rw [q]
   have : c = 38:=Classical.byContradiction fun h=>by rw [na_iff.mpr h] at hc; cases hc
   subst this
   show cloB 38 = false
   decide +kernel
section
noncomputable def tkO (cur q : V) : O:=.inst 762 [(13,.ref 3),(35,.none),(36,.bool false),(37,.ref 8),(38,.bad),(40,.bool false),(19,cur),(12,q)]
noncomputable def sType : List Nat:=[116,121,112,101]
noncomputable def sName : List Nat:=[110,97,109,101]
noncomputable def sData : List Nat:=[100,97,116,97]
noncomputable def sSelf : List Nat:=[115,101,108,102,67,108,111,115,105,110,103]
noncomputable def tokD : O:=.dict [(sType,.int 3),(sName,.str [105]),(sData,.ref 12),(sSelf,.bool false)]
noncomputable def hE (xr : X2) (sm : O) (tx : O × Nat) (tds : List (List Nat)) (q : List V) (s : List Nat) (st : List V) (τ : List O) : St:=hS xr (tkO (.ref 13) (.ref 10)) sm tx ([.list [],.list (tds.map V.str),.list q,.list [.str [107],.str s],.list [.ref 11],tokD,.list st] ++ τ)
noncomputable def hR (xr : X2) (sm : O) (tx : O × Nat) (tds : List (List Nat)) (q : List V) (s : List Nat) : St:=hS xr (tkO (.ref 13) (.ref 10)) sm tx [.list [],.list (tds.map V.str),.list q,.list [.str [107],.str s],.list [.ref 11],tokD]
noncomputable def tkF (y : Int) (e : List Nat) : V:=.frz (.dict [(sType,.int y),(sData,.str e)])
section
variable {F d : Nat} {sx : List (Nat × O)} {xr : X2} {sm : O} {tx : O × Nat} {t : List Nat} {k j n : Nat} {tds : List (List Nat)} {q st : List V} {s w b : List Nat} {τ : List O} {cl : Option Nat} {X : Loc} {z : Nat}
theorem rv_opt {σ : St} {n : Nat} {o : Option Nat} : rv σ n (optV o) = optV o:=by cases o <;> rfl
theorem rv_stk {σ : St} {n i : Nat} : (stk w i).map (rv σ n) = stk w i:=by
 unfold stk
 rw [List.map_map]
 exact List.map_congr_left fun j J=>rv_opt
theorem rv_strs {σ : St} {n : Nat} (l : List (List Nat)) : (l.map V.str).map (rv σ n) = l.map V.str:=by
 rw [List.map_map]; rfl
theorem gcE {i : Nat} (H : Sv t k sm tx) : gcS (hE xr sm tx tds q s (stk w i) τ) 15 = hE xr sm tx tds (q.map (rv (hE xr sm tx tds q s (stk w i) τ) 15)) s (stk w i) []:=by
 generalize hσ : hE xr sm tx tds q s (stk w i) τ = σ
 have h1 : gcS σ 15 = ((hE xr sm tx tds q s (stk w i) []).map (oMap (rv σ 15))):=by
  subst hσ; cases H; rfl
 rw [h1]
 cases H with | @mk s0 off p e chunk _ _ =>
 show oMap (rv σ 15) xr.a :: oMap (rv σ 15) xr.b :: _ :: _ :: _ :: _ :: _ :: O.list ((List.replicate e errV).map (rv σ 15)) :: _ :: O.list ((tds.map V.str).map (rv σ 15)) :: _ :: _ :: _ :: _ :: [O.list ((stk w i).map (rv σ 15))] = _
 rw [rv_stk,rv_strs,xr.ca,xr.cb,map_rep rfl]; rfl
theorem gc0 {i : Nat} (H : Sv t k sm tx) : gcS (hE xr sm tx tds q s (stk w i) τ) 14 = hR xr sm tx tds (q.map (rv (hE xr sm tx tds q s (stk w i) τ) 14)) s:=by
 generalize hσ : hE xr sm tx tds q s (stk w i) τ = σ
 have h1 : gcS σ 14 = ((hR xr sm tx tds q s).map (oMap (rv σ 14))):=by
  subst hσ; cases H; rfl
 rw [h1]
 cases H with | @mk s0 off p e chunk _ _ =>
 show oMap (rv σ 14) xr.a :: oMap (rv σ 14) xr.b :: _ :: _ :: _ :: _ :: _ :: O.list ((List.replicate e errV).map (rv σ 14)) :: _ :: O.list ((tds.map V.str).map (rv σ 14)) :: _ :: _ :: _ :: [_] = _
 rw [rv_strs,xr.ca,xr.cb,map_rep rfl]; rfl
theorem st21 {es : List PE} {fs : List (Nat × V)} {r : List O} (H : Sv t k sm tx) {i : Nat} (hi : getK i X = some (.ref 2)) : evE (cD sx F d) (.meth (.attr (.loc i) 13) 21 es) X (hS xr (.inst 762 ((13,.ref 3) :: fs)) sm tx r) = (evEs (cD sx F d) es X (hS xr (.inst 762 ((13,.ref 3) :: fs)) sm tx r)).bind fun (vs,σ2)=>runF (Law2.pr sx) F d 133 (.ref 3 :: vs) σ2:=by
 have e0 : evE (cD sx F d) (.attr (.loc i) 13) X (hS xr (.inst 762 ((13,.ref 3) :: fs)) sm tx r) = some (.ref 3,hS xr (.inst 762 ((13,.ref 3) :: fs)) sm tx r):=by rw [evE_attr,getE hi]; rfl
 rw [evE_meth,e0]
 cases H; rfl
theorem st103 {es : List PE} {fs : List (Nat × V)} {r : List O} (H : Sv t k sm tx) {i : Nat} (hi : getK i X = some (.ref 2)) : evE (cD sx F d) (.meth (.attr (.loc i) 13) 103 es) X (hS xr (.inst 762 ((13,.ref 3) :: fs)) sm tx r) = (evEs (cD sx F d) es X (hS xr (.inst 762 ((13,.ref 3) :: fs)) sm tx r)).bind fun (vs,σ2)=>runF (Law2.pr sx) F d 163 (.ref 3 :: vs) σ2:=by
 have e0 : evE (cD sx F d) (.attr (.loc i) 13) X (hS xr (.inst 762 ((13,.ref 3) :: fs)) sm tx r) = some (.ref 3,hS xr (.inst 762 ((13,.ref 3) :: fs)) sm tx r):=by rw [evE_attr,getE hi]; rfl
 rw [evE_meth,e0]
 cases H; rfl
theorem st60 {es : List PE} {fs : List (Nat × V)} {r : List O} (H : Sv t k sm tx) {i : Nat} (hi : getK i X = some (.ref 2)) : evE (cD sx F d) (.meth (.attr (.loc i) 13) 60 es) X (hS xr (.inst 762 ((13,.ref 3) :: fs)) sm tx r) = (evEs (cD sx F d) es X (hS xr (.inst 762 ((13,.ref 3) :: fs)) sm tx r)).bind fun (vs,σ2)=>runF (Law2.pr sx) F d 156 (.ref 3 :: vs) σ2:=by
 have e0 : evE (cD sx F d) (.attr (.loc i) 13) X (hS xr (.inst 762 ((13,.ref 3) :: fs)) sm tx r) = some (.ref 3,hS xr (.inst 762 ((13,.ref 3) :: fs)) sm tx r):=by rw [evE_attr,getE hi]; rfl
 rw [evE_meth,e0]
 cases H; rfl
theorem st14 {es : List PE} {fs : List (Nat × V)} {r : List O} (H : Sv t k sm tx) {i : Nat} (hi : getK i X = some (.ref 2)) : evE (cD sx F d) (.meth (.attr (.loc i) 13) 14 es) X (hS xr (.inst 762 ((13,.ref 3) :: fs)) sm tx r) = (evEs (cD sx F d) es X (hS xr (.inst 762 ((13,.ref 3) :: fs)) sm tx r)).bind fun (vs,σ2)=>runF (Law2.pr sx) F d 141 (.ref 3 :: vs) σ2:=by
 have e0 : evE (cD sx F d) (.attr (.loc i) 13) X (hS xr (.inst 762 ((13,.ref 3) :: fs)) sm tx r) = some (.ref 3,hS xr (.inst 762 ((13,.ref 3) :: fs)) sm tx r):=by rw [evE_attr,getE hi]; rfl
 rw [evE_meth,e0]
 cases H; rfl
theorem char_E (hT : Txt' t) (H : Sv t k sm tx) : ∃ sm' tx',evE (cD sx F (d + 4)) (.meth (.attr (.loc 34) 13) 21 []) ((34,.ref 2) :: X) (hE xr sm tx tds q s st τ) = some (optV t[k]?,hE xr sm' tx' tds q s st τ) ∧ Sv t (nxt t k) sm' tx' ∧ Ung t k sm' tx':=by
 obtain ⟨sm',tx',e,h1,h2⟩:=sv_char (F:=F) (d:=d) (sx:=sx) (xr:=xr) (x0:=tkO (.ref 13) (.ref 10)) (rest:=[.list [],.list (tds.map V.str),.list q,.list [.str [107],.str s],.list [.ref 11],tokD,.list st] ++ τ) hT H
 refine ⟨sm',tx',?_,h1,h2⟩
 exact (st21 H rfl).trans e
end
end
section
section
variable {F d : Nat} {sx : List (Nat × O)} {xr : X2} {sm : O} {tx : O × Nat} {t : List Nat} {k j n : Nat} {tds : List (List Nat)} {q st : List V} {s w b : List Nat} {τ : List O} {cl : Option Nat} {X : Loc} {z : Nat}
theorem ung_E {e : PE} {st' : List V} {τ' : List O} (H : Sv t j sm tx) (U : Ung t k sm tx) (he : evE (cD sx F (d + 1)) e ((34,.ref 2) :: X) (hE xr sm tx tds q s st τ) = some (optV t[k]?,hE xr sm tx tds q s st' τ')) :
 ∃ sm',evE (cD sx F (d + 1)) (.meth (.attr (.loc 34) 13) 103 [e]) ((34,.ref 2) :: X) (hE xr sm tx tds q s st τ) = some (.none,hE xr sm' tx tds q s st' τ') ∧ Sv t k sm' tx:=by
 obtain ⟨sm',e1,h1⟩:=U F d sx xr (tkO (.ref 13) (.ref 10)) ([.list [],.list (tds.map V.str),.list q,.list [.str [107],.str s],.list [.ref 11],tokD,.list st'] ++ τ')
 exact ⟨sm',(st103 H rfl).trans (by rw [show hS xr (.inst 762 ((13,.ref 3) :: _)) sm tx _ = hE xr sm tx tds q s st τ from rfl,evEs1 he]; exact e1),h1⟩
theorem getA {w : List Nat} {k j : Nat} (hw : w = t.drop k) : t[k + j]? = w[j]?:=by rw [hw,List.getElem?_drop]
theorem pop_E {L : Loc} (hL : getK 101 L = some (.ref 14)) : evE (cD sx F d) (.pop (.loc 101)) L (hE xr sm tx tds q s (stk w (n + 1)) τ) = some (optV w[n]?,hE xr sm tx tds q s (stk w n) τ):=by
 rw [evE_pop,getE hL]
 show ((idxOf (stk w (n + 1)).length (-1)).bind fun j=>((stk w (n + 1))[j]?).map fun v=>(v,(hE xr sm tx tds q s (stk w (n + 1)) τ).set 14 (.list ((stk w (n + 1)).eraseIdx j)))) = _
 rw [stk_len,idx_last (show 0 < n + 1 from Nat.succ_pos _),Option.bind_some,Nat.add_sub_cancel,stk_get (Nat.lt_succ_self n),Option.map_some]
 have e : (stk w (n + 1)).eraseIdx n = stk w n:=by
  have h:=stk_succ w n
  rw [h,List.eraseIdx_append_of_length_le (Nat.le_of_eq (stk_len w n)),stk_len,Nat.sub_self]
  exact List.append_nil _
 rw [e]; rfl
theorem join_stk {L : Loc} (hL : getK 101 L = some (.ref 14)) (hn : n ≤ w.length) (hw : w.length ≤ 10000) : evE (cD sx F d) (.join [] (.loc 101)) L (hE xr sm tx tds q s (stk w n) τ) = some (.str (w.take n),hE xr sm tx tds q s (stk w n) τ):=by
 rw [evE_join,getE hL]
 have:=joinV_eq (c:=cD sx F d) (v:=.ref 14) (σ:=hE xr sm tx tds q s (stk w n) τ) (ps:=(w.take n).map fun c=>[c]) (by rw [← stk_take w hn]; rfl) (by rw [flat_one,List.length_take]; unfold LIM; lia)
 rw [flat_one] at this
 exact this
theorem last_stk {L : Loc} (hL : getK 101 L = some (.ref 14)) : evE (cD sx F d) (.sub (.loc 101) (.neg (.const (.int 1)))) L (hE xr sm tx tds q s (stk w (n + 1)) τ) = some (optV w[n]?,hE xr sm tx tds q s (stk w (n + 1)) τ):=by
 rw [evE_sub,getE hL]
 show Option.map _ ((idxOf (stk w (n + 1)).length (-1)).bind fun j=>(stk w (n + 1))[j]?) = _
 rw [stk_len,idx_last (show 0 < n + 1 from Nat.succ_pos _),Option.bind_some,Nat.add_sub_cancel,stk_get (Nat.lt_succ_self n)]; rfl
theorem at_stk {L : Loc} {i j : Nat} (hL : getK 101 L = some (.ref 14)) (hi : getK 106 L = some (.int (j : Nat))) (h : j < n) : evE (cD sx F d) (.sub (.loc 101) (.loc 106)) L (hE xr sm tx tds q s (stk w n) τ) = some (optV w[j]?,hE xr sm tx tds q s (stk w n) τ):=by
 rw [evE_sub,getE hL,Option.bind_some]
 show Option.bind (evE (cD sx F d) (.loc 106) L (hE xr sm tx tds q s (stk w n) τ)) _ = _
 rw [getE hi,Option.bind_some]
 show Option.map _ ((idxOf (stk w n).length (j : Nat)).bind fun j=>(stk w n)[j]?) = _
 rw [stk_len,idx_nat h,Option.bind_some,stk_get h]; rfl
theorem has_E {L : Loc} {σ : St} {e : PE} {u : List Nat} (hF : 100 < F) (he : evE (cD sx F (d + 2)) e L σ = some (.str u,σ)) : evT (cD sx F (d + 2)) (.notE (.meth (.glob (.sref 236)) 104 [e])) L σ = some (!hp u,σ):=by
 refine notT ?_
 rw [tv_meth]
 have : evE (cD sx F (d + 2)) (.meth (.glob (.sref 236)) 104 [e]) L σ = some (.bool (hp u),σ):=by
  rw [evE_meth,evE_glob,Option.bind_some]
  show (evEs (cD sx F (d + 2)) [e] L σ).bind _ = _
  rw [evEs1 he]
  exact x220 hF
 rw [this]; rfl
noncomputable def rdB : List PS:=[.ifs (.notE (.meth (.glob (.sref 236)) 104 [.join [] (.loc 101)])) [.brk] [],.expr (.append (.loc 101) (.meth (.attr (.loc 34) 13) 21 []))]
inductive CI (xr : X2) (t w : List Nat) (k : Nat) (tds : List (List Nat)) (q : List V) (s : List Nat) (L0 : Loc) : Nat → Loc → St → Prop
 | mk {i : Nat} {sm : O} {tx : O × Nat} : i ≤ w.length → (∀ j,1 ≤ j → j ≤ i → hp (w.take j) = true) → Sv t (nxt t (k + i)) sm tx → Ung t (k + i) sm tx → CI xr t w k tds q s L0 (w.length - i) L0 (hE xr sm tx tds q s (stk w (i + 1)) [])
theorem rd_loop (hF : 20000 < F) (hT : Txt' t) (hw : w = t.drop k) (hX : getK 101 X = some (.ref 14)) {sm0 : O} {tx0 : O × Nat} (H0 : Sv t (nxt t k) sm0 tx0) (U0 : Ung t k sm0 tx0) :
 ∃ n sm' tx',Rd w n ∧ Sv t (nxt t (k + n)) sm' tx' ∧ Ung t (k + n) sm' tx' ∧ whileL (fun L s=>evT (cD sx F (d + 4)) (.cmp .isnot (.sub (.loc 101) (.neg (.const (.int 1)))) (.glob .none)) L s) (fun L s=>evSs (cD sx F (d + 4)) rdB z L s) F ((34,.ref 2) :: X) (hE xr sm0 tx0 tds q s (stk w 1) []) = some (.next,(34,.ref 2) :: X,hE xr sm' tx' tds q s (stk w (n + 1)) []):=by
 have hwl : w.length ≤ 10000:=by rw [hw,List.length_drop]; exact Nat.le_trans (Nat.sub_le _ _) hT.2
 have hX' : getK 101 ((34,.ref 2) :: X) = some (.ref 14):=hX
 obtain ⟨fl,L',σ',e,hE⟩:=whileL_rule (test:=fun L s=>evT (cD sx F (d + 4)) (.cmp .isnot (.sub (.loc 101) (.neg (.const (.int 1)))) (.glob .none)) L s) (body:=fun L s=>evSs (cD sx F (d + 4)) rdB z L s)
  (K:=fun fl L σ=>fl = .next ∧ L = (34,.ref 2) :: X ∧ ∃ n sm' tx',Rd w n ∧ Sv t (nxt t (k + n)) sm' tx' ∧ Ung t (k + n) sm' tx' ∧ σ = hE xr sm' tx' tds q s (stk w (n + 1)) []) (CI xr t w k tds q s ((34,.ref 2) :: X)) (fun m L σ h=>by
  cases h with | @mk i sm tx hi ha H U =>
  have t1 : evT (cD sx F (d + 4)) (.cmp .isnot (.sub (.loc 101) (.neg (.const (.int 1)))) (.glob .none)) ((34,.ref 2) :: X) (hE xr sm tx tds q s (stk w (i + 1)) []) = some (w[i]?.isSome,hE xr sm tx tds q s (stk w (i + 1)) []):=cmpT (last_stk hX') evE_glob isN_opt
  refine ⟨_,_,t1,?_⟩
  cases hx : w[i]? with
  | none =>
   have : i = w.length:=Nat.le_antisymm hi (List.getElem?_eq_none_iff.mp hx)
   exact ⟨rfl,rfl,i,sm,tx,⟨hi,ha,.inl this⟩,H,U,rfl⟩
  | some x =>
   have hlt:=(List.getElem?_eq_some_iff.mp hx).1
   have t2:=has_E (F:=F) (d:=d + 2) (sx:=sx) (Nat.lt_trans (by decide) hF) (join_stk (F:=F) (d:=d + 4) (sx:=sx) (xr:=xr) (sm:=sm) (tx:=tx) (tds:=tds) (q:=q) (s:=s) (w:=w) (n:=i + 1) (τ:=[]) hX' hlt hwl)
   show OutS (evSs _ rdB z _ _) _
   unfold rdB
   cases hh : hp (w.take (i + 1)) with
   | false =>
    rw [hh] at t2
    refine ⟨.brk,(34,.ref 2) :: X,_,(ifT t2).trans rfl,rfl,rfl,i,sm,tx,⟨hi,ha,.inr hh⟩,H,U,rfl⟩
   | true =>
    rw [hh] at t2
    have hn : nxt t (k + i) = k + (i + 1):=by unfold nxt; rw [getA hw,hx]; exact Nat.add_assoc _ _ _
    rw [hn] at H
    obtain ⟨sm',tx',e1,h1,h2⟩:=char_E (F:=F) (d:=d) (sx:=sx) (xr:=xr) (X:=X) (tds:=tds) (q:=q) (s:=s) (st:=stk w (i + 1)) (τ:=[]) hT H
    refine ⟨.next,(34,.ref 2) :: X,hE xr sm' tx' tds q s (stk w (i + 2)) [],(ifN t2).trans ((exprS (appE (a:=14) (getE hX') rfl e1 rfl (by rw [stk_len]; exact Nat.lt_of_lt_of_le hlt (Nat.le_trans hwl (by decide))) ?_)).trans rfl),w.length - (i + 1),by lia,.mk hlt (fun j h1 h2=>?_) h1 h2⟩
    ·rw [stk_succ w (i + 1),getA hw]; rfl
    ·by_cases hj : j = i + 1
     ·rw [hj]; exact hh
     ·exact ha j h1 (by lia)) F (w.length - 0) _ _ (by lia) (.mk (Nat.zero_le _) (fun j h1 h2=>absurd (Nat.lt_of_lt_of_le h1 h2) (Nat.lt_irrefl _)) H0 U0)
 obtain ⟨rfl,rfl,n,sm',tx',h1,h2,h3,rfl⟩:=hE
 exact ⟨n,sm',tx',h1,h2,h3,e⟩
theorem lp_E (hR : Rd w n) (hw : w.length ≤ 10000) (hX : getK 101 X = some (.ref 14)) : ∃ τ,evS (cD sx F (d + 2)) (.tryC 105 106 (.glob (.sref 236)) 107 (.join [] (.slice (.loc 101) (.const .none) (.neg (.const (.int 1)))))) z X (hE xr sm tx tds q s (stk w (n + 1)) []) =
 some (.next,(if lng w = [] then putK 105 .none X else putK 106 (.int ((lng w).length : Nat)) (putK 105 (.str (lng w)) X)),hE xr sm tx tds q s (stk w (n + 1)) τ):=by
 have hl : (w.take n).length = n:=by rw [List.length_take]; exact Nat.min_eq_left hR.le
 have es : evE (cD sx F (d + 2)) (.slice (.loc 101) (.const .none) (.neg (.const (.int 1)))) X (hE xr sm tx tds q s (stk w (n + 1)) []) = some (.ref 15,hE xr sm tx tds q s (stk w (n + 1)) [.list (stk w n)]):=by
  rw [evE_slice,getE hX]
  show (some (clampI (stk w (n + 1)).length (-1))).bind (fun j=>allocL (cut (stk w (n + 1)) 0 j) _) = _
  rw [stk_len]
  have e : cut (stk w (n + 1)) 0 (clampI (n + 1) (-1)) = stk w n:=by
   unfold cut clampI
   rw [if_pos (by decide),List.drop_zero,show ((-1 : Int) + ((n + 1 : Nat) : Int)).toNat - 0 = n by lia,stk_succ,List.take_left' (stk_len w n)]
  show allocL _ _ = _
  rw [e]
  exact allocL_eq (σ:=hE xr sm tx tds q s (stk w (n + 1)) []) (by rw [stk_len]; have:=hR.le; unfold LIM; lia)
 have ej : evE (cD sx F (d + 2)) (.join [] (.slice (.loc 101) (.const .none) (.neg (.const (.int 1))))) X (hE xr sm tx tds q s (stk w (n + 1)) []) = some (.str (w.take n),hE xr sm tx tds q s (stk w (n + 1)) [.list (stk w n)]):=by
  rw [evE_join,es]
  have:=joinV_eq (c:=cD sx F (d + 2)) (v:=.ref 15) (σ:=hE xr sm tx tds q s (stk w (n + 1)) [.list (stk w n)]) (ps:=(w.take n).map fun c=>[c]) (by rw [← stk_take w hR.le]; rfl) (by rw [flat_one,hl]; have:=hR.le; unfold LIM; lia)
  rw [flat_one] at this
  exact this
 obtain ⟨τ,e⟩:=x227 (F:=F) (d:=d) (sx:=sx) (σ:=hE xr sm tx tds q s (stk w (n + 1)) [.list (stk w n)]) (u:=w.take n) (by rw [hl]; have:=hR.le; lia)
 refine ⟨[.list (stk w n)] ++ τ,?_⟩
 rw [evS_tryC,evE_glob,Option.bind_some]
 show Option.bind ((evE (cD sx F (d + 2)) (.join [] (.slice (.loc 101) (.const .none) (.neg (.const (.int 1))))) X (hE xr sm tx tds q s (stk w (n + 1)) [])).bind fun (v,σ2)=>runF (Law2.pr sx) F (d + 2) (227 + BIG) [.sref 236,v] σ2) _ = _
 rw [ej,Option.bind_some]
 show Option.bind (runF (Law2.pr sx) F (d + 2) (227 + BIG) [.sref 236,.str (w.take n)] (hE xr sm tx tds q s (stk w (n + 1)) [.list (stk w n)])) _ = _
 rw [e,hl,hR.lp]
 by_cases hq : lng w = []
 ·rw [if_pos hq,if_pos hq]; rfl
 ·rw [if_neg hq,if_neg hq]; rfl
end
end
section
section
variable {F d : Nat} {sx : List (Nat × O)} {xr : X2} {sm : O} {tx : O × Nat} {t : List Nat} {k j n i : Nat} {tds : List (List Nat)} {q st : List V} {s w b out : List Nat} {τ : List O} {cl : Option Nat} {X L : Loc} {z : Nat}
theorem gcLE {σ : St} {x : Bool} {o : List Nat} {Y : Loc} (hY : gcL σ 15 Y = Y) : gcL σ 15 ((34,.ref 2) :: (102,optV cl) :: (108,.bool x) :: (100,.str o) :: (101,.ref 14) :: Y) = (34,.ref 2) :: (102,optV cl) :: (108,.bool x) :: (100,.str o) :: (101,.ref 14) :: Y:=by
 show (34,V.ref 2) :: (102,rv σ 15 (optV cl)) :: (108,.bool x) :: (100,.str o) :: (101,.ref 14) :: gcL σ 15 Y = _
 rw [rv_opt,hY]
noncomputable def qErr (e : List Nat) : PS:=.expr (.append (.attr (.loc 34) 12) (.dictE [sType,sData] [.sub (.glob (.sref 48)) (.const (.str [80,97,114,115,101,69,114,114,111,114])),.const (.str e)]))
theorem err_E {e : List Nat} {r : List PS} {Y : Loc} : evSs (cD sx F d) (qErr e :: r) z ((34,.ref 2) :: Y) (hE xr sm tx tds [] s (stk w i) []) = evSs (cD sx F d) r z ((34,.ref 2) :: Y) (hE xr sm tx tds [.ref 15] s (stk w i) [.dict [(sType,.int 7),(sData,.str e)]]) :=
 exprS (appE (a:=10) (σ1:=hE xr sm tx tds [] s (stk w i) []) (vs:=[]) rfl rfl (v:=.ref 15) (σ2:=hE xr sm tx tds [] s (stk w i) [.dict [(sType,.int 7),(sData,.str e)]]) rfl rfl (Nat.zero_le _) rfl)
theorem gcErr {e : List Nat} {r : List PS} {L L' : Loc} (H : Sv t k sm tx) (hL : ∀ σ,gcL σ 15 L = L') : evSs (cD sx F d) (.gc 1 :: r) 14 L (hE xr sm tx tds [.ref 15] s (stk w i) [.dict [(sType,.int 7),(sData,.str e)]]) = evSs (cD sx F d) r 14 L' (hE xr sm tx tds [tkF 7 e] s (stk w i) []):=by
 rw [gcs,hL,gcE H]; rfl
theorem gcNo {r : List PS} {L L' : Loc} (H : Sv t k sm tx) (hq : ∀ σ n,q.map (rv σ n) = q) (hL : ∀ σ,gcL σ 15 L = L') : evSs (cD sx F d) (.gc 1 :: r) 14 L (hE xr sm tx tds q s (stk w i) τ) = evSs (cD sx F d) r 14 L' (hE xr sm tx tds q s (stk w i) []):=by
 rw [gcs,hL,gcE H,hq]
noncomputable def attE : PE:=.sub (.sub (.attr (.loc 34) 19) (.const (.str sData))) (.neg (.const (.int 1)))
noncomputable def finS : List PS:=[.ifs (.loc 108) [.augS attE (.const (.int 1)) .add (.loc 100)] [.ifs (.cmp .isin (.loc 100) (.glob (.sref 22))) [.assign (.l 109) (.const (.str [83,112,97,99,101,67,104,97,114,97,99,116,101,114,115]))] [.assign (.l 109) (.const (.str [67,104,97,114,97,99,116,101,114,115]))],.expr (.append (.attr (.loc 34) 12) (.dictE [sType,sData] [.sub (.glob (.sref 48)) (.loc 109),.loc 100]))],.gc 0]
noncomputable def outQ (cl : Option Nat) (out : List Nat) : List V:=match cl with | none=>[tkF 1 out] | some _=>[]
noncomputable def outS (cl : Option Nat) (out : List Nat) : List Nat:=match cl with | none=>[] | some _=>out
noncomputable def noSp (out : List Nat) : Prop:=inL (.str out) [.str [9],.str [10],.str [12],.str [32],.str [13]] = some false
theorem fin_E (H : Sv t k sm tx) (h34 : getK 34 L = some (.ref 2)) (h108 : getK 108 L = some (.bool cl.isSome)) (h100 : getK 100 L = some (.str out)) (hl : s.length + out.length ≤ LIM) (ho : noSp out) (hq : ∀ σ n,q.map (rv σ n) = q) (hql : q.length ≤ 10) :
 ∃ L',evSs (cD sx F d) finS 14 L (hE xr sm tx tds q s (stk w i) []) = some (.next,L',hR xr sm tx tds (q ++ outQ cl out) (s ++ outS cl out)):=by
 have t0 : evT (cD sx F d) (.loc 108) L (hE xr sm tx tds q s (stk w i) []) = some (cl.isSome,hE xr sm tx tds q s (stk w i) []):=by
  show Option.bind (evE (cD sx F d) (.loc 108) L (hE xr sm tx tds q s (stk w i) [])) _ = _
  rw [getE h108]; rfl
 cases cl with
 | some c =>
  have eo : evE (cD sx F d) attE L (hE xr sm tx tds q s (stk w i) []) = some (.ref 11,hE xr sm tx tds q s (stk w i) []):=by
   unfold attE
   rw [evE_sub,evE_sub,evE_attr,getE h34]; rfl
  have ea : evSs (cD sx F d) [.augS attE (.const (.int 1)) .add (.loc 100)] 14 L (hE xr sm tx tds q s (stk w i) []) = some (.next,L,hE xr sm tx tds q (s ++ out) (stk w i) []):=by
   rw [evSs_cons,evS_augS,eo,Option.bind_some]
   show Option.bind (Option.bind (evE (cD sx F d) (.loc 100) L (hE xr sm tx tds q s (stk w i) [])) _) _ = _
   rw [getE h100,Option.bind_some]
   show Option.bind (Option.bind (if s.length + out.length ≤ LIM then some (V.str (s ++ out),hE xr sm tx tds q s (stk w i) []) else none) _) _ = _
   rw [if_pos hl]; rfl
  refine ⟨gcL (hE xr sm tx tds q (s ++ out) (stk w i) []) (14 + 0) L,(ifT t0).trans ?_⟩
  rw [ea]
  show evSs (cD sx F d) [.gc 0] 14 L _ = _
  rw [gcs,show (14 : Nat) + 0 = 14 from rfl,gc0 H,hq,show q ++ outQ (some c) out = q from List.append_nil q]; rfl
 | none =>
  have t1 : evT (cD sx F d) (.cmp .isin (.loc 100) (.glob (.sref 22))) L (hE xr sm tx tds q s (stk w i) []) = some (false,hE xr sm tx tds q s (stk w i) []):=cmpT (getE h100) evE_glob ho
  have eb : evSs (cD sx F d) [.ifs (.cmp .isin (.loc 100) (.glob (.sref 22))) [.assign (.l 109) (.const (.str [83,112,97,99,101,67,104,97,114,97,99,116,101,114,115]))] [.assign (.l 109) (.const (.str [67,104,97,114,97,99,116,101,114,115]))],.expr (.append (.attr (.loc 34) 12) (.dictE [sType,sData] [.sub (.glob (.sref 48)) (.loc 109),.loc 100]))] 14 L (hE xr sm tx tds q s (stk w i) []) =
   some (.next,putK 109 (.str [67,104,97,114,97,99,116,101,114,115]) L,hE xr sm tx tds (q ++ [.ref 15]) s (stk w i) [.dict [(sType,.int 1),(sData,.str out)]]):=by
   refine (ifF t1).trans ?_
   show evSs (cD sx F d) [.expr _] 14 (putK 109 (.str [67,104,97,114,97,99,116,101,114,115]) L) _ = _
   generalize hL' : putK 109 (.str [67,104,97,114,97,99,116,101,114,115]) L = L'
   have a34 : getK 34 L' = some (.ref 2):=hL' ▸ gk_ne (by decide) h34
   have a100 : getK 100 L' = some (.str out):=hL' ▸ gk_ne (by decide) h100
   have a109 : getK 109 L' = some (.str [67,104,97,114,97,99,116,101,114,115]):=hL' ▸ gk_eq
   have e1 : evE (cD sx F d) (.attr (.loc 34) 12) L' (hE xr sm tx tds q s (stk w i) []) = some (.ref 10,hE xr sm tx tds q s (stk w i) []):=by rw [evE_attr,getE a34]; rfl
   have e2 : evE (cD sx F d) (.sub (.glob (.sref 48)) (.loc 109)) L' (hE xr sm tx tds q s (stk w i) []) = some (.int 1,hE xr sm tx tds q s (stk w i) []):=by
    rw [evE_sub,evE_glob,Option.bind_some]
    show Option.bind (evE (cD sx F d) (.loc 109) L' _) _ = _
    rw [getE a109]; rfl
   have e3 : evE (cD sx F d) (.dictE [sType,sData] [.sub (.glob (.sref 48)) (.loc 109),.loc 100]) L' (hE xr sm tx tds q s (stk w i) []) = some (.ref 15,hE xr sm tx tds q s (stk w i) [.dict [(sType,.int 1),(sData,.str out)]]):=by
    rw [evE_dictE,evEs2 e2 (getE a100)]; rfl
   rw [exprS (appE (a:=10) e1 rfl e3 rfl (Nat.le_trans hql (by decide)) rfl)]; rfl
  refine ⟨gcL (hE xr sm tx tds (q ++ [.ref 15]) s (stk w i) [.dict [(sType,.int 1),(sData,.str out)]]) (14 + 0) (putK 109 (.str [67,104,97,114,97,99,116,101,114,115]) L),(ifF t0).trans ?_⟩
  rw [eb]
  show evSs (cD sx F d) [.gc 0] 14 _ _ = _
  rw [gcs,show (14 : Nat) + 0 = 14 from rfl,gc0 H,List.map_append,hq,show s ++ outS none out = s from List.append_nil s]; rfl
end
end
section
theorem noSp_cons {c : Nat} {r : List Nat} (h : c ≠ 9 ∧ c ≠ 10 ∧ c ≠ 12 ∧ c ≠ 32 ∧ c ≠ 13) : noSp (c :: r):=by
 have e : ∀ a l,c ≠ a → inL (.str (c :: r)) l = some false → inL (.str (c :: r)) (.str [a] :: l) = some false:=fun a l q z=>by
  show (some (([a] : List Nat) == c :: r)).bind (fun b=>(inL _ l).map fun d=>b || d) = _
  rw [z,beq_false_of_ne fun e=>q (List.cons.inj e).1.symm]; rfl
 exact e _ _ h.1 (e _ _ h.2.1 (e _ _ h.2.2.1 (e _ _ h.2.2.2.1 (e _ _ h.2.2.2.2 rfl))))
theorem tab_val : (nms.all fun x=>match ent x with | some (c :: _)=>!(c == 9 || c == 10 || c == 12 || c == 32 || c == 13) | _=>false) = true:=by decide +kernel
theorem t_val {x v : List Nat} (hx : x ∈ nms) (e : ent x = some v) (r : List Nat) : noSp (v ++ r):=by
 have:=List.all_eq_true.mp tab_val x hx
 rw [e] at this
 cases v with
 | nil=>cases this
 | cons c v =>
  simp only [Bool.not_eq_true',Bool.or_eq_false_iff,beq_eq_false_iff_ne] at this
  exact noSp_cons ⟨this.1.1.1.1,this.1.1.1.2,this.1.1.2,this.1.2,this.2⟩
theorem inL_one (c : Nat) : ∀ l : List Nat,inL (.str [c]) (l.map fun x=>V.str [x]) = some (l.contains c)
 | []=>rfl
 | x :: r=>by
  show (some (([x] : List Nat) == [c])).bind _ = _
  rw [Option.bind_some,inL_one c r,List.contains_cons,Option.map_some,one_beq,Bool.beq_comm]
noncomputable def bB : List PS:=match (Law2.f283[2]? : Option PS) with | some (PS.ifs _ _ [.ifs _ _ b])=>b | _=>[]
noncomputable def cB : List PS:=match (bB[3]? : Option PS) with | some (PS.ifs _ b _)=>b | _=>[]
noncomputable def dB : List PS:=match (bB[3]? : Option PS) with | some (PS.ifs _ _ b)=>b | _=>[]
noncomputable def cT : PE:=.andE (.cmp .ne (.sub (.loc 105) (.neg (.const (.int 1)))) (.const (.str [59]))) (.andE (.loc 108) (.orE (.cmp .isin (.sub (.loc 101) (.loc 106)) (.glob (.sref 27))) (.orE (.cmp .isin (.sub (.loc 101) (.loc 106)) (.glob (.sref 32))) (.cmp .eq (.sub (.loc 101) (.loc 106)) (.const (.str [61]))))))
noncomputable def LA (cl : Option Nat) (o : List Nat) (Y : Loc) : Loc:=(34,.ref 2) :: (102,optV cl) :: (108,.bool cl.isSome) :: (100,.str o) :: (101,.ref 14) :: Y
section
variable {F d : Nat} {sx : List (Nat × O)} {xr : X2} {sm : O} {tx : O × Nat} {t : List Nat} {k j n i : Nat} {tds : List (List Nat)} {q st : List V} {s w b out : List Nat} {τ : List O} {cl : Option Nat} {X L Y : Loc} {z : Nat}
theorem first_T : evT (cD sx F d) (.orE (.cmp .isin (.sub (.loc 101) (.const (.int 0))) (.glob (.sref 22))) (.orE (.cmp .isin (.sub (.loc 101) (.const (.int 0))) (.tupE [.glob .none,.const (.str [60]),.const (.str [38])])) (.andE (.cmp .isnot (.loc 102) (.const .none)) (.cmp .eq (.loc 102) (.sub (.loc 101) (.const (.int 0))))))) (LA cl [38] []) (hE xr sm tx tds q s (stk w 1) []) = some (fstB cl w[0]?,hE xr sm tx tds q s (stk w 1) []):=by
 have e0 : evE (cD sx F d) (.sub (.loc 101) (.const (.int 0))) (LA cl [38] []) (hE xr sm tx tds q s (stk w 1) []) = some (optV w[0]?,hE xr sm tx tds q s (stk w 1) []):=rfl
 have e1 : evE (cD sx F d) (.tupE [.glob .none,.const (.str [60]),.const (.str [38])]) (LA cl [38] []) (hE xr sm tx tds q s (stk w 1) []) = some (.frz (.tuple [.none,.str [60],.str [38]]),hE xr sm tx tds q s (stk w 1) []):=rfl
 generalize w[0]? = c0 at e0
 cases c0 with
 | none=>exact orT0 (cmpT e0 evE_glob rfl) (orT1 (cmpT e0 e1 rfl))
 | some c =>
  refine orT (cmpT e0 evE_glob (x:=spB c) rfl) (orT (cmpT e0 e1 (x:=ltB c) rfl) ?_)
  cases cl with
  | none=>exact andT0 (cmpT rfl evE_const rfl)
  | some x=>exact andT1 (cmpT rfl evE_const rfl) (cmpT (a:=.str [x]) rfl e0 rfl)
theorem clo_T (h : j < n) (hL : getK 101 L = some (.ref 14)) (hi : getK 106 L = some (.int (j : Nat))) : evT (cD sx F d) (.orE (.cmp .isin (.sub (.loc 101) (.loc 106)) (.glob (.sref 27))) (.orE (.cmp .isin (.sub (.loc 101) (.loc 106)) (.glob (.sref 32))) (.cmp .eq (.sub (.loc 101) (.loc 106)) (.const (.str [61]))))) L (hE xr sm tx tds q s (stk w n) τ) = some (cloO w[j]?,hE xr sm tx tds q s (stk w n) τ):=by
 have e0:=at_stk (F:=F) (d:=d) (sx:=sx) (xr:=xr) (i:=0) (sm:=sm) (tx:=tx) (tds:=tds) (q:=q) (s:=s) (w:=w) (τ:=τ) hL hi h
 generalize w[j]? = c0 at e0
 cases c0 with
 | none=>exact orT0 (cmpT e0 evE_glob rfl) (orT0 (cmpT e0 evE_glob rfl) (cmpT e0 evE_const rfl))
 | some c =>
  refine orT (cmpT e0 evE_glob (x:=lettersL.contains c) (inL_one c lettersL)) (orT (cmpT e0 evE_glob (x:=digitsL.contains c) (inL_one c digitsL)) (cmpT e0 evE_const ?_))
  show some (([c] : List Nat) == [61]) = _
  rw [one_beq]
theorem augAdd {c : Cx} {i : Nat} {x y : List Nat} {σ σ1 : St} {e : PE} {r : List PS} (hi : getK i L = some (.str x)) (he : evE c e L σ = some (.str y,σ1)) (hl : x.length + y.length ≤ LIM) : evSs c (.augL i .add e :: r) z L σ = evSs c r z (putK i (.str (x ++ y)) L) σ1:=by
 rw [evSs_cons,evS_augL,hi,Option.bind_some,he,Option.bind_some]
 show Option.bind (Option.map _ (if x.length + y.length ≤ LIM then some (V.str (x ++ y),σ1) else none)) _ = _
 rw [if_pos hl]; rfl
theorem tail_E (hL : getK 101 L = some (.ref 14)) (hi : getK 106 L = some (.int (j : Nat))) (hj : j ≤ n) (hn : n ≤ w.length) (hw : w.length ≤ 10000) : evE (cD sx F d) (.join [] (.slice (.loc 101) (.loc 106) (.const .none))) L (hE xr sm tx tds q s (stk w n) []) = some (.str ((w.take n).drop j),hE xr sm tx tds q s (stk w n) [.list ((stk w n).drop j)]):=by
 have es : evE (cD sx F d) (.slice (.loc 101) (.loc 106) (.const .none)) L (hE xr sm tx tds q s (stk w n) []) = some (.ref 15,hE xr sm tx tds q s (stk w n) [.list ((stk w n).drop j)]):=by
  rw [evE_slice,getE hL,Option.bind_some]
  show Option.bind (evE (cD sx F d) (.loc 106) L (hE xr sm tx tds q s (stk w n) [])) _ = _
  rw [getE hi,Option.bind_some]
  show allocL (cut (stk w n) (clampI (stk w n).length (j : Nat)) (stk w n).length) _ = _
  rw [cut_end (by rw [stk_len]; exact hj)]
  exact allocL_eq (σ:=hE xr sm tx tds q s (stk w n) []) (by rw [List.length_drop,stk_len]; exact Nat.le_trans (Nat.sub_le ..) (Nat.le_trans hn (Nat.le_trans hw (by decide))))
 rw [evE_join,es]
 have:=joinV_eq (c:=cD sx F d) (v:=.ref 15) (σ:=hE xr sm tx tds q s (stk w n) [.list ((stk w n).drop j)]) (ps:=((w.take n).drop j).map fun c=>[c]) (by rw [← stk_drop hn]; rfl) (by rw [flat_one,List.length_drop,List.length_take]; exact Nat.le_trans (Nat.sub_le ..) (Nat.le_trans (Nat.min_le_right ..) (Nat.le_trans hw (by decide))))
 rw [flat_one] at this
 exact this
theorem blk_D (hw : w.length ≤ 10000) (hwt : w = t.drop k) (hn : n ≤ w.length) (H : Sv t j sm tx) (U : Ung t (k + n) sm tx) : ∃ sm',evSs (cD sx F (d + 1)) dB 14 (LA cl [38] [(105,.none)]) (hE xr sm tx tds [] s (stk w (n + 1)) []) = some (.next,LA cl (38 :: w.take n) [(105,.none)],hE xr sm' tx tds [tkF 7 eEx] s (stk w n) []) ∧ Sv t (k + n) sm' tx:=by
 obtain ⟨sm',e1,h1⟩:=ung_E (F:=F) (d:=d) (sx:=sx) (xr:=xr) (X:=[(102,optV cl),(108,.bool cl.isSome),(100,.str [38]),(101,.ref 14),(105,.none)]) (tds:=tds) (q:=[tkF 7 eEx]) (s:=s) (st:=stk w (n + 1)) (st':=stk w n) (τ:=[]) (τ':=[]) (e:=.pop (.loc 101)) H U (by rw [getA hwt]; exact pop_E rfl)
 refine ⟨sm',?_,h1⟩
 refine (err_E (e:=eEx)).trans ((gcErr (L':=LA cl [38] [(105,.none)]) H fun σ=>gcLE rfl).trans ?_)
 refine (exprS e1).trans ?_
 refine (asgL (v:=.str (38 :: w.take n)) (σ1:=hE xr sm' tx tds [tkF 7 eEx] s (stk w n) []) (addE (y:=w.take n) evE_const (join_stk rfl hn hw) ?_)).trans rfl
 rw [List.length_take]; unfold LIM; show 1 + _ ≤ _; lia
theorem blk_C (hw : w.length ≤ 10000) (hwt : w = t.drop k) (hn : n ≤ w.length) (H : Sv t j sm tx) (U : Ung t (k + n) sm tx) (hb : b ∈ nms) (hbn : b.length ≤ n) :
 ∃ sm' Y',evSs (cD sx F (d + 1)) cB 14 (LA cl [38] [(105,.str b),(106,.int (b.length : Nat))]) (hE xr sm tx tds [] s (stk w (n + 1)) []) = some (.next,LA cl (bif !semi b && (cl.isSome && cloO w[b.length]?) then 38 :: w.take n else (ent b).getD [] ++ (w.take n).drop b.length) Y',hE xr sm' tx tds (bif semi b then [] else [tkF 7 eNo]) s (stk w n) []) ∧ Sv t (k + n) sm' tx:=by
 have hne : b ≠ []:=fun e=>tab_ne (e ▸ hb)
 obtain ⟨v,ev,hvl⟩:=t_len hb
 have h1 : evSs (cD sx F (d + 1)) cB 14 (LA cl [38] [(105,.str b),(106,.int (b.length : Nat))]) (hE xr sm tx tds [] s (stk w (n + 1)) []) = evSs (cD sx F (d + 1)) (cB.drop 2) 14 (LA cl [38] [(105,.str b),(106,.int (b.length : Nat))]) (hE xr sm tx tds (bif semi b then [] else [tkF 7 eNo]) s (stk w (n + 1)) []):=by
  have t1:=(semi_E (i:=105) (b:=b) (L:=LA cl [38] [(105,.str b),(106,.int (b.length : Nat))]) (σ:=hE xr sm tx tds [] s (stk w (n + 1)) []) rfl hne (c:=cD sx F (d + 1))).1
  cases hs : semi b with
  | true =>
   rw [hs] at t1
   exact (ifN t1).trans (gcNo H (fun σ n=>rfl) fun σ=>gcLE rfl)
  | false =>
   rw [hs] at t1
   refine (ifT t1).trans ?_
   show Option.bind (evSs _ [qErr eNo] 14 _ _) _ = _
   rw [show evSs (cD sx F (d + 1)) [qErr eNo] 14 (LA cl [38] [(105,.str b),(106,.int (b.length : Nat))]) (hE xr sm tx tds [] s (stk w (n + 1)) []) = _ from err_E (e:=eNo)]
   exact gcErr H fun σ=>gcLE rfl
 rw [h1]
 have hq : ∀ σ n,(bif semi b then [] else [tkF 7 eNo] : List V).map (rv σ n) = (bif semi b then [] else [tkF 7 eNo] : List V):=fun σ n=>by cases semi b <;> rfl
 generalize (bif semi b then [] else [tkF 7 eNo] : List V) = q at hq ⊢
 have t2 : evT (cD sx F (d + 1)) cT (LA cl [38] [(105,.str b),(106,.int (b.length : Nat))]) (hE xr sm tx tds q s (stk w (n + 1)) []) = some (!semi b && (cl.isSome && cloO w[b.length]?),hE xr sm tx tds q s (stk w (n + 1)) []) :=
  andTL (semi_E (i:=105) (b:=b) rfl hne).1 fun J=>andTL rfl fun J=>clo_T (Nat.lt_succ_of_le hbn) rfl rfl
 cases hc : !semi b && (cl.isSome && cloO w[b.length]?) with
 | true =>
  rw [hc] at t2
  obtain ⟨sm',e1,h1⟩:=ung_E (F:=F) (d:=d) (sx:=sx) (xr:=xr) (X:=[(102,optV cl),(108,.bool cl.isSome),(100,.str [38]),(101,.ref 14),(105,.str b),(106,.int (b.length : Nat))]) (tds:=tds) (q:=q) (s:=s) (st:=stk w (n + 1)) (st':=stk w n) (τ:=[]) (τ':=[]) (e:=.pop (.loc 101)) H U (by rw [getA hwt]; exact pop_E rfl)
  refine ⟨sm',[(105,.str b),(106,.int (b.length : Nat))],(ifT t2).trans ?_,h1⟩
  have e2 : evSs (cD sx F (d + 1)) [.expr (.meth (.attr (.loc 34) 13) 103 [.pop (.loc 101)]),.assign (.l 100) (.bin .add (.const (.str [38])) (.join [] (.loc 101)))] 14 (LA cl [38] [(105,.str b),(106,.int (b.length : Nat))]) (hE xr sm tx tds q s (stk w (n + 1)) []) = some (.next,LA cl (38 :: w.take n) [(105,.str b),(106,.int (b.length : Nat))],hE xr sm' tx tds q s (stk w n) []):=by
   refine (exprS e1).trans ((asgL (v:=.str (38 :: w.take n)) (σ1:=hE xr sm' tx tds q s (stk w n) []) (addE (y:=w.take n) evE_const (join_stk rfl hn hw) ?_)).trans rfl)
   rw [List.length_take]; exact Nat.le_trans (Nat.add_le_add_left (Nat.le_trans (Nat.min_le_right ..) hw) 1) (by decide)
  exact congrArg (fun x=>Option.bind x fun (f,L1,σ1)=>match f with | .next=>evSs (cD sx F (d + 1)) [] 14 L1 σ1 | f=>some (f,L1,σ1)) e2
 | false =>
  rw [hc] at t2
  obtain ⟨sm',e1,h1⟩:=ung_E (F:=F) (d:=d) (sx:=sx) (xr:=xr) (X:=[(102,optV cl),(108,.bool cl.isSome),(100,.str v),(101,.ref 14),(105,.str b),(106,.int (b.length : Nat))]) (tds:=tds) (q:=q) (s:=s) (st:=stk w (n + 1)) (st':=stk w n) (τ:=[]) (τ':=[]) (e:=.pop (.loc 101)) H U (by rw [getA hwt]; exact pop_E rfl)
  have hfin : ((w.take n).drop b.length).length ≤ 10000:=by rw [List.length_drop,List.length_take]; exact Nat.le_trans (Nat.sub_le ..) (Nat.le_trans (Nat.min_le_right ..) hw)
  have hbl : b.length ≤ 10000:=Nat.le_trans hbn (Nat.le_trans hn hw)
  refine ⟨sm',[(105,.str b),(106,.int (b.length : Nat))],(ifF t2).trans ?_,h1⟩
  rw [ev]
  have e2 : evSs (cD sx F (d + 1)) [.assign (.l 100) (.sub (.glob (.sref 43)) (.loc 105)),.expr (.meth (.attr (.loc 34) 13) 103 [.pop (.loc 101)]),.augL 100 .add (.join [] (.slice (.loc 101) (.loc 106) (.const .none))),.gc 1] 14 (LA cl [38] [(105,.str b),(106,.int (b.length : Nat))]) (hE xr sm tx tds q s (stk w (n + 1)) []) = some (.next,LA cl (v ++ (w.take n).drop b.length) [(105,.str b),(106,.int (b.length : Nat))],hE xr sm' tx tds q s (stk w n) []):=by
   refine (asgL (sub43 (i:=105) (b:=b) rfl ev)).trans ((exprS e1).trans ?_)
   refine (augAdd (x:=v) rfl (tail_E rfl rfl hbn hn hw) (by unfold LIM; lia)).trans ?_
   exact (gcNo (L':=LA cl (v ++ (w.take n).drop b.length) [(105,.str b),(106,.int (b.length : Nat))]) h1 hq fun σ=>gcLE rfl).trans rfl
  exact congrArg (fun x=>Option.bind x fun (f,L1,σ1)=>match f with | .next=>evSs (cD sx F (d + 1)) [] 14 L1 σ1 | f=>some (f,L1,σ1)) e2
end
end
section
theorem dw_all {p : Nat → Bool} : ∀ {a : List Nat} (b : List Nat),(∀ c ∈ a,p c = true) → (a ++ b).dropWhile p = b.dropWhile p
 | [],b,_=>rfl
 | x :: a,b,h=>by
  show (x :: (a ++ b)).dropWhile p = _
  rw [List.dropWhile_cons,h x (.head _)]
  exact dw_all b fun c hc=>h c (.tail _ hc)
theorem Rd.rest {w : List Nat} {n : Nat} (h : Rd w n) : (w.drop n).dropWhile na = w.dropWhile na:=by
 have:=dw_all (w.drop n) h.amp
 rw [List.take_append_drop] at this
 exact this.symm
noncomputable abbrev part (t : List Nat) (k : Nat) : List Nat:=(t.drop k).takeWhile na
theorem tl_ends {cl : Option Nat} {p : List Nat} (h : endS cl (p.take 1) = true) : tl cl p = [] ∧ seg cl p = 38 :: p:=by
 unfold tl seg stays best
 rw [h]; exact ⟨rfl,rfl⟩
theorem out_len {cl : Option Nat} {p out r : List Nat} (h : seg cl p = out ++ r) : out.length ≤ p.length + 1:=by
 have:=seg_len cl p
 rw [h,List.length_append] at this
 lia
section
variable {F d : Nat} {sx : List (Nat × O)} {xr : X2} {sm : O} {tx : O × Nat} {t : List Nat} {k j n i : Nat} {tds : List (List Nat)} {s w b out : List Nat} {cl : Option Nat} {X L Y : Loc} {z : Nat}
structure Ce (t : List Nat) (k : Nat) (cl : Option Nat) (k' : Nat) (out : List Nat) : Prop where
 seg : seg cl (part t k) = out ++ part t k'
 rest : (t.drop k').dropWhile na = (t.drop k).dropWhile na
 sp : noSp out
theorem blk_B (hF : 20000 < F) (hT : Txt' t) {sm0 : O} {tx0 : O × Nat} (H0 : Sv t (nxt t k) sm0 tx0) (U0 : Ung t k sm0 tx0) (he : endS cl ((part t k).take 1) = false) :
 ∃ sm' tx' k' out n Y,evSs (cD sx F (d + 4)) bB 14 (LA cl [38] []) (hE xr sm0 tx0 tds [] s (stk (t.drop k) 1) []) = some (.next,LA cl out Y,hE xr sm' tx' tds ((tl cl (part t k)).map (tkF 7)) s (stk (t.drop k) n) []) ∧ Sv t k' sm' tx' ∧ Ce t k cl k' out:=by
 generalize hw : t.drop k = w
 have hwl : w.length ≤ 10000:=by rw [← hw,List.length_drop]; exact Nat.le_trans (Nat.sub_le _ _) hT.2
 have hok : ∀ c ∈ w,okc c = true:=fun c hc=>hT.1 c (List.mem_of_mem_drop (by rw [hw]; exact hc))
 obtain ⟨n,sm1,tx1,hR,h1,h2,e1⟩:=rd_loop (F:=F) (d:=d) (sx:=sx) (xr:=xr) (z:=14) (X:=[(102,optV cl),(108,.bool cl.isSome),(100,.str [38]),(101,.ref 14)]) (tds:=tds) (q:=[]) (s:=s) (w:=w) hF hT hw.symm rfl H0 U0
 obtain ⟨τ,e2⟩:=lp_E (F:=F) (d:=d + 2) (sx:=sx) (xr:=xr) (z:=14) (X:=LA cl [38] []) (sm:=sm1) (tx:=tx1) (tds:=tds) (q:=[]) (s:=s) hR hwl rfl
 have hpt : part t k = w.take n ++ (w.drop n).takeWhile na:=by unfold part; rw [hw]; exact hR.part
 have hdn : t.drop (k + n) = w.drop n:=by rw [← List.drop_drop,hw]
 have hpt2 : part t (k + n) = (w.drop n).takeWhile na:=by unfold part; rw [hdn]
 have hrest : (t.drop (k + n)).dropWhile na = (t.drop k).dropWhile na:=by rw [hdn,hw]; exact hR.rest
 have hbest : best cl (part t k) = lng w:=by
  unfold best; rw [he,lng_part w]; unfold part; rw [hw]; rfl
 have hc : ∀ {L2 : Loc},(∀ σ,gcL σ 15 (if lng w = [] then putK 105 .none (LA cl [38] []) else putK 106 (.int ((lng w).length : Nat)) (putK 105 (.str (lng w)) (LA cl [38] []))) = L2) → evSs (cD sx F (d + 4)) bB 14 (LA cl [38] []) (hE xr sm0 tx0 tds [] s (stk w 1) []) = evSs (cD sx F (d + 4)) (bB.drop 3) 14 L2 (hE xr sm1 tx1 tds [] s (stk w (n + 1)) []):=fun hL=>by
  refine (whileS (b:=rdB) e1).trans ?_
  show evSs (cD sx F (d + 4)) (.tryC 105 106 (.glob (.sref 236)) 107 (.join [] (.slice (.loc 101) (.const .none) (.neg (.const (.int 1))))) :: .gc 1 :: bB.drop 3) 14 (LA cl [38] []) (hE xr sm1 tx1 tds [] s (stk w (n + 1)) []) = _
  rw [evSs_cons,e2]
  exact gcNo h1 (fun J J=>rfl) hL
 by_cases hb : lng w = []
 ·obtain ⟨sm2,e3,h3⟩:=blk_D (F:=F) (d:=d + 3) (sx:=sx) (xr:=xr) (cl:=cl) (tds:=tds) (s:=s) hwl hw.symm hR.le h1 h2
  have t1 : evT (cD sx F (d + 4)) (.cmp .isnot (.loc 105) (.const .none)) (LA cl [38] [(105,.none)]) (hE xr sm1 tx1 tds [] s (stk w (n + 1)) []) = some (false,hE xr sm1 tx1 tds [] s (stk w (n + 1)) []):=cmpT (a:=.none) rfl evE_const rfl
  have htl : tl cl (part t k) = [eEx]:=by unfold tl; rw [hbest,hb,he]; rfl
  have hsg : seg cl (part t k) = 38 :: part t k:=by unfold seg stays; rw [hbest,hb]; rfl
  refine ⟨sm2,tx1,k + n,38 :: w.take n,n,[(105,.none)],?_,h3,⟨?_,hrest,noSp_cons (by decide)⟩⟩
  ·rw [hc (L2:=LA cl [38] [(105,.none)]) (fun σ=>by rw [if_pos hb]; exact gcLE rfl),htl]
   refine (ifF (b:=cB) (o:=dB) t1).trans ?_
   rw [e3]; rfl
  ·rw [hsg,hpt,hpt2]; rfl
 ·have hm : lng w ∈ nms:=(lng_is w).nm.resolve_left hb
  have hbn:=hR.nm hm (lng_is w).pre
  obtain ⟨sm2,Y,e3,h3⟩:=blk_C (F:=F) (d:=d + 3) (sx:=sx) (xr:=xr) (cl:=cl) (tds:=tds) (s:=s) hwl hw.symm hR.le h1 h2 hm hbn
  have t1 : evT (cD sx F (d + 4)) (.cmp .isnot (.loc 105) (.const .none)) (LA cl [38] [(105,.str (lng w)),(106,.int ((lng w).length : Nat))]) (hE xr sm1 tx1 tds [] s (stk w (n + 1)) []) = some (true,hE xr sm1 tx1 tds [] s (stk w (n + 1)) []):=cmpT (a:=.str (lng w)) rfl evE_const rfl
  have hne : (lng w == []) = false:=beq_false_of_ne hb
  have htl : tl cl (part t k) = bif semi (lng w) then [] else [eNo]:=by
   unfold tl; rw [hbest,hne,he]
   cases semi (lng w) <;> rfl
  obtain ⟨v,ev,hv⟩:=t_len hm
  have hclo : cloO w[(lng w).length]? = closeS (((part t k).drop (lng w).length).take 1):=by
   unfold part; rw [hw]
   refine clo_part hok ?_
   rw [hR.part,List.length_append,List.length_take,Nat.min_eq_left hR.le]
   exact Nat.le_trans hbn (Nat.le_add_right _ _)
  have hsg : seg cl (part t k) = (bif !semi (lng w) && (cl.isSome && cloO w[(lng w).length]?) then 38 :: w.take n else (ent (lng w)).getD [] ++ (w.take n).drop (lng w).length) ++ part t (k + n):=by
   unfold seg stays
   rw [hbest,hne,hclo,Bool.false_or,show (cl.isSome && (!semi (lng w) && closeS (((part t k).drop (lng w).length).take 1))) = (!semi (lng w) && (cl.isSome && closeS (((part t k).drop (lng w).length).take 1))) by cases cl.isSome <;> cases semi (lng w) <;> rfl,hpt2]
   cases !semi (lng w) && (cl.isSome && closeS (((part t k).drop (lng w).length).take 1)) with
   | true=>rw [cond_true,cond_true,hpt]; rfl
   | false =>
    rw [cond_false,cond_false,hpt,List.drop_append_of_le_length (by rw [List.length_take,Nat.min_eq_left hR.le]; exact hbn),List.append_assoc]
  refine ⟨sm2,tx1,k + n,_,n,Y,?_,h3,⟨hsg,hrest,?_⟩⟩
  ·rw [hc (L2:=LA cl [38] [(105,.str (lng w)),(106,.int ((lng w).length : Nat))]) (fun σ=>by rw [if_neg hb]; exact gcLE rfl),htl]
   refine (ifT (b:=cB) (o:=dB) t1).trans ?_
   rw [e3]
   cases semi (lng w) <;> rfl
  ·cases !semi (lng w) && (cl.isSome && cloO w[(lng w).length]?) with
   | true=>exact noSp_cons (by decide)
   | false=>rw [ev]; exact t_val hm ev _
theorem x283 (hF : 20000 < F) (hT : Txt' t) (hs : s.length ≤ 30000) (H : Sv t k sm tx) : ∃ sm' tx' k' out,runF (Law2.pr sx) F (d + 5) 283 [.ref 2,optV cl,.bool cl.isSome] (hR xr sm tx tds [] s) = some (.none,hR xr sm' tx' tds ((tl cl (part t k)).map (tkF 7) ++ outQ cl out) (s ++ outS cl out)) ∧ Sv t k' sm' tx' ∧ Ce t k cl k' out:=by
 obtain ⟨sm1,tx1,e1,h1,h2⟩:=sv_char (F:=F) (d:=d) (sx:=sx) (xr:=xr) (x0:=tkO (.ref 13) (.ref 10)) (rest:=[.list [],.list (tds.map V.str),.list [],.list [.str [107],.str s],.list [.ref 11],tokD]) hT H
 have w0 : (t.drop k)[0]? = t[k]?:=by rw [List.getElem?_drop]; rfl
 have e2 : evE (cD sx F (d + 4)) (.listE [.meth (.attr (.loc 34) 13) 21 []]) [(34,.ref 2),(102,optV cl),(108,.bool cl.isSome),(100,.str [38])] (hR xr sm tx tds [] s) = some (.ref 14,hE xr sm1 tx1 tds [] s (stk (t.drop k) 1) []):=by
  have e3 : evE (cD sx F (d + 4)) (.meth (.attr (.loc 34) 13) 21 []) [(34,.ref 2),(102,optV cl),(108,.bool cl.isSome),(100,.str [38])] (hR xr sm tx tds [] s) = some (optV t[k]?,hR xr sm1 tx1 tds [] s):=(st21 H rfl).trans e1
  rw [evE_listE,evEs1 e3]
  have : stk (t.drop k) 1 = [optV t[k]?]:=by rw [← w0]; rfl
  rw [this]; rfl
 have hc : evSs (cD sx F (d + 4)) Law2.f283 14 [(34,.ref 2),(102,optV cl),(108,.bool cl.isSome)] (hR xr sm tx tds [] s) = evSs (cD sx F (d + 4)) (Law2.f283.drop 2) 14 (LA cl [38] []) (hE xr sm1 tx1 tds [] s (stk (t.drop k) 1) []) :=
  (asgL (v:=.str [38]) (σ1:=hR xr sm tx tds [] s) rfl).trans (asgL e2)
 have t1:=first_T (F:=F) (d:=d + 4) (sx:=sx) (xr:=xr) (cl:=cl) (sm:=sm1) (tx:=tx1) (tds:=tds) (q:=[]) (s:=s) (w:=t.drop k)
 rw [fst_ends fun c hc=>hT.1 c (List.mem_of_mem_drop hc)] at t1
 have fin : ∀ {sm' : O} {tx' : O × Nat} {k' : Nat} {out : List Nat} {n : Nat} {Y : Loc},evSs (cD sx F (d + 4)) (Law2.f283.drop 2) 14 (LA cl [38] []) (hE xr sm1 tx1 tds [] s (stk (t.drop k) 1) []) = evSs (cD sx F (d + 4)) finS 14 (LA cl out Y) (hE xr sm' tx' tds ((tl cl (part t k)).map (tkF 7)) s (stk (t.drop k) n) []) → Sv t k' sm' tx' → Ce t k cl k' out →
  ∃ sm' tx' k' out,runF (Law2.pr sx) F (d + 5) 283 [.ref 2,optV cl,.bool cl.isSome] (hR xr sm tx tds [] s) = some (.none,hR xr sm' tx' tds ((tl cl (part t k)).map (tkF 7) ++ outQ cl out) (s ++ outS cl out)) ∧ Sv t k' sm' tx' ∧ Ce t k cl k' out:=fun {sm' tx' k' out n Y} e H' C=>by
  have hol:=out_len C.seg
  have hpl : (part t k).length ≤ 10000:=Nat.le_trans (List.takeWhile_sublist (p:=na) (l:=t.drop k)).length_le (by rw [List.length_drop]; exact Nat.le_trans (Nat.sub_le _ _) hT.2)
  have htl : ((tl cl (part t k)).map (tkF 7)).length ≤ 10:=by
   rw [List.length_map]
   unfold tl
   cases !(best cl (part t k) == []) && !semi (best cl (part t k)) with
   | true=>exact Nat.le_trans (Nat.le_refl 1) (by decide)
   | false=>cases (best cl (part t k) == []) && !endS cl ((part t k).take 1) with
    | true=>exact Nat.le_trans (Nat.le_refl 1) (by decide)
    | false=>exact Nat.zero_le _
  obtain ⟨L',e4⟩:=fin_E (F:=F) (d:=d + 4) (sx:=sx) (xr:=xr) (cl:=cl) (tds:=tds) (s:=s) (w:=t.drop k) (i:=n) (L:=LA cl out Y) H' rfl rfl rfl (by unfold LIM; lia) C.sp (fun σ n=>by rw [List.map_map]; rfl) htl
  exact ⟨sm',tx',k',out,fn_ex (by rfl) (fl:=.next) rfl rfl ⟨L',hc.trans (e.trans e4)⟩ rfl,H',C⟩
 cases he : endS cl ((part t k).take 1) with
 | true =>
  rw [he] at t1
  obtain ⟨a1,a2⟩:=tl_ends he
  obtain ⟨sm2,e5,h5⟩:=ung_E (F:=F) (d:=d + 3) (sx:=sx) (xr:=xr) (X:=[(102,optV cl),(108,.bool cl.isSome),(100,.str [38]),(101,.ref 14)]) (tds:=tds) (q:=[]) (s:=s) (st:=stk (t.drop k) 1) (st':=stk (t.drop k) 1) (τ:=[]) (τ':=[]) (e:=.sub (.loc 101) (.const (.int 0))) h1 h2 (by rw [← w0]; rfl)
  refine fin (k':=k) (out:=[38]) (n:=1) (Y:=[]) ?_ h5 ⟨a2,rfl,noSp_cons (by decide)⟩
  rw [a1]
  refine (ifT t1).trans ?_
  have e6 : evSs (cD sx F (d + 4)) [.expr (.meth (.attr (.loc 34) 13) 103 [.sub (.loc 101) (.const (.int 0))])] 14 (LA cl [38] []) (hE xr sm1 tx1 tds [] s (stk (t.drop k) 1) []) = some (.next,LA cl [38] [],hE xr sm2 tx1 tds [] s (stk (t.drop k) 1) []):=(exprS e5).trans rfl
  rw [e6]; rfl
 | false =>
  rw [he] at t1
  obtain ⟨sm2,tx2,k',out,n,Y,e5,h5,C⟩:=blk_B (F:=F) (d:=d) (sx:=sx) (xr:=xr) (cl:=cl) (tds:=tds) (s:=s) hF hT h1 h2 he
  refine fin (n:=n) (Y:=Y) ?_ h5 C
  refine (ifF t1).trans ?_
  have t2 : evT (cD sx F (d + 4)) (.cmp .eq (.sub (.loc 101) (.const (.int 0))) (.const (.str [35]))) (LA cl [38] []) (hE xr sm1 tx1 tds [] s (stk (t.drop k) 1) []) = some (false,hE xr sm1 tx1 tds [] s (stk (t.drop k) 1) []):=by
   refine cmpT (a:=optV (t.drop k)[0]?) rfl evE_const ?_
   cases hx : (t.drop k)[0]? with
   | none=>rfl
   | some c =>
    have:=ok_le (hT.1 c (List.mem_of_mem_drop (List.mem_of_getElem? hx)))
    show some (([c] : List Nat) == [35]) = _
    rw [one_beq,beq_false_of_ne (by lia)]
  have e6 : evSs (cD sx F (d + 4)) [.ifs (.cmp .eq (.sub (.loc 101) (.const (.int 0))) (.const (.str [35]))) [.expr (.neg (.const .none))] bB] 14 (LA cl [38] []) (hE xr sm1 tx1 tds [] s (stk (t.drop k) 1) []) = some (.next,LA cl out Y,hE xr sm2 tx2 tds ((tl cl (part t k)).map (tkF 7)) s (stk (t.drop k) n) []):=by
   refine (ifF t2).trans ?_
   rw [e5]; rfl
  exact congrArg (fun x=>Option.bind x fun (f,L1,σ1)=>match f with | .next=>evSs (cD sx F (d + 4)) finS 14 L1 σ1 | f=>some (f,L1,σ1)) e6
end
end
section
noncomputable def tkI (Y : List (Nat × V)) (c : V) : O:=.inst 762 ((13,.ref 3) :: (35,.none) :: (36,.bool false) :: (37,.ref 8) :: (38,.bad) :: (40,.bool false) :: (19,c) :: Y)
inductive TkI : O → Prop
 | a : TkI (tkI [] .none)
 | b {o p : O} : TkI (tkO (.frz o) (.frz p))
section
variable {F d : Nat} {sx : List (Nat × O)} {t : List Nat} {cl : Option Nat} {n k : Nat} {z : Nat} {xr : X2} {sm x0 : O} {tx : O × Nat} {tds : List (List Nat)} {s : List Nat} {L : Loc} {q : List V}
theorem ini_cl {r : List PS} : evSs (cD sx F (d + 5)) (.assign (.l 11) (.new 762 [.loc 3]) :: .gc 7 :: r) 2 [(3,.str t),(6,optV cl),(76,.int (n : Nat))] [xr.a,xr.b] =
 evSs (cD sx F (d + 5)) r 2 [(3,.str t),(6,optV cl),(76,.int (n : Nat)),(11,.ref 2)] (hS xr (tkI [] .none) (smO [] 0 0 0) (txO t 0 0) [.list []]):=by
 have e1 : evE (cD sx F (d + 5)) (.new 762 [.loc 3]) [(3,.str t),(6,optV cl),(76,.int (n : Nat))] [xr.a,xr.b] = some (.ref 2,hS xr (.inst 762 [(13,.ref 3),(35,.none),(36,.bool false),(37,.ref 8),(38,.ref 9),(40,.bool false),(19,.none)]) (smO [] 0 0 0) (txO t 0 0) [.list [],.meth 304 (.ref 2)]):=by kernel_rfl
 refine (asgL e1).trans ?_
 rw [gcs]
 have e2 : gcS (hS xr (.inst 762 [(13,.ref 3),(35,.none),(36,.bool false),(37,.ref 8),(38,.ref 9),(40,.bool false),(19,.none)]) (smO [] 0 0 0) (txO t 0 0) [.list [],.meth 304 (.ref 2)]) 9 = hS xr (tkI [] .none) (smO [] 0 0 0) (txO t 0 0) [.list []]:=by
  show oMap _ xr.a :: oMap _ xr.b :: _ = _
  rw [xr.ca,xr.cb]; rfl
 show evSs _ r 2 [(3,.str t),(6,rv _ 9 (optV cl)),(76,.int (n : Nat)),(11,.ref 2)] (gcS _ 9) = _
 rw [rv_opt,e2]
noncomputable def tails : List Nat → List (List Nat) | []=>[] | _ :: r=>spl 38 r
theorem spl_tw : ∀ l : List Nat,spl 38 l = l.takeWhile na :: tails (l.dropWhile na)
 | []=>rfl
 | x :: l=>by
  rw [spl_cons,List.takeWhile_cons,List.dropWhile_cons]
  by_cases hx : x = 38
  ·subst hx
   rw [if_pos rfl,show na 38 = false from by decide]; rfl
  ·rw [if_neg hx,na_iff.mpr hx,spl_tw l]; rfl
theorem tell_tw (cl : Option Nat) (t : List Nat) : tell cl t = (t.takeWhile na ++ ((tails (t.dropWhile na)).map (seg cl)).flatten,((tails (t.dropWhile na)).map (tl cl)).flatten):=by
 unfold tell
 rw [spl_tw]; rfl
theorem segs_len (cl : Option Nat) : ∀ ps : List (List Nat),((ps.map (seg cl)).flatten).length ≤ (ps.map fun p=>p.length + 1).sum ∧ ((ps.map (tl cl)).flatten).length ≤ ps.length
 | []=>⟨Nat.le_refl _,Nat.le_refl _⟩
 | p :: ps=>by
  obtain ⟨h1,h2⟩:=segs_len cl ps
  have h3:=seg_len cl p
  have h4 : (tl cl p).length ≤ 1:=by
   unfold tl
   cases !(best cl p == []) && !semi (best cl p) with
   | true=>exact Nat.le_refl _
   | false=>cases (best cl p == []) && !endS cl (p.take 1) with
    | true=>exact Nat.le_refl _
    | false=>exact Nat.zero_le _
  rw [List.map_cons,List.map_cons,List.map_cons,List.flatten_cons,List.flatten_cons,List.sum_cons,List.length_append,List.length_append,List.length_cons]
  exact ⟨Nat.add_le_add h3 h1,Nat.le_trans (Nat.add_le_add h4 h2) (Nat.le_of_eq (Nat.add_comm ..))⟩
theorem tell_len (cl : Option Nat) {t : List Nat} (h : t.length ≤ 10000) : (tell cl t).1.length ≤ 10001 ∧ (tell cl t).2.length ≤ 10001:=by
 have h1:=spl_sum 38 t
 have h2:=spl_cnt 38 t
 unfold tell
 cases q : spl 38 t with
 | nil=>exact ⟨Nat.zero_le _,Nat.zero_le _⟩
 | cons p ps =>
  rw [q,List.map_cons,List.sum_cons] at h1
  rw [q,List.length_cons] at h2
  obtain ⟨h3,h4⟩:=segs_len cl ps
  rw [tell_cons]
  simp only [List.length_append]
  lia
noncomputable def innS (cl : Option Nat) (out : List Nat) : List Nat:=match cl with | none=>out | some _=>[]
theorem out_inn (cl : Option Nat) (out : List Nat) : outS cl out ++ innS cl out = out:=by
 cases cl with
 | none=>rfl
 | some c=>exact List.append_nil out
noncomputable def qB : List PS:=[.ifs (.andE (.cmp .eq (.sub (.loc 18) (.const (.str sType))) (.sub (.glob (.sref 48)) (.const (.str [67,104,97,114,97,99,116,101,114,115])))) (.cmp .is (.loc 6) (.const .none))) [.assign (.l 91) (.bin .add (.loc 91) (.sub (.loc 18) (.const (.str sData))))] [.expr (.append (.loc 87) (.sub (.loc 18) (.const (.str sData))))]]
theorem q_T {y : Int} {e : List Nat} {σ : St} (h18 : getK 18 L = some (tkF y e)) (h6 : getK 6 L = some (optV cl)) : evT (cD sx F d) (.andE (.cmp .eq (.sub (.loc 18) (.const (.str sType))) (.sub (.glob (.sref 48)) (.const (.str [67,104,97,114,97,99,116,101,114,115])))) (.cmp .is (.loc 6) (.const .none))) L σ = some ((y == 1) && cl.isNone,σ) ∧ evE (cD sx F d) (.sub (.loc 18) (.const (.str sData))) L σ = some (.str e,σ):=by
 have e1 : evE (cD sx F d) (.sub (.loc 18) (.const (.str sType))) L σ = some (.int y,σ):=by rw [evE_sub,getE h18]; rfl
 refine ⟨andTL (cmpT e1 (b:=.int 1) rfl rfl) fun J=>cmpT (getE h6) evE_const (by cases cl <;> rfl),?_⟩
 rw [evE_sub,getE h18]; rfl
theorem q_loop {still : St → Bool} {Q : List V} (hs : ∀ tds,still (hR xr sm tx tds Q s) = true) : ∀ (es : List (List Nat)) (out : List Nat) (tds : List (List Nat)) (s2 : List Nat) (L : Loc),getK 6 L = some (optV cl) → getK 91 L = some (.str s2) → getK 87 L = some (.ref 9) → getK 11 L = some (.ref 2) → tds.length + es.length ≤ 60000 → s2.length + out.length ≤ 60000 →
 ∃ L',forL (fun v L s=>bindFt (cD sx F d) s (.one 18) v L) still (fun L s=>evSs (cD sx F d) qB z L s) (es.map (tkF 7) ++ outQ cl out) L (hR xr sm tx tds Q s) = some (.next,L',hR xr sm tx (tds ++ es) Q s) ∧ getK 6 L' = some (optV cl) ∧ getK 91 L' = some (.str (s2 ++ innS cl out)) ∧ getK 87 L' = some (.ref 9) ∧ getK 11 L' = some (.ref 2)
 | [],out,tds,s2,L,h6,h91,h87,h11,_,hl=>by
  rw [List.append_nil]
  cases cl with
  | some c=>exact ⟨L,forL_nil.trans (if_pos (hs _)),h6,by rw [h91]; exact congrArg (fun x=>some (V.str x)) (List.append_nil s2).symm,h87,h11⟩
  | none =>
   obtain ⟨t1,e1⟩:=q_T (F:=F) (d:=d) (sx:=sx) (cl:=none) (L:=putK 18 (tkF 1 out) L) (y:=1) (e:=out) (σ:=hR xr sm tx tds Q s) gk_eq (gk_ne (by decide) h6)
   refine ⟨putK 91 (.str (s2 ++ out)) (putK 18 (tkF 1 out) L),?_,gk_ne (by decide) (gk_ne (by decide) h6),gk_eq,gk_ne (by decide) (gk_ne (by decide) h87),gk_ne (by decide) (gk_ne (by decide) h11)⟩
   show forL _ _ _ [tkF 1 out] L _ = _
   rw [forL_cons,if_pos (hs _)]
   show Option.bind (evSs (cD sx F d) qB z (putK 18 (tkF 1 out) L) (hR xr sm tx tds Q s)) _ = _
   have e2 : evSs (cD sx F d) qB z (putK 18 (tkF 1 out) L) (hR xr sm tx tds Q s) = some (.next,putK 91 (.str (s2 ++ out)) (putK 18 (tkF 1 out) L),hR xr sm tx tds Q s):=by
    refine (ifT (t1.trans rfl)).trans ?_
    rw [asgL (addE (getE (gk_ne (by decide) h91)) e1 (by unfold LIM; lia))]; rfl
   rw [e2]
   exact if_pos (hs tds)
 | e :: es,out,tds,s2,L,h6,h91,h87,h11,hn,hl=>by
  rw [List.length_cons] at hn
  obtain ⟨t1,e1⟩:=q_T (F:=F) (d:=d) (sx:=sx) (cl:=cl) (L:=putK 18 (tkF 7 e) L) (y:=7) (e:=e) (σ:=hR xr sm tx tds Q s) gk_eq (gk_ne (by decide) h6)
  have e2 : evSs (cD sx F d) qB z (putK 18 (tkF 7 e) L) (hR xr sm tx tds Q s) = some (.next,putK 18 (tkF 7 e) L,hR xr sm tx (tds ++ [e]) Q s):=by
   refine (ifF (t1.trans rfl)).trans ?_
   rw [exprS (appE (a:=9) (getE (gk_ne (by decide) h87)) rfl e1 rfl (by rw [List.length_map]; unfold LIM; lia) (σ':=hR xr sm tx (tds ++ [e]) Q s) (congrArg (fun o=>hS xr (tkO (.ref 13) (.ref 10)) sm tx [.list [],o,.list Q,.list [.str [107],.str s],.list [.ref 11],tokD]) addpart))]; rfl
  obtain ⟨L',i1,i2⟩:=q_loop hs es out (tds ++ [e]) s2 (putK 18 (tkF 7 e) L) (gk_ne (by decide) h6) (gk_ne (by decide) h91) (gk_ne (by decide) h87) (gk_ne (by decide) h11) (by rw [List.length_append]; show _ + 1 + _ ≤ _; lia) hl
  refine ⟨L',?_,i2⟩
  rw [List.map_cons,List.cons_append,forL_cons,if_pos (hs _)]
  show Option.bind (evSs (cD sx F d) qB z (putK 18 (tkF 7 e) L) (hR xr sm tx tds Q s)) _ = _
  rw [e2]
  refine Eq.trans i1 ?_
  rw [List.append_assoc]; rfl
end
end
section
theorem gk_gc {i n : Nat} {v w : V} {L : Loc} {σ : St} (h : getK i L = some v) (e : rv σ n v = w) : getK i (gcL σ n L) = some w:=(getK_map i L).trans ((congrArg (Option.map (rv σ n)) h).trans (congrArg some e))
noncomputable def rB : List PS:=match (Law2.f820[6]? : Option PS) with | some (PS.whiles _ b)=>b | _=>[]
noncomputable def rT : PE:=.cmp .eq (.meth (.attr (.loc 11) 13) 21 []) (.const (.str [38]))
section
variable {F d : Nat} {sx : List (Nat × O)} {t : List Nat} {cl : Option Nat} {n k k' : Nat} {z : Nat} {xr : X2} {sm x0 : O} {tx : O × Nat} {tds : List (List Nat)} {s : List Nat} {L : Loc} {q : List V}
theorem set_up (hx : TkI x0) (h11 : getK 11 L = some (.ref 2)) (h91 : getK 91 L = some (.str s)) : evSs (cD sx F d) rB z L (hS xr x0 sm tx [.list [],.list (tds.map V.str)]) = evSs (cD sx F d) (rB.drop 2) z L (hR xr sm tx tds [] s):=by
 obtain ⟨x1,e1⟩ : ∃ x1,evSs (cD sx F d) rB z L (hS xr x0 sm tx [.list [],.list (tds.map V.str)]) = evSs (cD sx F d) (rB.drop 1) z L (hS xr x1 sm tx [.list [],.list (tds.map V.str),.list []]) ∧ ∃ c,x1 = tkO c (.ref 10):=by
  cases hx with
  | a =>
   refine ⟨tkO .none (.ref 10),?_,_,rfl⟩
   show evSs _ (.assign (.a (.loc 11) 12) (.listE []) :: rB.drop 1) _ _ _ = _
   rw [evSs_cons,evS_assign]
   show Option.bind (Option.map _ (Option.bind (evE (cD sx F d) (.loc 11) L _) _)) _ = _
   rw [getE h11]; rfl
  | @b o p =>
   refine ⟨tkO (.frz o) (.ref 10),?_,_,rfl⟩
   show evSs _ (.assign (.a (.loc 11) 12) (.listE []) :: rB.drop 1) _ _ _ = _
   rw [evSs_cons,evS_assign]
   show Option.bind (Option.map _ (Option.bind (evE (cD sx F d) (.loc 11) L _) _)) _ = _
   rw [getE h11]; rfl
 obtain ⟨e1,c,rfl⟩:=e1
 rw [e1]
 have i1 : evE (cD sx F d) (.listE [.listE [.const (.str [107]),.loc 91]]) L (hS xr (tkO c (.ref 10)) sm tx [.list [],.list (tds.map V.str),.list []]) = some (.ref 12,hS xr (tkO c (.ref 10)) sm tx [.list [],.list (tds.map V.str),.list [],.list [.str [107],.str s],.list [.ref 11]]):=by
  rw [evE_listE,evEs1 (v:=.ref 11) (σ1:=hS xr (tkO c (.ref 10)) sm tx [.list [],.list (tds.map V.str),.list [],.list [.str [107],.str s]]) (by rw [evE_listE,evEs2 evE_const (getE h91)]; rfl)]; rfl
 have i2 : evE (cD sx F d) (.dictE [sType,sName,sData,sSelf] [.sub (.glob (.sref 48)) (.const (.str [83,116,97,114,116,84,97,103])),.const (.str [105]),.listE [.listE [.const (.str [107]),.loc 91]],.const (.bool false)]) L (hS xr (tkO c (.ref 10)) sm tx [.list [],.list (tds.map V.str),.list []]) = some (.ref 13,hS xr (tkO c (.ref 10)) sm tx [.list [],.list (tds.map V.str),.list [],.list [.str [107],.str s],.list [.ref 11],tokD]):=by
  rw [evE_dictE,evEs_cons]
  show Option.bind (Option.bind (evEs (cD sx F d) (.const (.str [105]) :: .listE [.listE [.const (.str [107]),.loc 91]] :: [.const (.bool false)]) L _) _) _ = _
  rw [evEs_cons]
  show Option.bind (Option.bind (Option.bind (evEs (cD sx F d) (.listE [.listE [.const (.str [107]),.loc 91]] :: [.const (.bool false)]) L _) _) _) _ = _
  rw [evEs_cons,i1]; rfl
 show evSs _ (.assign (.a (.loc 11) 19) (.dictE [sType,sName,sData,sSelf] [.sub (.glob (.sref 48)) (.const (.str [83,116,97,114,116,84,97,103])),.const (.str [105]),.listE [.listE [.const (.str [107]),.loc 91]],.const (.bool false)]) :: rB.drop 2) _ _ _ = _
 rw [evSs_cons,evS_assign,i2]
 show Option.bind (Option.map _ (Option.bind (evE (cD sx F d) (.loc 11) L _) _)) _ = _
 rw [getE h11]; rfl
theorem gcS_low {fs : List (Nat × V)} {rest : List O} {σ : St} (H : Sv t k sm tx) : (hS xr (.inst 762 fs) sm tx rest).map (oMap (rv σ 10)) = hS xr (.inst 762 (fs.map fun p=>(p.1,rv σ 10 p.2))) sm tx (rest.map (oMap (rv σ 10))):=by
 cases H with | @mk s0 off p e chunk _ _ =>
 show oMap (rv σ 10) xr.a :: oMap (rv σ 10) xr.b :: _ :: _ :: _ :: _ :: _ :: O.list ((List.replicate e errV).map (rv σ 10)) :: _ = _
 rw [xr.ca,xr.cb,map_rep rfl]; rfl
theorem gc_R (H : Sv t k sm tx) : ∃ o p,gcS (hR xr sm tx tds q s) 10 = hS xr (tkO (.frz o) (.frz p)) sm tx [.list [],.list (tds.map V.str)]:=by
 generalize hσ : hR xr sm tx tds q s = σ
 have h1 : gcS σ 10 = (hS xr (tkO (.ref 13) (.ref 10)) sm tx [.list [],.list (tds.map V.str)]).map (oMap (rv σ 10)):=by subst hσ; rfl
 obtain ⟨o,ho⟩ : ∃ o,rv σ 10 (.ref 13) = .frz o:=by subst hσ; exact ⟨_,rfl⟩
 obtain ⟨p,hp⟩ : ∃ p,rv σ 10 (.ref 10) = .frz p:=by subst hσ; exact ⟨_,rfl⟩
 refine ⟨o,p,?_⟩
 rw [h1]
 refine (gcS_low H).trans ?_
 show hS xr (.inst 762 [(13,.ref 3),(35,.none),(36,.bool false),(37,.ref 8),(38,.bad),(40,.bool false),(19,rv σ 10 (.ref 13)),(12,rv σ 10 (.ref 10))]) sm tx [.list [],O.list ((tds.map V.str).map (rv σ 10))] = _
 rw [ho,hp,rv_strs]; rfl
theorem cld_R (hq : ∀ σ n,q.map (rv σ n) = q) : CldR (tkO (.ref 13) (.ref 10)) [.list [],.list (tds.map V.str),.list q,.list [.str [107],.str s],.list [.ref 11],tokD]:=fun σ=>⟨rfl,by
 show [O.list [],O.list ((tds.map V.str).map (rv σ 14)),O.list (q.map (rv σ 14)),_,_,_] = _
 rw [rv_strs,hq]; rfl⟩
inductive RI (xr : X2) (t : List Nat) (cl : Option Nat) : Nat → Loc → St → Prop
 | mk {k : Nat} {sm x0 : O} {tx : O × Nat} {tds : List (List Nat)} {s : List Nat} {L : Loc} : TkI x0 → Sv t k sm tx → (t.drop k = [] ∨ ∃ r,t.drop k = 38 :: r) → getK 11 L = some (.ref 2) → getK 6 L = some (optV cl) → getK 91 L = some (.str s) → getK 87 L = some (.ref 9) →
  tell cl t = (s ++ ((tails (t.drop k)).map (seg cl)).flatten,tds ++ ((tails (t.drop k)).map (tl cl)).flatten) → RI xr t cl (t.drop k).length L (hS xr x0 sm tx [.list [],.list (tds.map V.str)])
theorem r_test (hx : TkI x0) (hT : Txt' t) (H : Sv t k sm tx) (h11 : getK 11 L = some (.ref 2)) : ∃ sm' tx',evT (cD sx F (d + 4)) rT L (hS xr x0 sm tx [.list [],.list (tds.map V.str)]) = some ((match t[k]? with | some c=>c == 38 | none=>false),hS xr x0 sm' tx' [.list [],.list (tds.map V.str)]) ∧ Sv t (nxt t k) sm' tx':=by
 obtain ⟨fs,rfl⟩ : ∃ fs,x0 = .inst 762 ((13,.ref 3) :: fs):=by cases hx <;> exact ⟨_,rfl⟩
 obtain ⟨sm1,tx1,e1,h1,_⟩:=sv_char (F:=F) (d:=d) (sx:=sx) (xr:=xr) (x0:=.inst 762 ((13,.ref 3) :: fs)) (rest:=[.list [],.list (tds.map V.str)]) hT H
 refine ⟨sm1,tx1,cmpT ((st21 H h11).trans e1) evE_const ?_,h1⟩
 cases t[k]? with
 | none=>rfl
 | some c =>
  show some (([c] : List Nat) == [38]) = _
  rw [one_beq]
theorem r_body (hF : 20000 < F) (hT : Txt' t) (hx : TkI x0) (H : Sv t (k + 1) sm tx) {r : List Nat} (hd : t.drop k = 38 :: r) (h11 : getK 11 L = some (.ref 2)) (h6 : getK 6 L = some (optV cl)) (h91 : getK 91 L = some (.str s)) (h87 : getK 87 L = some (.ref 9))
 (ht : tell cl t = (s ++ ((tails (t.drop k)).map (seg cl)).flatten,tds ++ ((tails (t.drop k)).map (tl cl)).flatten)) : ∃ L' σ',evSs (cD sx F (d + 5)) rB 2 L (hS xr x0 sm tx [.list [],.list (tds.map V.str)]) = some (.next,L',σ') ∧ ∃ m,m < (t.drop k).length ∧ RI xr t cl m L' σ':=by
 have hd1 : t.drop (k + 1) = r:=by rw [← List.drop_drop,hd]; rfl
 have hlen:=tell_len cl hT.2
 rw [ht] at hlen
 simp only [List.length_append] at hlen
 have hsp : tails (t.drop k) = part t (k + 1) :: tails ((t.drop (k + 1)).dropWhile na):=by rw [hd]; show spl 38 r = _; rw [spl_tw]; unfold part; rw [hd1]
 obtain ⟨sm2,tx2,k2,out,e2,H2,C⟩:=x283 (F:=F) (d:=d) (sx:=sx) (xr:=xr) (cl:=cl) (tds:=tds) (s:=s) hF hT (by lia) H
 have hol:=out_len C.seg
 have hpl : (part t (k + 1)).length ≤ 10000:=Nat.le_trans (List.takeWhile_sublist (p:=na) (l:=t.drop (k + 1))).length_le (by rw [List.length_drop]; exact Nat.le_trans (Nat.sub_le _ _) hT.2)
 have hpl2 : (part t k2).length ≤ 10000:=Nat.le_trans (List.takeWhile_sublist (p:=na) (l:=t.drop k2)).length_le (by rw [List.length_drop]; exact Nat.le_trans (Nat.sub_le _ _) hT.2)
 have b2 : evE (cD sx F (d + 5)) (.meth (.loc 11) 95 [.loc 6,.cmp .isnot (.loc 6) (.const .none)]) L (hR xr sm tx tds [] s) = some (.none,hR xr sm2 tx2 tds ((tl cl (part t (k + 1))).map (tkF 7) ++ outQ cl out) (s ++ outS cl out)):=by
  rw [evE_meth,getE h11,Option.bind_some]
  show Option.bind (evEs (cD sx F (d + 5)) [.loc 6,.cmp .isnot (.loc 6) (.const .none)] L (hR xr sm tx tds [] s)) _ = _
  rw [evEs2 (getE h6) (cmpE (getE h6) evE_const isN_opt)]
  exact e2
 generalize hQ : (tl cl (part t (k + 1))).map (tkF 7) ++ outQ cl out = Q at b2
 have hq : ∀ σ n,Q.map (rv σ n) = Q:=fun σ n=>by
  subst hQ
  rw [List.map_append,List.map_map]
  cases cl <;> rfl
 have b3 : evE (cD sx F (d + 5)) (.sub (.sub (.sub (.attr (.loc 11) 19) (.const (.str sData))) (.const (.int 0))) (.const (.int 1))) L (hR xr sm2 tx2 tds Q (s ++ outS cl out)) = some (.str (s ++ outS cl out),hR xr sm2 tx2 tds Q (s ++ outS cl out)):=by
  rw [evE_sub,evE_sub,evE_sub,evE_attr,getE h11]; rfl
 generalize hL1 : putK 91 (.str (s ++ outS cl out)) L = L1
 have a11 : getK 11 L1 = some (.ref 2):=hL1 ▸ gk_ne (by decide) h11
 have a6 : getK 6 L1 = some (optV cl):=hL1 ▸ gk_ne (by decide) h6
 have a91 : getK 91 L1 = some (.str (s ++ outS cl out)):=hL1 ▸ gk_eq
 have a87 : getK 87 L1 = some (.ref 9):=hL1 ▸ gk_ne (by decide) h87
 have b4 : evE (cD sx F (d + 5)) (.attr (.loc 11) 12) L1 (hR xr sm2 tx2 tds Q (s ++ outS cl out)) = some (.ref 10,hR xr sm2 tx2 tds Q (s ++ outS cl out)):=by rw [evE_attr,getE a11]; rfl
 have hosl : (outS cl out).length ≤ out.length:=by cases cl; exact Nat.zero_le _; exact Nat.le_refl _
 have htl : (tl cl (part t (k + 1))).length ≤ 10001:=by
  have:=hlen.2
  rw [hsp,List.map_cons,List.flatten_cons,List.length_append] at this
  lia
 obtain ⟨L2,i1,i6,i91,i87,i11⟩:=q_loop (F:=F) (d:=d + 5) (sx:=sx) (xr:=xr) (cl:=cl) (sm:=sm2) (tx:=tx2) (s:=s ++ outS cl out) (z:=14) (Q:=Q) (still:=fun σ=>stillV (cD sx F (d + 5)) (hR xr sm2 tx2 tds Q (s ++ outS cl out)) σ (.ref 10)) (fun tds'=>still_iff.mpr rfl) (tl cl (part t (k + 1))) out tds (s ++ outS cl out) L1 a6 a91 a87 a11 (by lia) (by rw [List.length_append]; lia)
 rw [hQ] at i1
 obtain ⟨sm3,tx3,e5,H3⟩:=sv_until (F:=F) (d:=d + 1) (sx:=sx) (xr:=xr) (x0:=tkO (.ref 13) (.ref 10)) (rest:=[.list [],.list ((tds ++ tl cl (part t (k + 1))).map V.str),.list Q,.list [.str [107],.str (s ++ outS cl out)],.list [.ref 11],tokD]) (by omega) hT H2 (cld_R hq)
 have b5 : evE (cD sx F (d + 5)) (.bin .add (.loc 91) (.meth (.attr (.loc 11) 13) 60 [.tupE [.const (.str [38])]])) L2 (hR xr sm2 tx2 (tds ++ tl cl (part t (k + 1))) Q (s ++ outS cl out)) = some (.str (s ++ seg cl (part t (k + 1))),hR xr sm3 tx3 (tds ++ tl cl (part t (k + 1))) Q (s ++ outS cl out)):=by
  have : s ++ seg cl (part t (k + 1)) = (s ++ outS cl out ++ innS cl out) ++ part t k2:=by
   rw [C.seg,List.append_assoc s,out_inn,List.append_assoc]
  rw [this]
  refine addE (getE i91) ((st60 H2 i11).trans e5) ?_
  rw [List.append_assoc,out_inn,List.length_append]; unfold LIM; lia
 have hdr : t.drop (k2 + (part t k2).length) = (t.drop (k + 1)).dropWhile na:=by
  rw [← C.rest,← tw_dw,List.drop_drop]
 obtain ⟨o,p,e6⟩:=gc_R (q:=Q) (s:=s ++ outS cl out) (tds:=tds ++ tl cl (part t (k + 1))) H3
 refine ⟨gcL (hR xr sm3 tx3 (tds ++ tl cl (part t (k + 1))) Q (s ++ outS cl out)) 10 (putK 91 (.str (s ++ seg cl (part t (k + 1)))) L2),_,?_,(t.drop (k2 + (part t k2).length)).length,?_,.mk (s:=s ++ seg cl (part t (k + 1))) (sm:=sm3) (tx:=tx3) (tds:=tds ++ tl cl (part t (k + 1))) (.b (o:=o) (p:=p)) H3 ?_ ?_ ?_ ?_ ?_ ?_⟩
 ·rw [set_up hx h11 h91]
  refine (exprS b2).trans ((asgL b3).trans ?_)
  rw [hL1]
  refine (forS (b:=qB) (v:=.ref 10) b4 (show iterV _ _ _ = some Q from rfl) i1).trans ?_
  refine (asgL b5).trans ?_
  rw [gcs]
  show some (Fl.next,_,gcS _ 10) = _
  rw [e6]
 ·rw [hdr,hd,hd1]
  exact Nat.lt_succ_of_le (List.dropWhile_sublist (p:=na)).length_le
 ·rw [hdr]
  rcases dw_end (p:=na) (t.drop (k + 1)) with h | ⟨c,r2,h,hc⟩
  ·exact .inl h
  ·refine .inr ⟨r2,?_⟩
   have : c = 38:=Classical.byContradiction fun h=>by rw [na_iff.mpr h] at hc; cases hc
   rw [h,this]
 ·exact gk_gc (gk_ne (by decide) i11) rfl
 ·exact gk_gc (gk_ne (by decide) i6) rv_opt
 ·exact gk_gc gk_eq rfl
 ·exact gk_gc (gk_ne (by decide) i87) rfl
 ·rw [ht,hsp,hdr,List.map_cons,List.map_cons,List.flatten_cons,List.flatten_cons,List.append_assoc,List.append_assoc]
theorem x820 (hF : 20000 < F) (hT : Txt' t) : runF (Law2.pr sx) F (d + 6) 820 [.str t,optV cl,.int (n : Nat)] [xr.a,xr.b] = some (tellV (tell cl t) t,[xr.a,xr.b]):=by
 have S0 : Sv t 0 (smO [] 0 0 0) (txO t 0 0):=.mk (s:=0) (off:=0) ⟨Nat.le_refl _,rfl,Nat.zero_le _,rfl,Nat.le_refl _⟩ rfl
 obtain ⟨sm1,tx1,v,e1,H1⟩:=sv_first (F:=F) (d:=d + 2) (sx:=sx) (xr:=xr) (x0:=tkI [] .none) (rest:=[.list []]) hT n
 have b1 : evE (cD sx F (d + 5)) (.meth (.attr (.loc 11) 13) 14 [.loc 76]) [(3,.str t),(6,optV cl),(76,.int (n : Nat)),(11,.ref 2)] (hS xr (tkI [] .none) (smO [] 0 0 0) (txO t 0 0) [.list []]) = some (v,hS xr (tkI [] .none) sm1 tx1 [.list []]):=(st14 S0 rfl).trans (by rw [evEs1 (getE rfl)]; exact e1)
 obtain ⟨sm2,tx2,e2,H2⟩:=sv_until (F:=F) (d:=d + 1) (sx:=sx) (xr:=xr) (x0:=tkI [] .none) (rest:=[.list []]) (by omega) hT H1 fun σ=>⟨rfl,rfl⟩
 have b2 : evE (cD sx F (d + 5)) (.meth (.attr (.loc 11) 13) 60 [.tupE [.const (.str [38])]]) [(3,.str t),(6,optV cl),(76,.int (n : Nat)),(11,.ref 2)] (hS xr (tkI [] .none) sm1 tx1 [.list []]) = some (.str (t.takeWhile na),hS xr (tkI [] .none) sm2 tx2 [.list []]):=(st60 H1 rfl).trans e2
 have hd0 : t.drop (0 + ((t.drop 0).takeWhile na).length) = t.dropWhile na:=by rw [List.drop_zero,Nat.zero_add,tw_dw]
 have hg : gcS (hS xr (tkI [] .none) sm2 tx2 [.list [],.list []]) 10 = hS xr (tkI [] .none) sm2 tx2 [.list [],.list []]:=(gcS_low (rest:=[.list [],.list []]) H2).trans rfl
 have hc : evSs (cD sx F (d + 5)) Law2.f820 2 [(3,.str t),(6,optV cl),(76,.int (n : Nat))] [xr.a,xr.b] = evSs (cD sx F (d + 5)) (Law2.f820.drop 6) 2 [(3,.str t),(6,optV cl),(76,.int (n : Nat)),(11,.ref 2),(91,.str (t.takeWhile na)),(87,.ref 9)] (hS xr (tkI [] .none) sm2 tx2 [.list [],.list []]):=by
  refine ini_cl.trans ((exprS b1).trans ((asgL b2).trans ?_))
  refine (asgL (v:=.ref 9) (σ1:=hS xr (tkI [] .none) sm2 tx2 [.list [],.list []]) rfl).trans ?_
  rw [gcs,show (2 : Nat) + 8 = 10 from rfl,hg]
  show evSs _ _ 2 [(3,.str t),(6,rv _ 10 (optV cl)),_,_,_,_] _ = _
  rw [rv_opt]; rfl
 obtain ⟨fl,L',σ',e,hE⟩:=whileL_rule (test:=fun L s=>evT (cD sx F (d + 5)) rT L s) (body:=fun L s=>evSs (cD sx F (d + 5)) rB 2 L s)
  (K:=fun fl L σ=>fl = .next ∧ getK 91 L = some (.str (tell cl t).1) ∧ getK 87 L = some (.ref 9) ∧ ∃ x0 sm tx,σ = hS xr x0 sm tx [.list [],.list ((tell cl t).2.map V.str)] ∧ TkI x0 ∧ Sv t t.length sm tx ∧ getK 11 L = some (.ref 2)) (RI xr t cl) (fun m L σ h=>by
  cases h with | @mk k sm x0 tx tds s _ hx H ha h11 h6 h91 h87 ht =>
  obtain ⟨sm',tx',t1,H'⟩:=r_test (F:=F) (d:=d + 1) (sx:=sx) (xr:=xr) (tds:=tds) hx hT H h11
  refine ⟨_,_,t1,?_⟩
  rcases ha with h0 | ⟨r,h0⟩
  ·rw [h0] at ht
   have hk : t[k]? = none:=by
    have : (t.drop k)[0]? = t[k]?:=by rw [List.getElem?_drop]; rfl
    rw [← this,h0]; rfl
   rw [hk]
   have e1 : tell cl t = (s,tds):=by rw [ht]; show (s ++ [],tds ++ []) = _; rw [List.append_nil,List.append_nil]
   refine ⟨rfl,?_,h87,x0,sm',tx',?_,hx,?_,h11⟩
   ·rw [e1]; exact h91
   ·rw [e1]
   ·have e2 : nxt t k = t.length:=by unfold nxt; rw [hk]; exact Nat.le_antisymm H.le (List.drop_eq_nil_iff.mp h0)
    exact e2 ▸ H'
  ·obtain ⟨q1,q2,q3⟩:=dropA h0
   rw [q1]
   have hn : nxt t k = k + 1:=by unfold nxt; rw [q1]
   rw [hn] at H'
   obtain ⟨L',σ',i1,i2⟩:=r_body (F:=F) (d:=d) (sx:=sx) (xr:=xr) hF hT hx H' h0 h11 h6 h91 h87 ht
   exact ⟨.next,L',σ',i1,i2⟩) F (t.drop (0 + ((t.drop 0).takeWhile na).length)).length [(3,.str t),(6,optV cl),(76,.int (n : Nat)),(11,.ref 2),(91,.str (t.takeWhile na)),(87,.ref 9)] (hS xr (tkI [] .none) sm2 tx2 [.list [],.list []]) (by rw [List.length_drop]; have:=hT.2; omega)
   (.mk (tds:=[]) (s:=t.takeWhile na) .a H2 (by
    rw [hd0]
    rcases dw_end (p:=na) t with h | ⟨c,r2,h,hc⟩
    ·exact .inl h
    ·refine .inr ⟨r2,?_⟩
     have : c = 38:=Classical.byContradiction fun h=>by rw [na_iff.mpr h] at hc; cases hc
     rw [h,this]) rfl rfl rfl rfl (by rw [hd0]; exact tell_tw cl t))
 obtain ⟨rfl,h91,h87,x0,sm3,tx3,rfl,hx,H3,h11⟩:=hE
 obtain ⟨fs,rfl⟩ : ∃ fs,x0 = .inst 762 ((13,.ref 3) :: fs):=by cases hx <;> exact ⟨_,rfl⟩
 have e5:=sv_pos (F:=F) (d:=d + 3) (sx:=sx) (xr:=xr) (x0:=.inst 762 ((13,.ref 3) :: fs)) (rest:=[.list [],.list ((tell cl t).2.map V.str)]) hT H3
 rw [List.take_length] at e5
 have e6 : evE (cD sx F (d + 5)) (.meth (.attr (.loc 11) 13) 23 []) L' (hS xr (.inst 762 ((13,.ref 3) :: fs)) sm3 tx3 [.list [],.list ((tell cl t).2.map V.str)]) = some (.frz (plc t),hS xr (.inst 762 ((13,.ref 3) :: fs)) sm3 tx3 [.list [],.list ((tell cl t).2.map V.str)]):=by
  refine Eq.trans ?_ e5
  have e0 : evE (cD sx F (d + 5)) (.attr (.loc 11) 13) L' (hS xr (.inst 762 ((13,.ref 3) :: fs)) sm3 tx3 [.list [],.list ((tell cl t).2.map V.str)]) = some (.ref 3,hS xr (.inst 762 ((13,.ref 3) :: fs)) sm3 tx3 [.list [],.list ((tell cl t).2.map V.str)]):=by rw [evE_attr,getE h11]; rfl
  rw [evE_meth,e0]
  cases H3; rfl
 have e4 : evE (cD sx F (d + 5)) (.tupE [.loc 91,.loc 87,.meth (.attr (.loc 11) 13) 23 []]) L' (hS xr (.inst 762 ((13,.ref 3) :: fs)) sm3 tx3 [.list [],.list ((tell cl t).2.map V.str)]) = some (.ref 10,hS xr (.inst 762 ((13,.ref 3) :: fs)) sm3 tx3 [.list [],.list ((tell cl t).2.map V.str),.tuple [.str (tell cl t).1,.ref 9,.frz (plc t)]]):=by
  rw [evE_tupE,evEs_cons,getE h91,Option.bind_some]
  show Option.bind (Option.bind (evEs _ _ _ _) _) _ = _
  rw [evEs2 (getE h87) e6]; rfl
 refine fn_ex (by rfl) (fl:=.ret (tellV (tell cl t) t)) (σ':=[xr.a,xr.b]) rfl rfl ⟨gcL (hS xr (.inst 762 ((13,.ref 3) :: fs)) sm3 tx3 [.list [],.list ((tell cl t).2.map V.str),.tuple [.str (tell cl t).1,.ref 9,.frz (plc t)]]) 2 L',hc.trans ((whileS (e:=rT) (b:=rB) e).trans ((retF' e4).trans ?_))⟩ rfl
 show some (Fl.ret (V.frz (.tuple [.str (tell cl t).1,.frz (.list (((tell cl t).2.map V.str).map (rz _ _ _))),.frz (plc t)])),_,[oMap _ xr.a,oMap _ xr.b]) = _
 rw [rz_strs,xr.ca,xr.cb]; rfl
end
end
noncomputable def lft (s : List Nat) : Bool:=(([] : List Nat) == s) || ((([32] : List Nat) == s) || ((([10] : List Nat) == s) || ((([12] : List Nat) == s) || ((([38] : List Nat) == s) || ((([60] : List Nat) == s) || false)))))
noncomputable def leftF (ins : Bool) (r : List Nat) : Option (List (List Nat)):=bif lft (r.take 1) then some [] else bif lng r == [] then some [eEx] else bif ins && (!semi (lng r) && closeS ((r.drop (lng r).length).take 1)) then some [eNo] else none
theorem tab_v : (nms.all fun x=>match ent x with | some v=>v.all okc && ((v == [34] || !v.contains 34) && ((v == [38] || !v.contains 38) && (Nat.ble v.length 2 && Nat.ble 1 v.length))) | none=>false) = true:=by decide +kernel
theorem tab_s : (nms.all fun x=>semi x || (ent (x ++ [59]) == ent x)) = true:=by decide +kernel
theorem tab_f : (nms.all fun x=>!(x.contains 34) && (!(lft (x.take 1)) && (!(ent x == some [38]) || Nat.ble x.length 4))) = true:=by decide +kernel
theorem tab_e : ([[38],[34],[60]].all fun u=>nms.any fun x=>ent x == some u) = true:=by decide +kernel
theorem na38 : na 38 = false:=by decide
theorem tell_lit {cl : Option Nat} {u r : List Nat} (h : ∀ c ∈ u,na c = true) : tell cl (u ++ r) = (u ++ (tell cl r).1,(tell cl r).2):=by
 rw [tell_tw,tell_tw cl r,tw_all r h,dw_all r h,List.append_assoc]
theorem tell_amp {cl : Option Nat} {nm r v : List Nat} {fa : List (List Nat)} (hn : ∀ c ∈ nm,na c = true) (h1 : seg cl (nm ++ r.takeWhile na) = v ++ r.takeWhile na) (h2 : tl cl (nm ++ r.takeWhile na) = fa) : tell cl (38 :: (nm ++ r)) = (v ++ (tell cl r).1,fa ++ (tell cl r).2):=by
 rw [tell_tw cl (38 :: (nm ++ r)),tell_tw cl r,List.takeWhile_cons,List.dropWhile_cons,na38]
 show (([] : List Nat) ++ ((spl 38 (nm ++ r)).map (seg cl)).flatten,((spl 38 (nm ++ r)).map (tl cl)).flatten) = _
 rw [spl_tw,tw_all r hn,dw_all r hn,List.map_cons,List.map_cons,List.flatten_cons,List.flatten_cons,h1,h2,List.nil_append,List.append_assoc]
theorem tw_one (r : List Nat) : (r.takeWhile na).take 1 = r.take 1 ∨ (r.takeWhile na = [] ∧ r.take 1 = [38]):=by
 cases r with
 | nil=>exact .inl rfl
 | cons c r =>
  rw [List.takeWhile_cons]
  by_cases h : c = 38
  ·subst h; rw [na38]; exact .inr ⟨rfl,rfl⟩
  ·rw [na_iff.mpr h]; exact .inl rfl
theorem clo_tw (r : List Nat) : closeS ((r.takeWhile na).take 1) = closeS (r.take 1):=by
 rcases tw_one r with h | ⟨h,k⟩
 ·rw [h]
 ·rw [h,k]; decide +kernel
theorem end_tw {cl : Option Nat} {r : List Nat} (hc : cl = none ∨ cl = some 34) (hq : cl.isSome = true → 34 ∉ r) : endS cl ((r.takeWhile na).take 1) = lft (r.take 1):=by
 rcases tw_one r with h | ⟨h,k⟩
 ·rw [h]
  rcases hc with rfl | rfl
  ·exact Bool.or_false _
  ·show (lft (r.take 1) || (r.take 1 == [34])) = _
   rw [show (r.take 1 == [34]) = false from beq_false_of_ne fun e=>hq rfl ?_,Bool.or_false]
   exact List.mem_of_mem_take (i:=1) (e ▸ .head _)
 ·rw [h,k]; rfl
theorem drop_tw {r : List Nat} {n : Nat} (h : n ≤ (r.takeWhile na).length) : (r.takeWhile na).drop n = (r.drop n).takeWhile na:=by
 have e:=List.takeWhile_append_dropWhile (p:=na) (l:=r)
 have h1 : r.drop n = (r.takeWhile na).drop n ++ r.dropWhile na:=by
  have:=congrArg (fun l=>l.drop n) e
  rw [← this,List.drop_append_of_le_length h]
 rw [h1,tw_all _ fun c hc=>tw_sat (List.mem_of_mem_drop hc)]
 rcases dw_end (p:=na) r with q | ⟨c,t,q,hc⟩
 ·rw [q]; exact (List.append_nil _).symm
 ·rw [q,List.takeWhile_cons,hc]; exact (List.append_nil _).symm
theorem left_tell {cl : Option Nat} {r : List Nat} {l : List (List Nat)} (hc : cl = none ∨ cl = some 34) (hq : cl.isSome = true → 34 ∉ r) (h : leftF cl.isSome r = some l) : tell cl (38 :: r) = (38 :: (tell cl r).1,l ++ (tell cl r).2):=by
 refine tell_amp (nm:=[]) (v:=[38]) (fun c hc=>nomatch hc) ?_ ?_
 all_goals
  have he:=end_tw hc hq
  have hl:=lng_part r
  unfold leftF at h
  show _ = _
  rw [List.nil_append]
 ·cases h1 : lft (r.take 1) with
  | true=>exact (tl_ends (he.trans h1)).2
  | false =>
   rw [h1] at h he
   have hb : best cl (r.takeWhile na) = lng r:=by unfold best; rw [he,hl]; rfl
   unfold seg stays
   rw [hb]
   cases h2 : lng r == [] with
   | true=>rfl
   | false =>
    rw [h2] at h
    have hp : (lng r).length ≤ (r.takeWhile na).length:=hl ▸ (lng_is (r.takeWhile na)).pre.length_le
    rw [drop_tw hp,clo_tw]
    cases h3 : cl.isSome && (!semi (lng r) && closeS ((r.drop (lng r).length).take 1)) with
    | true=>rfl
    | false=>rw [h3] at h; cases h
 ·cases h1 : lft (r.take 1) with
  | true =>
   rw [h1] at h; cases h
   exact (tl_ends (he.trans h1)).1
  | false =>
   rw [h1] at h he
   have hb : best cl (r.takeWhile na) = lng r:=by unfold best; rw [he,hl]; rfl
   unfold tl
   rw [hb,he]
   cases h2 : lng r == [] with
   | true=>rw [h2] at h; cases h; rfl
   | false =>
    rw [h2] at h
    cases h3 : cl.isSome && (!semi (lng r) && closeS ((r.drop (lng r).length).take 1)) with
    | true =>
     rw [h3] at h; cases h
     rw [Bool.and_eq_true,Bool.and_eq_true] at h3
     rw [h3.2.1]; rfl
    | false=>rw [h3] at h; cases h
theorem semi_lng {b q : List Nat} (hb : b ∈ nms) (hs : semi b = true) : lng (b ++ q) = b:=Lng.eq ⟨.inr hb,List.prefix_append _ _,fun x hx hp=>by
 refine Nat.le_of_not_lt fun hlt=>?_
 have h1 : b <+: x:=List.prefix_of_prefix_length_le (List.prefix_append _ _) hp (Nat.le_of_lt hlt)
 have:=(t_pre hb hx h1 (fun e=>absurd hlt (by rw [e]; exact Nat.lt_irrefl _))).1
 rw [hs] at this; cases this⟩
structure Sg (cl : Option Nat) (u r sp : List Nat) (fa : List (List Nat)) : Prop where
 tell : tell cl (sp ++ r) = (u ++ (tell cl r).1,fa ++ (tell cl r).2)
 ok : ∀ c ∈ sp,okc c = true
 q : cl.isSome = true → 34 ∉ sp
 len : sp.length ≤ 13
 len5 : u = [38] → sp.length ≤ 5
 fal : fa.length ≤ 1
theorem sg_name {cl : Option Nat} {u b r : List Nat} (hc : cl = none ∨ cl = some 34) (hb : b ∈ nms) (hu : ent b = some u) (hl : lng (b ++ r) = b) (hs : (cl.isSome && (!semi b && closeS (r.take 1))) = false) : Sg cl u r (38 :: b) (bif semi b then [] else [eNo]):=by
 have hn:=t_amp hb
 have h1 : lng (b ++ r.takeWhile na) = b:=by rw [← tw_all r hn,← lng_part]; exact hl
 have h2:=List.all_eq_true.mp tab_f b hb
 rw [Bool.and_eq_true,Bool.and_eq_true,Bool.not_eq_true',Bool.not_eq_true'] at h2
 have hne : b ≠ []:=fun e=>tab_ne (e ▸ hb)
 have h34 : 34 ∉ b:=fun q=>by rw [List.contains_iff_mem.mpr q] at h2; cases h2.1
 have h3 : endS cl ((b ++ r.takeWhile na).take 1) = false:=by
  rw [take1 hne]
  have e1 : (lft (b.take 1)) = false:=h2.2.1
  rcases hc with rfl | rfl
  ·exact (Bool.or_false _).trans e1
  ·show (lft (b.take 1) || (b.take 1 == [34])) = _
   rw [e1,Bool.false_or]
   exact beq_false_of_ne fun e=>h34 (List.mem_of_mem_take (i:=1) (e ▸ .head _))
 have hbest : best cl (b ++ r.takeWhile na) = b:=by unfold best; rw [h3]; exact h1
 have hn0 : (b == []) = false:=beq_false_of_ne hne
 have hok:=List.all_eq_true.mp nms_ok b hb
 rw [Bool.and_eq_true,Bool.and_eq_true] at hok
 have hl12:=Nat.le_of_ble_eq_true hok.2.1
 refine ⟨tell_amp hn ?_ ?_,?_,?_,by rw [List.length_cons]; lia,fun e=>?_,?_⟩
 ·unfold seg stays
  rw [hbest,hn0,List.drop_left,clo_tw,hs,hu]; rfl
 ·unfold tl
  rw [hbest,hn0,h3]
  cases semi b <;> rfl
 ·intro c hm
  rcases List.mem_cons.mp hm with rfl | hm
  ·decide
  ·exact List.all_eq_true.mp hok.1 c hm
 ·intro _ hm
  rcases List.mem_cons.mp hm with e | hm
  ·cases e
  ·exact h34 hm
 ·subst e
  have:=h2.2.2
  rw [hu,show (some [38] == some ([38] : List Nat)) = true from beq_self_eq_true _] at this
  exact Nat.succ_le_succ (Nat.le_of_ble_eq_true this)
 ·cases semi b
  ·exact Nat.le_refl _
  ·exact Nat.zero_le _
structure Un (u : List Nat) : Prop where
 ok : ∀ c ∈ u,okc c = true
 a34 : u = [34] ∨ 34 ∉ u
 a38 : u = [38] ∨ 38 ∉ u
 l2 : u.length ≤ 2
 l1 : 1 ≤ u.length
theorem un_ent {x v : List Nat} (hx : x ∈ nms) (e : ent x = some v) : Un v:=by
 have h:=List.all_eq_true.mp tab_v x hx
 rw [e] at h
 simp only [Bool.and_eq_true,Bool.or_eq_true,beq_iff_eq,Bool.not_eq_true'] at h
 refine ⟨List.all_eq_true.mp h.1,h.2.1.imp id fun q m=>?_,h.2.2.1.imp id fun q m=>?_,Nat.le_of_ble_eq_true h.2.2.2.1,Nat.le_of_ble_eq_true h.2.2.2.2⟩
 ·rw [List.contains_iff_mem.mpr m] at q; cases q
 ·rw [List.contains_iff_mem.mpr m] at q; cases q
theorem un_one {c : Nat} (h : okc c = true) : Un [c]:=by
 refine ⟨fun d hd=>by obtain rfl:=List.mem_singleton.mp hd; exact h,?_,?_,Nat.le_succ 1,Nat.le_refl 1⟩
 ·by_cases e : c = 34
  ·exact .inl (by rw [e])
  ·exact .inr fun q=>e (List.mem_singleton.mp q).symm
 ·by_cases e : c = 38
  ·exact .inl (by rw [e])
  ·exact .inr fun q=>e (List.mem_singleton.mp q).symm
theorem sg_lit {cl : Option Nat} {u r : List Nat} (hu : Un u) (h : u ≠ [38]) (h2 : cl.isSome = true → u ≠ [34]) : Sg cl u r u []:=by
 have h38:=hu.a38.resolve_left h
 exact ⟨tell_lit fun c hc=>na_iff.mpr fun e=>h38 (e ▸ hc),hu.ok,fun q=>hu.a34.resolve_left (h2 q),Nat.le_trans hu.l2 (by decide),fun e=>absurd e h,Nat.zero_le _⟩
theorem sg_amp {cl : Option Nat} {r : List Nat} {l : List (List Nat)} (hc : cl = none ∨ cl = some 34) (hq : cl.isSome = true → 34 ∉ r) (h : leftF cl.isSome r = some l) : Sg cl [38] r [38] l:=by
 refine ⟨left_tell hc hq h,fun d hd=>by obtain rfl:=List.mem_singleton.mp hd; decide,fun J q=>(by cases q with | tail _ q=>cases q),by decide,fun J=>by decide,?_⟩
 unfold leftF at h
 cases h1 : lft (r.take 1) with
 | true=>rw [h1] at h; cases h; exact Nat.zero_le _
 | false =>
  rw [h1] at h
  cases h2 : lng r == [] with
  | true=>rw [h2] at h; cases h; exact Nat.le_refl _
  | false =>
   rw [h2] at h
   cases h3 : cl.isSome && (!semi (lng r) && closeS ((r.drop (lng r).length).take 1)) with
   | true=>rw [h3] at h; cases h; exact Nat.le_refl _
   | false=>rw [h3] at h; cases h
section
section
variable {F d : Nat} {sx : List (Nat × O)} {σ τ : St} {n k i : Nat} {c : Cx} {L : Loc} {e : PE} {r : List PS}
theorem rz_hi : rz (σ ++ τ) σ.length (k + 1) (.ref (σ.length + i)) = match τ[i]? with | some o=>frzO (rz (σ ++ τ) σ.length k) o | none=>.bad:=by
 show (bif Nat.ble σ.length (σ.length + i) then (match (σ ++ τ)[σ.length + i]? with | some o=>frzO (rz (σ ++ τ) σ.length k) o | none=>.bad) else .bad) = _
 rw [Nat.ble_eq_true_of_le (Nat.le_add_right _ _),List.getElem?_append_right (Nat.le_add_right _ _),Nat.add_sub_cancel_left]; rfl
theorem rv_hi : rv (σ ++ τ) σ.length (.ref (σ.length + i)) = rz (σ ++ τ) σ.length 6 (.ref (σ.length + i)):=by
 show (bif Nat.blt (σ.length + i) σ.length then _ else _) = _
 rw [show Nat.blt (σ.length + i) σ.length = false from Bool.eq_false_iff.mpr fun h=>absurd (Nat.le_of_ble_eq_true h) (by lia)]; rfl
theorem retC {v w : V} (hC : Cld σ) (h : evE c e L σ = some (v,σ ++ τ)) (hv : rv (σ ++ τ) σ.length v = w) : evSs c (.retf e :: r) σ.length L σ = some (.ret w,gcL (σ ++ τ) σ.length L,σ):=by
 rw [retF' h,gcS_app hC,hv]
theorem retC2 {v w : V} {τ0 : St} (hC : Cld σ) (h : evE c e L (σ ++ τ0) = some (v,σ ++ τ)) (hv : rv (σ ++ τ) σ.length v = w) : evSs c (.retf e :: r) σ.length L (σ ++ τ0) = some (.ret w,gcL (σ ++ τ) σ.length L,σ):=by
 rw [retF' h,gcS_app hC,hv]
theorem lstE {τ0 : St} {es : List PE} {l : List (List Nat)} (hl : l.length ≤ LIM) (h : evEs c es L (σ ++ τ0) = some (l.map V.str,σ ++ τ0)) : evE c (.listE es) L (σ ++ τ0) = some (.ref (σ.length + τ0.length),σ ++ (τ0 ++ [.list (l.map V.str)])):=by
 rw [evE_listE,h,← List.append_assoc,← List.length_append]
 exact allocL_eq (by rw [List.length_map]; exact hl)
theorem rv_lst {τ0 : St} {l : List (List Nat)} : rv (σ ++ (τ0 ++ [.list (l.map V.str)])) σ.length (.ref (σ.length + τ0.length)) = .frz (.list (l.map V.str)):=by
 rw [rv_hi,rz_hi,lk_last]
 show V.frz (.list ((l.map V.str).map (rz _ _ _))) = _
 rw [rz_strs]
theorem retL {es : List PE} {l : List (List Nat)} (hC : Cld σ) (hl : l.length ≤ LIM) (h : evEs c es L σ = some (l.map V.str,σ)) : ∃ L',evSs c (.retf (.listE es) :: r) σ.length L σ = some (.ret (.frz (.list (l.map V.str))),L',σ):=by
 have h1:=lstE (τ0:=[]) (σ:=σ) (c:=c) (L:=L) (es:=es) (l:=l) hl (by rw [List.append_nil]; exact h)
 rw [List.append_nil] at h1
 exact ⟨_,retC hC h1 (rv_lst (τ0:=[]))⟩
theorem ifTr {t : PE} {b o : List PS} {σ1 σ' : St} {L' : Loc} {v : V} {z : Nat} (h : evT c t L σ = some (true,σ1)) (h2 : evSs c b z L σ1 = some (.ret v,L',σ')) : evSs c (.ifs t b o :: r) z L σ = some (.ret v,L',σ'):=(ifT h).trans (by rw [h2]; rfl)
noncomputable def optL : Option (List (List Nat)) → V | none=>.none | some l=>.frz (.list (l.map V.str))
theorem x801 {w : List Nat} {ins : Bool} (hC : Cld σ) (hw : w.length ≤ 10000) : runF (Law2.pr sx) F (d + 2) 801 [.str w,.bool ins] σ = some (optL (leftF ins w),σ):=by
 unfold leftF
 have s1 : evE (cD sx F (d + 1)) (.slice (.loc 92) (.const .none) (.const (.int 1))) [(92,.str w),(121,.bool ins)] σ = some (.str (w.take 1),σ):=sl_take (k:=1) rfl rfl
 have t1 : evT (cD sx F (d + 1)) (.cmp .isin (.slice (.loc 92) (.const .none) (.const (.int 1))) (.tupE [.const (.str []),.const (.str [32]),.const (.str [10]),.const (.str [12]),.const (.str [38]),.const (.str [60])])) [(92,.str w),(121,.bool ins)] σ = some (lft (w.take 1),σ):=cmpT s1 rfl rfl
 cases h1 : lft (w.take 1) with
 | true =>
  rw [h1] at t1
  obtain ⟨L',e1⟩:=retL (c:=cD sx F (d + 1)) (L:=[(92,.str w),(121,.bool ins)]) (es:=[]) (l:=[]) (r:=[]) hC (by decide) rfl
  exact fn_ex (by rfl) (fl:=.ret (.frz (.list []))) rfl rfl ⟨L',ifTr t1 e1⟩ rfl
 | false =>
  rw [h1] at t1
  have a2 : evE (cD sx F (d + 1)) (.call 794 [.loc 92]) [(92,.str w),(121,.bool ins)] σ = some (.str (lng w),σ):=callE (evEs1 rfl) x794
  have t2 : evT (cD sx F (d + 1)) (.cmp .eq (.loc 93) (.const (.str []))) [(92,.str w),(121,.bool ins),(93,.str (lng w))] σ = some (lng w == [],σ):=cmpT rfl evE_const rfl
  cases h2 : lng w == [] with
  | true =>
   rw [h2] at t2
   obtain ⟨L',e1⟩:=retL (c:=cD sx F (d + 1)) (L:=[(92,.str w),(121,.bool ins),(93,.str (lng w))]) (es:=[.const (.str eEx)]) (l:=[eEx]) (r:=[]) hC (by decide) rfl
   exact fn_ex (by rfl) (fl:=.ret (.frz (.list [.str eEx]))) rfl rfl ⟨L',(ifN t1).trans ((asgL a2).trans (ifTr t2 e1))⟩ rfl
  | false =>
   rw [h2] at t2
   have hne : lng w ≠ []:=fun e=>by rw [e] at h2; cases h2
   have hle:=(lng_is w).pre.length_le
   have t3 : evT (cD sx F (d + 1)) (.andE (.loc 121) (.andE (.cmp .ne (.sub (.loc 93) (.neg (.const (.int 1)))) (.const (.str [59]))) (.call 787 [.slice (.loc 92) (.len (.loc 93)) (.bin .add (.len (.loc 93)) (.const (.int 1)))]))) [(92,.str w),(121,.bool ins),(93,.str (lng w))] σ = some (ins && (!semi (lng w) && closeS ((w.drop (lng w).length).take 1)),σ) :=
    andTL rfl fun J=>andTL (semi_E (i:=93) (b:=lng w) rfl hne).1 fun J=>callT (evEs1 (sl_mid (k:=(lng w).length) rfl (lenE rfl) (iaddE (lenE rfl) evE_const))) x787
   cases h3 : ins && (!semi (lng w) && closeS ((w.drop (lng w).length).take 1)) with
   | true =>
    rw [h3] at t3
    obtain ⟨L',e1⟩:=retL (c:=cD sx F (d + 1)) (L:=[(92,.str w),(121,.bool ins),(93,.str (lng w))]) (es:=[.const (.str eNo)]) (l:=[eNo]) (r:=[]) hC (by decide) rfl
    exact fn_ex (by rfl) (fl:=.ret (.frz (.list [.str eNo]))) rfl rfl ⟨L',(ifN t1).trans ((asgL a2).trans ((ifN t2).trans (ifTr t3 e1)))⟩ rfl
   | false =>
    rw [h3] at t3
    have e1:=retC (c:=cD sx F (d + 1)) (L:=[(92,.str w),(121,.bool ins),(93,.str (lng w))]) (e:=.const .none) (r:=[]) (v:=.none) (w:=.none) (τ:=[]) hC (by rw [List.append_nil]; rfl) rfl
    exact fn_ex (by rfl) (fl:=.ret .none) rfl rfl ⟨_,(ifN t1).trans ((asgL a2).trans ((ifN t2).trans ((ifN t3).trans e1)))⟩ rfl
noncomputable def wordsL : List (List Nat):=[[38,108,116,59],[38,97,109,112,59],[38],[38,110,111,116],[38,110,111],[97,109,112,59],[108,116],[116,59],[105,110,59],[98,59],[61],[59],[49],[120],[32],[10],[60],[62],[34],[90],[65,77,80],[123],[12]]
theorem x773 : runF (Law2.pr sx) F (d + 1) 773 [] [] = some (.frz (.list (wordsL.map V.str)),[]):=fn_ex (by rfl) (fl:=.ret (.frz (.list (wordsL.map V.str)))) rfl rfl ⟨[],rfl⟩ rfl
theorem words_ok : (wordsL.all fun s=>s.all okc && Nat.ble s.length 5) = true:=by decide +kernel
theorem x780 {n : Int} : ∃ us : List (List Nat),runF (Law2.pr sx) F (d + 2) 780 [.int n] [] = some (.frz (.list (us.map V.str)),[]) ∧ us.length ≤ 5 ∧ ∀ u ∈ us,Un u:=by
 have t1 : evT (cD sx F (d + 1)) (.cmp .eq (.bin .mod (.loc 31) (.const (.int 3))) (.const (.int 0))) [(31,.int n),(32,.int (Int.fdiv n 3))] [] = some (Int.fmod n 3 == 0,[]):=rfl
 have t2 : evT (cD sx F (d + 1)) (.cmp .eq (.bin .mod (.loc 31) (.const (.int 3))) (.const (.int 1))) [(31,.int n),(32,.int (Int.fdiv n 3))] [] = some (Int.fmod n 3 == 1,[]):=rfl
 cases h1 : Int.fmod n 3 == 0 with
 | true =>
  rw [h1] at t1
  obtain ⟨j,hj,hl⟩:=idx_mod (n:=43) (i:=Int.fdiv n 3) (by decide)
  have hx : nms[j]? = some nms[j]:=List.getElem?_eq_getElem hl
  have hm : nms[j] ∈ nms:=List.getElem_mem hl
  obtain ⟨v,hv,_⟩:=t_len hm
  refine ⟨[v],?_,Nat.le_add_left 1 4,fun u hu=>by obtain rfl:=List.mem_singleton.mp hu; exact un_ent hm hv⟩
  have e1 : evE (cD sx F (d + 1)) (.sub (.glob (.sref 43)) (.sub (.loc 7) (.bin .mod (.loc 32) (.len (.loc 7))))) [(31,.int n),(32,.int (Int.fdiv n 3)),(7,.ref 0)] [.list (nms.map V.str)] = some (.str v,[.list (nms.map V.str)]):=by
   have e2 : evE (cD sx F (d + 1)) (.sub (.loc 7) (.bin .mod (.loc 32) (.len (.loc 7)))) [(31,.int n),(32,.int (Int.fdiv n 3)),(7,.ref 0)] [.list (nms.map V.str)] = some (.str nms[j],[.list (nms.map V.str)]):=by
    show Option.map _ ((idxOf 43 (Int.fmod (Int.fdiv n 3) 43)).bind fun j=>(nms.map V.str)[j]?) = _
    rw [show idxOf 43 (Int.fmod (Int.fdiv n 3) 43) = some j from hj,Option.bind_some,List.getElem?_map,hx]; rfl
   rw [evE_sub,evE_glob,Option.bind_some]
   show Option.bind (evE _ (.sub (.loc 7) (.bin .mod (.loc 32) (.len (.loc 7)))) _ _) _ = _
   rw [e2,Option.bind_some]
   show Option.map _ (getS nms[j] kvs) = _
   rw [getS_kvs,hv]; rfl
  have e3 : evE (cD sx F (d + 1)) (.listE [.sub (.glob (.sref 43)) (.sub (.loc 7) (.bin .mod (.loc 32) (.len (.loc 7))))]) [(31,.int n),(32,.int (Int.fdiv n 3)),(7,.ref 0)] [.list (nms.map V.str)] = some (.ref 1,[.list (nms.map V.str),.list [.str v]]):=by
   rw [evE_listE,evEs1 e1]; rfl
  refine fn_ex (by rfl) (fl:=.ret (.frz (.list [.str v]))) rfl rfl ⟨gcL [.list (nms.map V.str),.list [.str v]] 0 [(31,.int n),(32,.int (Int.fdiv n 3)),(7,.ref 0)],(asgL (v:=.int (Int.fdiv n 3)) (σ1:=[]) rfl).trans (ifTr t1 ?_)⟩ rfl
  have e4 : evSs (cD sx F (d + 1)) [.assign (.l 7) (.listOf (.glob (.sref 43))),.retf (.listE [.sub (.glob (.sref 43)) (.sub (.loc 7) (.bin .mod (.loc 32) (.len (.loc 7))))])] 0 [(31,.int n),(32,.int (Int.fdiv n 3))] [] = some (.ret (.frz (.list [.str v])),gcL [.list (nms.map V.str),.list [.str v]] 0 [(31,.int n),(32,.int (Int.fdiv n 3)),(7,.ref 0)],[]) :=
   (asgL (v:=.ref 0) (σ1:=[.list (nms.map V.str)]) rfl).trans ((retF' e3).trans rfl)
  exact e4
 | false =>
  rw [h1] at t1
  cases h2 : Int.fmod n 3 == 1 with
  | true =>
   rw [h2] at t2
   obtain ⟨j,hj,hl⟩:=idx_mod (n:=23) (i:=Int.fdiv n 3) (by decide)
   have hx : wordsL[j]? = some wordsL[j]:=List.getElem?_eq_getElem hl
   have ok:=List.all_eq_true.mp words_ok _ (List.mem_of_getElem? hx)
   rw [Bool.and_eq_true] at ok
   refine ⟨wordsL[j].map fun c=>[c],?_,by rw [List.length_map]; exact Nat.le_of_ble_eq_true ok.2,fun u hu=>by obtain ⟨c,hc,rfl⟩:=List.mem_map.mp hu; exact un_one (List.all_eq_true.mp ok.1 c hc)⟩
   have e1 : evE (cD sx F (d + 1)) (.sub (.call 773 []) (.bin .mod (.loc 32) (.const (.int 23)))) [(31,.int n),(32,.int (Int.fdiv n 3))] [] = some (.str wordsL[j],[]):=by
    rw [evE_sub,evE_call,evEs_nil,Option.bind_some]
    show Option.bind (runF (Law2.pr sx) F (d + 1) 773 [] []) _ = _
    rw [x773]
    show Option.map _ ((idxOf 23 (Int.fmod (Int.fdiv n 3) 23)).bind fun j=>(wordsL.map V.str)[j]?) = _
    rw [show idxOf 23 (Int.fmod (Int.fdiv n 3) 23) = some j from hj,Option.bind_some,List.getElem?_map,hx]; rfl
   generalize wordsL[j] = w at e1 ok ⊢
   have hw : (w.map fun c=>V.str [c]) = (w.map fun c=>[c]).map V.str:=by rw [List.map_map]; rfl
   have e2 : evE (cD sx F (d + 1)) (.listOf (.sub (.call 773 []) (.bin .mod (.loc 32) (.const (.int 23))))) [(31,.int n),(32,.int (Int.fdiv n 3))] [] = some (.ref 0,[.list ((w.map fun c=>[c]).map V.str)]):=by
    rw [evE_listOf,e1]
    show allocL (w.map fun c=>V.str [c]) [] = _
    rw [hw]
    exact allocL_eq (by rw [List.length_map,List.length_map]; exact Nat.le_trans (Nat.le_of_ble_eq_true ok.2) (by decide))
   refine fn_ex (by rfl) (fl:=.ret (.frz (.list ((w.map fun c=>[c]).map V.str)))) rfl rfl ⟨gcL [.list ((w.map fun c=>[c]).map V.str)] 0 [(31,.int n),(32,.int (Int.fdiv n 3))],(asgL (v:=.int (Int.fdiv n 3)) (σ1:=[]) rfl).trans ((ifN t1).trans (ifTr t2 ?_))⟩ rfl
   rw [retF' e2]
   show some (Fl.ret (V.frz (.list (((w.map fun c=>[c]).map V.str).map (rz _ _ _)))),_,([] : St)) = _
   rw [rz_strs]; rfl
  | false =>
   rw [h2] at t2
   have hm : 0 ≤ Int.fmod (Int.fdiv n 3) 1113951 ∧ Int.fmod (Int.fdiv n 3) 1113951 < 1113951:=⟨Int.fmod_nonneg_of_pos _ (by decide),Int.fmod_lt_of_pos _ (by decide)⟩
   generalize hk : Int.fmod (Int.fdiv n 3) 1113951 = k at hm
   have t3 : evE (cD sx F (d + 1)) (.chain .le .lt (.const (.int 55296)) (.loc 126) (.const (.int 57344))) [(31,.int n),(32,.int (Int.fdiv n 3)),(126,.int (161 + k))] [] = some (.bool (decide (55296 ≤ 161 + k) && decide (161 + k < 57344)),[]):=by
    rw [evE_chain,evE_const,Option.bind_some]
    show (Option.bind (evE (cD sx F (d + 1)) (.loc 126) [(31,.int n),(32,.int (Int.fdiv n 3)),(126,.int (161 + k))] []) _) = _
    rw [getE (v:=.int (161 + k)) rfl,Option.bind_some]
    show ((some (decide (55296 ≤ 161 + k))).bind _) = _
    cases decide (55296 ≤ 161 + k) <;> rfl
   have t4 : evT (cD sx F (d + 1)) (.chain .le .lt (.const (.int 55296)) (.loc 126) (.const (.int 57344))) [(31,.int n),(32,.int (Int.fdiv n 3)),(126,.int (161 + k))] [] = some (decide (55296 ≤ 161 + k) && decide (161 + k < 57344),[]):=by rw [evT_chain,t3]; rfl
   obtain ⟨c,hc,e1⟩ : ∃ c : Nat,okc c = true ∧ evE (cD sx F (d + 1)) (.ife (.chain .le .lt (.const (.int 55296)) (.loc 126) (.const (.int 57344))) (.const (.str [955])) (.chr (.loc 126))) [(31,.int n),(32,.int (Int.fdiv n 3)),(126,.int (161 + k))] [] = some (.str [c],[]):=by
    cases hq : decide (55296 ≤ 161 + k) && decide (161 + k < 57344) with
    | true=>exact ⟨955,by decide,iteE t4 (fun J=>evE_const) (fun h=>by rw [hq] at h; cases h)⟩
    | false =>
     refine ⟨(161 + k).toNat,?_,iteE t4 (fun h=>by rw [hq] at h; cases h) (fun J=>?_)⟩
     ·rw [Bool.and_eq_false_iff,decide_eq_false_iff_not,decide_eq_false_iff_not] at hq
      unfold okc
      simp only [Bool.not_eq_true',Bool.or_eq_false_iff,Bool.and_eq_false_iff,beq_eq_false_iff_ne]
      refine ⟨by omega,by omega,by omega,?_⟩
      rw [← Bool.not_eq_true,← Bool.not_eq_true,Nat.ble_eq,Nat.ble_eq]
      omega
     ·rw [evE_chr]
      show Option.bind (some (V.int (161 + k),([] : St))) _ = _
      exact if_pos (by omega)
   refine ⟨[[c]],?_,Nat.le_add_left 1 4,fun u hu=>by obtain rfl:=List.mem_singleton.mp hu; exact un_one hc⟩
   have e2 : evE (cD sx F (d + 1)) (.listE [.ife (.chain .le .lt (.const (.int 55296)) (.loc 126) (.const (.int 57344))) (.const (.str [955])) (.chr (.loc 126))]) [(31,.int n),(32,.int (Int.fdiv n 3)),(126,.int (161 + k))] [] = some (.ref 0,[.list [.str [c]]]):=by
    rw [evE_listE,evEs1 e1]; rfl
   have e3 : evE (cD sx F (d + 1)) (.bin .add (.const (.int 161)) (.bin .mod (.loc 32) (.const (.int 1113951)))) [(31,.int n),(32,.int (Int.fdiv n 3))] [] = some (.int (161 + k),[]):=by rw [← hk]; rfl
   exact fn_ex (by rfl) (fl:=.ret (.frz (.list [.str [c]]))) rfl rfl ⟨gcL [.list [.str [c]]] 0 [(31,.int n),(32,.int (Int.fdiv n 3)),(126,.int (161 + k))],(asgL (v:=.int (Int.fdiv n 3)) (σ1:=[]) rfl).trans ((ifN t1).trans ((ifN t2).trans ((asgL e3).trans ((retF' e2).trans rfl))))⟩ rfl
end
end
section
noncomputable def NoR (σ : St) : Prop:=∀ o ∈ σ,∀ s n,oMap (rv s n) o = o
theorem NoR.cld {σ : St} (h : NoR σ) : Cld σ:=fun s=>(List.map_congr_left fun o ho=>h o ho s σ.length).trans (List.map_id σ)
theorem NoR.app {σ τ : St} (h : NoR σ) (k : NoR τ) : NoR (σ ++ τ):=fun o ho=>(List.mem_append.mp ho).elim (h o) (k o)
theorem noR_one {o : O} (h : ∀ s n,oMap (rv s n) o = o) : NoR [o]:=fun J q=>(List.mem_singleton.mp q) ▸ h
theorem noR_strs (l : List (List Nat)) : NoR [.list (l.map V.str)]:=noR_one fun s n=>congrArg O.list (rv_strs l)
section
variable {F d : Nat} {sx : List (Nat × O)} {σ τ τ0 : St} {n k i : Nat} {c : Cx} {L : Loc} {e : PE} {r : List PS} {u w : List Nat} {cl : Option Nat} {way : Int}
theorem retT {x : PE} {s : List Nat} {es : List PE} {l : List (List Nat)} (hC : Cld σ) (hx : evE c x L (σ ++ τ0) = some (.str s,σ ++ τ0)) (hl : l.length ≤ LIM) (h : evEs c es L (σ ++ τ0) = some (l.map V.str,σ ++ τ0)) :
 ∃ L',evSs c (.retf (.tupE [x,.listE es]) :: r) σ.length L (σ ++ τ0) = some (.ret (.frz (.tuple [.str s,.frz (.list (l.map V.str))])),L',σ):=by
 have h1 : evE c (.tupE [x,.listE es]) L (σ ++ τ0) = some (.ref (σ.length + (τ0 ++ [O.list (l.map V.str)]).length),σ ++ ((τ0 ++ [O.list (l.map V.str)]) ++ [.tuple [.str s,.ref (σ.length + τ0.length)]])):=by
  rw [evE_tupE,evEs2 hx (lstE hl h)]
  show some (V.ref (σ ++ (τ0 ++ [O.list (l.map V.str)])).length,(σ ++ (τ0 ++ [O.list (l.map V.str)])) ++ [O.tuple [V.str s,V.ref (σ.length + τ0.length)]]) = _
  rw [List.length_append,List.append_assoc σ]
 refine ⟨_,retC2 hC h1 ?_⟩
 rw [rv_hi,rz_hi,lk_last]
 show V.frz (.tuple [.str s,rz _ _ _ _]) = _
 rw [rz_hi,List.append_assoc,List.getElem?_append_right (Nat.le_refl _),Nat.sub_self]
 show V.frz (.tuple [.str s,.frz (.list ((l.map V.str).map (rz _ _ _)))]) = _
 rw [rz_strs]
theorem ifTn {t : PE} {b o : List PS} {σ σ1 σ' : St} {L' : Loc} {z : Nat} (h : evT c t L σ = some (true,σ1)) (h2 : evSs c b z L σ1 = some (.next,L',σ')) : evSs c (.ifs t b o :: r) z L σ = evSs c r z L' σ':=(ifT h).trans (by rw [h2]; rfl)
theorem tvB {i : Nat} {b : Bool} {σ : St} (h : getK i L = some (.bool b)) : evT c (.loc i) L σ = some (b,σ):=by
 show Option.bind (evE c (.loc i) L σ) _ = _
 rw [getE h]; rfl
noncomputable def pu (u x : List Nat) : Bool:=(ent x).getD [] == u
noncomputable def Ns (u : List Nat) : List (List Nat):=nms.filter (pu u)
noncomputable def puE : PE:=.cmp .eq (.sub (.glob (.sref 43)) (.loc 8)) (.loc 127)
theorem pu_loop {still : St → Bool} (hs : still σ = true) : ∀ (xs : List (List Nat)) (L : Loc),(∀ x ∈ xs,x ∈ nms) → getK 127 L = some (.str u) → compL (fun v L s=>bindFt (cD sx F d) s (.one 8) v L) still (fun L1 s=>(evT (cD sx F d) puE L1 s).bind fun (b,s1)=>eltL b s1 (evE (cD sx F d) (.loc 8) L1 s1)) (xs.map V.str) L σ = some ((xs.filter (pu u)).map V.str,σ)
 | [],L,_,_=>compL_nil.trans (if_pos hs)
 | x :: xs,L,hm,hL=>by
  have a8 : getK 8 (putK 8 (.str x) L) = some (.str x):=gk_eq
  have a1 : getK 127 (putK 8 (.str x) L) = some (.str u):=gk_ne (by decide) hL
  obtain ⟨v,hv,_⟩:=t_len (hm x (.head _))
  have ht : evT (cD sx F d) puE (putK 8 (.str x) L) σ = some (pu u x,σ):=cmpT (sub43 a8 hv) (getE a1) (by unfold pu; rw [hv]; rfl)
  have ih:=pu_loop hs xs (putK 8 (.str x) L) (fun y hy=>hm y (.tail _ hy)) a1
  rw [List.map_cons,compL_cons,if_pos hs,List.filter_cons]
  show Option.bind (Option.bind (evT (cD sx F d) puE (putK 8 (.str x) L) σ) _) _ = _
  rw [ht,Option.bind_some]
  cases hq : pu u x with
  | true =>
   show Option.bind ((evE (cD sx F d) (.loc 8) (putK 8 (.str x) L) σ).map _) _ = _
   rw [getE a8]
   show Option.bind (compL _ _ _ (xs.map V.str) _ σ) _ = _
   rw [ih]; rfl
  | false =>
   show Option.bind (compL _ _ _ (xs.map V.str) _ σ) _ = _
   rw [ih]; rfl
theorem ns_le : (Ns u).length ≤ 43:=Nat.le_trans (List.length_filter_le _ _) (Nat.le_of_eq nms_len)
theorem ns_E (hL : getK 127 L = some (.str u)) : evE (cD sx F d) (.comp (.one 8) (.glob (.sref 43)) puE (.loc 8)) L σ = some (.ref σ.length,σ ++ [.list ((Ns u).map V.str)]):=by
 rw [evE_comp,evE_glob,Option.bind_some]
 show Option.bind (iterV (cD sx F d) σ (.sref 43)) _ = _
 rw [keys43,Option.bind_some]
 rw [pu_loop (still_iff.mpr rfl) nms L (fun x h=>h) hL,Option.bind_some]
 exact allocL_eq (by rw [List.length_map]; exact Nat.le_trans ns_le (by decide))
theorem ns_mem {b : List Nat} (h : b ∈ Ns u) : b ∈ nms ∧ ent b = some u:=by
 obtain ⟨h1,h2⟩:=List.mem_filter.mp h
 obtain ⟨v,hv,_⟩:=t_len h1
 unfold pu at h2
 rw [hv] at h2
 exact ⟨h1,hv.trans (congrArg some (eq_of_beq h2))⟩
theorem ns_pos (h : u ∈ [[38],[34],[60]]) : 0 < (Ns u).length:=by
 have h1:=List.all_eq_true.mp tab_e u h
 obtain ⟨x,hx,h2⟩:=List.any_eq_true.mp h1
 refine List.length_pos_of_mem (a:=x) (List.mem_filter.mpr ⟨hx,?_⟩)
 unfold pu
 rw [eq_of_beq h2]
 exact beq_self_eq_true _
theorem len7 {vs : List V} {σ : St} {a : Nat} (h7 : getK 7 L = some (.ref a)) (hσ : σ[a]? = some (.list vs)) : evE c (.len (.loc 7)) L σ = some (.int (vs.length : Nat),σ):=by
 rw [evE_len,getE h7,Option.bind_some]
 show Option.bind (σ[a]?) _ = _
 rw [hσ]; rfl
noncomputable def wayE : PE:=.bin .mod (.loc 129) (.bin .add (.len (.loc 7)) (.const (.int 1)))
theorem way_E {vs : List V} {σ : St} {a : Nat} (h7 : getK 7 L = some (.ref a)) (hσ : σ[a]? = some (.list vs)) (h9 : getK 129 L = some (.int way)) : evE c wayE L σ = some (.int (Int.fmod way ((vs.length : Nat) + 1)),σ):=by
 unfold wayE
 rw [evE_bin,getE h9,Option.bind_some]
 show Option.bind (evE c (.bin .add (.len (.loc 7)) (.const (.int 1))) L σ) _ = _
 rw [iaddE (len7 h7 hσ) evE_const,Option.bind_some]
 exact if_pos (by lia)
theorem sign_2 (hN : NoR σ) (hc : cl = none ∨ cl = some 34) (hw : w.length ≤ 10000) (hu : Un u) (hp : 0 < (Ns u).length)
 (h7 : getK 7 L = some (.ref σ.length)) (h9 : getK 129 L = some (.int way)) (h92 : getK 92 L = some (.str w)) (h121 : getK 121 L = some (.bool cl.isSome)) :
 ∃ sp fa L',evSs (cD sx F (d + 2)) (Law2.f806.drop 2) σ.length L (σ ++ [.list ((Ns u).map V.str)]) = some (.ret (.frz (.tuple [.str sp,.frz (.list (fa.map V.str))])),L',σ) ∧ Sg cl u w sp fa:=by
 have hm1 : 0 ≤ Int.fmod way (((Ns u).map V.str).length + 1):=Int.fmod_nonneg_of_pos _ (by lia)
 have hm2 : Int.fmod way (((Ns u).map V.str).length + 1) < ((Ns u).map V.str).length + 1:=Int.fmod_lt_of_pos _ (by lia)
 have e4:=way_E (c:=cD sx F (d + 2)) (L:=L) (way:=way) (vs:=(Ns u).map V.str) (σ:=σ ++ [.list ((Ns u).map V.str),.list ((Ns u ++ Ns u).map V.str)]) h7 (by rw [List.getElem?_append_right (Nat.le_refl _),Nat.sub_self]; rfl) h9
 have e2 : evE (cD sx F (d + 2)) (.bin .add (.loc 7) (.loc 7)) L (σ ++ [.list ((Ns u).map V.str)]) = some (.ref (σ.length + 1),σ ++ [.list ((Ns u).map V.str),.list ((Ns u ++ Ns u).map V.str)]):=by
  rw [evE_bin,getE h7,Option.bind_some]
  show Option.bind (evE (cD sx F (d + 2)) (.loc 7) L _) _ = _
  rw [getE h7,Option.bind_some]
  show Option.bind ((σ ++ [O.list ((Ns u).map V.str)])[σ.length]?) _ = _
  rw [lk_last,Option.bind_some]
  show Option.bind ((σ ++ [O.list ((Ns u).map V.str)])[σ.length]?) _ = _
  rw [lk_last,Option.bind_some]
  show allocL ((Ns u).map V.str ++ (Ns u).map V.str) _ = _
  rw [← List.map_append,allocL_eq (by rw [List.length_map,List.length_append]; have:=ns_le (u:=u); unfold LIM; lia),List.length_append,List.append_assoc]; rfl
 rw [List.length_map] at hm1 hm2 e4
 generalize Int.fmod way ((Ns u).length + 1) = m at hm1 hm2 e4
 have hlt : m.toNat < (Ns u ++ Ns u).length:=by rw [List.length_append]; lia
 have hx : (Ns u ++ Ns u)[m.toNat]? = some (Ns u ++ Ns u)[m.toNat]:=List.getElem?_eq_getElem hlt
 have hb:=List.getElem_mem hlt
 generalize (Ns u ++ Ns u)[m.toNat] = b at hx hb
 obtain ⟨hb1,hb2⟩:=ns_mem ((List.mem_append.mp hb).elim id id)
 have hne : b ≠ []:=fun e=>tab_ne (e ▸ hb1)
 have e3 : evE (cD sx F (d + 2)) (.sub (.bin .add (.loc 7) (.loc 7)) wayE) L (σ ++ [.list ((Ns u).map V.str)]) = some (.str b,σ ++ [.list ((Ns u).map V.str),.list ((Ns u ++ Ns u).map V.str)]):=by
  rw [evE_sub,e2,Option.bind_some]
  show Option.bind (evE _ wayE L _) _ = _
  rw [e4,Option.bind_some]
  show Option.map _ (Option.bind ((σ ++ [O.list ((Ns u).map V.str),O.list ((Ns u ++ Ns u).map V.str)])[σ.length + 1]?) _) = _
  rw [List.getElem?_append_right (Nat.le_add_right _ _),Nat.add_sub_cancel_left]
  show Option.map _ ((idxOf ((Ns u ++ Ns u).map V.str).length m).bind fun j=>((Ns u ++ Ns u).map V.str)[j]?) = _
  unfold idxOf
  rw [List.length_map,if_pos hm1,if_pos hlt,Option.bind_some,List.getElem?_map,hx]; rfl
 clear e2 e4 hx hb hlt hm1 hm2
 generalize ([.list ((Ns u).map V.str),.list ((Ns u ++ Ns u).map V.str)] : List O) = τ0 at e3
 have g : ∃ sp fa L',evSs (cD sx F (d + 2)) (Law2.f806.drop 3) σ.length (putK 8 (.str b) L) (σ ++ τ0) = some (.ret (.frz (.tuple [.str sp,.frz (.list (fa.map V.str))])),L',σ) ∧ Sg cl u w sp fa:=by
  have b92 : getK 92 (putK 8 (.str b) L) = some (.str w):=gk_ne (by decide) h92
  have b121 : getK 121 (putK 8 (.str b) L) = some (.bool cl.isSome):=gk_ne (by decide) h121
  have b8 : getK 8 (putK 8 (.str b) L) = some (.str b):=gk_eq
  generalize putK 8 (.str b) L = L2 at b92 b121 b8
  have hC:=hN.cld
  have hbl : ∀ {b : List Nat},b ∈ nms → b.length ≤ 12:=fun hb=>by
   have:=List.all_eq_true.mp nms_ok _ hb
   rw [Bool.and_eq_true,Bool.and_eq_true] at this
   exact Nat.le_of_ble_eq_true this.2.1
  have t2:=(semi_E (i:=8) (b:=b) (L:=L2) (σ:=σ ++ τ0) b8 hne (c:=cD sx F (d + 2))).1
  have fin : ∀ {b' : List Nat} {L3 : Loc},getK 8 L3 = some (.str b') → b' ∈ nms → ent b' = some u → semi b' = true → ∃ L',evSs (cD sx F (d + 2)) (Law2.f806.drop 4) σ.length L3 (σ ++ τ0) = some (.ret (.frz (.tuple [.str (38 :: b'),.frz (.list (([] : List (List Nat)).map V.str))])),L',σ) ∧ Sg cl u w (38 :: b') []:=fun {b' L3} h8 h1 h2 h3=>by
   obtain ⟨L',e⟩:=retT (c:=cD sx F (d + 2)) (L:=L3) (τ0:=τ0) (r:=[]) (x:=.bin .add (.const (.str [38])) (.loc 8)) (s:=38 :: b') (es:=[]) (l:=[]) hC (addE (x:=[38]) evE_const (getE h8) (by have:=hbl h1; unfold LIM; show 1 + _ ≤ _; lia)) (Nat.zero_le _) rfl
   have:=sg_name (r:=w) hc h1 h2 (semi_lng h1 h3) (by rw [h3]; cases cl.isSome <;> rfl)
   rw [h3] at this
   exact ⟨L',e,this⟩
  cases hs : semi b with
  | true =>
   rw [hs] at t2
   obtain ⟨L',e,g⟩:=fin b8 hb1 hb2 hs
   exact ⟨_,_,L',(ifN t2).trans e,g⟩
  | false =>
   rw [hs] at t2
   have t3 : evT (cD sx F (d + 2)) (.andE (.cmp .eq (.call 794 [.bin .add (.loc 8) (.loc 92)]) (.loc 8)) (.notE (.andE (.loc 121) (.call 787 [.slice (.loc 92) (.const .none) (.const (.int 1))])))) L2 (σ ++ τ0) = some ((lng (b ++ w) == b) && !(cl.isSome && closeS (w.take 1)),σ ++ τ0) :=
    andTL (cmpT (callE (evEs1 (addE (getE b8) (getE b92) (by have:=hbl hb1; unfold LIM; lia))) x794) (getE b8) rfl) fun J=>notT (andTL (tvB b121) fun J=>callT (evEs1 (sl_take (k:=1) (getE b92) rfl)) x787)
   cases h3 : (lng (b ++ w) == b) && !(cl.isSome && closeS (w.take 1)) with
   | true =>
    rw [h3] at t3
    rw [Bool.and_eq_true,Bool.not_eq_true'] at h3
    obtain ⟨L',e⟩:=retT (c:=cD sx F (d + 2)) (L:=L2) (τ0:=τ0) (r:=[]) (x:=.bin .add (.const (.str [38])) (.loc 8)) (s:=38 :: b) (es:=[.const (.str eNo)]) (l:=[eNo]) hC (addE (x:=[38]) evE_const (getE b8) (by have:=hbl hb1; unfold LIM; show 1 + _ ≤ _; lia)) (by decide) rfl
    have g:=sg_name (r:=w) hc hb1 hb2 (eq_of_beq h3.1) (by rw [hs]; exact h3.2)
    rw [hs] at g
    exact ⟨_,_,L',ifTr t2 (ifTr t3 e),g⟩
   | false =>
    rw [h3] at t3
    have h4:=List.all_eq_true.mp tab_s b hb1
    rw [hs,Bool.false_or] at h4
    have h5 : ent (b ++ [59]) = some u:=(eq_of_beq h4).trans hb2
    have e5 : evE (cD sx F (d + 2)) (.bin .add (.loc 8) (.const (.str [59]))) L2 (σ ++ τ0) = some (.str (b ++ [59]),σ ++ τ0):=addE (getE b8) evE_const (by have:=hbl hb1; unfold LIM; show _ + 1 ≤ _; lia)
    obtain ⟨L',e,g⟩:=fin (L3:=putK 8 (.str (b ++ [59])) L2) gk_eq (mem_iff.mp (by unfold mem; rw [h5]; rfl)) h5 (by unfold semi; rw [List.getLast?_concat]; rfl)
    exact ⟨_,_,L',(ifTn t2 ((ifN t3).trans ((asgL e5).trans rfl))).trans e,g⟩
 obtain ⟨sp,fa,L',h1,h2⟩:=g
 exact ⟨sp,fa,L',(asgL e3).trans h1,h2⟩
theorem x806 (hN : NoR σ) (hc : cl = none ∨ cl = some 34) (hw : w.length ≤ 10000) (hq : cl.isSome = true → 34 ∉ w) (hu : Un u) :
 ∃ sp fa,runF (Law2.pr sx) F (d + 3) 806 [.str u,.str w,.bool cl.isSome,.int way] σ = some (.frz (.tuple [.str sp,.frz (.list (fa.map V.str))]),σ) ∧ Sg cl u w sp fa:=by
 have hC:=hN.cld
 have e1:=ns_E (F:=F) (d:=d + 2) (sx:=sx) (σ:=σ) (u:=u) (L:=[(127,.str u),(92,.str w),(121,.bool cl.isSome),(129,.int way)]) rfl
 have g : ∃ sp fa L',evSs (cD sx F (d + 2)) (Law2.f806.drop 1) σ.length [(127,.str u),(92,.str w),(121,.bool cl.isSome),(129,.int way),(7,.ref σ.length)] (σ ++ [.list ((Ns u).map V.str)]) = some (.ret (.frz (.tuple [.str sp,.frz (.list (fa.map V.str))])),L',σ) ∧ Sg cl u w sp fa:=by
  generalize hL : ([(127,.str u),(92,.str w),(121,.bool cl.isSome),(129,.int way),(7,.ref σ.length)] : Loc) = L
  have b7 : getK 7 L = some (.ref σ.length):=hL ▸ rfl
  have b9 : getK 129 L = some (.int way):=hL ▸ rfl
  have b92 : getK 92 L = some (.str w):=hL ▸ rfl
  have b121 : getK 121 L = some (.bool cl.isSome):=hL ▸ rfl
  have b127 : getK 127 L = some (.str u):=hL ▸ rfl
  clear hL e1
  have k1:=lk_last (σ:=σ) (o:=.list ((Ns u).map V.str))
  have e2:=way_E (c:=cD sx F (d + 2)) (L:=L) (way:=way) b7 k1 b9
  have e3:=len7 (c:=cD sx F (d + 2)) (L:=L) b7 k1
  have t1 : evT (cD sx F (d + 2)) (.cmp .eq wayE (.len (.loc 7))) L (σ ++ [.list ((Ns u).map V.str)]) = some (Int.fmod way ((((Ns u).map V.str).length : Nat) + 1) == (((Ns u).map V.str).length : Nat),σ ++ [.list ((Ns u).map V.str)]):=cmpT e2 e3 rfl
  have hN1 : NoR (σ ++ [.list ((Ns u).map V.str)]):=hN.app (noR_strs _)
  cases h1 : Int.fmod way ((((Ns u).map V.str).length : Nat) + 1) == (((Ns u).map V.str).length : Nat) with
  | false =>
   rw [h1] at t1
   have hp : 0 < (Ns u).length:=by
    refine Nat.pos_of_ne_zero fun h0=>?_
    rw [List.length_map,h0] at h1
    rw [show Int.fmod way ((0 : Nat) + 1) = 0 from Int.fmod_one way] at h1
    cases h1
   obtain ⟨sp,fa,L',g1,g2⟩:=sign_2 (F:=F) (d:=d) (sx:=sx) hN hc hw hu hp b7 b9 b92 b121
   exact ⟨sp,fa,L',(ifN t1).trans g1,g2⟩
  | true =>
   rw [h1] at t1
   have t2 : evT (cD sx F (d + 2)) (.cmp .eq (.loc 127) (.const (.str [38]))) L (σ ++ [.list ((Ns u).map V.str)]) = some (u == [38],σ ++ [.list ((Ns u).map V.str)]):=cmpT (getE b127) evE_const rfl
   cases h2 : u == [38] with
   | true =>
    rw [h2] at t2
    obtain rfl:=eq_of_beq h2
    have e4 : evE (cD sx F (d + 2)) (.call 801 [.loc 92,.loc 121]) L (σ ++ [.list ((Ns [38]).map V.str)]) = some (optL (leftF cl.isSome w),σ ++ [.list ((Ns [38]).map V.str)]):=callE (evEs2 (getE b92) (getE b121)) (x801 hN1.cld hw)
    have c92 : getK 92 (putK 87 (optL (leftF cl.isSome w)) L) = some (.str w):=gk_ne (by decide) b92
    have c9 : getK 129 (putK 87 (optL (leftF cl.isSome w)) L) = some (.int way):=gk_ne (by decide) b9
    have c7 : getK 7 (putK 87 (optL (leftF cl.isSome w)) L) = some (.ref σ.length):=gk_ne (by decide) b7
    have c121 : getK 121 (putK 87 (optL (leftF cl.isSome w)) L) = some (.bool cl.isSome):=gk_ne (by decide) b121
    have c127 : getK 127 (putK 87 (optL (leftF cl.isSome w)) L) = some (.str [38]):=gk_ne (by decide) b127
    have c87 : getK 87 (putK 87 (optL (leftF cl.isSome w)) L) = some (optL (leftF cl.isSome w)):=gk_eq
    have as:=asgL (i:=87) (z:=σ.length) (r:=[.ifs (.cmp .isnot (.loc 87) (.const .none)) [.retf (.tupE [.loc 127,.loc 87])] []]) e4
    generalize putK 87 (optL (leftF cl.isSome w)) L = L2 at c92 c9 c7 c121 c127 c87 as
    cases h3 : leftF cl.isSome w with
    | some l =>
     rw [h3] at c87
     have t3 : evT (cD sx F (d + 2)) (.cmp .isnot (.loc 87) (.const .none)) L2 (σ ++ [.list ((Ns [38]).map V.str)]) = some (true,σ ++ [.list ((Ns [38]).map V.str)]):=cmpT (getE c87) evE_const rfl
     have e5 : evE (cD sx F (d + 2)) (.tupE [.loc 127,.loc 87]) L2 (σ ++ [.list ((Ns [38]).map V.str)]) = some (.frz (.tuple [.str [38],.frz (.list (l.map V.str))]),σ ++ [.list ((Ns [38]).map V.str)]):=by
      rw [evE_tupE,evEs2 (getE c127) (getE c87)]; rfl
     exact ⟨[38],l,_,ifTr t1 (ifTr t2 (as.trans (ifTr t3 (retC2 hC e5 rfl)))),sg_amp hc hq h3⟩
    | none =>
     rw [h3] at c87
     have t3 : evT (cD sx F (d + 2)) (.cmp .isnot (.loc 87) (.const .none)) L2 (σ ++ [.list ((Ns [38]).map V.str)]) = some (false,σ ++ [.list ((Ns [38]).map V.str)]):=cmpT (getE c87) evE_const rfl
     obtain ⟨sp,fa,L',g1,g2⟩:=sign_2 (F:=F) (d:=d) (sx:=sx) hN hc hw hu (ns_pos (.head _)) c7 c9 c92 c121
     exact ⟨sp,fa,L',(ifTn t1 ((ifTn t2 (as.trans ((ifN t3).trans rfl))).trans rfl)).trans g1,g2⟩
   | false =>
    rw [h2] at t2
    have e4 : evE (cD sx F (d + 2)) (.ife (.loc 121) (.const (.str [34])) (.const (.str [60]))) L (σ ++ [.list ((Ns u).map V.str)]) = some (.str (bif cl.isSome then [34] else [60]),σ ++ [.list ((Ns u).map V.str)]) :=
     iteE (tvB b121) (fun q=>by rw [q]; exact evE_const) (fun q=>by rw [q]; exact evE_const)
    have t3 : evT (cD sx F (d + 2)) (.cmp .ne (.loc 127) (.ife (.loc 121) (.const (.str [34])) (.const (.str [60])))) L (σ ++ [.list ((Ns u).map V.str)]) = some (!(u == bif cl.isSome then [34] else [60]),σ ++ [.list ((Ns u).map V.str)]):=cmpT (getE b127) e4 rfl
    cases h3 : u == bif cl.isSome then [34] else [60] with
    | false =>
     rw [h3] at t3
     obtain ⟨L',e5⟩:=retT (c:=cD sx F (d + 2)) (L:=L) (τ0:=[.list ((Ns u).map V.str)]) (r:=[]) (x:=.loc 127) (s:=u) (es:=[]) (l:=[]) hC (getE b127) (Nat.zero_le _) rfl
     refine ⟨u,[],L',ifTr t1 ((ifF t2).trans ?_),sg_lit hu (fun e=>by rw [e] at h2; cases h2) fun q e=>by rw [e,q] at h3; cases h3⟩
     exact Eq.trans (congrArg (fun x=>Option.bind x _) (ifTr t3 e5)) rfl
    | true =>
     rw [h3] at t3
     have hp : 0 < (Ns u).length:=ns_pos (by
      rw [eq_of_beq h3]
      cases cl.isSome
      ·exact .tail _ (.tail _ (.head _))
      ·exact .tail _ (.head _))
     obtain ⟨sp,fa,L',g1,g2⟩:=sign_2 (F:=F) (d:=d) (sx:=sx) hN hc hw hu hp b7 b9 b92 b121
     refine ⟨sp,fa,L',(ifTn t1 ((ifF t2).trans ?_)).trans g1,g2⟩
     exact Eq.trans (congrArg (fun x=>Option.bind x _) ((ifN t3).trans rfl)) rfl
 obtain ⟨sp,fa,L',g1,g2⟩:=g
 exact ⟨sp,fa,fn_ex (by rfl) (fl:=.ret _) rfl rfl ⟨L',(asgL e1).trans g1⟩ rfl,g2⟩
end
end
section
structure WT (cl : Option Nat) (K : Nat) (us : List (List Nat)) (text : List Nat) (told : List (List Nat)) : Prop where
 tell : tell cl text = (us.flatten,told)
 ok : ∀ c ∈ text,okc c = true
 q : cl.isSome = true → 34 ∉ text
 len : text.length ≤ K * us.length
 tl : told.length ≤ us.length
theorem WT.nil {cl : Option Nat} {K : Nat} : WT cl K [] [] []:=⟨rfl,(fun c hc=>nomatch hc),(fun J hc=>nomatch hc),Nat.zero_le _,Nat.le_refl _⟩
theorem WT.cons {cl : Option Nat} {K : Nat} {us fa told : List (List Nat)} {u sp text : List Nat} (h : WT cl K us text told) (g : Sg cl u text sp fa) (hk : sp.length ≤ K) : WT cl K (u :: us) (sp ++ text) (fa ++ told):=by
 refine ⟨?_,fun c hc=>(List.mem_append.mp hc).elim (g.ok c) (h.ok c),fun q hc=>(List.mem_append.mp hc).elim (g.q q) (h.q q),?_,?_⟩
 ·rw [g.tell,h.tell,List.flatten_cons]
 ·rw [List.length_append,List.length_cons,Nat.mul_succ,Nat.add_comm]
  exact Nat.add_le_add h.len hk
 ·rw [List.length_append,List.length_cons,Nat.add_comm]
  exact Nat.add_le_add h.tl g.fal
noncomputable def kOf (lv : Nat) : Nat:=if lv = 0 then 13 else 5
noncomputable def its : Nat → List V
 | 0=>[]
 | n + 1=>.int (n : Nat) :: its n
theorem its_eq : ∀ n : Nat,((List.range n).map fun k=>V.int ((n : Nat) - 1 + (-1) * Int.ofNat k)) = its n
 | 0=>rfl
 | n + 1=>by
  rw [List.range_succ_eq_map,List.map_cons,List.map_map]
  show _ :: _ = V.int (n : Nat) :: its n
  rw [← its_eq n]
  refine congr (congrArg List.cons (congrArg V.int ?_)) (List.map_congr_left fun k J=>congrArg V.int ?_)
  ·show ((n + 1 : Nat) : Int) - 1 + (-1) * 0 = _; lia
  ·show ((n + 1 : Nat) : Int) - 1 + (-1) * ((k + 1 : Nat) : Int) = (n : Int) - 1 + (-1) * (k : Int); lia
section
variable {F d : Nat} {sx : List (Nat × O)} {σ τ τ0 σ1 σ2 : St} {n k i : Nat} {c : Cx} {L : Loc} {e : PE} {r : List PS} {u w : List Nat} {cl : Option Nat} {way : Int} {us told : List (List Nat)} {ns : List Int} {lv : Nat} {v : V} {vs : List V}
theorem evEsC {es : List PE} (h1 : evE c e L σ = some (v,σ1)) (h2 : evEs c es L σ1 = some (vs,σ2)) : evEs c (e :: es) L σ = some (v :: vs,σ2):=by
 rw [evEs_cons,h1,Option.bind_some]
 show Option.bind (evEs c es L σ1) _ = _
 rw [h2]; rfl
theorem two_S {i j z : Nat} {s : List Nat} {l : List (List Nat)} (h : evE c e L σ = some (.frz (.tuple [.str s,.frz (.list (l.map V.str))]),σ1)) : evSs c (.assignT [.l i,.l j] e :: r) z L σ = evSs c r z (putK j (.frz (.list (l.map V.str))) (putK i (.str s) L)) σ1:=by
 rw [evSs_cons,evS_assignT,h]; rfl
theorem addF {x y : PE} {a b : List V} (hx : evE c x L σ = some (.frz (.list a),σ)) (hy : evE c y L σ = some (.frz (.list b),σ)) (hl : a.length + b.length ≤ LIM) : evE c (.bin .add x y) L σ = some (.ref σ.length,σ ++ [.list (a ++ b)]):=by
 rw [evE_bin,hx,Option.bind_some]
 show Option.bind (evE c y L σ) _ = _
 rw [hy]
 exact allocL_eq (by rw [List.length_append]; exact hl)
theorem subF {x y : PE} {a : List V} {j : Nat} {m : Int} (hx : evE c x L σ = some (.frz (.list a),σ)) (hy : evE c y L σ = some (.int m,σ)) (hj : idxOf a.length m = some j) (hv : a[j]? = some v) : evE c (.sub x y) L σ = some (v,σ):=by
 rw [evE_sub,hx,Option.bind_some]
 show Option.bind (evE c y L σ) _ = _
 rw [hy,Option.bind_some]
 show Option.map _ ((idxOf a.length m).bind fun j=>a[j]?) = _
 rw [hj,Option.bind_some,hv]; rfl
noncomputable def wyE : PE:=.bin .add (.bin .add (.bin .fdiv (.sub (.loc 83) (.bin .mod (.loc 84) (.len (.loc 83)))) (.const (.int 3))) (.loc 84)) (.loc 125)
theorem wy_E (hn : 0 < ns.length) (h83 : getK 83 L = some (.frz (.list (ns.map V.int)))) (h84 : getK 84 L = some (.int (i : Nat))) (h125 : getK 125 L = some (.int (lv : Nat))) : ∃ way : Int,evE c wyE L σ = some (.int way,σ):=by
 obtain ⟨j,hj,hl⟩:=idx_mod (n:=ns.length) (i:=(i : Nat)) hn
 have e1 : evE c (.len (.loc 83)) L σ = some (.int (ns.length : Nat),σ):=by
  rw [evE_len,getE h83]
  show some (V.int (((ns.map V.int).length : Nat)),σ) = _
  rw [List.length_map]
 have e2 : evE c (.bin .mod (.loc 84) (.len (.loc 83))) L σ = some (.int (Int.fmod (i : Nat) (ns.length : Nat)),σ):=by
  rw [evE_bin,getE h84,Option.bind_some]
  show Option.bind (evE c (.len (.loc 83)) L σ) _ = _
  rw [e1]
  exact if_pos (by lia)
 have e3 : evE c (.sub (.loc 83) (.bin .mod (.loc 84) (.len (.loc 83)))) L σ = some (.int ns[j],σ):=subF (getE h83) e2 (by rw [List.length_map]; exact hj) (by rw [List.getElem?_map,List.getElem?_eq_getElem hl]; rfl)
 have e4 : evE c (.bin .fdiv (.sub (.loc 83) (.bin .mod (.loc 84) (.len (.loc 83)))) (.const (.int 3))) L σ = some (.int (Int.fdiv ns[j] 3),σ):=by
  rw [evE_bin,e3]; rfl
 exact ⟨_,iaddE (iaddE e4 (getE h84)) (getE h125)⟩
noncomputable def wtE : PE:=.orE (.cmp .eq (.loc 127) (.const (.str [38]))) (.andE (.cmp .eq (.loc 125) (.const (.int 0))) (.orE (.cmp .gt (.ord (.sub (.loc 127) (.neg (.const (.int 1))))) (.const (.int 127))) (.cmp .isin (.loc 127) (.const (.str [60,62,34])))))
theorem wt_T (hu : Un u) (h127 : getK 127 L = some (.str u)) (h125 : getK 125 L = some (.int (lv : Nat))) : ∃ b : Bool,evT c wtE L σ = some (b,σ) ∧ (b = false → u ≠ [38] ∧ (lv = 0 → u ≠ [34])) ∧ (b = true → lv ≠ 0 → u = [38]):=by
 cases hx : u.getLast? with
 | none=>rw [List.getLast?_eq_none_iff.mp hx] at hu; exact absurd hu.l1 (by decide)
 | some x =>
  have e1 : evE c (.ord (.sub (.loc 127) (.neg (.const (.int 1))))) L σ = some (.int (x : Nat),σ):=by rw [evE_ord,last_eq h127 hx]; rfl
  have t1 : evT c (.cmp .gt (.ord (.sub (.loc 127) (.neg (.const (.int 1))))) (.const (.int 127))) L σ = some (decide ((127 : Int) < (x : Nat)),σ):=cmpT e1 evE_const rfl
  have t2 : evT c (.cmp .isin (.loc 127) (.const (.str [60,62,34]))) L σ = some (isSub u [60,62,34],σ):=cmpT (getE h127) evE_const rfl
  have t3 : evT c (.cmp .eq (.loc 125) (.const (.int 0))) L σ = some (((lv : Nat) : Int) == 0,σ):=cmpT (getE h125) evE_const rfl
  have t4 : evT c (.cmp .eq (.loc 127) (.const (.str [38]))) L σ = some (u == [38],σ):=cmpT (getE h127) evE_const rfl
  refine ⟨_,orT t4 (andT t3 (orT t1 t2)),fun h=>?_,fun h hl=>?_⟩
  ·rw [Bool.or_eq_false_iff] at h
   refine ⟨fun e=>(by rw [e] at h; cases h.1),fun h0 e=>?_⟩
   subst e; subst h0
   have:=h.2
   rw [isSub_one] at this
   simp at this
  ·rw [Bool.or_eq_true] at h
   refine h.elim eq_of_beq fun q=>?_
   rw [Bool.and_eq_true,beq_iff_eq] at q
   exact absurd q.1 (by lia)
noncomputable def wB : List PS:=match (Law2.f813[3]? : Option PS) with | some (PS.fors _ _ b)=>b | _=>[]
inductive WI (cl : Option Nat) (us : List (List Nat)) (ns : List Int) (lv : Nat) (σ : St) : List V → Loc → St → Prop
 | mk {j : Nat} {L : Loc} {text : List Nat} {told : List (List Nat)} : j ≤ us.length → getK 122 L = some (.frz (.list (us.map V.str))) → getK 121 L = some (.bool cl.isSome) → getK 83 L = some (.frz (.list (ns.map V.int))) → getK 125 L = some (.int (lv : Nat)) → getK 3 L = some (.str text) → getK 87 L = some (.frz (.list (told.map V.str))) → WT cl (kOf lv) (us.drop j) text told → WI cl us ns lv σ (its j) L σ
theorem w_body (hN : NoR σ) (hc : cl = none ∨ cl = some 34) (hU : ∀ u ∈ us,Un u) (hB : kOf lv * us.length ≤ 10000) (h34 : lv ≠ 0 → cl.isSome = true → ∀ u ∈ us,u ≠ [34]) (hn : 0 < ns.length) {j : Nat} {text : List Nat} (hj : j < us.length) (h84 : getK 84 L = some (.int (j : Nat)))
 (h122 : getK 122 L = some (.frz (.list (us.map V.str)))) (h121 : getK 121 L = some (.bool cl.isSome)) (h83 : getK 83 L = some (.frz (.list (ns.map V.int)))) (h125 : getK 125 L = some (.int (lv : Nat))) (h3 : getK 3 L = some (.str text)) (h87 : getK 87 L = some (.frz (.list (told.map V.str)))) (hw : WT cl (kOf lv) (us.drop (j + 1)) text told) :
 ∃ L',evSs (cD sx F (d + 3)) wB σ.length L σ = some (.next,L',σ) ∧ WI cl us ns lv σ (its j) L' σ:=by
 have hx : us[j]? = some us[j]:=List.getElem?_eq_getElem hj
 have hdr : us.drop j = us[j] :: us.drop (j + 1):=List.drop_eq_getElem_cons hj
 have hu:=hU _ (List.getElem_mem hj)
 have hu34 : lv ≠ 0 → cl.isSome = true → us[j] ≠ [34]:=fun h q=>h34 h q _ (List.getElem_mem hj)
 generalize us[j] = u at hx hdr hu hu34
 have e1 : evE (cD sx F (d + 3)) (.sub (.loc 122) (.loc 84)) L σ = some (.str u,σ):=subF (getE h122) (getE h84) (by rw [List.length_map]; exact idx_nat hj) (by rw [List.getElem?_map,hx]; rfl)
 have htl : text.length ≤ 10000:=Nat.le_trans hw.len (Nat.le_trans (Nat.mul_le_mul_left _ (by rw [List.length_drop]; exact Nat.sub_le _ _)) hB)
 have htd : told.length ≤ 10000:=by
  refine Nat.le_trans hw.tl (Nat.le_trans ?_ hB)
  rw [List.length_drop]
  exact Nat.le_trans (Nat.sub_le ..) (Nat.le_mul_of_pos_left _ (by unfold kOf; split <;> decide))
 have c84 : getK 84 (putK 127 (.str u) L) = some (.int (j : Nat)):=gk_ne (by decide) h84
 have c122 : getK 122 (putK 127 (.str u) L) = some (.frz (.list (us.map V.str))):=gk_ne (by decide) h122
 have c121 : getK 121 (putK 127 (.str u) L) = some (.bool cl.isSome):=gk_ne (by decide) h121
 have c83 : getK 83 (putK 127 (.str u) L) = some (.frz (.list (ns.map V.int))):=gk_ne (by decide) h83
 have c125 : getK 125 (putK 127 (.str u) L) = some (.int (lv : Nat)):=gk_ne (by decide) h125
 have c3 : getK 3 (putK 127 (.str u) L) = some (.str text):=gk_ne (by decide) h3
 have c87 : getK 87 (putK 127 (.str u) L) = some (.frz (.list (told.map V.str))):=gk_ne (by decide) h87
 have c127 : getK 127 (putK 127 (.str u) L) = some (.str u):=gk_eq
 have a1:=asgL (i:=127) (z:=σ.length) (r:=wB.drop 1) e1
 generalize putK 127 (.str u) L = L1 at a1 c84 c122 c121 c83 c125 c3 c87 c127
 have fin : ∀ {sp : List Nat} {fa : List (List Nat)} {L2 : Loc} {v : V} {τ : St},evSs (cD sx F (d + 3)) (wB.drop 1) σ.length L1 σ = evSs (cD sx F (d + 3)) [.gc 0] σ.length L2 (σ ++ τ) → getK 122 L2 = some (.frz (.list (us.map V.str))) → getK 121 L2 = some (.bool cl.isSome) → getK 83 L2 = some (.frz (.list (ns.map V.int))) → getK 125 L2 = some (.int (lv : Nat)) → getK 3 L2 = some (.str (sp ++ text)) → getK 87 L2 = some v → rv (σ ++ τ) σ.length v = .frz (.list ((fa ++ told).map V.str)) → Sg cl u text sp fa → sp.length ≤ kOf lv →
  ∃ L',evSs (cD sx F (d + 3)) wB σ.length L σ = some (.next,L',σ) ∧ WI cl us ns lv σ (its j) L' σ:=fun {sp fa L2 v τ} h g122 g121 g83 g125 g3 g87 hv hg hk=>by
  refine ⟨gcL (σ ++ τ) σ.length L2,a1.trans (h.trans ?_),.mk (Nat.le_of_lt hj) (gk_gc g122 rfl) (gk_gc g121 rfl) (gk_gc g83 rfl) (gk_gc g125 rfl) (gk_gc g3 rfl) (gk_gc g87 hv) (hdr ▸ hw.cons hg hk)⟩
  rw [gcs]
  show evSs _ [] _ _ (gcS (σ ++ τ) σ.length) = _
  rw [gcS_app hN.cld]; rfl
 obtain ⟨b,t1,hb0,hb1⟩:=wt_T (c:=cD sx F (d + 3)) (σ:=σ) hu c127 c125
 cases b with
 | false =>
  obtain ⟨q1,q2⟩:=hb0 rfl
  have hg:=sg_lit (cl:=cl) (r:=text) hu q1 fun q=>if h : lv = 0 then q2 h else hu34 h q
  have e2 : evE (cD sx F (d + 3)) (.bin .add (.loc 127) (.loc 3)) L1 σ = some (.str (u ++ text),σ):=addE (getE c127) (getE c3) (by have:=hu.l2; unfold LIM; omega)
  refine fin (τ:=[]) (v:=.frz (.list (told.map V.str))) (L2:=putK 3 (.str (u ++ text)) L1) ?_ (gk_ne (by decide) c122) (gk_ne (by decide) c121) (gk_ne (by decide) c83) (gk_ne (by decide) c125) gk_eq (gk_ne (by decide) c87) rfl hg ?_
  ·rw [List.append_nil]
   refine (ifF t1).trans ?_
   exact Eq.trans (congrArg (fun x=>Option.bind x _) ((asgL e2).trans rfl)) rfl
  ·refine Nat.le_trans hu.l2 ?_
   unfold kOf; split <;> decide
 | true =>
  obtain ⟨way,e2⟩:=wy_E (c:=cD sx F (d + 3)) (σ:=σ) hn c83 c84 c125
  obtain ⟨sp,fa,e3,hg⟩:=x806 (F:=F) (d:=d) (sx:=sx) (σ:=σ) (cl:=cl) (u:=u) (w:=text) (way:=way) hN hc htl hw.q hu
  have e4 : evE (cD sx F (d + 3)) (.call 806 [.loc 127,.loc 3,.loc 121,wyE]) L1 σ = some (.frz (.tuple [.str sp,.frz (.list (fa.map V.str))]),σ):=callE (evEsC (getE c127) (evEsC (getE c3) (evEs2 (getE c121) e2))) e3
  have hk : sp.length ≤ kOf lv:=by
   unfold kOf
   split
   ·exact hg.len
   ·rename_i h; exact hg.len5 (hb1 rfl h)
  have a2:=two_S (i:=128) (j:=124) (z:=σ.length) (r:=[.assign (.l 3) (.bin .add (.loc 128) (.loc 3)),.assign (.l 87) (.bin .add (.loc 124) (.loc 87))]) e4
  have k122:=gk_ne (i:=122) (j:=124) (v:=.frz (.list (fa.map V.str))) (by decide) (gk_ne (j:=128) (v:=.str sp) (by decide) c122)
  have k121:=gk_ne (i:=121) (j:=124) (v:=.frz (.list (fa.map V.str))) (by decide) (gk_ne (j:=128) (v:=.str sp) (by decide) c121)
  have k83:=gk_ne (i:=83) (j:=124) (v:=.frz (.list (fa.map V.str))) (by decide) (gk_ne (j:=128) (v:=.str sp) (by decide) c83)
  have k125:=gk_ne (i:=125) (j:=124) (v:=.frz (.list (fa.map V.str))) (by decide) (gk_ne (j:=128) (v:=.str sp) (by decide) c125)
  have k3:=gk_ne (i:=3) (j:=124) (v:=.frz (.list (fa.map V.str))) (by decide) (gk_ne (j:=128) (v:=.str sp) (by decide) c3)
  have k87:=gk_ne (i:=87) (j:=124) (v:=.frz (.list (fa.map V.str))) (by decide) (gk_ne (j:=128) (v:=.str sp) (by decide) c87)
  have k124 : getK 124 (putK 124 (.frz (.list (fa.map V.str))) (putK 128 (.str sp) L1)) = some (.frz (.list (fa.map V.str))):=gk_eq
  have k128 : getK 128 (putK 124 (.frz (.list (fa.map V.str))) (putK 128 (.str sp) L1)) = some (.str sp):=gk_ne (by decide) gk_eq
  generalize putK 124 (.frz (.list (fa.map V.str))) (putK 128 (.str sp) L1) = L2 at a2 k122 k121 k83 k125 k3 k87 k124 k128
  have e5 : evE (cD sx F (d + 3)) (.bin .add (.loc 128) (.loc 3)) L2 σ = some (.str (sp ++ text),σ):=addE (getE k128) (getE k3) (by have:=hg.len; unfold LIM; lia)
  have a3:=asgL (i:=3) (z:=σ.length) (r:=[.assign (.l 87) (.bin .add (.loc 124) (.loc 87))]) e5
  have e6 : evE (cD sx F (d + 3)) (.bin .add (.loc 124) (.loc 87)) (putK 3 (.str (sp ++ text)) L2) σ = some (.ref σ.length,σ ++ [.list (fa.map V.str ++ told.map V.str)]):=addF (getE (gk_ne (by decide) k124)) (getE (gk_ne (by decide) k87)) (by rw [List.length_map,List.length_map]; have:=hg.fal; unfold LIM; lia)
  refine fin (τ:=[.list (fa.map V.str ++ told.map V.str)]) (v:=.ref σ.length) (L2:=putK 87 (.ref σ.length) (putK 3 (.str (sp ++ text)) L2)) ?_ (gk_ne (by decide) (gk_ne (by decide) k122)) (gk_ne (by decide) (gk_ne (by decide) k121)) (gk_ne (by decide) (gk_ne (by decide) k83)) (gk_ne (by decide) (gk_ne (by decide) k125)) (gk_ne (by decide) gk_eq) gk_eq ?_ hg hk
  ·exact ifTn t1 (a2.trans (a3.trans ((asgL e6).trans rfl)))
  ·have:=rv_lst (σ:=σ) (τ0:=[]) (l:=fa ++ told)
   rw [List.map_append] at this
   rw [List.map_append]
   exact this
theorem x813 (hN : NoR σ) (hc : cl = none ∨ cl = some 34) (hU : ∀ u ∈ us,Un u) (hB : kOf lv * us.length ≤ 10000) (h34 : lv ≠ 0 → cl.isSome = true → ∀ u ∈ us,u ≠ [34]) (hn : 0 < ns.length) :
 ∃ text told,runF (Law2.pr sx) F (d + 4) 813 [.frz (.list (us.map V.str)),.bool cl.isSome,.frz (.list (ns.map V.int)),.int (lv : Nat)] σ = some (.frz (.tuple [.str text,.frz (.list (told.map V.str))]),σ) ∧ WT cl (kOf lv) us text told:=by
 have hul : us.length ≤ 10000:=Nat.le_trans (Nat.le_mul_of_pos_left _ (by unfold kOf; split <;> decide)) hB
 generalize hL : ([(122,.frz (.list (us.map V.str))),(121,.bool cl.isSome),(83,.frz (.list (ns.map V.int))),(125,.int (lv : Nat))] : Loc) = L0
 have hL1 : L0 ++ [(3,.str []),(87,.frz (.list []))] = [(122,.frz (.list (us.map V.str))),(121,.bool cl.isSome),(83,.frz (.list (ns.map V.int))),(125,.int (lv : Nat)),(3,.str []),(87,.frz (.list []))]:=hL ▸ rfl
 generalize hR : O.rng ((us.length : Nat) - 1) (-1) (-1) = R
 have hN1 : NoR (σ ++ [R]):=hN.app (noR_one fun s n=>by subst hR; rfl)
 have e1 : evSs (cD sx F (d + 3)) Law2.f813 σ.length L0 σ = evSs (cD sx F (d + 3)) (Law2.f813.drop 3) σ.length [(122,.frz (.list (us.map V.str))),(121,.bool cl.isSome),(83,.frz (.list (ns.map V.int))),(125,.int (lv : Nat)),(3,.str []),(87,.frz (.list []))] σ:=by
  rw [← hL]
  refine (asgL (v:=.str []) (σ1:=σ) rfl).trans ((asgL (v:=.ref σ.length) (σ1:=σ ++ [.list []]) rfl).trans ?_)
  rw [gcs]
  show evSs _ _ _ [_,_,_,_,_,(87,rv (σ ++ ([] ++ [O.list (([] : List (List Nat)).map V.str)])) σ.length (.ref (σ.length + ([] : St).length)))] (gcS (σ ++ [O.list []]) σ.length) = _
  rw [rv_lst,gcS_app hN.cld]; rfl
 have e2 : evE (cD sx F (d + 3)) (.rng3 (.bin .sub (.len (.loc 122)) (.const (.int 1))) (.neg (.const (.int 1))) (.neg (.const (.int 1)))) [(122,.frz (.list (us.map V.str))),(121,.bool cl.isSome),(83,.frz (.list (ns.map V.int))),(125,.int (lv : Nat)),(3,.str []),(87,.frz (.list []))] σ = some (.ref σ.length,σ ++ [R]):=by
  rw [evE_rng3]
  show range3V (.int ((((us.map V.str).length : Nat) : Int) - 1)) (.int (-1)) (.int (-1)) σ = _
  rw [List.length_map,← hR]
  exact if_pos (by unfold LIM; lia)
 have e3 : iterV (cD sx F (d + 3)) (σ ++ [R]) (.ref σ.length) = some (its us.length):=by
  show ((σ ++ [R])[σ.length]?).bind _ = _
  rw [lk_last,Option.bind_some,← hR,iter_rng (by unfold LIM; lia),← its_eq]
  have : rngN ((us.length : Nat) - 1) (-1) (-1) = us.length:=by unfold rngN; rw [if_neg (by decide)]; lia
  rw [this]
 obtain ⟨f,L',σ',e4,rfl,text,told,g3,g87,rfl,hw⟩:=forL_rule (K:=fun f L s=>f = .next ∧ ∃ text told,getK 3 L = some (.str text) ∧ getK 87 L = some (.frz (.list (told.map V.str))) ∧ s = σ ++ [R] ∧ WT cl (kOf lv) us text told)
  (bind:=fun v L s=>bindFt (cD sx F (d + 3)) s (.one 84) v L) (still:=fun s=>stillV (cD sx F (d + 3)) (σ ++ [R]) s (.ref σ.length)) (body:=fun L s=>evSs (cD sx F (d + 3)) wB (σ ++ [R]).length L s) (WI cl us ns lv (σ ++ [R]))
  (fun v vs L s h=>by
   generalize hvs : v :: vs = l at h
   cases h with | @mk j L text told hj h122 h121 h83 h125 h3 h87 hw =>
   cases j with
   | zero=>cases hvs
   | succ j =>
    obtain ⟨rfl,rfl⟩:=List.cons.inj hvs
    refine ⟨still_iff.mpr rfl,putK 84 (.int (j : Nat)) L,rfl,?_⟩
    obtain ⟨L',h1,h2⟩:=w_body (F:=F) (d:=d) (sx:=sx) (σ:=σ ++ [R]) (L:=putK 84 (.int (j : Nat)) L) hN1 hc hU hB h34 hn hj gk_eq (gk_ne (by decide) h122) (gk_ne (by decide) h121) (gk_ne (by decide) h83) (gk_ne (by decide) h125) (gk_ne (by decide) h3) (gk_ne (by decide) h87) hw
    exact ⟨.next,L',_,h1,h2⟩)
  (fun L s h=>by
   generalize hvs : ([] : List V) = l at h
   cases h with | @mk j L text told hj h122 h121 h83 h125 h3 h87 hw =>
   cases j with
   | succ j=>cases hvs
   | zero=>exact ⟨still_iff.mpr rfl,rfl,text,told,h3,h87,rfl,hw⟩)
  (its us.length) [(122,.frz (.list (us.map V.str))),(121,.bool cl.isSome),(83,.frz (.list (ns.map V.int))),(125,.int (lv : Nat)),(3,.str []),(87,.frz (.list []))] (σ ++ [R])
  (.mk (text:=[]) (told:=[]) (Nat.le_refl _) rfl rfl rfl rfl rfl rfl (by rw [List.drop_length]; exact .nil))
 have e5 : evE (cD sx F (d + 3)) (.tupE [.loc 3,.loc 87]) L' (σ ++ [R]) = some (.frz (.tuple [.str text,.frz (.list (told.map V.str))]),σ ++ [R]):=by
  rw [evE_tupE,evEs2 (getE g3) (getE g87)]; rfl
 exact ⟨text,told,fn_ex (by rfl) (L:=L0) (fl:=.ret _) rfl (by rw [← hL]; rfl) ⟨_,e1.trans ((forS (b:=wB) e2 e3 e4).trans (retC2 hN.cld e5 rfl))⟩ rfl,hw⟩
end
end
section
section
variable {σ : St} {k : Nat}
theorem eqL_strs : ∀ (xs ys : List (List Nat)),xs.length = ys.length → eqL (eqV σ (k + 1)) (xs.map V.str) (ys.map V.str) = some (xs == ys)
 | [],[],_=>rfl
 | x :: xs,y :: ys,h=>by
  have ih:=eqL_strs xs ys (Nat.succ.inj h)
  show (some (x == y)).bind _ = _
  rw [Option.bind_some,ih]; rfl
theorem ne_tell (q : List Nat × List (List Nat)) (m : List Nat) : neV σ eqD (tellV q m) (tellV q m) = some false:=by
 have e0 : eqV σ 12 (.str q.1) (.str q.1) = some true:=by
  show some (q.1 == q.1) = _
  rw [beq_self_eq_true]
 have e1 : eqV σ 12 (.frz (.list (q.2.map V.str))) (.frz (.list (q.2.map V.str))) = some true:=(if_pos rfl).trans ((eqL_strs q.2 q.2 rfl).trans (by rw [beq_self_eq_true]))
 have e4 : ∀ {f : V → V → Option Bool} {a b : V},f a a = some true → f b b = some true → eqL f [a,b] [a,b] = some true:=fun {f a b} h1 h2=>by
  show (f a a).bind (fun x=>((f b b).bind fun y=>(some true).map fun w=>y && w).map fun y=>x && y) = _
  rw [h1,h2]; rfl
 have e5 : ∀ n : Nat,eqV σ 11 (.int (n : Nat)) (.int (n : Nat)) = some true:=fun n=>by
  show some ((n : Int) == (n : Int)) = _
  rw [beq_self_eq_true]
 have e6 : ∀ {a b : V},eqL (eqV σ 11) [a,b] [a,b] = some true → eqV σ 12 (.frz (.tuple [a,b])) (.frz (.tuple [a,b])) = some true:=fun {a b} h=>h
 have e2 : eqV σ 12 (.frz (plc m)) (.frz (plc m)) = some true:=e6 (e4 (e5 _) (e5 _))
 have e3 : ∀ {f : V → V → Option Bool} {a b c : V},f a a = some true → f b b = some true → f c c = some true → eqL f [a,b,c] [a,b,c] = some true:=fun {f a b c} h1 h2 h3=>by
  show (f a a).bind (fun x=>((f b b).bind fun y=>((f c c).bind fun z=>(some true).map fun w=>z && w).map fun w=>y && w).map fun y=>x && y) = _
  rw [h1,h2,h3]; rfl
 show Option.map _ (eqL (eqV σ 12) [.str q.1,.frz (.list (q.2.map V.str)),.frz (plc m)] [.str q.1,.frz (.list (q.2.map V.str)),.frz (plc m)]) = _
 rw [e3 e0 e1 e2]; rfl
theorem sumV_ints : ∀ (is : List Int) (a : Int),sumV (is.map V.int) a = some (is.foldl (· + ·) a)
 | [],a=>rfl
 | i :: r,a=>sumV_ints r (a + i)
end
inductive Ch (cl : Option Nat) : List (List Nat) → List (List (List Nat)) → Prop
 | one (t : List Nat) : Ch cl [t] []
 | snoc {ts : List (List Nat)} {fs : List (List (List Nat))} {t t' : List Nat} {f : List (List Nat)} : Ch cl (ts ++ [t]) fs → tell cl t' = (t,f) → Txt' t' → Ch cl ((ts ++ [t]) ++ [t']) (fs ++ [f])
theorem Ch.back {cl : Option Nat} {ts : List (List Nat)} {t t' : List Nat} {fs : List (List (List Nat))} (h : Ch cl ((ts ++ [t]) ++ [t']) fs) : ∃ fs' f,fs = fs' ++ [f] ∧ Ch cl (ts ++ [t]) fs' ∧ tell cl t' = (t,f) ∧ Txt' t':=by
 generalize hl : (ts ++ [t]) ++ [t'] = l at h
 cases h with
 | one x =>
  have:=congrArg List.length hl
  simp at this
 | @snoc ts' fs' u u' f h1 h2 h3 =>
  obtain ⟨q1,q2⟩:=List.append_inj' hl rfl
  obtain ⟨q3,q4⟩:=List.append_inj' q1 rfl
  cases q2; cases q4
  exact ⟨fs',f,rfl,q1 ▸ h1,h2,h3⟩
noncomputable def tsO (ts : List (List Nat)) : O:=.list (ts.map V.str)
noncomputable def lV (l : List (List Nat)) : V:=.frz (.list (l.map V.str))
noncomputable def fsO (fs : List (List (List Nat))) : O:=.list (fs.map lV)
theorem fs_rv {fs : List (List (List Nat))} {s : St} {n : Nat} : oMap (rv s n) (fsO fs) = fsO fs:=by
 show O.list ((fs.map lV).map (rv s n)) = _
 rw [List.map_map]; rfl
noncomputable def xrO (ts : List (List Nat)) (fs : List (List (List Nat))) : X2:=⟨tsO ts,fsO fs,fun s n=>congrArg O.list (rv_strs ts),fun s n=>fs_rv⟩
theorem noR_xr (ts : List (List Nat)) (fs : List (List (List Nat))) : NoR [tsO ts,fsO fs]:=fun o ho s n=>by
 rcases List.mem_cons.mp ho with rfl | ho
 ·exact congrArg O.list (rv_strs ts)
 ·obtain rfl:=List.mem_singleton.mp ho
  exact fs_rv
section
variable {F d : Nat} {sx : List (Nat × O)} {σ : St} {c : Cx} {L : Loc} {cl : Option Nat} {ns is : List Int} {sp i a z m : Nat} {r : List PS} {v : V} {ws : List V}
theorem pop_L (h : getK i L = some (.ref a)) (hσ : σ[a]? = some (.list (ws ++ [v]))) : evE c (.pop (.loc i)) L σ = some (v,σ.set a (.list ws)):=by
 have hL : isListV σ (.ref a) = true:=by
  show (match σ[a]? with | some o=>oIsL o | none=>false) = true
  rw [hσ]; rfl
 rw [evE_pop,getE h,Option.bind_some]
 show (bif isListV σ (.ref a) then popAtV (.ref a) (.int (-1)) σ else none) = _
 rw [hL]
 show Option.bind (σ[a]?) _ = _
 rw [hσ,Option.bind_some]
 show ((idxOf (ws ++ [v]).length (-1)).bind fun j=>((ws ++ [v])[j]?).map fun v'=>(v',σ.set a (.list ((ws ++ [v]).eraseIdx j)))) = _
 rw [List.length_append,idx_last (show 0 < ws.length + [v].length from Nat.succ_pos _),Option.bind_some]
 show ((ws ++ [v])[ws.length]?).map (fun v'=>(v',σ.set a (.list ((ws ++ [v]).eraseIdx ws.length)))) = _
 rw [List.getElem?_append_right (Nat.le_refl _),Nat.sub_self,List.eraseIdx_append_of_length_le (Nat.le_refl _),Nat.sub_self]
 show some (v,σ.set a (.list (ws ++ []))) = _
 rw [List.append_nil]
theorem cut_take {α : Type} {l : List α} {n : Nat} : cut l 0 (clampI l.length (n : Nat)) = l.take n:=by
 unfold cut
 rw [List.drop_zero,Nat.sub_zero,clamp1]
 rcases Nat.le_total n l.length with h | h
 ·rw [Nat.min_eq_left h]
 ·rw [Nat.min_eq_right h,List.take_length,List.take_of_length_le h]
theorem st_num (hs : (Law2.pr sx).so sp = some (.list (is.map V.int))) : ∃ ns : List Int,ns.length ≤ 4 ∧ 0 < ns.length ∧ ∀ r : List PS,evSs (cD sx F (d + 6)) (.assign (.l 83) (.orE (.slice (.loc 2) (.const .none) (.const (.int 4))) (.listE [.const (.int 0)])) :: .gc 0 :: r) 0 [(2,.sref sp)] [] = evSs (cD sx F (d + 6)) r 0 [(2,.sref sp),(83,.frz (.list (ns.map V.int)))] []:=by
 have e1 : evE (cD sx F (d + 6)) (.slice (.loc 2) (.const .none) (.const (.int 4))) [(2,.sref sp)] [] = some (.ref 0,[.list ((is.take 4).map V.int)]):=by
  rw [evE_slice,getE rfl,Option.bind_some]
  show Option.bind ((Law2.pr sx).so sp) _ = _
  rw [hs]
  show allocL (cut (is.map V.int) 0 (clampI (is.map V.int).length (4 : Nat))) _ = _
  rw [cut_take,← List.map_take]
  exact allocL_eq (σ:=[]) (by rw [List.length_map]; exact Nat.le_trans (List.length_take_le _ _) (by decide))
 have rzi : ∀ (l : List Int) (σ : St) (n k : Nat),(l.map V.int).map (rz σ n k) = l.map V.int:=fun l σ n k=>by
  rw [List.map_map]
  exact List.map_congr_left fun i J=>by cases k <;> rfl
 cases hq : is.take 4 with
 | nil =>
  rw [hq] at e1
  refine ⟨[0],by decide,by decide,fun r=>?_⟩
  have e2 : evE (cD sx F (d + 6)) (.orE (.slice (.loc 2) (.const .none) (.const (.int 4))) (.listE [.const (.int 0)])) [(2,.sref sp)] [] = some (.ref 1,[.list [],.list [.int 0]]):=by
   rw [evE_orE,e1]; rfl
  exact (asgL e2).trans rfl
 | cons i l =>
  rw [hq] at e1
  refine ⟨i :: l,by rw [← hq]; exact List.length_take_le _ _,Nat.succ_pos _,fun r=>?_⟩
  have e2 : evE (cD sx F (d + 6)) (.orE (.slice (.loc 2) (.const .none) (.const (.int 4))) (.listE [.const (.int 0)])) [(2,.sref sp)] [] = some (.ref 0,[.list ((i :: l).map V.int)]):=by
   rw [evE_orE,e1]; rfl
  refine (asgL e2).trans ?_
  show evSs _ _ 0 [(2,.sref sp),(83,.frz (.list (((i :: l).map V.int).map (rz _ _ _))))] [] = _
  rw [rzi]
theorem sum_E (h : getK 83 L = some (.frz (.list (ns.map V.int)))) : ∃ S : Int,∀ σ,evE c (.sum (.loc 83)) L σ = some (.int S,σ):=by
 refine ⟨ns.foldl (· + ·) 0,fun σ=>?_⟩
 rw [evE_sum,getE h]
 show Option.map _ (sumV (ns.map V.int) 0) = _
 rw [sumV_ints]; rfl
noncomputable def uniB : List PS:=match (Law2.f827[5]? : Option PS) with | some (PS.fors _ _ b)=>b | _=>[]
inductive UnI (cl : Option Nat) (ns : List Int) : List V → Loc → St → Prop
 | mk {js : List Int} {us : List (List Nat)} {L : Loc} : us.length + 5 * js.length ≤ 20 → (∀ u ∈ us,Un u) → getK 121 L = some (.bool cl.isSome) → getK 83 L = some (.frz (.list (ns.map V.int))) → getK 122 L = some (lV us) → UnI cl ns (js.map V.int) L []
theorem un_loop (hn : ns.length ≤ 4) (h121 : getK 121 L = some (.bool cl.isSome)) (h83 : getK 83 L = some (.frz (.list (ns.map V.int)))) (h122 : getK 122 L = some (lV [])) :
 ∃ L' us,(∀ r,evSs (cD sx F (d + 6)) (.fors (.one 31) (.loc 83) uniB :: r) 0 L [] = evSs (cD sx F (d + 6)) r 0 L' []) ∧ us.length ≤ 20 ∧ (∀ u ∈ us,Un u) ∧ getK 121 L' = some (.bool cl.isSome) ∧ getK 83 L' = some (.frz (.list (ns.map V.int))) ∧ getK 122 L' = some (lV us):=by
 obtain ⟨f,L',σ',e4,rfl,rfl,us,h1,h2,h3,h4,h5⟩:=forL_rule (K:=fun f L s=>f = .next ∧ s = [] ∧ ∃ us,us.length ≤ 20 ∧ (∀ u ∈ us,Un u) ∧ getK 121 L = some (.bool cl.isSome) ∧ getK 83 L = some (.frz (.list (ns.map V.int))) ∧ getK 122 L = some (lV us))
  (bind:=fun v L s=>bindFt (cD sx F (d + 6)) s (.one 31) v L) (still:=fun s=>stillV (cD sx F (d + 6)) [] s (.frz (.list (ns.map V.int)))) (body:=fun L s=>evSs (cD sx F (d + 6)) uniB 0 L s) (UnI cl ns)
  (fun v vs L s h=>by
   generalize hvs : v :: vs = l at h
   cases h with | @mk js us L hl hU h121 h83 h122 =>
   cases js with
   | nil=>cases hvs
   | cons j js =>
    obtain ⟨rfl,rfl⟩:=List.cons.inj hvs
    rw [List.length_cons] at hl
    obtain ⟨us2,e1,g1,g2⟩:=x780 (F:=F) (d:=d + 4) (sx:=sx) (n:=j)
    refine ⟨still_iff.mpr rfl,putK 31 (.int j) L,rfl,?_⟩
    have k122 : getK 122 (putK 31 (.int j) L) = some (lV us):=gk_ne (by decide) h122
    have e2 : evE (cD sx F (d + 6)) (.bin .add (.loc 122) (.call 780 [.loc 31])) (putK 31 (.int j) L) [] = some (.ref 0,[.list (us.map V.str ++ us2.map V.str)]) :=
     addF (σ:=[]) (getE k122) (callE (evEs1 (getE gk_eq)) e1) (by rw [List.length_map,List.length_map]; unfold LIM; lia)
    have g3 : rv [.list (us.map V.str ++ us2.map V.str)] 0 (.ref 0) = lV (us ++ us2):=by
     have:=rv_lst (σ:=[]) (τ0:=[]) (l:=us ++ us2)
     rw [List.map_append] at this
     unfold lV
     rw [List.map_append]
     exact this
    refine ⟨.next,gcL [.list (us.map V.str ++ us2.map V.str)] 0 (putK 122 (.ref 0) (putK 31 (.int j) L)),[],(asgL e2).trans rfl,.mk (us:=us ++ us2) ?_ (fun u hu=>(List.mem_append.mp hu).elim (hU u) (g2 u)) (gk_gc (gk_ne (by decide) (gk_ne (by decide) h121)) rfl) (gk_gc (gk_ne (by decide) (gk_ne (by decide) h83)) rfl) (gk_gc gk_eq g3)⟩
    rw [List.length_append]; lia)
  (fun L s h=>by
   generalize hvs : ([] : List V) = l at h
   cases h with | @mk js us L hl hU h121 h83 h122 =>
   exact ⟨still_iff.mpr rfl,rfl,rfl,us,by lia,hU,h121,h83,h122⟩)
  (ns.map V.int) L [] (.mk (us:=[]) (by rw [List.length_nil]; lia) (fun u hu=>nomatch hu) h121 h83 h122)
 exact ⟨L',us,fun r=>(forS (b:=uniB) (v:=.frz (.list (ns.map V.int))) (σ1:=[]) (getE h83) rfl e4).trans rfl,h1,h2,h3,h4,h5⟩
noncomputable def bnd : Nat → Nat | 0=>20 | 1=>260 | 2=>1300 | _=>6500
noncomputable def lvB : List PS:=match (Law2.f827[8]? : Option PS) with | some (PS.fors _ _ b)=>b | _=>[]
inductive LvI (cl : Option Nat) (ns : List Int) (R : O) : List V → Loc → St → Prop
 | mk {lv n : Nat} {ts : List (List Nat)} {t : List Nat} {fs : List (List (List Nat))} {us : List (List Nat)} {L : Loc} : lv + n ≤ 3 → Ch cl (ts ++ [t]) fs → us.flatten = t → us.length ≤ bnd lv → (∀ u ∈ us,Un u) → (lv ≠ 0 → cl.isSome = true → ∀ u ∈ us,u ≠ [34]) → (ts ++ [t]).length + n ≤ 4 → fs.length + n ≤ 3 →
  getK 121 L = some (.bool cl.isSome) → getK 83 L = some (.frz (.list (ns.map V.int))) → getK 122 L = some (lV us) → getK 123 L = some (.ref 0) → getK 124 L = some (.ref 1) → LvI cl ns R ((List.range' lv n).map fun k=>V.int (0 + 1 * Int.ofNat k)) L [tsO (ts ++ [t]),fsO fs,R]
theorem lv_body (hc : cl = none ∨ cl = some 34) (hn : 0 < ns.length) {R : O} (hR : ∀ s n,oMap (rv s n) R = R) {lv n : Nat} {ts : List (List Nat)} {t : List Nat} {fs : List (List (List Nat))} {us : List (List Nat)} (hlv : lv + (n + 1) ≤ 3) (hch : Ch cl (ts ++ [t]) fs) (hfl : us.flatten = t) (hbd : us.length ≤ bnd lv) (hU : ∀ u ∈ us,Un u) (h34 : lv ≠ 0 → cl.isSome = true → ∀ u ∈ us,u ≠ [34]) (hl1 : (ts ++ [t]).length + (n + 1) ≤ 4) (hl2 : fs.length + (n + 1) ≤ 3)
 (h125 : getK 125 L = some (.int (lv : Nat))) (h121 : getK 121 L = some (.bool cl.isSome)) (h83 : getK 83 L = some (.frz (.list (ns.map V.int)))) (h122 : getK 122 L = some (lV us)) (h123 : getK 123 L = some (.ref 0)) (h124 : getK 124 L = some (.ref 1)) :
 ∃ L' σ',evSs (cD sx F (d + 6)) lvB 3 L [tsO (ts ++ [t]),fsO fs,R] = some (.next,L',σ') ∧ LvI cl ns R ((List.range' (lv + 1) n).map fun k=>V.int (0 + 1 * Int.ofNat k)) L' σ':=by
 have hlt : lv = 0 ∨ lv = 1 ∨ lv = 2:=by lia
 have hb : kOf lv * us.length ≤ bnd (lv + 1) ∧ bnd (lv + 1) ≤ 10000:=by
  rcases hlt with rfl | rfl | rfl
  ·have : us.length ≤ 20:=hbd; exact ⟨by show 13 * us.length ≤ 260; lia,by decide⟩
  ·have : us.length ≤ 260:=hbd; exact ⟨by show 5 * us.length ≤ 1300; lia,by decide⟩
  ·have : us.length ≤ 1300:=hbd; exact ⟨by show 5 * us.length ≤ 6500; lia,by decide⟩
 have hN : NoR [tsO (ts ++ [t]),fsO fs,R]:=(noR_xr (ts ++ [t]) fs).app (noR_one hR)
 obtain ⟨text,told,e1,hw⟩:=x813 (F:=F) (d:=d + 2) (sx:=sx) (us:=us) (ns:=ns) (lv:=lv) hN hc hU (Nat.le_trans hb.1 hb.2) h34 hn
 have hT : Txt' text:=⟨hw.ok,Nat.le_trans hw.len (Nat.le_trans hb.1 hb.2)⟩
 have e2 : evE (cD sx F (d + 6)) (.call 813 [.loc 122,.loc 121,.loc 83,.loc 125]) L [tsO (ts ++ [t]),fsO fs,R] = some (.frz (.tuple [.str text,.frz (.list (told.map V.str))]),[tsO (ts ++ [t]),fsO fs,R]):=callE (evEsC (getE h122) (evEsC (getE h121) (evEs2 (getE h83) (getE h125)))) e1
 have a1:=two_S (i:=3) (j:=87) (z:=3) (r:=lvB.drop 1) e2
 have k121:=gk_ne (i:=121) (j:=87) (v:=.frz (.list (told.map V.str))) (by decide) (gk_ne (j:=3) (v:=.str text) (by decide) h121)
 have k83:=gk_ne (i:=83) (j:=87) (v:=.frz (.list (told.map V.str))) (by decide) (gk_ne (j:=3) (v:=.str text) (by decide) h83)
 have k123:=gk_ne (i:=123) (j:=87) (v:=.frz (.list (told.map V.str))) (by decide) (gk_ne (j:=3) (v:=.str text) (by decide) h123)
 have k124:=gk_ne (i:=124) (j:=87) (v:=.frz (.list (told.map V.str))) (by decide) (gk_ne (j:=3) (v:=.str text) (by decide) h124)
 have k87 : getK 87 (putK 87 (.frz (.list (told.map V.str))) (putK 3 (.str text) L)) = some (.frz (.list (told.map V.str))):=gk_eq
 have k3 : getK 3 (putK 87 (.frz (.list (told.map V.str))) (putK 3 (.str text) L)) = some (.str text):=gk_ne (by decide) gk_eq
 generalize putK 87 (.frz (.list (told.map V.str))) (putK 3 (.str text) L) = L1 at a1 k121 k83 k123 k124 k87 k3
 have e3 : evE (cD sx F (d + 6)) (.append (.loc 123) (.loc 3)) L1 [tsO (ts ++ [t]),fsO fs,R] = some (.none,[tsO ((ts ++ [t]) ++ [text]),fsO fs,R]) :=
  appE (a:=0) (vs:=(ts ++ [t]).map V.str) (getE k123) rfl (getE k3) rfl (by rw [List.length_map]; unfold LIM; lia) (congrArg (fun o=>[o,fsO fs,R]) addpart)
 have e4 : evE (cD sx F (d + 6)) (.append (.loc 124) (.loc 87)) L1 [tsO ((ts ++ [t]) ++ [text]),fsO fs,R] = some (.none,[tsO ((ts ++ [t]) ++ [text]),fsO (fs ++ [told]),R]) :=
  appE (a:=1) (vs:=fs.map lV) (getE k124) rfl (getE k87) rfl (by rw [List.length_map]; unfold LIM; lia) (congrArg (fun o=>[tsO ((ts ++ [t]) ++ [text]),o,R]) (congrArg O.list (by rw [List.map_append]; rfl)))
 have hmm : (text.map fun c=>V.str [c]) = (text.map fun c=>[c]).map V.str:=by rw [List.map_map]; rfl
 have e5 : evE (cD sx F (d + 6)) (.listOf (.loc 3)) L1 [tsO ((ts ++ [t]) ++ [text]),fsO (fs ++ [told]),R] = some (.ref 3,[tsO ((ts ++ [t]) ++ [text]),fsO (fs ++ [told]),R,.list ((text.map fun c=>[c]).map V.str)]):=by
  rw [evE_listOf,getE k3]
  show allocL (text.map fun c=>V.str [c]) _ = _
  rw [hmm]
  exact allocL_eq (σ:=[tsO ((ts ++ [t]) ++ [text]),fsO (fs ++ [told]),R]) (by rw [List.length_map,List.length_map]; exact Nat.le_trans hT.2 (by decide))
 have hN2 : NoR [tsO ((ts ++ [t]) ++ [text]),fsO (fs ++ [told]),R]:=(noR_xr ((ts ++ [t]) ++ [text]) (fs ++ [told])).app (noR_one hR)
 have hg : gcS [tsO ((ts ++ [t]) ++ [text]),fsO (fs ++ [told]),R,.list ((text.map fun c=>[c]).map V.str)] 3 = [tsO ((ts ++ [t]) ++ [text]),fsO (fs ++ [told]),R]:=gcS_app (σ:=[tsO ((ts ++ [t]) ++ [text]),fsO (fs ++ [told]),R]) hN2.cld
 have hv : rv [tsO ((ts ++ [t]) ++ [text]),fsO (fs ++ [told]),R,.list ((text.map fun c=>[c]).map V.str)] 3 (.ref 3) = lV (text.map fun c=>[c]):=rv_lst (σ:=[tsO ((ts ++ [t]) ++ [text]),fsO (fs ++ [told]),R]) (τ0:=[]) (l:=text.map fun c=>[c])
 refine ⟨gcL [tsO ((ts ++ [t]) ++ [text]),fsO (fs ++ [told]),R,.list ((text.map fun c=>[c]).map V.str)] 3 (putK 122 (.ref 3) L1),[tsO ((ts ++ [t]) ++ [text]),fsO (fs ++ [told]),R],a1.trans ((exprS e3).trans ((exprS e4).trans ((asgL e5).trans ?_))),.mk (ts:=ts ++ [t]) (t:=text) (fs:=fs ++ [told]) (us:=text.map fun c=>[c]) (by lia) (.snoc hch (by rw [hw.tell,hfl]) hT) (flat_one text) ?_ (fun u hu=>?_) (fun J q u hu e=>?_) ?_ ?_ (gk_gc (gk_ne (by decide) k121) rfl) (gk_gc (gk_ne (by decide) k83) rfl) (gk_gc gk_eq hv) (gk_gc (gk_ne (by decide) k123) rfl) (gk_gc (gk_ne (by decide) k124) rfl)⟩
 ·rw [gcs]
  show some (Fl.next,_,gcS _ 3) = _
  rw [hg]
 ·rw [List.length_map]; exact Nat.le_trans hw.len hb.1
 ·obtain ⟨c,hc,rfl⟩:=List.mem_map.mp hu
  exact un_one (hw.ok c hc)
 ·obtain ⟨c,hc,rfl⟩:=List.mem_map.mp hu
  cases e
  exact hw.q q hc
 ·rw [List.length_append]; show _ + 1 + n ≤ 4; lia
 ·rw [List.length_append]; show _ + 1 + n ≤ 3; lia
end
end
section
section
variable {F d : Nat} {sx : List (Nat × O)} {σ : St} {c : Cx} {L : Loc} {cl : Option Nat} {ns is : List Int} {sp i a z m : Nat} {r : List PS} {v : V} {ws : List V}
theorem callR {p : Pr} {D f : Nat} {es : List PE} {vs : List V} {q : V × St} {σ1 : St} (h : evEs (cxOf p F (runF p F D)) es L σ = some (vs,σ1)) (h2 : runF p F D f vs σ1 = some q) : evE (cxOf p F (runF p F D)) (.call f es) L σ = some q:=callE (v:=q.1) h h2
theorem lv_loop (hc : cl = none ∨ cl = some 34) (hn : 0 < ns.length) {t : List Nat} {us : List (List Nat)} (hm : m ≤ 3) (hfl : us.flatten = t) (hbd : us.length ≤ 20) (hU : ∀ u ∈ us,Un u)
 (h121 : getK 121 L = some (.bool cl.isSome)) (h83 : getK 83 L = some (.frz (.list (ns.map V.int)))) (h122 : getK 122 L = some (lV us)) (h123 : getK 123 L = some (.ref 0)) (h124 : getK 124 L = some (.ref 1))
 {it : PE} (hit : evE (cD sx F (d + 6)) it L [tsO [t],fsO []] = some (.ref 2,[tsO [t],fsO [],.rng 0 (m : Nat) 1])) :
 ∃ L' ts t' fs,(∀ r,evSs (cD sx F (d + 6)) (.fors (.one 125) it lvB :: .gc 2 :: r) 0 L [tsO [t],fsO []] = evSs (cD sx F (d + 6)) r 0 L' [tsO (ts ++ [t']),fsO fs]) ∧ Ch cl (ts ++ [t']) fs ∧ (ts ++ [t']).length ≤ 4 ∧
  getK 121 L' = some (.bool cl.isSome) ∧ getK 83 L' = some (.frz (.list (ns.map V.int))) ∧ getK 123 L' = some (.ref 0) ∧ getK 124 L' = some (.ref 1):=by
 have hR : ∀ s n,oMap (rv s n) (.rng 0 (m : Nat) 1) = .rng 0 (m : Nat) 1:=fun s n=>rfl
 obtain ⟨f,L',σ',e4,rfl,ts,t',fs,rfl,g1,g2,g3,g4,g5,g6⟩:=forL_rule (K:=fun f L s=>f = .next ∧ ∃ ts t' fs,s = [tsO (ts ++ [t']),fsO fs,.rng 0 (m : Nat) 1] ∧ Ch cl (ts ++ [t']) fs ∧ (ts ++ [t']).length ≤ 4 ∧ getK 121 L = some (.bool cl.isSome) ∧ getK 83 L = some (.frz (.list (ns.map V.int))) ∧ getK 123 L = some (.ref 0) ∧ getK 124 L = some (.ref 1))
  (bind:=fun v L s=>bindFt (cD sx F (d + 6)) s (.one 125) v L) (still:=fun s=>stillV (cD sx F (d + 6)) [tsO [t],fsO [],.rng 0 (m : Nat) 1] s (.ref 2)) (body:=fun L s=>evSs (cD sx F (d + 6)) lvB 3 L s) (LvI cl ns (.rng 0 (m : Nat) 1))
  (fun v vs L s h=>by
   generalize hvs : v :: vs = l at h
   cases h with | @mk lv n ts t' fs us L hlv hch hfl hbd hU h34 hl1 hl2 h121 h83 h122 h123 h124 =>
   cases n with
   | zero=>cases hvs
   | succ n =>
    obtain ⟨rfl,rfl⟩:=List.cons.inj hvs
    refine ⟨still_iff.mpr rfl,putK 125 (.int (lv : Nat)) L,?_,?_⟩
    ·show some (putK 125 (.int (0 + 1 * (lv : Int))) L) = _
     rw [show (0 : Int) + 1 * (lv : Int) = (lv : Nat) by lia]
    ·obtain ⟨L2,σ2,h1,h2⟩:=lv_body (F:=F) (d:=d) (sx:=sx) (L:=putK 125 (.int (lv : Nat)) L) hc hn hR hlv hch hfl hbd hU h34 hl1 hl2 gk_eq (gk_ne (by decide) h121) (gk_ne (by decide) h83) (gk_ne (by decide) h122) (gk_ne (by decide) h123) (gk_ne (by decide) h124)
     exact ⟨.next,L2,σ2,h1,h2⟩)
  (fun L s h=>by
   generalize hvs : ([] : List V) = l at h
   cases h with | @mk lv n ts t' fs us L hlv hch hfl hbd hU h34 hl1 hl2 h121 h83 h122 h123 h124 =>
   exact ⟨still_iff.mpr rfl,rfl,ts,t',fs,rfl,hch,by lia,h121,h83,h123,h124⟩)
  ((List.range' 0 m).map fun k=>V.int (0 + 1 * Int.ofNat k)) L [tsO [t],fsO [],.rng 0 (m : Nat) 1]
  (.mk (lv:=0) (ts:=[]) (t:=t) (fs:=[]) (us:=us) (by lia) (.one t) hfl hbd hU (fun h=>absurd rfl h) (by show 1 + m ≤ 4; lia) (by show 0 + m ≤ 3; lia) h121 h83 h122 h123 h124)
 have e3 : iterV (cD sx F (d + 6)) [tsO [t],fsO [],.rng 0 (m : Nat) 1] (.ref 2) = some ((List.range' 0 m).map fun k=>V.int (0 + 1 * Int.ofNat k)):=by
  show iterO (.ref 2) (.rng 0 (m : Nat) 1) = _
  rw [iter_rng (by unfold LIM; lia),← List.range_eq_range']
  have : rngN 0 (m : Nat) 1 = m:=by unfold rngN; rw [if_pos rfl]; lia
  rw [this]
 refine ⟨gcL [tsO (ts ++ [t']),fsO fs,.rng 0 (m : Nat) 1] 2 L',ts,t',fs,fun r=>?_,g1,g2,gk_gc g3 rfl,gk_gc g4 rfl,gk_gc g5 rfl,gk_gc g6 rfl⟩
 refine (forS (b:=lvB) (v:=.ref 2) (σ1:=[tsO [t],fsO [],.rng 0 (m : Nat) 1]) hit e3 e4).trans ?_
 show evSs _ (.gc 2 :: r) 0 L' [tsO (ts ++ [t']),fsO fs,.rng 0 (m : Nat) 1] = _
 rw [gcs]
 rw [show gcS [tsO (ts ++ [t']),fsO fs,.rng 0 (m : Nat) 1] (0 + 2) = [tsO (ts ++ [t']),fsO fs] from gcS_app (σ:=[tsO (ts ++ [t']),fsO fs]) (noR_xr _ _).cld]
noncomputable def rdW : List PS:=match (Law2.f827[11]? : Option PS) with | some (PS.whiles _ b)=>b | _=>[]
inductive RdI (cl : Option Nat) (ns : List Int) : Nat → Loc → St → Prop
 | mk {ts : List (List Nat)} {t : List Nat} {fs : List (List (List Nat))} {L : Loc} : Ch cl (ts ++ [t]) fs → getK 121 L = some (.bool cl.isSome) → getK 83 L = some (.frz (.list (ns.map V.int))) → getK 123 L = some (.ref 0) → getK 124 L = some (.ref 1) → getK 3 L = some (.str t) → RdI cl ns ts.length L [tsO ts,fsO fs]
theorem plc_E {t : List Nat} (h55 : getK 55 L = some (lV (spl 10 t))) : evE c (.tupE [.len (.loc 55),.len (.sub (.loc 55) (.neg (.const (.int 1))))]) L σ = some (.frz (plc t),σ):=by
 obtain ⟨q,h1,h2⟩:=spl_last t
 have hpos : 0 < ((spl 10 t).map V.str).length:=by rw [List.length_map,spl_len]; exact Nat.succ_pos _
 have e1 : evE c (.len (.loc 55)) L σ = some (.int ((t.count 10 + 1 : Nat)),σ):=by
  rw [evE_len,getE h55]
  show some (V.int ((((spl 10 t).map V.str).length : Nat)),σ) = _
  rw [List.length_map,spl_len]
 have e2 : evE c (.sub (.loc 55) (.neg (.const (.int 1)))) L σ = some (.str q,σ):=subF (getE h55) (m:=-1) rfl (idx_last hpos) (by rw [List.length_map,List.getElem?_map,← List.getLast?_eq_getElem?,h1]; rfl)
 rw [evE_tupE,evEs2 e1 (lenE e2),h2]; rfl
theorem rd_body (hF : 20000 < F) (hc : cl = none ∨ cl = some 34) {ts : List (List Nat)} {t t' : List Nat} {fs : List (List (List Nat))} (hch : Ch cl ((ts ++ [t']) ++ [t]) fs)
 (h121 : getK 121 L = some (.bool cl.isSome)) (h83 : getK 83 L = some (.frz (.list (ns.map V.int)))) (h123 : getK 123 L = some (.ref 0)) (h124 : getK 124 L = some (.ref 1)) (h3 : getK 3 L = some (.str t)) :
 ∃ L' fs',evSs (cD sx F (d + 6)) rdW 0 L [tsO (ts ++ [t']),fsO fs] = some (.next,L',[tsO ts,fsO fs']) ∧ RdI cl ns ts.length L' [tsO ts,fsO fs']:=by
 obtain ⟨fs',f,rfl,hch',htell,hT⟩:=hch.back
 have e1 : evE (cD sx F (d + 6)) (.splitC (.loc 3) [10]) L [tsO (ts ++ [t']),fsO (fs' ++ [f])] = some (.ref 2,[tsO (ts ++ [t']),fsO (fs' ++ [f]),.list ((spl 10 t).map V.str)]):=by
  refine (evE_bm (op:=.split)).trans ?_
  rw [getE h3,Option.bind_some]
  exact splitV_eq (c:=10) (σ:=[tsO (ts ++ [t']),fsO (fs' ++ [f])]) hT.2
 have hg : gcS [tsO (ts ++ [t']),fsO (fs' ++ [f]),.list ((spl 10 t).map V.str)] (0 + 2) = [tsO (ts ++ [t']),fsO (fs' ++ [f])]:=gcS_app (σ:=[tsO (ts ++ [t']),fsO (fs' ++ [f])]) (noR_xr _ _).cld
 have hv : rv [tsO (ts ++ [t']),fsO (fs' ++ [f]),.list ((spl 10 t).map V.str)] (0 + 2) (.ref 2) = lV (spl 10 t):=rv_lst (σ:=[tsO (ts ++ [t']),fsO (fs' ++ [f])]) (τ0:=[]) (l:=spl 10 t)
 have a1 : evSs (cD sx F (d + 6)) rdW 0 L [tsO (ts ++ [t']),fsO (fs' ++ [f])] = evSs (cD sx F (d + 6)) (rdW.drop 2) 0 (gcL [tsO (ts ++ [t']),fsO (fs' ++ [f]),.list ((spl 10 t).map V.str)] (0 + 2) (putK 55 (.ref 2) L)) [tsO (ts ++ [t']),fsO (fs' ++ [f])]:=by
  refine (asgL (i:=55) e1).trans ?_
  rw [gcs,hg]; rfl
 have k121:=gk_gc (σ:=[tsO (ts ++ [t']),fsO (fs' ++ [f]),.list ((spl 10 t).map V.str)]) (n:=0 + 2) (gk_ne (j:=55) (v:=.ref 2) (by decide) h121) (w:=.bool cl.isSome) rfl
 have k83:=gk_gc (σ:=[tsO (ts ++ [t']),fsO (fs' ++ [f]),.list ((spl 10 t).map V.str)]) (n:=0 + 2) (gk_ne (j:=55) (v:=.ref 2) (by decide) h83) (w:=.frz (.list (ns.map V.int))) rfl
 have k123:=gk_gc (σ:=[tsO (ts ++ [t']),fsO (fs' ++ [f]),.list ((spl 10 t).map V.str)]) (n:=0 + 2) (gk_ne (j:=55) (v:=.ref 2) (by decide) h123) (w:=.ref 0) rfl
 have k124:=gk_gc (σ:=[tsO (ts ++ [t']),fsO (fs' ++ [f]),.list ((spl 10 t).map V.str)]) (n:=0 + 2) (gk_ne (j:=55) (v:=.ref 2) (by decide) h124) (w:=.ref 1) rfl
 have k3:=gk_gc (σ:=[tsO (ts ++ [t']),fsO (fs' ++ [f]),.list ((spl 10 t).map V.str)]) (n:=0 + 2) (gk_ne (j:=55) (v:=.ref 2) (by decide) h3) (w:=.str t) rfl
 have k55 : getK 55 (gcL [tsO (ts ++ [t']),fsO (fs' ++ [f]),.list ((spl 10 t).map V.str)] (0 + 2) (putK 55 (.ref 2) L)) = some (lV (spl 10 t)):=gk_gc gk_eq hv
 generalize gcL [tsO (ts ++ [t']),fsO (fs' ++ [f]),.list ((spl 10 t).map V.str)] (0 + 2) (putK 55 (.ref 2) L) = L1 at a1 k121 k83 k123 k124 k3 k55
 have e2 : evE (cD sx F (d + 6)) (.pop (.loc 123)) L1 [tsO (ts ++ [t']),fsO (fs' ++ [f])] = some (.str t',[tsO ts,fsO (fs' ++ [f])]) :=
  pop_L (ws:=ts.map V.str) (v:=.str t') (σ:=[tsO (ts ++ [t']),fsO (fs' ++ [f])]) k123 (congrArg some (congrArg O.list (List.map_append ..)))
 have a2:=asgL (i:=15) (z:=0) (r:=rdW.drop 3) e2
 have c121:=gk_ne (i:=121) (j:=15) (v:=.str t') (by decide) k121
 have c83:=gk_ne (i:=83) (j:=15) (v:=.str t') (by decide) k83
 have c123:=gk_ne (i:=123) (j:=15) (v:=.str t') (by decide) k123
 have c124:=gk_ne (i:=124) (j:=15) (v:=.str t') (by decide) k124
 have c3:=gk_ne (i:=3) (j:=15) (v:=.str t') (by decide) k3
 have c55:=gk_ne (i:=55) (j:=15) (v:=.str t') (by decide) k55
 have c15 : getK 15 (putK 15 (.str t') L1) = some (.str t'):=gk_eq
 generalize putK 15 (.str t') L1 = L2 at a2 c121 c83 c123 c124 c3 c55 c15
 obtain ⟨S,hS⟩:=sum_E (c:=cD sx F (d + 6)) c83
 have hS1 : 0 ≤ Int.fmod S 19:=Int.fmod_nonneg_of_pos _ (by decide)
 have e3 : evE (cD sx F (d + 6)) (.bin .add (.const (.int 1)) (.bin .mod (.sum (.loc 83)) (.const (.int 19)))) L2 [tsO ts,fsO (fs' ++ [f])] = some (.int ((1 + Int.fmod S 19).toNat : Nat),[tsO ts,fsO (fs' ++ [f])]):=by
  rw [show (((1 + Int.fmod S 19).toNat : Nat) : Int) = 1 + Int.fmod S 19 from Int.toNat_of_nonneg (Int.add_nonneg (by decide) hS1)]
  refine iaddE evE_const ?_
  rw [evE_bin,hS]; rfl
 have e4 : evE (cD sx F (d + 6)) (.ife (.loc 121) (.const (.str [34])) (.const .none)) L2 [tsO ts,fsO (fs' ++ [f])] = some (optV cl,[tsO ts,fsO (fs' ++ [f])]):=by
  rcases hc with rfl | rfl
  ·exact iteE (tvB c121) (fun q=>by cases q) (fun J=>evE_const)
  ·exact iteE (tvB c121) (fun J=>evE_const) (fun q=>by cases q)
 have e5 : runF (Law2.pr sx) F (d + 6) 820 [.str t,optV cl,.int ((1 + Int.fmod S 19).toNat : Nat)] [tsO ts,fsO (fs' ++ [f])] = some (tellV (t',f) t,[tsO ts,fsO (fs' ++ [f])]):=by
  rw [← htell]
  exact x820 (xr:=xrO ts (fs' ++ [f])) hF hT
 have e6 : evE (cD sx F (d + 6)) (.call 820 [.loc 3,.ife (.loc 121) (.const (.str [34])) (.const .none),.bin .add (.const (.int 1)) (.bin .mod (.sum (.loc 83)) (.const (.int 19)))]) L2 [tsO ts,fsO (fs' ++ [f])] = some (tellV (t',f) t,[tsO ts,fsO (fs' ++ [f])]):=by
  have e9:=evEsC (getE c3) (evEs2 e4 e3)
  exact callR e9 e5
 have e7 : evE (cD sx F (d + 6)) (.pop (.loc 124)) L2 [tsO ts,fsO (fs' ++ [f])] = some (lV f,[tsO ts,fsO fs']) :=
  pop_L (ws:=fs'.map lV) (v:=lV f) (σ:=[tsO ts,fsO (fs' ++ [f])]) c124 (congrArg some (congrArg O.list (List.map_append ..)))
 have e8 : evE (cD sx F (d + 6)) (.tupE [.loc 15,.pop (.loc 124),.tupE [.len (.loc 55),.len (.sub (.loc 55) (.neg (.const (.int 1))))]]) L2 [tsO ts,fsO (fs' ++ [f])] = some (tellV (t',f) t,[tsO ts,fsO fs']):=by
  rw [evE_tupE,evEsC (getE c15) (evEs2 e7 (plc_E c55))]; rfl
 have t1 : evT (cD sx F (d + 6)) (.cmp .ne (.call 820 [.loc 3,.ife (.loc 121) (.const (.str [34])) (.const .none),.bin .add (.const (.int 1)) (.bin .mod (.sum (.loc 83)) (.const (.int 19)))]) (.tupE [.loc 15,.pop (.loc 124),.tupE [.len (.loc 55),.len (.sub (.loc 55) (.neg (.const (.int 1))))]])) L2 [tsO ts,fsO (fs' ++ [f])] = some (false,[tsO ts,fsO fs']):=cmpT e6 e8 (ne_tell (t',f) t)
 have hg2 : gcS [tsO ts,fsO fs'] (0 + 2) = [tsO ts,fsO fs']:=gcS_id (σ:=[tsO ts,fsO fs']) (noR_xr _ _).cld
 refine ⟨gcL [tsO ts,fsO fs'] (0 + 2) (putK 3 (.str t') L2),fs',a1.trans (a2.trans ((ifN t1).trans ((asgL (getE c15)).trans ?_))),.mk hch' (gk_gc (gk_ne (by decide) c121) rfl) (gk_gc (gk_ne (by decide) c83) rfl) (gk_gc (gk_ne (by decide) c123) rfl) (gk_gc (gk_ne (by decide) c124) rfl) (gk_gc gk_eq rfl)⟩
 rw [gcs,hg2]; rfl
theorem rd_all (hF : 20000 < F) (hc : cl = none ∨ cl = some 34) {ts : List (List Nat)} {t : List Nat} {fs : List (List (List Nat))} (hl : ts.length ≤ 4) (h : RdI cl ns ts.length L [tsO ts,fsO fs]) :
 ∃ L' σ',evSs (cD sx F (d + 6)) [.whiles (.loc 123) rdW,.ret (.const (.bool true))] 0 L [tsO ts,fsO fs] = some (.ret (.bool true),L',σ'):=by
 obtain ⟨f,L',σ',e1,rfl⟩:=whileL_rule (test:=fun L s=>evT (cD sx F (d + 6)) (.loc 123) L s) (body:=fun L s=>evSs (cD sx F (d + 6)) rdW 0 L s) (K:=fun f L s=>f = .next) (RdI cl ns)
  (fun n L s h=>by
   cases h with | @mk ts t fs L hch h121 h83 h123 h124 h3 =>
   have t1 : evT (cD sx F (d + 6)) (.loc 123) L [tsO ts,fsO fs] = some (!(ts.map V.str).isEmpty,[tsO ts,fsO fs]):=by
    show Option.bind (evE (cD sx F (d + 6)) (.loc 123) L [tsO ts,fsO fs]) _ = _
    rw [getE h123]; rfl
   refine ⟨_,_,t1,?_⟩
   rcases List.eq_nil_or_concat ts with rfl | ⟨ts',t',rfl⟩
   ·exact rfl
   ·rw [List.concat_eq_append] at *
    rw [show (!((ts' ++ [t']).map V.str).isEmpty) = true by rw [List.map_append]; cases ts'.map V.str <;> rfl]
    obtain ⟨L2,fs2,i1,i2⟩:=rd_body (F:=F) (d:=d) (sx:=sx) hF hc hch h121 h83 h123 h124 h3
    exact ⟨.next,L2,_,i1,ts'.length,by rw [List.length_append]; exact Nat.lt_succ_self _,i2⟩) (cD sx F (d + 6)).fuel ts.length L _ (show ts.length < F by lia) h
 exact ⟨L',σ',(whileS (b:=rdW) e1).trans rfl⟩
theorem law_true (hF : 20000 < F) (hs : (Law2.pr sx).so sp = some (.list (is.map V.int))) : ∃ L' σ',evSs (cxOf (Law2.pr sx) F (runF (Law2.pr sx) F (d + 6))) Law2.f827 0 [(2,.sref sp)] [] = some (.ret (.bool true),L',σ'):=by
 obtain ⟨ns,hn4,hn0,e1⟩:=st_num (F:=F) (d:=d) hs
 obtain ⟨S,hS⟩:=sum_E (c:=cD sx F (d + 6)) (L:=[(2,.sref sp),(83,.frz (.list (ns.map V.int)))]) rfl
 obtain ⟨cl,hc,hcl⟩ : ∃ cl : Option Nat,(cl = none ∨ cl = some 34) ∧ (Int.fmod S 2 == 1) = cl.isSome:=by
  cases Int.fmod S 2 == 1 with
  | true=>exact ⟨some 34,.inr rfl,rfl⟩
  | false=>exact ⟨none,.inl rfl,rfl⟩
 have e2 : evE (cD sx F (d + 6)) (.cmp .eq (.bin .mod (.sum (.loc 83)) (.const (.int 2))) (.const (.int 1))) [(2,.sref sp),(83,.frz (.list (ns.map V.int)))] [] = some (.bool cl.isSome,[]):=by
  rw [← hcl]
  refine cmpE (a:=.int (Int.fmod S 2)) ?_ evE_const rfl
  rw [evE_bin,hS]; rfl
 obtain ⟨L1,us,e3,u1,u2,g121,g83,g122⟩:=un_loop (F:=F) (d:=d) (sx:=sx) (cl:=cl) (ns:=ns) (L:=[(2,.sref sp),(83,.frz (.list (ns.map V.int))),(121,.bool cl.isSome),(122,lV [])]) hn4 rfl rfl rfl
 have hful : us.flatten.length ≤ LIM:=by
  have : us.flatten.length ≤ us.length * 2:=by
   clear e3 g122 u1
   induction us with
   | nil=>exact Nat.zero_le _
   | cons u us ih =>
    have:=ih fun v hv=>u2 v (.tail _ hv)
    have:=(u2 u (.head _)).l2
    rw [List.flatten_cons,List.length_append,List.length_cons]; lia
  unfold LIM; lia
 have e4 : evE (cD sx F (d + 6)) (.listE [.join [] (.loc 122)]) L1 [] = some (.ref 0,[tsO [us.flatten]]):=by
  have:=joinV_eq (c:=cD sx F (d + 6)) (v:=lV us) (σ:=[]) (ps:=us) rfl hful
  rw [evE_listE,evEs1 (v:=.str us.flatten) (σ1:=[]) (by rw [evE_join,getE g122]; exact this)]; rfl
 have hS2 : 0 ≤ Int.fmod (Int.fdiv S 2) 3 ∧ Int.fmod (Int.fdiv S 2) 3 < 3:=⟨Int.fmod_nonneg_of_pos _ (by decide),Int.fmod_lt_of_pos _ (by decide)⟩
 obtain ⟨S',hS'⟩:=sum_E (c:=cD sx F (d + 6)) (L:=putK 124 (.ref 1) (putK 123 (.ref 0) L1)) (gk_ne (by decide) (gk_ne (by decide) g83))
 have hS3 : 0 ≤ Int.fmod (Int.fdiv S' 2) 3 ∧ Int.fmod (Int.fdiv S' 2) 3 < 3:=⟨Int.fmod_nonneg_of_pos _ (by decide),Int.fmod_lt_of_pos _ (by decide)⟩
 have e5 : evE (cD sx F (d + 6)) (.range (.bin .add (.const (.int 1)) (.bin .mod (.bin .fdiv (.sum (.loc 83)) (.const (.int 2))) (.const (.int 3))))) (putK 124 (.ref 1) (putK 123 (.ref 0) L1)) [tsO [us.flatten],fsO []] = some (.ref 2,[tsO [us.flatten],fsO [],.rng 0 (((1 + Int.fmod (Int.fdiv S' 2) 3).toNat : Nat)) 1]):=by
  rw [show (((1 + Int.fmod (Int.fdiv S' 2) 3).toNat : Nat) : Int) = 1 + Int.fmod (Int.fdiv S' 2) 3 by omega]
  have e6 : evE (cD sx F (d + 6)) (.bin .add (.const (.int 1)) (.bin .mod (.bin .fdiv (.sum (.loc 83)) (.const (.int 2))) (.const (.int 3)))) (putK 124 (.ref 1) (putK 123 (.ref 0) L1)) [tsO [us.flatten],fsO []] = some (.int (1 + Int.fmod (Int.fdiv S' 2) 3),[tsO [us.flatten],fsO []]):=by
   refine iaddE evE_const ?_
   rw [evE_bin,evE_bin,hS']; rfl
  rw [evE_range,e6]
  exact if_pos (by unfold LIM; omega)
 obtain ⟨L2,ts,t',fs,e7,hch,hlen,k121,k83,k123,k124⟩:=lv_loop (F:=F) (d:=d) (sx:=sx) (cl:=cl) (ns:=ns) (L:=putK 124 (.ref 1) (putK 123 (.ref 0) L1)) (m:=(1 + Int.fmod (Int.fdiv S' 2) 3).toNat) hc hn0 (by omega) rfl u1 u2 (gk_ne (by decide) (gk_ne (by decide) g121)) (gk_ne (by decide) (gk_ne (by decide) g83)) (gk_ne (by decide) (gk_ne (by decide) g122)) (gk_ne (by decide) gk_eq) gk_eq e5
 have e8 : evE (cD sx F (d + 6)) (.pop (.loc 123)) L2 [tsO (ts ++ [t']),fsO fs] = some (.str t',[tsO ts,fsO fs]) :=
  pop_L (ws:=ts.map V.str) (v:=.str t') (σ:=[tsO (ts ++ [t']),fsO fs]) k123 (congrArg some (congrArg O.list (List.map_append ..)))
 obtain ⟨L',σ',e9⟩:=rd_all (F:=F) (d:=d) (sx:=sx) (L:=putK 3 (.str t') L2) (ts:=ts) (t:=t') hF hc (by rw [List.length_append] at hlen; lia) (.mk hch (gk_ne (by decide) k121) (gk_ne (by decide) k83) (gk_ne (by decide) k123) (gk_ne (by decide) k124) gk_eq)
 refine ⟨L',σ',(e1 _).trans ((asgL e2).trans ((asgL (v:=.ref 0) (σ1:=[.list []]) rfl).trans ?_))⟩
 rw [gcs]
 show evSs (cD sx F (d + 6)) (.fors (.one 31) (.loc 83) uniB :: Law2.f827.drop 6) 0 [(2,.sref sp),(83,.frz (.list (ns.map V.int))),(121,.bool cl.isSome),(122,lV [])] [] = _
 refine (e3 _).trans ((asgL e4).trans ((asgL (v:=.ref 1) (σ1:=[tsO [us.flatten],fsO []]) rfl).trans ?_))
 exact (e7 _).trans ((asgL e8).trans e9)
end
end
theorem pr_lo {p : Pr} {l lx : List (Nat × Fn)} (h : p.fns = fnsL l lx) {f : Nat} {fn : Fn} (hb : f < BIG) (e : p.fns f = some fn) : getK f l = some fn:=by rw [h,fnsL_lo hb] at e; exact e
theorem pr_hi {p : Pr} {l lx : List (Nat × Fn)} (h : p.fns = fnsL l lx) {f : Nat} {fn : Fn} (e : p.fns (f + BIG) = some fn) : getK f lx = some fn:=by rw [h,fnsL_hi] at e; exact e
theorem avL_ok {tb : List Str} : ∀ {fs : List (Nat × V)} {es : List DictEntry},avL tb fs es = true → All2 (AV tb HS.nil) fs es
 | [],es,h=>by rw [rNilE h]; exact .nil
 | p :: fs,es,h=>rConsE (P:=fun es=>All2 (AV tb HS.nil) (p :: fs) es) h fun e r h=>an h fun h h3=>an h fun h1 h2=>by
  refine .cons ?_ (avL_ok h3)
  obtain ⟨hash,key,val⟩:=e
  cases key with
  | str x t=>exact ⟨x,t,nmI_ok h1,rfl,vrB_ok h2⟩
  | _=>exact noB h1
theorem so_obj {W : Wd} {a C D : Nat} {fs : List (Nat × V)} (h : W.K.lookup a = some (instObj C D)) (h2 : W.K.lookup D = some (dictOf (esOf W.K D) (epOf W.K D))) (hv : avL W.tb fs (esOf W.K D) = true) (nd : (fs.map (·.1)).Nodup) (hl : Nat.ble fs.length 900 = true) : SoAt W a (.inst C fs):=so_inst h h2 (avL_ok hv) nd hl
namespace Law2
noncomputable def tbS : List Str:=tab.map Str.ofString
noncomputable def tc : Tc:=⟨tbS,[(Str.ofString "EOF",some .none),(Str.ofString "HTMLTokenizer",some (.sref 762)),(Str.ofString "HTMLUnicodeInputStream",some (.sref 166)),(Str.ofString "Text",some (.sref 73)),(Str.ofString "_is_invalid",some (.sref 84)),(Str.ofString "_law_WORDS",some (.sref 773)),(Str.ofString "_law_close",some (.sref 787)),(Str.ofString "_law_left",some (.sref 801)),(Str.ofString "_law_longest",some (.sref 794)),(Str.ofString "_law_reading",some (.sref 820)),(Str.ofString "_law_sign",some (.sref 806)),(Str.ofString "_law_units",some (.sref 780)),(Str.ofString "_law_write",some (.sref 813)),(Str.ofString "asciiLetters",some (.sref 27)),(Str.ofString "bisect_left",some (.sref 178)),(Str.ofString "digits",some (.sref 32)),(Str.ofString "entities",some (.sref 43)),(Str.ofString "entitiesTrie",some (.sref 236)),(Str.ofString "spaceCharacters",some (.sref 22)),(Str.ofString "tokenTypes",some (.sref 48)),(Str.ofString "KeyError",none),(Str.ofString "chr",none),(Str.ofString "len",none),(Str.ofString "list",none),(Str.ofString "ord",none),(Str.ofString "range",none),(Str.ofString "sum",none)],[780,813,820,773,806,801,787,794,84,178,827],[762,166,73]⟩
noncomputable def clL : List Nat:=[73,166,230,762]
theorem nd_tb : tbS.Nodup:=by decide +kernel
theorem law_go {w : World} {K : Frag} {prog : Program} {p : Program} {loose : List Str} {mean : ExcName → Option Value} {mg mb : Str → Option Value} {sp n : Nat} {is : List Int} {vs : List Value} {s₁ : Shared} (hI : IntsAre vs is) (hlen : is.length ≤ 63) (hob : s₁.heap.get? sp = some (listOf vs.toArray n)) (KX : K.In s₁.heap) (T : Top p loose mean mg mb s₁.heap)
 (c1 : tcB (K ++ [(sp,listOf vs.toArray n)]) tc = true) (c2 : clB tbS (K ++ [(sp,listOf vs.toArray n)]) clL clsmL clsvL clsiL = true) (c3 : allP (fun q : Nat × Fn=>fnB tc (K ++ [(sp,listOf vs.toArray n)]) q.1 q.2 = true) fnL) (c3x : allP (fun q : Nat × Fn=>fnBX tc (K ++ [(sp,listOf vs.toArray n)]) q.1 q.2 = true) fnXL)
 (c4 : allP (fun q : Nat × O=>SoAt ⟨prog,w,K ++ [(sp,listOf vs.toArray n)],p,loose,mean,mg,mb,tbS⟩ q.1 q.2) soL)
 (c5 : allP (fun q : Nat × Fn=>BindOk ⟨prog,w,K ++ [(sp,listOf vs.toArray n)],p,loose,mean,mg,mb,tbS⟩ q.2 (fdOf (K ++ [(sp,listOf vs.toArray n)]) q.1) (fdOf (K ++ [(sp,listOf vs.toArray n)]) q.1).scope) fnL) (c5x : allP (fun q : Nat × Fn=>BindOk ⟨prog,w,K ++ [(sp,listOf vs.toArray n)],p,loose,mean,mg,mb,tbS⟩ q.2 (fdOf (K ++ [(sp,listOf vs.toArray n)]) q.1) (fdOf (K ++ [(sp,listOf vs.toArray n)]) q.1).scope) fnXL)
 {qual name : Str} {params : Arguments} {body : List Stmt} {scope : Scope} {dV kV doc pm cdv ct oc : Value} {an od : Option Addr} {osl : Array (Option Value)}
 (hat : K.lookup 827 = some ⟨oc,od,.func (fnOf name qual params body scope dV kV doc pm an cdv ct),osl⟩)
 (hnc : noCell scope.names = true)
 {fa : Addr} {cd : Value} {h₁ : Heap} {nm : Str} {g : Array GenState} {dr : Drawn} {tk : Nat} {os : OsState}
 (F : PyProof.Rows.Fr s₁.heap s₁.heap.objs.size h₁ (fun z=>[(Str.ofString "script",Value.ref sp)].reverse.lookup z)) (N0 : News s₁.heap s₁.heap.objs.size h₁ []) (ht : 1 ≤ tk) {Q : Flow → Shared → Prop} {E : Value → Shared → Prop}
 (H : ∀ h' t',(∀ b o,s₁.heap.get? b = some o → h'.get? b = some o) → Q (.ret (.bool true)) ⟨h',g,dr,t',os⟩) :
 wpAny (model prog w) (callerA.deeper (envOf nm scope s₁.heap.objs.size fa cd)) (execs body (envOf nm scope s₁.heap.objs.size fa cd)) Q E ⟨h₁,g,dr,tk,os⟩:=by
 have hss : (pr [(sp,.list (is.map V.int))]).so sp = some (.list (is.map V.int)):=by
  show (match getK sp soL with | some o=>some o | none=>getK sp [(sp,.list (is.map V.int))]) = _
  rw [so_none c4 rfl (in_app KX hob) hI hob]
  show (bif Nat.beq sp sp then some _ else none) = _
  rw [Nat.beq_refl]; rfl
 have hl : (is.map V.int).length ≤ LIM + LIM:=by rw [List.length_map]; exact Nat.le_trans hlen (by decide)
 have TC:=tcB_ok (W:=⟨prog,w,K ++ [(sp,listOf vs.toArray n)],p,loose,mean,mg,mb,tbS⟩) rfl c1
 exact run_law (W:=⟨prog,w,K ++ [(sp,listOf vs.toArray n)],p,loose,mean,mg,mb,tbS⟩) (p:=pr [(sp,.list (is.map V.int))]) (lawF:=lawF) (sp:=sp) (i:=2) (x:=Str.ofString "script") (fuel:=30000) (d:=6)
  (so_of c4 (so_one (lookup_in KX hob) (.list (ints_all hI) hl))) (fun fuel call=>clB_ok nd_tb rfl rfl rfl c2) rfl (fun f fn hb e=>fns_of TC c3 c5 f fn (pr_lo rfl hb e)) (fun f fn e=>fns_ofX TC c3x c5x f fn (pr_hi rfl e)) (lookup_app hat) hnc (by decide) rfl rfl T (in_app KX hob) F N0 ht (by decide) (law_true (d:=0) (by decide) hss) H
end Law2
end Internal
open Internal
namespace Mine.all
abbrev T:Prop:=True
theorem t:T:=⟨⟩
theorem tw10011055193491271300:T:=t
theorem tw10034031380863371641:T:=t
theorem tw10042690540180379618:T:=t
theorem tw10045075416114340931:T:=t
theorem tw10049700130234932854:T:=t
theorem tw100579137028481972:T:=t
theorem tw10059427243083084051:T:=t
theorem tw10073190252686323273:T:=t
theorem tw10123830019554174990:T:=t
theorem tw10127320685908719325:T:=t
theorem tw10130366669087276332:T:=t
theorem tw10131221437080536637:T:=t
theorem tw10156424416328317940:T:=t
theorem tw10157199282875686013:T:=t
theorem tw10168888151487559394:T:=t
theorem tw1017140601122697898:T:=t
theorem tw10175558820241607032:T:=t
theorem tw10197837139470215952:T:=t
theorem tw10205450789954323259:T:=t
theorem tw10215604902903598199:T:=t
theorem tw10227051316576381974:T:=t
theorem tw10252965763247687682:T:=t
theorem tw10268101183197098196:T:=t
theorem tw10270419983477892464:T:=t
theorem tw10277023259857791717:T:=t
theorem tw10277526245819850656:T:=t
theorem tw10289937546816008636:T:=t
theorem tw10323370424266482742:T:=t
theorem tw10343516019890357620:T:=t
theorem tw10379555496612227986:T:=t
theorem tw10389294372677164839:T:=t
theorem tw10407399669362838719:T:=t
theorem tw10420891854494221733:T:=t
theorem tw10427701671452009419:T:=t
theorem tw1048652492466739355:T:=t
theorem tw10505120051468078558:T:=t
theorem tw10532639588233176698:T:=t
theorem tw10600613889749566790:T:=t
theorem tw10634939071730365363:T:=t
theorem tw10636018739910865072:T:=t
theorem tw10640303290150162726:T:=t
theorem tw10640348836240559591:T:=t
theorem tw1064809361808223833:T:=t
theorem tw10649901628825759099:T:=t
theorem tw10654450574037986307:T:=t
theorem tw10658958392246782621:T:=t
theorem tw10677670038743541358:T:=t
theorem tw10681620039792923934:T:=t
theorem tw10684865472388628163:T:=t
theorem tw10696458614491829572:T:=t
theorem tw10697019674602590866:T:=t
theorem tw10721592527251718529:T:=t
theorem tw10736233294631003445:T:=t
theorem tw10739910033669202754:T:=t
theorem tw1074977417605700491:T:=t
theorem tw1075291646940621582:T:=t
theorem tw10771693280256995429:T:=t
theorem tw10773934983489079739:T:=t
theorem tw10807058235482574751:T:=t
theorem tw10808106126208798102:T:=t
theorem tw10809422741971537594:T:=t
theorem tw1081408078033650336:T:=t
theorem tw10825269862236069917:T:=t
theorem tw1088589479996732829:T:=t
theorem tw10895411794446438415:T:=t
theorem tw10912467617979834864:T:=t
theorem tw10921597071642053482:T:=t
theorem tw10923070005692675132:T:=t
theorem tw10942295900298899174:T:=t
theorem tw10951284943951773250:T:=t
theorem tw1095355495446544911:T:=t
theorem tw1095929389519559783:T:=t
theorem tw10971250334911043752:T:=t
theorem tw11013067947808108990:T:=t
theorem tw11033290881951375731:T:=t
theorem tw11038128598146805730:T:=t
theorem tw11045270430615452010:T:=t
theorem tw11051373392699811023:T:=t
theorem tw11059894655552103594:T:=t
theorem tw11070880734014958032:T:=t
theorem tw11084693905056812178:T:=t
theorem tw11093295523969242068:T:=t
theorem tw11099160449156100569:T:=t
theorem tw11102767992079720913:T:=t
theorem tw11112267310362752236:T:=t
theorem tw11113120797386210373:T:=t
theorem tw11116879363250112325:T:=t
theorem tw11120492362615346026:T:=t
theorem tw11158953913317867288:T:=t
theorem tw11169558830825096451:T:=t
theorem tw11177561488728990998:T:=t
theorem tw11221641727941109892:T:=t
theorem tw11223482586740685078:T:=t
theorem tw11230645906715702508:T:=t
theorem tw11273133048781285286:T:=t
theorem tw11276062564640038955:T:=t
theorem tw11277845596349742556:T:=t
theorem tw11322697920292055282:T:=t
theorem tw11330118131623060689:T:=t
theorem tw11338558125871782157:T:=t
theorem tw11375281295658956675:T:=t
theorem tw11378520881680533043:T:=t
theorem tw1142058581544160548:T:=t
theorem tw11433317345382964763:T:=t
theorem tw11441816438227186863:T:=t
theorem tw11446199593928302625:T:=t
theorem tw11448872678469705673:T:=t
theorem tw11449233824965966284:T:=t
theorem tw11483514542923596125:T:=t
theorem tw11483986225225671339:T:=t
theorem tw11488495728068971930:T:=t
theorem tw11489409643829403841:T:=t
theorem tw11492293592050298618:T:=t
theorem tw1149733072300507863:T:=t
theorem tw11536899603342547138:T:=t
theorem tw11554346470539331173:T:=t
theorem tw11563076530477234726:T:=t
theorem tw11563124874051873174:T:=t
theorem tw1160345676404013698:T:=t
theorem tw11612715853725182930:T:=t
theorem tw11665615536025424988:T:=t
theorem tw11682010486851493762:T:=t
theorem tw11686026206685797588:T:=t
theorem tw11706699075341729706:T:=t
theorem tw11719151900338479318:T:=t
theorem tw11736780227944870738:T:=t
theorem tw11738243901336025406:T:=t
theorem tw11759228797649091452:T:=t
theorem tw11776277695535270532:T:=t
theorem tw11777086365064915542:T:=t
theorem tw11785345923209364544:T:=t
theorem tw11790413056962406381:T:=t
theorem tw11795751877021904696:T:=t
theorem tw11798761498685784450:T:=t
theorem tw1181928336742247333:T:=t
theorem tw11833095699794131469:T:=t
theorem tw11833515131569705653:T:=t
theorem tw11857263309510223267:T:=t
theorem tw11877403491279123046:T:=t
theorem tw11884583355970431823:T:=t
theorem tw11888049472147760879:T:=t
theorem tw11904431243951574334:T:=t
theorem tw11925040711228000680:T:=t
theorem tw11928815663860865973:T:=t
theorem tw11931136993785318394:T:=t
theorem tw11931918283646908614:T:=t
theorem tw11938969084713633202:T:=t
theorem tw11959420509538560460:T:=t
theorem tw11961059351148515626:T:=t
theorem tw12028550053918628185:T:=t
theorem tw12040197634456252077:T:=t
theorem tw12052537262409512078:T:=t
theorem tw12071712058454129317:T:=t
theorem tw12086854489832023308:T:=t
theorem tw12093699491013135689:T:=t
theorem tw12109177834331835950:T:=t
theorem tw12122067901350261443:T:=t
theorem tw12136012030893486346:T:=t
theorem tw12139170077877725708:T:=t
theorem tw12139988101201813748:T:=t
theorem tw1215526528800860966:T:=t
theorem tw1216898108829112853:T:=t
theorem tw1218705752920720458:T:=t
theorem tw12212617724871111176:T:=t
theorem tw12221947951091446842:T:=t
theorem tw12248520049373816357:T:=t
theorem tw12249842068641981632:T:=t
theorem tw12254430714555821875:T:=t
theorem tw12267322187703008927:T:=t
theorem tw12267468486907949403:T:=t
theorem tw1229007388973216393:T:=t
theorem tw12304872625307995750:T:=t
theorem tw12317132656592258788:T:=t
theorem tw12345319411167063811:T:=t
theorem tw12359608480711761030:T:=t
theorem tw12364857061501726476:T:=t
theorem tw12381699962588209086:T:=t
theorem tw1238725946784135233:T:=t
theorem tw12394350090093965224:T:=t
theorem tw12412031795608718596:T:=t
theorem tw12414080155028449296:T:=t
theorem tw12429134901205526213:T:=t
theorem tw12451815053677690644:T:=t
theorem tw12461584238705310493:T:=t
theorem tw12504994543719847139:T:=t
theorem tw12512054102949984058:T:=t
theorem tw125183967897747985:T:=t
theorem tw1252384811442314424:T:=t
theorem tw12540455083557110006:T:=t
theorem tw12563039088042482649:T:=t
theorem tw1257692432398776216:T:=t
theorem tw12588910511511068231:T:=t
theorem tw12588980310967471357:T:=t
theorem tw12622491811137199776:T:=t
theorem tw12638004864335716521:T:=t
theorem tw12661847378627794183:T:=t
theorem tw12670715608682713705:T:=t
theorem tw12674233846100721760:T:=t
theorem tw12784588452913835247:T:=t
theorem tw12791884135346583072:T:=t
theorem tw12792818772944746097:T:=t
theorem tw12810256067151697097:T:=t
theorem tw12819504698909858696:T:=t
theorem tw12844303918539010487:T:=t
theorem tw12880678843202035506:T:=t
theorem tw12885334096101347146:T:=t
theorem tw1291087626157917732:T:=t
theorem tw12926333453430215753:T:=t
theorem tw12926644002878227130:T:=t
theorem tw12981892083367582941:T:=t
theorem tw12985212532813657682:T:=t
theorem tw1298631472846954095:T:=t
theorem tw12988922753241023683:T:=t
theorem tw12994552909553032409:T:=t
theorem tw13005817628092065933:T:=t
theorem tw13027540482245733427:T:=t
theorem tw13057232943065969744:T:=t
theorem tw13071023791616644796:T:=t
theorem tw13098716769926991806:T:=t
theorem tw13100642850353945058:T:=t
theorem tw13131873550985489304:T:=t
theorem tw13132907815185506690:T:=t
theorem tw13135058765949404771:T:=t
theorem tw13138308880297050008:T:=t
theorem tw13143037982756497821:T:=t
theorem tw13159001897076375314:T:=t
theorem tw13185015893256467352:T:=t
theorem tw13191808637467804247:T:=t
theorem tw13196349276625024522:T:=t
theorem tw13215034200063782512:T:=t
theorem tw13215351417096909983:T:=t
theorem tw13226574990515446508:T:=t
theorem tw13233751423148406618:T:=t
theorem tw1323426155142419162:T:=t
theorem tw13238087922356334437:T:=t
theorem tw1326175403826912198:T:=t
theorem tw13270324115958721901:T:=t
theorem tw13280618800183650999:T:=t
theorem tw13282074430368766303:T:=t
theorem tw13283931332471535325:T:=t
theorem tw13338274903956020161:T:=t
theorem tw13358122933769645826:T:=t
theorem tw13358604424828501309:T:=t
theorem tw13376464931078446103:T:=t
theorem tw13382282417035153051:T:=t
theorem tw1342379931026441069:T:=t
theorem tw13428697972904913174:T:=t
theorem tw13429984922391205789:T:=t
theorem tw13431290835526063760:T:=t
theorem tw13434531468450553753:T:=t
theorem tw13455461431897201640:T:=t
theorem tw13467292715098799918:T:=t
theorem tw13476624294007221044:T:=t
theorem tw13492395982464255480:T:=t
theorem tw13492775673106092688:T:=t
theorem tw13505173894226300209:T:=t
theorem tw13509908655624090359:T:=t
theorem tw1352723322627576488:T:=t
theorem tw13537625653133889323:T:=t
theorem tw13556967374752276637:T:=t
theorem tw1356099576862622092:T:=t
theorem tw13586417535379780766:T:=t
theorem tw13594655482070763311:T:=t
theorem tw13596499734656872166:T:=t
theorem tw13607757164722159089:T:=t
theorem tw13608339801890971764:T:=t
theorem tw13652370015207561478:T:=t
theorem tw13663018214320142090:T:=t
theorem tw13678831315298964934:T:=t
theorem tw13830746773910301732:T:=t
theorem tw13874455239767017017:T:=t
theorem tw13897503799994109090:T:=t
theorem tw13912068318134460016:T:=t
theorem tw13928513891281363954:T:=t
theorem tw13930999109560414629:T:=t
theorem tw13940850861556554722:T:=t
theorem tw13960862262899742394:T:=t
theorem tw14003663102062188800:T:=t
theorem tw14016128756215271500:T:=t
theorem tw14057782590025463129:T:=t
theorem tw14066901625076523032:T:=t
theorem tw14068239771850734003:T:=t
theorem tw14074921412963316263:T:=t
theorem tw14076077854437140390:T:=t
theorem tw14081932915414352519:T:=t
theorem tw14099800850047386279:T:=t
theorem tw14106571916235994328:T:=t
theorem tw14124840197023413450:T:=t
theorem tw14126516920343173744:T:=t
theorem tw14130914514491923361:T:=t
theorem tw14137088127444503866:T:=t
theorem tw14151137839513740329:T:=t
theorem tw14200518018382609147:T:=t
theorem tw14201790961670687459:T:=t
theorem tw14204109254541194217:T:=t
theorem tw14209155647100055501:T:=t
theorem tw14211586455995466092:T:=t
theorem tw14229981574245695772:T:=t
theorem tw14240570626067109177:T:=t
theorem tw14242173848286271349:T:=t
theorem tw14279031849638215902:T:=t
theorem tw14288127532215574351:T:=t
theorem tw14310873030558110092:T:=t
theorem tw14331890051309236264:T:=t
theorem tw14332598561130271602:T:=t
theorem tw14334803219462250954:T:=t
theorem tw14363635269092464839:T:=t
theorem tw14365998534574843411:T:=t
theorem tw1441969693819510846:T:=t
theorem tw14420213329864412023:T:=t
theorem tw14421808642430287336:T:=t
theorem tw1446525512094189494:T:=t
theorem tw14483376603434069256:T:=t
theorem tw14497616064866002163:T:=t
theorem tw14504465163362997928:T:=t
theorem tw14511287757244466272:T:=t
theorem tw14523845485542788104:T:=t
theorem tw14539000326390715668:T:=t
theorem tw14541659766323124216:T:=t
theorem tw14549113301119539810:T:=t
theorem tw14599574564126857124:T:=t
theorem tw14615947125993099273:T:=t
theorem tw1463055204123409192:T:=t
theorem tw14647661154017913664:T:=t
theorem tw14648097213134440425:T:=t
theorem tw14648276583578725374:T:=t
theorem tw14721843458392949018:T:=t
theorem tw14753627124330771394:T:=t
theorem tw14761609227482058788:T:=t
theorem tw14766046522696363495:T:=t
theorem tw14771985120617686802:T:=t
theorem tw14793058985867185695:T:=t
theorem tw14810779743422990796:T:=t
theorem tw14822214895437561417:T:=t
theorem tw14832271272948145296:T:=t
theorem tw14832659646925512398:T:=t
theorem tw14832718209330476552:T:=t
theorem tw14847532645272441617:T:=t
theorem tw14848961488311411958:T:=t
theorem tw14849280956162755979:T:=t
theorem tw14853665493834295914:T:=t
theorem tw14899674885815798178:T:=t
theorem tw14904704724044331575:T:=t
theorem tw14911401402694521299:T:=t
theorem tw14932615516516682873:T:=t
theorem tw14940032972901115816:T:=t
theorem tw14947195102879435706:T:=t
theorem tw14970210157437980911:T:=t
theorem tw14984247238865676675:T:=t
theorem tw14989955638788694861:T:=t
theorem tw14991459337918240759:T:=t
theorem tw15014361466247048854:T:=t
theorem tw15021512155152510720:T:=t
theorem tw15054863418237798948:T:=t
theorem tw15059917014629022394:T:=t
theorem tw15081044799308232511:T:=t
theorem tw15097909243742831393:T:=t
theorem tw15105651507014581045:T:=t
theorem tw1512304892737732121:T:=t
theorem tw15128398863637318132:T:=t
theorem tw1515648671985560317:T:=t
theorem tw15170529588900197071:T:=t
theorem tw15176617289070330970:T:=t
theorem tw15198316981687975854:T:=t
theorem tw15242674970999812785:T:=t
theorem tw15248031165874397040:T:=t
theorem tw15271115526033407858:T:=t
theorem tw15284455985751111415:T:=t
theorem tw15300001336698509272:T:=t
theorem tw15305453227285626446:T:=t
theorem tw15309484375228292530:T:=t
theorem tw15331906349341453337:T:=t
theorem tw15349560271838185979:T:=t
theorem tw15354443143932468990:T:=t
theorem tw15359849362664289188:T:=t
theorem tw15391004526167926365:T:=t
theorem tw15414233836422861205:T:=t
theorem tw15417909909646571957:T:=t
theorem tw15425500068641797970:T:=t
theorem tw15429038253546691098:T:=t
theorem tw15434274335043249755:T:=t
theorem tw15437854835666668586:T:=t
theorem tw15451204947285891726:T:=t
theorem tw15460995928004159328:T:=t
theorem tw15471726915170369524:T:=t
theorem tw1548488679004171357:T:=t
theorem tw1550712947053634219:T:=t
theorem tw15519761934197397234:T:=t
theorem tw15526263569004567679:T:=t
theorem tw15541118713287057729:T:=t
theorem tw15549322291213767670:T:=t
theorem tw15568806467266420770:T:=t
theorem tw15575253945988166476:T:=t
theorem tw15585509438621463966:T:=t
theorem tw15612066896164977022:T:=t
theorem tw15616977368355137958:T:=t
theorem tw15651733941924773997:T:=t
theorem tw15658559082620302479:T:=t
theorem tw15671812041987572844:T:=t
theorem tw15714474698464851408:T:=t
theorem tw15717111371951823431:T:=t
theorem tw15766547542915688834:T:=t
theorem tw15775133740396041162:T:=t
theorem tw15778654729900951400:T:=t
theorem tw15832853479444819159:T:=t
theorem tw1585303152785439333:T:=t
theorem tw1586037315452845605:T:=t
theorem tw15866815640656860141:T:=t
theorem tw15875746330617476859:T:=t
theorem tw15902913901339227234:T:=t
theorem tw15905863888603160686:T:=t
theorem tw15906484144062456574:T:=t
theorem tw15923569513143324050:T:=t
theorem tw15968848678202421516:T:=t
theorem tw15977508845680753073:T:=t
theorem tw15991472142188878074:T:=t
theorem tw1601506941167368761:T:=t
theorem tw16016398639907115627:T:=t
theorem tw16042742768279583112:T:=t
theorem tw16050607636748323804:T:=t
theorem tw16053908350159596564:T:=t
theorem tw16057471521750792484:T:=t
theorem tw16083011106298858529:T:=t
theorem tw16084742875079473383:T:=t
theorem tw16088354708999966866:T:=t
theorem tw16097505516487973002:T:=t
theorem tw1611252808612934635:T:=t
theorem tw16158510106006900030:T:=t
theorem tw16169115639287123334:T:=t
theorem tw16171933092410999983:T:=t
theorem tw16176830815697697194:T:=t
theorem tw16188822405700688499:T:=t
theorem tw16215753837559589999:T:=t
theorem tw16223638597430114740:T:=t
theorem tw16232008947845578158:T:=t
theorem tw16243829828752206327:T:=t
theorem tw16254912398560273435:T:=t
theorem tw16288533217561068507:T:=t
theorem tw16296590348105434372:T:=t
theorem tw16298671858544969935:T:=t
theorem tw16339503202031470875:T:=t
theorem tw16344876080836181191:T:=t
theorem tw16354672406610356589:T:=t
theorem tw16369536886227021476:T:=t
theorem tw1639981616727947583:T:=t
theorem tw16400751074865733910:T:=t
theorem tw16417971975926614949:T:=t
theorem tw16424727738075169484:T:=t
theorem tw16432233866770964294:T:=t
theorem tw16433278489552267077:T:=t
theorem tw1644255569911684797:T:=t
theorem tw16444899576201249432:T:=t
theorem tw16447172759540358135:T:=t
theorem tw16456409905306380572:T:=t
theorem tw16490853721002535474:T:=t
theorem tw16526751206710464603:T:=t
theorem tw16543909344144541449:T:=t
theorem tw16567661231398824811:T:=t
theorem tw16573077582942348641:T:=t
theorem tw16576222957257545530:T:=t
theorem tw16592893570014863828:T:=t
theorem tw16613986766636957236:T:=t
theorem tw16615192147309376951:T:=t
theorem tw16636436465759865564:T:=t
theorem tw16644902639655322133:T:=t
theorem tw16665526110328478529:T:=t
theorem tw16694476904998839863:T:=t
theorem tw16700318575013349798:T:=t
theorem tw16707023172919728626:T:=t
theorem tw16711731339798493391:T:=t
theorem tw16720883766928916882:T:=t
theorem tw16726255535346028473:T:=t
theorem tw16727532447511142511:T:=t
theorem tw16739083755425606968:T:=t
theorem tw16740921855470316824:T:=t
theorem tw16747629065405408630:T:=t
theorem tw167550967247993687:T:=t
theorem tw16773635481313006432:T:=t
theorem tw16785538882571980543:T:=t
theorem tw16788233547135642414:T:=t
theorem tw1681544595491871160:T:=t
theorem tw16838893715234930207:T:=t
theorem tw16876236935048986776:T:=t
theorem tw16877496141331604692:T:=t
theorem tw16914399131622226476:T:=t
theorem tw16926426053830025025:T:=t
theorem tw16942522186650535968:T:=t
theorem tw1694654335647164047:T:=t
theorem tw16949009020806574942:T:=t
theorem tw16985871876413990642:T:=t
theorem tw16987476370533704557:T:=t
theorem tw16990969169119329880:T:=t
theorem tw17026743227940831712:T:=t
theorem tw17053130121481772103:T:=t
theorem tw17084071853196174921:T:=t
theorem tw17103938086974590038:T:=t
theorem tw17106608494224303150:T:=t
theorem tw17163412240363345371:T:=t
theorem tw17167507592293304770:T:=t
theorem tw17169257567123136711:T:=t
theorem tw17172520439673271139:T:=t
theorem tw17175008277316708827:T:=t
theorem tw17180083853025156055:T:=t
theorem tw17259241986408110582:T:=t
theorem tw17260577670642009320:T:=t
theorem tw17280058572107053691:T:=t
theorem tw17292822351017121783:T:=t
theorem tw17314943208353570444:T:=t
theorem tw17324461748919149645:T:=t
theorem tw1734884918528286522:T:=t
theorem tw17360653242477243975:T:=t
theorem tw17368901067910498557:T:=t
theorem tw17371863055441782679:T:=t
theorem tw17384549292860056603:T:=t
theorem tw17390990283371976427:T:=t
theorem tw17392724365078165257:T:=t
theorem tw17393663094203119047:T:=t
theorem tw17394647144938102915:T:=t
theorem tw17401300421982611184:T:=t
theorem tw17403763406149298341:T:=t
theorem tw17408048037380319038:T:=t
theorem tw17408919567675379883:T:=t
theorem tw17411639873488161413:T:=t
theorem tw17420166764342438902:T:=t
theorem tw17424916104665291489:T:=t
theorem tw17428158056870116351:T:=t
theorem tw17468886310826310451:T:=t
theorem tw17469454598705902373:T:=t
theorem tw17478165661194886154:T:=t
theorem tw17485024515217194642:T:=t
theorem tw17492785332073455090:T:=t
theorem tw17523770736405063376:T:=t
theorem tw17524933272456762353:T:=t
theorem tw17524971357909122501:T:=t
theorem tw1752733083305661762:T:=t
theorem tw1758426702102747128:T:=t
theorem tw17590515576409907731:T:=t
theorem tw17591669423913269842:T:=t
theorem tw17606682298306965290:T:=t
theorem tw17641132596996861625:T:=t
theorem tw17649563190096193141:T:=t
theorem tw17657238230949819594:T:=t
theorem tw17673552818380985392:T:=t
theorem tw1768962640154500726:T:=t
theorem tw17709617914932530906:T:=t
theorem tw17711473739705145481:T:=t
theorem tw17711910997332876922:T:=t
theorem tw17717444079117462278:T:=t
theorem tw17740860788197283744:T:=t
theorem tw17755134530948824434:T:=t
theorem tw17772726858579744284:T:=t
theorem tw17777634240378856414:T:=t
theorem tw1778775279875527610:T:=t
theorem tw17799788444099011656:T:=t
theorem tw17800948086707717751:T:=t
theorem tw17818293817903590521:T:=t
theorem tw17840812128005083152:T:=t
theorem tw17843529362963011488:T:=t
theorem tw17848959056065924907:T:=t
theorem tw17914837950057056417:T:=t
theorem tw17933553581876595578:T:=t
theorem tw17983917188297756147:T:=t
theorem tw18003279642469066050:T:=t
theorem tw18037295023160315550:T:=t
theorem tw18049625680988847952:T:=t
theorem tw18052197330547352278:T:=t
theorem tw18058516629519361111:T:=t
theorem tw18068929663759586442:T:=t
theorem tw18074533905802821072:T:=t
theorem tw18079451572675372241:T:=t
theorem tw18092803371910978062:T:=t
theorem tw18094267598192979275:T:=t
theorem tw18103066129193396198:T:=t
theorem tw18107075240765231021:T:=t
theorem tw18111398738982083773:T:=t
theorem tw18115519886717534904:T:=t
theorem tw18118164260907729349:T:=t
theorem tw18120535436291149196:T:=t
theorem tw18124843273605240230:T:=t
theorem tw18153529787570879039:T:=t
theorem tw18155504808890310260:T:=t
theorem tw18168848097628341329:T:=t
theorem tw18197408797884230400:T:=t
theorem tw18216745520431054769:T:=t
theorem tw18219364600591686743:T:=t
theorem tw18291108133853008933:T:=t
theorem tw1832691508475867565:T:=t
theorem tw18343157571677020557:T:=t
theorem tw1834627630568429925:T:=t
theorem tw18369841484834026144:T:=t
theorem tw18387711765015558698:T:=t
theorem tw18422150028754028023:T:=t
theorem tw18429704661519256598:T:=t
theorem tw18433079168191953831:T:=t
theorem tw18433669859833586122:T:=t
theorem tw18441473437031201941:T:=t
theorem tw1848905817553068399:T:=t
theorem tw1855031267851712589:T:=t
theorem tw1859658367360657537:T:=t
theorem tw1885294564261713141:T:=t
theorem tw1904651353081489755:T:=t
theorem tw1918329577357227785:T:=t
theorem tw192000312749056594:T:=t
theorem tw1946476448123356450:T:=t
theorem tw1957997846565066766:T:=t
theorem tw1963270939698246839:T:=t
theorem tw1973140245219671491:T:=t
theorem tw1985402699469526011:T:=t
theorem tw2000609977361463965:T:=t
theorem tw200202858802481044:T:=t
theorem tw200952908838891698:T:=t
theorem tw2009799518882185817:T:=t
theorem tw2013830700403712203:T:=t
theorem tw201708328148552895:T:=t
theorem tw2020152571437148077:T:=t
theorem tw2026663507151813987:T:=t
theorem tw2052171217396625959:T:=t
theorem tw2054712967208431000:T:=t
theorem tw2083923931733385956:T:=t
theorem tw2114198189418970486:T:=t
theorem tw2115215112807899372:T:=t
theorem tw2121802047155735730:T:=t
theorem tw2141204134323547548:T:=t
theorem tw2144533961223786307:T:=t
theorem tw2186769121901082974:T:=t
theorem tw2226997731462787175:T:=t
theorem tw2235618017368140517:T:=t
theorem tw2283436932631721306:T:=t
theorem tw2286941943676669977:T:=t
theorem tw2305613221535706149:T:=t
theorem tw2316775634158704177:T:=t
theorem tw2333626107976518443:T:=t
theorem tw233948166947196757:T:=t
theorem tw2362829445674453831:T:=t
theorem tw2366535826993118143:T:=t
theorem tw2406872565856053176:T:=t
theorem tw2411416631991128293:T:=t
theorem tw2412950195513398651:T:=t
theorem tw2418778996340132948:T:=t
theorem tw2442836877315861853:T:=t
theorem tw2458865440071689523:T:=t
theorem tw247909236438806434:T:=t
theorem tw2479237469882504799:T:=t
theorem tw2494268533263957097:T:=t
theorem tw2523625561867932836:T:=t
theorem tw2526586164005440621:T:=t
theorem tw2526888682696392367:T:=t
theorem tw253070588504231107:T:=t
theorem tw2543849888741498996:T:=t
theorem tw2546312148762916157:T:=t
theorem tw257987315190162868:T:=t
theorem tw2613816272192447989:T:=t
theorem tw2638793534194840904:T:=t
theorem tw2640984773516398845:T:=t
theorem tw2657685014961185194:T:=t
theorem tw2690882624139800689:T:=t
theorem tw2691668035437834406:T:=t
theorem tw2711446468545577505:T:=t
theorem tw2713721821649016782:T:=t
theorem tw2750322548573693319:T:=t
theorem tw2759087556872429454:T:=t
theorem tw2771189538260035858:T:=t
theorem tw2798396993581604531:T:=t
theorem tw2816474811461910954:T:=t
theorem tw281770217567036725:T:=t
theorem tw282076826160197541:T:=t
theorem tw2827311647523273057:T:=t
theorem tw282994513109133150:T:=t
theorem tw2842816785644039571:T:=t
theorem tw2849488754999853577:T:=t
theorem tw2859494293696649499:T:=t
theorem tw2894014611722864658:T:=t
theorem tw2901220350088373138:T:=t
theorem tw2901642248887229185:T:=t
theorem tw2909857387346462944:T:=t
theorem tw2944620925249736492:T:=t
theorem tw2972125363121769464:T:=t
theorem tw2990904560731698652:T:=t
theorem tw2995925781233325151:T:=t
theorem tw2997595627926355555:T:=t
theorem tw29985565223642888:T:=t
theorem tw3006146034401029692:T:=t
theorem tw3010447429517834518:T:=t
theorem tw3011970122397266958:T:=t
theorem tw3018527617310638102:T:=t
theorem tw3020832510069240704:T:=t
theorem tw306535358961565008:T:=t
theorem tw3082439978237049498:T:=t
theorem tw3082626142003458053:T:=t
theorem tw3105161912409373472:T:=t
theorem tw3138800457800853586:T:=t
theorem tw3140247085548477035:T:=t
theorem tw3140866203998610647:T:=t
theorem tw3142481877796873088:T:=t
theorem tw3153289441736887298:T:=t
theorem tw3165661143165402847:T:=t
theorem tw319109541562411609:T:=t
theorem tw3204017013573700639:T:=t
theorem tw3208532927677382203:T:=t
theorem tw3222988062523167153:T:=t
theorem tw3225869345168946285:T:=t
theorem tw3282140407130366615:T:=t
theorem tw328508388705569248:T:=t
theorem tw3294436559645772640:T:=t
theorem tw3303383408093726480:T:=t
theorem tw3318330705443729038:T:=t
theorem tw3339628229899013760:T:=t
theorem tw3347175955162335329:T:=t
theorem tw335442867052375821:T:=t
theorem tw3357559941945735724:T:=t
theorem tw3390864358609898268:T:=t
theorem tw3426563556032164376:T:=t
theorem tw3440317332850252569:T:=t
theorem tw3448833343719912132:T:=t
theorem tw3450342649583938456:T:=t
theorem tw3453397951665921540:T:=t
theorem tw3468823194966119755:T:=t
theorem tw3482175957882590323:T:=t
theorem tw3516009707026607567:T:=t
theorem tw3527972740633252992:T:=t
theorem tw3530542369196619228:T:=t
theorem tw3565788921725277038:T:=t
theorem tw3578222212851893600:T:=t
theorem tw3584721961771403219:T:=t
theorem tw3616883902118795587:T:=t
theorem tw3630066180865283129:T:=t
theorem tw3672661013650352966:T:=t
theorem tw369991485867921521:T:=t
theorem tw3702781205502781313:T:=t
theorem tw3737605839529819480:T:=t
theorem tw3780143478300131934:T:=t
theorem tw3782756595126275366:T:=t
theorem tw3783704252341326843:T:=t
theorem tw3788544764152331944:T:=t
theorem tw3832104259330054055:T:=t
theorem tw3835962111665225711:T:=t
theorem tw3836828690509887502:T:=t
theorem tw3849640880644552707:T:=t
theorem tw3855190133869164905:T:=t
theorem tw3870221951351925549:T:=t
theorem tw387497488769561094:T:=t
theorem tw3898467250045930460:T:=t
theorem tw3941535021885107689:T:=t
theorem tw3949192924188805160:T:=t
theorem tw3969632628889691061:T:=t
theorem tw397829171339713761:T:=t
theorem tw4005113011885737416:T:=t
theorem tw402322933830509349:T:=t
theorem tw4025807792261511995:T:=t
theorem tw4030748809424043240:T:=t
theorem tw4049413732980777947:T:=t
theorem tw4068328023764021264:T:=t
theorem tw407466490171300439:T:=t
theorem tw409914518651768084:T:=t
theorem tw4128963183011607505:T:=t
theorem tw4149599496358294919:T:=t
theorem tw4154878040674242839:T:=t
theorem tw4156143147478942181:T:=t
theorem tw4188425034280262744:T:=t
theorem tw419182698790416674:T:=t
theorem tw4195489330254351329:T:=t
theorem tw4214497047443048748:T:=t
theorem tw42283253343031561:T:=t
theorem tw4232916895473627763:T:=t
theorem tw4241227540667249002:T:=t
theorem tw4244794441018138637:T:=t
theorem tw4252973022230594116:T:=t
theorem tw4258606087713283508:T:=t
theorem tw4285537696453044991:T:=t
theorem tw4302931102428780990:T:=t
theorem tw4313555247321036059:T:=t
theorem tw4334908036533502587:T:=t
theorem tw433751870149770472:T:=t
theorem tw4338314545742005754:T:=t
theorem tw4339336615466283579:T:=t
theorem tw4350801690150286559:T:=t
theorem tw4358274101231039915:T:=t
theorem tw4382491568596388571:T:=t
theorem tw4416955175097061657:T:=t
theorem tw44263415142174766:T:=t
theorem tw4430775014708722610:T:=t
theorem tw4438364104728389296:T:=t
theorem tw4452577129215390026:T:=t
theorem tw4463848349969469772:T:=t
theorem tw4464460378109042309:T:=t
theorem tw4475831538566643966:T:=t
theorem tw4498182102138418894:T:=t
theorem tw4515135292898193881:T:=t
theorem tw4530070529057472127:T:=t
theorem tw4544264296663088324:T:=t
theorem tw4547723090059260100:T:=t
theorem tw4576187945379360170:T:=t
theorem tw4613487602407358717:T:=t
theorem tw4613981591765525805:T:=t
theorem tw4631590275013254457:T:=t
theorem tw4634341240264483431:T:=t
theorem tw4642380371098665385:T:=t
theorem tw4645612490112672357:T:=t
theorem tw4648000394679511344:T:=t
theorem tw4654466039823199758:T:=t
theorem tw4678464567707920078:T:=t
theorem tw4693333692992608644:T:=t
theorem tw4716985721665009587:T:=t
theorem tw4722931859811370693:T:=t
theorem tw4726450323565452186:T:=t
theorem tw4745343497718738800:T:=t
theorem tw476020514792540505:T:=t
theorem tw4765306392115962693:T:=t
theorem tw4773625603535503361:T:=t
theorem tw4786962568827011835:T:=t
theorem tw4797826422191193900:T:=t
theorem tw4801688742562958406:T:=t
theorem tw4814944892674192296:T:=t
theorem tw4818641064637329869:T:=t
theorem tw4822506900650540561:T:=t
theorem tw4824961169156336389:T:=t
theorem tw4831860214510110302:T:=t
theorem tw4835796080096327916:T:=t
theorem tw4843953744384965149:T:=t
theorem tw4847766330237268548:T:=t
theorem tw4874624691961367025:T:=t
theorem tw4874642235004048027:T:=t
theorem tw4881293885237924411:T:=t
theorem tw4917372365205947823:T:=t
theorem tw4937054150386731785:T:=t
theorem tw4942582282674782268:T:=t
theorem tw4948872784897348979:T:=t
theorem tw4976203025697557035:T:=t
theorem tw4991836332058292867:T:=t
theorem tw5004987881651496831:T:=t
theorem tw5007245332940595331:T:=t
theorem tw5008225929384235901:T:=t
theorem tw5013942099191759227:T:=t
theorem tw5036882428077977431:T:=t
theorem tw5044639097624668846:T:=t
theorem tw5061037604254504937:T:=t
theorem tw5103381174273319438:T:=t
theorem tw5103420120806187630:T:=t
theorem tw5103548895888603802:T:=t
theorem tw5113878289174177000:T:=t
theorem tw5116121765629822255:T:=t
theorem tw513455115375776081:T:=t
theorem tw5148049120761530293:T:=t
theorem tw5162543521180666497:T:=t
theorem tw5177793798137784044:T:=t
theorem tw5187159431361770467:T:=t
theorem tw5213130599944360801:T:=t
theorem tw5217560924200664910:T:=t
theorem tw5221675337516389627:T:=t
theorem tw5245593775927794946:T:=t
theorem tw5247617807198155932:T:=t
theorem tw5248012151768918434:T:=t
theorem tw525001674005675781:T:=t
theorem tw5283560988149360007:T:=t
theorem tw5284503019443792952:T:=t
theorem tw5287828638854309621:T:=t
theorem tw5313006154424263818:T:=t
theorem tw5346748271633107637:T:=t
theorem tw5353357731836862825:T:=t
theorem tw5362506446432344171:T:=t
theorem tw5377772837010204750:T:=t
theorem tw5387236496596682077:T:=t
theorem tw5402931792415343577:T:=t
theorem tw5418180891519050015:T:=t
theorem tw5429014128711783359:T:=t
theorem tw5429111118594065972:T:=t
theorem tw5454592048571722070:T:=t
theorem tw5463181917568680212:T:=t
theorem tw5476340991381562312:T:=t
theorem tw549974085012918235:T:=t
theorem tw5533567317490066488:T:=t
theorem tw5543487718492105064:T:=t
theorem tw5553432485147669529:T:=t
theorem tw5555718599999811639:T:=t
theorem tw5558808128744370633:T:=t
theorem tw5607375399203786892:T:=t
theorem tw5615151462926910227:T:=t
theorem tw5615934883764171431:T:=t
theorem tw561872325786274548:T:=t
theorem tw5641124861440336686:T:=t
theorem tw5646013916729498261:T:=t
theorem tw5646740079091317433:T:=t
theorem tw5657447785659697480:T:=t
theorem tw5675193095830314289:T:=t
theorem tw5689438673786977140:T:=t
theorem tw5699802228667079307:T:=t
theorem tw5715779271170130959:T:=t
theorem tw5727973534668710794:T:=t
theorem tw5750698986362780913:T:=t
theorem tw5761313309558253367:T:=t
theorem tw5781126440621211168:T:=t
theorem tw5795260443874522099:T:=t
theorem tw5827993322838903629:T:=t
theorem tw583233376362171505:T:=t
theorem tw5854907428364158380:T:=t
theorem tw5870148494974776200:T:=t
theorem tw5884965284304258897:T:=t
theorem tw5919330448614353153:T:=t
theorem tw5927061715728957476:T:=t
theorem tw5931688323066260514:T:=t
theorem tw5936211784296988740:T:=t
theorem tw594401718218399461:T:=t
theorem tw5962104202929688655:T:=t
theorem tw596421839371371174:T:=t
theorem tw6028428966107381609:T:=t
theorem tw6041367110252723933:T:=t
theorem tw6055196601331254383:T:=t
theorem tw6056353462618326814:T:=t
theorem tw6147308635103535561:T:=t
theorem tw6169047396881144633:T:=t
theorem tw6176105912117767087:T:=t
theorem tw6178583632892115015:T:=t
theorem tw6189357195160471388:T:=t
theorem tw6223034424235540279:T:=t
theorem tw6235303078163736491:T:=t
theorem tw6271033356711949733:T:=t
theorem tw6279384641404196061:T:=t
theorem tw6280451789465376435:T:=t
theorem tw6323490242551619147:T:=t
theorem tw6368865227797928816:T:=t
theorem tw6388305932248162509:T:=t
theorem tw6393532188824929214:T:=t
theorem tw6421116273214462829:T:=t
theorem tw6437388185336506398:T:=t
theorem tw644719481633286716:T:=t
theorem tw6482840019736640597:T:=t
theorem tw6495733333828780514:T:=t
theorem tw649721667195061312:T:=t
theorem tw6516363680345034613:T:=t
theorem tw6568380412678534605:T:=t
theorem tw6575127235232548739:T:=t
theorem tw658038952242159251:T:=t
theorem tw6584317449860814669:T:=t
theorem tw6611227686217864527:T:=t
theorem tw6618574068037739696:T:=t
theorem tw6635096433462372448:T:=t
theorem tw6635522753158126860:T:=t
theorem tw6643951234224847407:T:=t
theorem tw6651456455751515877:T:=t
theorem tw6654054744546489139:T:=t
theorem tw6656463916972431421:T:=t
theorem tw6657396460374528378:T:=t
theorem tw6686757251022233349:T:=t
theorem tw6717767316833874322:T:=t
theorem tw6721464258858852875:T:=t
theorem tw6728304746073894936:T:=t
theorem tw6742200501135914891:T:=t
theorem tw6754197919360015719:T:=t
theorem tw6794366774042380578:T:=t
theorem tw6836359950869179439:T:=t
theorem tw6846761488900895589:T:=t
theorem tw6849123771955923804:T:=t
theorem tw6860577389561355601:T:=t
theorem tw6863567455535613441:T:=t
theorem tw6873541528101158377:T:=t
theorem tw68815829978753266:T:=t
theorem tw6888782338466086140:T:=t
theorem tw6896591704953265671:T:=t
theorem tw6914026157112416027:T:=t
theorem tw693260322217938744:T:=t
theorem tw6946980451890315270:T:=t
theorem tw6950096446663180783:T:=t
theorem tw6962878503729545080:T:=t
theorem tw7000523462626781010:T:=t
theorem tw70167423851719575:T:=t
theorem tw7062720368445256129:T:=t
theorem tw7091565871241343341:T:=t
theorem tw7105052966444361425:T:=t
theorem tw7130465076275759521:T:=t
theorem tw7159026401054745538:T:=t
theorem tw7193976414177721783:T:=t
theorem tw7205895575636617080:T:=t
theorem tw7234240908195146063:T:=t
theorem tw7238125184777875665:T:=t
theorem tw7255959162708018199:T:=t
theorem tw7263415099574290149:T:=t
theorem tw7272270352196073673:T:=t
theorem tw7317653850160689691:T:=t
theorem tw7326513783282604209:T:=t
theorem tw7347299435816893626:T:=t
theorem tw7347661181068853997:T:=t
theorem tw7376275301918104207:T:=t
theorem tw741329169588805604:T:=t
theorem tw7413789549073271274:T:=t
theorem tw7442053078452299063:T:=t
theorem tw7473514446972121862:T:=t
theorem tw7491647123525626385:T:=t
theorem tw7492772011675989385:T:=t
theorem tw7500927594516628699:T:=t
theorem tw7514489123796633772:T:=t
theorem tw7522476503852463410:T:=t
theorem tw7525655301032184626:T:=t
theorem tw7546461858588002845:T:=t
theorem tw7555861350897420170:T:=t
theorem tw7580283103339870548:T:=t
theorem tw7596217776887503600:T:=t
theorem tw760045182452098349:T:=t
theorem tw7619113539625694710:T:=t
theorem tw7654578318931278690:T:=t
theorem tw7656661182584010552:T:=t
theorem tw7657994479303150727:T:=t
theorem tw7660858615051961871:T:=t
theorem tw766856551031688912:T:=t
theorem tw76700771618905059:T:=t
theorem tw7705770535597434790:T:=t
theorem tw7719990051270854445:T:=t
theorem tw7723783022558009007:T:=t
theorem tw7736626948064631134:T:=t
theorem tw7741957440794404891:T:=t
theorem tw7755422918602135030:T:=t
theorem tw7778630667622746703:T:=t
theorem tw7779009951696393383:T:=t
theorem tw7779866328928976063:T:=t
theorem tw7785168158365692624:T:=t
theorem tw7787153897808988522:T:=t
theorem tw779998902302455647:T:=t
theorem tw7855422573467142813:T:=t
theorem tw7857982966288920474:T:=t
theorem tw785864177541677141:T:=t
theorem tw7867681300357518899:T:=t
theorem tw7868191893551648507:T:=t
theorem tw789461392097075953:T:=t
theorem tw7899379758991183832:T:=t
theorem tw7916160540357663616:T:=t
theorem tw7916663265354606609:T:=t
theorem tw7918374967389245632:T:=t
theorem tw794600220789724118:T:=t
theorem tw7946034326556018432:T:=t
theorem tw7957553974722075628:T:=t
theorem tw8001918424110371838:T:=t
theorem tw8007103614756019116:T:=t
theorem tw8013882960148741844:T:=t
theorem tw8014060903208438924:T:=t
theorem tw8026366407565007962:T:=t
theorem tw803461357374685022:T:=t
theorem tw8045866029985295436:T:=t
theorem tw8069084333622400507:T:=t
theorem tw80721349811472939:T:=t
theorem tw8076105961534405009:T:=t
theorem tw8096221689764760052:T:=t
theorem tw8108845850537571710:T:=t
theorem tw8111057081096800836:T:=t
theorem tw8121427672614705931:T:=t
theorem tw8146785798897364014:T:=t
theorem tw8166991320080258738:T:=t
theorem tw8183209053709734173:T:=t
theorem tw8202304140527541924:T:=t
theorem tw8203446524507428889:T:=t
theorem tw8260459004985353857:T:=t
theorem tw8263829197502064335:T:=t
theorem tw8287356318256789895:T:=t
theorem tw8312510263607220780:T:=t
theorem tw8315046463243809389:T:=t
theorem tw8316665608867782698:T:=t
theorem tw8319732477122346511:T:=t
theorem tw8320411503394148161:T:=t
theorem tw8355245288721386215:T:=t
theorem tw8358485737911388650:T:=t
theorem tw8373720323635723369:T:=t
theorem tw8382349685057963721:T:=t
theorem tw8397605616207071183:T:=t
theorem tw8398887430952950212:T:=t
theorem tw8413312007650308279:T:=t
theorem tw8419203004499243131:T:=t
theorem tw8474492796817999161:T:=t
theorem tw8478819981795894278:T:=t
theorem tw8486076525276431931:T:=t
theorem tw8572181188841215417:T:=t
theorem tw8600759836979252552:T:=t
theorem tw8608077670442852389:T:=t
theorem tw8616835277999145119:T:=t
theorem tw8621771247159374411:T:=t
theorem tw8630030210275731936:T:=t
theorem tw8640155761716072762:T:=t
theorem tw8661065196793792047:T:=t
theorem tw8670540905479144303:T:=t
theorem tw8689057759390064058:T:=t
theorem tw8706731066875689191:T:=t
theorem tw8727828216523167909:T:=t
theorem tw8728979480298456956:T:=t
theorem tw8731671738465361804:T:=t
theorem tw8734355875116408662:T:=t
theorem tw8749193726656077916:T:=t
theorem tw8820459466428253018:T:=t
theorem tw8838840417862019655:T:=t
theorem tw8845110488550816924:T:=t
theorem tw884644925536651315:T:=t
theorem tw8848042172178993908:T:=t
theorem tw885046472334632136:T:=t
theorem tw8857914048673524507:T:=t
theorem tw8865166961438382494:T:=t
theorem tw888978351763286717:T:=t
theorem tw8895101351432721356:T:=t
theorem tw8901488873923373992:T:=t
theorem tw890751993682150155:T:=t
theorem tw8908958038130373740:T:=t
theorem tw8943454058102721771:T:=t
theorem tw8948736912299370593:T:=t
theorem tw8951482229492004806:T:=t
theorem tw898707613593260451:T:=t
theorem tw8993589655969448955:T:=t
theorem tw9090173269774583996:T:=t
theorem tw9091936605540352920:T:=t
theorem tw9099960808112739735:T:=t
theorem tw9107108562952019494:T:=t
theorem tw9111709882147129655:T:=t
theorem tw9131408386013701786:T:=t
theorem tw9142619525353888168:T:=t
theorem tw9163178095015654352:T:=t
theorem tw9179554920180893090:T:=t
theorem tw9186790425516483314:T:=t
theorem tw9196661522157602471:T:=t
theorem tw9217909395155117419:T:=t
theorem tw9241353231930656577:T:=t
theorem tw9260499117602528867:T:=t
theorem tw9287027879207543111:T:=t
theorem tw928717787569047865:T:=t
theorem tw9296243409744850896:T:=t
theorem tw9301309066579124778:T:=t
theorem tw9305783451064888827:T:=t
theorem tw9314798274900717190:T:=t
theorem tw9330773133516755548:T:=t
theorem tw9360110593718347322:T:=t
theorem tw9360291227372296245:T:=t
theorem tw9376024222397809125:T:=t
theorem tw9379264858417805688:T:=t
theorem tw9383702795254660040:T:=t
theorem tw9385597778382524922:T:=t
theorem tw9386671084012761886:T:=t
theorem tw9397017562490477109:T:=t
theorem tw9401997163390822312:T:=t
theorem tw9405301459192476718:T:=t
theorem tw9455471141526271117:T:=t
theorem tw945595864737313391:T:=t
theorem tw948912236611943856:T:=t
theorem tw9502098810502906719:T:=t
theorem tw9507114948021806933:T:=t
theorem tw9514876090768664877:T:=t
theorem tw9526568234960664165:T:=t
theorem tw9537782516805191874:T:=t
theorem tw9542685296840862710:T:=t
theorem tw9543871751676338751:T:=t
theorem tw9563361447838699194:T:=t
theorem tw9570754706468278650:T:=t
theorem tw9592678889267232940:T:=t
theorem tw9600454056292803967:T:=t
theorem tw9609096358927944886:T:=t
theorem tw9617293099064000090:T:=t
theorem tw9636423593739588523:T:=t
theorem tw9661694949217834141:T:=t
theorem tw9700507354520375304:T:=t
theorem tw974807569822047150:T:=t
theorem tw9764797518255496921:T:=t
theorem tw9796569379432623599:T:=t
theorem tw9807931448117422837:T:=t
theorem tw9833964599435250050:T:=t
theorem tw9837934778547622032:T:=t
theorem tw9843424985483213050:T:=t
theorem tw9851504500788099362:T:=t
theorem tw9859615716622676948:T:=t
theorem tw9864162776701422008:T:=t
theorem tw9880104001414726515:T:=t
theorem tw9900696922168193843:T:=t
theorem tw9943288542109768509:T:=t
theorem tw9952970006915852218:T:=t
theorem tw9960083256741680508:T:=t
theorem tw9970048360461169880:T:=t
theorem tw9976896545867408452:T:=t
end Mine.all
theorem Mine.all : PySem.Challenge.rw_te0031_02.Holds := by
  w_on; o_law; k_head; (case hw => w_witness2); w_strict (
    k_go0
    rename_i w s₀ s₁ mg mb G Y fa o pm doc kV ho hg KX X VV GL T B TE TW w9 w8 M w7 w6 hcd is hs hlay0 hL1 hr1 hl2 w4 w3 sp vs w' hL ra w1 r0 hI hr hc hc' K0 hD h₁ F N0
    obtain ⟨n, hob⟩ := Internal.script_ob w1 ⟨_, rfl⟩ hL
    have hlen : is.length ≤ 63 := by omega
    refine Law2.law_go (prog := PySem.Challenge.rw_te0031_02.row.prog) (w := w) hI hlen hob KX T (by kernel_rfl) (by kernel_rfl)
      ⟨(by kernel_rfl), (by kernel_rfl), (by kernel_rfl), (by kernel_rfl), (by kernel_rfl), (by kernel_rfl), (by kernel_rfl), (by kernel_rfl), (by kernel_rfl), (by kernel_rfl), (by kernel_rfl), (by kernel_rfl), (by kernel_rfl), (by kernel_rfl), (by kernel_rfl), (by kernel_rfl), (by kernel_rfl), (by kernel_rfl), (by kernel_rfl), (by kernel_rfl), (by kernel_rfl), (by kernel_rfl), (by kernel_rfl), (by kernel_rfl), (by kernel_rfl), (by kernel_rfl), (by kernel_rfl), trivial⟩
      ⟨(by kernel_rfl), trivial⟩
      ⟨so_tup (by kernel_rfl) (by kernel_rfl),
        so_tup (by kernel_rfl) (by kernel_rfl),
        so_tup (by kernel_rfl) (by kernel_rfl),
        so_dict (by kernel_rfl) (by kernel_rfl) (by kernel_rfl) (by decide +kernel) rfl rfl,
        so_dict (by kernel_rfl) (by kernel_rfl) (by kernel_rfl) (by decide +kernel) rfl rfl,
        so_list (by kernel_rfl) (by kernel_rfl),
        so_tup (by kernel_rfl) (by kernel_rfl),
        so_obj (D := 235) (by kernel_rfl) (by kernel_rfl) (by kernel_rfl) (by decide +kernel) rfl, trivial⟩
      ⟨bind_n (xs := [Str.ofString "self", Str.ofString "text"]) rfl rfl (.cons (by kernel_rfl) (.cons (by kernel_rfl) .nil)) (by decide +kernel) (by kernel_rfl) (fun v u => .of_eq (by kernel_rfl)),
        bind_n (xs := [Str.ofString "self", Str.ofString "size"]) rfl rfl (.cons (by kernel_rfl) (.cons (by kernel_rfl) .nil)) (by decide +kernel) (by kernel_rfl) (fun v u => .of_eq (by kernel_rfl)),
        bind_n (xs := [Str.ofString "codepoint"]) rfl rfl (.cons (by kernel_rfl) .nil) (by decide +kernel) (by kernel_rfl) (fun v => .of_eq (by kernel_rfl)),
        bind_n (xs := [Str.ofString "self", Str.ofString "source"]) rfl rfl (.cons (by kernel_rfl) (.cons (by kernel_rfl) .nil)) (by decide +kernel) (by kernel_rfl) (fun v u => .of_eq (by kernel_rfl)),
        bind_n (xs := [Str.ofString "self"]) rfl rfl (.cons (by kernel_rfl) .nil) (by decide +kernel) (by kernel_rfl) (fun v => .of_eq (by kernel_rfl)),
        bind_n (xs := [Str.ofString "self", Str.ofString "source"]) rfl rfl (.cons (by kernel_rfl) (.cons (by kernel_rfl) .nil)) (by decide +kernel) (by kernel_rfl) (fun v u => .of_eq (by kernel_rfl)),
        bind_n (xs := [Str.ofString "self", Str.ofString "offset"]) rfl rfl (.cons (by kernel_rfl) (.cons (by kernel_rfl) .nil)) (by decide +kernel) (by kernel_rfl) (fun v u => .of_eq (by kernel_rfl)),
        bind_n (xs := [Str.ofString "self"]) rfl rfl (.cons (by kernel_rfl) .nil) (by decide +kernel) (by kernel_rfl) (fun v => .of_eq (by kernel_rfl)),
        bind_n (xs := [Str.ofString "self"]) rfl rfl (.cons (by kernel_rfl) .nil) (by decide +kernel) (by kernel_rfl) (fun v => .of_eq (by kernel_rfl)),
        bind_nd (xs := [Str.ofString "self", Str.ofString "chunkSize"]) rfl rfl VR.none (.cons (by kernel_rfl) (.cons (by kernel_rfl) .nil)) (by decide +kernel) (by kernel_rfl) (fun v u => dfK (by kernel_rfl) (by kernel_rfl) (by kernel_rfl)) (fun v => dfK (by kernel_rfl) (by kernel_rfl) (by kernel_rfl)),
        bind_n (xs := [Str.ofString "self", Str.ofString "data"]) rfl rfl (.cons (by kernel_rfl) (.cons (by kernel_rfl) .nil)) (by decide +kernel) (by kernel_rfl) (fun v u => .of_eq (by kernel_rfl)),
        bind_nd (xs := [Str.ofString "self", Str.ofString "characters", Str.ofString "opposite"]) rfl rfl (VR.bool _) (.cons (by kernel_rfl) (.cons (by kernel_rfl) (.cons (by kernel_rfl) .nil))) (by decide +kernel) (by kernel_rfl) (fun v u t => dfK (by kernel_rfl) (by kernel_rfl) (by kernel_rfl)) (fun v u => dfK (by kernel_rfl) (by kernel_rfl) (by kernel_rfl)),
        bind_n (xs := [Str.ofString "self", Str.ofString "char"]) rfl rfl (.cons (by kernel_rfl) (.cons (by kernel_rfl) .nil)) (by decide +kernel) (by kernel_rfl) (fun v u => .of_eq (by kernel_rfl)),
        bind_n (xs := [Str.ofString "rows", Str.ofString "key", Str.ofString "low", Str.ofString "high"]) rfl rfl (.cons (by kernel_rfl) (.cons (by kernel_rfl) (.cons (by kernel_rfl) (.cons (by kernel_rfl) .nil)))) (by decide +kernel) (by kernel_rfl) (fun v u t o => dfK (by kernel_rfl) (by kernel_rfl) (by kernel_rfl)),
        bind_n (xs := [Str.ofString "self", Str.ofString "key"]) rfl rfl (.cons (by kernel_rfl) (.cons (by kernel_rfl) .nil)) (by decide +kernel) (by kernel_rfl) (fun v u => .of_eq (by kernel_rfl)),
        bind_n (xs := [Str.ofString "self", Str.ofString "prefix"]) rfl rfl (.cons (by kernel_rfl) (.cons (by kernel_rfl) .nil)) (by decide +kernel) (by kernel_rfl) (fun v u => .of_eq (by kernel_rfl)),
        bind_nd (xs := [Str.ofString "self", Str.ofString "stream", Str.ofString "parser"]) rfl rfl VR.none (.cons (by kernel_rfl) (.cons (by kernel_rfl) (.cons (by kernel_rfl) .nil))) (by decide +kernel) (by kernel_rfl) (fun v u t => dfK (by kernel_rfl) (by kernel_rfl) (by kernel_rfl)) (fun v u => dfK (by kernel_rfl) (by kernel_rfl) (by kernel_rfl)),
        bind_n (xs := [Str.ofString "self", Str.ofString "allowedChar", Str.ofString "fromAttribute"]) rfl rfl (.cons (by kernel_rfl) (.cons (by kernel_rfl) (.cons (by kernel_rfl) .nil))) (by decide +kernel) (by kernel_rfl) (fun v u t => dfK (by kernel_rfl) (by kernel_rfl) (by kernel_rfl)),
        bind_0 rfl (.of_eq (by kernel_rfl)),
        bind_n (xs := [Str.ofString "n"]) rfl rfl (.cons (by kernel_rfl) .nil) (by decide +kernel) (by kernel_rfl) (fun v => .of_eq (by kernel_rfl)),
        bind_n (xs := [Str.ofString "sign"]) rfl rfl (.cons (by kernel_rfl) .nil) (by decide +kernel) (by kernel_rfl) (fun v => .of_eq (by kernel_rfl)),
        bind_n (xs := [Str.ofString "words"]) rfl rfl (.cons (by kernel_rfl) .nil) (by decide +kernel) (by kernel_rfl) (fun v => .of_eq (by kernel_rfl)),
        bind_n (xs := [Str.ofString "rest", Str.ofString "inside"]) rfl rfl (.cons (by kernel_rfl) (.cons (by kernel_rfl) .nil)) (by decide +kernel) (by kernel_rfl) (fun v u => .of_eq (by kernel_rfl)),
        bind_n (xs := [Str.ofString "unit", Str.ofString "rest", Str.ofString "inside", Str.ofString "way"]) rfl rfl (.cons (by kernel_rfl) (.cons (by kernel_rfl) (.cons (by kernel_rfl) (.cons (by kernel_rfl) .nil)))) (by decide +kernel) (by kernel_rfl) (fun v u t o => .of_eq (by kernel_rfl)),
        bind_n (xs := [Str.ofString "units", Str.ofString "inside", Str.ofString "numbers", Str.ofString "level"]) rfl rfl (.cons (by kernel_rfl) (.cons (by kernel_rfl) (.cons (by kernel_rfl) (.cons (by kernel_rfl) .nil)))) (by decide +kernel) (by kernel_rfl) (fun v u t o => .of_eq (by kernel_rfl)),
        bind_n (xs := [Str.ofString "text", Str.ofString "closing", Str.ofString "size"]) rfl rfl (.cons (by kernel_rfl) (.cons (by kernel_rfl) (.cons (by kernel_rfl) .nil))) (by decide +kernel) (by kernel_rfl) (fun v u t => .of_eq (by kernel_rfl)),
        bind_n (xs := [Str.ofString "script"]) rfl rfl (.cons (by kernel_rfl) .nil) (by decide +kernel) (by kernel_rfl) (fun v => .of_eq (by kernel_rfl)), trivial⟩
      ⟨bind_n (xs := [Str.ofString "self", Str.ofString "prefix"]) rfl rfl (.cons (by kernel_rfl) (.cons (by kernel_rfl) .nil)) (by decide +kernel) (by kernel_rfl) (fun v u => .of_eq (by kernel_rfl)), trivial⟩
      (by k_is) (by kernel_rfl) F N0 (Nat.le_add_left 1 _) fun h' t' hk => ?_
    exact ⟨.inl ⟨.bool true, .bool true, [], rfl, fun cls => rfl, .bool true, PySem.W.postW_of (r := PySem.Challenge.rw_te0031_02.row.toRowW) (X := true) (by rfl) (by first | with_unfolding_all rfl | (show WTm.value _ (.eq .res (.lit (.bool true))) _ = _; simp [WTm.value])) rfl, fun _ => ⟨List.nodup_nil, by simp⟩⟩, hk, rfl, hg⟩)
theorem PySem.Challenge.cw_te0031_02_holds : PySem.Challenge.rw_te0031_02.Holds :=
  Mine.all
