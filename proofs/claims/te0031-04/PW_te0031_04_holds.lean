import PyProof.Rows.All
import Wide.All
import OpenK.AllK
import Wide.FinOn
import PySem.Challenge.RW_te0031_04
open PySem PySem.W PyProof.Rows
set_option linter.all false
set_option maxRecDepth 100000
set_option maxHeartbeats 0
set_option genInjectivity false
set_option bootstrap.genMatcherCode false
section
namespace PL
set_option genSizeOf false
set_option genInjectivity false
set_option bootstrap.genMatcherCode false
mutual
inductive V where
  | none | bool (b : Bool) | int (i : Int) | str (s : List Nat) | ref (a : Nat) | sref (a : Nat) | frz (o : O) | bad
inductive O where
  | list (vs : List V) | tuple (vs : List V) | dict (kvs : List (List Nat × V)) | inst (c : Nat) (fs : List (Nat × V)) | meth (f : Nat) (self : V) | rng (a b s : Int)
end
theorem V.ref_inj {a b : Nat} (h : V.ref a = V.ref b) : a = b := by cases h; rfl
abbrev St := List O
abbrev Loc := List (Nat × V)
noncomputable def getK {β : Type} : Nat → List (Nat × β) → Option β
  | _, [] => none
  | k, (i, v) :: r => bif Nat.beq i k then some v else getK k r
noncomputable def putK {β : Type} : Nat → β → List (Nat × β) → List (Nat × β)
  | k, v, [] => [(k, v)]
  | k, v, (i, w) :: r => bif Nat.beq i k then (k, v) :: r else (i, w) :: putK k v r
noncomputable def getS {β : Type} : List Nat → List (List Nat × β) → Option β
  | _, [] => none
  | k, (i, v) :: r => if i = k then some v else getS k r
noncomputable def putS {β : Type} : List Nat → β → List (List Nat × β) → List (List Nat × β)
  | k, v, [] => [(k, v)]
  | k, v, (i, w) :: r => if i = k then (i, v) :: r else (i, w) :: putS k v r
inductive BOp where | add | sub | fdiv | mod
inductive COp where | eq | ne | lt | le | gt | ge | isin | notin | is
inductive UOp where | len | ord | chr | sum | listOf | dictOf | range
inductive MOp where | append | popAt | join | count3 | rfind3 | split | update
inductive Ft where | one (i : Nat) | many (l : List Nat)
set_option genCtorIdx false in
inductive PE where
  | const (v : V)
  | loc (i : Nat)
  | glob (v : V)
  | attr (e : PE) (f : Nat)
  | sub (e i : PE)
  | slice (e lo hi : PE)
  | rev (e : PE)
  | bin (op : BOp) (l r : PE)
  | cmp (op : COp) (l r : PE)
  | chain (o1 o2 : COp) (a b c : PE)
  | notE (e : PE)
  | neg (e : PE)
  | andE (l r : PE)
  | orE (l r : PE)
  | ife (t b o : PE)
  | listE (es : List PE)
  | tupE (es : List PE)
  | dictE (ks : List (List Nat)) (vs : List PE)
  | comp (t : Ft) (it : PE) (elt : PE)
  | comp2 (t1 : Ft) (it1 : PE) (t2 : Ft) (it2 : PE) (elt : PE)
  | call (f : Nat) (es : List PE)
  | new (c : Nat) (es : List PE)
  | meth (o : PE) (m : Nat) (es : List PE)
  | replC (o : PE) (a b : List Nat)
  | un (op : UOp) (e : PE) | bm (op : MOp) (o : PE) (es : List PE)
abbrev PE.len (e : PE) : PE := .un .len e
abbrev PE.ord (e : PE) : PE := .un .ord e
abbrev PE.chr (e : PE) : PE := .un .chr e
abbrev PE.sum (e : PE) : PE := .un .sum e
abbrev PE.listOf (e : PE) : PE := .un .listOf e
abbrev PE.dictOf (e : PE) : PE := .un .dictOf e
abbrev PE.range (e : PE) : PE := .un .range e
abbrev PE.append (o e : PE) : PE := .bm .append o [e]
abbrev PE.popAt (o i : PE) : PE := .bm .popAt o [i]
abbrev PE.join (sep : List Nat) (e : PE) : PE := .bm .join (.const (.str sep)) [e]
abbrev PE.count3 (o : PE) (p : List Nat) (lo hi : PE) : PE := .bm .count3 o [.const (.str p), lo, hi]
abbrev PE.rfind3 (o : PE) (p : List Nat) (lo hi : PE) : PE := .bm .rfind3 o [.const (.str p), lo, hi]
abbrev PE.splitC (o : PE) (p : List Nat) : PE := .bm .split o [.const (.str p)]
abbrev PE.update (o e : PE) : PE := .bm .update o [e]
inductive Tg where | l (i : Nat) | a (o : PE) (f : Nat) | s (o i : PE)
set_option genCtorIdx false in
inductive PS where
  | expr (e : PE)
  | assign (t : Tg) (e : PE)
  | assignT (ts : List Tg) (e : PE)
  | augL (i : Nat) (op : BOp) (e : PE)
  | augA (o : PE) (f : Nat) (op : BOp) (e : PE)
  | augS (o i : PE) (op : BOp) (e : PE)
  | ifs (t : PE) (b o : List PS)
  | whiles (t : PE) (b : List PS)
  | fors (t : Ft) (it : PE) (b : List PS)
  | ret (e : PE)
  | brk | cont | pass | gc (k : Nat) | retf (e : PE)
inductive Fl where | next | brk | cont | ret (v : V)
noncomputable def LIM : Nat := 100000
noncomputable def LIMD : Nat := 500
noncomputable def BIG : Nat := 1000000
noncomputable def toS (l : List Nat) : Str := ⟨l.toArray⟩
noncomputable def ofS (s : Str) : List Nat := s.cps.toList
noncomputable def isSub (p y : List Nat) : Bool := !(Builtin.Str.occurrences (toS y) (toS p) 0 (toS y).length 1).isEmpty
noncomputable def clampI (n : Nat) (i : Int) : Nat := if i < 0 then (i + n).toNat else min i.toNat n
noncomputable def sliceLo (n : Nat) : V → Option Nat
  | .none => some 0
  | .int i => some (clampI n i)
  | _ => none
noncomputable def sliceHi (n : Nat) : V → Option Nat
  | .none => some n
  | .int i => some (clampI n i)
  | _ => none
noncomputable def cut {α : Type} (l : List α) (i j : Nat) : List α := (l.drop i).take (j - i)
noncomputable def idxOf (n : Nat) (i : Int) : Option Nat :=
  if 0 ≤ i then (if i.toNat < n then some i.toNat else none) else (if -i ≤ n then some (n - (-i).toNat) else none)
structure Cx where
  so : Nat → Option O
  clsm : Nat → Nat → Option Nat
  clsv : Nat → Nat → Option V
  clsi : Nat → Nat → Bool
  init : Nat
  fuel : Nat
  call : Nat → List V → St → Option (V × St)
noncomputable def objOf (c : Cx) (σ : St) : V → Option O
  | .ref a => σ[a]?
  | .sref a => c.so a
  | .frz o => some o
  | _ => none
noncomputable def obF (σ : St) : V → Option O
  | .ref a => σ[a]?
  | .frz o => some o
  | _ => none
noncomputable def eqL (f : V → V → Option Bool) : List V → List V → Option Bool
  | [], [] => some true
  | a :: r, b :: t => (f a b).bind fun x => (eqL f r t).map fun y => x && y
  | _, _ => none
noncomputable def eqK (f : V → V → Option Bool) (ls : List (List Nat × V)) : List (List Nat × V) → Option Bool
  | [] => some true
  | (k, v) :: r => match getS k ls with
    | none => some false
    | some w => (f v w).bind fun x => (eqK f ls r).map fun y => x && y
noncomputable def intO {β : Type} (v : V) (f : Int → Option β) : Option β := match v with | .int i => f i | _ => none
noncomputable def strO {β : Type} (v : V) (f : List Nat → Option β) : Option β := match v with | .str i => f i | _ => none
noncomputable def cellO {β : Type} (σ : St) (v : V) (f : Nat → O → Option β) : Option β := match v with | .ref a => (σ[a]?).bind (f a) | _ => none
noncomputable def oList {β : Type} (o : O) (f : List V → Option β) : Option β := match o with | .list vs => f vs | _ => none
noncomputable def oTup {β : Type} (o : O) (f : List V → Option β) : Option β := match o with | .tuple vs => f vs | _ => none
noncomputable def oDict {β : Type} (o : O) (f : List (List Nat × V) → Option β) : Option β := match o with | .dict vs => f vs | _ => none
noncomputable def oInst {β : Type} (o : O) (f : Nat → List (Nat × V) → Option β) : Option β := match o with | .inst c fs => f c fs | _ => none
noncomputable def sob {β : Type} (c : Cx) (σ : St) (v : V) (g : List Nat → Option β) (f : O → Option β) : Option β := match v with | .str s => g s | v => (objOf c σ v).bind f
noncomputable def eqS (a b : V) : Option Bool := match a with
  | .none => (match b with | .none => some true | .str _ => some false | .int _ => some false | _ => none)
  | .bool x => (match b with | .bool y => some (x == y) | _ => none)
  | .int x => (match b with | .int y => some (x == y) | .none => some false | .str _ => some false | _ => none)
  | .str x => (match b with | .str y => some (x == y) | .none => some false | .int _ => some false | _ => none)
  | _ => none
noncomputable def eqO (f : V → V → Option Bool) (o p : O) : Option Bool := match o with
  | .list vs => oList p fun ws => if vs.length = ws.length then eqL f vs ws else some false
  | .tuple vs => oTup p fun ws => if vs.length = ws.length then eqL f vs ws else none
  | .dict vs => oDict p fun ws => if vs.length = ws.length then eqK f ws vs else some false
  | _ => none
noncomputable def neO (f : V → V → Option Bool) (o p : O) : Option Bool := match o with
  | .list vs => oList p fun ws => if vs.length = ws.length then (eqL f vs ws).map fun r => !r else some true
  | .tuple vs => oTup p fun ws => if vs.length = ws.length then (eqL f vs ws).map fun r => !r else none
  | _ => none
noncomputable def eqV (σ : St) : Nat → V → V → Option Bool
  | 0, _, _ => none
  | k + 1, a, b => match a with
    | .ref x => (σ[x]?).bind fun o => (obF σ b).bind fun p => eqO (eqV σ k) o p
    | .frz o => (obF σ b).bind fun p => eqO (eqV σ k) o p
    | a => eqS a b
noncomputable def neV (σ : St) (k : Nat) (a b : V) : Option Bool := match a with
  | .ref x => (σ[x]?).bind fun o => (obF σ b).bind fun p => neO (eqV σ k) o p
  | .frz o => (obF σ b).bind fun p => neO (eqV σ k) o p
  | a => (eqS a b).map fun r => !r
noncomputable def eqD : Nat := 12
noncomputable def inL (x : V) : List V → Option Bool
  | [] => some false
  | y :: r => (eqS y x).bind fun b => (inL x r).map fun d => b || d
noncomputable def trO (o : O) : Option Bool := match o with | .list vs => some (!vs.isEmpty) | .meth _ _ => some true | _ => none
noncomputable def truthyV (c : Cx) (σ : St) (v : V) : Option Bool := match v with
  | .none => some false
  | .bool b => some b
  | .int i => some (decide (i ≠ 0))
  | .str s => some (!s.isEmpty)
  | v => (objOf c σ v).bind trO
noncomputable def isN (a : V) : Option Bool := match a with | .none => some true | .str _ => some false | .int _ => some false | .ref _ => some false | .frz _ => some false | _ => none
noncomputable def inO (a : V) (o : O) : Option Bool := match o with
  | .list vs => inL a vs
  | .tuple vs => inL a vs
  | .dict kvs => strO a fun k => some (getS k kvs).isSome
  | _ => none
noncomputable def inV (c : Cx) (σ : St) (a b : V) : Option Bool := sob c σ b (fun y => strO a fun x => some (isSub x y)) (inO a)
noncomputable def cmpV (c : Cx) (σ : St) (op : COp) (a b : V) : Option Bool := match op with
  | .eq => eqV σ eqD a b
  | .ne => neV σ eqD a b
  | .lt => intO a fun x => intO b fun y => some (decide (x < y))
  | .gt => intO a fun x => intO b fun y => some (decide (y < x))
  | .le => (match a with | .int x => intO b fun y => some (decide (x ≤ y)) | .str x => strO b fun y => some (!decide (y < x)) | _ => none)
  | .ge => intO a fun x => intO b fun y => some (decide (y ≤ x))
  | .is => (match b with | .none => isN a | _ => none)
  | .isin => inV c σ a b
  | .notin => (inV c σ a b).map fun r => !r
noncomputable def allocO (o : O) (σ : St) : Option (V × St) := some (.ref σ.length, σ ++ [o])
noncomputable def isR (v : V) : Bool := match v with | .ref _ => true | _ => false
noncomputable def tupV (vs : List V) (σ : St) : Option (V × St) := bif vs.any isR then allocO (.tuple vs) σ else some (.frz (.tuple vs), σ)
noncomputable def allocL (vs : List V) (σ : St) : Option (V × St) := if vs.length ≤ LIM then allocO (.list vs) σ else none
noncomputable def addV (a b : V) (σ : St) : Option (V × St) := match a with
  | .int x => intO b fun y => some (.int (x + y), σ)
  | .str x => strO b fun y => if x.length + y.length ≤ LIM then some (.str (x ++ y), σ) else none
  | _ => none
noncomputable def binV (c : Cx) (op : BOp) (a b : V) (σ : St) : Option (V × St) := match op with
  | .add => (match a with
    | .ref x => cellO σ (.ref x) fun qq1 o => oList o fun vs => cellO σ b fun qq1 p => oList p fun ws => allocL (vs ++ ws) σ
    | _ => addV a b σ)
  | .sub => intO a fun x => intO b fun y => some (.int (x - y), σ)
  | .fdiv => intO a fun x => intO b fun y => if 0 < y ∧ y ≤ LIM then some (.int (Int.fdiv x y), σ) else none
  | .mod => intO a fun x => intO b fun y => if 0 < y ∧ y ≤ LIM then some (.int (Int.fmod x y), σ) else none
noncomputable def iopV (c : Cx) (op : BOp) (a b : V) (σ : St) : Option (V × St) := match op with
  | .add => addV a b σ
  | .sub => intO a fun x => intO b fun y => some (.int (x - y), σ)
  | _ => none
noncomputable def subO (o : O) (i : V) : Option V := match o with
  | .list vs => intO i fun k => (idxOf vs.length k).bind fun j => vs[j]?
  | .dict kvs => strO i fun k => getS k kvs
  | _ => none
noncomputable def subV (c : Cx) (σ : St) (o i : V) : Option V := sob c σ o (fun s => intO i fun k => (idxOf s.length k).bind fun j => (s[j]?).map fun ch => .str [ch]) (fun ob => subO ob i)
noncomputable def sliceV (c : Cx) (o lo hi : V) (σ : St) : Option (V × St) := sob c σ o (fun s => (sliceLo s.length lo).bind fun i => (sliceHi s.length hi).bind fun j => some (.str (cut s i j), σ))
  (fun ob => oList ob fun vs => (sliceLo vs.length lo).bind fun i => (sliceHi vs.length hi).bind fun j => allocL (cut vs i j) σ)
noncomputable def setSubO (a : Nat) (o : O) (i v : V) (σ : St) : Option St := match o with
  | .list vs => intO i fun k => if 0 ≤ k ∧ k.toNat < vs.length then some (σ.set a (.list (vs.set k.toNat v))) else none
  | .dict kvs => strO i fun k => if kvs.length ≤ LIMD then some (σ.set a (.dict (putS k v kvs))) else none
  | _ => none
noncomputable def setSubV (o i v : V) (σ : St) : Option St := cellO σ o fun a ob => setSubO a ob i v σ
noncomputable def ownA (c : Cx) (cl f : Nat) (fs : List (Nat × V)) (σ : St) (r : Option (V × St)) : Option (V × St) := match getK f fs with
  | some v => if c.clsi cl f = true then some (v, σ) else none
  | none => r
noncomputable def getAttrV (c : Cx) (o : V) (f : Nat) (σ : St) : Option (V × St) := match o with
  | .ref a => cellO σ (.ref a) fun qq1 ob => oInst ob fun cl fs => ownA c cl f fs σ (match c.clsm cl f with
    | some g => allocO (.meth g (.ref a)) σ
    | none => (c.clsv cl f).map fun v => (v, σ))
  | .sref a => (c.so a).bind fun ob => oInst ob fun cl fs => ownA c cl f fs σ none
  | _ => none
noncomputable def setAttrV (c : Cx) (o : V) (f : Nat) (v : V) (σ : St) : Option St := cellO σ o fun a ob => oInst ob fun cl fs =>
  if c.clsi cl f = true ∧ fs.length ≤ LIMD then some (σ.set a (.inst cl (putK f v fs))) else none
noncomputable def rngN (a b s : Int) : Nat := (b - a).toNat
noncomputable def keysO (kvs : List (List Nat × V)) : Option (List V) := if (kvs.all fun p => decide (p.1.length ≤ LIM)) = true then some (kvs.map fun p => .str p.1) else none
noncomputable def iterO (o : O) : Option (List V) := match o with
  | .list vs => some vs
  | .tuple vs => some vs
  | .rng a b s => if (-(LIM : Int) ≤ a ∧ a ≤ LIM) ∧ (-(LIM : Int) ≤ b ∧ b ≤ LIM) ∧ s = 1 then some ((List.range (rngN a b s)).map fun k => .int (a + s * Int.ofNat k)) else none
  | _ => none
noncomputable def iterV (c : Cx) (σ : St) (v : V) : Option (List V) := sob c σ v (fun s => some (s.map fun ch => .str [ch])) iterO
noncomputable def listOfO (o : O) : Option (List V) := match o with
  | .list vs => some vs
  | .tuple vs => some vs
  | .dict kvs => keysO kvs
  | _ => none
noncomputable def listOfV (c : Cx) (σ : St) (v : V) : Option (List V) := sob c σ v (fun s => some (s.map fun ch => .str [ch])) listOfO
noncomputable def oIsL (o : O) : Bool := match o with | .list _ => true | _ => false
noncomputable def oIsD (o : O) : Bool := match o with | .dict _ => true | _ => false
noncomputable def isListV (σ : St) (v : V) : Bool := match v with | .ref a => (match σ[a]? with | some o => oIsL o | none => false) | _ => false
noncomputable def isDictV (σ : St) (v : V) : Bool := match v with | .ref a => (match σ[a]? with | some o => oIsD o | none => false) | _ => false
noncomputable def stillV (c : Cx) (σ0 σ : St) (v : V) : Bool := @decide (objOf c σ v = objOf c σ0 v) (Classical.propDecidable _)
theorem still_iff {c : Cx} {σ0 σ : St} {v : V} : stillV c σ0 σ v = true ↔ objOf c σ v = objOf c σ0 v := @decide_eq_true_iff _ (Classical.propDecidable _)
noncomputable def bindMany (c : Cx) : List Nat → List V → Loc → Option Loc
  | [], [], L => some L
  | i :: is, v :: vs, L => bindMany c is vs (putK i v L)
  | _, _, _ => none
noncomputable def itemsO (o : O) : Option (List V) := match o with | .list vs => some vs | .tuple vs => some vs | _ => none
noncomputable def itemsV (c : Cx) (σ : St) (v : V) : Option (List V) := (objOf c σ v).bind itemsO
noncomputable def bindFt (c : Cx) (σ : St) (t : Ft) (v : V) (L : Loc) : Option Loc := match t with
  | .one i => some (putK i v L)
  | .many is => (itemsV c σ v).bind fun vs => bindMany c is vs L
noncomputable def sumV : List V → Int → Option Int
  | [], a => some a
  | .int i :: r, a => sumV r (a + i)
  | _, _ => none
noncomputable def strsV : List V → Option (List (List Nat))
  | [] => some []
  | .str s :: r => (strsV r).map (s :: ·)
  | _ => none
noncomputable def joinL (sep : List Nat) : List (List Nat) → List Nat
  | [] => []
  | [x] => x
  | x :: y :: r => x ++ sep ++ joinL sep (y :: r)
noncomputable def pairO (o : O) : Option (List Nat × V) := oList o fun vs => match vs with
  | k :: r => strO k fun k => (match r with | v :: r => (match r with | [] => some (k, v) | _ => none) | _ => none)
  | _ => none
noncomputable def pairsV (σ : St) : List V → Option (List (List Nat × V))
  | [] => some []
  | v :: r => ((obF σ v).bind pairO).bind fun p => (pairsV σ r).map (p :: ·)
noncomputable def putAll (kvs : List (List Nat × V)) (d : List (List Nat × V)) : List (List Nat × V) := kvs.foldl (fun d p => putS p.1 p.2 d) d
noncomputable def lenO (o : O) : Option Int := match o with | .list vs => some vs.length | .dict vs => some vs.length | _ => none
noncomputable def lenV (c : Cx) (v : V) (σ : St) : Option (V × St) := sob c σ v (fun s => some (.int s.length, σ)) (fun o => (lenO o).map fun n => (.int n, σ))
noncomputable def ordV (v : V) (σ : St) : Option (V × St) := strO v fun s => match s with | [x] => some (.int (x : Int), σ) | _ => none
noncomputable def chrV (v : V) (σ : St) : Option (V × St) := intO v fun i => if 0 ≤ i ∧ i < 1114112 then some (.str [i.toNat], σ) else none
noncomputable def sumOV (c : Cx) (v : V) (σ : St) : Option (V × St) := (objOf c σ v).bind fun o => oList o fun vs => (sumV vs 0).map fun i => (.int i, σ)
noncomputable def rangeV (v : V) (σ : St) : Option (V × St) := intO v fun n => if n ≤ LIM then allocO (.rng 0 n 1) σ else none
noncomputable def pairsOfV (σ : St) (v : V) : Option (List (List Nat × V)) := (obF σ v).bind fun o => oList o fun vs => pairsV σ vs
noncomputable def dictOfV (v : V) (σ : St) : Option (V × St) := (pairsOfV σ v).bind fun ps => if ps.length ≤ LIMD then allocO (.dict (putAll ps [])) σ else none
noncomputable def updateV (o v : V) (σ : St) : Option (V × St) := (pairsOfV σ v).bind fun ps => cellO σ o fun a ob => oDict ob fun kvs =>
  if kvs.length + ps.length ≤ LIMD then some (.none, σ.set a (.dict (putAll ps kvs))) else none
noncomputable def appendV (o v : V) (σ : St) : Option (V × St) := cellO σ o fun a ob => oList ob fun vs => if vs.length ≤ LIM then some (.none, σ.set a (.list (vs ++ [v]))) else none
noncomputable def popAtV (o k : V) (σ : St) : Option (V × St) := cellO σ o fun a ob => oList ob fun vs => intO k fun j => (idxOf vs.length j).bind fun j => (vs[j]?).map fun v => (v, σ.set a (.list (vs.eraseIdx j)))
noncomputable def joinV (c : Cx) (sep : List Nat) (v : V) (σ : St) : Option (V × St) := (itemsV c σ v).bind fun vs => (strsV vs).bind fun ss =>
  if (ss.map (·.length)).sum + ss.length * sep.length ≤ LIM ∧ (joinL sep ss).length ≤ LIM then some (.str (joinL sep ss), σ) else none
noncomputable def replV (a b : List Nat) (v : V) (σ : St) : Option (V × St) := strO v fun s => if (ofS (Txt.replace (toS s) (toS a) (toS b))).length ≤ LIM ∧ a ≠ b ∧ b.length ≤ 14 then some (.str (ofS (Txt.replace (toS s) (toS a) (toS b))), σ) else none
noncomputable def count3V (p : List Nat) (v l h : V) (σ : St) : Option (V × St) := strO v fun s => intO l fun i => intO h fun j => if i = 0 ∧ 0 ≤ j ∧ j ≤ LIM then some (.int ((Builtin.Str.occurrences (toS s) (toS p) 0 (min j.toNat s.length) (s.length + 1)).length : Nat), σ) else none
noncomputable def rfind3V (p : List Nat) (v l h : V) (σ : St) : Option (V × St) := strO v fun s => intO l fun i => intO h fun j => if i = 0 ∧ 0 ≤ j ∧ j ≤ LIM then some (.int (match Builtin.Str.lastOccurrence (toS s) (toS p) 0 (min j.toNat s.length) with | some i => (i : Int) | none => -1), σ) else none
noncomputable def splitV (p : List Nat) (v : V) (σ : St) : Option (V × St) := strO v fun s => if p ≠ [] ∧ (Txt.split (toS s) (toS p)).all (fun x => decide (x.length ≤ LIM)) = true then allocL ((Txt.split (toS s) (toS p)).map fun x => .str (ofS x)) σ else none
noncomputable def forL (bind : V → Loc → St → Option Loc) (still : St → Bool) (body : Loc → St → Option (Fl × Loc × St)) : List V → Loc → St → Option (Fl × Loc × St)
  | [], L, σ => if still σ then some (.next, L, σ) else none
  | v :: vs, L, σ => if still σ then
      (bind v L σ).bind fun L1 => (body L1 σ).bind fun (f, L2, σ2) => match f with
        | .brk => some (.next, L2, σ2)
        | .ret v => some (.ret v, L2, σ2)
        | _ => forL bind still body vs L2 σ2
    else none
noncomputable def compL (bind : V → Loc → St → Option Loc) (still : St → Bool) (elt : Loc → St → Option (List V × St)) : List V → Loc → St → Option (List V × St)
  | [], _, σ => if still σ then some ([], σ) else none
  | v :: vs, L, σ => if still σ then
      (bind v L σ).bind fun L1 => (elt L1 σ).bind fun (xs, σ1) => (compL bind still elt vs L1 σ1).bind fun (ys, σ2) => some (xs ++ ys, σ2)
    else none
noncomputable def whileL (test : Loc → St → Option (Bool × St)) (body : Loc → St → Option (Fl × Loc × St)) : Nat → Loc → St → Option (Fl × Loc × St)
  | 0, _, _ => none
  | n + 1, L, σ => (test L σ).bind fun (b, σ1) => match b with
    | false => some (.next, L, σ1)
    | true => (body L σ1).bind fun (f, L2, σ2) => match f with
      | .brk => some (.next, L2, σ2)
      | .ret v => some (.ret v, L2, σ2)
      | _ => whileL test body n L2 σ2
noncomputable def clsCall (c : Cx) (cl m : Nat) (ov : V) (σ : St) (as : St → Option (List V × St)) : Option (V × St) := (c.clsm cl m).bind fun g => (as σ).bind fun (vs, σ2) => c.call g (ov :: vs) σ2
noncomputable def fldCall (c : Cx) (cl m : Nat) (v : V) (σ : St) (as : St → Option (List V × St)) : Option (V × St) := match v with
  | .ref q => if c.clsi cl m = true then (σ[q]?).bind fun ob => (match ob with
      | .meth g self => (as σ).bind fun (vs, σ2) => @ite _ (σ2[q]? = some (.meth g self) ∧ g < BIG) (Classical.propDecidable _) (c.call g (self :: vs) σ2) none
      | _ => none) else none
  | _ => none
noncomputable def methV (c : Cx) (ov : V) (m : Nat) (σ : St) (as : St → Option (List V × St)) : Option (V × St) := match ov with
  | .ref a => cellO σ (.ref a) fun qq1 ob => oInst ob fun cl fs => (match getK m fs with
    | some v => fldCall c cl m v σ as
    | none => clsCall c cl m (.ref a) σ as)
  | .sref a => (c.so a).bind fun ob => oInst ob fun cl fs => (match getK m fs with
    | some _ => none
    | none => clsCall c cl m (.sref a) σ as)
  | _ => none
noncomputable def isStrV (v : V) : Bool := match v with | .str _ => true | _ => false
noncomputable def vcons {β : Type} (vs : List V) (f : V → List V → Option β) : Option β := match vs with | v :: r => f v r | [] => none
noncomputable def vnil {β : Type} (vs : List V) (f : Option β) : Option β := match vs with | _ :: _ => none | [] => f
noncomputable def v1 {β : Type} (vs : List V) (f : V → Option β) : Option β := vcons vs fun v r => vnil r (f v)
noncomputable def vs3 (vs : List V) (f : List Nat → V → V → Option (V × St)) : Option (V × St) := vcons vs fun p r => strO p fun p => vcons r fun l r => v1 r fun u => f p l u
noncomputable def unF (c : Cx) (op : UOp) (v : V) (σ : St) : Option (V × St) := match op with
  | .len => lenV c v σ
  | .ord => ordV v σ
  | .chr => chrV v σ
  | .sum => sumOV c v σ
  | .listOf => (listOfV c σ v).bind fun vs => allocL vs σ
  | .dictOf => dictOfV v σ
  | .range => rangeV v σ
noncomputable def bmP (op : MOp) (σ : St) (v : V) : Bool := match op with
  | .append => isListV σ v
  | .popAt => isListV σ v
  | .update => isDictV σ v
  | _ => isStrV v
noncomputable def bmF (c : Cx) (op : MOp) (o : V) (vs : List V) (σ : St) : Option (V × St) := match op with
  | .append => v1 vs fun v => appendV o v σ
  | .popAt => v1 vs fun v => popAtV o v σ
  | .join => strO o fun s => v1 vs fun v => joinV c s v σ
  | .count3 => vs3 vs fun p l u => count3V p o l u σ
  | .rfind3 => vs3 vs fun p l u => rfind3V p o l u σ
  | .split => vcons vs fun p r => strO p fun p => vnil r (splitV p o σ)
  | .update => v1 vs fun v => updateV o v σ
abbrev Ev := (Loc → St → Option (V × St)) × (Loc → St → Option (Bool × St))
noncomputable def evP (c : Cx) (f : Loc → St → Option (V × St)) : Ev := (f, fun L σ => (f L σ).bind fun (v, σ1) => (truthyV c σ1 v).map fun b => (b, σ1))
mutual
noncomputable def ev (c : Cx) : PE → Ev
  | .const v => evP c (fun qq1 σ => some (v, σ))
  | .loc i => evP c (fun L σ => (getK i L).map fun v => (v, σ))
  | .glob v => evP c (fun qq1 σ => some (v, σ))
  | .attr e f => evP c (fun L σ => ((ev c e).1 L σ).bind fun (o, σ1) => getAttrV c o f σ1)
  | .sub e i => evP c (fun L σ => ((ev c e).1 L σ).bind fun (o, σ1) => ((ev c i).1 L σ1).bind fun (k, σ2) => (subV c σ2 o k).map fun v => (v, σ2))
  | .slice e lo hi => evP c (fun L σ => ((ev c e).1 L σ).bind fun (o, σ1) => ((ev c lo).1 L σ1).bind fun (l, σ2) => ((ev c hi).1 L σ2).bind fun (h, σ3) => sliceV c o l h σ3)
  | .rev e => evP c (fun L σ => ((ev c e).1 L σ).bind fun (o, σ1) => cellO σ1 o fun qq1 ob => oList ob fun vs => allocL vs.reverse σ1)
  | .bin op l r => evP c (fun L σ => ((ev c l).1 L σ).bind fun (a, σ1) => ((ev c r).1 L σ1).bind fun (b, σ2) => binV c op a b σ2)
  | .cmp op l r => evP c (fun L σ => ((ev c l).1 L σ).bind fun (a, σ1) => ((ev c r).1 L σ1).bind fun (b, σ2) => (cmpV c σ2 op a b).map fun x => (.bool x, σ2))
  | .chain o1 o2 x y z => evP c (fun L σ => ((ev c x).1 L σ).bind fun (a, σ1) => ((ev c y).1 L σ1).bind fun (b, σ2) => (cmpV c σ2 o1 a b).bind fun t => match t with
      | true => ((ev c z).1 L σ2).bind fun (d, σ3) => (cmpV c σ3 o2 b d).map fun x => (.bool x, σ3)
      | false => some (.bool false, σ2))
  | .notE e => (fun L σ => ((ev c e).1 L σ).bind fun (v, σ1) => (truthyV c σ1 v).map fun b => (.bool (!b), σ1), fun L σ => ((ev c e).2 L σ).map fun (b, σ1) => (!b, σ1))
  | .neg e => evP c (fun L σ => ((ev c e).1 L σ).bind fun (v, σ1) => intO v fun i => some (.int (-i), σ1))
  | .andE l r => (fun L σ => ((ev c l).1 L σ).bind fun (v, σ1) => (truthyV c σ1 v).bind fun b => match b with | true => (ev c r).1 L σ1 | false => some (v, σ1), fun L σ => ((ev c l).2 L σ).bind fun (b, σ1) => match b with | true => (ev c r).2 L σ1 | false => some (false, σ1))
  | .orE l r => (fun L σ => ((ev c l).1 L σ).bind fun (v, σ1) => (truthyV c σ1 v).bind fun b => match b with | false => (ev c r).1 L σ1 | true => some (v, σ1), fun L σ => ((ev c l).2 L σ).bind fun (b, σ1) => match b with | false => (ev c r).2 L σ1 | true => some (true, σ1))
  | .ife t b o => evP c (fun L σ => ((ev c t).2 L σ).bind fun (x, σ1) => match x with | true => (ev c b).1 L σ1 | false => (ev c o).1 L σ1)
  | .listE es => evP c (fun L σ => (evEs c es L σ).bind fun (vs, σ1) => allocL vs σ1)
  | .tupE es => evP c (fun L σ => (evEs c es L σ).bind fun (vs, σ1) => if vs.length ≤ LIM then tupV vs σ1 else none)
  | .dictE ks es => evP c (fun L σ => (evEs c es L σ).bind fun (vs, σ1) => if ks.length = vs.length ∧ ks.length ≤ 15 then allocO (.dict (putAll (ks.zip vs) [])) σ1 else none)
  | .comp t it elt => evP c (fun L σ => ((ev c it).1 L σ).bind fun (o, σ1) => (iterV c σ1 o).bind fun xs =>
        (compL (fun v L s => bindFt c s t v L) (fun s => stillV c σ1 s o) (fun L1 s => ((ev c elt).1 L1 s).map fun (v, s2) => ([v], s2)) xs L σ1).bind fun (vs, σ2) =>
        allocL vs σ2)
  | .comp2 t1 it1 t2 it2 elt => evP c (fun L σ => ((ev c it1).1 L σ).bind fun (o, σ1) => (iterV c σ1 o).bind fun xs =>
        (compL (fun v L s => bindFt c s t1 v L) (fun s => stillV c σ1 s o) (fun L1 s => ((ev c it2).1 L1 s).bind fun (o2, s1) => (iterV c s1 o2).bind fun ys =>
          compL (fun v L s => bindFt c s t2 v L) (fun s => stillV c s1 s o2) (fun L2 s => ((ev c elt).1 L2 s).map fun (v, s2) => ([v], s2)) ys L1 s1) xs L σ1).bind fun (vs, σ2) =>
        allocL vs σ2)
  | .call f es => evP c (fun L σ => (evEs c es L σ).bind fun (vs, σ1) => c.call f vs σ1)
  | .new cl es => evP c (fun L σ => (evEs c es L σ).bind fun (vs, σ1) => (c.clsm cl c.init).bind fun g =>
        (c.call g (.ref σ1.length :: vs) (σ1 ++ [.inst cl []])).bind fun (r, σ2) => match r with | .none => some (.ref σ1.length, σ2) | _ => none)
  | .meth o m es => evP c (fun L σ => ((ev c o).1 L σ).bind fun (ov, σ1) => methV c ov m σ1 (evEs c es L))
  | .replC o a b => evP c (fun L σ => ((ev c o).1 L σ).bind fun (v, σ1) => replV a b v σ1)
  | .un op e => evP c (fun L σ => ((ev c e).1 L σ).bind fun (v, σ1) => unF c op v σ1)
  | .bm op o es => evP c (fun L σ => ((ev c o).1 L σ).bind fun (ov, σ1) => bif bmP op σ1 ov then (evEs c es L σ1).bind fun (vs, σ2) => bmF c op ov vs σ2 else none)
termination_by structural e => e
noncomputable def evEs (c : Cx) : List PE → Loc → St → Option (List V × St)
  | [], _, σ => some ([], σ)
  | e :: r, L, σ => ((ev c e).1 L σ).bind fun (v, σ1) => (evEs c r L σ1).bind fun (vs, σ2) => some (v :: vs, σ2)
termination_by structural e => e
end
noncomputable def evE (c : Cx) (e : PE) : Loc → St → Option (V × St) := (ev c e).1
noncomputable def evT (c : Cx) (e : PE) : Loc → St → Option (Bool × St) := (ev c e).2
section
variable {c : Cx} {L : Loc} {σ : St}
theorem evE_const {v : V} : evE c (.const v) L σ = some (v, σ) := rfl
theorem evE_loc {i : Nat} : evE c (.loc i) L σ = (getK i L).map fun v => (v, σ) := rfl
theorem evE_glob {v : V} : evE c (.glob v) L σ = some (v, σ) := rfl
theorem evE_attr {e : PE} {f : Nat} : evE c (.attr e f) L σ = (evE c e L σ).bind fun (o, σ1) => getAttrV c o f σ1 := rfl
theorem evE_sub {e : PE} {i : PE} : evE c (.sub e i) L σ = (evE c e L σ).bind fun (o, σ1) => (evE c i L σ1).bind fun (k, σ2) => (subV c σ2 o k).map fun v => (v, σ2) := rfl
theorem evE_slice {e : PE} {lo : PE} {hi : PE} : evE c (.slice e lo hi) L σ = (evE c e L σ).bind fun (o, σ1) => (evE c lo L σ1).bind fun (l, σ2) => (evE c hi L σ2).bind fun (h, σ3) => sliceV c o l h σ3 := rfl
theorem evE_rev {e : PE} : evE c (.rev e) L σ = (evE c e L σ).bind fun (o, σ1) => cellO σ1 o fun qq1 ob => oList ob fun vs => allocL vs.reverse σ1 := rfl
theorem evE_bin {op : BOp} {l : PE} {r : PE} : evE c (.bin op l r) L σ = (evE c l L σ).bind fun (a, σ1) => (evE c r L σ1).bind fun (b, σ2) => binV c op a b σ2 := rfl
theorem evE_cmp {op : COp} {l : PE} {r : PE} : evE c (.cmp op l r) L σ = (evE c l L σ).bind fun (a, σ1) => (evE c r L σ1).bind fun (b, σ2) => (cmpV c σ2 op a b).map fun x => (.bool x, σ2) := rfl
theorem evE_chain {o1 : COp} {o2 : COp} {x : PE} {y : PE} {z : PE} : evE c (.chain o1 o2 x y z) L σ = (evE c x L σ).bind fun (a, σ1) => (evE c y L σ1).bind fun (b, σ2) => (cmpV c σ2 o1 a b).bind fun t => match t with | true => (evE c z L σ2).bind fun (d, σ3) => (cmpV c σ3 o2 b d).map fun x => (.bool x, σ3) | false => some (.bool false, σ2) := rfl
theorem evE_notE {e : PE} : evE c (.notE e) L σ = (evE c e L σ).bind fun (v, σ1) => (truthyV c σ1 v).map fun b => (.bool (!b), σ1) := rfl
theorem evE_neg {e : PE} : evE c (.neg e) L σ = (evE c e L σ).bind fun (v, σ1) => intO v fun i => some (.int (-i), σ1) := rfl
theorem evE_andE {l : PE} {r : PE} : evE c (.andE l r) L σ = (evE c l L σ).bind fun (v, σ1) => (truthyV c σ1 v).bind fun b => match b with | true => evE c r L σ1 | false => some (v, σ1) := rfl
theorem evE_orE {l : PE} {r : PE} : evE c (.orE l r) L σ = (evE c l L σ).bind fun (v, σ1) => (truthyV c σ1 v).bind fun b => match b with | false => evE c r L σ1 | true => some (v, σ1) := rfl
theorem evE_ife {t : PE} {b : PE} {o : PE} : evE c (.ife t b o) L σ = (evT c t L σ).bind fun (x, σ1) => match x with | true => evE c b L σ1 | false => evE c o L σ1 := rfl
theorem evE_listE {es : List PE} : evE c (.listE es) L σ = (evEs c es L σ).bind fun (vs, σ1) => allocL vs σ1 := rfl
theorem evE_tupE {es : List PE} : evE c (.tupE es) L σ = (evEs c es L σ).bind fun (vs, σ1) => if vs.length ≤ LIM then tupV vs σ1 else none := rfl
theorem evE_dictE {ks : List (List Nat)} {es : List PE} : evE c (.dictE ks es) L σ = (evEs c es L σ).bind fun (vs, σ1) => if ks.length = vs.length ∧ ks.length ≤ 15 then allocO (.dict (putAll (ks.zip vs) [])) σ1 else none := rfl
theorem evE_comp {t : Ft} {it : PE} {elt : PE} : evE c (.comp t it elt) L σ = (evE c it L σ).bind fun (o, σ1) => (iterV c σ1 o).bind fun xs => (compL (fun v L s => bindFt c s t v L) (fun s => stillV c σ1 s o) (fun L1 s => (evE c elt L1 s).map fun (v, s2) => ([v], s2)) xs L σ1).bind fun (vs, σ2) => allocL vs σ2 := rfl
theorem evE_comp2 {t1 : Ft} {it1 : PE} {t2 : Ft} {it2 : PE} {elt : PE} : evE c (.comp2 t1 it1 t2 it2 elt) L σ = (evE c it1 L σ).bind fun (o, σ1) => (iterV c σ1 o).bind fun xs => (compL (fun v L s => bindFt c s t1 v L) (fun s => stillV c σ1 s o) (fun L1 s => (evE c it2 L1 s).bind fun (o2, s1) => (iterV c s1 o2).bind fun ys => compL (fun v L s => bindFt c s t2 v L) (fun s => stillV c s1 s o2) (fun L2 s => (evE c elt L2 s).map fun (v, s2) => ([v], s2)) ys L1 s1) xs L σ1).bind fun (vs, σ2) => allocL vs σ2 := rfl
theorem evE_call {f : Nat} {es : List PE} : evE c (.call f es) L σ = (evEs c es L σ).bind fun (vs, σ1) => c.call f vs σ1 := rfl
theorem evE_new {cl : Nat} {es : List PE} : evE c (.new cl es) L σ = (evEs c es L σ).bind fun (vs, σ1) => (c.clsm cl c.init).bind fun g => (c.call g (.ref σ1.length :: vs) (σ1 ++ [.inst cl []])).bind fun (r, σ2) => match r with | .none => some (.ref σ1.length, σ2) | _ => none := rfl
theorem evE_meth {o : PE} {m : Nat} {es : List PE} : evE c (.meth o m es) L σ = (evE c o L σ).bind fun (ov, σ1) => methV c ov m σ1 (evEs c es L) := rfl
theorem evE_replC {o : PE} {a : List Nat} {b : List Nat} : evE c (.replC o a b) L σ = (evE c o L σ).bind fun (v, σ1) => replV a b v σ1 := rfl
theorem evT_notE {e : PE} : evT c (.notE e) L σ = (evT c e L σ).map fun (b, σ1) => (!b, σ1) := rfl
theorem evT_andE {l r : PE} : evT c (.andE l r) L σ = (evT c l L σ).bind fun (b, σ1) => match b with | true => evT c r L σ1 | false => some (false, σ1) := rfl
theorem evT_orE {l r : PE} : evT c (.orE l r) L σ = (evT c l L σ).bind fun (b, σ1) => match b with | false => evT c r L σ1 | true => some (true, σ1) := rfl
theorem evE_un {op : UOp} {e : PE} : evE c (.un op e) L σ = (evE c e L σ).bind fun (v, σ1) => unF c op v σ1 := rfl
theorem evE_bm {op : MOp} {o : PE} {es : List PE} : evE c (.bm op o es) L σ = (evE c o L σ).bind fun (ov, σ1) => bif bmP op σ1 ov then (evEs c es L σ1).bind fun (vs, σ2) => bmF c op ov vs σ2 else none := rfl
theorem evE_len {e : PE} : evE c (.len e) L σ = (evE c e L σ).bind fun (v, σ1) => lenV c v σ1 := rfl
theorem evE_ord {e : PE} : evE c (.ord e) L σ = (evE c e L σ).bind fun (v, σ1) => ordV v σ1 := rfl
theorem evE_chr {e : PE} : evE c (.chr e) L σ = (evE c e L σ).bind fun (v, σ1) => chrV v σ1 := rfl
theorem evE_sum {e : PE} : evE c (.sum e) L σ = (evE c e L σ).bind fun (v, σ1) => sumOV c v σ1 := rfl
theorem evE_listOf {e : PE} : evE c (.listOf e) L σ = (evE c e L σ).bind fun (v, σ1) => (listOfV c σ1 v).bind fun vs => allocL vs σ1 := rfl
theorem evE_range {e : PE} : evE c (.range e) L σ = (evE c e L σ).bind fun (v, σ1) => rangeV v σ1 := rfl
theorem evEs_nil : evEs c [] L σ = some ([], σ) := rfl
theorem evEs_cons {e : PE} {r : List PE} : evEs c (e :: r) L σ = (evE c e L σ).bind fun (v, σ1) => (evEs c r L σ1).bind fun (vs, σ2) => some (v :: vs, σ2) := rfl
theorem evEs_one {β : Type} {e : PE} {f : V → St → Option β} : ((evEs c [e] L σ).bind fun (vs, σ2) => v1 vs fun v => f v σ2) = (evE c e L σ).bind fun (v, σ2) => f v σ2 := by
  show ((evE c e L σ).bind fun (v, σ1) => some ([v], σ1)).bind _ = _
  cases evE c e L σ <;> rfl
theorem evE_append {o e : PE} : evE c (.append o e) L σ = (evE c o L σ).bind fun (ov, σ1) => bif isListV σ1 ov then (evE c e L σ1).bind fun (v, σ2) => appendV ov v σ2 else none :=
  evE_bm.trans (congrArg (Option.bind _) (funext fun p => congrArg (fun t => bif isListV p.2 p.1 then t else none) (evEs_one (f := fun v σ => appendV p.1 v σ))))
theorem evE_popAt {o e : PE} : evE c (.popAt o e) L σ = (evE c o L σ).bind fun (ov, σ1) => bif isListV σ1 ov then (evE c e L σ1).bind fun (v, σ2) => popAtV ov v σ2 else none :=
  evE_bm.trans (congrArg (Option.bind _) (funext fun p => congrArg (fun t => bif isListV p.2 p.1 then t else none) (evEs_one (f := fun v σ => popAtV p.1 v σ))))
theorem evE_update {o e : PE} : evE c (.update o e) L σ = (evE c o L σ).bind fun (ov, σ1) => bif isDictV σ1 ov then (evE c e L σ1).bind fun (v, σ2) => updateV ov v σ2 else none :=
  evE_bm.trans (congrArg (Option.bind _) (funext fun p => congrArg (fun t => bif isDictV p.2 p.1 then t else none) (evEs_one (f := fun v σ => updateV p.1 v σ))))
theorem evE_join {sep : List Nat} {e : PE} : evE c (.join sep e) L σ = (evE c e L σ).bind fun (v, σ1) => joinV c sep v σ1 := evEs_one (f := fun v σ => joinV c sep v σ)
end
end PL
namespace PL
noncomputable def oMap (f : V → V) : O → O
  | .list vs => .list (vs.map f)
  | .tuple vs => .tuple (vs.map f)
  | .dict kvs => .dict (kvs.map fun p => (p.1, f p.2))
  | .inst c fs => .inst c (fs.map fun p => (p.1, f p.2))
  | .meth g s => .meth g (f s)
  | .rng a b s => .rng a b s
noncomputable def frzO (f : V → V) : O → V
  | .list vs => .frz (.list (vs.map f))
  | .tuple vs => .frz (.tuple (vs.map f))
  | .dict kvs => .frz (.dict (kvs.map fun p => (p.1, f p.2)))
  | _ => .bad
noncomputable def rz (σ : St) (n : Nat) : Nat → V → V
  | 0, v => (match v with | .ref _ => .bad | v => v)
  | k + 1, v => match v with
    | .ref a => bif Nat.ble n a then (match σ[a]? with | some o => frzO (rz σ n k) o | none => .bad) else .bad
    | v => v
noncomputable def rv (σ : St) (n : Nat) (v : V) : V := match v with
  | .ref a => bif Nat.blt a n then .ref a else rz σ n 6 (.ref a)
  | v => v
theorem getK_map {β : Type} {f : β → β} (i : Nat) : ∀ L : List (Nat × β), getK i (L.map fun p => (p.1, f p.2)) = (getK i L).map f
  | [] => rfl
  | (j, w) :: r => by
    show (bif Nat.beq j i then some (f w) else getK i (r.map fun p => (p.1, f p.2))) = (bif Nat.beq j i then some w else getK i r).map f
    cases Nat.beq j i with
    | true => rfl
    | false => exact getK_map i r
noncomputable def gcL (σ : St) (n : Nat) (L : Loc) : Loc := L.map fun p => (p.1, rv σ n p.2)
noncomputable def gcS (σ : St) (n : Nat) : St := (σ.take n).map (oMap (rv σ n))
noncomputable def asgT (c : Cx) : Tg → V → Loc → St → Option (Loc × St)
  | .l i, v, L, σ => some (putK i v L, σ)
  | .a o f, v, L, σ => (evE c o L σ).bind fun (ov, σ1) => (setAttrV c ov f v σ1).map fun s => (L, s)
  | .s o i, v, L, σ => (evE c o L σ).bind fun (ov, σ1) => (evE c i L σ1).bind fun (iv, σ2) => (setSubV ov iv v σ2).map fun s => (L, s)
noncomputable def asgTs (c : Cx) : List Tg → List V → Loc → St → Option (Loc × St)
  | [], [], L, σ => some (L, σ)
  | t :: ts, v :: vs, L, σ => (asgT c t v L σ).bind fun (L1, σ1) => asgTs c ts vs L1 σ1
  | _, _, _, _ => none
mutual
noncomputable def evS (c : Cx) : PS → Nat → Loc → St → Option (Fl × Loc × St)
  | .expr e, z, L, σ => (evE c e L σ).map fun (_, σ1) => (.next, L, σ1)
  | .assign t e, z, L, σ => (evE c e L σ).bind fun (v, σ1) => (asgT c t v L σ1).map fun (L1, σ2) => (.next, L1, σ2)
  | .assignT ts e, z, L, σ => (evE c e L σ).bind fun (v, σ1) => (itemsV c σ1 v).bind fun vs => (asgTs c ts vs L σ1).map fun (L1, σ2) => (.next, L1, σ2)
  | .augL i op e, z, L, σ => (getK i L).bind fun a => (evE c e L σ).bind fun (b, σ1) => (iopV c op a b σ1).map fun (v, σ2) => (.next, putK i v L, σ2)
  | .augA o f op e, z, L, σ => (evE c o L σ).bind fun (ov, σ1) => (getAttrV c ov f σ1).bind fun (a, σ2) => (evE c e L σ2).bind fun (b, σ3) => (iopV c op a b σ3).bind fun (v, σ4) => (setAttrV c ov f v σ4).map fun s => (.next, L, s)
  | .augS o i op e, z, L, σ => (evE c o L σ).bind fun (ov, σ1) => (evE c i L σ1).bind fun (iv, σ2) => (subV c σ2 ov iv).bind fun a => (evE c e L σ2).bind fun (b, σ3) => (iopV c op a b σ3).bind fun (v, σ4) => (setSubV ov iv v σ4).map fun s => (.next, L, s)
  | .ifs t b o, z, L, σ => (evT c t L σ).bind fun (x, σ1) => match x with | true => evSs c b z L σ1 | false => evSs c o z L σ1
  | .whiles t b, z, L, σ => whileL (fun L s => evT c t L s) (fun L s => evSs c b z L s) c.fuel L σ
  | .fors t it b, z, L, σ => (evE c it L σ).bind fun (o, σ1) => (iterV c σ1 o).bind fun xs => forL (fun v L s => bindFt c s t v L) (fun s => stillV c σ1 s o) (fun L s => evSs c b σ1.length L s) xs L σ1
  | .ret e, z, L, σ => (evE c e L σ).map fun (v, σ1) => (.ret v, L, σ1)
  | .brk, z, L, σ => some (.brk, L, σ)
  | .cont, z, L, σ => some (.cont, L, σ)
  | .pass, z, L, σ => some (.next, L, σ)
  | .gc k, z, L, σ => some (.next, gcL σ (z + k) L, gcS σ (z + k))
  | .retf e, z, L, σ => (evE c e L σ).map fun (v, σ1) => (.ret (rv σ1 z v), gcL σ1 z L, gcS σ1 z)
termination_by structural e => e
noncomputable def evSs (c : Cx) : List PS → Nat → Loc → St → Option (Fl × Loc × St)
  | [], z, L, σ => some (.next, L, σ)
  | s :: r, z, L, σ => (evS c s z L σ).bind fun (f, L1, σ1) => match f with | .next => evSs c r z L1 σ1 | f => some (f, L1, σ1)
termination_by structural e => e
end
structure Fn where
  params : List Nat
  dflt : List V
  body : List PS
noncomputable def bindP : List Nat → List V → List V → Option Loc
  | [], [], _ => some []
  | i :: is, v :: vs, d => (bindP is vs (d.drop (d.length - is.length))).map ((i, v) :: ·)
  | i :: is, [], d => if d.length = is.length + 1 then (match d with | v :: d' => (bindP is [] d').map ((i, v) :: ·) | [] => none) else none
  | [], _ :: _, _ => none
structure Pr where
  so : Nat → Option O
  clsm : Nat → Nat → Option Nat
  clsv : Nat → Nat → Option V
  clsi : Nat → Nat → Bool
  init : Nat
  fns : Nat → Option Fn
noncomputable def cxOf (p : Pr) (fuel : Nat) (call : Nat → List V → St → Option (V × St)) : Cx := { so := p.so, clsm := p.clsm, clsv := p.clsv, clsi := p.clsi, init := p.init, fuel := fuel, call := call }
noncomputable def runF (p : Pr) (fuel : Nat) : Nat → Nat → List V → St → Option (V × St)
  | 0, _, _, _ => none
  | d + 1, f, args, σ => (p.fns f).bind fun fn => (bindP fn.params args fn.dflt).bind fun L =>
      (evSs (cxOf p fuel (runF p fuel d)) fn.body σ.length L σ).map fun (fl, _, σ1) => ((match fl with | .ret v => v | _ => .none), σ1)
noncomputable def two {β : Type} (l : List (Nat × List (Nat × β))) (a b : Nat) : Option β := match getK a l with | some r => getK b r | none => none
noncomputable def twoI (l : List (Nat × List Nat)) (a b : Nat) : Bool := match getK a l with | some l => l.contains b | none => false
end PL
end
section
namespace PL
inductive All2 {α β : Type} (R : α → β → Prop) : List α → List β → Prop
  | nil : All2 R [] []
  | cons {a b l m} : R a b → All2 R l m → All2 R (a :: l) (b :: m)
namespace All2
variable {α β : Type} {R S : α → β → Prop}
theorem len {l : List α} {m : List β} (h : All2 R l m) : l.length = m.length := by
  induction h with
  | nil => rfl
  | cons _ _ ih => simp [ih]
theorem mono {l : List α} {m : List β} (h : All2 R l m) (k : ∀ a b, R a b → S a b) : All2 S l m := by
  induction h with
  | nil => exact .nil
  | cons h _ ih => exact .cons (k _ _ h) ih
theorem get {l : List α} {m : List β} (h : All2 R l m) : ∀ {i : Nat} {a : α}, l[i]? = some a → ∃ b, m[i]? = some b ∧ R a b := by
  induction h with
  | nil => intro i a e; simp at e
  | cons h _ ih =>
    intro i a e
    cases i with
    | zero => simp at e; subst e; exact ⟨_, by simp, h⟩
    | succ i => simp at e; obtain ⟨b, hb, r⟩ := ih e; exact ⟨b, by simpa using hb, r⟩
theorem app {l l' : List α} {m m' : List β} (h : All2 R l m) (h' : All2 R l' m') : All2 R (l ++ l') (m ++ m') := by
  induction h with
  | nil => exact h'
  | cons h _ ih => exact .cons h ih
theorem snoc {l : List α} {m : List β} {a : α} {b : β} (h : All2 R l m) (h' : R a b) : All2 R (l ++ [a]) (m ++ [b]) := h.app (.cons h' .nil)
theorem set {l : List α} {m : List β} (h : All2 R l m) : ∀ (i : Nat) {a : α} {b : β}, R a b → All2 R (l.set i a) (m.set i b) := by
  induction h with
  | nil => intro i a b r; exact .nil
  | cons h t ih =>
    intro i a b r
    cases i with
    | zero => exact .cons r t
    | succ i => exact .cons h (ih i r)
theorem drop {l : List α} {m : List β} (h : All2 R l m) : ∀ i, All2 R (l.drop i) (m.drop i) := by
  induction h with
  | nil => intro i; simp; exact .nil
  | cons h t ih => intro i; cases i with
    | zero => exact .cons h t
    | succ i => simpa using ih i
theorem take {l : List α} {m : List β} (h : All2 R l m) : ∀ i, All2 R (l.take i) (m.take i) := by
  induction h with
  | nil => intro i; simp; exact .nil
  | cons h t ih => intro i; cases i with
    | zero => exact .nil
    | succ i => simpa using .cons h (ih i)
theorem rev {l : List α} {m : List β} (h : All2 R l m) : All2 R l.reverse m.reverse := by
  induction h with
  | nil => exact .nil
  | cons h t ih => simpa using ih.snoc h
theorem eraseIdx {l : List α} {m : List β} (h : All2 R l m) : ∀ i, All2 R (l.eraseIdx i) (m.eraseIdx i) := by
  induction h with
  | nil => intro i; exact .nil
  | cons h t ih => intro i; cases i with
    | zero => exact t
    | succ i => exact .cons h (ih i)
theorem last {l : List α} {m : List β} (h : All2 R l m) {a : α} (e : l.getLast? = some a) : ∃ b, m.getLast? = some b ∧ R a b := by
  rw [List.getLast?_eq_getElem?] at e
  obtain ⟨b, hb, r⟩ := h.get e
  refine ⟨b, ?_, r⟩
  rw [List.getLast?_eq_getElem?, ← h.len]; exact hb
theorem dropLast {l : List α} {m : List β} (h : All2 R l m) : All2 R l.dropLast m.dropLast := by
  rw [List.dropLast_eq_take, List.dropLast_eq_take, h.len]; exact h.take _
end All2
abbrev Part := List (Addr × Obj)
noncomputable def hd1 (p : Part) : Addr := match p with | [] => 0 | (a, _) :: _ => a
structure HS where
  a : List Addr
  z : O → Addr → Prop
structure HS.Le (s t : HS) : Prop where
  a : s.a <+: t.a
  z : ∀ o A, s.z o A → t.z o A
noncomputable def HS.nil : HS := ⟨[], fun qq1 qq2 => False⟩
noncomputable def HS.add (s : HS) (A : Addr) : HS := ⟨s.a ++ [A], s.z⟩
theorem HS.Le.rfl {s : HS} : s.Le s := ⟨List.prefix_refl _, fun qq1 qq2 h => h⟩
theorem HS.Le.trans {s t u : HS} (p : s.Le t) (q : t.Le u) : s.Le u := ⟨p.1.trans q.1, fun o A h => q.2 o A (p.2 o A h)⟩
theorem HS.Le.nil {s : HS} : HS.nil.Le s := ⟨⟨_, Eq.refl _⟩, fun qq1 qq2 h => h.elim⟩
theorem HS.Le.add {s : HS} {A : Addr} : s.Le (s.add A) := ⟨⟨_, Eq.refl _⟩, fun qq1 qq2 h => h⟩
structure PZ where
  p : List Part
  zl : List (Addr × Obj)
  z : O → Addr → Prop
noncomputable def PZ.flatten (ps : PZ) : List (Addr × Obj) := ps.p.flatten ++ ps.zl
noncomputable def PZ.set (ps : PZ) (a : Nat) (part : Part) : PZ := ⟨ps.p.set a part, ps.zl, ps.z⟩
noncomputable def PZ.add (ps : PZ) (part : Part) : PZ := ⟨ps.p ++ [part], ps.zl, ps.z⟩
noncomputable def hds (ps : PZ) : HS := ⟨ps.p.map hd1, ps.z⟩
inductive VR (hs : HS) : V → Value → Prop
  | none : VR hs .none .none
  | bool (b) : VR hs (.bool b) (.bool b)
  | int (i t) : VR hs (.int i) (.int i t)
  | str (s : List Nat) (t) : s.length ≤ LIM → VR hs (.str s) (.str (toS s) t)
  | ref {a A} : hs.a[a]? = some A → VR hs (.ref a) (.ref A)
  | sref (a) : VR hs (.sref a) (.ref a)
  | frz {o A} : hs.z o A → VR hs (.frz o) (.ref A)
  | bad (A) : VR hs .bad (.ref A)
theorem VR.mono {hs hs' : HS} (h : hs.Le hs') {v : V} {x : Value} (r : VR hs v x) : VR hs' v x := by
  cases r with
  | none => exact .none
  | bool b => exact .bool b
  | int i t => exact .int i t
  | str s t h => exact .str s t h
  | ref e =>
    obtain ⟨r, q⟩ := h.a
    exact .ref (by rw [← q, List.getElem?_append_left]; exact e; exact (List.getElem?_eq_some_iff.mp e).1)
  | sref a => exact .sref a
  | frz e => exact .frz (h.z _ _ e)
  | bad x => exact .bad x
noncomputable def KV (hs : HS) (a : List Nat × V) (b : Str × Value) : Prop := b.1 = toS a.1 ∧ VR hs a.2 b.2
noncomputable def AV (tb : List Str) (hs : HS) (a : Nat × V) (e : DictEntry) : Prop := ∃ x t, tb[a.1]? = some x ∧ e.key = .str x t ∧ VR hs a.2 e.val
section
variable (prog : Program) (w : World) (tb : List Str)
inductive ORel (hs : HS) : O → Part → Prop
  | list {vs : List V} {its : List Value} {A : Addr} {n : Nat} : All2 (VR hs) vs its → vs.length ≤ LIM + LIM → ORel hs (.list vs) [(A, listOf its.toArray n)]
  | tuple {vs : List V} {its : List Value} {A : Addr} {n : Nat} : All2 (VR hs) vs its → vs.length ≤ LIM + LIM → ORel hs (.tuple vs) [(A, { cls := .type "tuple", data := .seq its.toArray n })]
  | dict {kvs : List (List Nat × V)} {ks : List (Str × Value)} {A : Addr} {o : Obj} : o.IsDictOf (strKind prog w) ks → All2 (KV hs) kvs ks → kvs.length ≤ LIM → (A == sysModules) = false → ORel hs (.dict kvs) [(A, o)]
  | inst {C : Nat} {fs : List (Nat × V)} {es : List DictEntry} {A D : Addr} {n : Nat} : All2 (AV tb hs) fs es → (fs.map (·.1)).Nodup → fs.length ≤ 900 → ORel hs (.inst C fs) [(A, instObj C D), (D, dictOf es n)]
  | meth {f : Nat} {self : V} {x : Value} {A : Addr} : VR hs self x → ORel hs (.meth f self) [(A, methodObj (.ref f) x)]
  | rng {a b s : Int} {A : Addr} {t u v : Tok} : ORel hs (.rng a b s) [(A, { cls := .type "range", dict := none, data := .fields #[.int a t, .int b u, .int s v], slots := #[] })]
end
end PL
end
section
namespace PL
structure Fc where
  cn : Str
  cs : Scope
  L : Addr
  a : Addr
  ccd : Value
  h₀ : Heap
  A₀ : Around
  base : Heap
  outer : List Env
  A : Around
noncomputable def Fc.env (c : Fc) : Env := envOf c.cn c.cs c.L c.a c.ccd
structure Wd where
  prog : Program
  w : World
  K : Frag
  p : Program
  loose : List Str
  mean : ExcName → Option Value
  mg : Str → Option Value
  mb : Str → Option Value
  tb : List Str
structure Gd (c : Fc) (g : Heap) : Prop where
  eq : g = c.h₀
  B : Below c.A₀ c.base c.outer g
theorem Gd.none {c : Fc} {g : Heap} (G : Gd c g) {b : Addr} : c.h₀.get? b = none ↔ g.get? b = none := G.eq ▸ Iff.rfl
theorem Gd.news {c : Fc} {g h : Heap} {L : Addr} {l : List (Addr × Obj)} (G : Gd c g) (N : News c.h₀ L h l) : News g L h l := fun p hp => ⟨(N p hp).1, (N p hp).2.1, G.none.mp (N p hp).2.2⟩
theorem Gd.back {c : Fc} {g h : Heap} {L : Addr} {l : List (Addr × Obj)} (G : Gd c g) (N : News g L h l) : News c.h₀ L h l := fun p hp => ⟨(N p hp).1, (N p hp).2.1, G.none.mpr (N p hp).2.2⟩
noncomputable def FrU (c : Fc) (h : Heap) (m : Str → Option Value) : Prop := ∃ g, Gd c g ∧ Fr g c.L h m
theorem FrU.ns {c : Fc} {h : Heap} {m : Str → Option Value} (F : FrU c h m) : h.Ns c.L m := let ⟨_, _, f⟩ := F; f.ns
theorem FrU.push {c : Fc} {h : Heap} {m : Str → Option Value} (F : FrU c h m) (o : Obj) : FrU c (h.push o) m := let ⟨g, G, f⟩ := F; ⟨g, G, f.push o⟩
theorem FrU.npush {c : Fc} {h : Heap} {m : Str → Option Value} {l : List (Addr × Obj)} (F : FrU c h m) (N : News c.h₀ c.L h l) (o : Obj) (hf : o.isFreed = false) : News c.h₀ c.L (h.push o) ((h.objs.size, o) :: l) := let ⟨_, G, f⟩ := F; G.back ((G.news N).push f o hf)
theorem FrU.change {c : Fc} {h h' : Heap} {m : Str → Option Value} {D : Addr} (F : FrU c h m) (hs : Heap.SameBut D h h') (hL : D ≠ c.L) (hn : c.h₀.get? D = none) : FrU c h' m := let ⟨g, G, f⟩ := F; ⟨g, G, f.change hs hL (G.none.mp hn)⟩
theorem FrU.set {c : Fc} {h h' : Heap} {m m' : Str → Option Value} (F : FrU c h m) (hn : h'.Ns c.L m') (hs : Heap.SameBut c.L h h') : FrU c h' m' := let ⟨g, G, f⟩ := F; ⟨g, G, f.set hn hs⟩
theorem FrU.keeps {c : Fc} {h h' : Heap} {m : Str → Option Value} (F : FrU c h m) (hk : ∀ b x, h.get? b = some x → h'.get? b = some x) : FrU c h' m := let ⟨g, G, f⟩ := F; ⟨g, G, f.keeps hk⟩
theorem FrU.off {c : Fc} {h h' : Heap} {m : Str → Option Value} {D : Addr} (F : FrU c h m) (hk : ∀ b x, b ≠ D → h.get? b = some x → h'.get? b = some x) (hL : D ≠ c.L) (hn : c.h₀.get? D = none) : FrU c h' m := by
  obtain ⟨g, G, f⟩ := F
  obtain ⟨oL, es, ep, h1, h2⟩ := f.ns
  exact ⟨g, G, ⟨oL, es, ep, hk _ _ hL.symm h1, h2⟩, fun b x hb => hk b x (fun q => by rw [q, G.none.mp hn] at hb; cases hb) (f.keep b x hb), f.above⟩
theorem FrU.base {c : Fc} {h : Heap} {m : Str → Option Value} (F : FrU c h m) : c.base.StaysIn h := let ⟨_, G, f⟩ := F; fun b o e => f.keep b o (G.B.stays b o e)
structure FOk (W : Wd) (c : Fc) (d : Nat) : Prop where
  frames : c.A.frames = some (c.env :: c.outer)
  hh : c.A.handled = none
  depth : c.A.depth + 3 * d + 3 ≤ 990
  units : c.A.units + 30 * d + 300 ≤ 9800
  X : W.K.In c.base
  T : Top W.p W.loose W.mean W.mg W.mb c.base
  kind : c.cs.kind = .function
theorem FOk.TR {W : Wd} {c : Fc} {d : Nat} (ok : FOk W c d) {g : Heap} (G : Gd c g) : TopRead W.p W.loose W.mg W.mb g := (topRead_of ok.T).keeps G.B.stays
theorem FOk.KR {W : Wd} {c : Fc} {d : Nat} (ok : FOk W c d) {g : Heap} (G : Gd c g) : W.K.In g := ok.X.keeps G.B.stays
structure SR (W : Wd) (c : Fc) (m : Str → Option Value) (X : List (Addr × Obj)) (σ : St) (ps : PZ) (h : Heap) : Prop where
  F : FrU c h m
  N : News c.h₀ c.L h (ps.flatten ++ X)
  nd : ((ps.flatten ++ X).map (·.1)).Nodup
  rel : All2 (ORel W.prog W.w W.tb (hds ps)) σ ps.p
  fz : ∀ o A, ps.z o A → ∃ part, hd1 part = A ∧ (∀ q ∈ part, q ∈ ps.zl) ∧ ORel W.prog W.w W.tb ⟨[], ps.z⟩ o part
section
variable {W : Wd} {c : Fc} {m m' : Str → Option Value} {X : List (Addr × Obj)} {σ : St} {ps : PZ} {h h' : Heap}
theorem hds_len : (hds ps).a.length = ps.p.length := List.length_map ..
theorem SR.len (S : SR W c m X σ ps h) : σ.length = ps.p.length := S.rel.len
theorem SR.K (S : SR W c m X σ ps h) {d : Nat} (ok : FOk W c d) : W.K.In h := ok.X.keeps S.F.base
theorem SR.obj (S : SR W c m X σ ps h) {a : Nat} {o : O} (e : σ[a]? = some o) : ∃ part, ps.p[a]? = some part ∧ ORel W.prog W.w W.tb (hds ps) o part := S.rel.get e
theorem SR.mem (S : SR W c m X σ ps h) {a : Nat} {part : Part} (e : ps.p[a]? = some part) {q : Addr × Obj} (hq : q ∈ part) : q ∈ ps.flatten ++ X :=
  List.mem_append_left _ (List.mem_append_left _ (List.mem_flatten.mpr ⟨part, List.mem_of_getElem? e, hq⟩))
theorem SR.at (S : SR W c m X σ ps h) {a : Nat} {part : Part} (e : ps.p[a]? = some part) {q : Addr × Obj} (hq : q ∈ part) : h.get? q.1 = some q.2 := (S.N _ (S.mem e hq)).1
theorem SR.addr (S : SR W c m X σ ps h) {a : Nat} {x : Value} (r : VR (hds ps) (.ref a) x) : ∃ part, ps.p[a]? = some part ∧ x = .ref (hd1 part) := by
  cases r with
  | ref e =>
    obtain ⟨part, hp, q⟩ := Option.map_eq_some_iff.mp ((List.getElem?_map ..).symm.trans e)
    exact ⟨part, hp, q ▸ rfl⟩
theorem SR.own (S : SR W c m X σ ps h) {a : Nat} {x : Value} {o : O} (r : VR (hds ps) (.ref a) x) (e : σ[a]? = some o) :
    ∃ part, ps.p[a]? = some part ∧ x = .ref (hd1 part) ∧ ORel W.prog W.w W.tb (hds ps) o part := by
  obtain ⟨part, hp, hx⟩ := S.addr r
  obtain ⟨part', hp', hr⟩ := S.obj e
  rw [hp] at hp'; cases hp'
  exact ⟨part, hp, hx, hr⟩
theorem flat_set0 {pre post : Part} {D : Addr} {o o' : Obj} : ∀ {ps : List Part} {a : Nat}, ps[a]? = some (pre ++ (D, o) :: post) →
    ∃ P Q, ps.flatten = P ++ (D, o) :: Q ∧ (ps.set a (pre ++ (D, o') :: post)).flatten = P ++ (D, o') :: Q
  | [], a, e => by simp at e
  | p :: r, 0, e => by
    simp at e; subst e
    exact ⟨pre, post ++ r.flatten, by simp, by simp⟩
  | p :: r, a + 1, e => by
    simp at e
    obtain ⟨P, Q, h1, h2⟩ := flat_set0 (o' := o') e
    exact ⟨p ++ P, Q, by simp [h1], by simp [h2]⟩
theorem flat_set {pre post : Part} {D : Addr} {o o' : Obj} {a : Nat} (e : ps.p[a]? = some (pre ++ (D, o) :: post)) :
    ∃ P Q, ps.flatten = P ++ (D, o) :: Q ∧ (ps.set a (pre ++ (D, o') :: post)).flatten = P ++ (D, o') :: Q := by
  obtain ⟨P, Q, h1, h2⟩ := flat_set0 (o' := o') e
  exact ⟨P, Q ++ ps.zl, by unfold PZ.flatten; rw [h1]; simp, by unfold PZ.flatten; show (ps.p.set a _).flatten ++ _ = _; rw [h2, List.append_assoc]; rfl⟩
theorem set_self {α : Type} {l : List α} {a : Nat} {x : α} (e : l[a]? = some x) : l.set a x = l := by
  apply List.ext_getElem?
  intro i
  rw [List.getElem?_set]
  by_cases q : a = i
  · subst q
    have := (List.getElem?_eq_some_iff.mp e).1
    rw [if_pos rfl, if_pos this]; exact e.symm
  · simp [q]
theorem hds_get {a : Nat} {part : Part} (e : ps.p[a]? = some part) : (hds ps).a[a]? = some (hd1 part) := (List.getElem?_map ..).trans (congrArg (Option.map hd1) e)
theorem hds_set {a : Nat} {part part' : Part} (e : ps.p[a]? = some part) (h1 : hd1 part' = hd1 part) : hds (ps.set a part') = hds ps := by
  show HS.mk ((ps.p.set a part').map hd1) ps.z = HS.mk (ps.p.map hd1) ps.z
  rw [List.map_set, h1]
  exact congrArg (HS.mk · ps.z) (set_self (hds_get e))
theorem SR.put2 (S : SR W c m X σ ps h) {a : Nat} {pre post : Part} {D : Addr} {o o' : Obj} {ob : O} (e : ps.p[a]? = some (pre ++ (D, o) :: post)) (hk : ∀ b x, b ≠ D → h.get? b = some x → h'.get? b = some x) (ho : h'.get? D = some o')
    (hr : ORel W.prog W.w W.tb (hds ps) ob (pre ++ (D, o') :: post)) : SR W c m X (σ.set a ob) (ps.set a (pre ++ (D, o') :: post)) h' ∧ hds (ps.set a (pre ++ (D, o') :: post)) = hds ps := by
  have hh : hd1 (pre ++ (D, o') :: post) = hd1 (pre ++ (D, o) :: post) := by cases pre <;> rfl
  have he := hds_set e hh
  obtain ⟨P, Q, h1, h2⟩ := flat_set (o' := o') e
  have D0 := S.N (D, o) (by rw [h1]; simp)
  have nd := S.nd
  rw [h1] at nd
  simp only [List.map_append, List.map_cons, List.append_assoc, List.cons_append] at nd
  have nd2 := List.nodup_append.mp nd
  have n1 : ∀ p ∈ P, p.1 ≠ D := fun p hp q => nd2.2.2 _ (List.mem_map_of_mem hp) D List.mem_cons_self q
  have n2 : ∀ p ∈ Q ++ X, p.1 ≠ D := fun p hp q => by
    have := (List.nodup_cons.mp nd2.2.1).1
    apply this
    rw [← List.map_append, ← q]
    exact List.mem_map_of_mem hp
  refine ⟨⟨S.F.off hk D0.2.1 D0.2.2, ?_, ?_, ?_, S.fz⟩, he⟩
  · rw [h2, List.append_assoc, List.cons_append]
    intro p hp
    have NN : ∀ p, p ∈ P ++ (D, o) :: (Q ++ X) → h.get? p.1 = some p.2 ∧ p.1 ≠ c.L ∧ c.h₀.get? p.1 = none := fun p hp => S.N p (by rw [h1]; simpa using hp)
    rcases List.mem_append.mp hp with hp | hp
    · have z := NN p (List.mem_append_left _ hp)
      exact ⟨hk _ _ (n1 p hp) z.1, z.2⟩
    · rcases List.mem_cons.mp hp with rfl | hp
      · exact ⟨ho, D0.2⟩
      · have z := NN p (List.mem_append_right _ (.tail _ hp))
        exact ⟨hk _ _ (n2 p hp) z.1, z.2⟩
  · rw [h2]; simpa using nd
  · rw [he]; exact S.rel.set a hr
theorem SR.put (S : SR W c m X σ ps h) {a : Nat} {pre post : Part} {D : Addr} {o o' : Obj} {ob : O} (e : ps.p[a]? = some (pre ++ (D, o) :: post)) (hs : Heap.SameBut D h h') (ho : h'.get? D = some o')
    (hr : ORel W.prog W.w W.tb (hds ps) ob (pre ++ (D, o') :: post)) : SR W c m X (σ.set a ob) (ps.set a (pre ++ (D, o') :: post)) h' ∧ hds (ps.set a (pre ++ (D, o') :: post)) = hds ps := S.put2 e (fun b x q e => (hs.2 b q).trans e) ho hr
theorem ORel.head {prog : Program} {w : World} {tb : List Str} {hs : HS} {o : O} {part : Part} (r : ORel prog w tb hs o part) : ∃ ob, (hd1 part, ob) ∈ part := by
  cases r <;> exact ⟨_, .head _⟩
theorem hds_snoc {part : Part} : hds (ps.add part) = (hds ps).add (hd1 part) := congrArg (HS.mk · ps.z) List.map_append
theorem pre_snoc {part : Part} : (hds ps).Le (hds (ps.add part)) := hds_snoc ▸ .add
theorem AV.mono {tb : List Str} {hs hs' : HS} (k : hs.Le hs') {a : Nat × V} {e : DictEntry} (r : AV tb hs a e) : AV tb hs' a e := by
  obtain ⟨x, t, h1, h2, h3⟩ := r
  exact ⟨x, t, h1, h2, h3.mono k⟩
theorem ORel.mono {prog : Program} {w : World} {tb : List Str} {hs hs' : HS} (k : hs.Le hs') {o : O} {part : Part} (r : ORel prog w tb hs o part) : ORel prog w tb hs' o part := by
  cases r with
  | list h1 h2 => exact .list (h1.mono fun qq1 qq2 => VR.mono k) h2
  | tuple h1 h2 => exact .tuple (h1.mono fun qq1 qq2 => VR.mono k) h2
  | dict h1 h2 h3 h4 => exact .dict h1 (h2.mono fun qq1 qq2 z => ⟨z.1, z.2.mono k⟩) h3 h4
  | inst h1 h2 h3 => exact .inst (h1.mono fun qq1 qq2 => AV.mono k) h2 h3
  | meth h1 => exact .meth (h1.mono k)
  | rng => exact .rng
theorem add_perm {part : Part} : ((ps.add part).flatten ++ X).Perm (part ++ (ps.flatten ++ X)) := by
  show (((ps.p ++ [part]).flatten ++ ps.zl) ++ X).Perm (part ++ ((ps.p.flatten ++ ps.zl) ++ X))
  rw [List.flatten_append, List.flatten_cons, List.flatten_nil, List.append_nil, List.append_assoc, List.append_assoc, List.append_assoc, ← List.append_assoc, ← List.append_assoc part]
  exact List.Perm.append_right _ List.perm_append_comm
theorem SR.new {part : Part} {o : O} (S : SR W c m X σ ps h) (F' : FrU c h' m) (N' : News c.h₀ c.L h' (part ++ (ps.flatten ++ X)))
    (nd : (part.map (·.1)).Nodup) (lt : ∀ q ∈ part, ∀ p ∈ ps.flatten ++ X, p.1 ≠ q.1) (hr : ORel W.prog W.w W.tb ((hds ps).add (hd1 part)) o part) : SR W c m X (σ ++ [o]) (ps.add part) h' := by
  have pm := add_perm (ps := ps) (part := part) (X := X)
  refine ⟨F', fun p hp => N' p (pm.mem_iff.mp hp), ?_, ?_, S.fz⟩
  · rw [(pm.map (·.1)).nodup_iff, List.map_append]
    refine List.nodup_append.mpr ⟨nd, S.nd, fun a ha b hb q => ?_⟩
    obtain ⟨x, hx, rfl⟩ := List.mem_map.mp ha
    obtain ⟨y, hy, rfl⟩ := List.mem_map.mp hb
    exact lt x hx y hy q.symm
  · rw [hds_snoc]
    exact All2.snoc (S.rel.mono fun qq1 qq2 => ORel.mono .add) hr
theorem SR.new1 {A : Addr} {ob : Obj} {o : O} (S : SR W c m X σ ps h) (F' : FrU c h' m) (N' : News c.h₀ c.L h' ((A, ob) :: (ps.flatten ++ X)))
    (lt : ∀ p ∈ ps.flatten ++ X, p.1 < A) (hr : ORel W.prog W.w W.tb ((hds ps).add A) o [(A, ob)]) : SR W c m X (σ ++ [o]) (ps.add [(A, ob)]) h' :=
  S.new (part := [(A, ob)]) F' N' (by simp) (fun q hq p hp => by simp at hq; subst hq; exact Nat.ne_of_lt (lt p hp)) hr
theorem SR.push1 {ob : Obj} {o : O} (S : SR W c m X σ ps h) (hf : ob.isFreed = false) (hr : ORel W.prog W.w W.tb ((hds ps).add h.objs.size) o [(h.objs.size, ob)]) :
    SR W c m X (σ ++ [o]) (ps.add [(h.objs.size, ob)]) (h.push ob) :=
  S.new1 (S.F.push _) (S.F.npush S.N ob hf) (fun p hp => Heap.lt_size (S.N p hp).1) hr
noncomputable def PZ.tree (ps : PZ) (A : Addr) (ob : Obj) (o : O) : PZ := ⟨ps.p, (A, ob) :: ps.zl, fun o' A' => ps.z o' A' ∨ (o' = o ∧ A' = A)⟩
theorem pre_tree {A : Addr} {ob : Obj} {o : O} : (hds ps).Le (hds (ps.tree A ob o)) := ⟨List.prefix_refl _, fun qq1 qq2 => .inl⟩
theorem SR.tree {A : Addr} {ob : Obj} {o : O} (S : SR W c m X σ ps h) (F' : FrU c h' m) (N' : News c.h₀ c.L h' ((A, ob) :: (ps.flatten ++ X)))
    (lt : ∀ p ∈ ps.flatten ++ X, p.1 < A) (hr : ORel W.prog W.w W.tb ⟨[], ps.z⟩ o [(A, ob)]) : SR W c m X σ (ps.tree A ob o) h' := by
  have pm : ((ps.tree A ob o).flatten ++ X).Perm ((A, ob) :: (ps.flatten ++ X)) := List.Perm.append_right X (l₂ := (A, ob) :: ps.flatten) List.perm_middle
  have le : HS.Le ⟨[], ps.z⟩ ⟨[], (ps.tree A ob o).z⟩ := ⟨List.prefix_refl _, fun qq1 qq2 => .inl⟩
  refine ⟨F', fun p hp => N' p (pm.mem_iff.mp hp), ?_, S.rel.mono fun qq1 qq2 => ORel.mono pre_tree, ?_⟩
  · have q := pm.map Prod.fst
    refine q.nodup_iff.mpr (List.nodup_cons.mpr ⟨fun q => ?_, S.nd⟩)
    obtain ⟨p, hp, e⟩ := List.mem_map.mp q
    exact Nat.ne_of_lt (lt p hp) e
  · rintro o' A' (z | ⟨rfl, rfl⟩)
    · obtain ⟨part, h1, h2, h3⟩ := S.fz o' A' z
      exact ⟨part, h1, fun q hq => .tail _ (h2 q hq), h3.mono le⟩
    · exact ⟨_, rfl, fun q hq => List.mem_singleton.mp hq ▸ .head _, hr.mono le⟩
theorem VR.last {hs : HS} {A : Addr} {n : Nat} (e : hs.a.length = n) : VR (hs.add A) (.ref n) (.ref A) := .ref (by subst e; exact List.getElem?_concat_length ..)
theorem SR.keep (S : SR W c m X σ ps h) (F' : FrU c h' m') (N' : News c.h₀ c.L h' (ps.flatten ++ X)) : SR W c m' X σ ps h' := ⟨F', N', S.nd, S.rel, S.fz⟩
theorem SR.garb (S : SR W c m X σ ps h) (ob : Obj) : SR W c m X σ ps (h.push ob) :=
  S.keep (S.F.push _) fun p hp => ⟨Heap.get?_push_of_some _ (S.N p hp).1, (S.N p hp).2⟩
end
end PL
end
section
namespace PL
open SeqAt MeetsSeq MeetsSeq2 MeetsSeq3 SeqRoads2
open AutoSeq1 (wpAny_loadPart')
def EqP (W : Wd) (A : Around) (s : Shared) (y x : Value) (b : Bool) : Prop := ∀ (E : Value → Shared → Prop) (Q : Bool → Shared → Prop), Q b s → wpAny (model W.prog W.w) A (eqBool y x) Q E s
def RcP (W : Wd) (A : Around) (s : Shared) (y x : Value) (b : Bool) : Prop := ∀ (E Q : Value → Shared → Prop), Q (.bool b) s → wpAny (model W.prog W.w) A (richCompare .Eq y x) Q E s
def RnP (W : Wd) (A : Around) (s : Shared) (y x : Value) (b : Bool) : Prop := ∀ (E Q : Value → Shared → Prop), Q (.bool b) s → wpAny (model W.prog W.w) A (richCompare .NotEq y x) Q E s
section
variable {W : Wd} {A : Around} {s : Shared}
theorem EqP.of {y x : Value} {b : Bool} (h : EqAt A s y x b) : EqP W A s y x b := fun E Q hq => h W.prog W.w E Q hq
theorem RcP.of {y x : Value} {b : Bool} (h : RcAt A s y x b) : RcP W A s y x b := fun E Q hq => h W.prog W.w E Q hq
theorem EqP.refs {l b : Addr} {k : Bool} (hne : l ≠ b) (h : RcP W A s (.ref l) (.ref b) k) : EqP W A s (.ref l) (.ref b) k := fun E Q hq => by
  unfold eqBool
  refine wpAny_holding (wpAny_ite_split (fun q => absurd (Value.ref.inj (eq_of_beq q)) hne) fun qq1 => ?_)
  exact wpAny_bind (h E _ (wpAny_truthy_bool hq))
theorem listLoop {l b : Addr} {xs ys : Array Value} {n n2 : Nat} (sz : xs.size = ys.size) {e : Nat → Bool} : ∀ (k i : Nat), xs.size - i = k → ∀ (A : Around) (R : Result → Shared → Prop) (s : Shared),
    s.heap.get? l = some (listOf xs n) → s.heap.get? b = some (listOf ys n2) → (∀ j (h1 : j < xs.size) (h2 : j < ys.size), EqP W A.in1 s xs[j] ys[j] (e j)) → R (.ok (.ret (.bool (((List.range xs.size).drop i).all e)))) s →
    wpAny (model W.prog W.w) A.in1 (Builtin.«list.__eq__.loop» ⟨[.ref l, .ref b, rawInt i, rawInt 2], []⟩)
      (fun fin s' => match fin with | .done f => R (.ok f) s' | .again c' => c'.quiet = true ∧ codeAny (model W.prog W.w) A c' R s') (fun e s' => R (.error e) s') s := by
  intro k
  induction k with
  | zero =>
    intro i hk A R s hl hb he h
    obtain ⟨hp, g, d, tk, os⟩ := s
    have ni : xs[((i : Nat) : Int).toNat]? = none := by simp; lia
    have nj : ys[((i : Nat) : Int).toNat]? = none := by simp; lia
    have hd : (List.range xs.size).drop i = [] := by simp; lia
    rw [hd] at h
    wp_walk using wpAny_loadPart' hl, wpAny_loadPart' hb
    rw [ni, nj]
    wp_walk using wpAny_loadPart' hl, wpAny_loadPart' hb
    have : (xs.size == ys.size) = true := by rw [sz]; exact beq_self_eq_true _
    show R (.ok (.ret (.bool (xs.size == ys.size)))) _
    rw [this]; exact h
  | succ k ih =>
    intro i hk A R s hl hb he h
    obtain ⟨hp, g, d, tk, os⟩ := s
    have l1 : i < xs.size := by lia
    have l2 : i < ys.size := by lia
    have ni : xs[((i : Nat) : Int).toNat]? = some xs[i] := by simp [l1]
    have nj : ys[((i : Nat) : Int).toNat]? = some ys[i] := by simp [l2]
    have hd : (List.range xs.size).drop i = i :: (List.range xs.size).drop (i + 1) := by simp [List.drop_eq_getElem_cons, l1]
    rw [hd, List.all_cons] at h
    wp_walk using wpAny_loadPart' hl, wpAny_loadPart' hb
    rw [ni, nj]
    refine wpAny_bind (he i l1 l2 _ _ ?_)
    have up : ((i : Int) + 1) = ((i + 1 : Nat) : Int) := by push_cast; rfl
    cases q : e i with
    | true =>
      rw [q, Bool.true_and] at h
      wp_walk
      rw [up]
      exact ⟨plainId_quiet plain_eq_loop _, codeAny_builtin entry_eq_loop (by
        rw [Around.under_plainId plain_eq_loop _]
        exact ih (i + 1) (by lia) A R _ hl hb he h)⟩
    | false =>
      rw [q, Bool.false_and] at h
      wp_walk using wpAny_loadPart' hl, wpAny_loadPart' hb
      rw [ni, nj]
      wp_walk
      exact h
theorem RcP.lists {l b : Addr} {xs ys : Array Value} {n n2 : Nat} (sz : xs.size = ys.size) {e : Nat → Bool} (hl : s.heap.get? l = some (listOf xs n)) (hb : s.heap.get? b = some (listOf ys n2)) (hu : A.units < cLine)
    (he : ∀ j (h1 : j < xs.size) (h2 : j < ys.size), EqP W A.in1 s xs[j] ys[j] (e j)) : RcP W A s (.ref l) (.ref b) ((List.range xs.size).all e) := by
  intro E Q hq
  have ta : s.TypeIs (.ref l) "list" := ⟨_, hl, rfl⟩
  have tb : s.TypeIs (.ref b) "list" := ⟨_, hb, rfl⟩
  refine wpAny_richCompare_same_room ta tb PySem.F.slot_list_eq (wpAny_call (codeAny_call_builtin PySem.F.slot_list_eq.plain PySem.F.entry_list_eq (PySem.F.slot_list_eq.check _ _ _ _ _ _ _ _ ta (PySem.F.args_list_eq_2 _ _) ?_))) hu
  obtain ⟨hp, g, d, tk, os⟩ := s
  have f3 := AutoSeq1.sub_list_list
  have ne : ¬ (xs.size != ys.size) = true := by simp [sz]
  wp_walk using wpAny_loadPart' hl, wpAny_loadPart' hb
  exact ⟨plainId_quiet plain_eq_loop _, codeAny_builtin entry_eq_loop (by
    rw [Around.under_plainId plain_eq_loop _]
    exact listLoop (W := W) sz (e := e) _ 0 rfl A (wants (fun v s' => v ≠ .notImplemented ∧ Q v s') E) _ hl hb he ⟨fun x => (nomatch x), by simpa using hq⟩)⟩
theorem listLoopN {l b : Addr} {xs ys : Array Value} {n n2 : Nat} (sz : xs.size = ys.size) {e : Nat → Bool} : ∀ (k i : Nat), xs.size - i = k → ∀ (A : Around) (R : Result → Shared → Prop) (s : Shared),
    s.heap.get? l = some (listOf xs n) → s.heap.get? b = some (listOf ys n2) → (∀ j (h1 : j < xs.size) (h2 : j < ys.size), EqP W A.in1 s xs[j] ys[j] (e j)) → R (.ok (.ret (.bool (!((List.range xs.size).drop i).all e)))) s →
    wpAny (model W.prog W.w) A.in1 (Builtin.«list.__eq__.loop» ⟨[.ref l, .ref b, rawInt i, rawInt 3], []⟩)
      (fun fin s' => match fin with | .done f => R (.ok f) s' | .again c' => c'.quiet = true ∧ codeAny (model W.prog W.w) A c' R s') (fun e s' => R (.error e) s') s := by
  intro k
  induction k with
  | zero =>
    intro i hk A R s hl hb he h
    obtain ⟨hp, g, d, tk, os⟩ := s
    have ni : xs[((i : Nat) : Int).toNat]? = none := by simp; lia
    have nj : ys[((i : Nat) : Int).toNat]? = none := by simp; lia
    have hd : (List.range xs.size).drop i = [] := by simp; lia
    rw [hd] at h
    wp_walk using wpAny_loadPart' hl, wpAny_loadPart' hb
    rw [ni, nj]
    wp_walk using wpAny_loadPart' hl, wpAny_loadPart' hb
    have : (xs.size == ys.size) = true := by rw [sz]; exact beq_self_eq_true _
    have nb : (xs.size != ys.size) = false := by rw [bne, this]; rfl
    show R (.ok (.ret (.bool (xs.size != ys.size)))) _
    rw [nb]; exact h
  | succ k ih =>
    intro i hk A R s hl hb he h
    obtain ⟨hp, g, d, tk, os⟩ := s
    have l1 : i < xs.size := by lia
    have l2 : i < ys.size := by lia
    have ni : xs[((i : Nat) : Int).toNat]? = some xs[i] := by simp [l1]
    have nj : ys[((i : Nat) : Int).toNat]? = some ys[i] := by simp [l2]
    have hd : (List.range xs.size).drop i = i :: (List.range xs.size).drop (i + 1) := by simp [List.drop_eq_getElem_cons, l1]
    rw [hd, List.all_cons] at h
    wp_walk using wpAny_loadPart' hl, wpAny_loadPart' hb
    rw [ni, nj]
    refine wpAny_bind (he i l1 l2 _ _ ?_)
    have up : ((i : Int) + 1) = ((i + 1 : Nat) : Int) := by push_cast; rfl
    cases q : e i with
    | true =>
      rw [q, Bool.true_and] at h
      wp_walk
      rw [up]
      exact ⟨plainId_quiet plain_eq_loop _, codeAny_builtin entry_eq_loop (by
        rw [Around.under_plainId plain_eq_loop _]
        exact ih (i + 1) (by lia) A R _ hl hb he h)⟩
    | false =>
      rw [q, Bool.false_and] at h
      wp_walk using wpAny_loadPart' hl, wpAny_loadPart' hb
      rw [ni, nj]
      wp_walk
      exact h
theorem RnP.lists {l b : Addr} {xs ys : Array Value} {n n2 : Nat} (sz : xs.size = ys.size) {e : Nat → Bool} (hl : s.heap.get? l = some (listOf xs n)) (hb : s.heap.get? b = some (listOf ys n2)) (hu : A.units < cLine)
    (he : ∀ j (h1 : j < xs.size) (h2 : j < ys.size), EqP W A.in1 s xs[j] ys[j] (e j)) : RnP W A s (.ref l) (.ref b) (!(List.range xs.size).all e) := by
  intro E Q hq
  have ta : s.TypeIs (.ref l) "list" := ⟨_, hl, rfl⟩
  have tb : s.TypeIs (.ref b) "list" := ⟨_, hb, rfl⟩
  refine wpAny_richCompare_same_room ta tb PySem.F.slot_list_ne (wpAny_call (codeAny_call_builtin PySem.F.slot_list_ne.plain PySem.F.entry_list_ne (PySem.F.slot_list_ne.check _ _ _ _ _ _ _ _ ta (PySem.F.args_list_ne_2 _ _) ?_))) hu
  obtain ⟨hp, g, d, tk, os⟩ := s
  have f3 := AutoSeq1.sub_list_list
  have ne : ¬ (xs.size != ys.size) = true := by simp [sz]
  wp_walk using wpAny_loadPart' hl, wpAny_loadPart' hb
  exact ⟨plainId_quiet plain_eq_loop _, codeAny_builtin entry_eq_loop (by
    rw [Around.under_plainId plain_eq_loop _]
    exact listLoopN (W := W) sz (e := e) _ 0 rfl A (wants (fun v s' => v ≠ .notImplemented ∧ Q v s') E) _ hl hb he ⟨fun x => (nomatch x), by simpa using hq⟩)⟩
theorem RcP.tuples {l b : Addr} {xs ys : Array Value} {n n2 : Nat} (sz : xs.size = ys.size) {e : Nat → Bool} (hl : s.heap.get? l = some { cls := .type "tuple", data := .seq xs n }) (hb : s.heap.get? b = some { cls := .type "tuple", data := .seq ys n2 }) (hu : A.units < cLine)
    (he : ∀ j (h1 : j < xs.size) (h2 : j < ys.size), EqP W A.in1 s xs[j] ys[j] (e j)) : RcP W A s (.ref l) (.ref b) ((List.range xs.size).all e) := by
  intro E Q hq
  have ta : s.TypeIs (.ref l) "tuple" := ⟨_, hl, rfl⟩
  have tb : s.TypeIs (.ref b) "tuple" := ⟨_, hb, rfl⟩
  refine wpAny_richCompare_same_room ta tb PySem.F.slot_tuple_eq (wpAny_call (codeAny_call_builtin PySem.F.slot_tuple_eq.plain PySem.F.entry_tuple_eq (PySem.F.slot_tuple_eq.check _ _ _ _ _ _ _ _ ta (PySem.F.args_tuple_eq_2 _ _) ?_))) hu
  obtain ⟨hp, g, d, tk, os⟩ := s
  have f2 := AutoSeq1.sub_tuple_tuple
  have hZ : (xs.toList.zip ys.toList).length = xs.size := by simp [sz]
  wp_walk using wpAny_loadPart' hl, wpAny_loadPart' hb, wpAny_forIn_list _ (fun rest b s' => b.1 = none ∧ s' = ⟨hp, g, d, tk, os⟩ ∧ ∃ i, rest = (xs.toList.zip ys.toList).drop i ∧
      Q (.bool (((List.range xs.size).drop i).all e)) ⟨hp, g, d, tk, os⟩) _
  case turn =>
    rintro ⟨y, x⟩ rest b' s' ⟨hb', rfl, i, hz, hR⟩
    have hlt : i < (xs.toList.zip ys.toList).length := by
      rcases Nat.lt_or_ge i (xs.toList.zip ys.toList).length with h' | h'
      · exact h'
      · rw [List.drop_of_length_le h'] at hz; cases hz
    have h1 : i < xs.size := hZ ▸ hlt
    have h2 : i < ys.size := sz ▸ h1
    rw [List.drop_eq_getElem_cons hlt] at hz
    injection hz with hyx hrest
    obtain ⟨rfl, rfl⟩ : y = xs[i] ∧ x = ys[i] := by simpa [Prod.ext_iff] using hyx
    have hd : (List.range xs.size).drop i = i :: (List.range xs.size).drop (i + 1) := by simp [List.drop_eq_getElem_cons, h1]
    rw [hd, List.all_cons] at hR
    refine wpAny_bind (he i h1 h2 _ _ ?_)
    cases q : e i with
    | true =>
      rw [q] at hR
      wp_walk
      exact ⟨rfl, rfl, i + 1, hrest, by simpa using hR⟩
    | false =>
      rw [q] at hR
      wp_walk
      simpa using hR
  case fin =>
    rintro ⟨b1, b2⟩ s' ⟨hb', rfl, i, hz, hR⟩
    simp only at hb'
    subst hb'
    have hge : xs.size ≤ i := by
      rcases Nat.lt_or_ge i (xs.toList.zip ys.toList).length with h' | h'
      · rw [List.drop_eq_getElem_cons h'] at hz; cases hz
      · exact hZ ▸ h'
    rw [List.drop_of_length_le (by simpa using hge)] at hR
    wp_walk
    simpa [Builtin.Tuple.tupleCompareSizes, sz, bne] using hR
  case h =>
    exact ⟨rfl, rfl, 0, rfl, by simpa using hq⟩
theorem RnP.tuples {l b : Addr} {xs ys : Array Value} {n n2 : Nat} (sz : xs.size = ys.size) {e : Nat → Bool} (hl : s.heap.get? l = some { cls := .type "tuple", data := .seq xs n }) (hb : s.heap.get? b = some { cls := .type "tuple", data := .seq ys n2 }) (hu : A.units < cLine)
    (he : ∀ j (h1 : j < xs.size) (h2 : j < ys.size), EqP W A.in1 s xs[j] ys[j] (e j)) : RnP W A s (.ref l) (.ref b) (!(List.range xs.size).all e) := by
  intro E Q hq
  have ta : s.TypeIs (.ref l) "tuple" := ⟨_, hl, rfl⟩
  have tb : s.TypeIs (.ref b) "tuple" := ⟨_, hb, rfl⟩
  refine wpAny_richCompare_same_room ta tb PySem.F.slot_tuple_ne (wpAny_call (codeAny_call_builtin PySem.F.slot_tuple_ne.plain PySem.F.entry_tuple_ne (PySem.F.slot_tuple_ne.check _ _ _ _ _ _ _ _ ta (PySem.F.args_tuple_ne_2 _ _) ?_))) hu
  obtain ⟨hp, g, d, tk, os⟩ := s
  have f2 := AutoSeq1.sub_tuple_tuple
  have hZ : (xs.toList.zip ys.toList).length = xs.size := by simp [sz]
  wp_walk using wpAny_loadPart' hl, wpAny_loadPart' hb, wpAny_forIn_list _ (fun rest b s' => b.1 = none ∧ s' = ⟨hp, g, d, tk, os⟩ ∧ ∃ i, rest = (xs.toList.zip ys.toList).drop i ∧
      Q (.bool (!((List.range xs.size).drop i).all e)) ⟨hp, g, d, tk, os⟩) _
  case turn =>
    rintro ⟨y, x⟩ rest b' s' ⟨hb', rfl, i, hz, hR⟩
    have hlt : i < (xs.toList.zip ys.toList).length := by
      rcases Nat.lt_or_ge i (xs.toList.zip ys.toList).length with h' | h'
      · exact h'
      · rw [List.drop_of_length_le h'] at hz; cases hz
    have h1 : i < xs.size := hZ ▸ hlt
    have h2 : i < ys.size := sz ▸ h1
    rw [List.drop_eq_getElem_cons hlt] at hz
    injection hz with hyx hrest
    obtain ⟨rfl, rfl⟩ : y = xs[i] ∧ x = ys[i] := by simpa [Prod.ext_iff] using hyx
    have hd : (List.range xs.size).drop i = i :: (List.range xs.size).drop (i + 1) := by simp [List.drop_eq_getElem_cons, h1]
    rw [hd, List.all_cons] at hR
    refine wpAny_bind (he i h1 h2 _ _ ?_)
    cases q : e i with
    | true =>
      rw [q] at hR
      wp_walk
      exact ⟨rfl, rfl, i + 1, hrest, by simpa using hR⟩
    | false =>
      rw [q] at hR
      wp_walk
      simpa using hR
  case fin =>
    rintro ⟨b1, b2⟩ s' ⟨hb', rfl, i, hz, hR⟩
    simp only at hb'
    subst hb'
    have hge : xs.size ≤ i := by
      rcases Nat.lt_or_ge i (xs.toList.zip ys.toList).length with h' | h'
      · rw [List.drop_eq_getElem_cons h'] at hz; cases hz
      · exact hZ ▸ h'
    rw [List.drop_of_length_le (by simpa using hge)] at hR
    wp_walk
    simpa [Builtin.Tuple.tupleCompareSizes, sz, bne] using hR
  case h =>
    exact ⟨rfl, rfl, 0, rfl, by simpa using hq⟩
end
end PL
end
section
namespace PL
section
variable {W : Wd} {A : Around} {s : Shared}
inductive Hits (W : Wd) (A : Around) (s : Shared) (kb : List (Str × Value)) : List (Str × Value) → Bool → Prop
  | nil : Hits W A s kb [] true
  | miss {k v r} : valueAt kb k = none → Hits W A s kb ((k, v) :: r) false
  | hit {k v y r e b} : valueAt kb k = some y → EqP W A s v y e → Hits W A s kb r b → Hits W A s kb ((k, v) :: r) (e && b)
inductive Hit1 (W : Wd) (A : Around) (s : Shared) (kb : List (Str × Value)) (k : Str) (v : Value) (r : List (Str × Value)) : Bool → Prop
  | miss : valueAt kb k = none → Hit1 W A s kb k v r false
  | hit {y e b} : valueAt kb k = some y → EqP W A s v y e → Hits W A s kb r b → Hit1 W A s kb k v r (e && b)
theorem Hits.inv {kb l : List (Str × Value)} {k : Str} {v : Value} {r : List (Str × Value)} {b : Bool} (H : Hits W A s kb l b) (h : l = (k, v) :: r) : Hit1 W A s kb k v r b := by
  cases H with
  | nil => cases h
  | miss h1 => cases h; exact .miss h1
  | hit h1 h2 h3 => cases h; exact .hit h1 h2 h3
structure SpI (W : Wd) (A : Around) (s : Shared) (kb ka : List (Str × Value)) (n : Nat) (r : Bool) (rest : List Nat) (i : Nat) : Prop where
  hr : rest = List.range' i (n - i)
  hi : i ≤ n
  H : Hits W A s kb (ka.drop i) r
theorem range_at {x i n : Nat} {rest : List Nat} (h : x :: rest = List.range' i (n - i)) : i < n ∧ x = i ∧ rest = List.range' (i + 1) (n - (i + 1)) := by
  rcases Nat.lt_or_ge i n with y | y
  · rw [show n - i = (n - (i + 1)) + 1 by lia, List.range'_succ] at h
    exact ⟨y, (List.cons.inj h).1, (List.cons.inj h).2⟩
  · rw [Nat.sub_eq_zero_of_le y] at h; exact nomatch h
structure EnAt (W : Wd) (es : Array DictEntry) (ka : List (Str × Value)) (x : Nat) (e : DictEntry) (k : Str) (v : Value) : Prop where
  get : es[x]? = some e
  dr : ka.drop x = (k, v) :: ka.drop (x + 1)
  isk : (strKind W.prog W.w).is k e.key = true
  val : e.val = v
  hash : e.hash = (strKind W.prog W.w).hash k
theorem enAt {es : Array DictEntry} {ka : List (Str × Value)} (pairsA : Pairs (strKind W.prog W.w) es.toList ka) (keysA : KeysOf (strKind W.prog W.w) es) {x : Nat} (lt : x < es.size) : ∃ e k v, EnAt W es ka x e k v := by
  have ltk : x < ka.length := by rw [← pairsA.length]; exact lt
  have h1 := pairsA.get? (i := x) (e := es[x]) (k := ka[x].1) (v := ka[x].2) (by rw [Array.getElem?_toList]; exact Array.getElem?_eq_getElem lt) (List.getElem?_eq_getElem ltk)
  obtain ⟨k', hk', hh⟩ := keysA es[x] (Array.getElem_mem lt)
  exact ⟨es[x], ka[x].1, ka[x].2, Array.getElem?_eq_getElem lt, List.drop_eq_getElem_cons ltk, h1.1, h1.2, (strKind W.prog W.w).inj _ _ _ hk' h1.1 ▸ hh⟩
theorem findAt {fs : Array DictEntry} {kb : List (Str × Value)} (pairsB : Pairs (strKind W.prog W.w) fs.toList kb) (k : Str) : match fs.findIdx? fun e => (strKind W.prog W.w).is k e.key with
    | none => valueAt kb k = none
    | some j => ∃ f, fs[j]? = some f ∧ valueAt kb k = some f.val := by
  have find : findBy (strKind W.prog W.w).is fs k = valueAt kb k := by
    rw [← pairsB.find k]
    obtain ⟨l⟩ := fs
    simp [findBy]
  split
  · rename_i hj; rw [← find, findBy_of_findIdx?, hj]
  · rename_i j hj
    obtain ⟨jlt, _, _⟩ := Array.findIdx?_eq_some_iff_getElem.mp hj
    exact ⟨fs[j], Array.getElem?_eq_getElem jlt, by rw [← find, findBy_of_findIdx?, hj]; simp [Array.getElem?_eq_getElem jlt]⟩
theorem samePairsP {nm : String} {a b : Addr} {ka kb : List (Str × Value)} {r : Bool} {E : Value → Shared → Prop} {Q : Bool → Shared → Prop} (na : (a == sysModules) = false) (nb : (b == sysModules) = false)
    (da : s.heap.DictOf (strKind W.prog W.w) a ka) (db : s.heap.DictOf (strKind W.prog W.w) b kb) (len : ka.length = kb.length) (hits : Hits W A s kb ka r) (h : Q r s) :
    wpAny (model W.prog W.w) A (Builtin.Dict.samePairs nm a b) Q E s := by
  obtain ⟨oa, es, ep, oat, _, dat, keysA, pairsA, _⟩ := da
  obtain ⟨ob, fs, ep', obt, _, dbt, keysB, pairsB, _⟩ := db
  have szA : ka.length = es.size := pairsA.length.symm
  have sz : es.size = fs.size := szA.symm.trans (len.trans pairsB.length.symm)
  unfold Builtin.Dict.samePairs Builtin.Dict.showsAll
  rw [if_neg (by rw [na]; exact Bool.false_ne_true), if_neg (by rw [nb]; exact Bool.false_ne_true)]
  refine wpAny_bind (wpAny_pure (wpAny_bind (wpAny_pure (wpAny_bind (wpAny_dictEntries oat dat (wpAny_bind (wpAny_dictEntries obt dbt ?_)))))))
  rw [if_neg (by rw [sz]; simp)]
  refine wpAny_bind (wpAny_dictEpoch oat dat (wpAny_bind ?_))
  rw [Std.Legacy.Range.forIn_eq_forIn_range']
  refine wpAny_forIn_list _ (fun rest q s' => s' = s ∧ q = (none, ()) ∧ ∃ i, SpI W A s kb ka es.size r rest i) _ (fun x rest q s' I => ?_) (fun q s' I => ?_) _ _
    ⟨rfl, rfl, 0, .mk (by simp [Std.Legacy.Range.size]) (Nat.zero_le _) hits⟩
  · obtain ⟨rfl, rfl, i, hr, hi, H⟩ := I
    obtain ⟨lt, rfl, hrest⟩ := range_at hr
    obtain ⟨e, k, v, F⟩ := enAt pairsA keysA lt
    refine wpAny_bind (wpAny_dictEntries oat dat ?_)
    rw [F.get]
    show wpAny _ _ (holding [e.key, e.val] _ >>= _) _ _ _
    rw [F.hash]
    refine wpAny_bind (wpAny_holding (wpAny_bind (wpAny_dictFind_of F.isk obt dbt keysB ?_)))
    have fa := findAt (W := W) pairsB k
    cases hj : fs.findIdx? fun e => (strKind W.prog W.w).is k e.key with
    | none =>
      rw [hj] at fa
      cases H.inv F.dr with
      | miss _ => exact wpAny_pure (wpAny_pure (wpAny_pure h))
      | hit hy _ _ => exact nomatch fa.symm.trans hy
    | some j =>
      rw [hj] at fa
      obtain ⟨f, hf, vv⟩ := fa
      refine wpAny_bind (wpAny_dictEntries obt dbt ?_)
      rw [hf]
      cases H.inv F.dr with
      | miss hn => exact nomatch vv.symm.trans hn
      | @hit y e' b' hy he hrr =>
        obtain rfl := Option.some.inj (vv.symm.trans hy)
        rw [← F.val] at he
        refine wpAny_holding (he _ _ ?_)
        cases e' with
        | false =>
          rw [Bool.false_and] at h
          exact wpAny_pure (wpAny_pure h)
        | true =>
          refine wpAny_bind (wpAny_dictEpoch oat dat ?_)
          rw [if_neg (by simp)]
          rw [Bool.true_and] at h ⊢
          exact wpAny_pure ⟨rfl, rfl, x + 1, .mk hrest lt hrr⟩
  · obtain ⟨rfl, rfl, i, hr, hi, H⟩ := I
    have hin : i = es.size := by
      rcases Nat.lt_or_ge i es.size with y | y
      · rw [show es.size - i = (es.size - (i + 1)) + 1 by lia, List.range'_succ] at hr; exact nomatch hr
      · exact Nat.le_antisymm hi y
    rw [hin, ← szA, List.drop_length] at H
    refine wpAny_pure ?_
    cases H
    exact h
theorem sameLens {nm : String} {a b : Addr} {ka kb : List (Str × Value)} {E : Value → Shared → Prop} {Q : Bool → Shared → Prop} (na : (a == sysModules) = false) (nb : (b == sysModules) = false)
    (da : s.heap.DictOf (strKind W.prog W.w) a ka) (db : s.heap.DictOf (strKind W.prog W.w) b kb) (len : ¬ ka.length = kb.length) (h : Q false s) :
    wpAny (model W.prog W.w) A (Builtin.Dict.samePairs nm a b) Q E s :=
  keq_samePairs (r := true) na nb da db (fun q => absurd q len) (by rw [show (ka.length == kb.length) = false from by simpa using len]; exact h)
theorem RcP.dicts {a b : Addr} {ka kb : List (Str × Value)} {r : Bool} (na : (a == sysModules) = false) (nb : (b == sysModules) = false) (hu : A.units < cLine)
    (da : s.heap.DictOf (strKind W.prog W.w) a ka) (db : s.heap.DictOf (strKind W.prog W.w) b kb)
    (same : ∀ (E : Value → Shared → Prop) (Q : Bool → Shared → Prop) nm, Q r s → wpAny (model W.prog W.w) A.in1 (Builtin.Dict.samePairs nm a b) Q E s) : RcP W A s (.ref a) (.ref b) r := by
  intro E Q h
  refine wpAny_richCompare_same_room (op := .Eq) da.typeIs db.typeIs PySem.F.slot_dict_eq (wpAny_call_entry PySem.F.slot_dict_eq da.typeIs PySem.F.entry_dict_eq ?_ (PySem.F.args_dict_eq_2 _ _)) hu
  show wpAny _ _ (Builtin.Dict.dictSlotArgs "__eq__" ⟨[.ref a, .ref b], []⟩ >>= _) _ _ s
  refine wpAny_bind ?_
  unfold Builtin.Dict.dictSlotArgs
  refine wpAny_bind (wpAny_notOrdered_dict da.typeIs ?_)
  show wpAny _ _ (pure (Value.ref a, Value.ref b)) _ _ s
  refine wpAny_pure (wpAny_bind (wpAny_isInstance (T := "dict") db.typeIs PySem.F.sub_dict_dict ?_))
  simp only [Bool.not_true, Bool.false_eq_true, if_false]
  refine wpAny_bind (wpAny_pure (wpAny_bind (wpAny_pure (wpAny_bind (same _ _ _ ?_)))))
  refine wpAny_pure ⟨_, rfl, (fun x => nomatch x), ?_⟩
  simpa using h
end
end PL
end
section
namespace PL
section
variable {hs : HS} {P : Value → Prop} {α β : Type} {v : V} {x : Value} {b : β}
theorem noE {G : Prop} (e : (none : Option β) = some b) : G := nomatch e
@[elab_as_elim] theorem sm1 {P : α → Prop} {a v : α} (e : some a = some v) (H : P v) : P a := by cases e; exact H
@[elab_as_elim] theorem sm1' {P : α → Prop} {a v : α} (e : some a = some v) (H : P a) : P v := by cases e; exact H
theorem bdE {G : Prop} {o : Option α} {f : α → Option β} (e : o.bind f = some b) (k : ∀ a, o = some a → f a = some b → G) : G := by
  cases o with
  | none => cases e
  | some a => exact k a rfl e
theorem bd2 {G : Prop} {γ : Type} {o : Option (α × γ)} {f : α × γ → Option β} (e : o.bind f = some b) (k : ∀ a c, o = some (a, c) → f (a, c) = some b → G) : G := bdE e fun p => k p.1 p.2
theorem bd3 {G : Prop} {γ δ : Type} {o : Option (α × γ × δ)} {f : α × γ × δ → Option β} (e : o.bind f = some b) (k : ∀ a c d, o = some (a, c, d) → f (a, c, d) = some b → G) : G := bdE e fun p => k p.1 p.2.1 p.2.2
@[elab_as_elim] theorem mpE {P : β → Prop} {o : Option α} {f : α → β} (e : o.map f = some b) (k : ∀ a, o = some a → P (f a)) : P b := by
  cases o with
  | none => cases e
  | some a => exact Option.some.inj e ▸ k a rfl
theorem mp0 {G : Prop} {o : Option α} {f : α → β} (e : o.map f = some b) (k : ∀ a, o = some a → some (f a) = some b → G) : G := by
  cases o with
  | none => cases e
  | some a => exact k a rfl e
theorem mp2 {G : Prop} {γ : Type} {o : Option (α × γ)} {f : α × γ → β} (e : o.map f = some b) (k : ∀ a c, o = some (a, c) → some (f (a, c)) = some b → G) : G := mp0 e fun p => k p.1 p.2
theorem mp3 {G : Prop} {γ δ : Type} {o : Option (α × γ × δ)} {f : α × γ × δ → β} (e : o.map f = some b) (k : ∀ a c d, o = some (a, c, d) → some (f (a, c, d)) = some b → G) : G := mp0 e fun p => k p.1 p.2.1 p.2.2
theorem gdE {G : Prop} {c : Prop} {i : Decidable c} {t : Option β} (e : (if c then t else none) = some b) (k : c → t = some b → G) : G := by
  by_cases h : c
  · rw [if_pos h] at e; exact k h e
  · rw [if_neg h] at e; cases e
theorem ifE {G : Prop} {c : Prop} {i : Decidable c} {t u : Option β} (e : (if c then t else u) = some b) (k : c → t = some b → G) (n : ¬ c → u = some b → G) : G := by
  by_cases h : c
  · rw [if_pos h] at e; exact k h e
  · rw [if_neg h] at e; exact n h e
@[elab_as_elim] theorem intE {f : Int → Option β} (r : VR hs v x) (e : intO v f = some b) (k : ∀ i t, f i = some b → P (.int i t)) : P x := by
  cases r with
  | int i t => exact k i t e
  | _ => exact noE e
@[elab_as_elim] theorem strE {f : List Nat → Option β} (r : VR hs v x) (e : strO v f = some b) (k : ∀ s t, s.length ≤ LIM → f s = some b → P (.str (toS s) t)) : P x := by
  cases r with
  | str s t h => exact k s t h e
  | _ => exact noE e
theorem oListE {G : Prop} {o : O} {f : List V → Option β} (e : oList o f = some b) (k : ∀ vs, o = .list vs → f vs = some b → G) : G := by
  cases o with
  | list vs => exact k vs rfl e
  | _ => exact noE e
theorem oDictE {G : Prop} {o : O} {f : List (List Nat × V) → Option β} (e : oDict o f = some b) (k : ∀ vs, o = .dict vs → f vs = some b → G) : G := by
  cases o with
  | dict vs => exact k vs rfl e
  | _ => exact noE e
theorem oInstE {G : Prop} {o : O} {f : Nat → List (Nat × V) → Option β} (e : oInst o f = some b) (k : ∀ c fs, o = .inst c fs → f c fs = some b → G) : G := by
  cases o with
  | inst c fs => exact k c fs rfl e
  | _ => exact noE e
end
noncomputable def RO (W : Wd) (h : Heap) (hs : HS) (A : Addr) : O → Prop
  | .list vs => ∃ its n, h.get? A = some (listOf (List.toArray its) n) ∧ All2 (VR hs) vs its ∧ vs.length ≤ LIM + LIM
  | .tuple vs => ∃ its n, h.get? A = some { cls := .type "tuple", data := .seq (List.toArray its) n } ∧ All2 (VR hs) vs its ∧ vs.length ≤ LIM + LIM
  | .dict kvs => ∃ ks o, h.get? A = some o ∧ o.IsDictOf (strKind W.prog W.w) ks ∧ All2 (KV hs) kvs ks ∧ kvs.length ≤ LIM ∧ (A == sysModules) = false
  | .inst C fs => ∃ es D n, h.get? A = some (instObj C D) ∧ h.get? D = some (dictOf es n) ∧ All2 (AV W.tb hs) fs es ∧ (fs.map (·.1)).Nodup ∧ fs.length ≤ 900
  | .meth f self => ∃ x, h.get? A = some (methodObj (.ref f) x) ∧ VR hs self x
  | .rng a b s => ∃ t u v, h.get? A = some { cls := .type "range", dict := none, data := .fields #[.int a t, .int b u, .int s v], slots := #[] }
section
variable {W : Wd} {c : Fc} {m : Str → Option Value} {X : List (Addr × Obj)} {σ : St} {ps : PZ} {h : Heap} {P : Value → Prop} {β : Type} {v : V} {x : Value} {b : β}
theorem ORel.ro {hs : HS} {o : O} {part : Part} (r : ORel W.prog W.w W.tb hs o part) (k : ∀ q ∈ part, h.get? q.1 = some q.2) : RO W h hs (hd1 part) o := by
  cases r with
  | list h1 h2 => exact ⟨_, _, k _ (.head _), h1, h2⟩
  | tuple h1 h2 => exact ⟨_, _, k _ (.head _), h1, h2⟩
  | dict h1 h2 h3 h4 => exact ⟨_, _, k _ (.head _), h1, h2, h3, h4⟩
  | inst h1 h2 h3 => exact ⟨_, _, _, k _ (.head _), k _ (.tail _ (.head _)), h1, h2, h3⟩
  | meth h1 => exact ⟨_, k _ (.head _), h1⟩
  | rng => exact ⟨_, _, _, k _ (.head _)⟩
structure SoOk (W : Wd) (so : Nat → Option O) : Prop where
  at_ : ∀ a o, so a = some o → ∃ part : Part, hd1 part = a ∧ (∀ q ∈ part, W.K.lookup q.1 = some q.2) ∧ ORel W.prog W.w W.tb .nil o part
theorem SoOk.ro {so : Nat → Option O} (ok : SoOk W so) (K : W.K.In h) {hs : HS} {a : Nat} {o : O} (e : so a = some o) : RO W h hs a o := by
  obtain ⟨part, h1, hl, hr⟩ := ok.at_ a o e
  subst h1
  exact (hr.mono .nil).ro fun q hq => K _ _ (hl _ hq)
theorem SR.ro (S : SR W c m X σ ps h) {a : Nat} {o : O} (e : σ[a]? = some o) {part : Part} (hp : ps.p[a]? = some part) (hr : ORel W.prog W.w W.tb (hds ps) o part) : RO W h (hds ps) (hd1 part) o := hr.ro fun q hq => S.at hp hq
@[elab_as_elim] theorem ownE (S : SR W c m X σ ps h) {a : Nat} {o : O} (r : VR (hds ps) (.ref a) x) (e : σ[a]? = some o) (k : ∀ part, ps.p[a]? = some part → ORel W.prog W.w W.tb (hds ps) o part → P (.ref (hd1 part))) : P x := by
  obtain ⟨part, hp, rfl, hr⟩ := S.own r e
  exact k part hp hr
@[elab_as_elim] theorem cellE (S : SR W c m X σ ps h) {f : Nat → O → Option β} (r : VR (hds ps) v x) (e : cellO σ v f = some b) (k : ∀ a o part, v = .ref a → σ[a]? = some o → ps.p[a]? = some part → ORel W.prog W.w W.tb (hds ps) o part → f a o = some b → P (.ref (hd1 part))) : P x := by
  cases r with
  | ref hA => exact bdE e fun o ho e => ownE S (.ref hA) ho fun part hp hr => k _ o part rfl ho hp hr e
  | _ => exact noE e
@[elab_as_elim] theorem cellLE (S : SR W c m X σ ps h) {f : Nat → List V → Option β} (r : VR (hds ps) v x) (e : cellO σ v (fun a o => oList o (f a)) = some b) (k : ∀ a A its n vs, v = .ref a → σ[a]? = some (.list vs) → ps.p[a]? = some [(A, listOf (List.toArray its) n)] → h.get? A = some (listOf (List.toArray its) n) → All2 (VR (hds ps)) vs its → vs.length ≤ LIM + LIM → f a vs = some b → P (.ref A)) : P x :=
  cellE S r e fun a o part hv ho hp hr e => oListE e fun vs q e => by
    subst q
    cases hr with
    | list h1 h2 => exact k _ _ _ _ _ hv ho hp (S.at hp (.head _)) h1 h2 e
@[elab_as_elim] theorem cellDE (S : SR W c m X σ ps h) {f : Nat → List (List Nat × V) → Option β} (r : VR (hds ps) v x) (e : cellO σ v (fun a o => oDict o (f a)) = some b) (k : ∀ a A ob ks vs, v = .ref a → σ[a]? = some (.dict vs) → ps.p[a]? = some [(A, ob)] → h.get? A = some ob → ob.IsDictOf (strKind W.prog W.w) ks → All2 (KV (hds ps)) vs ks → vs.length ≤ LIM → (A == sysModules) = false → f a vs = some b → P (.ref A)) : P x :=
  cellE S r e fun a o part hv ho hp hr e => oDictE e fun vs q e => by
    subst q
    cases hr with
    | dict h1 h2 h3 h4 => exact k _ _ _ _ _ hv ho hp (S.at hp (.head _)) h1 h2 h3 h4 e
@[elab_as_elim] theorem cellIE (S : SR W c m X σ ps h) {f : Nat → Nat → List (Nat × V) → Option β} (r : VR (hds ps) v x) (e : cellO σ v (fun a o => oInst o (f a)) = some b) (k : ∀ a A D es n C fs, v = .ref a → σ[a]? = some (.inst C fs) → ps.p[a]? = some [(A, instObj C D), (D, dictOf es n)] → h.get? A = some (instObj C D) → h.get? D = some (dictOf es n) → All2 (AV W.tb (hds ps)) fs es → (fs.map (·.1)).Nodup → fs.length ≤ 900 → f a C fs = some b → P (.ref A)) : P x :=
  cellE S r e fun a o part hv ho hp hr e => oInstE e fun C fs q e => by
    subst q
    cases hr with
    | inst h1 h2 h3 => exact k _ _ _ _ _ _ _ hv ho hp (S.at hp (.head _)) (S.at hp (.tail _ (.head _))) h1 h2 h3 e
theorem SR.froz (S : SR W c m X σ ps h) {o : O} {A : Addr} (e : ps.z o A) : RO W h (hds ps) A o := by
  obtain ⟨part, rfl, hq, hr⟩ := S.fz o A e
  have le : HS.Le ⟨[], ps.z⟩ (hds ps) := ⟨⟨_, rfl⟩, fun qq1 qq2 h => h⟩
  exact (hr.mono le).ro fun q hp => (S.N q (List.mem_append_left _ (List.mem_append_right _ (hq q hp)))).1
@[elab_as_elim] theorem obfE (S : SR W c m X σ ps h) {f : O → Option β} (r : VR (hds ps) v x) (e : (obF σ v).bind f = some b) (k : ∀ o A, obF σ v = some o → RO W h (hds ps) A o → f o = some b → P (.ref A)) : P x := by
  cases r with
  | ref hA => exact bdE e fun o ho e => ownE S (.ref hA) ho fun part hp hr => k o _ ho (S.ro ho hp hr) e
  | frz hz => exact k _ _ rfl (S.froz hz) e
  | _ => exact noE e
@[elab_as_elim] theorem obfLE (S : SR W c m X σ ps h) {f : List V → Option β} (r : VR (hds ps) v x) (e : (obF σ v).bind (fun o => oList o f) = some b) (k : ∀ A its n vs, h.get? A = some (listOf (List.toArray its) n) → All2 (VR (hds ps)) vs its → f vs = some b → P (.ref A)) : P x :=
  obfE S r e fun o A ho ro e => oListE e fun vs q e => by
    subst q
    obtain ⟨its, n, hA, i1, _⟩ := ro
    exact k A its n vs hA i1 e
@[elab_as_elim] theorem objE {cx : Cx} (ok : SoOk W cx.so) (S : SR W c m X σ ps h) (K : W.K.In h) {f : O → Option β} (r : VR (hds ps) v x) (e : (objOf cx σ v).bind f = some b) (k : ∀ o A, objOf cx σ v = some o → RO W h (hds ps) A o → f o = some b → P (.ref A)) : P x := by
  cases r with
  | ref hA => exact bdE e fun o ho e => ownE S (.ref hA) ho fun part hp hr => k o _ ho (S.ro ho hp hr) e
  | sref a => exact bdE e fun o ho e => k o _ ho (ok.ro K ho) e
  | frz hz => exact k _ _ rfl (S.froz hz) e
  | _ => exact noE e
theorem obj_ro {cx : Cx} (ok : SoOk W cx.so) (S : SR W c m X σ ps h) (K : W.K.In h) (r : VR (hds ps) v x) {o : O} (e : objOf cx σ v = some o) : ∃ A, x = .ref A ∧ RO W h (hds ps) A o :=
  objE ok S K r (show (objOf cx σ v).bind some = some o by rw [e]; rfl) fun o' A qq1 ro q => ⟨A, rfl, Option.some.inj q ▸ ro⟩
@[elab_as_elim] theorem sobE {cx : Cx} (ok : SoOk W cx.so) (S : SR W c m X σ ps h) (K : W.K.In h) {g : List Nat → Option β} {f : O → Option β} (r : VR (hds ps) v x) (e : sob cx σ v g f = some b) (ks : ∀ s t, v = .str s → s.length ≤ LIM → g s = some b → P (.str (toS s) t)) (k : ∀ o A, objOf cx σ v = some o → RO W h (hds ps) A o → f o = some b → P (.ref A)) : P x := by
  cases r with
  | str s t hl => exact ks s t rfl hl e
  | ref hA => exact objE ok S K (.ref hA) e k
  | sref a => exact objE ok S K (.sref a) e k
  | frz hz => exact objE ok S K (.frz hz) e k
  | _ => exact noE e
end
end PL
end
section
namespace PL
open SeqAt
section
variable {W : Wd} {A : Around} {s : Shared}
theorem toS_beq (x y : List Nat) : (toS x == toS y) = (x == y) := by
  by_cases h : x = y
  · subst h; simp
  · have : ¬ toS x = toS y := fun q => h (by have := congrArg (fun z : Str => z.cps.toList) q; simpa [toS] using this)
    rw [beq_eq_false_iff_ne.mpr this, beq_eq_false_iff_ne.mpr h]
theorem toS_inj {x y : List Nat} (q : toS x = toS y) : x = y := by have := congrArg (fun z : Str => z.cps.toList) q; simpa [toS] using this
theorem toS_list (x : List Nat) : (toS x).cps.toList = x := by simp [toS]
theorem toS_len (x : List Nat) : (toS x).length = x.length := by simp [toS, Str.length]
theorem ofS_toS (x : List Nat) : ofS (toS x) = x := by simp [toS, ofS]
theorem toS_ofS (x : Str) : toS (ofS x) = x := by cases x; simp [toS, ofS]
theorem toS_app (x y : List Nat) : toS x ++ toS y = toS (x ++ y) := by
  have : (toS (ofS (toS x ++ toS y))) = toS (x ++ y) := by
    congr 1
    show (toS x ++ toS y).cps.toList = x ++ y
    rw [show (toS x ++ toS y).cps = (toS x).cps ++ (toS y).cps from Str.cps_append _ _]
    simp [toS]
  rw [toS_ofS] at this; exact this
theorem eqS_ok {hs : HS} {a b : V} {x y : Value} {r : Bool} (ra : VR hs a x) (rb : VR hs b y) (e : eqS a b = some r) : EqAt A s x y r ∧ RcAt A s x y r ∧ RcNeAt A s x y (!r) := by
  cases ra with
  | none => cases rb with
    | none => exact sm1' e ⟨EqAt.same _, RcAt.none_none, RcNeAt.none_none⟩
    | int => exact sm1' e ⟨EqAt.none_int _ _, RcAt.none_int _ _, RcNeAt.none_int _ _⟩
    | str => exact sm1' e ⟨EqAt.none_str _ _, RcAt.none_str _ _, RcNeAt.none_str _ _⟩
    | _ => exact noE e
  | bool => cases rb with
    | bool => exact sm1' e ⟨EqAt.bool_bool _ _, RcAt.bool_bool _ _, RcNeAt.bool_bool _ _⟩
    | _ => exact noE e
  | int => cases rb with
    | none => exact sm1' e ⟨EqAt.int_none _ _, RcAt.int_none _ _, RcNeAt.int_none _ _⟩
    | int => exact sm1' e ⟨EqAt.int_int _ _ _ _, RcAt.int_int _ _ _ _, RcNeAt.int_int _ _ _ _⟩
    | str => exact sm1' e ⟨EqAt.int_str _ _ _ _, RcAt.int_str _ _ _ _, RcNeAt.int_str _ _ _ _⟩
    | _ => exact noE e
  | str => cases rb with
    | none => exact sm1' e ⟨EqAt.str_none _ _, RcAt.str_none _ _, RcNeAt.str_none _ _⟩
    | int => exact sm1' e ⟨EqAt.str_int _ _ _ _, RcAt.str_int _ _ _ _, RcNeAt.str_int _ _ _ _⟩
    | str => exact sm1' e (toS_beq _ _ ▸ ⟨EqAt.str_str _ _ _ _, RcAt.str_str _ _ _ _, RcNeAt.str_str _ _ _ _⟩)
    | _ => exact noE e
  | _ => exact noE e
theorem eqL_spec {f : V → V → Option Bool} : ∀ {vs ws : List V} {r : Bool}, eqL f vs ws = some r → vs.length = ws.length ∧ ∃ bs : List Bool, bs.length = vs.length ∧ r = bs.all id ∧ ∀ (j : Nat) (v w : V), vs[j]? = some v → ws[j]? = some w → f v w = some (bs.getD j true)
  | [], [], r, e => by cases e; exact ⟨rfl, [], rfl, rfl, fun j v w h => by simp at h⟩
  | [], _ :: _, r, e => by cases e
  | _ :: _, [], r, e => by cases e
  | a :: l, b :: t, r, e => by
    simp only [eqL, Option.bind_eq_some_iff, Option.map_eq_some_iff] at e
    obtain ⟨x, hx, y, hy, rfl⟩ := e
    obtain ⟨h1, bs, h2, rfl, h3⟩ := eqL_spec hy
    refine ⟨by simp [h1], x :: bs, by simp [h2], by simp, fun j v w hv hw => ?_⟩
    cases j with
    | zero => simp at hv hw; subst hv hw; simpa using hx
    | succ j => simp at hv hw; simpa using h3 j v w hv hw
theorem all_getD : ∀ (bs : List Bool), (List.range bs.length).all (fun j => bs.getD j true) = bs.all id := by
  intro bs
  rw [Bool.eq_iff_iff]
  simp only [List.all_eq_true, List.mem_range, id]
  constructor
  · intro h b hb
    obtain ⟨j, hj, rfl⟩ := List.mem_iff_getElem.mp hb
    have := h j hj
    rwa [List.getD_eq_getElem?_getD, List.getElem?_eq_getElem hj] at this
  · intro h j hj
    rw [List.getD_eq_getElem?_getD, List.getElem?_eq_getElem hj]
    exact h _ (List.getElem_mem hj)
theorem items_eq {hs : HS} {f : V → V → Option Bool} {F : Value → Value → Bool → Prop} (hf : ∀ {v w : V} {x y : Value} {r : Bool}, VR hs v x → VR hs w y → f v w = some r → F x y r) {vs ws : List V} {its its' : List Value} (i1 : All2 (VR hs) vs its) (i2 : All2 (VR hs) ws its') {r : Bool} (e : eqL f vs ws = some r) :
    ∃ e : Nat → Bool, its.toArray.size = its'.toArray.size ∧ (∀ j (h1 : j < its.toArray.size) (h2 : j < its'.toArray.size), F its.toArray[j] its'.toArray[j] (e j)) ∧ (List.range its.toArray.size).all e = r := by
  obtain ⟨len, bs, hb1, hb2, hb3⟩ := eqL_spec e
  refine ⟨fun j => bs.getD j true, by simp [← i1.len, ← i2.len, len], fun j h1 h2 => ?_, by rw [hb2, ← all_getD bs, hb1, i1.len]; simp⟩
  have l1 : j < vs.length := by rw [i1.len]; simpa using h1
  have l2 : j < ws.length := by rw [i2.len]; simpa using h2
  obtain ⟨v', hv', rv⟩ := i1.get (List.getElem?_eq_getElem l1)
  obtain ⟨w', hw', rw_⟩ := i2.get (List.getElem?_eq_getElem l2)
  have z1 : its.toArray[j] = v' := by
    have := List.getElem?_eq_getElem (l := its) (by simpa using h1); rw [hv'] at this; simpa using (Option.some.inj this).symm
  have z2 : its'.toArray[j] = w' := by
    have := List.getElem?_eq_getElem (l := its') (by simpa using h2); rw [hw'] at this; simpa using (Option.some.inj this).symm
  rw [z1, z2]
  exact hf rv rw_ (hb3 j _ _ (List.getElem?_eq_getElem l1) (List.getElem?_eq_getElem l2))
theorem size_ne {hs : HS} {vs ws : List V} {its its' : List Value} (i1 : All2 (VR hs) vs its) (i2 : All2 (VR hs) ws its') (n : ¬ vs.length = ws.length) : (its.toArray.size != its'.toArray.size) = true := by simp [← i1.len, ← i2.len, n]
theorem eqS_same {hs : HS} {a b : V} {x : Value} {r : Bool} (ra : VR hs a x) (rb : VR hs b x) (e : eqS a b = some r) : r = true := by
  cases ra with
  | none => cases rb with
    | none => exact sm1' e rfl
    | _ => exact noE e
  | bool => cases rb with
    | bool => exact sm1' e (beq_self_eq_true _)
    | _ => exact noE e
  | int => cases rb with
    | int => exact sm1' e (beq_self_eq_true _)
    | _ => exact noE e
  | str s t h =>
    generalize hx : Value.str (toS s) t = x at rb
    cases rb with
    | str s' =>
      obtain rfl := toS_inj (Value.str.inj hx).1
      exact sm1' e (beq_self_eq_true _)
    | bad => exact noE e
    | _ => cases hx
  | _ => exact noE e
theorem eqL_same {hs : HS} {f : V → V → Option Bool} (hf : ∀ {a b x r}, VR hs a x → VR hs b x → f a b = some r → r = true) {vs : List V} {its : List Value} (i : All2 (VR hs) vs its) : ∀ {ws : List V} {r : Bool}, All2 (VR hs) ws its → eqL f vs ws = some r → r = true := by
  induction i with
  | nil => intro ws r j e; cases j; exact sm1' e rfl
  | cons h t ih =>
    intro ws r j e
    cases j with
    | cons h' t' =>
      refine bdE e fun x e1 e => mpE e fun y e2 => ?_
      rw [hf h h' e1, ih t' e2]; rfl
theorem valueAt_mem {K : Type} [DecidableEq K] {k : K} {x : Value} : ∀ {l : List (K × Value)}, (l.map (·.1)).Nodup → (k, x) ∈ l → PySem.valueAt l k = some x
  | [], _, h => nomatch h
  | (i, w) :: r, nd, h => by
    have nd := List.nodup_cons.mp nd
    unfold PySem.valueAt
    rcases List.mem_cons.mp h with h | h
    · cases h; simp
    · have : i ≠ k := fun q => nd.1 (q ▸ List.mem_map_of_mem (f := (·.1)) h)
      rw [List.find?_cons_of_neg (by simpa using this)]
      exact valueAt_mem nd.2 h
theorem All2.keys {hs : HS} {kvs : List (List Nat × V)} {ks : List (Str × Value)} (h : All2 (KV hs) kvs ks) : ks.map (·.1) = (kvs.map (·.1)).map toS := by
  induction h with
  | nil => rfl
  | cons h _ ih => simp [ih, h.1]
theorem valueAt_of {hs : HS} {kvs : List (List Nat × V)} {ks : List (Str × Value)} (h : All2 (KV hs) kvs ks) (k : List Nat) : match getS k kvs with
    | none => valueAt ks (toS k) = none
    | some v => ∃ x, valueAt ks (toS k) = some x ∧ VR hs v x := by
  induction h with
  | nil => rfl
  | @cons a b l mm h t ih =>
    obtain ⟨ka, va⟩ := a
    obtain ⟨kb, vb⟩ := b
    obtain ⟨h1, h2⟩ := h
    simp only at h1 h2
    subst h1
    by_cases q : ka = k
    · subst q
      simp only [getS, if_true]
      exact ⟨vb, by simp [PySem.valueAt], h2⟩
    · have q' : ¬ toS ka = toS k := fun z => q (toS_inj z)
      simp only [getS, if_neg q]
      have : PySem.valueAt ((toS ka, vb) :: mm) (toS k) = PySem.valueAt mm (toS k) := by simp [PySem.valueAt, List.find?_cons, q']
      rw [this]; exact ih
theorem eqK_same {hs : HS} {f : V → V → Option Bool} (hf : ∀ {a b x r}, VR hs a x → VR hs b x → f a b = some r → r = true) {ls : List (List Nat × V)} {kb : List (Str × Value)} (hb : All2 (KV hs) ls kb) (nd : (kb.map (·.1)).Nodup) {vs : List (List Nat × V)} {ka : List (Str × Value)} (i : All2 (KV hs) vs ka) : ∀ {r : Bool}, (∀ p ∈ ka, p ∈ kb) → eqK f ls vs = some r → r = true := by
  induction i with
  | nil => intro r _ e; exact sm1' e rfl
  | @cons a b l mm h t ih =>
    intro r sub e
    have z := valueAt_of hb a.1
    rw [← h.1, valueAt_mem nd (sub b (.head _))] at z
    unfold eqK at e
    cases q : getS a.1 ls with
    | none => rw [q] at z; cases z
    | some w =>
      rw [q] at z
      obtain ⟨x, hx, rx⟩ := z
      cases hx
      rw [q] at e
      refine bdE e fun x e1 e => mpE e fun y e2 => ?_
      rw [hf h.2 rx e1, ih (fun p hp => sub p (.tail _ hp)) e2]; rfl
theorem pairs_same {prog : Program} {w : World} {es : List DictEntry} {ka : List (Str × Value)} (p : Pairs (strKind prog w) es ka) : ∀ {kb}, Pairs (strKind prog w) es kb → ka = kb := by
  induction p with
  | nil => intro kb q; cases q; rfl
  | @cons e kv es kvs h1 h2 _ ih =>
    intro kb q
    cases q with
    | @cons _ kw _ kws g1 g2 q =>
      rw [ih q]
      obtain ⟨t1, k1⟩ := Value.isStrOf_shape h1
      obtain ⟨t2, k2⟩ := Value.isStrOf_shape g1
      have k := (Value.str.inj (k1.symm.trans k2)).1
      exact congrArg (· :: kws) (Prod.ext k (h2.symm.trans g2))
theorem dict_same {o : Obj} {ka kb : List (Str × Value)} (d : o.IsDictOf (strKind W.prog W.w) ka) (d' : o.IsDictOf (strKind W.prog W.w) kb) : ka = kb := by
  obtain ⟨es, ep, _, h1, _, h2, _⟩ := d
  obtain ⟨es', ep', _, g1, _, g2, _⟩ := d'
  cases h1.symm.trans g1
  exact pairs_same h2 g2
theorem eqO_same {hs : HS} {h : Heap} {A : Addr} {f : V → V → Option Bool} (hf : ∀ {a b x r}, VR hs a x → VR hs b x → f a b = some r → r = true) {o p : O} {r : Bool} (ro : RO W h hs A o) (rp : RO W h hs A p) (e : eqO f o p = some r) : r = true := by
  cases o with
  | list vs =>
    refine oListE e fun ws q e => ?_
    subst q
    obtain ⟨its, n, g1, i1, _⟩ := ro
    obtain ⟨its', n', g2, i2, _⟩ := rp
    obtain rfl : its = its' := by have q := congrArg (Option.map Obj.data) (g1.symm.trans g2); exact congrArg Array.toList (Data.seq.inj (Option.some.inj q)).1
    exact ifE e (fun qq1 e => eqL_same hf i1 i2 e) fun n qq1 => absurd (i1.len.trans i2.len.symm) n
  | tuple vs => cases p with
    | tuple ws =>
      obtain ⟨its, n, g1, i1, _⟩ := ro
      obtain ⟨its', n', g2, i2, _⟩ := rp
      cases g1.symm.trans g2
      exact gdE e fun qq1 e => eqL_same hf i1 i2 e
    | _ => exact noE e
  | dict vs =>
    refine oDictE e fun ws q e => ?_
    subst q
    obtain ⟨ks, ob, g1, d1, i1, _⟩ := ro
    obtain ⟨ks', ob', g2, d2, i2, _⟩ := rp
    cases g1.symm.trans g2
    cases dict_same d1 d2
    obtain ⟨_, _, _, _, _, _, nd⟩ := d1
    exact ifE e (fun qq1 e => eqK_same hf i2 nd i1 (fun p hp => hp) e) fun n qq1 => absurd (i1.len.trans i2.len.symm) n
  | _ => exact noE e
theorem eqV_same {c : Fc} {m : Str → Option Value} {X : List (Addr × Obj)} {σ : St} {ps : PZ} {h : Heap} (S : SR W c m X σ ps h) : ∀ (k : Nat) {a b : V} {x : Value} {r : Bool}, VR (hds ps) a x → VR (hds ps) b x → eqV σ k a b = some r → r = true
  | 0, _, _, _, _, _, _, e => noE e
  | k + 1, a, b, x, r, ra, rb, e => by
    have obj : (obF σ a).bind (fun o => (obF σ b).bind fun p => eqO (eqV σ k) o p) = some r → r = true := fun e => by
      revert rb
      refine obfE S ra e fun o A qq1 ro e rb => ?_
      generalize hx : Value.ref A = x at rb
      revert hx
      refine obfE S rb e fun p B qq1 rp e q => ?_
      cases q
      exact eqO_same (eqV_same S k) ro rp e
    cases a with
    | ref _ => exact obj e
    | frz _ => exact obj e
    | none => exact eqS_same ra rb e
    | bool b => exact eqS_same ra rb e
    | int b => exact eqS_same ra rb e
    | str b => exact eqS_same ra rb e
    | _ => exact noE e
end
end PL
end
section
namespace PL
open SeqAt
section
variable {W : Wd} {c : Fc} {m : Str → Option Value} {X : List (Addr × Obj)} {σ : St} {ps : PZ} {h : Heap}
theorem hits_of {hs : HS} {A : Around} {s : Shared} {f : V → V → Option Bool} {ls : List (List Nat × V)} {kb : List (Str × Value)} (hb : All2 (KV hs) ls kb)
    (ih : ∀ {a b : V} {x y : Value} {r : Bool}, VR hs a x → VR hs b y → f a b = some r → EqP W A s x y r) :
    ∀ {vs : List (List Nat × V)} {ka : List (Str × Value)} {r : Bool}, All2 (KV hs) vs ka → eqK f ls vs = some r → Hits W A s kb ka r := by
  intro vs ka r ha
  induction ha generalizing r with
  | nil => intro e; cases e; exact .nil
  | @cons a b l mm h t IH =>
    obtain ⟨k, v⟩ := a
    obtain ⟨k', v'⟩ := b
    obtain ⟨h1, h2⟩ := h
    simp only at h1 h2
    subst h1
    intro e
    have at_ := valueAt_of hb k
    simp only [eqK] at e
    cases q : getS k ls with
    | none => rw [q] at e at_; cases e; exact .miss at_
    | some w =>
      rw [q] at e at_
      obtain ⟨x, hx, rx⟩ := at_
      simp only [Option.bind_eq_some_iff, Option.map_eq_some_iff] at e
      obtain ⟨e1, he1, e2, he2, rfl⟩ := e
      exact .hit hx (ih h2 rx he1) (IH he2)
theorem eqV_ok (S : SR W c m X σ ps h) : ∀ (k : Nat) {a b : V} {x y : Value} {r : Bool} {A : Around} {s : Shared}, s.heap = h → VR (hds ps) a x → VR (hds ps) b y → eqV σ k a b = some r → A.units + k < cLine →
    EqP W A s x y r ∧ RcP W A s x y r := by
  intro k
  induction k with
  | zero => intro _ _ _ _ _ _ _ _ _ _ e _; exact noE e
  | succ k ih =>
    intro a b x y r A s hs ra rb e hu
    have hu1 : A.units < cLine := Nat.lt_of_le_of_lt (Nat.le_add_right _ _) hu
    have hu2 : A.in1.units + k < cLine := by show A.units + 1 + k < cLine; lia
    have plain : eqS a b = some r → EqP W A s x y r ∧ RcP W A s x y r := fun e => ⟨EqP.of (eqS_ok ra rb e).1, RcP.of (eqS_ok ra rb e).2.1⟩
    subst hs
    have obj : (obF σ a).bind (fun o => (obF σ b).bind fun p => eqO (eqV σ k) o p) = some r → EqP W A s x y r ∧ RcP W A s x y r := fun e0 => by
      have re := fun (z : x = y) => eqV_same S (k + 1) ra (z ▸ rb) e
      clear e plain
      revert rb re
      refine obfE S ra e0 fun o A1 qq1 ro e rb re => ?_
      revert re
      refine obfE S rb e fun o' A2 qq1 ro' e re => ?_
      have key : RcP W A s (.ref A1) (.ref A2) r := by
        cases o with
        | list vs =>
          refine oListE e fun ws q e => ?_
          subst q
          obtain ⟨its, n, g1, i1, _⟩ := ro
          obtain ⟨its', n', g2, i2, _⟩ := ro'
          refine ifE e (fun len e => ?_) fun len e => sm1' e (RcP.of (RcAt.lists_lengths ⟨_, g1, rfl, _, rfl⟩ ⟨_, g2, rfl, _, rfl⟩ (size_ne i1 i2 len) hu1))
          obtain ⟨f, sz, hf, rfl⟩ := items_eq (F := EqP W A.in1 s) (fun u v z => (ih rfl u v z hu2).1) i1 i2 e
          exact RcP.lists sz g1 g2 hu1 hf
        | tuple vs =>
          cases o' with
          | tuple ws =>
            obtain ⟨its, n, g1, i1, _⟩ := ro
            obtain ⟨its', n', g2, i2, _⟩ := ro'
            refine gdE e fun len e => ?_
            obtain ⟨f, sz, hf, rfl⟩ := items_eq (F := EqP W A.in1 s) (fun u v z => (ih rfl u v z hu2).1) i1 i2 e
            exact RcP.tuples sz g1 g2 hu1 hf
          | _ => exact noE e
        | dict vs =>
          refine oDictE e fun ws q e => ?_
          subst q
          obtain ⟨ks, ob, g1, d1, i1, _, y1⟩ := ro
          obtain ⟨ks', ob', g2, d2, i2, _, y2⟩ := ro'
          have D1 : s.heap.DictOf (strKind W.prog W.w) A1 ks := Heap.dictOf_iff.mpr ⟨_, g1, d1⟩
          have D2 : s.heap.DictOf (strKind W.prog W.w) A2 ks' := Heap.dictOf_iff.mpr ⟨_, g2, d2⟩
          refine RcP.dicts (ka := ks) (kb := ks') y1 y2 hu1 D1 D2 fun E Q nm hQ => ?_
          refine ifE e (fun len e => samePairsP y1 y2 D1 D2 (i1.len.symm.trans (len.trans i2.len)) (hits_of i2 (fun u v z => (ih rfl u v z hu2).1) i1 e) hQ) fun len e => ?_
          exact sameLens y1 y2 D1 D2 (fun q => len (i1.len.trans (q.trans i2.len.symm))) (sm1 e hQ)
        | _ => exact noE e
      refine ⟨?_, key⟩
      by_cases same : A1 = A2
      · subst same
        exact re rfl ▸ EqP.of (EqAt.same _)
      · exact EqP.refs same key
    cases a with
    | ref _ => exact obj e
    | frz _ => exact obj e
    | none => exact plain e
    | bool _ => exact plain e
    | int _ => exact plain e
    | str _ => exact plain e
    | _ => exact noE e
end
end PL
end
section
namespace PL
open SeqAt
noncomputable def opC : COp → CmpOp
  | .eq => .Eq | .ne => .NotEq | .lt => .Lt | .le => .LtE | .gt => .Gt | .ge => .GtE | .isin => .In | .notin => .NotIn | .is => .Is
section
variable {W : Wd} {c : Fc} {m : Str → Option Value} {X : List (Addr × Obj)} {σ : St} {ps : PZ} {h : Heap} {g : Array GenState} {dr : Drawn} {tk : Nat} {os : OsState} {A : Around} {E : Value → Shared → Prop}
theorem neV_ok (S : SR W c m X σ ps h) {k : Nat} {a b : V} {x y : Value} {r : Bool} {s : Shared} (hs : s.heap = h) (ra : VR (hds ps) a x) (rb : VR (hds ps) b y) (e : neV σ k a b = some r) (hu : A.units + k + 1 < cLine) :
    RnP W A s x y r := by
  have hu1 : A.units < cLine := Nat.lt_of_le_of_lt (Nat.le_trans (Nat.le_add_right _ _) (Nat.le_succ _)) hu
  have hu2 : A.in1.units + k < cLine := by show A.units + 1 + k < cLine; lia
  have plain : ((eqS a b).map fun r => !r) = some r → RnP W A s x y r := fun e => by
    refine mpE e fun z e => ?_
    exact fun E Q hq => (eqS_ok (A := A) (s := s) ra rb e).2.2 W.prog W.w E Q hq
  subst hs
  have obj : (obF σ a).bind (fun o => (obF σ b).bind fun p => neO (eqV σ k) o p) = some r → RnP W A s x y r := fun e0 => by
    clear e plain
    revert rb
    refine obfE S ra e0 fun o A1 qq1 ro e rb => obfE S rb e fun o' A2 qq1 ro' e => ?_
    cases o with
    | list vs =>
      refine oListE e fun ws q e => ?_
      subst q
      obtain ⟨its, n, g1, i1, _⟩ := ro
      obtain ⟨its', n', g2, i2, _⟩ := ro'
      refine ifE e (fun len e => mpE e fun z e => ?_) fun len e => sm1' e fun E Q hq => RcNeAt.lists_lengths ⟨_, g1, rfl, _, rfl⟩ ⟨_, g2, rfl, _, rfl⟩ (size_ne i1 i2 len) hu1 W.prog W.w E Q hq
      obtain ⟨f, sz, hf, rfl⟩ := items_eq (F := EqP W A.in1 s) (fun u v z => (eqV_ok S k rfl u v z hu2).1) i1 i2 e
      exact RnP.lists sz g1 g2 hu1 hf
    | tuple vs =>
      cases o' with
      | tuple ws =>
        obtain ⟨its, n, g1, i1, _⟩ := ro
        obtain ⟨its', n', g2, i2, _⟩ := ro'
        refine gdE e fun len e => mpE e fun z e => ?_
        obtain ⟨f, sz, hf, rfl⟩ := items_eq (F := EqP W A.in1 s) (fun u v z => (eqV_ok S k rfl u v z hu2).1) i1 i2 e
        exact RnP.tuples sz g1 g2 hu1 hf
      | _ => exact noE e
    | _ => exact noE e
  cases a with
  | ref _ => exact obj e
  | frz _ => exact obj e
  | none => exact plain e
  | bool _ => exact plain e
  | int _ => exact plain e
  | str _ => exact plain e
  | _ => exact noE e
noncomputable def unV : Value → Option V
  | .none => some .none
  | .bool b => some (.bool b)
  | .int i _ => some (.int i)
  | .str s _ => some (.str (ofS s))
  | _ => none
theorem eqS_un {hs : HS} {a b : V} {x : Value} {r : Bool} (ra : VR hs a x) (e : eqS a b = some r) : unV x = some a := by
  cases ra with
  | none => rfl
  | bool => rfl
  | int => rfl
  | str s t h => exact congrArg (some ∘ V.str) (ofS_toS s)
  | _ => exact noE e
noncomputable def hitB (a : V) (y : Value) : Bool := match unV y with
  | some v => (eqS v a).getD false
  | none => false
theorem inL_spec {hs : HS} {a : V} {x : Value} (ra : VR hs a x) {s : Shared} {vs : List V} {its : List Value} (i : All2 (VR hs) vs its) : ∀ {r : Bool}, inL a vs = some r → its.any (hitB a) = r ∧ ∀ y ∈ its, EqAt A s y x (hitB a y) := by
  induction i with
  | nil => intro r e; cases e; exact ⟨rfl, fun y hy => by simp at hy⟩
  | @cons v y l mm h t ih =>
    intro r e
    simp only [inL, Option.bind_eq_some_iff, Option.map_eq_some_iff] at e
    obtain ⟨b, hb, d, hd, rfl⟩ := e
    obtain ⟨i1, i2⟩ := ih hd
    have hy : hitB a y = b := by
      unfold hitB
      rw [eqS_un h hb]
      show (eqS v a).getD false = b
      rw [hb]; rfl
    refine ⟨by simp [hy, i1], fun z hz => ?_⟩
    rcases List.mem_cons.mp hz with rfl | hz
    · rw [hy]; exact (eqS_ok h ra hb).1
    · exact i2 z hz
theorem isN_ok {hs : HS} {a : V} {x : Value} {r : Bool} (ra : VR hs a x) (e : isN a = some r) : x = .none ∧ r = true ∨ (x ≠ .none ∧ PySem.plainIs x .none = true ∧ r = false) := by
  cases ra with
  | none => exact sm1' e (.inl ⟨rfl, rfl⟩)
  | int => exact sm1' e (.inr ⟨(nomatch ·), rfl, rfl⟩)
  | str => exact sm1' e (.inr ⟨(nomatch ·), rfl, rfl⟩)
  | ref => exact sm1' e (.inr ⟨(nomatch ·), rfl, rfl⟩)
  | frz => exact sm1' e (.inr ⟨(nomatch ·), rfl, rfl⟩)
  | _ => exact noE e
theorem getS_isSome {hs : HS} {kvs : List (List Nat × V)} {ks : List (Str × Value)} (i1 : All2 (KV hs) kvs ks) (key : List Nat) : (PySem.valueAt ks (toS key)).isSome = (getS key kvs).isSome := by
  have z := valueAt_of i1 key
  cases q : getS key kvs with
  | none => rw [q] at z; rw [z]; rfl
  | some v => rw [q] at z; obtain ⟨x, hx, _⟩ := z; rw [hx]; rfl
theorem inV_ok {cx : Cx} (ok : SoOk W cx.so) (S : SR W c m X σ ps h) (K : W.K.In h) {a b : V} {x y : Value} {r : Bool} {Q : Value → Shared → Prop}
    (ra : VR (hds ps) a x) (rb : VR (hds ps) b y) (e : inV cx σ a b = some r) (ht : 1 ≤ tk) : ((∀ t, 1 ≤ t → Q (.bool r) ⟨h, g, dr, t, os⟩) → wpAny (model W.prog W.w) A (compareOp .In x y) Q E ⟨h, g, dr, tk, os⟩) ∧
    ((∀ t, 1 ≤ t → Q (.bool (!r)) ⟨h, g, dr, t, os⟩) → wpAny (model W.prog W.w) A (compareOp .NotIn x y) Q E ⟨h, g, dr, tk, os⟩) := by
  refine sobE ok S K rb e (fun s t qq1 qq2 e => strE ra e fun s' t' qq1 e => sm1' e ⟨fun k => PyProof.Rows.in_str (k tk ht), fun k => PyProof.Rows.notIn_str (k tk ht)⟩) fun o A' qq1 ro e => ?_
  cases o with
  | list vs =>
    obtain ⟨its, n, hA, i1, _⟩ := ro
    obtain ⟨rfl, q2⟩ := inL_spec (A := A.in1) (s := ⟨h, g, dr, tk, os⟩) ra i1 e
    exact ⟨fun k => in_listAt (items := its.toArray) (hitB a) ⟨_, hA, rfl, _, rfl⟩ (fun y hy => q2 y (by simpa using hy)) (by rw [← Array.any_toList]; exact k tk ht),
      fun k => notIn_listAt (items := its.toArray) (hitB a) ⟨_, hA, rfl, _, rfl⟩ (fun y hy => q2 y (by simpa using hy)) (by rw [← Array.any_toList]; exact k tk ht)⟩
  | tuple vs =>
    obtain ⟨its, n, hA, i1, _⟩ := ro
    obtain ⟨rfl, q2⟩ := inL_spec (A := A.in1) (s := ⟨h, g, dr, tk, os⟩) ra i1 e
    exact ⟨fun k => in_tupleAt (items := its.toArray) (hitB a) ⟨_, hA, rfl, _, rfl⟩ (fun y hy => q2 y (by simpa using hy)) (by rw [← Array.any_toList]; exact k tk ht),
      fun k => notIn_tupleAt (items := its.toArray) (hitB a) ⟨_, hA, rfl, _, rfl⟩ (fun y hy => q2 y (by simpa using hy)) (by rw [← Array.any_toList]; exact k tk ht)⟩
  | dict kvs =>
    obtain ⟨ks, ob, hA, d1, i1, b1, y1⟩ := ro
    refine strE ra e fun key t hl e => ?_
    have D : h.DictOf (strKind W.prog W.w) A' ks := Heap.dictOf_iff.mpr ⟨_, hA, d1⟩
    have z := getS_isSome i1 key
    exact sm1' e ⟨fun k => wpAny_in_of (k := toS key) (beq_self_eq_true _) y1 D.mapOf (by rw [z]; exact k _ (Nat.le_add_left 1 tk)), fun k => wpAny_notIn_of (k := toS key) (beq_self_eq_true _) y1 D.mapOf (by rw [z]; exact k _ (Nat.le_add_left 1 tk))⟩
  | _ => exact noE e
theorem cmp_ok {cx : Cx} (ok : SoOk W cx.so) (S : SR W c m X σ ps h) (K : W.K.In h) {op : COp} {a b : V} {x y : Value} {r : Bool} {Q : Value → Shared → Prop}
    (ra : VR (hds ps) a x) (rb : VR (hds ps) b y) (e : cmpV cx σ op a b = some r) (hu : A.units + 30 < cLine) (ht : 1 ≤ tk)
    (k : ∀ t, 1 ≤ t → Q (.bool r) ⟨h, g, dr, t, os⟩) : wpAny (model W.prog W.w) A (compareOp (opC op) x y) Q E ⟨h, g, dr, tk, os⟩ := by
  have k0 := k tk ht
  have hu1 : A.units + eqD + 1 < cLine := Nat.lt_of_le_of_lt (Nat.add_le_add_left (show eqD + 1 ≤ 30 by decide) _) hu
  cases op with
  | eq => exact (eqV_ok S eqD rfl ra rb e (Nat.lt_of_succ_lt hu1)).2 E Q k0
  | ne => exact neV_ok S rfl ra rb e hu1 E Q k0
  | lt => exact intE ra e fun i t e => intE rb e fun j u e => PyProof.Rows.lt_int (sm1 e k0)
  | gt => exact intE ra e fun i t e => intE rb e fun j u e => PyProof.Rows.gt_int (sm1 e k0)
  | le => cases ra with
    | int => exact intE rb e fun j u e => PyProof.Rows.le_int (sm1 e k0)
    | str => exact strE rb e fun j u qq1 e => PySem.P.le_str (by rw [toS_list, toS_list]; exact sm1 e k0)
    | _ => exact noE e
  | ge => exact intE ra e fun i t e => intE rb e fun j u e => PyProof.Rows.ge_int (sm1 e k0)
  | is => cases rb with
    | none => rcases isN_ok ra e with ⟨rfl, rfl⟩ | ⟨n, p, rfl⟩
              · exact wpAny_is_self rfl k0
              · exact wpAny_is_other p n k0
    | _ => exact noE e
  | isin => exact (inV_ok ok S K ra rb e ht).1 k
  | notin =>
    clear k0
    revert k
    exact mpE e fun z e => (inV_ok ok S K ra rb e ht).2
end
end PL
end
section
namespace PL
theorem pick_range {α : Type} (l : List α) : ∀ (n i : Nat), (List.range' i n).filterMap (l[·]?) = (l.drop i).take n
  | 0, i => by simp
  | n + 1, i => by
    rw [List.range'_succ, List.filterMap_cons, pick_range l n (i + 1)]
    by_cases h : i < l.length
    · rw [List.getElem?_eq_getElem h, List.drop_eq_getElem_cons h, List.take_succ_cons]
    · have h' : l.length ≤ i := Nat.le_of_not_lt h
      rw [List.getElem?_eq_none h', List.drop_eq_nil_of_le h', List.drop_eq_nil_of_le (by lia)]
      simp
theorem srange (i j : Nat) : sliceRange (i : Int) (j : Int) 1 = List.range' i (j - i) := by
  unfold sliceRange
  simp only [show (1 : Int) > 0 by decide, if_true]
  have e : ((if (i : Int) < (j : Int) then ((j : Int) - i + 1 - 1) / 1 else 0) : Int).toNat = j - i := by
    split
    · rw [Int.ediv_one]; lia
    · simp; lia
  simp only [e]
  rw [List.range_eq_range', List.range'_eq_map_range (n := j - i) (s := i)]
  rw [← List.range_eq_range']
  apply List.map_congr_left
  intro k _
  lia
theorem clip_eq (n : Nat) (i : Int) : max 0 (min (if i < 0 then i + n else i) (n : Int)) = ((clampI n i : Nat) : Int) := by
  unfold clampI
  split <;> lia
inductive PartR : V → Option Int → Prop
  | none : PartR .none none
  | int (i : Int) : PartR (.int i) (some i)
theorem str_idx {n : Nat} {l u : V} {pl pu : Option Int} {i j : Nat} (rl : PartR l pl) (ru : PartR u pu) (el : sliceLo n l = some i) (eu : sliceHi n u = some j) : Builtin.Str.strSliceIndices pl pu 1 n = List.range' i (j - i) := by
  cases rl <;> cases ru <;> simp only [sliceLo, sliceHi, Option.some.injEq] at el eu <;> subst el <;> subst eu <;> unfold Builtin.Str.strSliceIndices <;>
    simp only [show (1 : Int) > 0 by decide, if_true, clip_eq] <;> first | exact srange _ _ | exact srange 0 _
theorem list_pick {items : List Value} {l u : V} {pl pu : Option Int} {i j : Nat} (rl : PartR l pl) (ru : PartR u pu) (el : sliceLo items.length l = some i) (eu : sliceHi items.length u = some j) : slicePick items.toArray pl pu none = (cut items i j).toArray := by
  have f : (fun x : Nat => items.toArray[x]?) = fun x => items[x]? := by funext x; simp
  have key : ∀ (x y : Int), x = (i : Int) → y = (j : Int) → ((sliceRange x y 1).filterMap (items.toArray[·]?)).toArray = (cut items i j).toArray := by
    intro x y hx hy
    rw [hx, hy, f, srange, pick_range]; rfl
  cases rl <;> cases ru <;> simp only [sliceLo, sliceHi, Option.some.injEq] at el eu <;> refine key _ _ ?_ ?_ <;>
    simp only [sliceBounds, Option.getD_none, show (1 : Int) > 0 by decide, if_true, List.size_toArray, clip_eq] <;> lia
section
variable {W : Wd} {c : Fc} {m : Str → Option Value} {X : List (Addr × Obj)} {σ : St} {ps : PZ} {h : Heap} {g : Array GenState} {dr : Drawn} {tk : Nat} {os : OsState} {A : Around} {E : Value → Shared → Prop}
abbrev Hand (W : Wd) (c : Fc) (m : Str → Option Value) (X : List (Addr × Obj)) (hs : HS) (σ' : St) (v : V) (g : Array GenState) (dr : Drawn) (os : OsState) (Q : Value → Shared → Prop) : Prop :=
  ∀ ps' h' t' y, hs.Le (hds ps') → SR W c m X σ' ps' h' → VR (hds ps') v y → 1 ≤ t' → Q y ⟨h', g, dr, t', os⟩
theorem Hand.stay {v : V} {y : Value} {t : Nat} {Q : Value → Shared → Prop} (k : Hand W c m X (hds ps) σ v g dr os Q) (S : SR W c m X σ ps h) (r : VR (hds ps) v y) (ht : 1 ≤ t) : Q y ⟨h, g, dr, t, os⟩ := k ps h t y (.rfl) S r ht
theorem Hand.eq {hs : HS} {a v : V} {s σ' : St} {Q : Value → Shared → Prop} (k : Hand W c m X hs σ' v g dr os Q) (e : some (a, s) = some (v, σ')) : Hand W c m X hs s a g dr os Q := by cases e; exact k
theorem Hand.up {hs : HS} {v : V} {s : St} {Q : Value → Shared → Prop} {ps1 : PZ} (k : Hand W c m X hs s v g dr os Q) (p : hs.Le (hds ps1)) : Hand W c m X (hds ps1) s v g dr os Q := fun ps h t y q S r ht => k ps h t y (p.trans q) S r ht
theorem lim_line {n : Nat} (h : n ≤ LIM + LIM) : n ≤ sizeLine := by rw [sizeLine_eq]; unfold LIM at h; lia
theorem lim63 {n : Nat} (h : n ≤ LIM + LIM) : (n : Int) < 2 ^ 63 := by unfold LIM at h; lia
theorem tk1 {t : Nat} (k : Nat) (h : 1 ≤ t) : 1 ≤ t + k := Nat.le_trans h (Nat.le_add_right t k)
theorem truthy_ok {cx : Cx} (ok : SoOk W cx.so) (S : SR W c m X σ ps h) (K : W.K.In h) {v : V} {x : Value} {r : Bool} {Q : Bool → Shared → Prop}
    (ra : VR (hds ps) v x) (e : truthyV cx σ v = some r) (ht : 1 ≤ tk)
    (k : ∀ t, 1 ≤ t → Q r ⟨h, g, dr, t, os⟩) : wpAny (model W.prog W.w) A (truthy x) Q E ⟨h, g, dr, tk, os⟩ := by
  have obj : ∀ o A', objOf cx σ v = some o → RO W h (hds ps) A' o → trO o = some r → wpAny (model W.prog W.w) A (truthy (.ref A')) Q E ⟨h, g, dr, tk, os⟩ := fun o A' qq1 ro e => by
    cases o with
    | list vs =>
      obtain ⟨its, n, hA, i1, hn⟩ := ro
      refine wpAny_truthy_list (items := its.toArray) ⟨_, hA, rfl, _, rfl⟩ (by rw [List.size_toArray, ← i1.len]; exact lim63 hn) ?_
      have : (!its.toArray.isEmpty) = !vs.isEmpty := by cases i1 <;> rfl
      rw [this]
      exact sm1 e (k _ (tk1 2 ht))
    | meth f self =>
      obtain ⟨y, hA, _⟩ := ro
      have ty : Looks (model W.prog W.w) h (typeOf (.ref A')) (.type "method") := (Looks.ld hA).andThen .now
      have n1 : typeLookup (.type "method") "__bool__" = pure none := by rw [typeLookup_type, builtinLookup_eq_fast]; kernel_rfl
      have n2 : typeLookup (.type "method") "__len__" = pure none := by rw [typeLookup_type, builtinLookup_eq_fast]; kernel_rfl
      unfold truthy
      exact wpAny_bind (m := callSpecial? (.ref A') (Str.ofString "__bool__")) (wpAny_bind (wpAny_bind (ty.at ((Looks.of_pure n1).at (wpAny_pure (wpAny_bind (wpAny_bind (ty.at ((Looks.of_pure n2).at (wpAny_pure (sm1 e (k tk ht))))))))))))
    | _ => exact noE e
  cases ra with
  | none => exact PyProof.Rows.truthy_none (sm1 e (k tk ht))
  | bool => exact wpAny_truthy_bool (sm1 e (k tk ht))
  | int i t =>
    have : (i != 0) = decide (i ≠ 0) := by simp [bne, Bool.beq_eq_decide_eq]
    exact PyProof.Rows.truthy_int (by rw [this]; exact sm1 e (k tk ht))
  | str s t hl =>
    refine PySem.P.truthy_str (by rw [toS_len]; exact Int.not_le.mpr (lim63 (Nat.le_trans hl (Nat.le_add_right _ _)))) ?_
    have : ((((toS s).length : Nat) : Int) != 0) = !s.isEmpty := by rw [toS_len]; cases s with | nil => rfl | cons a l => exact bne_iff_ne.mpr (fun q => Nat.succ_ne_zero l.length (Int.ofNat.inj q))
    rw [this]
    exact sm1 e (k _ (tk1 2 ht))
  | ref hA => exact objE ok S K (.ref hA) e obj
  | sref a => exact objE ok S K (.sref a) e obj
  | @frz o _ hz => exact objE ok S K (.frz hz) (show (objOf cx σ (.frz o)).bind trO = some r from e) obj
  | bad => exact noE e
end
end PL
end
section
namespace PL
structure ClsOk (W : Wd) (cx : Cx) : Prop where
  nd : W.tb.Nodup
  inst : ∀ cl f, cx.clsi cl f = true → ∃ x, W.tb[f]? = some x ∧ findIn W.K (.ref cl) x = some none ∧ takerIn W.K cl x = some none
  plain : ∀ cl f, (cx.clsi cl f = true ∨ (cx.clsm cl f).isSome = true ∨ (cx.clsv cl f).isSome = true) → (findIn W.K (.ref cl) "__getattribute__" = some (some (.builtin "object.__getattribute__")) ∧ findIn W.K (.ref cl) "__getattr__" = some none) ∧ hasDictIn W.K cl = true ∧
    findIn W.K (.ref cl) "__setattr__" = some (some (.builtin "object.__setattr__")) ∧ plainOver W.K cl = true
  meth : ∀ cl f g, cx.clsm cl f = some g → ∃ x, W.tb[f]? = some x ∧ findIn W.K (.ref cl) x = some (some (.ref g)) ∧ typeIn W.K (.ref g) = some (.type "function") ∧
    specialIn W.K (.ref g) "__get__" = some (some (.builtin "function.__get__")) ∧ takesIn W.K (.ref g) = some false ∧ copiedNames.contains x = false ∧ g < BIG
  val : ∀ cl f v, cx.clsv cl f = some v → ∃ x a, W.tb[f]? = some x ∧ findIn W.K (.ref cl) x = some (some a) ∧ specialIn W.K a "__get__" = some none ∧ handedIn a = true ∧ copiedNames.contains x = false ∧ VR .nil v a
section
variable {W : Wd} {c : Fc} {m : Str → Option Value} {X : List (Addr × Obj)} {σ : St} {ps : PZ} {h : Heap} {g : Array GenState} {dr : Drawn} {tk : Nat} {os : OsState} {A : Around} {E : Value → Shared → Prop}
theorem tb_inj {tb : List Str} (nd : tb.Nodup) {i j : Nat} {x : Str} (a : tb[i]? = some x) (b : tb[j]? = some x) : i = j :=
  (List.getElem?_inj (List.getElem?_eq_some_iff.mp a).1 nd).mp (a.trans b.symm)
theorem noRef {tb : List Str} {hs : HS} {fs : List (Nat × V)} {es : List DictEntry} (r : All2 (AV tb hs) fs es) : es.any (·.refKey) = false := by
  induction r with
  | nil => rfl
  | @cons a e l mm h _ ih =>
    obtain ⟨x, t, _, hk, _⟩ := h
    rw [List.any_cons, ih]
    have : DictEntry.refKey e = false := by unfold DictEntry.refKey; rw [hk]
    rw [this]; rfl
theorem getL_of {tb : List Str} (nd : tb.Nodup) {hs : HS} {f : Nat} {x : Str} (hx : tb[f]? = some x) {fs : List (Nat × V)} {es : List DictEntry} (r : All2 (AV tb hs) fs es) : match getK f fs with
    | some v => ∃ y, getL x es = some (some y) ∧ VR hs v y
    | none => getL x es = some none := by
  have nr := noRef r
  have key : match getK f fs with
    | some v => ∃ e, es.find? (·.key.isStr x) = some e ∧ VR hs v e.val
    | none => es.find? (·.key.isStr x) = none := by
    clear nr
    induction r with
    | nil => rfl
    | @cons a e l mm h t ih =>
      obtain ⟨i, v⟩ := a
      obtain ⟨y, t', hy, hk, hv⟩ := h
      by_cases q : i = f
      · subst q
        have hyx : y = x := by rw [hx] at hy; exact (Option.some.inj hy).symm
        have : getK i ((i, v) :: l) = some v := by simp [getK, BT.beq_eq]
        rw [this]
        refine ⟨e, ?_, hv⟩
        rw [List.find?_cons]
        have : e.key.isStr x = true := by rw [hk, hyx]; simp [Value.isStr]
        rw [this]
      · have hyx : ¬ y = x := fun z => q (tb_inj nd (z ▸ hy) hx)
        have e1 : getK f ((i, v) :: l) = getK f l := by simp [getK, BT.beq_eq, q]
        rw [e1]
        have : e.key.isStr x = false := by rw [hk]; simp [Value.isStr, hyx]
        have e2 : (e :: mm).find? (·.key.isStr x) = mm.find? (·.key.isStr x) := by rw [List.find?_cons, this]
        rw [e2]
        exact ih
  unfold getL
  cases q : getK f fs with
  | some v =>
    rw [q] at key
    obtain ⟨e, he, hv⟩ := key
    rw [he]
    exact ⟨_, rfl, hv⟩
  | none =>
    rw [q] at key
    rw [key, nr]
    rfl
theorem handed_of {hs : HS} {v : V} {x : Value} (r : VR hs v x) : handedIn x = true := by cases r <;> rfl
theorem ClsOk.name {cx : Cx} (co : ClsOk W cx) {cl f : Nat} {nm : Str} (hn : W.tb[f]? = some nm) (hc : cx.clsi cl f = true) : findIn W.K (.ref cl) nm = some none ∧ takerIn W.K cl nm = some none := by
  obtain ⟨x', hx', hf⟩ := co.inst _ _ hc
  exact Option.some.inj (hx'.symm.trans hn) ▸ hf
theorem own_ok {cx : Cx} (co : ClsOk W cx) (K : W.K.In h) {v : V} {f : Nat} {nm : Str} {Q : Value → Shared → Prop} {ex : Bool} {hs : HS} {A1 D1 : Addr} {es : List DictEntry} {n1 cl : Nat} {fs : List (Nat × V)}
    (hn : W.tb[f]? = some nm) (h1 : h.get? A1 = some (instObj cl D1)) (h2 : h.get? D1 = some (dictOf es n1)) (i1 : All2 (AV W.tb hs) fs es) (hv : getK f fs = some v) (hc : cx.clsi cl f = true)
    (k : ∀ y, VR hs v y → Q y ⟨h, g, dr, tk + 1, os⟩) : wpAny (model W.prog W.w) A (getAttr (.ref A1) nm ex) Q E ⟨h, g, dr, tk, os⟩ := by
  have gl := getL_of co.nd hn i1
  rw [hv] at gl
  obtain ⟨y, hy, ry⟩ := gl
  obtain ⟨⟨p1, p2⟩, p3, _, _⟩ := co.plain _ _ (.inl hc)
  have I : InstAt h A1 (instObj cl D1) cl (some (dictOf es n1)) := ⟨h1, rfl, rfl, h2⟩
  exact get_value (s := ⟨h, g, dr, tk, os⟩) K I p1 (findObj_own p3 (co.name hn hc).1 rfl hy) (handed_of ry) (k y ry)
theorem find_meth {cl g' : Nat} {x' : Str} {es : List DictEntry} {n1 : Nat} (p3 : hasDictIn W.K cl = true) (hf : findIn W.K (.ref cl) x' = some (some (.ref g'))) (hg : specialIn W.K (.ref g') "__get__" = some (some (.builtin "function.__get__"))) (htk : takesIn W.K (.ref g') = some false) (gl : getL x' es = some none) (hcp : copiedNames.contains x' = false) :
    findObj W.K cl (some (dictOf es n1)) x' = some (.bind (.builtin "function.__get__") (.ref g')) := by
  obtain ⟨cd, hcd, hdd⟩ := any_some p3
  have ow : PySem.W.ownOf cd (some (dictOf es n1)) x' = some none := by unfold PySem.W.ownOf; rw [if_pos hdd]; exact gl
  unfold findObj
  rw [hcd, Option.bind_some, hf, Option.bind_some]
  dsimp only
  rw [hg, Option.bind_some]
  dsimp only
  rw [htk, Option.bind_some]
  dsimp only
  rw [ow, Option.bind_some]
  dsimp only
  rw [hcp]
  rfl
theorem getAttr_ok {cx : Cx} (so : SoOk W cx.so) (co : ClsOk W cx) (S : SR W c m X σ ps h) (K0 : W.K.In c.base) {o v : V} {x : Value} {f : Nat} {nm : Str} {σ' : St} {Q : Value → Shared → Prop} {ex : Bool}
    (hn : W.tb[f]? = some nm) (ra : VR (hds ps) o x) (e : getAttrV cx o f σ = some (v, σ')) (ht : 1 ≤ tk)
    (k : Hand W c m X (hds ps) σ' v g dr os Q) : wpAny (model W.prog W.w) A (getAttr x nm ex) Q E ⟨h, g, dr, tk, os⟩ := by
  have K : W.K.In h := K0.keeps S.F.base
  cases o with
  | ref a =>
    dsimp only [getAttrV] at e
    refine cellIE S ra e fun a' A1 D1 es n1 cl fs ha qq1 hp h1 h2 i1 nd1 b1 e => ?_
    obtain rfl := V.ref_inj ha
    unfold ownA at e
    cases hv : getK f fs with
    | some v' =>
      rw [hv] at e
      exact gdE e fun hc e => own_ok co K hn h1 h2 i1 hv hc fun y ry => (k.eq e).stay S ry (tk1 1 ht)
    | none =>
      rw [hv] at e
      have gl := getL_of co.nd hn i1
      rw [hv] at gl
      cases hm : cx.clsm cl f with
      | some g' =>
        rw [hm] at e
        obtain ⟨x', hx', hf, hfn, hg, htk, hcp, _⟩ := co.meth _ _ _ hm
        obtain rfl := Option.some.inj (hx'.symm.trans hn)
        obtain ⟨⟨p1, p2⟩, p3, _, _⟩ := co.plain cl f (.inr (.inl (congrArg Option.isSome hm)))
        have I : InstAt h A1 (instObj cl D1) cl (some (dictOf es n1)) := ⟨h1, rfl, rfl, h2⟩
        refine get_bind (s := ⟨h, g, dr, tk, os⟩) K I p1 (find_meth p3 hf hg htk gl hcp) p2 (wpAny_call (fn_get (s := ⟨h, g, dr, tk + 1, os⟩) K hfn ?_))
        show wpAny _ _ (handedOut (.ref h.objs.size)) _ _ _
        rw [handedOut_of rfl]
        refine wpAny_pure (k.eq e _ _ (tk + 1) _ pre_snoc (S.push1 (ob := methodObj (.ref g') (.ref A1)) (o := .meth g' (.ref a)) rfl (.meth (VR.mono .add (.ref (hds_get hp))))) ?_ (tk1 1 ht))
        rw [hds_snoc]
        exact VR.last (hds_len.trans S.len.symm)
      | none =>
        rw [hm] at e
        cases q : cx.clsv cl f with
        | none => rw [q] at e; exact noE e
        | some v' =>
        rw [q] at e
        obtain ⟨x', a', hx', hf, hg, hh, hcp, rv⟩ := co.val _ _ _ q
        obtain rfl := Option.some.inj (hx'.symm.trans hn)
        obtain ⟨⟨p1, p2⟩, p3, _, _⟩ := co.plain cl f (.inr (.inr (congrArg Option.isSome q)))
        have I : InstAt h A1 (instObj cl D1) cl (some (dictOf es n1)) := ⟨h1, rfl, rfl, h2⟩
        exact get_value (s := ⟨h, g, dr, tk, os⟩) K I p1 (findObj_cls p3 hf hg hh hcp gl) hh ((k.eq e).stay (t := tk + 1) S (rv.mono .nil) (tk1 1 ht))
  | sref a =>
    cases ra
    refine bdE e fun o ho e1 => oInstE e1 fun cl fs q e => ?_
    subst q
    clear e1
    obtain ⟨es, D1, n1, h1, h2, i1, _⟩ := so.ro (hs := hds ps) K ho
    unfold ownA at e
    cases hv : getK f fs with
    | some v' =>
      rw [hv] at e
      exact gdE e fun hc e => own_ok co K hn h1 h2 i1 hv hc fun y ry => (k.eq e).stay S ry (tk1 1 ht)
    | none => rw [hv] at e; exact noE e
  | _ => exact noE e
theorem putL_of {tb : List Str} (nd : tb.Nodup) {hs : HS} {f : Nat} {x : Str} (hx : tb[f]? = some x) {v : V} {y : Value} {hsh : Int} {t : Tok} (rv : VR hs v y) {fs : List (Nat × V)} {es : List DictEntry} (r : All2 (AV tb hs) fs es) :
    All2 (AV tb hs) (putK f v fs) (putL x hsh (.str x t) y es) := by
  induction r with
  | nil => exact .cons ⟨x, t, hx, rfl, rv⟩ .nil
  | @cons a e l mm h tl ih =>
    obtain ⟨i, w⟩ := a
    obtain ⟨z, t', hz, hk, hv⟩ := h
    by_cases q : i = f
    · subst q
      have hzx : z = x := by rw [hx] at hz; exact (Option.some.inj hz).symm
      have e1 : putK i v ((i, w) :: l) = (i, v) :: l := by simp [putK, BT.beq_eq]
      have e2 : putL x hsh (.str x t) y (e :: mm) = ⟨e.hash, e.key, y⟩ :: mm := by
        have : e.key.isStr x = true := by rw [hk, hzx]; simp [Value.isStr]
        simp [putL, this]
      rw [e1, e2]
      exact .cons ⟨z, t', hz, hk, rv⟩ tl
    · have hzx : ¬ z = x := fun w' => q (tb_inj nd (w' ▸ hz) hx)
      have e1 : putK f v ((i, w) :: l) = (i, w) :: putK f v l := by simp [putK, BT.beq_eq, q]
      have e2 : putL x hsh (.str x t) y (e :: mm) = e :: putL x hsh (.str x t) y mm := by
        have : e.key.isStr x = false := by rw [hk]; simp [Value.isStr, hzx]
        simp [putL, this]
      rw [e1, e2]
      exact .cons ⟨z, t', hz, hk, hv⟩ ih
theorem putK_keys {β : Type} (k : Nat) (v : β) : ∀ l : List (Nat × β), (l.map (·.1)).Nodup → ((putK k v l).map (·.1)).Nodup ∧ (putK k v l).length ≤ l.length + 1 ∧ ∀ a ∈ (putK k v l).map (·.1), a = k ∨ a ∈ l.map (·.1)
  | [], _ => by simp [putK]
  | (i, w) :: r, nd => by
    simp only [List.map_cons, List.nodup_cons] at nd
    by_cases q : i = k
    · have e1 : putK k v ((i, w) :: r) = (k, v) :: r := by simp [putK, BT.beq_eq, q]
      rw [e1]
      subst q
      refine ⟨by simpa using nd, by simp, fun a ha => ?_⟩
      simpa using ha
    · have e1 : putK k v ((i, w) :: r) = (i, w) :: putK k v r := by simp [putK, BT.beq_eq, q]
      obtain ⟨h1, h2, h3⟩ := putK_keys k v r nd.2
      rw [e1]
      refine ⟨?_, by simp; lia, fun a ha => ?_⟩
      · simp only [List.map_cons, List.nodup_cons]
        exact ⟨fun z => (h3 _ z).elim q nd.1, h1⟩
      · simp only [List.map_cons, List.mem_cons] at ha ⊢
        rcases ha with rfl | ha
        · exact .inr (.inl rfl)
        · exact (h3 _ ha).elim .inl fun z => .inr (.inr z)
theorem upd_split {D : Addr} {o o' : Obj} {R : List (Addr × Obj)} : ∀ {P : List (Addr × Obj)}, ((P ++ (D, o) :: R).map (·.1)).Nodup → Upd D o o' (P ++ (D, o) :: R) (P ++ (D, o') :: R)
  | [], nd => by
    refine .head fun p hp q => ?_
    have nd' : (D :: R.map (·.1)).Nodup := nd
    exact (List.nodup_cons.mp nd').1 (q ▸ List.mem_map_of_mem (f := (·.1)) hp)
  | p :: r, nd => by
    have nd' : (p.1 :: (r ++ (D, o) :: R).map (·.1)).Nodup := nd
    refine .tail (fun q => (List.nodup_cons.mp nd').1 ?_) (upd_split (List.nodup_cons.mp nd').2)
    rw [q]; simp
theorem upd_of {ps : PZ} {X : List (Addr × Obj)} (nd : ((ps.flatten ++ X).map (·.1)).Nodup) {a : Nat} {pre post : Part} {D : Addr} {o o' : Obj} (e : ps.p[a]? = some (pre ++ (D, o) :: post)) :
    Upd D o o' (ps.flatten ++ X) ((ps.set a (pre ++ (D, o') :: post)).flatten ++ X) := by
  obtain ⟨P, Q, h1, h2⟩ := flat_set (o' := o') e
  rw [h2]
  rw [h1] at nd ⊢
  rw [List.append_assoc, List.cons_append] at nd ⊢
  rw [List.append_assoc, List.cons_append]
  exact upd_split nd
theorem lim9 {n : Nat} (h : n ≤ LIMD) : n + 1 ≤ 900 := Nat.le_trans (Nat.succ_le_succ h) (by decide)
theorem setAttr_ok {cx : Cx} (co : ClsOk W cx) (S : SR W c m X σ ps h) (K0 : W.K.In c.base) {o v : V} {x y : Value} {f : Nat} {nm : Str} {σ' : St} {Q : Unit → Shared → Prop}
    (hn : W.tb[f]? = some nm) (ra : VR (hds ps) o x) (rv : VR (hds ps) v y) (e : setAttrV cx o f v σ = some σ') (ht : 1 ≤ tk)
    (k : ∀ ps' h' t', hds ps' = hds ps → SR W c m X σ' ps' h' → 1 ≤ t' → Q () ⟨h', g, dr, t', os⟩) : wpAny (model W.prog W.w) A (setAttr x nm y) Q E ⟨h, g, dr, tk, os⟩ := by
  refine cellIE S ra e fun a A1 D1 es n1 cl fs qq1 qq2 hp h1 h2 i1 nd1 b1 e => gdE e fun hc e => ?_
  obtain ⟨hf, htk⟩ := co.name hn hc.1
  obtain ⟨⟨p1, p2⟩, p3, p4, p5⟩ := co.plain _ _ (.inl hc.1)
  have gl := getL_of co.nd hn i1
  have gs : (getL nm es).isSome = true := by
    cases q : getK f fs with
    | none => rw [q] at gl; rw [gl]; rfl
    | some v' => rw [q] at gl; obtain ⟨y', hy', _⟩ := gl; rw [hy']; rfl
  have hp' : ps.p[a]? = some ([(A1, instObj cl D1)] ++ (D1, dictOf es n1) :: []) := hp
  obtain ⟨u1, u2, u3⟩ := putK_keys f v fs nd1
  have i2 := putL_of co.nd hn (hsh := PyData.keyHash W.w.params nm) (t := tk + 1) rv i1
  have u4 : (putK f v fs).length ≤ 900 := Nat.le_trans u2 (lim9 hc.2)
  obtain ⟨g0, G0, F0⟩ := S.F
  have he := hds_set (part' := [(A1, instObj cl D1)] ++ (D1, dictOf (putL nm (PyData.keyHash W.w.params nm) (.str nm (tk + 1)) y es) (putN nm es n1)) :: []) hp' rfl
  have I : InstAt h A1 (instObj cl D1) cl (some (dictOf es n1)) := ⟨h1, rfl, rfl, h2⟩
  refine set_dict (s := ⟨h, g, dr, tk, os⟩) F0 (K0.keeps G0.B.stays) (G0.news S.N) I rfl p4 p5 htk p3 gs rfl (upd_of S.nd hp') (i2.len ▸ Nat.le_trans u4 (by decide)) fun h' F' N' => k _ h' _ he ⟨⟨g0, G0, F'⟩, G0.back N', ?_, ?_, S.fz⟩ (tk1 (t := tk) 2 ht)
  · obtain ⟨P, Q, q1, q2⟩ := flat_set (o' := dictOf (putL nm (PyData.keyHash W.w.params nm) (.str nm (tk + 1)) y es) (putN nm es n1)) hp'
    have nd := S.nd
    rw [q1] at nd
    rw [q2]
    simpa using nd
  · rw [he, ← Option.some.inj e]
    exact S.rel.set a (.inst i2 u1 u4)
end
end PL
end
section
namespace PL
noncomputable def opB : BOp → Operator
  | .add => .Add | .sub => .Sub | .fdiv => .FloorDiv | .mod => .Mod
section
variable {W : Wd} {c : Fc} {m : Str → Option Value} {X : List (Addr × Obj)} {σ : St} {ps : PZ} {h : Heap} {g : Array GenState} {dr : Drawn} {tk : Nat} {os : OsState} {A : Around} {E : Value → Shared → Prop}
theorem alloc_app {vs ws : List V} {its its' : List Value} {σ' : St} {v : V} (S : SR W c m X σ ps h) {l : List V} {il : List Value} (i1 : All2 (VR (hds ps)) l il) (e : allocL l σ = some (v, σ')) {n : Nat}
    {Q : Value → Shared → Prop} {h' : Heap} (F' : FrU c h' m) (N' : News c.h₀ c.L h' ((h.objs.size, listOf il.toArray n) :: (ps.flatten ++ X))) (ht : 1 ≤ tk)
    (k : Hand W c m X (hds ps) σ' v g dr os Q) : Q (.ref h.objs.size) ⟨h', g, dr, tk, os⟩ := by
  refine gdE e fun hl e => k.eq e (ps.add [(h.objs.size, listOf il.toArray n)]) _ tk _ pre_snoc (S.new1 F' N' (fun p hp => Heap.lt_size (S.N p hp).1) (.list (i1.mono fun qq1 qq2 => VR.mono .add) (Nat.le_trans hl (Nat.le_add_right _ _)))) ?_ ht
  rw [hds_snoc]
  exact VR.last (hds_len.trans S.len.symm)
theorem app_lim {x y : List Nat} (h : x.length + y.length ≤ LIM) : (toS x).length + (toS y).length ≤ sizeLine := by rw [toS_len, toS_len]; exact lim_line (Nat.le_trans h (Nat.le_add_right _ _))
theorem app_lim2 {x y : List Nat} (h : x.length + y.length ≤ LIM) : (x ++ y).length ≤ LIM := by rw [List.length_append]; exact h
theorem noLong {y : Int} (h1 : 0 < y) (h2 : y ≤ LIM) : y.natAbs.log2 < 20 := by
  unfold LIM at h2
  exact (Nat.log2_lt (n := y.natAbs) (k := 20) (by lia)).mpr (by lia)
theorem bin_ok (S : SR W c m X σ ps h) {cx : Cx} {op : BOp} {a b v : V} {x y : Value} {σ' : St} {Q : Value → Shared → Prop}
    (ra : VR (hds ps) a x) (rb : VR (hds ps) b y) (e : binV cx op a b σ = some (v, σ')) (ht : 1 ≤ tk)
    (k : Hand W c m X (hds ps) σ' v g dr os Q) : wpAny (model W.prog W.w) A (binaryOp (opB op) x y) Q E ⟨h, g, dr, tk, os⟩ := by
  have stay : ∀ {v0 : V} {y : Value} {t : Nat}, some (v0, σ) = some (v, σ') → VR (hds ps) v0 y → 1 ≤ t → Q y ⟨h, g, dr, t, os⟩ := fun e r ht => (k.eq e).stay S r ht
  cases op with
  | add => cases ra with
    | int => exact intE rb e fun j u e => PyProof.Rows.add_int (stay e (.int _ _) (tk1 1 ht))
    | str s t l => exact strE rb e fun s' u qq1 e => gdE e fun hl e => wpAny_with_toks (Nat.le_refl _) (PyProof.Rows.add_str (fun t' tk' hk => by rw [toS_app]; exact stay e (.str _ _ (app_lim2 hl)) (Nat.le_trans ht hk)) (app_lim hl))
    | ref hA =>
      dsimp only [binV] at e
      refine cellLE S (.ref hA) e fun a1 A1 its n1 vs qq1 qq2 qq3 g1 i1 l1 e => cellLE S rb e fun a2 A2 its' n2 ws qq1 qq2 qq3 g2 i2 l2 e => ?_
      obtain ⟨g0, G0, F0⟩ := S.F
      refine PyProof.Rows.add_arrays (its := its.toArray) (its2 := its'.toArray) F0 (G0.news S.N) ⟨_, g1, rfl, _, rfl⟩ ⟨_, g2, rfl, _, rfl⟩ (fun h' F' N' => ?_) (by rw [List.size_toArray, List.size_toArray, ← i1.len, ← i2.len, sizeLine_eq]; unfold LIM at l1 l2; lia)
      exact alloc_app (vs := vs) (ws := ws) (its := its) (its' := its') S (i1.app i2) e ⟨g0, G0, F'⟩ (G0.back N') ht k
    | _ => exact noE e
  | sub => exact intE ra e fun i t e => intE rb e fun j u e => PyProof.Rows.sub_int (stay e (.int _ _) (tk1 1 ht))
  | fdiv => exact intE ra e fun i t e => intE rb e fun j u e => gdE e fun hl e => PyProof.Rows.floordiv_int (Int.ne_of_gt hl.1) (stay e (.int _ _) (tk1 1 ht)) (Or.inl (PyProof.noPylong_of_log2 (Nat.lt_trans (noLong hl.1 hl.2) (by decide))))
  | mod => exact intE ra e fun i t e => intE rb e fun j u e => gdE e fun hl e => PyProof.Rows.mod_int' (Int.ne_of_gt hl.1) (stay e (.int _ _) (tk1 1 ht))
theorem iop_ok (S : SR W c m X σ ps h) {cx : Cx} {op : BOp} {a b v : V} {x y : Value} {σ' : St} {Q : Value → Shared → Prop} (ho : op = .add ∨ op = .sub)
    (ra : VR (hds ps) a x) (rb : VR (hds ps) b y) (e : iopV cx op a b σ = some (v, σ')) (ht : 1 ≤ tk)
    (k : Hand W c m X (hds ps) σ' v g dr os Q) : wpAny (model W.prog W.w) A (inplaceOp (opB op) x y) Q E ⟨h, g, dr, tk, os⟩ := by
  have stay : ∀ {v0 : V} {y : Value} {t : Nat}, some (v0, σ) = some (v, σ') → VR (hds ps) v0 y → 1 ≤ t → Q y ⟨h, g, dr, t, os⟩ := fun e r ht => (k.eq e).stay S r ht
  cases op with
  | add => cases ra with
    | int => exact intE rb e fun j u e => PyProof.Rows.iadd_int (stay e (.int _ _) (tk1 1 ht))
    | str s t l => exact strE rb e fun s' u qq1 e => gdE e fun hl e => wpAny_with_toks (Nat.le_refl _) (PyProof.Rows.iadd_str (fun t' tk' hk => by rw [toS_app]; exact stay e (.str _ _ (app_lim2 hl)) (Nat.le_trans ht hk)) (app_lim hl))
    | _ => exact noE e
  | sub => exact intE ra e fun i t e => intE rb e fun j u e => PyProof.Rows.isub_int (stay e (.int _ _) (tk1 1 ht))
  | _ => exact noE e
theorem idx_small {n : Nat} {i : Int} {j : Nat} (hn : n ≤ LIM + LIM) (e : idxOf n i = some j) : -(2 ^ 63) ≤ i ∧ i < 2 ^ 63 ∧ j < n ∧ (0 ≤ i → j = i.toNat) ∧ (i < 0 → -(n : Int) ≤ i ∧ j = (i + n).toNat) := by
  unfold LIM at hn
  refine ifE e (fun h0 e => gdE e fun hlt e => ?_) fun h0 e => gdE e fun hle e => ?_
  · obtain rfl := Option.some.inj e; exact ⟨by lia, by lia, hlt, fun qq1 => rfl, fun q => by lia⟩
  · obtain rfl := Option.some.inj e; exact ⟨by lia, by lia, by lia, fun q => by lia, fun q => ⟨by lia, by lia⟩⟩
theorem seq_idx {n : Nat} {i : Int} {j : Nat} (hn : n ≤ LIM + LIM) (e : idxOf n i = some j) : seqIndex? i n = some j ∧ ¬ (i < -(2 ^ 63) ∨ 2 ^ 63 ≤ i) := by
  obtain ⟨b1, b2, b3, b4, b5⟩ := idx_small hn e
  refine ⟨?_, by lia⟩
  unfold seqIndex?
  by_cases q : i < 0
  · obtain ⟨c1, c2⟩ := b5 q
    simp only [q, if_true]
    have : (decide (0 ≤ i + (n : Int)) && decide (i + (n : Int) < n)) = true := by simp; lia
    rw [this]; simp [c2]
  · have c2 := b4 (by lia)
    simp only [q, if_false]
    have : (decide (0 ≤ i) && decide (i < (n : Int))) = true := by simp; lia
    rw [this]; simp [c2]
theorem sub_ok {cx : Cx} (ok : SoOk W cx.so) (S : SR W c m X σ ps h) (K : W.K.In h) {o i v : V} {x y : Value} {Q : Value → Shared → Prop}
    (ra : VR (hds ps) o x) (rb : VR (hds ps) i y) (e : subV cx σ o i = some v) (ht : 1 ≤ tk)
    (k : Hand W c m X (hds ps) σ v g dr os Q) : wpAny (model W.prog W.w) A (getItem x y) Q E ⟨h, g, dr, tk, os⟩ := by
  refine sobE ok S K ra e (fun s t qq1 hl e => intE rb e fun ki u e => bdE e fun j hj e => ?_) fun o A' qq1 ro e => ?_
  rotate_left
  · revert k
    refine mpE e fun ch hch k => ?_
    obtain ⟨q1, q2⟩ := seq_idx (Nat.le_trans hl (Nat.le_add_right _ _)) hj
    refine PySem.P.getItem_str (c := ch) (by simp; lia) ?_ (k.stay (y := .str (toS [ch]) tk) S (.str _ _ (show 1 ≤ LIM by decide)) (tk1 1 ht))
    rw [toS_len, q1]
    show (toS s).cps[j]? = some ch
    simpa [toS] using hch
  · cases o with
    | list vs =>
      obtain ⟨its, n, hA, i1, hn⟩ := ro
      refine intE rb e fun ki u e => bdE e fun j hj hv => ?_
      obtain ⟨z, hz, rz⟩ := i1.get hv
      obtain ⟨b1, b2, b3, b4, b5⟩ := idx_small hn hj
      by_cases q : ki < 0
      · obtain ⟨c1, c2⟩ := b5 q
        exact wpAny_getItem_list_neg (items := its.toArray) (x := z) ⟨_, hA, rfl, _, rfl⟩ q (by rw [List.size_toArray, ← i1.len]; exact c1) b1 (by rw [List.size_toArray, ← i1.len, ← c2]; simpa using hz) (k.stay S rz ht)
      · have c0 := Int.not_lt.mp q
        exact wpAny_getItem_list (items := its.toArray) (x := z) ⟨_, hA, rfl, _, rfl⟩ c0 b2 (by rw [← b4 c0]; simpa using hz) (k.stay S rz ht)
    | dict kvs =>
      obtain ⟨ks, ob, hA, d1, i1, b1, y1⟩ := ro
      refine strE rb e fun key t hl e => ?_
      have D : h.DictOf (strKind W.prog W.w) A' ks := Heap.dictOf_iff.mpr ⟨_, hA, d1⟩
      have z := valueAt_of i1 key
      rw [show getS key kvs = some v from e] at z
      obtain ⟨x, hx, rx⟩ := z
      exact wpAny_getItem_of (k := toS key) (v := x) (beq_self_eq_true _) D.mapOf hx (k.stay (t := tk + 1) S rx (tk1 1 ht))
    | _ => exact noE e
end
end PL
end
section
namespace PL
section
variable {W : Wd} {c : Fc} {m : Str → Option Value} {X : List (Addr × Obj)} {σ : St} {ps : PZ} {h : Heap} {g : Array GenState} {dr : Drawn} {tk : Nat} {os : OsState} {A : Around} {E : Value → Shared → Prop}
theorem part_lo {hs : HS} {l : V} {vl : Value} {n i : Nat} (r : VR hs l vl) (e : sliceLo n l = some i) : ∃ p : Option (Int × Tok), vl = partValue p ∧ PartR l (p.map (·.1)) ∧ IsPart vl (p.map (·.1)) := by
  cases r <;> simp only [sliceLo, reduceCtorEq] at e
  · exact ⟨none, rfl, .none, .none⟩
  · rename_i i t; exact ⟨some (i, t), rfl, .int i, .int i t⟩
theorem part_hi {hs : HS} {l : V} {vl : Value} {n i : Nat} (r : VR hs l vl) (e : sliceHi n l = some i) : ∃ p : Option (Int × Tok), vl = partValue p ∧ PartR l (p.map (·.1)) ∧ IsPart vl (p.map (·.1)) := by
  cases r <;> simp only [sliceHi, reduceCtorEq] at e
  · exact ⟨none, rfl, .none, .none⟩
  · rename_i i t; exact ⟨some (i, t), rfl, .int i, .int i t⟩
theorem cut_len {α : Type} (l : List α) (i j : Nat) : (cut l i j).length ≤ l.length := by
  unfold cut; rw [List.length_take, List.length_drop]; lia
theorem hi_le {n j : Nat} {u : V} (e : sliceHi n u = some j) : j ≤ n := by
  cases u <;> simp only [sliceHi, reduceCtorEq, Option.some.injEq] at e
  · lia
  · unfold clampI at e; split at e <;> lia
theorem cut_all {α : Type} (l : List α) {i j : Nat} (hj : j ≤ l.length) (e : j - i = l.length) : cut l i j = l := by
  by_cases q : i = 0
  · subst q; unfold cut; rw [List.drop_zero, List.take_of_length_le]; lia
  · have : l.length = 0 := by lia
    have : l = [] := List.eq_nil_of_length_eq_zero this
    subst this; simp [cut]
theorem slice_ok {cx : Cx} (ok : SoOk W cx.so) (S : SR W c m X σ ps h) (K : W.K.In h) {o l u v : V} {x vl vu : Value} {sl : Addr} {σ' : St} {Q : Value → Shared → Prop}
    (ra : VR (hds ps) o x) (rl : VR (hds ps) l vl) (ru : VR (hds ps) u vu) (hs : h.IsSliceOf sl vl vu .none) (e : sliceV cx o l u σ = some (v, σ')) (ht : 1 ≤ tk)
    (k : Hand W c m X (hds ps) σ' v g dr os Q) : wpAny (model W.prog W.w) A (getItem x (.ref sl)) Q E ⟨h, g, dr, tk, os⟩ := by
  refine sobE ok S K ra e (fun s t qq1 hl e => bdE e fun i hi e => bdE e fun j hj e => ?_) fun o A0 qq1 ro e => oListE e fun vs q e1 => bdE e1 fun i hi e2 => bdE e2 fun j hj e3 => ?_
  · obtain ⟨p, rfl, pr, _⟩ := part_lo rl hi
    obtain ⟨q, rfl, qr, _⟩ := part_hi ru hj
    refine wpAny_getItem_str_slice (s := ⟨h, g, dr, tk, os⟩) (l := p) (u := q) (st := none) hs rfl ?_
    have pk : slicePicked (toS s) p q none = List.range' i (j - i) := by
      unfold slicePicked
      rw [toS_len]
      exact str_idx pr qr hi hj
    unfold sliceMade
    rw [pk]
    have k1 := k.eq e
    split
    · rename_i hc
      have hc' : j - i = s.length := by simpa [toS_len] using hc
      rw [cut_all s (hi_le hj) hc'] at k1
      exact k1.stay S (.str _ _ hl) ht
    · have : (⟨((List.range' i (j - i)).filterMap ((toS s).cps[·]?)).toArray⟩ : Str) = toS (cut s i j) := by
        have : (fun x : Nat => (toS s).cps[x]?) = fun x => s[x]? := by funext x; simp [toS]
        rw [this, pick_range]; rfl
      rw [this]
      have hle := Nat.le_trans (cut_len s i j) hl
      exact ⟨by rw [toS_len]; exact lim_line (Nat.le_trans hle (Nat.le_add_right _ _)), k1.stay (t := tk + 1) S (.str _ _ hle) (tk1 1 ht)⟩
  · subst q
    obtain ⟨its, n1, g1, i1, hn⟩ := ro
    obtain ⟨p, rfl, pr, pp⟩ := part_lo rl hi
    obtain ⟨q, rfl, qr, qq⟩ := part_hi ru hj
    refine wpAny_getItem_list_slice (items := its.toArray) ⟨_, g1, rfl, _, rfl⟩ hs pp qq .none (nomatch ·) ?_ (by rw [List.size_toArray, ← i1.len]; exact lim_line hn)
    rw [list_pick pr qr (by rw [← i1.len]; exact hi) (by rw [← i1.len]; exact hj)]
    exact alloc_app (vs := vs) (ws := vs) (its := its) (its' := its) S (il := cut its i j) ((i1.drop i).take (j - i)) e3 (S.F.push _) (S.F.npush S.N _ rfl) ht k
theorem rev_ok (S : SR W c m X σ ps h) {o v : V} {x : Value} {t : Tok} {sl : Addr} {σ' : St} {Q : Value → Shared → Prop}
    (ra : VR (hds ps) o x) (hs : h.IsSliceOf sl .none .none (.int (-1) t)) (e : (cellO σ o fun qq1 ob => oList ob fun vs => allocL vs.reverse σ) = some (v, σ')) (ht : 1 ≤ tk)
    (k : Hand W c m X (hds ps) σ' v g dr os Q) : wpAny (model W.prog W.w) A (getItem x (.ref sl)) Q E ⟨h, g, dr, tk, os⟩ := by
  refine cellLE S ra e fun a A its n vs qq1 qq2 qq3 g1 i1 hn e => ?_
  refine wpAny_getItem_list_slice (items := its.toArray) ⟨_, g1, rfl, _, rfl⟩ hs .none .none (.int (-1) t) (by simp) ?_ (by rw [List.size_toArray, ← i1.len]; exact lim_line hn)
  rw [krv_pick]
  exact alloc_app (vs := vs) (ws := vs) (its := its) (its' := its) S (il := its.reverse) i1.rev e (S.F.push _) (S.F.npush S.N _ rfl) ht k
theorem stored_put {hs : HS} {key : List Nat} {v : V} {y : Value} (rv : VR hs v y) {kvs : List (List Nat × V)} {ks : List (Str × Value)} (i : All2 (KV hs) kvs ks) (nd : (ks.map (·.1)).Nodup) :
    All2 (KV hs) (putS key v kvs) (stored ks (toS key) y) := by
  have key1 : ∀ {kvs : List (List Nat × V)} {ks : List (Str × Value)}, All2 (KV hs) kvs ks → (ks.map (·.1)).Nodup →
      All2 (KV hs) (putS key v kvs) (if ks.any (fun kv => kv.1 = toS key) then ks.map (fun kv => if kv.1 = toS key then (kv.1, y) else kv) else ks ++ [(toS key, y)]) := by
    intro kvs ks i
    induction i with
    | nil => intro _; exact .cons ⟨rfl, rv⟩ .nil
    | @cons a b l mm hab t ih =>
      intro nd
      simp only [List.map_cons, List.nodup_cons] at nd
      obtain ⟨i, w⟩ := a
      obtain ⟨z, u⟩ := b
      obtain ⟨hk, hv⟩ := hab
      simp only at hk hv
      subst hk
      by_cases q : i = key
      · subst q
        have e1 : putS i v ((i, w) :: l) = (i, v) :: l := by simp [putS]
        rw [e1]
        simp only [List.any_cons, decide_true, Bool.true_or, if_true, List.map_cons]
        have e2 : mm.map (fun kv => if kv.1 = toS i then (kv.1, y) else kv) = mm := by
          rw [List.map_congr_left (g := id) (fun kv hkv => ?_), List.map_id]
          rw [if_neg]; rfl
          intro q
          exact nd.1 (q ▸ List.mem_map_of_mem (f := (·.1)) hkv)
        rw [e2]
        exact .cons ⟨rfl, rv⟩ t
      · have q' : ¬ toS i = toS key := fun z => q (by have := congrArg ofS z; rwa [ofS_toS, ofS_toS] at this)
        have e1 : putS key v ((i, w) :: l) = (i, w) :: putS key v l := by simp [putS, q]
        rw [e1]
        simp only [List.any_cons, q', decide_false, Bool.false_or, List.map_cons, if_false]
        have := ih nd.2
        split at this
        · rename_i hc; rw [if_pos hc]; exact .cons ⟨rfl, hv⟩ this
        · rename_i hc; rw [if_neg hc]; exact .cons ⟨rfl, hv⟩ this
  have := key1 i nd
  unfold stored
  exact this
theorem putS_len (key : List Nat) (v : V) : ∀ kvs : List (List Nat × V), (putS key v kvs).length ≤ kvs.length + 1
  | [] => by simp [putS]
  | (i, w) :: r => by
    unfold putS
    split
    · simp
    · have := putS_len key v r
      simp; lia
theorem setSub_ok (S : SR W c m X σ ps h) {o i v : V} {x y z : Value} {σ' : St} {Q : Unit → Shared → Prop}
    (ra : VR (hds ps) o x) (rb : VR (hds ps) i y) (rv : VR (hds ps) v z) (e : setSubV o i v σ = some σ') (ht : 1 ≤ tk)
    (k : ∀ ps' h' t', hds ps' = hds ps → SR W c m X σ' ps' h' → 1 ≤ t' → Q () ⟨h', g, dr, t', os⟩) : wpAny (model W.prog W.w) A (setItem x y z) Q E ⟨h, g, dr, tk, os⟩ := by
  refine cellE S ra e fun a o part qq1 qq2 hp hr e => ?_
  cases hr with
  | @list vs its A1 n1 i1 hn =>
    have g1 := S.at hp (.head _)
    refine intE rb e fun ki u e => gdE e fun hk e => ?_
    have hl : ki.toNat < its.length := i1.len ▸ hk.2
    refine ki_setAt (items := its.toArray) g1 hk.1 (Int.lt_of_lt_of_le (show ki < (its.length : Int) by lia) (Int.le_of_lt (lim63 (i1.len ▸ hn)))) (by rw [List.size_toArray]; lia) ?_
    have q := PySem.IsL.update (g1 : IsL h _ its.toArray n1) (·.setIfInBounds ki.toNat z)
    have e1 : its.toArray.setIfInBounds ki.toNat z = (its.set ki.toNat z).toArray := by apply Array.toList_inj.mp; simp
    rw [e1] at q
    obtain ⟨S', he⟩ := S.put (pre := []) (post := []) (ob := .list (vs.set ki.toNat v)) hp (Heap.SameBut.update ..) q (.list (i1.set _ rv) (by rw [List.length_set]; exact hn))
    exact k _ _ _ he (Option.some.inj e ▸ S') ht
  | @dict kvs ks A1 ob1 d1 i1 b1 y1 =>
    have g1 := S.at hp (.head _)
    refine strE rb e fun key t hl e => gdE e fun hk e => ?_
    have D : h.DictOf (strKind W.prog W.w) A1 ks := Heap.dictOf_iff.mpr ⟨_, g1, d1⟩
    have hk' : kvs.length ≤ LIM := Nat.le_trans hk (by decide)
    refine wpAny_setItem_pairs (k := toS key) (kvs := ks) (beq_self_eq_true _) D (fun h' hi hs => ?_) (i1.len ▸ lim_line (Nat.le_trans hk (show LIMD ≤ LIM + LIM by decide)))
    obtain ⟨ob, hob, hd⟩ := Heap.dictOf_iff.mp hi
    obtain ⟨_, _, _, _, _, _, hnd⟩ := id d1
    obtain ⟨S', he⟩ := S.put (pre := []) (post := []) (ob := .dict (putS key v kvs)) hp hs hob (.dict hd (stored_put rv i1 hnd) (Nat.le_trans (putS_len key v kvs) (Nat.le_trans (Nat.succ_le_succ hk) (by decide))) y1)
    exact k _ h' _ he (Option.some.inj e ▸ S') (tk1 (t := tk) 1 ht)
  | _ => exact noE e
end
end PL
end
section
namespace PL
noncomputable def LR (tb : List Str) (hs : HS) (L : Loc) (m : Str → Option Value) : Prop :=
  ∀ i v, getK i L = some v → ∃ x y, tb[i]? = some x ∧ m x = some y ∧ VR hs v y
theorem LR.mono {tb : List Str} {hs hs' : HS} {L : Loc} {m : Str → Option Value} (r : LR tb hs L m) (p : hs.Le hs') : LR tb hs' L m := fun i v e =>
  let ⟨x, y, h1, h2, h3⟩ := r i v e
  ⟨x, y, h1, h2, h3.mono p⟩
noncomputable def IsNs (o : Obj) (m : Str → Option Value) : Prop := ∃ es ep, o.data = .dict es ep ∧ StrKeys es ∧ ∀ name, nsFind es name = m name
abbrev Cp := Scope × List Nat
noncomputable def LRb (tb : List Str) (hs : HS) (L : Loc) (m : Str → Option Value) (B : List Nat) : Prop :=
  ∀ i ∈ B, ∀ v, getK i L = some v → ∃ x y, tb[i]? = some x ∧ m x = some y ∧ VR hs v y
theorem LRb.mono {tb : List Str} {hs hs' : HS} {L : Loc} {m : Str → Option Value} {B : List Nat} (r : LRb tb hs L m B) (p : hs.Le hs') : LRb tb hs' L m B := fun i hi v e =>
  let ⟨x, y, h1, h2, h3⟩ := r i hi v e
  ⟨x, y, h1, h2, h3.mono p⟩
noncomputable def Vw (W : Wd) (cp : Option Cp) (c : Fc) (env : Env) (m : Str → Option Value) (X : List (Addr × Obj)) (hs : HS) (L : Loc) : Prop := match cp with
  | none => env = c.env ∧ LR W.tb hs L m
  | some sc => ∃ C o mc, env = compEnv sc.1 C c.env ∧ (C, o) ∈ X ∧ IsNs o mc ∧ LRb W.tb hs L mc sc.2
noncomputable def scOf (cs : Scope) (cp : Option Cp) : Scope := match cp with | none => cs | some p => p.1
noncomputable def inB (cp : Option Cp) (i : Nat) : Prop := match cp with | none => True | some p => i ∈ p.2
structure FOkC (W : Wd) (c : Fc) (d : Nat) : Prop where
  frames : c.A.frames = some (c.env :: c.outer)
  hh : c.A.handled = none
  depth : c.A.depth + 3 * d + 2 ≤ 990
  units : c.A.units + 30 * d + 280 ≤ 9800
  X : W.K.In c.base
  T : Top W.p W.loose W.mean W.mg W.mb c.base
  kind : c.cs.kind = .function
noncomputable def CallOk (W : Wd) (call : Nat → List V → St → Option (V × St)) (d : Nat) : Prop :=
  ∀ (f : Nat) (args : List V) (σ : St) (v : V) (σ' : St), f < BIG → call f args σ = some (v, σ') → ∀ (c : Fc), FOkC W c d → ∀ {m : Str → Option Value} {X : List (Addr × Obj)} {ps : PZ} {h : Heap} {tk : Nat} {xs : List Value} {R : Result → Shared → Prop} {g : Array GenState} {dr : Drawn} {os : OsState},
    SR W c m X σ ps h → All2 (VR (hds ps)) args xs → 1 ≤ tk → Hand W c m X (hds ps) σ' v g dr os (fun v s => R (.ok (.ret v)) s) → codeAny (model W.prog W.w) c.A (.call (.ref f) ⟨xs, []⟩) R ⟨h, g, dr, tk, os⟩
structure GOk (W : Wd) (cx : Cx) (d : Nat) : Prop where
  so : SoOk W cx.so
  co : ClsOk W cx
  call : CallOk W cx.call d
section
variable {W : Wd} {cx : Cx} {cs : Scope} {cp : Option Cp} {d : Nat}
structure OkE (W : Wd) (cx : Cx) (cs : Scope) (cp : Option Cp) (d : Nat) (e : PE) (x : PySem.Expr) : Prop where
  h : ∀ (c : Fc), c.cs = cs → FOk W c d → ∀ {env : Env} {m : Str → Option Value} {X : List (Addr × Obj)} {L : Loc} {σ : St} {ps : PZ} {h : Heap} {tk : Nat} {v : V} {σ' : St} {Q : Value → Shared → Prop} {E : Value → Shared → Prop} {g : Array GenState} {dr : Drawn} {os : OsState},
    SR W c m X σ ps h → Vw W cp c env m X (hds ps) L → 1 ≤ tk → evE cx e L σ = some (v, σ') → Hand W c m X (hds ps) σ' v g dr os Q → wpAny (model W.prog W.w) c.A (eval x env) Q E ⟨h, g, dr, tk, os⟩
abbrev HandB (W : Wd) (c : Fc) (m : Str → Option Value) (X : List (Addr × Obj)) (hs : HS) (σ' : St) (b : Bool) (g : Array GenState) (dr : Drawn) (os : OsState) (Q : Bool → Shared → Prop) : Prop :=
  ∀ ps' h' t', hs.Le (hds ps') → SR W c m X σ' ps' h' → 1 ≤ t' → Q b ⟨h', g, dr, t', os⟩
abbrev HandL (W : Wd) (c : Fc) (m : Str → Option Value) (X : List (Addr × Obj)) (hs : HS) (σ' : St) (vs : List V) (g : Array GenState) (dr : Drawn) (os : OsState) (Q : List Value → Shared → Prop) : Prop :=
  ∀ ps' h' t' ys, hs.Le (hds ps') → SR W c m X σ' ps' h' → All2 (VR (hds ps')) vs ys → 1 ≤ t' → Q ys ⟨h', g, dr, t', os⟩
structure OkT (W : Wd) (cx : Cx) (cs : Scope) (cp : Option Cp) (d : Nat) (e : PE) (x : PySem.Expr) : Prop where
  h : ∀ (c : Fc), c.cs = cs → FOk W c d → ∀ {env : Env} {m : Str → Option Value} {X : List (Addr × Obj)} {L : Loc} {σ : St} {ps : PZ} {h : Heap} {tk : Nat} {b : Bool} {σ' : St} {Q : Bool → Shared → Prop} {E : Value → Shared → Prop} {g : Array GenState} {dr : Drawn} {os : OsState},
    SR W c m X σ ps h → Vw W cp c env m X (hds ps) L → 1 ≤ tk → evT cx e L σ = some (b, σ') → HandB W c m X (hds ps) σ' b g dr os Q → wpAny (model W.prog W.w) c.A (isTrue x env (eval x env)) Q E ⟨h, g, dr, tk, os⟩
structure OkEs (W : Wd) (cx : Cx) (cs : Scope) (cp : Option Cp) (d : Nat) (es : List PE) (xs : List PySem.Expr) : Prop where
  h : ∀ (c : Fc), c.cs = cs → FOk W c d → ∀ {pos : Pos} {env : Env} {m : Str → Option Value} {X : List (Addr × Obj)} {L : Loc} {σ : St} {ps : PZ} {h : Heap} {tk : Nat} {vs : List V} {σ' : St} {Q : List Value → Shared → Prop} {E : Value → Shared → Prop} {g : Array GenState} {dr : Drawn} {os : OsState},
    SR W c m X σ ps h → Vw W cp c env m X (hds ps) L → 1 ≤ tk → evEs cx es L σ = some (vs, σ') → HandL W c m X (hds ps) σ' vs g dr os Q → wpAny (model W.prog W.w) c.A (spliced (backTo pos (starEach xs env))) Q E ⟨h, g, dr, tk, os⟩
theorem Vw.mono {c : Fc} {env : Env} {m : Str → Option Value} {X : List (Addr × Obj)} {hs hs' : HS} {L : Loc} (V : Vw W cp c env m X hs L) (p : hs.Le hs') : Vw W cp c env m X hs' L := by
  unfold Vw at V ⊢
  split at V
  · exact ⟨V.1, V.2.mono p⟩
  · obtain ⟨C, o, mc, h1, h2, h3, h4⟩ := V
    exact ⟨C, o, mc, h1, h2, h3, h4.mono p⟩
theorem Vw.scope {c : Fc} {env : Env} {m : Str → Option Value} {X : List (Addr × Obj)} {hs : HS} {L : Loc} (V : Vw W cp c env m X hs L) : env.scope = scOf c.cs cp ∧ env.globals = mainGlobals ∧ env.builtins = builtinsNs := by
  unfold Vw at V
  split at V
  · obtain ⟨rfl, _⟩ := V; exact ⟨rfl, rfl, rfl⟩
  · obtain ⟨C, o, mc, rfl, _⟩ := V; exact ⟨rfl, rfl, rfl⟩
theorem Vw.kindOf {c : Fc} {env : Env} {m : Str → Option Value} {X : List (Addr × Obj)} {hs : HS} {L : Loc} (V : Vw W cp c env m X hs L) (hc : c.cs = cs) {x : Str} {k : NameKind} (e : (scOf cs cp).names.lookup x = some k) : env.kindOf x = some k := by
  unfold Env.kindOf
  rw [V.scope.1, hc]; exact e
theorem Vw.kind {c : Fc} {env : Env} {m : Str → Option Value} {X : List (Addr × Obj)} {hs : HS} {L : Loc} (V : Vw W cp c env m X hs L) (hc : c.cs = cs) (e : (scOf cs cp).kind = .function) : env.scope.kind = .function := by
  rw [V.scope.1, hc]; exact e
theorem Vw.read {c : Fc} {env : Env} {m : Str → Option Value} {X : List (Addr × Obj)} {σ : St} {ps : PZ} {h : Heap} {L : Loc} (z : Vw W cp c env m X (hds ps) L) (S : SR W c m X σ ps h) {i : Nat} {v : V} (hb : inB cp i) (e : getK i L = some v) :
    ∃ x y mm, W.tb[i]? = some x ∧ h.Ns env.locals mm ∧ mm x = some y ∧ VR (hds ps) v y := by
  unfold Vw at z
  split at z
  · obtain ⟨rfl, r⟩ := z
    obtain ⟨x, y, h1, h2, h3⟩ := r i v e
    exact ⟨x, y, m, h1, S.F.ns, h2, h3⟩
  · obtain ⟨C, o, mc, rfl, hX, ⟨es, ep, q1, q2, q3⟩, r⟩ := z
    obtain ⟨x, y, h1, h2, h3⟩ := r i hb v e
    exact ⟨x, y, mc, h1, ⟨o, es, ep, (S.N _ (List.mem_append_right _ hX)).1, q1, q2, q3⟩, h2, h3⟩
theorem HandB.up {c : Fc} {m : Str → Option Value} {X : List (Addr × Obj)} {g : Array GenState} {dr : Drawn} {os : OsState} {hs : HS} {v : Bool} {s : St} {Q : Bool → Shared → Prop} {ps1 : PZ} (k : HandB W c m X hs s v g dr os Q) (p : hs.Le (hds ps1)) : HandB W c m X (hds ps1) s v g dr os Q := fun ps h t q S ht => k ps h t (p.trans q) S ht
theorem HandB.eq {c : Fc} {m : Str → Option Value} {X : List (Addr × Obj)} {g : Array GenState} {dr : Drawn} {os : OsState} {hs : HS} {a v : Bool} {s σ' : St} {Q : Bool → Shared → Prop} (k : HandB W c m X hs σ' v g dr os Q) (e : some (a, s) = some (v, σ')) : HandB W c m X hs s a g dr os Q := by cases e; exact k
theorem HandL.up {c : Fc} {m : Str → Option Value} {X : List (Addr × Obj)} {g : Array GenState} {dr : Drawn} {os : OsState} {hs : HS} {v : List V} {s : St} {Q : List Value → Shared → Prop} {ps1 : PZ} (k : HandL W c m X hs s v g dr os Q) (p : hs.Le (hds ps1)) : HandL W c m X (hds ps1) s v g dr os Q := fun ps h t y q S r ht => k ps h t y (p.trans q) S r ht
theorem HandL.eq {c : Fc} {m : Str → Option Value} {X : List (Addr × Obj)} {g : Array GenState} {dr : Drawn} {os : OsState} {hs : HS} {a v : List V} {s σ' : St} {Q : List Value → Shared → Prop} (k : HandL W c m X hs σ' v g dr os Q) (e : some (a, s) = some (v, σ')) : HandL W c m X hs s a g dr os Q := by cases e; exact k
theorem FOk.u30 {c : Fc} {d : Nat} (ok : FOk W c d) : c.A.units + 30 < cLine := by have := ok.units; show _ < 9900; lia
theorem okC_none {k : Nat} {pos : Pos} : OkE W cx cs cp d (.const .none) (.Constant .none k pos) := by
  refine ⟨?_⟩
  intro c hc ok env m X L σ ps h tk v σ' Q E g dr os S V ht e H
  exact wpAny_Constant_none ((H.eq (evE_const.symm.trans e)).stay S .none ht)
theorem okC_bool {b : Bool} {k : Nat} {pos : Pos} : OkE W cx cs cp d (.const (.bool b)) (.Constant (.bool b) k pos) := by
  refine ⟨?_⟩
  intro c hc ok env m X L σ ps h tk v σ' Q E g dr os S V ht e H
  exact wpAny_Constant_bool ((H.eq (evE_const.symm.trans e)).stay S (.bool b) ht)
theorem okC_int {i : Int} {k : Nat} {pos : Pos} : OkE W cx cs cp d (.const (.int i)) (.Constant (.int i) k pos) := by
  refine ⟨?_⟩
  intro c hc ok env m X L σ ps h tk v σ' Q E g dr os S V ht e H
  exact wpAny_Constant_int ((H.eq (evE_const.symm.trans e)).stay (t := tk + 1) S (.int i _) (tk1 1 ht))
theorem okC_str {l : List Nat} {x : Str} {k : Nat} {pos : Pos} (hx : toS l = x) (hl : l.length ≤ LIM) : OkE W cx cs cp d (.const (.str l)) (.Constant (.str x) k pos) := by
  subst hx
  refine ⟨?_⟩
  intro c hc ok env m X L σ ps h tk v σ' Q E g dr os S V ht e H
  exact wpAny_Constant_str ((H.eq (evE_const.symm.trans e)).stay (t := tk + 1) S (.str l _ hl) (tk1 1 ht))
theorem ok_loc {i : Nat} {x : Str} {pos : Pos} (hi : W.tb[i]? = some x) (hb : inB cp i) (hk : (scOf cs cp).names.lookup x = some .local) (hs : (scOf cs cp).kind = .function) (hd : (x == ("__debug__" : Str)) = false) : OkE W cx cs cp d (.loc i) (.Name x pos) := by
  refine ⟨?_⟩
  intro c hc ok env m X L σ ps h tk v σ' Q E g dr os S V ht e H
  refine mp0 (evE_loc.symm.trans e) fun u hu e => ?_
  obtain ⟨x', y, mm, h1, h2, h3, h4⟩ := V.read S hb hu
  obtain rfl := Option.some.inj (h1.symm.trans hi)
  exact wpAny_Name (wpAny_loadName_local (V.kind hc hs) (V.kindOf hc hk) h2 h3 ((H.eq e).stay S h4 ht)) hd
theorem ok_glob {v : V} {y : Value} {x : Str} {pos : Pos} (hr : VR .nil v y) (hg : nsIn W.K mainGlobals x = some (some y)) (hk : (scOf cs cp).names.lookup x = some .globalImplicit) (hs : (scOf cs cp).kind = .function) (hd : (x == ("__debug__" : Str)) = false) :
    OkE W cx cs cp d (.glob v) (.Name x pos) := by
  refine ⟨?_⟩
  intro c hc ok env m X L σ ps h tk v' σ' Q E g dr os S V ht e H
  obtain ⟨g0, G0, F0⟩ := S.F
  exact nameG_K F0 (ok.KR G0) (ok.TR G0) hg ((H.eq (evE_glob.symm.trans e)).stay S (hr.mono .nil) ht) V.scope.2.1 (V.kind hc hs) (V.kindOf hc hk) hd
theorem name_bt {c : Fc} {env : Env} {m : Str → Option Value} {X : List (Addr × Obj)} {σ : St} {ps : PZ} {h : Heap} {L : Loc} {tk : Nat} {Q E : Value → Shared → Prop} {g : Array GenState} {dr : Drawn} {os : OsState} (S : SR W c m X σ ps h) (ok : FOk W c d) (hc : c.cs = cs)
    (V : Vw W cp c env m X (hds ps) L) {x : Str} {y : Value} {pos : Pos} (hg : nsIn W.K mainGlobals x = some none) (hv : bootBuiltins x = some y) (hn : x ≠ "__name__") (hk : (scOf cs cp).names.lookup x = some .globalImplicit) (hs : (scOf cs cp).kind = .function) (hd : (x == ("__debug__" : Str)) = false)
    (k : Q y ⟨h, g, dr, tk, os⟩) : wpAny (model W.prog W.w) c.A (eval (.Name x pos) env) Q E ⟨h, g, dr, tk, os⟩ := by
  refine Calls.Name_function_global (V.kind hc hs) (V.kindOf hc hk) (Calls.loadGlobal_builtin (env := env) (mg := W.mg) (mb := W.mb) ?_ (mg_none_of ok.X (topRead_of ok.T).g hg) ?_ (((topRead_of ok.T).builtins x hn).trans hv) k) hd
  · rw [V.scope.2.1]; exact (topRead_of ok.T).g.keeps S.F.base
  · rw [V.scope.2.2]; exact (topRead_of ok.T).b.keeps S.F.base
theorem ok_bin {op : BOp} {l r : PE} {x y : PySem.Expr} {pos : Pos} (hl : OkE W cx cs cp d l x) (hr : OkE W cx cs cp d r y) : OkE W cx cs cp d (.bin op l r) (.BinOp x (opB op) y pos) := by
  refine ⟨?_⟩
  intro c hc ok env m X L σ ps h tk v σ' Q E g dr os S V ht e H
  refine bd2 (evE_bin.symm.trans e) fun a σ1 e1 e => bd2 e fun b σ2 e2 e3 => ?_
  exact wpAny_BinOp (hl.1 c hc ok S V ht e1 fun ps1 h1 t1 y1 p1 S1 r1 ht1 => hr.1 c hc ok S1 (V.mono p1) ht1 e2 fun ps2 h2 t2 y2 p2 S2 r2 ht2 => bin_ok S2 (r1.mono p2) r2 e3 ht2 (H.up (p1.trans p2)))
theorem ok_cmp (G : GOk W cx d) {op : COp} {l r : PE} {x y : PySem.Expr} {pos : Pos} (hl : OkE W cx cs cp d l x) (hr : OkE W cx cs cp d r y) (hm : behindInMarks (opC op) y = false) : OkE W cx cs cp d (.cmp op l r) (.Compare x [opC op] [y] pos) := by
  refine ⟨?_⟩
  intro c hc ok env m X L σ ps h tk v σ' Q E g dr os S V ht e H
  refine bd2 (evE_cmp.symm.trans e) fun a σ1 e1 e => bd2 e fun b σ2 e2 e => mp0 e fun t e3 e => ?_
  exact wpAny_Compare1 (hl.1 c hc ok S V ht e1 fun ps1 h1 t1 y1 p1 S1 r1 ht1 => hr.1 c hc ok S1 (V.mono p1) ht1 e2 fun ps2 h2 t2 y2 p2 S2 r2 ht2 => cmp_ok G.so S2 (S2.K ok) (r1.mono p2) r2 e3 ok.u30 ht2 fun t ht => (H.eq e) ps2 h2 t _ (p1.trans p2) S2 (.bool _) ht) hm
end
end PL
end
section
namespace PL
section
variable {W : Wd} {cx : Cx} {cs : Scope} {cp : Option Cp} {d : Nat}
theorem wpAny_release {M : Model} {A : Around} {E : Value → Shared → Prop} {s : Shared} {vs keep : List Value} {Q : Unit → Shared → Prop} (h : Q () s) : wpAny M A (release vs keep) Q E s := fun Γ p qq1 => by
  rw [Sem.wp_release]; exact h
theorem chain_cons {M : Model} {A : Around} {E Q : Value → Shared → Prop} {s : Shared} {pos : Pos} {left : Value} {op op2 : CmpOp} {ops : List CmpOp} {r r2 : Sem Value} {rs : List (Sem Value)}
    (h : wpAny M A r (fun rv s₁ => wpAny M A (compareOp op left rv) (fun c s₂ => wpAny M A (truthy c) (fun b s₃ => if b then wpAny M A (compareChain pos rv (op2 :: ops) (r2 :: rs)) Q E s₃ else Q c s₃) E s₂) E s₁) E s) :
    wpAny M A (compareChain pos left (op :: op2 :: ops) (r :: r2 :: rs)) Q E s := by
  show wpAny M A (do
    let rv ← holding [left] r
    standAt pos
    let c ← holding [left, rv] (compareOp op left rv)
    release [left, rv] [c]
    if ← holding [c, rv] (truthy c) then compareChain pos rv (op2 :: ops) (r2 :: rs) else pure c) Q E s
  refine wpAny_bind (wpAny_holding (wpAny_mono h (fun rv s₁ h₁ => wpAny_bind (wpAny_standAt (wpAny_bind (wpAny_holding (wpAny_mono h₁ (fun c s₂ h₂ => wpAny_bind (wpAny_release (wpAny_bind (wpAny_holding (wpAny_mono h₂ (fun b s₃ h₃ => ?_) fun qq1 qq2 e => e))))) fun qq1 qq2 e => e))))) fun qq1 qq2 e => e))
  cases b with
  | true => exact h₃
  | false => exact wpAny_pure h₃
theorem chain_one {M : Model} {A : Around} {E Q : Value → Shared → Prop} {s : Shared} {pos : Pos} {left : Value} {op : CmpOp} {r : Sem Value}
    (h : wpAny M A r (fun rv s₁ => wpAny M A (compareOp op left rv) Q E s₁) E s) :
    wpAny M A (compareChain pos left [op] [r]) Q E s := by
  show wpAny M A (do
    let rv ← holding [left] r
    standAt pos
    operate [left, rv] (compareOp op left rv)) Q E s
  exact wpAny_bind (wpAny_holding (wpAny_mono h (fun rv s₁ h₁ => wpAny_bind (wpAny_standAt (wpAny_operating h₁))) fun qq1 qq2 e => e))
theorem test_cons {M : Model} {A : Around} {E : Value → Shared → Prop} {Q : Bool → Shared → Prop} {s : Shared} {pos : Pos} {left : Value} {op op2 : CmpOp} {ops : List CmpOp} {r r2 : Sem Value} {rs : List (Sem Value)}
    (h : wpAny M A r (fun rv s₁ => wpAny M A (compareOp op left rv) (fun c s₂ => wpAny M A (truthy c) (fun b s₃ => if b then wpAny M A (testChain pos rv (op2 :: ops) (r2 :: rs)) Q E s₃ else Q false s₃) E s₂) E s₁) E s) :
    wpAny M A (testChain pos left (op :: op2 :: ops) (r :: r2 :: rs)) Q E s := by
  show wpAny M A (do
    let rv ← holding [left] r
    standAt pos
    let c ← holding [left, rv] (compareOp op left rv)
    release [left, rv] [c]
    if ← holding [c, rv] (truthy c) then testChain pos rv (op2 :: ops) (r2 :: rs) else pure false) Q E s
  refine wpAny_bind (wpAny_holding (wpAny_mono h (fun rv s₁ h₁ => wpAny_bind (wpAny_standAt (wpAny_bind (wpAny_holding (wpAny_mono h₁ (fun c s₂ h₂ => wpAny_bind (wpAny_release (wpAny_bind (wpAny_holding (wpAny_mono h₂ (fun b s₃ h₃ => ?_) fun qq1 qq2 e => e))))) fun qq1 qq2 e => e))))) fun qq1 qq2 e => e))
  cases b with
  | true => exact h₃
  | false => exact wpAny_pure h₃
theorem test_one {M : Model} {A : Around} {E : Value → Shared → Prop} {Q : Bool → Shared → Prop} {s : Shared} {pos : Pos} {left : Value} {op : CmpOp} {r : Sem Value}
    (h : wpAny M A r (fun rv s₁ => wpAny M A (compareOp op left rv) (fun c s₂ => wpAny M A (truthy c) Q E s₂) E s₁) E s) :
    wpAny M A (testChain pos left [op] [r]) Q E s := by
  show wpAny M A (do
    let rv ← holding [left] r
    standAt pos
    let c ← operate [left, rv] (compareOp op left rv)
    holding [c] (truthy c)) Q E s
  exact wpAny_bind (wpAny_holding (wpAny_mono h (fun rv s₁ h₁ => wpAny_bind (wpAny_standAt (wpAny_bind (wpAny_operating (wpAny_mono h₁ (fun c s₂ h₂ => wpAny_holding h₂) fun qq1 qq2 e => e))))) fun qq1 qq2 e => e))
theorem ok_chain (G : GOk W cx d) {o1 o2 : COp} {a b z : PE} {x y w : PySem.Expr} {pos : Pos} (ha : OkE W cx cs cp d a x) (hb : OkE W cx cs cp d b y) (hz : OkE W cx cs cp d z w) (hm : behindInMarks (opC o2) w = false) :
    OkE W cx cs cp d (.chain o1 o2 a b z) (.Compare x [opC o1, opC o2] [y, w] pos) := by
  refine ⟨?_⟩
  intro c hc ok env m X L σ ps h tk v σ' Q E g dr os S V ht e H
  refine bd2 (evE_chain.symm.trans e) fun a1 σ1 e1 e => bd2 e fun b1 σ2 e2 e => bdE e fun t e3 e4 => ?_
  rw [arm_eval_Compare]
  refine wpAny_bind (ha.1 c hc ok S V ht e1 fun ps1 h1 t1 y1 p1 S1 r1 ht1 => ?_)
  show wpAny _ _ (compareChain pos y1 [opC o1, opC o2] [eval y env, markedBehindIn (opC o2) w (eval w env)]) _ _ _
  rw [markedBehindIn_of_false hm]
  refine chain_cons (hb.1 c hc ok S1 (V.mono p1) ht1 e2 fun ps2 h2 t2 y2 p2 S2 r2 ht2 => cmp_ok G.so S2 (S2.K ok) (r1.mono p2) r2 e3 ok.u30 ht2 fun t3 ht3 => wpAny_truthy_bool ?_)
  cases t with
  | false => exact (H.eq e4) ps2 h2 t3 _ (p1.trans p2) S2 (.bool _) ht3
  | true => exact bd2 e4 fun z1 σ3 e5 e => mp0 e fun u e6 e => chain_one (hz.1 c hc ok S2 (V.mono (p1.trans p2)) ht3 e5 fun ps3 h3 t4 y3 p3 S3 r3 ht4 => cmp_ok G.so S3 (S3.K ok) (r2.mono p3) r3 e6 ok.u30 ht4 fun t5 ht5 => (H.eq e) ps3 h3 t5 _ ((p1.trans p2).trans p3) S3 (.bool _) ht5)
theorem evT_chain {L : Loc} {σ : St} {o1 o2 : COp} {x y z : PE} : evT cx (.chain o1 o2 x y z) L σ = (evE cx (.chain o1 o2 x y z) L σ).bind fun (v, σ1) => (truthyV cx σ1 v).map fun b => (b, σ1) := rfl
theorem evT_cmp {L : Loc} {σ : St} {o1 : COp} {x y : PE} : evT cx (.cmp o1 x y) L σ = (evE cx (.cmp o1 x y) L σ).bind fun (v, σ1) => (truthyV cx σ1 v).map fun b => (b, σ1) := rfl
theorem tstE {G : Prop} {b b' : Bool} {s σ0 σ' : St} {v0 : V} (e7 : (truthyV cx σ0 v0).map (fun b => (b, σ0)) = some (b', σ')) (e : some (V.bool b, s) = some (v0, σ0)) (k : some (b, s) = some (b', σ') → G) : G := by
  cases e; exact k e7
theorem okT_chain (G : GOk W cx d) {o1 o2 : COp} {a b z : PE} {x y w : PySem.Expr} {pos : Pos} (ha : OkE W cx cs cp d a x) (hb : OkE W cx cs cp d b y) (hz : OkE W cx cs cp d z w) (hm : behindInMarks (opC o2) w = false) :
    OkT W cx cs cp d (.chain o1 o2 a b z) (.Compare x [opC o1, opC o2] [y, w] pos) := by
  refine ⟨?_⟩
  intro c hc ok env m X L σ ps h tk v σ' Q E g dr os S V ht e H
  refine bd2 (evT_chain.symm.trans e) fun v0 σ0 e0 e7 => bd2 (evE_chain.symm.trans e0) fun a1 σ1 e1 e => bd2 e fun b1 σ2 e2 e => bdE e fun t e3 e4 => ?_
  rw [arm_isTrue_Compare]
  refine wpAny_bind (ha.1 c hc ok S V ht e1 fun ps1 h1 t1 y1 p1 S1 r1 ht1 => ?_)
  show wpAny _ _ (testChain pos y1 [opC o1, opC o2] [eval y env, markedBehindIn (opC o2) w (eval w env)]) _ _ _
  rw [markedBehindIn_of_false hm]
  refine test_cons (hb.1 c hc ok S1 (V.mono p1) ht1 e2 fun ps2 h2 t2 y2 p2 S2 r2 ht2 => cmp_ok G.so S2 (S2.K ok) (r1.mono p2) r2 e3 ok.u30 ht2 fun t3 ht3 => wpAny_truthy_bool ?_)
  cases t with
  | false => exact tstE e7 e4 fun e => (H.eq e) ps2 h2 t3 (p1.trans p2) S2 ht3
  | true => exact bd2 e4 fun z1 σ3 e5 e => mp0 e fun u e6 e => tstE e7 e fun e => test_one (hz.1 c hc ok S2 (V.mono (p1.trans p2)) ht3 e5 fun ps3 h3 t4 y3 p3 S3 r3 ht4 => cmp_ok G.so S3 (S3.K ok) (r2.mono p3) r3 e6 ok.u30 ht4 fun t5 ht5 => wpAny_truthy_bool ((H.eq e) ps3 h3 t5 ((p1.trans p2).trans p3) S3 ht5))
theorem okT_cmp (G : GOk W cx d) {op : COp} {l r : PE} {x y : PySem.Expr} {pos : Pos} (hl : OkE W cx cs cp d l x) (hr : OkE W cx cs cp d r y) (hm : behindInMarks (opC op) y = false) : OkT W cx cs cp d (.cmp op l r) (.Compare x [opC op] [y] pos) := by
  refine ⟨?_⟩
  intro c hc ok env m X L σ ps h tk v σ' Q E g dr os S V ht e H
  refine bd2 (evT_cmp.symm.trans e) fun v0 σ0 e0 e7 => bd2 (evE_cmp.symm.trans e0) fun a σ1 e1 e => bd2 e fun b σ2 e2 e => mp0 e fun t e3 e => tstE e7 e fun e => ?_
  exact wpAny_isTrue_Compare1 (hl.1 c hc ok S V ht e1 fun ps1 h1 t1 y1 p1 S1 r1 ht1 => hr.1 c hc ok S1 (V.mono p1) ht1 e2 fun ps2 h2 t2 y2 p2 S2 r2 ht2 => cmp_ok G.so S2 (S2.K ok) (r1.mono p2) r2 e3 ok.u30 ht2 fun t ht => wpAny_truthy_bool ((H.eq e) ps2 h2 t (p1.trans p2) S2 ht)) hm
theorem okT_val (G : GOk W cx d) {e : PE} {x : PySem.Expr} (he : OkE W cx cs cp d e x) (hv : ∀ L σ, evT cx e L σ = (evE cx e L σ).bind fun (v, σ1) => (truthyV cx σ1 v).map fun b => (b, σ1))
    (hx : ∀ env whole, isTrue x env whole = (do let v ← whole; standAt x.pos; holding [v] (truthy v))) : OkT W cx cs cp d e x := by
  refine ⟨?_⟩
  intro c hc ok env m X L σ ps h tk v σ' Q E g dr os S V ht ee H
  refine bd2 ((hv L σ).symm.trans ee) fun v0 σ0 e1 e => mp0 e fun bb e2 e => ?_
  exact wpAny_isTrue_value (he.1 c hc ok S V ht e1 fun ps1 h1 t1 y1 p1 S1 r1 ht1 => truthy_ok G.so S1 (S1.K ok) r1 e2 ht1 fun t ht => (H.eq e) ps1 h1 t p1 S1 ht) (hx _ _)
theorem okT_not {e : PE} {x : PySem.Expr} {pos : Pos} (he : OkT W cx cs cp d e x) : OkT W cx cs cp d (.notE e) (.UnaryOp .Not x pos) := by
  refine ⟨?_⟩
  intro c hc ok env m X L σ ps h tk v σ' Q E g dr os S V ht ee H
  exact mp2 (evT_notE.symm.trans ee) fun b σ0 e1 e => wpAny_isTrue_Not (he.1 c hc ok S V ht e1 (H.eq e))
structure OkA (W : Wd) (cx : Cx) (cs : Scope) (cp : Option Cp) (d : Nat) (op : BoolOp) (e : PE) (xs : List PySem.Expr) : Prop where
  h : ∀ (c : Fc), c.cs = cs → FOk W c d → ∀ {env : Env} {m : Str → Option Value} {X : List (Addr × Obj)} {L : Loc} {σ : St} {ps : PZ} {h : Heap} {tk : Nat} {b : Bool} {σ' : St} {Q : Bool → Shared → Prop} {E : Value → Shared → Prop} {g : Array GenState} {dr : Drawn} {os : OsState},
    SR W c m X σ ps h → Vw W cp c env m X (hds ps) L → 1 ≤ tk → evT cx e L σ = some (b, σ') → HandB W c m X (hds ps) σ' b g dr os Q → wpAny (model W.prog W.w) c.A (allTrue op xs env) Q E ⟨h, g, dr, tk, os⟩
theorem okA_one {op : BoolOp} {e : PE} {x : PySem.Expr} (he : OkT W cx cs cp d e x) : OkA W cx cs cp d op e [x] := by
  refine ⟨?_⟩
  intro c hc ok env m X L σ ps h tk v σ' Q E g dr os S V ht ee H
  cases op with
  | And =>
    refine wpAny_allTrue_And_cons (he.1 c hc ok S V ht ee fun ps1 h1 t1 p1 S1 ht1 => ?_)
    cases v with
    | true => exact wpAny_allTrue_And_nil (H ps1 h1 t1 p1 S1 ht1)
    | false => exact H ps1 h1 t1 p1 S1 ht1
  | Or =>
    refine wpAny_allTrue_Or_cons (he.1 c hc ok S V ht ee fun ps1 h1 t1 p1 S1 ht1 => ?_)
    cases v with
    | false => exact wpAny_allTrue_Or_nil (H ps1 h1 t1 p1 S1 ht1)
    | true => exact H ps1 h1 t1 p1 S1 ht1
theorem okA_and {l r : PE} {x : PySem.Expr} {xs : List PySem.Expr} (hl : OkT W cx cs cp d l x) (hr : OkA W cx cs cp d .And r xs) : OkA W cx cs cp d .And (.andE l r) (x :: xs) := by
  refine ⟨?_⟩
  intro c hc ok env m X L σ ps h tk v σ' Q E g dr os S V ht ee H
  refine bd2 (evT_andE.symm.trans ee) fun b σ0 e1 e2 => wpAny_allTrue_And_cons (hl.1 c hc ok S V ht e1 fun ps1 h1 t1 p1 S1 ht1 => ?_)
  cases b with
  | true => exact hr.1 c hc ok S1 (V.mono p1) ht1 e2 (H.up p1)
  | false => exact (H.eq e2) ps1 h1 t1 p1 S1 ht1
theorem okA_or {l r : PE} {x : PySem.Expr} {xs : List PySem.Expr} (hl : OkT W cx cs cp d l x) (hr : OkA W cx cs cp d .Or r xs) : OkA W cx cs cp d .Or (.orE l r) (x :: xs) := by
  refine ⟨?_⟩
  intro c hc ok env m X L σ ps h tk v σ' Q E g dr os S V ht ee H
  refine bd2 (evT_orE.symm.trans ee) fun b σ0 e1 e2 => wpAny_allTrue_Or_cons (hl.1 c hc ok S V ht e1 fun ps1 h1 t1 p1 S1 ht1 => ?_)
  cases b with
  | false => exact hr.1 c hc ok S1 (V.mono p1) ht1 e2 (H.up p1)
  | true => exact (H.eq e2) ps1 h1 t1 p1 S1 ht1
theorem okT_bool {op : BoolOp} {e : PE} {xs : List PySem.Expr} {pos : Pos} (he : OkA W cx cs cp d op e xs) : OkT W cx cs cp d e (.BoolOp op xs pos) := by
  refine ⟨?_⟩
  intro c hc ok env m X L σ ps h tk v σ' Q E g dr os S V ht ee H
  exact wpAny_isTrue_BoolOp (he.1 c hc ok S V ht ee H)
structure OkB (W : Wd) (cx : Cx) (cs : Scope) (cp : Option Cp) (d : Nat) (op : BoolOp) (e : PE) (xs : List PySem.Expr) : Prop where
  h : ∀ (c : Fc), c.cs = cs → FOk W c d → ∀ {pos : Pos} {env : Env} {m : Str → Option Value} {X : List (Addr × Obj)} {L : Loc} {σ : St} {ps : PZ} {h : Heap} {tk : Nat} {v : V} {σ' : St} {Q : Value → Shared → Prop} {E : Value → Shared → Prop} {g : Array GenState} {dr : Drawn} {os : OsState},
    SR W c m X σ ps h → Vw W cp c env m X (hds ps) L → 1 ≤ tk → evE cx e L σ = some (v, σ') → Hand W c m X (hds ps) σ' v g dr os Q → wpAny (model W.prog W.w) c.A (boolOp pos op (evalEach xs env)) Q E ⟨h, g, dr, tk, os⟩
theorem okB_one {op : BoolOp} {e : PE} {x : PySem.Expr} (he : OkE W cx cs cp d e x) : OkB W cx cs cp d op e [x] := by
  refine ⟨?_⟩
  intro c hc ok pos env m X L σ ps h tk v σ' Q E g dr os S V ht ee H
  exact he.1 c hc ok S V ht ee H
theorem okB_and (G : GOk W cx d) {l r : PE} {x y : PySem.Expr} {xs : List PySem.Expr} (hl : OkE W cx cs cp d l x) (hr : OkB W cx cs cp d .And r (y :: xs)) : OkB W cx cs cp d .And (.andE l r) (x :: y :: xs) := by
  refine ⟨?_⟩
  intro c hc ok pos env m X L σ ps h tk v σ' Q E g dr os S V ht ee H
  refine bd2 (evE_andE.symm.trans ee) fun v0 σ0 e1 e => bdE e fun b e2 e3 => ?_
  refine wpAny_bind (m := eval x env) (hl.1 c hc ok S V ht e1 fun ps1 h1 t1 y1 p1 S1 r1 ht1 => wpAny_bind (wpAny_standAt (wpAny_bind (wpAny_holding (truthy_ok G.so S1 (S1.K ok) r1 e2 ht1 fun t2 ht2 => ?_)))))
  cases b with
  | true => exact hr.1 c hc ok S1 (V.mono p1) ht2 e3 (H.up p1)
  | false => exact wpAny_pure ((H.eq e3) ps1 h1 t2 y1 p1 S1 r1 ht2)
theorem okB_or (G : GOk W cx d) {l r : PE} {x y : PySem.Expr} {xs : List PySem.Expr} (hl : OkE W cx cs cp d l x) (hr : OkB W cx cs cp d .Or r (y :: xs)) : OkB W cx cs cp d .Or (.orE l r) (x :: y :: xs) := by
  refine ⟨?_⟩
  intro c hc ok pos env m X L σ ps h tk v σ' Q E g dr os S V ht ee H
  refine bd2 (evE_orE.symm.trans ee) fun v0 σ0 e1 e => bdE e fun b e2 e3 => ?_
  refine wpAny_bind (m := eval x env) (hl.1 c hc ok S V ht e1 fun ps1 h1 t1 y1 p1 S1 r1 ht1 => wpAny_bind (wpAny_standAt (wpAny_bind (wpAny_holding (truthy_ok G.so S1 (S1.K ok) r1 e2 ht1 fun t2 ht2 => ?_)))))
  cases b with
  | false => exact hr.1 c hc ok S1 (V.mono p1) ht2 e3 (H.up p1)
  | true => exact wpAny_pure ((H.eq e3) ps1 h1 t2 y1 p1 S1 r1 ht2)
theorem ok_bool {op : BoolOp} {e : PE} {xs : List PySem.Expr} {pos : Pos} (he : OkB W cx cs cp d op e xs) : OkE W cx cs cp d e (.BoolOp op xs pos) := by
  refine ⟨?_⟩
  intro c hc ok env m X L σ ps h tk v σ' Q E g dr os S V ht ee H
  rw [arm_eval_BoolOp]
  exact he.1 c hc ok S V ht ee H
theorem ok_not (G : GOk W cx d) {e : PE} {x : PySem.Expr} {pos : Pos} (he : OkE W cx cs cp d e x) : OkE W cx cs cp d (.notE e) (.UnaryOp .Not x pos) := by
  refine ⟨?_⟩
  intro c hc ok env m X L σ ps h tk v σ' Q E g dr os S V ht ee H
  refine bd2 (evE_notE.symm.trans ee) fun v0 σ0 e1 e => mp0 e fun b e2 e => ?_
  exact wpAny_UnaryOp (he.1 c hc ok S V ht e1 fun ps1 h1 t1 y1 p1 S1 r1 ht1 => not_value (truthy_ok G.so S1 (S1.K ok) r1 e2 ht1 fun t ht => (H.eq e) ps1 h1 t _ p1 S1 (.bool _) ht))
theorem ok_neg {e : PE} {x : PySem.Expr} {pos : Pos} (he : OkE W cx cs cp d e x) : OkE W cx cs cp d (.neg e) (.UnaryOp .USub x pos) := by
  refine ⟨?_⟩
  intro c hc ok env m X L σ ps h tk v σ' Q E g dr os S V ht ee H
  refine bd2 (evE_neg.symm.trans ee) fun v0 σ0 e1 e => wpAny_UnaryOp (he.1 c hc ok S V ht e1 fun ps1 h1 t1 y1 p1 S1 r1 ht1 => ?_)
  exact intE (f := fun i => some (.int (-i), σ0)) r1 e fun i t e => PyProof.Rows.neg_int ((H.eq e) ps1 h1 (t1 + 1) _ p1 S1 (.int _ _) (tk1 1 ht1))
theorem ok_ife (G : GOk W cx d) {t b o : PE} {x y z : PySem.Expr} {pos : Pos} (ht' : OkT W cx cs cp d t x) (hb : OkE W cx cs cp d b y) (ho : OkE W cx cs cp d o z) : OkE W cx cs cp d (.ife t b o) (.IfExp x y z pos) := by
  refine ⟨?_⟩
  intro c hc ok env m X L σ ps h tk v σ' Q E g dr os S V ht ee H
  refine bd2 (evE_ife.symm.trans ee) fun v0 σ0 e1 e2 => wpAny_IfExp (ht'.1 c hc ok S V ht e1 fun ps1 h1 t1 p1 S1 ht1 => ?_)
  cases v0 with
  | true => exact hb.1 c hc ok S1 (V.mono p1) ht1 e2 (H.up p1)
  | false => exact ho.1 c hc ok S1 (V.mono p1) ht1 e2 (H.up p1)
end
end PL
end
section
namespace PL
section
variable {W : Wd} {cx : Cx} {cs : Scope} {cp : Option Cp} {d : Nat}
theorem ok_attr (G : GOk W cx d) {e : PE} {f : Nat} {x : PySem.Expr} {nm : Str} {pos : Pos} (hn : W.tb[f]? = some nm) (he : OkE W cx cs cp d e x) (hb : ∀ env whole, attributeBase x nm env whole = whole) : OkE W cx cs cp d (.attr e f) (.Attribute x nm pos) := by
  refine ⟨?_⟩
  intro c hc ok env m X L σ ps h tk v σ' Q E g dr os S V ht ee H
  refine bd2 (evE_attr.symm.trans ee) fun v0 σ0 e1 e2 => ?_
  rw [arm_eval_Attribute, hb]
  exact wpAny_bind (he.1 c hc ok S V ht e1 fun ps1 h1 t1 y1 p1 S1 r1 ht1 => wpAny_bind (wpAny_standAt (wpAny_bind (wpAny_holding (getAttr_ok G.so G.co S1 ok.X hn r1 e2 ht1 fun ps2 h2 t2 y2 p2 S2 r2 ht2 => wpAny_bind (wpAny_letTemporaryGo (wpAny_pure (H ps2 h2 t2 y2 (p1.trans p2) S2 r2 ht2))))))))
theorem sub_ty (G : GOk W cx d) {c : Fc} {m : Str → Option Value} {X : List (Addr × Obj)} {σ : St} {ps : PZ} {h : Heap} (S : SR W c m X σ ps h) (K : W.K.In h) {o : V} {x : Value} (ra : VR (hds ps) o x) {β : Type} {g' : List Nat → Option β} {f : O → Option β} {b : β}
    (e : sob cx σ o g' f = some b) (hf : ∀ ob, f ob = some b → (∃ vs, ob = .list vs) ∨ ∃ vs, ob = .dict vs) {g : Array GenState} {dr : Drawn} {tk : Nat} {os : OsState} :
    ∃ T id, Shared.TypeIs ⟨h, g, dr, tk, os⟩ x T ∧ typeLookup (.type T) "__getitem__" = pure (some (.builtin id)) := by
  refine sobE G.so S K ra e (fun s t qq1 qq2 qq3 => ⟨"str", _, typeIs_str _ _ _, slot_str_getitem.lookup⟩) fun ob A' qq1 ro e => ?_
  rcases hf ob e with ⟨vs, rfl⟩ | ⟨vs, rfl⟩
  · obtain ⟨its, n, hA, _⟩ := ro
    exact ⟨"list", _, ⟨_, hA, rfl⟩, slot_list_getitem.lookup⟩
  · obtain ⟨ks, ob, hA, d1, _⟩ := ro
    have D : h.DictOf (PySem.strKind W.prog W.w) A' ks := Heap.dictOf_iff.mpr ⟨_, hA, d1⟩
    exact ⟨"dict", _, D.mapOf.typeIs (s := ⟨h, g, dr, tk, os⟩), slot_dict_getitem.lookup⟩
theorem subO_sh {i v : V} (ob : O) (e : subO ob i = some v) : (∃ vs, ob = .list vs) ∨ ∃ vs, ob = .dict vs := by
  cases ob with
  | list vs => exact .inl ⟨vs, rfl⟩
  | dict vs => exact .inr ⟨vs, rfl⟩
  | _ => exact noE e
theorem subTail {A : Around} {E Q : Value → Shared → Prop} {s : Shared} {value slice : PySem.Expr} {o i : Value} {T id : String} {ops : List Value} (hT : s.TypeIs o T)
    (hl : typeLookup (.type T) "__getitem__" = pure (some (.builtin id))) (hs : subscripted slice false o i = operate ops (getItem o i)) (h : wpAny (model W.prog W.w) A (getItem o i) Q E s) :
    wpAny (model W.prog W.w) A (subscriptTail value slice o i) Q E s := by
  unfold subscriptTail
  refine wpAny_bind ?_
  rw [getitemInPython_of_ne hT.not_modules]
  refine wpAny_bind (wpAny_specialOf hT hl ?_)
  have fin : wpAny (model W.prog W.w) A (subscripted slice false o i) (fun r s₃ => wpAny (model W.prog W.w) A (letTemporaryGo value o r >>= fun qq1 => pure r) Q E s₃) E s := by
    rw [hs]
    exact wpAny_operating (wpAny_mono h (fun r s₃ h₃ => wpAny_bind (wpAny_letTemporaryGo (wpAny_pure h₃))) fun qq1 qq2 x => x)
  first
    | exact wpAny_pure (wpAny_bind fin)
    | exact wpAny_bind (wpAny_pure (wpAny_bind fin))
    | exact wpAny_bind fin
theorem ok_sub (G : GOk W cx d) {e i : PE} {x y : PySem.Expr} {pos : Pos} (he : OkE W cx cs cp d e x) (hi : OkE W cx cs cp d i y) (hs : ∀ o i, subscripted y false o i = operate [o, i] (getItem o i)) : OkE W cx cs cp d (.sub e i) (.Subscript x y pos) := by
  refine ⟨?_⟩
  intro c hc ok env m X L σ ps h tk v σ' Q E g dr os S V ht ee H
  refine bd2 (evE_sub.symm.trans ee) fun v0 σ0 e1 e => bd2 e fun v1 σ1 e2 e => mp0 e fun v2 e3 e => ?_
  refine Subscript_ (he.1 c hc ok S V ht e1 fun ps1 h1 t1 y1 p1 S1 r1 ht1 => hi.1 c hc ok S1 (V.mono p1) ht1 e2 fun ps2 h2 t2 y2 p2 S2 r2 ht2 => ?_)
  obtain ⟨T, id, hT, hl⟩ := sub_ty G S2 (S2.K ok) (r1.mono p2) (show sob _ _ _ _ _ = _ from e3) subO_sh (g := g) (dr := dr) (tk := t2) (os := os)
  exact subTail hT hl (hs _ _) (sub_ok G.so S2 (S2.K ok) (r1.mono p2) r2 e3 ht2 ((H.eq e).up (p1.trans p2)))
structure OkP (W : Wd) (cx : Cx) (cs : Scope) (cp : Option Cp) (d : Nat) (e : PE) (x : Option PySem.Expr) : Prop where
  h : ∀ (c : Fc), c.cs = cs → FOk W c d → ∀ {env : Env} {m : Str → Option Value} {X : List (Addr × Obj)} {L : Loc} {σ : St} {ps : PZ} {h : Heap} {tk : Nat} {v : V} {σ' : St} {Q : Value → Shared → Prop} {E : Value → Shared → Prop} {g : Array GenState} {dr : Drawn} {os : OsState},
    SR W c m X σ ps h → Vw W cp c env m X (hds ps) L → 1 ≤ tk → evE cx e L σ = some (v, σ') → Hand W c m X (hds ps) σ' v g dr os Q → wpAny (model W.prog W.w) c.A (evalPart x env) Q E ⟨h, g, dr, tk, os⟩
theorem okP_none : OkP W cx cs cp d (.const .none) none := by
  refine ⟨?_⟩
  intro c hc ok env m X L σ ps h tk v σ' Q E g dr os S V ht e H
  rw [evalPart_none]
  exact wpAny_pure ((H.eq (evE_const.symm.trans e)).stay S .none ht)
theorem okP_some {e : PE} {x : PySem.Expr} (he : OkE W cx cs cp d e x) : OkP W cx cs cp d e (some x) := ⟨he.1⟩
theorem ok_slice (G : GOk W cx d) {e lo hi : PE} {x : PySem.Expr} {xl xh : Option PySem.Expr} {p pos : Pos} (he : OkE W cx cs cp d e x) (hl : OkP W cx cs cp d lo xl) (hh : OkP W cx cs cp d hi xh) : OkE W cx cs cp d (.slice e lo hi) (.Subscript x (.Slice xl xh none p) pos) := by
  refine ⟨?_⟩
  intro c hc ok env m X L σ ps h tk v σ' Q E g dr os S V ht ee H
  refine bd2 (evE_slice.symm.trans ee) fun v0 σ0 e1 e => bd2 e fun v1 σ1 e2 e => bd2 e fun v2 σ2 e3 e4 => ?_
  refine Subscript_ (he.1 c hc ok S V ht e1 fun ps1 h1 t1 y1 p1 S1 r1 ht1 => wpAny_Slice (hl.1 c hc ok S1 (V.mono p1) ht1 e2 fun ps2 h2 t2 y2 p2 S2 r2 ht2 => hh.1 c hc ok S2 (V.mono (p1.trans p2)) ht2 e3 fun ps3 h3 t3 y3 p3 S3 r3 ht3 => ?_))
  rw [evalPart_none]
  have S4 := S3.garb { cls := .type "slice", data := .fields #[y2, y3, .none] }
  obtain ⟨T, id, hT, hlk⟩ := sub_ty G S4 (S4.K ok) (r1.mono (p2.trans p3)) (show sob _ _ _ _ _ = _ from e4) (fun ob e => oListE e fun vs q qq1 => .inl ⟨vs, q⟩) (g := g) (dr := dr) (tk := t3) (os := os)
  exact wpAny_pure (subTail (ops := [.ref h3.objs.size, y1]) hT hlk rfl (slice_ok G.so S4 (S4.K ok) (r1.mono (p2.trans p3)) (r2.mono p3) r3 ⟨_, Heap.get?_push_size _ rfl, rfl, rfl⟩ e4 ht3 (H.up ((p1.trans p2).trans p3))))
theorem ok_rev (G : GOk W cx d) {e : PE} {x s1 : PySem.Expr} {p pos : Pos} (he : OkE W cx cs cp d e x) (hs : OkE W cx cs cp d (.neg (.const (.int 1))) s1) : OkE W cx cs cp d (.rev e) (.Subscript x (.Slice none none (some s1) p) pos) := by
  refine ⟨?_⟩
  intro c hc ok env m X L σ ps h tk v σ' Q E g dr os S V ht ee H
  refine bd2 (evE_rev.symm.trans ee) fun v0 σ0 e1 e2 => ?_
  refine Subscript_ (he.1 c hc ok S V ht e1 fun ps1 h1 t1 y1 p1 S1 r1 ht1 => wpAny_Slice ?_)
  rw [evalPart_none]
  refine wpAny_pure (wpAny_pure ?_)
  rw [evalPart_some]
  refine hs.1 c hc ok S1 (V.mono p1) ht1 (v := .int (-1)) (σ' := σ0) rfl fun ps2 h2 t2 y2 p2 S2 r2 ht2 => ?_
  cases r2 with | int _ t' =>
  have S4 := S2.garb { cls := .type "slice", data := .fields #[.none, .none, .int (-1) t'] }
  obtain ⟨T, id, hT, hlk⟩ : ∃ T id, Shared.TypeIs ⟨_, g, dr, t2, os⟩ y1 T ∧ typeLookup (.type T) "__getitem__" = pure (some (.builtin id)) := cellLE S4 (r1.mono p2) e2 fun a A its n vs qq1 qq2 qq3 hA qq4 qq5 qq6 => ⟨"list", _, ⟨_, hA, rfl⟩, slot_list_getitem.lookup⟩
  exact subTail (ops := [y1, .ref h2.objs.size]) hT hlk rfl (rev_ok S4 (r1.mono p2) ⟨_, Heap.get?_push_size _ rfl, rfl, rfl⟩ e2 ht2 (H.up (p1.trans p2)))
theorem okEs_nil : OkEs W cx cs cp d [] [] := by
  refine ⟨?_⟩
  intro c hc ok pos env m X L σ ps h tk vs σ' Q E g dr os S V ht e H
  exact wpAny_items_nil ((H.eq (evEs_nil.symm.trans e)) ps h tk [] (.rfl) S .nil ht)
theorem okEs_cons {e : PE} {x : PySem.Expr} {es : List PE} {xs : List PySem.Expr} (he : OkE W cx cs cp d e x) (hes : OkEs W cx cs cp d es xs) (hx : ∀ env, starEach (x :: xs) env = (false, eval x env) :: starEach xs env) : OkEs W cx cs cp d (e :: es) (x :: xs) := by
  refine ⟨?_⟩
  intro c hc ok pos env m X L σ ps h tk vs σ' Q E g dr os S V ht ee H
  refine bd2 (evEs_cons.symm.trans ee) fun v0 σ0 e1 e => bd2 e fun v1 σ1 e2 e => ?_
  exact wpAny_items_cons (he.1 c hc ok S V ht e1 fun ps1 h1 t1 y1 p1 S1 r1 ht1 => hes.1 c hc ok S1 (V.mono p1) ht1 e2 fun ps2 h2 t2 y2 p2 S2 r2 ht2 => (H.eq e) ps2 h2 t2 _ (p1.trans p2) S2 (.cons (r1.mono p2) r2) ht2) (hx _)
theorem alloc_list {c : Fc} {m : Str → Option Value} {X : List (Addr × Obj)} {σ : St} {ps : PZ} {h : Heap} {tk : Nat} {g : Array GenState} {dr : Drawn} {os : OsState} (S : SR W c m X σ ps h) {l : List V} {il : List Value} {v : V} {σ' : St} (i1 : All2 (VR (hds ps)) l il) (e : allocL l σ = some (v, σ')) (ht : 1 ≤ tk)
    {Q : Value → Shared → Prop} (k : Hand W c m X (hds ps) σ' v g dr os Q) : il.length ≤ sizeLine ∧ Q (.ref h.objs.size) ⟨h.push { cls := .type "list", data := .seq il.toArray }, g, dr, tk, os⟩ :=
  ⟨gdE e fun hl qq1 => i1.len ▸ lim_line (Nat.le_trans hl (Nat.le_add_right _ _)), alloc_app (vs := l) (ws := l) (its := il) (its' := il) S i1 e (S.F.push _) (S.F.npush S.N _ rfl) ht k⟩
theorem ok_list {es : List PE} {xs : List PySem.Expr} {pos : Pos} (he : OkEs W cx cs cp d es xs) : OkE W cx cs cp d (.listE es) (.List xs pos) := by
  refine ⟨?_⟩
  intro c hc ok env m X L σ ps h tk v σ' Q E g dr os S V ht ee H
  refine bd2 (evE_listE.symm.trans ee) fun v0 σ0 e1 e2 => ?_
  exact wpAny_List (he.1 c hc ok S V ht e1 fun ps1 h1 t1 y1 p1 S1 r1 ht1 => alloc_list S1 r1 e2 ht1 (H.up p1))
theorem no_ref {hs : HS} {vs : List V} {ys : List Value} (r : All2 (VR hs) vs ys) : vs.any isR = false → All2 (VR ⟨[], hs.z⟩) vs ys := by
  induction r with
  | nil => exact fun qq1 => .nil
  | cons h _ ih =>
    intro e
    have e := Bool.or_eq_false_iff.mp ((List.any_cons).symm.trans e)
    refine .cons ?_ (ih e.2)
    cases h with
    | none => exact .none
    | bool b => exact .bool b
    | int i t => exact .int i t
    | str s t h => exact .str s t h
    | ref => cases e.1
    | sref a => exact .sref a
    | frz z => exact .frz z
    | bad A => exact .bad A
theorem ok_tup {es : List PE} {xs : List PySem.Expr} {n : Nat} {pos : Pos} (he : OkEs W cx cs cp d es xs) : OkE W cx cs cp d (.tupE es) (.Tuple xs n pos) := by
  refine ⟨?_⟩
  intro c hc ok env m X L σ ps h tk v σ' Q E g dr os S V ht ee H
  refine bd2 (evE_tupE.symm.trans ee) fun v0 σ0 e1 e => gdE e fun hl e => ?_
  refine wpAny_Tuple (he.1 c hc ok S V ht e1 fun ps1 h1 t1 y1 p1 S1 r1 ht1 => ⟨r1.len ▸ lim_line (Nat.le_trans hl (Nat.le_add_right _ _)), ?_⟩)
  have hl := Nat.le_trans hl (Nat.le_add_right LIM LIM)
  unfold tupV at e
  cases ha : v0.any isR with
  | true =>
    rw [ha] at e
    refine (H.eq e) (ps1.add [(h1.objs.size, { cls := .type "tuple", data := .seq y1.toArray })]) _ t1 _ (p1.trans pre_snoc) (S1.push1 (ob := { cls := .type "tuple", data := .seq y1.toArray }) rfl (.tuple (r1.mono fun qq1 qq2 => VR.mono .add) hl)) ?_ ht1
    rw [hds_snoc]
    exact VR.last (hds_len.trans S1.len.symm)
  | false =>
    rw [ha] at e
    exact (H.eq e) (ps1.tree h1.objs.size { cls := .type "tuple", data := .seq y1.toArray } (.tuple v0)) _ t1 _ (p1.trans pre_tree) (S1.tree (S1.F.push _) (S1.F.npush S1.N _ rfl) (fun p hp => Heap.lt_size (S1.N p hp).1) (.tuple (no_ref r1 ha) hl)) (.frz (.inr ⟨rfl, rfl⟩)) ht1
end
end PL
end
section
namespace PL
theorem stored_nd {kvs : List (Str × Value)} (nd : (kvs.map (·.1)).Nodup) (k : Str) (v : Value) : ((stored kvs k v).map (·.1)).Nodup := by
  unfold stored
  split
  · have : (kvs.map (fun kv => if kv.1 = k then (kv.1, v) else kv)).map (·.1) = kvs.map (·.1) := by
      rw [List.map_map]
      apply List.map_congr_left
      intro a _
      show (if a.1 = k then (a.1, v) else a).1 = a.1
      split <;> rfl
    rw [this]; exact nd
  · rename_i hn
    rw [List.map_append]
    refine List.nodup_append.mpr ⟨nd, by simp, fun a ha b hb q => ?_⟩
    subst q
    simp only [List.map_cons, List.map_nil, List.mem_singleton] at hb
    subst hb
    obtain ⟨p, hp, hpk⟩ := List.mem_map.mp ha
    exact hn (List.any_eq_true.mpr ⟨p, hp, by simpa using hpk⟩)
theorem merged_put {hs : HS} {l : List (List Nat × V)} {kvs : List (Str × Value)} (i : All2 (KV hs) l kvs) : ∀ {d0 : List (List Nat × V)} {acc : List (Str × Value)}, All2 (KV hs) d0 acc → (acc.map (·.1)).Nodup →
    All2 (KV hs) (putAll l d0) (merged acc kvs) ∧ ((merged acc kvs).map (·.1)).Nodup ∧ (putAll l d0).length ≤ d0.length + l.length := by
  induction i with
  | nil => intro d0 acc h nd; exact ⟨h, nd, by simp [putAll]⟩
  | @cons a b l mm h t ih =>
    intro d0 acc h0 nd
    obtain ⟨i, v⟩ := a
    obtain ⟨z, u⟩ := b
    obtain ⟨hk, hv⟩ := h
    simp only at hk hv
    subst hk
    have := ih (stored_put hv h0 nd (key := i)) (stored_nd nd (toS i) u)
    refine ⟨this.1, this.2.1, ?_⟩
    have h1 := this.2.2
    have h2 := putS_len i v d0
    show (putAll l (putS i v d0)).length ≤ _
    simp only [List.length_cons]
    lia
section
variable {W : Wd} {cx : Cx} {cs : Scope} {cp : Option Cp} {d : Nat}
theorem SR.claim {c : Fc} {m : Str → Option Value} {X : List (Addr × Obj)} {σ : St} {ps : PZ} {h h' : Heap} {D : Addr} {o o' : Obj} {ob : O} (S : SR W c m ((D, o) :: X) σ ps h) (hs : Heap.SameBut D h h') (ho : h'.get? D = some o') (hr : ORel W.prog W.w W.tb ((hds ps).add D) ob [(D, o')]) :
    SR W c m X (σ ++ [ob]) (ps.add [(D, o')]) h' := by
  have D0 := S.N (D, o) (by simp)
  have nd := S.nd
  have e : ((ps.flatten ++ (D, o) :: X).map (·.1)).Perm (D :: (ps.flatten ++ X).map (·.1)) := by
    rw [List.map_append, List.map_cons, List.map_append]
    exact List.perm_middle
  rw [e.nodup_iff] at nd
  have nd1 := (List.nodup_cons.mp nd).1
  have ne : ∀ p ∈ ps.flatten ++ X, p.1 ≠ D := fun p hp q => nd1 (q ▸ List.mem_map_of_mem hp)
  refine ⟨S.F.change hs D0.2.1 D0.2.2, fun p hp => ?_, ?_, ?_, S.fz⟩
  · rcases List.mem_append.mp ((add_perm (part := [(D, o')])).mem_iff.mp hp) with hp | hp
    · obtain rfl := List.mem_singleton.mp hp
      exact ⟨ho, D0.2⟩
    · have z := S.N p (by simp only [List.mem_append, List.mem_cons] at hp ⊢; rcases hp with q | q; exact .inl q; exact .inr (.inr q))
      exact ⟨(hs.2 _ (ne p hp)).trans z.1, z.2⟩
  · have q := (add_perm (part := [(D, o')]) (ps := ps) (X := X)).map Prod.fst
    exact q.nodup_iff.mpr nd
  · rw [hds_snoc]
    exact All2.snoc (S.rel.mono fun qq1 qq2 => ORel.mono .add) hr
theorem SR.take {c : Fc} {m : Str → Option Value} {X : List (Addr × Obj)} {σ : St} {ps : PZ} {h : Heap} (S : SR W c m X σ ps h) (o : Obj) (hf : o.isFreed = false) : SR W c m ((h.objs.size, o) :: X) σ ps (h.push o) := by
  have N' := S.F.npush S.N o hf
  refine ⟨S.F.push _, fun p hp => N' p ?_, ?_, S.rel, S.fz⟩
  · simp only [List.mem_append, List.mem_cons] at hp ⊢
    rcases hp with q | q | q
    · exact .inr (.inl q)
    · exact .inl q
    · exact .inr (.inr q)
  · have e : ((ps.flatten ++ (h.objs.size, o) :: X).map (·.1)).Perm (h.objs.size :: (ps.flatten ++ X).map (·.1)) := by
      rw [List.map_append, List.map_cons, List.map_append]
      exact List.perm_middle
    rw [e.nodup_iff]
    refine List.nodup_cons.mpr ⟨fun q => ?_, S.nd⟩
    obtain ⟨p, hp, e⟩ := List.mem_map.mp q
    have := Heap.lt_size (S.N p hp).1
    rw [e] at this
    exact Nat.lt_irrefl _ this
theorem Vw.more {c : Fc} {env : Env} {m : Str → Option Value} {X : List (Addr × Obj)} {hs : HS} {L : Loc} (V : Vw W cp c env m X hs L) (p : Addr × Obj) : Vw W cp c env m (p :: X) hs L := by
  unfold Vw at V ⊢
  split at V
  · exact V
  · obtain ⟨C, o, mc, h1, h2, h3, h4⟩ := V
    exact ⟨C, o, mc, h1, .tail _ h2, h3, h4⟩
noncomputable def pairT (env : Env) (pos : Pos) (l : List (PySem.Expr × PySem.Expr)) : List (Sem Value × Sem Value) := l.map fun p => (eval p.1 env, do let x ← eval p.2 env; standAt pos; pure x)
noncomputable def KeysAre (ks : List (List Nat)) (l : List (PySem.Expr × PySem.Expr)) : Prop := All2 (fun k p => ∃ n pos, p.1 = PySem.Expr.Constant (.str (toS k)) n pos) ks l
theorem pairs_ok : ∀ {ks : List (List Nat)} {l : List (PySem.Expr × PySem.Expr)} {es : List PE}, KeysAre ks l → All2 (fun e p => OkE W cx cs cp d e p.2) es l → ∀ (c : Fc), c.cs = cs → FOk W c d →
    ∀ {pos : Pos} {env : Env} {m : Str → Option Value} {X : List (Addr × Obj)} {L : Loc} {σ : St} {ps : PZ} {h : Heap} {tk : Nat} {vs : List V} {σ' : St} {Q : List (Value × Value) → Shared → Prop} {E : Value → Shared → Prop} {g : Array GenState} {dr : Drawn} {os : OsState},
    SR W c m X σ ps h → Vw W cp c env m X (hds ps) L → 1 ≤ tk → evEs cx es L σ = some (vs, σ') →
    (∀ ps' h' t' ys kvs, (hds ps).Le (hds ps') → SR W c m X σ' ps' h' → Carries (PySem.strKind W.prog W.w) ys kvs → All2 (KV (hds ps')) (ks.zip vs) kvs → 1 ≤ t' → Q ys ⟨h', g, dr, t', os⟩) →
    wpAny (model W.prog W.w) c.A (evalPairs (pairT env pos l)) Q E ⟨h, g, dr, tk, os⟩ := by
  intro ks l es hk
  induction hk generalizing es with
  | nil =>
    intro he c hc ok pos env m X L σ ps h tk vs σ' Q E g dr os S V ht ee H
    cases he
    simp only [evEs_nil, evEs_cons, Option.some.injEq, Prod.mk.injEq] at ee
    obtain ⟨rfl, rfl⟩ := ee
    exact evalPairs_nil (H ps h tk [] [] (.rfl) S trivial .nil ht)
  | @cons k p ks l hp t ih =>
    intro he c hc ok pos env m X L σ ps h tk vs σ' Q E g dr os S V ht ee H
    cases he with
    | @cons e _ es _ h1 h2 =>
      simp only [evEs_nil, evEs_cons, Option.bind_eq_some_iff, Prod.exists, Option.some.injEq, Prod.mk.injEq] at ee
      obtain ⟨v0, σ0, e1, v1, σ1, e2, rfl, rfl⟩ := ee
      obtain ⟨kx, vx⟩ := p
      obtain ⟨n, ppos, hkx⟩ := hp
      simp only at hkx
      subst hkx
      refine evalPairs_cons (wpAny_Constant_str (wpAny_bind (h1.1 c hc ok S V (tk := tk + 1) (by lia) e1 fun ps1 h1' t1 y1 p1 S1 r1 ht1 => wpAny_bind (wpAny_standAt (wpAny_pure ?_)))))
      refine ih h2 c hc ok S1 (V.mono p1) ht1 e2 fun ps2 h2' t2 ys kvs p2 S2 q1 q2 ht2 => ?_
      exact H ps2 h2' t2 _ ((toS k, y1) :: kvs) (p1.trans p2) S2 ⟨strKind_is _ _ _ _, rfl, q1⟩ (.cons ⟨rfl, r1.mono p2⟩ q2) ht2
theorem keys_len {ks : List (List Nat)} {l : List (PySem.Expr × PySem.Expr)} (h : KeysAre ks l) : ks.length = l.length := All2.len h
theorem not_modules {c : Fc} (ok : FOk W c d) {m : Str → Option Value} {X : List (Addr × Obj)} {σ : St} {ps : PZ} {h : Heap} (S : SR W c m X σ ps h) : (h.objs.size == sysModules) = false := by
  obtain ⟨g0, G0, F0⟩ := S.F
  exact F0.notModules (modules_low (ok.TR G0).nolimit)
theorem zip_pairT {env : Env} {pos : Pos} : ∀ (l : List (PySem.Expr × PySem.Expr)), (evalEachOpt (l.map fun p => some p.1) env).zip ((evalEach (l.map (·.2)) env).map fun v => do let x ← v; standAt pos; pure x) = (pairT env pos l).map fun p => (some p.1, p.2)
  | [] => rfl
  | p :: r => by
    have := zip_pairT (env := env) (pos := pos) r
    exact congrArg (fun t => (some (eval p.1 env), (do let x ← eval p.2 env; standAt pos; pure x)) :: t) this
theorem ok_dict {ks : List (List Nat)} {es : List PE} {l : List (PySem.Expr × PySem.Expr)} {keys : List (Option PySem.Expr)} {values : List PySem.Expr} {pos : Pos} (hk : KeysAre ks l) (he : All2 (fun e p => OkE W cx cs cp d e p.2) es l) (h1 : keys = l.map fun p => some p.1) (h2 : values = l.map (·.2)) (h0 : ks ≠ []) :
    OkE W cx cs cp d (.dictE ks es) (.Dict keys values pos) := by
  refine ⟨?_⟩
  intro c hc ok env m X L σ ps h tk v σ' Q E g dr os S V ht ee H
  subst h1 h2
  simp only [evE_dictE, evE_new, evE_len, Option.bind_eq_some_iff, Prod.exists] at ee
  obtain ⟨vs, σ1, e1, e2⟩ := ee
  split at e2
  · rename_i hl
    cases e2
    have n0 : pairT env pos l ≠ [] := by
      have := keys_len hk
      cases l with
      | nil => cases ks with
        | nil => exact absurd rfl h0
        | cons a b => simp at this
      | cons a b => simp [pairT]
    have ms := not_modules ok S
    refine wpAny_Dict_pairs (knd := PySem.strKind W.prog W.w) (zip_pairT l) n0 (by simp [pairT, ← keys_len hk]; exact hl.2) ?_
    have S0 := S.take { cls := .type "dict", data := .dict #[] } rfl
    refine pairs_ok hk he c hc ok S0 (V.more _) ht e1 fun ps' h' t' ys kvs p1 S1 q1 q2 ht' => ?_
    have e0 : Obj.IsDictOf (PySem.strKind W.prog W.w) { cls := .type "dict", data := .dict #[] } [] := by
      obtain ⟨o, ho, hd⟩ := Heap.dictOf_iff.mp (Heap.DictOf.new (knd := PySem.strKind W.prog W.w) h)
      rw [Heap.get?_push_size _ rfl] at ho
      exact (Option.some.inj ho) ▸ hd
    refine ⟨kvs, q1, Heap.dictOf_iff.mpr ⟨_, (S1.N (h.objs.size, { cls := .type "dict", data := .dict #[] }) (by simp)).1, e0⟩, fun h2 hd hs => ?_⟩
    obtain ⟨o', ho', hd'⟩ := Heap.dictOf_iff.mp hd
    obtain ⟨m1, m2, m3⟩ := merged_put q2 (All2.nil (R := KV (hds ps'))) (by simp)
    have pre : (hds ps').Le ((hds ps').add h.objs.size) := .add
    have zl : (ks.zip vs).length ≤ 15 := by rw [List.length_zip]; lia
    have S2 := S1.claim (o' := o') (ob := .dict (putAll (ks.zip vs) [])) hs ho' (.dict hd' (m1.mono fun qq1 qq2 z => ⟨z.1, z.2.mono pre⟩) (by simp only [List.length_nil] at m3; unfold LIM; lia) ms)
    refine H _ _ _ _ (p1.trans pre_snoc) S2 ?_ (by show 1 ≤ t' + ys.length; lia)
    rw [hds_snoc]
    exact VR.last (hds_len.trans S1.len.symm)
  · cases e2
theorem ok_dict0 {pos : Pos} : OkE W cx cs cp d (.dictE [] []) (.Dict [] [] pos) := by
  refine ⟨?_⟩
  intro c hc ok env m X L σ ps h tk v σ' Q E g dr os S V ht ee H
  simp only [evE_dictE, evE_len, evEs_nil, evEs_cons, Option.bind_some, List.length_nil, Nat.zero_le, and_self, if_true, List.zip_nil_left, putAll, List.foldl_nil, allocO, Option.some.injEq, Prod.mk.injEq] at ee
  obtain ⟨rfl, rfl⟩ := ee
  obtain ⟨g0, G0, F0⟩ := S.F
  refine newDict_K F0 (G0.news S.N) (ok.TR G0).nolimit fun D h' o F' N' lt nm hd qq1 qq2 qq3 => ?_
  have S2 := S.new1 (o := .dict []) ⟨g0, G0, F'⟩ (G0.back N') lt (.dict hd .nil (by simp) nm)
  refine H _ _ _ _ pre_snoc S2 ?_ ht
  rw [hds_snoc]
  exact VR.last (hds_len.trans S.len.symm)
end
end PL
end
section
namespace PL
section
variable {W : Wd} {cx : Cx} {cs : Scope} {cp : Option Cp} {d : Nat}
theorem FOk.toC {c : Fc} (ok : FOk W c d) : FOkC W c d := ⟨ok.frames, ok.hh, by have := ok.depth; lia, by have := ok.units; lia, ok.X, ok.T, ok.kind⟩
noncomputable def Fc.at (c : Fc) (A : Around) : Fc := { c with A := A }
theorem FrU.at {c : Fc} {A : Around} {h : Heap} {m : Str → Option Value} (F : FrU c h m) : FrU (c.at A) h m := let ⟨g, G, f⟩ := F; ⟨g, ⟨G.eq, G.B⟩, f⟩
theorem FrU.off_at {c : Fc} {A : Around} {h : Heap} {m : Str → Option Value} (F : FrU (c.at A) h m) : FrU c h m := let ⟨g, G, f⟩ := F; ⟨g, ⟨G.eq, G.B⟩, f⟩
theorem FOk.under {c : Fc} (ok : FOk W c d) (C : Addr) (r : List Value) (kw : List (Str × Value)) : FOkC W (c.at (c.A.under (.builtin "type.__call__" ⟨.ref C :: r, kw⟩))) d := by
  refine ⟨ok.frames, ok.hh, ?_, ?_, ok.X, ok.T, ok.kind⟩
  · have := ok.depth
    show c.A.depth + 1 + 3 * d + 2 ≤ 990
    lia
  · have := ok.units
    show c.A.units + 1 + 30 * d + 280 ≤ 9800
    lia
theorem evalArgs_any {M : Model} {A : Around} {E : Value → Shared → Prop} {s : Shared} {f : Value} {args : List (Bool × Sem Value)} {Q : Args → Shared → Prop} (hp : args.any (·.1) = false)
    (h : wpAny M A (spliced args) (fun vs s' => Q ⟨vs, []⟩ s') E s) : wpAny M A (evalArgs f true args []) Q E s := by
  cases args with
  | nil =>
    unfold evalArgs
    show wpAny M A (spliced [] >>= _) Q E s
    refine wpAny_bind (wpAny_mono h (fun vs s' h' => ?_) fun qq1 qq2 x => x)
    refine wpAny_holding ?_
    exact wpAny_bind (wpAny_pure (wpAny_bind (wpAny_pure (wpAny_pure h'))))
  | cons a r =>
    obtain ⟨b, x⟩ := a
    have : b = false := by
      simp only [List.any_cons, Bool.or_eq_false_iff] at hp; exact hp.1
    subst this
    exact Calls.evalArgs_plain h
theorem callEs {f : Value} {first : List Value} {es : List PE} {xs : List PySem.Expr} (hes : OkEs W cx cs cp d es xs) {c : Fc} (hc : c.cs = cs) (ok : FOk W c d) {pos : Pos} {env : Env} (hp : (backTo pos (starEach xs env)).any (·.1) = false)
    {m : Str → Option Value} {X : List (Addr × Obj)} {L : Loc} {σ : St} {ps : PZ} {h : Heap} {tk : Nat} {vs : List V} {σ' : St} {Q : Value → Shared → Prop} {E : Value → Shared → Prop} {g : Array GenState} {dr : Drawn} {os : OsState}
    (S : SR W c m X σ ps h) (V : Vw W cp c env m X (hds ps) L) (ht : 1 ≤ tk) (e : evEs cx es L σ = some (vs, σ'))
    (hk : ∀ ps' h', (hds ps).Le (hds ps') → SR W c m X σ' ps' h' → ∃ k, (k = Keeper.frame ∨ k = Keeper.machine ∨ k = Keeper.boundFrame) ∧ Looks (model W.prog W.w) h' (keeperOf f) k)
    (H : ∀ ps' h' t' ys, (hds ps).Le (hds ps') → SR W c m X σ' ps' h' → All2 (VR (hds ps')) vs ys → 1 ≤ t' → wpAny (model W.prog W.w) c.A (call f (first ++ ys)) Q E ⟨h', g, dr, t', os⟩) :
    wpAny (model W.prog W.w) c.A (callWith pos f first (backTo pos (starEach xs env)) []) Q E ⟨h, g, dr, tk, os⟩ := by
  refine callWith_of (P := fun h' => ∃ k, (k = Keeper.frame ∨ k = Keeper.machine ∨ k = Keeper.boundFrame) ∧ Looks (model W.prog W.w) h' (keeperOf f) k) (by rw [hp]; rfl) (fun h' p => p) (evalArgs_any hp ?_)
  exact hes.1 c hc ok S V ht e fun ps' h' t' ys p1 S1 r1 ht1 => ⟨hk ps' h' p1 S1, H ps' h' t' ys p1 S1 r1 ht1⟩
theorem ok_call (G : GOk W cx d) {f : Nat} {es : List PE} {fx : PySem.Expr} {xs : List PySem.Expr} {pos : Pos} (hf : OkE W cx cs cp d (.glob (.sref f)) fx) (hes : OkEs W cx cs cp d es xs) (hk : keepIn W.K (.ref f) = true) (hB : f < BIG)
    (hp : ∀ env, (backTo pos (starEach xs env)).any (·.1) = false)
    (he : ∀ env, eval (.Call fx xs [] pos) env = (do callWith pos (← eval fx env) [] (backTo pos (starEach xs env)) (backToKw pos (keywordEach [] env)))) : OkE W cx cs cp d (.call f es) (.Call fx xs [] pos) := by
  refine ⟨?_⟩
  intro c hc ok env m X L σ ps h tk v σ' Q E g dr os S V ht ee H
  refine bd2 (evE_call.symm.trans ee) fun vs σ1 e1 e2 => ?_
  refine Call_ (hf.1 c hc ok S V ht (v := .sref f) (σ' := σ) rfl fun ps1 h1 t1 y1 p1 S1 r1 ht1 => ?_) (he env)
  cases r1
  exact callEs hes hc ok (hp env) S1 (V.mono p1) ht1 e1 (fun ps' h' qq1 S' => keeps_K hk h' (S'.K ok)) fun ps2 h2 t2 ys p2 S2 r2 ht2 => wpAny_call (G.call f vs σ1 v σ' hB e2 c ok.toC S2 r2 ht2 (H.up (p1.trans p2)))
theorem SR.made {c : Fc} {m : Str → Option Value} {X : List (Addr × Obj)} {σ : St} {ps : PZ} {h h' : Heap} {x dx : Addr} {cl : Nat} (S : SR W c m X σ ps h) (F' : FrU c h' m) (N' : News c.h₀ c.L h' ((x, instObj cl dx) :: (dx, dictOf [] 0) :: (ps.flatten ++ X))) (lt : ∀ p ∈ ps.flatten ++ X, p.1 < dx) (ltx : dx < x) :
    SR W c m X (σ ++ [.inst cl []]) (ps.add [(x, instObj cl dx), (dx, dictOf [] 0)]) h' := by
  refine S.new (part := [(x, instObj cl dx), (dx, dictOf [] 0)]) F' N' ?_ (fun q hq p hp => ?_) (.inst .nil .nil (Nat.zero_le _))
  · exact List.nodup_cons.mpr ⟨fun q => (Nat.ne_of_lt ltx) (List.mem_singleton.mp q).symm, List.nodup_cons.mpr ⟨nofun, .nil⟩⟩
  · have h1 := lt p hp
    rcases List.mem_cons.mp hq with rfl | hq
    · exact Nat.ne_of_lt (Nat.lt_trans h1 ltx)
    · obtain rfl := List.mem_singleton.mp hq
      exact Nat.ne_of_lt h1
theorem ok_new (G : GOk W cx d) {cl : Nat} {es : List PE} {fx : PySem.Expr} {xs : List PySem.Expr} {pos : Pos} (hf : OkE W cx cs cp d (.glob (.sref cl)) fx) (hes : OkEs W cx cs cp d es xs) (hk : keepIn W.K (.ref cl) = true) (hm : makesIn W.K cl = true)
    (hi : W.tb[cx.init]? = some "__init__") (hp : ∀ env, (backTo pos (starEach xs env)).any (·.1) = false)
    (he : ∀ env, eval (.Call fx xs [] pos) env = (do callWith pos (← eval fx env) [] (backTo pos (starEach xs env)) (backToKw pos (keywordEach [] env)))) : OkE W cx cs cp d (.new cl es) (.Call fx xs [] pos) := by
  refine ⟨?_⟩
  intro c hc ok env m X L σ ps h tk v σ' Q E g dr os S V ht ee H
  refine bd2 (evE_new.symm.trans ee) fun vs σ1 e1 e => bdE e fun gg e2 e => bd2 e fun r σ2 e3 e4 => ?_
  refine Call_ (hf.1 c hc ok S V ht (v := .sref cl) (σ' := σ) rfl fun ps1 h1 t1 y1 p1 S1 r1 ht1 => ?_) (he env)
  cases r1
  refine callEs hes hc ok (hp env) S1 (V.mono p1) ht1 e1 (fun ps' h' qq1 S' => keeps_K hk h' (S'.K ok)) fun ps2 h2 t2 ys p2 S2 r2 ht2 => wpAny_call ?_
  obtain ⟨x', hx', hfn, hty, _, _, _, hB⟩ := G.co.meth _ _ _ e2
  obtain rfl := Option.some.inj (hx'.symm.trans hi)
  obtain ⟨g0, G0, F0⟩ := S2.F
  refine make_K (s := ⟨h2, g, dr, t2, os⟩) F0 (G0.news S2.N) (S2.K ok) hm hfn hty fun x dx h' F' N' lt ltx => ?_
  have Sn := S2.made ⟨g0, G0, F'⟩ (G0.back N') lt ltx
  have hl : VR ((hds ps2).add x) (.ref σ1.length) (.ref x) := VR.last (hds_len.trans S2.len.symm)
  have hh : hds (ps2.add [(x, instObj cl dx), (dx, dictOf [] 0)]) = (hds ps2).add x := hds_snoc
  refine G.call gg (.ref σ1.length :: vs) _ _ _ hB e3 (c.at _) (ok.under cl ys []) (X := X) (m := m) (ps := ps2.add [(x, instObj cl dx), (dx, dictOf [] 0)]) ⟨Sn.F.at, Sn.N, Sn.nd, Sn.rel, Sn.fz⟩ (by rw [hh]; exact .cons hl (r2.mono fun qq1 qq2 z => z.mono .add)) ht2 fun ps3 h3 t3 y3 p3 S3 r3 ht3 => ?_
  cases r3 with
  | none => rw [hh] at p3; exact ⟨rfl, (H.eq e4) ps3 h3 t3 _ ((p1.trans p2).trans (HS.Le.add.trans p3)) ⟨S3.F.off_at, S3.N, S3.nd, S3.rel, S3.fz⟩ (hl.mono p3) ht3⟩
  | _ => exact noE e4
theorem keep_fn {f : Nat} (this : fnIn W.K f = true) : keepIn W.K (.ref f) = true := by
  unfold fnIn at this
  unfold keepIn
  dsimp only
  split at this
  · rename_i q; rw [q]
  · cases this
theorem clsCall_ok (G : GOk W cx d) (hfn : ∀ f args σ r, f < BIG → cx.call f args σ = some r → fnIn W.K f = true) {mi : Nat} {es : List PE} {nm : Str} {xs : List PySem.Expr} {pos : Pos} (hn : W.tb[mi]? = some nm) (hes : OkEs W cx cs cp d es xs) {c : Fc} (hc : c.cs = cs) (ok : FOk W c d) {env : Env} (hp : (backTo pos (starEach xs env)).any (·.1) = false)
    {m : Str → Option Value} {X : List (Addr × Obj)} {L : Loc} {σ : St} {ps : PZ} {h : Heap} {tk : Nat} {v ov : V} {σ' : St} {Q : Value → Shared → Prop} {E : Value → Shared → Prop} {g : Array GenState} {dr : Drawn} {os : OsState} {pl : Sem Bool} {A1 D1 cl n1 : Nat} {es' : List DictEntry}
    (S : SR W c m X σ ps h) (V : Vw W cp c env m X (hds ps) L) (ht : 1 ≤ tk) (r : VR (hds ps) ov (.ref A1)) (I : InstAt h A1 (instObj cl D1) cl (some (dictOf es' n1))) (gl : getL nm es' = some none)
    (e : clsCall cx cl mi ov σ (evEs cx es L) = some (v, σ')) (H : Hand W c m X (hds ps) σ' v g dr os Q) :
    wpAny (model W.prog W.w) c.A (getMethod (.ref A1) nm pl) (fun fx s₂ => wpAny (model W.prog W.w) c.A (callWith pos fx.1 fx.2 (backTo pos (starEach xs env)) []) Q E s₂) E ⟨h, g, dr, tk, os⟩ := by
  refine bdE e fun gg e2 e => bd2 e fun vs σ2 e3 e4 => ?_
  obtain ⟨x', hx', hf, hty, _, _, _, hB⟩ := G.co.meth _ _ _ e2
  obtain rfl := Option.some.inj (hx'.symm.trans hn)
  obtain ⟨⟨g1, g2⟩, _⟩ := G.co.plain cl mi (.inr (.inl (congrArg Option.isSome e2)))
  refine method_fn (S.K ok) I g1 g2 hf hty (by show (lookIn x' (dictOf es' n1)).map _ = _; rw [lookIn_dict, gl]; rfl) ?_
  exact callEs hes hc ok hp S V ht e3 (fun ps' h' qq1 S' => keeps_K (keep_fn (hfn _ _ _ _ hB e4)) h' (S'.K ok)) fun ps2 h2 t2 ys p2 S2 r2 ht2 => wpAny_call (G.call gg (ov :: vs) σ2 v σ' hB e4 c ok.toC S2 (.cons (r.mono p2) r2) ht2 (H.up p2))
theorem ok_meth (G : GOk W cx d) (hfn : ∀ f args σ r, f < BIG → cx.call f args σ = some r → fnIn W.K f = true) {o : PE} {mi : Nat} {es : List PE} {x : PySem.Expr} {nm : Str} {xs : List PySem.Expr} {apos pos : Pos} (hn : W.tb[mi]? = some nm) (ho : OkE W cx cs cp d o x) (hes : OkEs W cx cs cp d es xs)
    (hp : ∀ env, (backTo pos (starEach xs env)).any (·.1) = false)
    (he : ∀ env, ∃ pl, eval (.Call (.Attribute x nm apos) xs [] pos) env = (do
      let ov ← eval x env
      standAt apos.atName
      let (f, first) ← holding [ov] (getMethod ov nm pl)
      callWith pos f first (backTo pos (starEach xs env)) [])) : OkE W cx cs cp d (.meth o mi es) (.Call (.Attribute x nm apos) xs [] pos) := by
  refine ⟨?_⟩
  intro c hc ok env m X L σ ps h tk v σ' Q E g dr os S V ht ee H
  refine bd2 (evE_meth.symm.trans ee) fun v0 σ1 e1 e2 => ?_
  obtain ⟨pl, he⟩ := he env
  refine MethodCall_ (pl := pl) (ho.1 c hc ok S V ht e1 fun ps1 h1 t1 y1 p1 S1 r1 ht1 => ?_) he
  have V1 := V.mono p1
  have H1 := H.up p1
  clear ee e1 H V S
  cases v0 with
  | ref a =>
    dsimp only [methV] at e2
    have ga0 : ∀ q fs cl, σ1[a]? = some (.inst cl fs) → getK mi fs = some (.ref q) → cx.clsi cl mi = true → getAttrV cx (.ref a) mi σ1 = some (.ref q, σ1) := fun q fs cl h1 h2 h3 => by
      show (σ1[a]?).bind _ = _
      rw [h1]
      show ownA cx cl mi fs σ1 _ = _
      unfold ownA
      rw [h2]
      exact if_pos h3
    have r1' := r1
    revert r1'
    refine cellIE S1 r1 e2 fun a' A1 D1 es' n1 cl fs ha hob hpp g1 g2 i1 nd1 b1 e r1' => ?_
    obtain rfl := V.ref_inj ha
    have I : InstAt h1 A1 (instObj cl D1) cl (some (dictOf es' n1)) := ⟨g1, rfl, rfl, g2⟩
    have gl := getL_of G.co.nd hn i1
    cases hq : getK mi fs with
    | some vq =>
      rw [hq] at e
      cases vq with
      | ref q =>
        refine gdE e fun hci e => bdE e fun ob hqq e => ?_
        cases ob with
        | meth gg self =>
          refine bd2 e fun vs σ2 e3 e => gdE e fun hq2 e4 => ?_
          obtain ⟨hq2, hB⟩ := hq2
          obtain ⟨⟨g1, g2⟩, _⟩ := G.co.plain _ _ (.inl hci)
          refine method_usual (r := none) (S1.K ok) I g1 g2 (G.co.name hn hci).1 rfl (getAttr_ok G.so G.co S1 ok.X hn r1' (ga0 q fs cl hob hq hci) ht1 fun ps2 h2 t2 y2 p2 S2 r2 ht2 => ?_)
          have key : ∀ {ps' : PZ} {h' : Heap}, (hds ps2).Le (hds ps') → SR W c m X σ2 ps' h' → ∃ A3 y3, y2 = .ref A3 ∧ h'.get? A3 = some (methodObj (.ref gg) y3) ∧ VR (hds ps') self y3 := fun p' S' => by
            refine ownE S' (r2.mono p') hq2 fun part3 hp3 hr3 => ?_
            cases hr3 with
            | meth rs => exact ⟨_, _, rfl, S'.at hp3 (.head _), rs⟩
          refine callEs hes hc ok (hp env) S2 (V1.mono p2) ht2 e3 (fun ps' h' p' S' => ?_) fun ps3 h3 t3 ys p3 S3 r3 ht3 => wpAny_call ?_
          · obtain ⟨A3, y3, rfl, ha, _⟩ := key p' S'
            exact keeps_M (hfn _ _ _ _ hB e4) h' ⟨ha, S'.K ok⟩
          · obtain ⟨A3, y3, rfl, ha, rs⟩ := key p3 S3
            exact method_call ha (G.call gg (self :: vs) σ2 v σ' hB e4 c ok.toC S3 (.cons rs r3) ht3 (H1.up (p2.trans p3)))
        | _ => exact noE e
      | _ => exact noE e
    | none =>
      rw [hq] at e gl
      exact clsCall_ok G hfn hn hes hc ok (hp env) S1 V1 ht1 r1' I gl e H1
  | sref a =>
    cases r1
    refine bdE e2 fun ob hob e => oInstE e fun cl fs q e1 => ?_
    subst q
    obtain ⟨es', D1, n1, g1, g2, i1, _⟩ := G.so.ro (hs := hds ps1) (S1.K ok) hob
    have gl := getL_of G.co.nd hn i1
    cases hq : getK mi fs with
    | some _ => rw [hq] at e1; exact noE e1
    | none =>
      rw [hq] at e1 gl
      exact clsCall_ok G hfn hn hes hc ok (hp env) S1 V1 ht1 (.sref a) ⟨g1, rfl, rfl, g2⟩ gl e1 H1
  | _ => exact noE e2
end
end PL
end
section
namespace PL
section
variable {W : Wd} {cx : Cx} {cs : Scope} {cp : Option Cp} {d : Nat}
noncomputable def Val1 (W : Wd) (cx : Cx) (d : Nat) (f : Value) (g1 : V → St → Option (V × St)) : Prop :=
  ∀ (c : Fc), FOk W c d → ∀ {m : Str → Option Value} {X : List (Addr × Obj)} {σ : St} {ps : PZ} {h : Heap} {tk : Nat} {v r : V} {σ' : St} {y : Value} {Q : Value → Shared → Prop} {E : Value → Shared → Prop} {g : Array GenState} {dr : Drawn} {os : OsState},
    SR W c m X σ ps h → VR (hds ps) v y → 1 ≤ tk → g1 v σ = some (r, σ') → Hand W c m X (hds ps) σ' r g dr os Q → wpAny (model W.prog W.w) c.A (call f [y]) Q E ⟨h, g, dr, tk, os⟩
structure BtOk (W : Wd) (cs : Scope) (cp : Option Cp) (x : Str) (y : Value) : Prop where
  hg : nsIn W.K mainGlobals x = some none
  hv : bootBuiltins x = some y
  hn : x ≠ "__name__"
  hk : (scOf cs cp).names.lookup x = some .globalImplicit
  hs : (scOf cs cp).kind = .function
  hd : (x == ("__debug__" : Str)) = false
theorem keeps_bt {M : Model} {h : Heap} {f : Value} (hf : ∀ a, f ≠ .ref a) : ∃ k, (k = Keeper.frame ∨ k = Keeper.machine ∨ k = Keeper.boundFrame) ∧ Looks M h (keeperOf f) k := by
  refine ⟨.machine, .inr (.inl rfl), ?_⟩
  cases f with
  | ref a => exact absurd rfl (hf a)
  | _ => exact Looks.of_pure rfl
theorem ok_fn1 {f : Value} {g1 : V → St → Option (V × St)} {mk e : PE} {x : PySem.Expr} {nm : Str} {npos pos : Pos} (hev : ∀ L σ, evE cx mk L σ = (evE cx e L σ).bind fun p => g1 p.1 p.2) (B : BtOk W cs cp nm f) (hf : ∀ a, f ≠ .ref a) (V1 : Val1 W cx d f g1) (he : OkE W cx cs cp d e x)
    (hx : ∀ env, starEach [x] env = (false, eval x env) :: starEach [] env)
    (hc : ∀ env, eval (.Call (.Name nm npos) [x] [] pos) env = (do callWith pos (← eval (.Name nm npos) env) [] (backTo pos (starEach [x] env)) (backToKw pos (keywordEach [] env)))) : OkE W cx cs cp d mk (.Call (.Name nm npos) [x] [] pos) := by
  refine ⟨?_⟩
  intro c hcs ok env m X L σ ps h tk v σ' Q E g dr os S V ht ee H
  refine bd2 ((hev L σ).symm.trans ee) fun v0 σ1 e1 e2 => ?_
  refine Call_ (name_bt S ok hcs V B.hg B.hv B.hn B.hk B.hs B.hd ?_) (hc env)
  refine callEs (first := []) (okEs_cons he okEs_nil hx) hcs ok (by rw [hx]; rfl) S V ht (vs := [v0]) (σ' := σ1) (by rw [evEs_cons, e1]; rfl) (fun qq1 qq2 qq3 qq4 => keeps_bt hf) fun ps2 h2 t2 ys p2 S2 r2 ht2 => ?_
  cases r2 with
  | cons r2 rn =>
    cases rn
    exact V1 c ok S2 r2 ht2 e2 (H.up p2)
theorem len_ok (G : GOk W cx d) : Val1 W cx d (.builtin "len") (lenV cx) := by
  intro c ok m X σ ps h tk v r σ' y Q E g dr os S ra ht e H
  refine sobE G.so S (S.K ok) ra e (fun s t qq1 hl e => ?_) fun o A' qq1 ro e => ?_
  · refine PyProof.Rows.len_str (by rw [toS_len]; exact Int.not_le.mpr (lim63 (Nat.le_trans hl (Nat.le_add_right _ _)))) ?_
    rw [toS_len]
    exact (H.eq e).stay (t := tk + 1 + 1) S (.int _ _) (tk1 2 ht)
  · cases o with
    | list vs =>
      obtain ⟨its, n, hA, i1, hn⟩ := ro
      refine PyProof.Rows.len_list (items := its.toArray) ⟨_, hA, rfl, _, rfl⟩ (by rw [List.size_toArray, ← i1.len]; exact lim63 hn) ?_
      rw [List.size_toArray, ← i1.len]
      exact (H.eq e).stay (t := tk + 1 + 1) S (.int _ _) (tk1 2 ht)
    | dict kvs =>
      obtain ⟨ks, ob, hA, d1, i1, b1, y1⟩ := ro
      have D : h.DictOf (PySem.strKind W.prog W.w) A' ks := Heap.dictOf_iff.mpr ⟨_, hA, d1⟩
      refine call_len_dict y1 D (by rw [← i1.len]; exact lim63 (Nat.le_trans b1 (Nat.le_add_right _ _))) ?_
      rw [← i1.len]
      exact (H.eq e).stay (t := tk + 1 + 1) S (.int _ _) (tk1 2 ht)
    | _ => exact noE e
theorem ord_ok : Val1 W cx d (.builtin "ord") ordV := by
  intro c ok m X σ ps h tk v r σ' y Q E g dr os S ra ht e H
  refine strE ra e fun s t qq1 e => ?_
  cases s with
  | nil => exact noE e
  | cons a s => cases s with
    | nil => exact PySem.P.ord_of_char ((H.eq e).stay (t := tk + 1) S (.int _ _) (tk1 1 ht))
    | cons _ _ => exact noE e
theorem chr_ok : Val1 W cx d (.builtin "chr") chrV := by
  intro c ok m X σ ps h tk v r σ' y Q E g dr os S ra ht e H
  exact intE ra e fun i t e => gdE e fun hl e => PySem.P.chr_of_int (by simp; lia) ((H.eq e).stay (y := .str (toS [_]) tk) (t := tk + 1) S (.str _ _ (show 1 ≤ LIM by decide)) (tk1 1 ht))
theorem sum_ints {hs : HS} : ∀ {vs : List V} {its : List Value} {a r : Int}, All2 (VR hs) vs its → sumV vs a = some r → ∃ ns, IntsAre its ns ∧ r = a + ns.sum
  | [], _, a, r, i, e => by cases i; cases e; exact ⟨[], .nil, by simp⟩
  | v :: vs, _, a, r, i, e => by
    cases i with
    | cons h t =>
      cases v <;> simp only [sumV, reduceCtorEq] at e
      cases h
      obtain ⟨ns, h1, h2⟩ := sum_ints t e
      exact ⟨_ :: ns, .cons _ _ h1, by simp; lia⟩
theorem sum_ok (G : GOk W cx d) : Val1 W cx d (.builtin "sum") (sumOV cx) := by
  intro c ok m X σ ps h tk v r σ' y Q E g dr os S ra ht e H
  refine objE G.so S (S.K ok) ra e fun o A' qq1 ro e => oListE e fun vs q e1 => mp0 e1 fun i hi e2 => ?_
  subst q
  obtain ⟨its, n, hA, i1, hn⟩ := ro
  obtain ⟨ns, h1, h2⟩ := sum_ints i1 hi
  obtain ⟨g0, G0, F0⟩ := S.F
  refine wpAny_with_toks (Nat.le_refl _) (sumK ok.hh F0 (G0.news S.N) ⟨_, hA, rfl, _, rfl⟩ h1 fun h' tk' t' F' N' hk => ?_)
  rw [Int.zero_add] at h2
  subst h2
  exact (H.eq e2) ps h' tk' _ (.rfl) (S.keep ⟨g0, G0, F'⟩ (G0.back N')) (.int _ _) (Nat.le_trans ht hk)
theorem rng_new {c : Fc} {m : Str → Option Value} {X : List (Addr × Obj)} {σ : St} {ps : PZ} {h : Heap} {tk : Nat} {g : Array GenState} {dr : Drawn} {os : OsState} (S : SR W c m X σ ps h) {a b s : Int} {t u w : Tok} {v : V} {σ' : St} (e : allocO (.rng a b s) σ = some (v, σ')) (ht : 1 ≤ tk) {Q : Value → Shared → Prop} (k : Hand W c m X (hds ps) σ' v g dr os Q) :
    Q (.ref h.objs.size) ⟨h.push { cls := .type "range", dict := none, data := .fields #[.int a t, .int b u, .int s w], slots := #[] }, g, dr, tk, os⟩ := by
  refine (k.eq e) _ _ _ _ pre_snoc (S.push1 (o := .rng _ _ _) rfl .rng) ?_ ht
  rw [hds_snoc]
  exact VR.last (hds_len.trans S.len.symm)
theorem range_ok : Val1 W cx d (.type "range") rangeV := by
  intro c ok m X σ ps h tk v r σ' y Q E g dr os S ra ht e H
  exact intE ra e fun i t e => gdE e fun hl e => call_range_1 (rng_new S e (tk1 (t := tk) 2 ht) H)
theorem alloc_copy {c : Fc} {m : Str → Option Value} {X : List (Addr × Obj)} {σ : St} {ps : PZ} {h : Heap} {tk : Nat} {g : Array GenState} {dr : Drawn} {os : OsState} (S : SR W c m X σ ps h) {l : List V} {il : List Value} {v : V} {σ' : St} (i1 : All2 (VR (hds ps)) l il) (e : allocL l σ = some (v, σ')) (ht : 1 ≤ tk)
    {D : Addr} {n : Nat} {h' : Heap} (F' : FrU c h' m) (N' : News c.h₀ c.L h' ((D, listOf il.toArray n) :: (ps.flatten ++ X))) (lt : ∀ p ∈ ps.flatten ++ X, p.1 < D)
    {Q : Value → Shared → Prop} (k : Hand W c m X (hds ps) σ' v g dr os Q) : Q (.ref D) ⟨h', g, dr, tk, os⟩ := by
  refine gdE e fun hl e => (k.eq e) (ps.add [(D, listOf il.toArray n)]) _ tk _ pre_snoc (S.new1 F' N' lt (.list (i1.mono fun qq1 qq2 => VR.mono .add) (Nat.le_trans hl (Nat.le_add_right _ _)))) ?_ ht
  rw [hds_snoc]
  exact VR.last (hds_len.trans S.len.symm)
theorem size_lim {hs : HS} {l : List V} {il : List Value} (i : All2 (VR hs) l il) (h : l.length ≤ LIM + LIM) : il.toArray.size ≤ sizeLine := by
  simp only [List.size_toArray, ← i.len]; exact lim_line h
theorem keys_vr {hs : HS} {prog : Program} {w : World} : ∀ {kvs : List (List Nat × V)} {ks : List (Str × Value)} {vs : List Value}, All2 (KV hs) kvs ks → (kvs.all fun p => decide (p.1.length ≤ LIM)) = true → vs.length = ks.length →
    (∀ (j : Nat) v, vs[j]? = some v → ∃ k x, ks[j]? = some (k, x) ∧ (PySem.strKind prog w).is k v = true) → All2 (VR hs) (kvs.map fun p => .str p.1) vs
  | _, _, [], .nil, _, _, _ => .nil
  | _, _, _ :: _, .nil, _, hl, _ => by simp at hl
  | _, _, [], .cons _ _, _, hl, _ => by simp at hl
  | _, _, v :: vs, .cons (a := a) (b := b) h t, hb, hl, hv => by
    rw [List.all_cons, Bool.and_eq_true] at hb
    refine .cons ?_ (keys_vr (prog := prog) (w := w) t hb.2 (by simpa using hl) fun j u hu => ?_)
    · obtain ⟨k, x, hk, hs⟩ := hv 0 v rfl
      simp at hk
      obtain ⟨t', rfl⟩ := Value.isStrOf_shape hs
      have h1 := h.1
      rw [hk] at h1
      simp only at h1
      subst h1
      exact .str _ _ (by simpa using hb.1)
    · have := hv (j + 1) u (by simpa using hu)
      simpa using this
theorem SR.grow1 {c : Fc} {m : Str → Option Value} {X : List (Addr × Obj)} {σ : St} {ps : PZ} {h h' : Heap} (S : SR W c m X σ ps h) (hk : ∀ b x, h.get? b = some x → h'.get? b = some x) {ob : Obj} {o : O} (ho : h'.get? h.objs.size = some ob)
    (hr : ORel W.prog W.w W.tb ((hds ps).add h.objs.size) o [(h.objs.size, ob)]) : SR W c m X (σ ++ [o]) (ps.add [(h.objs.size, ob)]) h' := by
  refine S.new1 (S.F.keeps hk) (fun p hp => ?_) (fun p hp => Heap.lt_size (S.N p hp).1) hr
  rcases List.mem_cons.mp hp with rfl | hp
  · refine ⟨ho, Nat.ne_of_gt S.F.ns.lt, ?_⟩
    obtain ⟨g0, G0, F0⟩ := S.F
    refine G0.none.mpr ?_
    cases q : g0.get? h.objs.size with
    | none => rfl
    | some x => exact absurd (Heap.lt_size (F0.keep _ _ q)) (Nat.lt_irrefl _)
  · exact ⟨hk _ _ (S.N p hp).1, (S.N p hp).2⟩
theorem toS_cps (l : List Nat) : (toS l).cps.size = l.length := by simp [toS]
theorem signs_vr {hs : HS} : ∀ {l : List Nat} {ys : List Value}, ys.length = l.length → (∀ (j : Nat) v, ys[j]? = some v → ∃ c u, l[j]? = some c ∧ v = .str ⟨#[c]⟩ u) → All2 (VR hs) (l.map fun ch => V.str [ch]) ys
  | [], [], _, _ => .nil
  | [], _ :: _, h, _ => by simp at h
  | _ :: _, [], h, _ => by simp at h
  | x :: l, y :: ys, h, hv => by
    refine .cons ?_ (signs_vr (by simpa using h) fun j v e => by simpa using hv (j + 1) v (by simpa using e))
    obtain ⟨c, u, h1, rfl⟩ := hv 0 y rfl
    simp at h1
    subst h1
    exact .str [x] u (by unfold LIM; simp)
theorem keysE {G : Prop} {kvs : List (List Nat × V)} {vs : List V} (e : keysO kvs = some vs) (k : (kvs.all fun p => decide (p.1.length ≤ LIM)) = true → vs = (kvs.map fun p => .str p.1) → G) : G := gdE e fun hb e => k hb (Option.some.inj e).symm
theorem listOf_ok (G : GOk W cx d) : Val1 W cx d (.type "list") (fun v σ => (listOfV cx σ v).bind fun vs => allocL vs σ) := by
  intro c ok m X σ ps h tk v r σ' y Q E g dr os S ra ht e H
  refine bdE e fun vs e1 e2 => sobE G.so S (S.K ok) ra e1 (fun s t qq1 hl e1 => ?_) fun o A' qq1 ro e1 => ?_
  · obtain rfl := Option.some.inj e1
    refine wpAny_with_toks (Nat.le_refl _) (call_list_str ok.hh (toS s) t (fun h' tk' acc' c' hk hD hacc hkk => ?_) (by rw [toS_cps]; exact lim_line (Nat.le_trans hl (Nat.le_add_right _ _))))
    refine gdE e2 fun hlim e2 => ?_
    have S' := S.grow1 (o := .list (s.map fun ch => V.str [ch])) (ob := listOf acc'.toList.toArray c') hk (by rw [Array.toArray_toList]; exact hD) (.list (signs_vr (by simpa [toS] using hacc.1) fun j v hv => by
      obtain ⟨c1, u, h1, h2⟩ := hacc.2 j v (by simpa using hv)
      exact ⟨c1, u, by simpa [toS] using h1, h2⟩) (Nat.le_trans hlim (Nat.le_add_right _ _)))
    refine (H.eq e2) _ _ _ _ pre_snoc S' ?_ (Nat.le_trans ht hkk)
    rw [hds_snoc]
    exact VR.last (hds_len.trans S.len.symm)
  · obtain ⟨g0, G0, F0⟩ := S.F
    cases o with
    | list vs' =>
      obtain rfl := Option.some.inj e1
      obtain ⟨its, n, hA, i1, hn⟩ := ro
      exact list_copyK F0 (G0.news S.N) ⟨_, hA, rfl, _, rfl⟩ (fun D c' h' F' N' lt => alloc_copy S i1 e2 ht ⟨g0, G0, F'⟩ (G0.back N') lt H) (size_lim i1 hn)
    | tuple vs' =>
      obtain rfl := Option.some.inj e1
      obtain ⟨its, n, hA, i1, hn⟩ := ro
      exact list_copyKT F0 (G0.news S.N) ⟨_, hA, rfl, _, rfl⟩ (fun D c' h' F' N' lt => alloc_copy S i1 e2 ht ⟨g0, G0, F'⟩ (G0.back N') lt H) (size_lim i1 hn)
    | dict kvs =>
      obtain ⟨ks, ob, hA, d1, i1, b1, y1⟩ := ro
      refine keysE e1 fun hb q => ?_
      subst q
      have D : h.DictOf (PySem.strKind W.prog W.w) A' ks := Heap.dictOf_iff.mpr ⟨_, hA, d1⟩
      obtain ⟨ep, hat⟩ := D.dictAt
      exact wpAny_with_toks (Nat.le_refl _) (kdl_N (kdl_dict (knd := PySem.strKind W.prog W.w) (kvs := ks) (ep := ep) y1) ok.hh F0 (G0.news S.N) hat (i1.len ▸ lim_line (Nat.le_trans b1 (Nat.le_add_right _ _))) fun B c' h' tk' vs F' N' lt hl hv hk => alloc_copy S (keys_vr i1 hb hl hv) e2 (Nat.le_trans ht hk) ⟨g0, G0, F'⟩ (G0.back N') lt H)
    | _ => exact noE e1
end
end PL
end
section
namespace PL
section
variable {W : Wd} {cx : Cx} {cs : Scope} {cp : Option Cp} {d : Nat}
noncomputable def ValM (W : Wd) (cx : Cx) (d : Nat) (id : String) (gm : V → List V → St → Option (V × St)) : Prop :=
  ∀ (c : Fc), FOk W c d → ∀ {m : Str → Option Value} {X : List (Addr × Obj)} {σ : St} {ps : PZ} {h : Heap} {tk : Nat} {o r : V} {vs : List V} {σ' : St} {x : Value} {ys : List Value} {Q : Value → Shared → Prop} {E : Value → Shared → Prop} {g : Array GenState} {dr : Drawn} {os : OsState},
    SR W c m X σ ps h → VR (hds ps) o x → All2 (VR (hds ps)) vs ys → 1 ≤ tk → gm o vs σ = some (r, σ') → Hand W c m X (hds ps) σ' r g dr os Q → wpAny (model W.prog W.w) c.A (call (.builtin id) (x :: ys)) Q E ⟨h, g, dr, tk, os⟩
noncomputable def GetM (W : Wd) (id : String) (nm : Str) (P : V → St → Prop) : Prop :=
  ∀ (c : Fc) {m : Str → Option Value} {X : List (Addr × Obj)} {σ : St} {ps : PZ} {h : Heap} {tk : Nat} {o : V} {x : Value} {pl : Sem Bool} {A : Around} {Q : Value × List Value → Shared → Prop} {E : Value → Shared → Prop} {g : Array GenState} {dr : Drawn} {os : OsState},
    SR W c m X σ ps h → VR (hds ps) o x → P o σ → Q (.builtin id, [x]) ⟨h, g, dr, tk, os⟩ → wpAny (model W.prog W.w) A (getMethod x nm pl) Q E ⟨h, g, dr, tk, os⟩
theorem ok_bm {id : String} {gm : V → List V → St → Option (V × St)} {P : V → St → Prop} {mk o : PE} {es : List PE} {x : PySem.Expr} {xs : List PySem.Expr} {nm : Str} {apos pos : Pos}
    (hev : ∀ L σ r σ', evE cx mk L σ = some (r, σ') → ∃ ov σ1 vs σ2, evE cx o L σ = some (ov, σ1) ∧ P ov σ1 ∧ evEs cx es L σ1 = some (vs, σ2) ∧ gm ov vs σ2 = some (r, σ')) (GM : GetM W id nm P) (VM : ValM W cx d id gm)
    (ho : OkE W cx cs cp d o x) (hes : OkEs W cx cs cp d es xs) (hp : ∀ env, (backTo pos (starEach xs env)).any (·.1) = false)
    (he : ∀ env, ∃ pl, eval (.Call (.Attribute x nm apos) xs [] pos) env = (do
      let ov ← eval x env
      standAt apos.atName
      let (f, first) ← holding [ov] (getMethod ov nm pl)
      callWith pos f first (backTo pos (starEach xs env)) [])) : OkE W cx cs cp d mk (.Call (.Attribute x nm apos) xs [] pos) := by
  refine ⟨?_⟩
  intro c hc ok env m X L σ ps h tk v σ' Q E g dr os S V ht ee H
  obtain ⟨ov, σ1, vs, σ2, e1, hP, e2, e3⟩ := hev _ _ _ _ ee
  obtain ⟨pl, he⟩ := he env
  refine MethodCall_ (pl := pl) (ho.1 c hc ok S V ht e1 fun ps1 h1 t1 y1 p1 S1 r1 ht1 => GM c S1 r1 hP ?_) he
  refine callEs hes hc ok (hp env) S1 (V.mono p1) ht1 e2 (fun qq1 qq2 qq3 qq4 => keeps_bt (fun a q => nomatch q)) fun ps2 h2 t2 ys p2 S2 r2 ht2 => ?_
  exact VM c ok S2 (r1.mono p2) r2 ht2 e3 (H.up (p1.trans p2))
@[elab_as_elim] theorem vconsE {hs : HS} {P : List Value → Prop} {β : Type} {vs : List V} {ys : List Value} {f : V → List V → Option β} {b : β} (rs : All2 (VR hs) vs ys) (e : vcons vs f = some b) (k : ∀ v y r ys', VR hs v y → All2 (VR hs) r ys' → f v r = some b → P (y :: ys')) : P ys := by
  cases rs with
  | nil => exact noE e
  | cons h t => exact k _ _ _ _ h t e
@[elab_as_elim] theorem vnilE {hs : HS} {P : List Value → Prop} {β : Type} {vs : List V} {ys : List Value} {f : Option β} {b : β} (rs : All2 (VR hs) vs ys) (e : vnil vs f = some b) (k : f = some b → P []) : P ys := by
  cases rs with
  | nil => exact k e
  | cons h t => exact noE e
noncomputable def IsStrV (o : V) (_ : St) : Prop := ∃ s, o = .str s
theorem get_str {id : String} {nm : Str} (slot : Slot "str" nm id) (ty : typeOf (.builtin id) = pure (.type "method_descriptor")) : GetM W id nm IsStrV := by
  intro c m X σ ps h tk o x pl A Q E g dr os S ra hP hq
  obtain ⟨s, rfl⟩ := hP
  cases ra
  exact GM.of _ (typeIs_str _ _ _) slot ty GM.noRef hq
theorem isList_of {σ : St} {o : V} (e : isListV σ o = true) : ∃ a vs, o = .ref a ∧ σ[a]? = some (.list vs) := by
  cases o with
  | ref a =>
    dsimp only [isListV] at e
    cases q : σ[a]? with
    | none => rw [q] at e; cases e
    | some o =>
      rw [q] at e
      cases o with
      | list vs => exact ⟨a, vs, rfl, q⟩
      | _ => cases e
  | _ => cases e
theorem isDict_of {σ : St} {o : V} (e : isDictV σ o = true) : ∃ a vs, o = .ref a ∧ σ[a]? = some (.dict vs) := by
  cases o with
  | ref a =>
    dsimp only [isDictV] at e
    cases q : σ[a]? with
    | none => rw [q] at e; cases e
    | some o =>
      rw [q] at e
      cases o with
      | dict vs => exact ⟨a, vs, rfl, q⟩
      | _ => cases e
  | _ => cases e
theorem get_list {id : String} {nm : Str} (slot : Slot "list" nm id) (ty : typeOf (.builtin id) = pure (.type "method_descriptor")) : GetM W id nm (fun o σ => isListV σ o = true) := by
  intro c m X σ ps h tk o x pl A Q E g dr os S ra hP hq
  obtain ⟨a, vs, rfl, ho⟩ := isList_of hP
  obtain ⟨part, hp, rfl, hr⟩ := S.own ra ho
  cases hr with
  | @list _ its A1 n1 i1 hn =>
    have g1 := S.at hp (.head _)
    exact getMethod_builtin (s := ⟨h, g, dr, tk, os⟩) ⟨_, g1, rfl⟩ PySem.F.plainAttrs_list slot ty (fun a e => by cases e; exact ⟨_, g1, rfl⟩) hq
theorem SR.turn {c : Fc} {m : Str → Option Value} {X : List (Addr × Obj)} {σ : St} {ps : PZ} {h : Heap} (S : SR W c m X σ ps h) {a : Nat} {A1 : Addr} {its its' : List Value} {n1 : Nat} (hp : ps.p[a]? = some [(A1, listOf its.toArray n1)]) (f : Array Value → Array Value) (hf : f its.toArray = its'.toArray) {vs : List V}
    (i : All2 (VR (hds ps)) vs its') (hl : vs.length ≤ LIM + LIM) : ∃ ps', hds ps' = hds ps ∧ SR W c m X (σ.set a (.list vs)) ps' (h.update A1 (Obj.mapSeq f)) := by
  have g1 := S.at hp (.head _)
  have q := PySem.IsL.update (g1 : PySem.IsL h _ its.toArray n1) f
  rw [hf] at q
  obtain ⟨S', he⟩ := S.put (pre := []) (post := []) (ob := .list vs) hp (Heap.SameBut.update ..) q (.list i hl)
  exact ⟨_, he, S'⟩
theorem append_ok : ValM W cx d "list.append" (fun o vs σ => vcons vs fun v r => vnil r (appendV o v σ)) := by
  intro c ok m X σ ps h tk o r vs σ' x ys Q E g dr os S ra rs ht e H
  refine vconsE rs e fun v0 y0 qq1 qq2 rv rs e => vnilE rs e fun e => cellLE S ra e fun a A1 its n1 vs' qq1 qq2 hp g1 i1 hn e => gdE e fun hl e => ?_
  refine append_at (s := ⟨h, g, dr, tk, os⟩) g1 (fun h' hs ho' => ?_) (size_lim i1 hn)
  have e1 : its.toArray.push y0 = (its ++ [y0]).toArray := List.push_toArray ..
  rw [e1] at ho'
  obtain ⟨S', he⟩ := S.put (pre := []) (post := []) (ob := .list (vs' ++ [v0])) hp hs ho' (.list (i1.snoc rv) (by rw [List.length_append]; exact Nat.add_le_add hl (show 1 ≤ LIM by decide)))
  exact (H.eq e) _ _ _ _ (by rw [he]; exact .rfl) S' .none ht
theorem erase_arr (l : List Value) (k : Nat) (hk : k < l.length) : l.toArray.eraseIdxIfInBounds k = (l.eraseIdx k).toArray := by
  unfold Array.eraseIdxIfInBounds
  rw [dif_pos (by simpa using hk)]
  apply Array.toList_inj.mp
  rw [Array.toList_eraseIdx]
theorem popAt_ok : ValM W cx d "list.pop" (fun o vs σ => vcons vs fun v r => vnil r (popAtV o v σ)) := by
  intro c ok m X σ ps h tk o r vs σ' x ys Q E g dr os S ra rs ht e H
  refine vconsE rs e fun v0 y0 qq1 qq2 rv rs e => vnilE rs e fun e => cellLE S ra e fun a A1 its n1 vs' qq1 qq2 hp g1 i1 hn e => intE rv e fun j u e => bdE e fun k hk e => mp0 e fun v hv e => ?_
  obtain ⟨y, hy, ry⟩ := i1.get hv
  have hkl : k < its.length := (List.getElem?_eq_some_iff.mp hy).1
  obtain ⟨q1, q2⟩ := seq_idx hn hk
  have hs : seqIndex? j its.toArray.size = some k := by rw [List.size_toArray, ← i1.len]; exact q1
  have hf : Builtin.List.listFitsIndex j = true := by
    unfold Builtin.List.listFitsIndex; simp; lia
  obtain ⟨ps', he, S'⟩ := S.turn hp (fun xs => xs.eraseIdxIfInBounds k) (erase_arr its k hkl) (i1.eraseIdx k) (Nat.le_trans (List.length_eraseIdx_le ..) hn)
  exact call_meets PySem.F.slot_list_pop ⟨_, g1, rfl⟩ PySem.F.entry_list_pop (PySem.F.args_list_pop_2 _ _) (PySem.MeetsSeq.list_pop_at A1 its.toArray n1 j u k y hf hs (by simpa using hy) (size_lim i1 hn))
    ⟨g1, (H.eq e) _ _ _ _ (by rw [he]; exact .rfl) S' (by rw [he]; exact ry) ht⟩
theorem strs_of {hs : HS} : ∀ {vs : List V} {its : List Value} {ss : List (List Nat)}, All2 (VR hs) vs its → strsV vs = some ss → StrsAre its (ss.map toS)
  | [], _, ss, i, e => by cases i; cases e; exact .nil
  | v :: vs, _, ss, i, e => by
    cases i with
    | cons h t =>
      cases v <;> simp only [strsV, reduceCtorEq, Option.map_eq_some_iff] at e
      obtain ⟨ss', h', rfl⟩ := e
      cases h
      exact .cons _ _ (strs_of t h')
theorem join_eq0 (sep : List Nat) : ∀ ss : List (List Nat), Str.join (toS sep) (ss.map toS) = toS (joinL sep ss)
  | [] => rfl
  | [x] => rfl
  | x :: y :: r => by
    have ih := join_eq0 sep (y :: r)
    show toS x ++ toS sep ++ Str.join (toS sep) ((y :: r).map toS) = _
    rw [ih, toS_app, toS_app]; rfl
theorem join_eq (sep : List Nat) (ss : List (List Nat)) : Txt.join (toS sep) (ss.map toS) = toS (joinL sep ss) := by
  show Builtin.Str.glued _ _ = _
  rw [StrLaws.glued_eq_join, join_eq0]
theorem items_of (G : GOk W cx d) {c : Fc} {m : Str → Option Value} {X : List (Addr × Obj)} {σ : St} {ps : PZ} {h : Heap} (S : SR W c m X σ ps h) (K : W.K.In h) {v : V} {x : Value} (ra : VR (hds ps) v x) {vs : List V} (e : itemsV cx σ v = some vs) :
    ∃ A its, x = .ref A ∧ All2 (VR (hds ps)) vs its ∧ vs.length ≤ LIM + LIM ∧ ((∃ n, h.get? A = some (listOf its.toArray n)) ∨ ∃ n, h.get? A = some { cls := .type "tuple", data := .seq its.toArray n }) := by
  refine objE G.so S K ra e fun o A' qq1 ro e => ?_
  cases o with
  | list =>
    obtain ⟨its, n, hA, i1, hn⟩ := ro
    obtain rfl := Option.some.inj e
    exact ⟨_, its, rfl, i1, hn, .inl ⟨n, hA⟩⟩
  | tuple =>
    obtain ⟨its, n, hA, i1, hn⟩ := ro
    obtain rfl := Option.some.inj e
    exact ⟨_, its, rfl, i1, hn, .inr ⟨n, hA⟩⟩
  | _ => exact noE e
theorem lens_toS (ss : List (List Nat)) : ((ss.map toS).map (·.length)) = ss.map (·.length) := by
  rw [List.map_map]; apply List.map_congr_left; intro a _; exact toS_len a
theorem join_ok (G : GOk W cx d) : ValM W cx d "str.join" (fun o vs σ => strO o fun s => vcons vs fun v r => vnil r (joinV cx s v σ)) := by
  intro c ok m X σ ps h tk o r vs σ' x ys Q E g dr os S ra rs ht e H
  refine strE ra e fun sep t qq1 e => vconsE rs e fun v0 y0 qq1 qq2 rv rs e => vnilE rs e fun e => bdE e fun vs' e1 e => bdE e fun ss e2 e => gdE e fun hb e3 => ?_
  obtain ⟨A1, its, rfl, i1, hn, hg⟩ := items_of G S (S.K ok) rv e1
  have hs := strs_of i1 e2
  have hok : ((ss.map toS).map (·.length)).sum + (ss.map toS).length * (toS sep).length ≤ 16777216 := by
    rw [lens_toS, List.length_map, toS_len]; exact Nat.le_trans hb.1 (by decide)
  have fin : ∀ t' k, tk ≤ k → Q (.str (Txt.join (toS sep) (ss.map toS)) t') ⟨h, g, dr, k, os⟩ := fun t' k hk => by
    rw [join_eq]; exact (H.eq e3).stay S (.str _ _ hb.2) (Nat.le_trans ht hk)
  rcases hg with ⟨n, hg⟩ | ⟨n, hg⟩
  · exact wpAny_with_toks (Nat.le_refl _) (join_list (items := its.toArray) ⟨_, hg, rfl, _, rfl⟩ hs hok fin)
  · exact wpAny_with_toks (Nat.le_refl _) (join_tuple (items := its.toArray) ⟨_, hg, rfl, _, rfl⟩ hs hok fin)
theorem clamp_pos {j : Int} (n : Nat) (h : 0 ≤ j) : (max 0 (if j < 0 then j + n else j)).toNat = j.toNat := by
  rw [if_neg (by lia), Int.max_eq_right h]
theorem gives_count4 (x y : Str) (j : Int) (t u v w : Tok) : Gives (Builtin.«str.count» ⟨[.str x t, .str y u, .int 0 v, .int j w], []⟩) (.int (Builtin.Str.occurrences x y 0 (min ((max 0 (if j < 0 then j + x.length else j)).toNat) x.length) (x.length + 1)).length) := by
  show Gives (retInt (Builtin.Str.occurrences x y 0 (min ((max 0 (if j < 0 then j + x.length else j)).toNat) x.length) (x.length + 1)).length) _
  exact .of_eq rfl
theorem gives_rfind4 (x y : Str) (j : Int) (t u v w : Tok) : Gives (Builtin.«str.rfind» ⟨[.str x t, .str y u, .int 0 v, .int j w], []⟩) (.int (match Builtin.Str.lastOccurrence x y 0 (min ((max 0 (if j < 0 then j + x.length else j)).toNat) x.length) with | some i => (i : Int) | none => -1)) := by
  show Gives (match Builtin.Str.lastOccurrence x y 0 (min ((max 0 (if j < 0 then j + x.length else j)).toNat) x.length) with | some i => retInt i | none => (do rule "str.rfind.not-found"; retInt (-1))) _
  cases Builtin.Str.lastOccurrence x y 0 (min ((max 0 (if j < 0 then j + x.length else j)).toNat) x.length) with
  | none => exact .rule (.of_eq rfl)
  | some i => exact .of_eq rfl
noncomputable def args3 (f : List Nat → V → V → Option (V × St)) (vs : List V) : Option (V × St) := vcons vs fun p r => strO p fun p => vcons r fun l r => vcons r fun u r => vnil r (f p l u)
theorem count3_ok : ValM W cx d "str.count" (fun o vs σ => args3 (fun p l u => count3V p o l u σ) vs) := by
  intro c ok m X σ ps h tk o r vs σ' x ys Q E g dr os S ra rs ht e H
  refine vconsE rs e fun v0 y0 qq1 qq2 r1 rs e => strE r1 e fun p t qq1 e => vconsE rs e fun l yl qq1 qq2 r2 rs e => vconsE rs e fun u yu qq1 qq2 r3 rs e => vnilE rs e fun e => strE ra e fun s ts qq1 e => intE r2 e fun i ti e => intE r3 e fun j tj e => gdE e fun hb e9 => ?_
  obtain ⟨rfl, hb⟩ := hb
  refine call_gives PySem.F.slot_str_count (typeIs_str _ _ _) PySem.F.entry_str_count (PySem.F.args_str_count_4 _ _ _ _) (gives_count4 _ _ _ _ _ _ _) ?_
  rw [toS_len, clamp_pos _ hb.1]
  exact (H.eq e9).stay (t := tk + 1) S (.int _ _) (tk1 1 ht)
theorem rfind3_ok : ValM W cx d "str.rfind" (fun o vs σ => args3 (fun p l u => rfind3V p o l u σ) vs) := by
  intro c ok m X σ ps h tk o r vs σ' x ys Q E g dr os S ra rs ht e H
  refine vconsE rs e fun v0 y0 qq1 qq2 r1 rs e => strE r1 e fun p t qq1 e => vconsE rs e fun l yl qq1 qq2 r2 rs e => vconsE rs e fun u yu qq1 qq2 r3 rs e => vnilE rs e fun e => strE ra e fun s ts qq1 e => intE r2 e fun i ti e => intE r3 e fun j tj e => gdE e fun hb e9 => ?_
  obtain ⟨rfl, hb⟩ := hb
  refine call_gives PySem.F.slot_str_rfind (typeIs_str _ _ _) PySem.F.entry_str_rfind (PySem.F.args_str_rfind_4 _ _ _ _) (gives_rfind4 _ _ _ _ _ _ _) ?_
  rw [toS_len, clamp_pos _ hb.1]
  exact (H.eq e9).stay (t := tk + 1) S (.int _ _) (tk1 1 ht)
theorem strs_vr {hs : HS} : ∀ {l : List (Str × Tok)} {xs : List Str}, l.map (·.1) = xs → (xs.all fun x => decide (x.length ≤ LIM)) = true → All2 (VR hs) (xs.map fun x => .str (ofS x)) (strValues l)
  | [], _, e, _ => by subst e; exact .nil
  | (x, t) :: r, _, e, hb => by
    subst e
    simp only [List.map_cons, List.all_cons, Bool.and_eq_true] at hb
    refine .cons ?_ (strs_vr rfl hb.2)
    have : (Value.str x t) = .str (toS (ofS x)) t := by rw [toS_ofS]
    show VR hs _ (.str x t)
    rw [this]
    exact .str _ _ (by have := hb.1; simp only [decide_eq_true_eq] at this; rw [← toS_len, toS_ofS]; exact this)
theorem split_ok : ValM W cx d "str.split" (fun o vs σ => vcons vs fun p r => strO p fun p => vnil r (splitV p o σ)) := by
  intro c ok m X σ ps h tk o r vs σ' x ys Q E g dr os S ra rs ht e H
  refine vconsE rs e fun v0 y0 qq1 qq2 r1 rs e => strE r1 e fun p t qq1 e => vnilE rs e fun e => strE ra e fun s ts hl e => gdE e fun hb e => ?_
  obtain ⟨g0, G0, F0⟩ := S.F
  refine wpAny_with_toks (Nat.le_refl _) (KSpl.split1 F0 (G0.news S.N) (by rw [toS_len]; have := hb.1; cases p <;> simp_all) (fun D l h' k e1 hst F' N' lt hk => ?_) (by rw [toS_len, sizeLine_eq]; unfold LIM at hl; lia))
  exact alloc_copy S (strs_vr e1 hb.2) e (Nat.le_trans ht hk) ⟨g0, G0, F'⟩ (G0.back N') lt H
theorem ok_repl {a b : List Nat} {sa sb : Str} {o : PE} {x : PySem.Expr} {ka kb : Nat} {pa pb apos pos : Pos} (hsa : toS a = sa) (hsb : toS b = sb) (ho : OkE W cx cs cp d o x)
    (he : ∀ env, ∃ pl, eval (.Call (.Attribute x "replace" apos) [.Constant (.str sa) ka pa, .Constant (.str sb) kb pb] [] pos) env = (do
      let ov ← eval x env
      standAt apos.atName
      let (f, first) ← holding [ov] (getMethod ov "replace" pl)
      callWith pos f first (backTo pos (starEach [.Constant (.str sa) ka pa, .Constant (.str sb) kb pb] env)) [])) : OkE W cx cs cp d (.replC o a b) (.Call (.Attribute x "replace" apos) [.Constant (.str sa) ka pa, .Constant (.str sb) kb pb] [] pos) := by
  refine ⟨?_⟩
  intro c hc ok env m X L σ ps h tk v σ' Q E g dr os S V ht ee H
  subst hsa hsb
  refine bd2 (evE_replC.symm.trans ee) fun ov σ1 e1 e2 => ?_
  obtain ⟨pl, he⟩ := he env
  refine MethodCall_ (pl := pl) (ho.1 c hc ok S V ht e1 fun ps1 h1 t1 y1 p1 S1 r1 ht1 => strE r1 e2 fun s t hl e => gdE e fun hb e => ?_) he
  refine GM.of _ (typeIs_str _ _ _) PySem.F.slot_str_replace PySem.F.type_str_replace GM.noRef ?_
  refine callWith_of (P := fun qq1 => True) rfl (fun h' qq1 => keeps_bt (fun a q => nomatch q)) (evalArgs_any rfl ?_)
  refine wpAny_items_cons (wpAny_Constant_str (wpAny_items_cons (wpAny_Constant_str (wpAny_items_nil ⟨trivial, ?_⟩))))
  have ne : (toS a == toS b) = false := beq_eq_false_iff_ne.mpr fun q => hb.2.1 (toS_inj q)
  refine wpAny_with_toks (n := t1) (show t1 ≤ t1 + 1 + 1 from Nat.le_add_right t1 2) (PySem.SC.replaceW (x := toS s) (y := toS a) (z := toS b) (u := t1) (v := t1 + 1) (Nat.ne_of_gt ht1) (Nat.succ_ne_zero t1) (Nat.ne_of_lt (Nat.lt_succ_self t1)) ne (by rw [toS_len]; unfold LIM at hl; lia) (by rw [toS_len]; exact hb.2.2) fun t' k hk => ?_)
  have : (Value.str (Txt.replace (toS s) (toS a) (toS b)) t') = .str (toS (ofS (Txt.replace (toS s) (toS a) (toS b)))) t' := by rw [toS_ofS]
  rw [this]
  exact (H.eq e) ps1 h1 k _ p1 S1 (.str _ _ hb.1) (Nat.le_trans ht1 hk)
end
end PL
end
section
namespace PL
open Sem (wp)
theorem keys_miss : typeLookup (.type "list") "keys" = pure none := by rw [typeLookup_type, builtinLookup_eq_fast]; kernel_rfl
theorem getAttrQ_list {prog : Program} {w : World} {A : Around} {E : Value → Shared → Prop} {h : Heap} {g : Array GenState} {d : Drawn} {tk : Nat} {os : OsState} {a : Addr} {xs : Array Value} {k : Nat} {Q : Option Value → Shared → Prop}
    (hx : h.get? a = some (listOf xs k)) (hA : A.handled = none) (hq : ∀ h' tk', (∀ b o, h.get? b = some o → h'.get? b = some o) → Q none ⟨h', g, d, tk', os⟩) : wpAny (model prog w) A (getAttr? (.ref a) "keys") Q E ⟨h, g, d, tk, os⟩ := by
  have hT : ∀ tk', (⟨h, g, d, tk', os⟩ : Shared).TypeIs (.ref a) "list" := fun qq1 => ⟨_, hx, rfl⟩
  have f1 := sub_AttributeError
  have f3 := PySem.F.slot_list_getattribute.lookup
  have f4 := PySem.F.slot_list_getattribute.bind (.ref a)
  have f5 := am_list_getattr_none
  unfold getAttr? getAttrBy? getAttrBy
  repeat (any_goals (first | assumption | exact hT _ | ((with_reducible show wpAny _ _ (call (Value.builtin "list.__getattribute__") _ _) _ _ _); refine call_meets PySem.F.slot_list_getattribute (hT _) am_entry_list_getattribute (PySem.F.args_list_getattribute_2 _ _) (meets_getattribute_miss_list a xs k #[] "keys" _ keys_miss (by decide +kernel) (by decide +kernel)) ⟨hx, hA, fun h' tk' e hx' => ?_⟩) | wp_step))
  obtain ⟨t', u', he⟩ := hx'.there
  show wpAny _ _ (getattributeRaised _ _ _ _ _ _ _) _ _ _
  unfold getattributeRaised
  repeat (any_goals (first | assumption | wp_step))
  all_goals exact hq _ _ hx'.keeps
end PL
end
section
namespace PL
open Sem (wp)
theorem entry_upd_loop : entryFor table "dict.update.loop" = some Builtin.«dict.update.loop» := entryFor_of_tree (by kernel_rfl)
theorem plain_upd_loop : plainId "dict.update.loop" = true := by decide +kernel
noncomputable def PairAt (h : Heap) (x : Value) (kv : Str × Value) : Prop := ∃ a t n, x = .ref a ∧ h.get? a = some (listOf #[.str kv.1 t, kv.2] n)
noncomputable def PairOff (d I : Addr) (h : Heap) (x : Value) (kv : Str × Value) : Prop := PairAt h x kv ∧ ∀ a, x = .ref a → a ≠ d ∧ a ≠ I
theorem upd_loop {prog : Program} {w : World} {A : Around} {R : Result → Shared → Prop} {g : Array GenState} {dr : Drawn} {os : OsState} {d I l : Addr} {res : Value} (hh : A.handled = none) (dI : d ≠ I) (dl : d ≠ l) (Il : I ≠ l) (items : List Value) :
    ∀ (todo : List (Str × Value)) (i : Nat) (acc : List (Str × Value)) (h : Heap) (tk : Nat) (u : Tok), h.IsListIter I l i → h.IsList l items.toArray → All2 (PairOff d I h) (items.drop i) todo → h.DictOf (PySem.strKind prog w) d acc → acc.length + todo.length ≤ sizeLine →
    (∀ h' tk', h'.DictOf (PySem.strKind prog w) d (merged acc todo) → (∀ b o, b ≠ d → b ≠ I → h.get? b = some o → h'.get? b = some o) → R (.ok (.ret res)) ⟨h', g, dr, tk', os⟩) →
    codeAny (model prog w) A (.builtin "dict.update.loop" ⟨[.ref d, .ref I, .int i u, res], []⟩) R ⟨h, g, dr, tk, os⟩ := by
  intro todo
  induction todo with
  | nil =>
    intro i acc h tk u hit hl hp hd hz hR
    refine codeAny_builtin entry_upd_loop ?_
    rw [Around.under_plainId plain_upd_loop _]
    show wpAny _ A.in1 (pyNext (.ref I) >>= _) _ _ _
    have hn : items.toArray[i]? = none := by
      cases e : items.drop i with
      | nil => simpa using List.drop_eq_nil_iff.mp e
      | cons a r => rw [e] at hp; cases hp
    refine wpAny_bind (wpAny_pyNext_list_end hh hit hl hn fun h' hs => ?_)
    show wpAny _ _ (Builtin.Dict.addKeywords d [] >>= _) _ _ _
    refine wpAny_bind (wpAny_pure (wpAny_pure ?_))
    exact hR h' tk (hd.extBut hs dI) fun b o b1 b2 e => hs b o b2 e
  | cons kv todo ih =>
    intro i acc h tk u hit hl hp hd hz hR
    refine codeAny_builtin entry_upd_loop ?_
    rw [Around.under_plainId plain_upd_loop _]
    show wpAny _ A.in1 (pyNext (.ref I) >>= _) _ _ _
    cases e : items.drop i with
    | nil => rw [e] at hp; cases hp
    | cons x r =>
      rw [e] at hp
      cases hp with
      | cons hx ht =>
        obtain ⟨⟨a, t, n, rfl, ha⟩, hoff⟩ := hx
        obtain ⟨ad, aI⟩ := hoff a rfl
        have hxi : items.toArray[i]? = some (.ref a) := by
          have : (items.drop i)[0]? = some (.ref a) := by rw [e]; rfl
          simpa using this
        refine wpAny_bind (wpAny_pyNext_list_item hit hl hxi fun h1 hit1 hs1 => ?_)
        have k1 : ∀ b o, b ≠ I → h.get? b = some o → h1.get? b = some o := fun b o q e => (hs1.2 b q).trans e
        have ha1 := k1 a _ aI ha
        show wpAny _ A.in1 (holding [.ref a] _ >>= _) _ _ _
        refine wpAny_bind (wpAny_holding ?_)
        refine wpAny_bind (wpAny_tryCatch ?_)
        unfold Builtin.Dict.pairItems
        refine wpAny_bind (wpAny_typeOf (T := "list") ⟨_, ha1, rfl⟩ ?_)
        rw [if_pos (by decide)]
        refine wpAny_bind (wpAny_seqItems ha1 rfl (wpAny_pure ?_))
        show wpAny _ A.in1 (holding [.str kv.1 t, kv.2] (dictSet d (.str kv.1 t) kv.2)) _ _ _
        refine wpAny_holding (wpAny_dictSet_pairs (k := kv.1) (strKind_is _ _ _ _) (hd.sameBut hs1 dI) (fun h2 hd2 hs2 => ?_) (by simp only [List.length_cons] at hz; lia))
        have k2 : ∀ b o, b ≠ d → b ≠ I → h.get? b = some o → h2.get? b = some o := fun b o q1 q2 e => (hs2.2 b q1).trans (k1 b o q2 e)
        refine wpAny_pure ⟨plainId_quiet plain_upd_loop _, ?_⟩
        have e2 : items.drop (i + 1) = r := by
          rw [← List.drop_drop, e]; rfl
        have := ih (i + 1) (stored acc kv.1 kv.2) h2 (tk + 1) 0 ?_ ?_ ?_ hd2 ?_ ?_
        · exact this
        · obtain ⟨o, ho, hc⟩ := hit1
          exact ⟨o, (hs2.2 I dI.symm).trans ho, hc⟩
        · obtain ⟨o, ho, hc⟩ := hl
          exact ⟨o, k2 l o dl.symm Il.symm ho, hc⟩
        · rw [e2]
          exact ht.mono fun y kv' z => by
            obtain ⟨⟨a', t', n', rfl, ha'⟩, hoff'⟩ := z
            obtain ⟨q1, q2⟩ := hoff' a' rfl
            exact ⟨⟨a', t', n', rfl, k2 a' _ q1 q2 ha'⟩, hoff'⟩
        · have := stored_length_le acc kv.1 kv.2
          simp only [List.length_cons] at hz
          lia
        · intro h' tk' hd' hk'
          exact hR h' tk' hd' fun b o q1 q2 e => hk' b o q1 q2 (k2 b o q1 q2 e)
end PL
end
section
namespace PL
open Sem (wp)
theorem upd_from {prog : Program} {w : World} {A : Around} {R : Result → Shared → Prop} {h : Heap} {g : Array GenState} {dr : Drawn} {os : OsState} {tk n : Nat} {d l : Addr} {id : String} (hh : A.handled = none) (items : List Value) (todo acc : List (Str × Value))
    (hl : h.get? l = some (listOf items.toArray n)) (hp : All2 (PairAt h) items todo) (hd : h.DictOf (PySem.strKind prog w) d acc) (hz : acc.length + todo.length ≤ sizeLine) (hld : d ≠ l) (hoff : ∀ x ∈ items, x ≠ .ref d)
    (hR : ∀ h' tk', h'.DictOf (PySem.strKind prog w) d (merged acc todo) → (∀ b o, b ≠ d → h.get? b = some o → h'.get? b = some o) → R (.ok (.ret .none)) ⟨h', g, dr, tk', os⟩) :
    wpAny (model prog w) A.in1 (Builtin.Dict.updateFrom id d (.ref l) [] .none)
      (fun fin s' => match fin with | .done f => R (.ok f) s' | .again c' => c'.quiet = true ∧ codeAny (model prog w) A c' R s') (fun e s' => R (.error e) s') ⟨h, g, dr, tk, os⟩ := by
  unfold Builtin.Dict.updateFrom
  refine wpAny_bind (wpAny_typeOf (T := "list") ⟨_, hl, rfl⟩ ?_)
  rw [if_pos (by decide)]
  refine wpAny_bind (getAttrQ_list hl hh fun h1 tk1 k1 => ?_)
  simp only [Option.isNone_none, if_true]
  refine wpAny_bind (wpAny_rule ?_)
  have hl1 := k1 _ _ hl
  refine wpAny_bind (wpAny_pyIter_list (items := items.toArray) ⟨_, hl1, rfl, _, rfl⟩ ?_)
  have hd1 : h1.DictOf (PySem.strKind prog w) d acc := by
    obtain ⟨o, ho, q⟩ := Heap.dictOf_iff.mp hd
    exact Heap.dictOf_iff.mpr ⟨o, k1 _ _ ho, q⟩
  have dlt : d < h1.objs.size := by
    obtain ⟨o, ho, _⟩ := Heap.dictOf_iff.mp hd1
    exact Heap.lt_size ho
  refine wpAny_pure ⟨plainId_quiet plain_upd_loop _, ?_⟩
  refine upd_loop hh (Nat.ne_of_lt dlt) hld (Nat.ne_of_gt (Heap.lt_size hl1)) items todo 0 acc _ _ _ ⟨_, Heap.get?_push_size _ rfl, rfl, rfl⟩ ⟨_, Heap.get?_push_of_some _ hl1, rfl, _, rfl⟩ ?_ (hd1.push _) hz fun h' tk' hd' hk => ?_
  · rw [List.drop_zero]
    have key : ∀ {its : List Value} {td : List (Str × Value)}, All2 (PairAt h) its td → (∀ x ∈ its, x ≠ .ref d) → All2 (PairOff d h1.objs.size (h1.push { cls := .type "list_iterator", data := .fields #[.ref l, .int 0 0] })) its td := by
      intro its td q
      induction q with
      | nil => intro _; exact .nil
      | @cons x kv _ _ h0 _ ih =>
        intro ho
        refine .cons ?_ (ih fun x hx => ho x (.tail _ hx))
        obtain ⟨a, t, m, rfl, ha⟩ := h0
        have ha1 := k1 _ _ ha
        refine ⟨⟨a, t, m, rfl, Heap.get?_push_of_some _ ha1⟩, fun a' e => ?_⟩
        cases e
        exact ⟨fun q => ho (.ref a) (.head _) (by rw [q]), Nat.ne_of_lt (Heap.lt_size ha1)⟩
    exact key hp hoff
  · exact hR h' tk' hd' fun b o b1 e => hk b o b1 (Nat.ne_of_lt (Heap.lt_size (k1 _ _ e))) (Heap.get?_push_of_some _ (k1 _ _ e))
theorem call_update {prog : Program} {w : World} {A : Around} {Q E : Value → Shared → Prop} {h : Heap} {g : Array GenState} {dr : Drawn} {os : OsState} {tk n : Nat} {d l : Addr} (hh : A.handled = none) (items : List Value) (todo acc : List (Str × Value))
    (hl : h.get? l = some (listOf items.toArray n)) (hp : All2 (PairAt h) items todo) (hd : h.DictOf (PySem.strKind prog w) d acc) (hz : acc.length + todo.length ≤ sizeLine) (hld : d ≠ l) (hoff : ∀ x ∈ items, x ≠ .ref d)
    (hR : ∀ h' tk', h'.DictOf (PySem.strKind prog w) d (merged acc todo) → (∀ b o, b ≠ d → h.get? b = some o → h'.get? b = some o) → Q .none ⟨h', g, dr, tk', os⟩) :
    wpAny (model prog w) A (call (.builtin "dict.update") [.ref d, .ref l]) Q E ⟨h, g, dr, tk, os⟩ := by
  have hT : (⟨h, g, dr, tk, os⟩ : Shared).TypeIs (.ref d) "dict" := hd.mapOf.typeIs
  refine wpAny_call (codeAny_call_builtin PySem.F.slot_dict_update.plain PySem.F.entry_dict_update (PySem.F.slot_dict_update.check _ _ _ _ _ _ _ _ hT (PySem.F.args_dict_update_2 _ _) ?_))
  unfold Builtin.«dict.update»
  refine wpAny_bind ?_
  unfold Builtin.Dict.selfAndRest
  refine wpAny_bind (wpAny_notOrdered_dict hT ?_)
  show wpAny _ _ (pure (d, [Value.ref l])) _ _ _
  refine wpAny_pure ?_
  show wpAny _ _ (Builtin.Dict.updateFrom "dict.update" d (.ref l) [] .none) _ _ _
  exact upd_from (R := fun r s' => match r with | .ok (.ret v) => Q v s' | .ok _ => False | .error e => E e s') hh items todo acc hl hp hd hz hld hoff hR
theorem call_dictOf {prog : Program} {w : World} {A : Around} {Q E : Value → Shared → Prop} {h : Heap} {g : Array GenState} {dr : Drawn} {os : OsState} {tk n : Nat} {l : Addr} (hh : A.handled = none) (items : List Value) (todo : List (Str × Value))
    (hl : h.get? l = some (listOf items.toArray n)) (hp : All2 (PairAt h) items todo) (hz : todo.length ≤ sizeLine)
    (hR : ∀ h' tk', h'.DictOf (PySem.strKind prog w) h.objs.size (merged [] todo) → (∀ b o, h.get? b = some o → h'.get? b = some o) → Q (.ref h.objs.size) ⟨h', g, dr, tk', os⟩) :
    wpAny (model prog w) A (call (.type "dict") [.ref l]) Q E ⟨h, g, dr, tk, os⟩ := by
  refine callType_codes (Q₁ := fun obj s₁ => obj = .ref h.objs.size ∧ s₁ = ⟨h.push { cls := .type "dict", data := .dict #[] }, g, dr, tk, os⟩) PySem.F.kt_called_dict (PySem.F.kt_typeCall_dict_1 _) PySem.F.entry_dict_init (kt_code_dict_new _ ⟨rfl, rfl⟩) ?_
  rintro obj s₁ ⟨rfl, rfl⟩
  have hnew : (h.push { cls := .type "dict", data := .dict #[] }).DictOf (PySem.strKind prog w) h.objs.size [] := Heap.DictOf.new h
  have hT : (⟨h.push { cls := .type "dict", data := .dict #[] }, g, dr, tk, os⟩ : Shared).TypeIs (.ref h.objs.size) "dict" := hnew.mapOf.typeIs
  refine ⟨hT, PySem.F.args_dict_init_2 _ _, ?_⟩
  unfold Builtin.«dict.__init__»
  refine wpAny_bind ?_
  unfold Builtin.Dict.selfAndRest
  refine wpAny_bind (wpAny_notOrdered_dict hT ?_)
  show wpAny _ _ (pure (h.objs.size, [Value.ref l])) _ _ _
  refine wpAny_pure ?_
  show wpAny _ _ (Builtin.Dict.updateFrom "dict.__init__" h.objs.size (.ref l) [] .none) _ _ _
  refine upd_from hh items todo [] (Heap.get?_push_of_some _ hl) (hp.mono fun x kv z => ?_) hnew (by simpa using hz) (Nat.ne_of_gt (Heap.lt_size hl)) (fun x hx q => ?_) fun h' tk' hd' hk => ?_
  · obtain ⟨a, t, m, rfl, ha⟩ := z
    exact ⟨a, t, m, rfl, Heap.get?_push_of_some _ ha⟩
  · subst q
    have key : ∀ {its : List Value} {td : List (Str × Value)}, All2 (PairAt h) its td → .ref h.objs.size ∈ its → False := by
      intro its td q
      induction q with
      | nil => intro q; cases q
      | cons h0 _ ih =>
        intro q
        obtain ⟨a, t, m, rfl, ha⟩ := h0
        cases q with
        | head => exact Nat.lt_irrefl _ (Heap.lt_size ha)
        | tail _ q => exact ih q
    exact key hp hx
  · exact ⟨rfl, hR h' tk' hd' fun b o e => hk b o (Nat.ne_of_lt (Heap.lt_size e)) (Heap.get?_push_of_some _ e)⟩
end PL
end
section
namespace PL
section
variable {W : Wd} {cx : Cx} {cs : Scope} {cp : Option Cp} {d : Nat}
theorem pair_at {c : Fc} {m : Str → Option Value} {X : List (Addr × Obj)} {σ : St} {ps : PZ} {h : Heap} (S : SR W c m X σ ps h) {v : V} {x : Value} (r : VR (hds ps) v x) {p : List Nat × V} (e : (obF σ v).bind pairO = some p) : ∃ kv, KV (hds ps) p kv ∧ PairAt h x kv := by
  refine obfLE (f := fun vs => _) S r e fun A its n vs hA i1 e => ?_
  cases i1 with
  | nil => exact noE e
  | cons j1 j2 =>
    revert hA
    refine strE j1 e fun k t qq1 e hA => ?_
    cases j2 with
    | nil => exact noE e
    | cons j2 j3 =>
      cases j3 with
      | nil =>
        obtain rfl := Option.some.inj e
        exact ⟨(toS k, _), ⟨rfl, j2⟩, ⟨_, t, n, rfl, hA⟩⟩
      | cons _ _ => exact noE e
theorem pairs_spec {c : Fc} {m : Str → Option Value} {X : List (Addr × Obj)} {σ : St} {ps : PZ} {h : Heap} (S : SR W c m X σ ps h) : ∀ {vs : List V} {its : List Value} {kvs : List (List Nat × V)}, All2 (VR (hds ps)) vs its → pairsV σ vs = some kvs →
    ∃ todo, All2 (KV (hds ps)) kvs todo ∧ All2 (PairAt h) its todo
  | [], _, kvs, i, e => by cases i; obtain rfl := Option.some.inj e; exact ⟨[], .nil, .nil⟩
  | v :: vs, _, kvs, i, e => by
    cases i with
    | cons h0 t =>
      refine bdE e fun p e1 e => mp0 e fun kvs' e2 e => ?_
      obtain rfl := Option.some.inj e
      obtain ⟨kv, k1, k2⟩ := pair_at S h0 e1
      obtain ⟨todo, t1, t2⟩ := pairs_spec S t e2
      exact ⟨kv :: todo, .cons k1 t1, .cons k2 t2⟩
theorem pairsOf_spec {c : Fc} {m : Str → Option Value} {X : List (Addr × Obj)} {σ : St} {ps : PZ} {h : Heap} (S : SR W c m X σ ps h) {v : V} {x : Value} (ra : VR (hds ps) v x) {kvs : List (List Nat × V)} (e : pairsOfV σ v = some kvs) :
    ∃ l its n todo, x = .ref l ∧ h.get? l = some (listOf (List.toArray its) n) ∧ All2 (KV (hds ps)) kvs todo ∧ All2 (PairAt h) its todo := by
  refine obfLE S ra e fun A its n vs hA i1 e => ?_
  obtain ⟨todo, t1, t2⟩ := pairs_spec S i1 e
  exact ⟨A, its, n, todo, rfl, hA, t1, t2⟩
theorem limD {n : Nat} (h : n ≤ LIMD) : n ≤ sizeLine ∧ n ≤ LIM := ⟨lim_line (Nat.le_trans h (by decide)), Nat.le_trans h (by decide)⟩
theorem dictOf_ok : Val1 W cx d (.type "dict") dictOfV := by
  intro c ok m X σ ps h tk v r σ' y Q E g dr os S ra ht e H
  refine bdE e fun kvs e1 e2 => gdE e2 fun hb e2 => ?_
  obtain ⟨l, its, n, todo, rfl, hl, t1, t2⟩ := pairsOf_spec S ra e1
  refine wpAny_with_toks (Nat.le_refl _) (call_dictOf ok.hh its todo hl t2 (t1.len ▸ (limD hb).1) fun h' tk' hd hk hkk => ?_)
  obtain ⟨o', ho', hd'⟩ := Heap.dictOf_iff.mp hd
  obtain ⟨m1, m2, m3⟩ := merged_put t1 (All2.nil (R := KV (hds ps))) .nil
  have S' := S.grow1 (o := .dict (putAll kvs [])) hk ho' (.dict hd' (m1.mono fun qq1 qq2 z => ⟨z.1, z.2.mono .add⟩) (Nat.le_trans m3 (by rw [List.length_nil, Nat.zero_add]; exact (limD hb).2)) (not_modules ok S))
  refine (H.eq e2) _ _ _ _ pre_snoc S' ?_ (Nat.le_trans ht hkk)
  rw [hds_snoc]
  exact VR.last (hds_len.trans S.len.symm)
theorem noPairI {h : Heap} {A1 : Addr} (noSeq : ∀ (b : Addr) (its : Array Value) (n : Nat), h.get? b = some (listOf its n) → b ≠ A1) {its : List Value} {td : List (Str × Value)} (q : All2 (PairAt h) its td) : .ref A1 ∈ its → False := by
  induction q with
  | nil => intro q; cases q
  | cons h0 _ ih =>
    intro q
    obtain ⟨a', t, m', rfl, ha⟩ := h0
    cases q with
    | head => exact noSeq _ _ _ ha rfl
    | tail _ q => exact ih q
theorem update_ok : ValM W cx d "dict.update" (fun o vs σ => vcons vs fun v r => vnil r (updateV o v σ)) := by
  intro c ok m X σ ps h tk o r vs σ' x ys Q E g dr os S ra rs ht e H
  refine vconsE rs e fun v0 y0 qq1 qq2 rv rs e => vnilE rs e fun e => bdE e fun kvs e1 e2 => cellDE S ra e2 fun a A1 ob1 ks dk qq1 qq2 hp g1 d1 i1 b1 y1 e => gdE e fun hb e => ?_
  obtain ⟨l, its, n, todo, rfl, hl, t1, t2⟩ := pairsOf_spec S rv e1
  have D : h.DictOf (PySem.strKind W.prog W.w) A1 ks := Heap.dictOf_iff.mpr ⟨_, g1, d1⟩
  obtain ⟨es, ep, ex, hdat, _, _, hnd⟩ := id d1
  have noSeq : ∀ (b : Addr) (its : Array Value) (n : Nat), h.get? b = some (listOf its n) → b ≠ A1 := fun b its n hb q => by
    have := congrArg Obj.data (Option.some.inj ((q ▸ hb).symm.trans g1))
    rw [hdat] at this; cases this
  refine wpAny_with_toks (Nat.le_refl _) (call_update ok.hh its todo ks hl t2 D (by rw [← t1.len, ← i1.len]; exact (limD hb).1) (noSeq _ _ _ hl).symm (fun x hx q => noPairI noSeq t2 (q ▸ hx)) fun h' tk' hd hk hkk => ?_)
  obtain ⟨o', ho', hd'⟩ := Heap.dictOf_iff.mp hd
  obtain ⟨m1, m2, m3⟩ := merged_put t1 i1 hnd
  obtain ⟨S', he⟩ := S.put2 (pre := []) (post := []) (ob := .dict (putAll kvs dk)) hp hk ho' (.dict hd' m1 (Nat.le_trans m3 (limD hb).2) y1)
  exact (H.eq e) _ _ _ _ (by rw [he]; exact .rfl) S' .none (Nat.le_trans ht hkk)
theorem get_dict {id : String} {nm : Str} (slot : Slot "dict" nm id) (ty : typeOf (.builtin id) = pure (.type "method_descriptor")) : GetM W id nm (fun o σ => isDictV σ o = true) := by
  intro c m X σ ps h tk o x pl A Q E g dr os S ra hP hq
  obtain ⟨a, vs, rfl, ho⟩ := isDict_of hP
  obtain ⟨part, hp, rfl, hr⟩ := S.own ra ho
  cases hr with
  | @dict _ ks A1 ob1 d1 i1 b1 y1 =>
    have g1 := S.at hp (.head _)
    have D : h.DictOf (PySem.strKind W.prog W.w) A1 ks := Heap.dictOf_iff.mpr ⟨_, g1, d1⟩
    exact getMethod_builtin (s := ⟨h, g, dr, tk, os⟩) D.mapOf.typeIs PySem.F.plainAttrs_dict slot ty (D.mapOf.noDict) hq
end
end PL
end
section
namespace PL
noncomputable def strItTy (o : Obj) : Prop := o.cls = .type "str_ascii_iterator" ∨ o.cls = .type "str_iterator"
inductive ItOb (W : Wd) (cx : Cx) (σ : St) (v : V) (x : Value) (i : Nat) (ob : Obj) : Prop
  | str {s : List Nat} {t : Tok} : v = .str s → x = .str (toS s) t → strItTy ob → ob.data = .fields #[.str (toS s) t, .int i 0] → ItOb W cx σ v x i ob
  | list {vs : List V} {l : Addr} : objOf cx σ v = some (.list vs) → x = .ref l → ob.cls = .type "list_iterator" → ob.data = .fields #[.ref l, .int i 0] → ItOb W cx σ v x i ob
  | tuple {vs : List V} {l : Addr} : objOf cx σ v = some (.tuple vs) → x = .ref l → ob.cls = .type "tuple_iterator" → ob.data = .fields #[.ref l, .int i 0] → ItOb W cx σ v x i ob
  | rng {a b s : Int} : objOf cx σ v = some (.rng a b s) → ob = { cls := .type "range_iterator", dict := none, data := .fields #[rawInt (a + s * i), rawInt ((rngN a b s : Int) - i), rawInt s], slots := #[] } → ItOb W cx σ v x i ob
theorem ItOb.still {W : Wd} {cx : Cx} {σ σ' : St} {v : V} {x : Value} {i : Nat} {ob : Obj} (h : ItOb W cx σ v x i ob) (e : stillV cx σ σ' v = true) : ItOb W cx σ' v x i ob := by
  have e := still_iff.mp e
  cases h with
  | str h1 h2 h3 h4 => exact .str h1 h2 h3 h4
  | list h1 h2 h3 h4 => exact .list (e.trans h1) h2 h3 h4
  | tuple h1 h2 h3 h4 => exact .tuple (e.trans h1) h2 h3 h4
  | rng h1 h2 => exact .rng (e.trans h1) h2
theorem still_sym {cx : Cx} {σ σ' : St} {v : V} (e : stillV cx σ σ' v = true) : stillV cx σ' σ v = true := still_iff.mpr (still_iff.mp e).symm
theorem iter_still {cx : Cx} {σ σ' : St} {v : V} (e : stillV cx σ σ' v = true) : iterV cx σ' v = iterV cx σ v := by
  have e := still_iff.mp e
  cases v with
  | ref a => exact congrArg (·.bind iterO) e
  | sref a => exact congrArg (·.bind iterO) e
  | frz a => exact congrArg (·.bind iterO) e
  | _ => rfl
theorem iter_obj {cx : Cx} {σ : St} {v : V} {o : O} (e : objOf cx σ v = some o) : iterV cx σ v = iterO o := by
  cases v with
  | ref a => exact congrArg (·.bind iterO) e
  | sref a => exact congrArg (·.bind iterO) e
  | frz a => exact congrArg (·.bind iterO) e
  | _ => exact noE e
section
variable {W : Wd} {cx : Cx} {cs : Scope} {cp : Option Cp} {d : Nat} {c : Fc} {m : Str → Option Value} {X P Y : List (Addr × Obj)} {σ : St} {ps : PZ} {h h' : Heap} {g : Array GenState} {dr : Drawn} {tk : Nat} {os : OsState} {A : Around} {E : Value → Shared → Prop}
theorem SR.offX {I : Addr} {ob : Obj} (S : SR W c m (P ++ (I, ob) :: Y) σ ps h) : ∀ p ∈ ps.flatten ++ (P ++ Y), p.1 ≠ I := by
  intro p hp q
  have nd := S.nd
  have e : ((ps.flatten ++ (P ++ (I, ob) :: Y)).map (·.1)).Perm (I :: (ps.flatten ++ (P ++ Y)).map (·.1)) := by
    simp only [List.map_append, List.map_cons]
    rw [← List.append_assoc, ← List.append_assoc]
    exact List.perm_middle
  rw [e.nodup_iff] at nd
  exact (List.nodup_cons.mp nd).1 (q ▸ List.mem_map_of_mem (f := (·.1)) hp)
theorem SR.frX {I : Addr} {ob : Obj} (S : SR W c m (P ++ (I, ob) :: Y) σ ps h) (hk : ∀ b x, b ≠ I → h.get? b = some x → h'.get? b = some x) : FrU c h' m := by
  have D0 := S.N (I, ob) (by simp)
  exact S.F.off hk D0.2.1 D0.2.2
theorem SR.dropX {I : Addr} {ob : Obj} (S : SR W c m (P ++ (I, ob) :: Y) σ ps h) (hk : ∀ b x, b ≠ I → h.get? b = some x → h'.get? b = some x) : SR W c m (P ++ Y) σ ps h' := by
  have off := S.offX
  refine ⟨S.frX hk, fun p hp => ?_, ?_, S.rel, S.fz⟩
  · have z := S.N p (by simp only [List.mem_append, List.mem_cons] at hp ⊢; rcases hp with q | q | q; exact .inl q; exact .inr (.inl q); exact .inr (.inr (.inr q)))
    exact ⟨hk _ _ (off p hp) z.1, z.2⟩
  · have nd := S.nd
    refine List.Nodup.sublist ?_ nd
    apply List.Sublist.map
    exact List.Sublist.append_left (List.Sublist.append_left (List.sublist_cons_self _ _) _) _
theorem SR.putX {I : Addr} {ob ob' : Obj} (S : SR W c m (P ++ (I, ob) :: Y) σ ps h) (hk : ∀ b x, b ≠ I → h.get? b = some x → h'.get? b = some x) (ho : h'.get? I = some ob') : SR W c m (P ++ (I, ob') :: Y) σ ps h' := by
  have off := S.offX
  have D0 := S.N (I, ob) (by simp)
  refine ⟨S.frX hk, fun p hp => ?_, ?_, S.rel, S.fz⟩
  · by_cases q : p = (I, ob')
    · subst q; exact ⟨ho, D0.2⟩
    · have hp' : p ∈ ps.flatten ++ (P ++ Y) := by
        simp only [List.mem_append, List.mem_cons] at hp ⊢
        rcases hp with h1 | h1 | h1 | h1
        · exact .inl h1
        · exact .inr (.inl h1)
        · exact absurd h1 q
        · exact .inr (.inr h1)
      have z := S.N p (by simp only [List.mem_append, List.mem_cons] at hp' ⊢; rcases hp' with q | q | q; exact .inl q; exact .inr (.inl q); exact .inr (.inr (.inr q)))
      exact ⟨hk _ _ (off p hp') z.1, z.2⟩
  · have nd := S.nd
    simpa using nd
theorem rng_size {a b : Int} : Builtin.Range.rangeSize a b 1 = (rngN a b 1 : Int) := by
  unfold Builtin.Range.rangeSize rngN
  simp only [show (1 : Int) > 0 by decide, if_true, Int.ediv_one]; split <;> lia
theorem rng_small {a b : Int} (h1 : -((100000 : Nat) : Int) ≤ a ∧ a ≤ ((100000 : Nat) : Int)) (h2 : -((100000 : Nat) : Int) ≤ b ∧ b ≤ ((100000 : Nat) : Int)) : Builtin.Range.small a b 1 = true := by
  unfold Builtin.Range.small Builtin.Range.rangeFitsLong
  rw [rng_size]
  unfold rngN
  simp <;> lia
theorem it_new (G : GOk W cx d) (ok : FOk W c d) (S : SR W c m X σ ps h) {v : V} {x : Value} {xs : List V} {Q : Value → Shared → Prop} (ra : VR (hds ps) v x) (e : iterV cx σ v = some xs)
    (k : ∀ I ob h', ItOb W cx σ v x 0 ob → SR W c m ((I, ob) :: X) σ ps h' → Q (.ref I) ⟨h', g, dr, tk, os⟩) : wpAny (model W.prog W.w) A (pyIter x) Q E ⟨h, g, dr, tk, os⟩ := by
  have ra' := ra
  revert ra' k
  refine sobE G.so S (S.K ok) ra e (fun s t hv hl qq1 k ra' => ?_) fun o A' ho ro e k ra' => ?_
  · refine wpAny_pyIter_strU (k _ { cls := .type (strIterType (toS s)), data := .fields #[.str (toS s) t, .int 0 0] } _ (.str hv rfl ?_ rfl) (S.take _ rfl))
    unfold strItTy strIterType
    dsimp only
    split
    · exact .inl rfl
    · exact .inr rfl
  · cases o with
    | list vs =>
      obtain ⟨its, n, hA, _⟩ := ro
      exact wpAny_pyIter_list (items := its.toArray) ⟨_, hA, rfl, _, rfl⟩ (k _ _ _ (.list ho rfl rfl rfl) (S.take _ rfl))
    | tuple vs =>
      obtain ⟨its, n, hA, _⟩ := ro
      exact wpAny_pyIter_tuple (items := its.toArray) ⟨_, hA, rfl, _, rfl⟩ (k _ _ _ (.tuple ho rfl rfl rfl) (S.take _ rfl))
    | rng a b s' =>
      obtain ⟨t, u, w', hA⟩ := ro
      refine gdE e fun hb qq1 => ?_
      obtain ⟨hb1, hb2, rfl⟩ := hb
      refine wpAny_pyIter_range (a := a) (b := b) (c := 1) hA (rng_small hb1 hb2) ?_
      rw [rng_size]
      exact k _ _ _ (.rng ho (by simp)) (S.take _ rfl)
    | _ => exact noE e
theorem rng_iter {v : V} {a b s : Int} {xs : List V} (h1 : objOf cx σ v = some (.rng a b s)) (e : iterV cx σ v = some xs) : xs = ((List.range (rngN a b s)).map fun k => .int (a + s * Int.ofNat k)) ∧ s = 1 :=
  gdE ((iter_obj h1).symm.trans e) fun hb e => ⟨(Option.some.inj e).symm, hb.2.2⟩
theorem it_list (G : GOk W cx d) (ok : FOk W c d) (S : SR W c m X σ ps h) {v : V} {xs vs : List V} {l : Addr} (ra : VR (hds ps) v (.ref l)) (e : iterV cx σ v = some xs) (h1 : objOf cx σ v = some (.list vs)) : ∃ its n, h.get? l = some (listOf (List.toArray its) n) ∧ All2 (VR (hds ps)) xs its := by
  obtain rfl : vs = xs := Option.some.inj ((iter_obj h1).symm.trans e)
  obtain ⟨A, q, its, n, hA, i1, _⟩ := obj_ro G.so S (S.K ok) ra h1
  obtain rfl := Value.ref.inj q
  exact ⟨its, n, hA, i1⟩
theorem it_tuple (G : GOk W cx d) (ok : FOk W c d) (S : SR W c m X σ ps h) {v : V} {xs vs : List V} {l : Addr} (ra : VR (hds ps) v (.ref l)) (e : iterV cx σ v = some xs) (h1 : objOf cx σ v = some (.tuple vs)) : ∃ its n, h.get? l = some { cls := .type "tuple", data := .seq (List.toArray its) n } ∧ All2 (VR (hds ps)) xs its := by
  obtain rfl : vs = xs := Option.some.inj ((iter_obj h1).symm.trans e)
  obtain ⟨A, q, its, n, hA, i1, _⟩ := obj_ro G.so S (S.K ok) ra h1
  obtain rfl := Value.ref.inj q
  exact ⟨its, n, hA, i1⟩
theorem same_keep {I : Addr} (hs : Heap.SameBut I h h') : ∀ b x, b ≠ I → h.get? b = some x → h'.get? b = some x := fun b x q e => (hs.2 b q).trans e
theorem it_next (G : GOk W cx d) (ok : FOk W c d) {I : Addr} {ob : Obj} (S : SR W c m (P ++ (I, ob) :: Y) σ ps h) {v u : V} {x : Value} {i : Nat} {xs : List V} {Q : Option Value → Shared → Prop} (ra : VR (hds ps) v x) (e : iterV cx σ v = some xs) (it : ItOb W cx σ v x i ob) (hu : xs[i]? = some u) (ht : 1 ≤ tk)
    (k : ∀ ob' h' y tk', ItOb W cx σ v x (i + 1) ob' → SR W c m (P ++ (I, ob') :: Y) σ ps h' → VR (hds ps) u y → 1 ≤ tk' → Q (some y) ⟨h', g, dr, tk', os⟩) : wpAny (model W.prog W.w) A (pyNext (.ref I)) Q E ⟨h, g, dr, tk, os⟩ := by
  have gI := (S.N (I, ob) (by simp)).1
  cases it with
  | @str s t h1 h2 h3 h4 =>
    subst h1 h2
    obtain rfl := Option.some.inj e
    rw [List.getElem?_map, Option.map_eq_some_iff] at hu
    obtain ⟨ch, hc, rfl⟩ := hu
    have hx : (toS s).cps[i]? = some ch := by simpa [toS] using hc
    have vr : ∀ t', VR (hds ps) (.str [ch]) (.str ⟨#[ch]⟩ t') := fun t' => .str [ch] t' (by unfold LIM; simp)
    rcases h3 with h3 | h3
    · refine wpAny_pyNext_ascii_item (t := t) (i := i) ⟨ob, gI, h3, h4⟩ hx fun h' hit hs => ?_
      obtain ⟨ob', go, gc, gd⟩ := hit
      exact k ob' h' _ _ (.str rfl rfl (.inl gc) gd) (S.putX (same_keep hs) go) (vr _) (by show 1 ≤ tk + 1; lia)
    · refine wpAny_pyNext_wide_item (t := t) (i := i) ⟨ob, gI, h3, h4⟩ hx fun h' hit hs => ?_
      obtain ⟨ob', go, gc, gd⟩ := hit
      exact k ob' h' _ _ (.str rfl rfl (.inr gc) gd) (S.putX (same_keep hs) go) (vr _) (by show 1 ≤ tk + 1; lia)
  | @list vs l h1 h2 h3 h4 =>
    subst h2
    obtain ⟨its, n, hA, i1⟩ := it_list G ok S ra e h1
    obtain ⟨y, hy, ry⟩ := i1.get hu
    refine wpAny_pyNext_list_item (items := its.toArray) ⟨ob, gI, h3, h4⟩ ⟨_, hA, rfl, _, rfl⟩ (by simpa using hy) fun h' hit hs => ?_
    obtain ⟨ob', go, gc, gd⟩ := hit
    exact k ob' h' _ _ (.list h1 rfl gc gd) (S.putX (same_keep hs) go) ry ht
  | @tuple vs l h1 h2 h3 h4 =>
    subst h2
    obtain ⟨its, n, hA, i1⟩ := it_tuple G ok S ra e h1
    obtain ⟨y, hy, ry⟩ := i1.get hu
    refine wpAny_pyNext_tuple_item (items := its.toArray) ⟨ob, gI, h3, h4⟩ ⟨_, hA, rfl, _, rfl⟩ (by simpa using hy) fun h' hit hs => ?_
    obtain ⟨ob', go, gc, gd⟩ := hit
    exact k ob' h' _ _ (.tuple h1 rfl gc gd) (S.putX (same_keep hs) go) ry ht
  | @rng a b s' h1 h2 =>
    obtain ⟨rfl, hs⟩ := rng_iter h1 e
    rw [List.getElem?_map, Option.map_eq_some_iff] at hu
    obtain ⟨j, hj, rfl⟩ := hu
    obtain ⟨hlt, hj2⟩ := List.getElem?_eq_some_iff.mp hj
    simp only [List.getElem_range] at hj2
    subst hj2
    simp only [List.length_range] at hlt
    subst h2
    refine wpAny_pyNext_range_item (x := a + s' * (i : Int)) (left := (rngN a b s' : Int) - i) (step := s') gI (by lia) fun h' hit hs => ?_
    refine k _ h' _ _ (.rng h1 ?_) (S.putX (same_keep hs) hit) (.int _ _) (by show 1 ≤ tk + 1; lia)
    have e1 : a + s' * (i : Int) + s' = a + s' * ((i + 1 : Nat) : Int) := by rw [Int.natCast_add, Int.mul_add, Int.add_assoc]; simp
    have e2 : (rngN a b s' : Int) - (i : Int) - 1 = (rngN a b s' : Int) - ((i + 1 : Nat) : Int) := by lia
    rw [e1, e2]
theorem it_end (G : GOk W cx d) (ok : FOk W c d) {I : Addr} {ob : Obj} (S : SR W c m (P ++ (I, ob) :: Y) σ ps h) {v : V} {x : Value} {i : Nat} {xs : List V} {Q : Option Value → Shared → Prop} (ra : VR (hds ps) v x) (e : iterV cx σ v = some xs) (it : ItOb W cx σ v x i ob) (hu : xs[i]? = none) (hil : i ≤ xs.length) (hA : A.handled = none)
    (k : ∀ h', SR W c m (P ++ Y) σ ps h' → Q none ⟨h', g, dr, tk, os⟩) : wpAny (model W.prog W.w) A (pyNext (.ref I)) Q E ⟨h, g, dr, tk, os⟩ := by
  have gI := (S.N (I, ob) (by simp)).1
  have fin : ∀ h', Heap.ExtBut I h h' → Q none ⟨h', g, dr, tk, os⟩ := fun h' hs => k h' (S.dropX fun b x q e => hs b x q e)
  cases it with
  | @str s t h1 h2 h3 h4 =>
    subst h1 h2
    obtain rfl := Option.some.inj e
    have hx : (toS s).cps[i]? = none := by
      rw [List.getElem?_map, Option.map_eq_none_iff] at hu
      simpa [toS] using hu
    rcases h3 with h3 | h3
    · exact wpAny_pyNext_ascii_end (t := t) (i := i) hA ⟨ob, gI, h3, h4⟩ hx fin
    · exact wpAny_pyNext_wide_end (t := t) (i := i) hA ⟨ob, gI, h3, h4⟩ hx fin
  | @list vs l h1 h2 h3 h4 =>
    subst h2
    obtain ⟨its, n, hA', i1⟩ := it_list G ok S ra e h1
    exact wpAny_pyNext_list_end (items := its.toArray) hA ⟨ob, gI, h3, h4⟩ ⟨_, hA', rfl, _, rfl⟩ (by rw [List.getElem?_toArray]; exact List.getElem?_eq_none (i1.len ▸ List.getElem?_eq_none_iff.mp hu)) fin
  | @tuple vs l h1 h2 h3 h4 =>
    subst h2
    obtain ⟨its, n, hA', i1⟩ := it_tuple G ok S ra e h1
    exact wpAny_pyNext_tuple_end (items := its.toArray) hA ⟨ob, gI, h3, h4⟩ ⟨_, hA', rfl, _, rfl⟩ (by rw [List.getElem?_toArray]; exact List.getElem?_eq_none (i1.len ▸ List.getElem?_eq_none_iff.mp hu)) fin
  | @rng a b s' h1 h2 =>
    obtain ⟨rfl, hs⟩ := rng_iter h1 e
    simp at hu hil
    subst h2
    exact wpAny_pyNext_range_end (x := a + s' * (i : Int)) (left := (rngN a b s' : Int) - i) (step := s') hA gI (by lia) fin
end
end PL
end
section
namespace PL
section
variable {W : Wd} {cx : Cx} {cs : Scope} {cp : Option Cp} {d : Nat} {c : Fc} {m : Str → Option Value} {X P Y : List (Addr × Obj)} {σ : St} {ps : PZ} {h h' : Heap} {g : Array GenState} {dr : Drawn} {tk : Nat} {os : OsState} {A : Around}
theorem draw_ok (G : GOk W cx d) (ok : FOk W c d) {I : Addr} {v : V} {x : Value} {vs : List V} (ra : VR (hds ps) v x) (e : iterV cx σ v = some vs) : ∀ (n i : Nat) (ob : Obj) (h : Heap) (tk : Nat) (Q : List Value → Shared → Prop) (E : Value → Shared → Prop),
    SR W c m (P ++ (I, ob) :: Y) σ ps h → ItOb W cx σ v x i ob → i + n = vs.length → 1 ≤ tk →
    (∀ ob' h' tk' ys, SR W c m (P ++ (I, ob') :: Y) σ ps h' → ItOb W cx σ v x vs.length ob' → All2 (VR (hds ps)) (vs.drop i) ys → 1 ≤ tk' → Q ys ⟨h', g, dr, tk', os⟩) →
    wpAny (model W.prog W.w) A (draw (.ref I) n) Q E ⟨h, g, dr, tk, os⟩
  | 0, i, ob, h, tk, Q, E, S, it, hn, ht, k => by
    show wpAny _ _ (pure []) Q E _
    have hi : i = vs.length := by lia
    subst hi
    exact wpAny_pure (k ob h tk [] S it (by rw [List.drop_length]; exact .nil) ht)
  | n + 1, i, ob, h, tk, Q, E, S, it, hn, ht, k => by
    have hlt : i < vs.length := by lia
    show wpAny _ _ (pyNext (.ref I) >>= _) Q E _
    refine wpAny_bind (it_next G ok S ra e it (List.getElem?_eq_getElem hlt) ht fun ob1 h1 y tk1 it1 S1 ry ht1 => ?_)
    refine wpAny_bind (wpAny_holding (draw_ok G ok ra e n (i + 1) ob1 h1 tk1 _ _ S1 it1 (by lia) ht1 fun ob2 h2 tk2 ys S2 it2 rys ht2 => wpAny_pure ?_))
    refine k ob2 h2 tk2 (y :: ys) S2 it2 ?_ ht2
    rw [List.drop_eq_getElem_cons hlt]
    exact .cons ry rys
theorem items_iter {v : V} {vs : List V} (e : itemsV cx σ v = some vs) : iterV cx σ v = some vs := by
  refine bdE e fun o ho e => (iter_obj ho).trans ?_
  cases o with
  | list => exact e
  | tuple => exact e
  | _ => exact noE e
theorem items_ty (G : GOk W cx d) (ok : FOk W c d) (S : SR W c m X σ ps h) {v : V} {x : Value} {vs : List V} (ra : VR (hds ps) v x) (e : itemsV cx σ v = some vs) : ∃ T id, Shared.TypeIs ⟨h, g, dr, tk, os⟩ x T ∧ typeLookup (.type T) "__iter__" = pure (some (.builtin id)) := by
  obtain ⟨A1, its, rfl, i1, hn, hg⟩ := items_of G S (S.K ok) ra e
  rcases hg with ⟨n, hg⟩ | ⟨n, hg⟩
  · exact ⟨"list", _, ⟨_, hg, rfl⟩, slot_list_iter.lookup⟩
  · exact ⟨"tuple", _, ⟨_, hg, rfl⟩, PySem.F.slot_tuple_iter.lookup⟩
theorem unpackItems_ok (G : GOk W cx d) (ok : FOk W c d) (S : SR W c m X σ ps h) {v : V} {x : Value} {vs : List V} {Q : List Value → Shared → Prop} {E : Value → Shared → Prop} (ra : VR (hds ps) v x) (e : itemsV cx σ v = some vs) (ht : 1 ≤ tk) (hA : A.handled = none)
    (k : ∀ h' tk' ys, SR W c m X σ ps h' → All2 (VR (hds ps)) vs ys → 1 ≤ tk' → Q ys ⟨h', g, dr, tk', os⟩) : wpAny (model W.prog W.w) A (unpackItems x vs.length none) Q E ⟨h, g, dr, tk, os⟩ := by
  obtain ⟨T, id, hT, hl⟩ := items_ty G ok S ra e (g := g) (dr := dr) (tk := tk) (os := os)
  unfold unpackItems
  refine wpAny_bind ?_
  unfold notIterableAtAll
  refine wpAny_bind (wpAny_specialOf hT hl ?_)
  refine wpAny_pure ?_
  simp only [Bool.false_eq_true, if_false]
  refine wpAny_bind (wpAny_holding (it_new G ok S ra (items_iter e) fun I ob h1 it1 S1 => ?_))
  refine wpAny_bind (wpAny_holding (draw_ok (P := []) G ok ra (items_iter e) vs.length 0 ob h1 tk _ _ S1 it1 (by lia) ht fun ob2 h2 tk2 ys S2 it2 rys ht2 => ?_))
  rw [List.drop_zero] at rys
  rw [if_neg (by rw [← rys.len]; lia)]
  refine wpAny_bind (wpAny_holding (it_end (P := []) G ok S2 ra (items_iter e) it2 (by simp) (Nat.le_refl _) hA fun h3 S3 => ?_))
  simp only [Option.isSome_none, Bool.false_eq_true, if_false]
  exact wpAny_pure (k h3 tk2 ys S3 rys ht2)
theorem getK_putK {β : Type} (i j : Nat) (v : β) : ∀ L : List (Nat × β), getK j (putK i v L) = if j = i then some v else getK j L
  | [] => by
    by_cases q : j = i
    · subst q; simp [putK, getK, BT.beq_eq]
    · have : ¬ i = j := fun z => q z.symm
      simp [putK, getK, BT.beq_eq, q, this]
  | (a, w) :: r => by
    have ih := getK_putK i j v r
    by_cases q1 : a = i
    · subst q1
      by_cases q : j = a
      · subst q; simp [putK, getK, BT.beq_eq]
      · have : ¬ a = j := fun z => q z.symm
        simp [putK, getK, BT.beq_eq, q, this]
    · by_cases q : a = j
      · subst q
        simp [putK, getK, BT.beq_eq, q1]
      · simp only [putK, getK, BT.beq_eq, q1, q, decide_false, cond_false]
        exact ih
theorem LR.put {tb : List Str} {hs : HS} {L : Loc} {m : Str → Option Value} (nd : tb.Nodup) (lr : LR tb hs L m) {i : Nat} {x : Str} {v : V} {y : Value} (hi : tb[i]? = some x) (rv : VR hs v y) : LR tb hs (putK i v L) (fun z => if z = x then some y else m z) := by
  intro j u e
  rw [getK_putK] at e
  split at e
  · rename_i q
    subst q
    cases e
    exact ⟨x, y, hi, by simp, rv⟩
  · rename_i q
    obtain ⟨z, w, h1, h2, h3⟩ := lr j u e
    refine ⟨z, w, h1, ?_, h3⟩
    have : ¬ z = x := fun e' => q (tb_inj nd (e' ▸ h1) hi)
    simp [this, h2]
theorem store_fn (nd : W.tb.Nodup) (S : SR W c m X σ ps h) {L : Loc} (lr : LR W.tb (hds ps) L m) {i : Nat} {x : Str} {v : V} {y : Value} {Q : Unit → Shared → Prop} {E : Value → Shared → Prop} (hi : W.tb[i]? = some x) (rv : VR (hds ps) v y) (hk : c.cs.names.lookup x = some .local) (hf : c.cs.kind = .function)
    (k : ∀ m' h', SR W c m' X σ ps h' → LR W.tb (hds ps) (putK i v L) m' → Q () ⟨h', g, dr, tk + 1, os⟩) : wpAny (model W.prog W.w) A (storeName c.env x y) Q E ⟨h, g, dr, tk, os⟩ := by
  refine wpAny_storeName_local (m := m) hk S.F.ns (fun h' hn hs => k _ h' ⟨S.F.set hn hs, S.N.set hs, S.nd, S.rel, S.fz⟩ (lr.put nd hi rv)) ?_
  show (c.cs.kind == .class || (c.cs.kind == .module && _)) = false
  rw [hf]; rfl
end
end PL
end
section
namespace PL
theorem it_go {W : Wd} {prog : Program} {w : World} {A : Around} {E : Value → Shared → Prop} {cx : Cx} {σ : St} {v : V} {x y : Value} {i : Nat} {ob : Obj} {I : Addr} {target : PySem.Expr} {Q : Unit → Shared → Prop} {s : Shared} (it : ItOb W cx σ v x i ob) (hI : s.heap.get? I = some ob) (h : Q () s) :
    wpAny (model prog w) A (letOwnedTupleGo target (.ref I) y) Q E s := by
  have hc : ∃ n vs, ob.cls = .type n ∧ ob.data = .fields vs ∧ ["enumerate", "zip", "dict_itemiterator", "dict_reverseitemiterator", "odict_iterator", "itertools.zip_longest", "itertools.pairwise"].contains n = false := by
    cases it with
    | str h1 h2 h3 h4 => rcases h3 with h3 | h3 <;> exact ⟨_, _, h3, h4, by decide⟩
    | list h1 h2 h3 h4 => exact ⟨_, _, h3, h4, by decide⟩
    | tuple h1 h2 h3 h4 => exact ⟨_, _, h3, h4, by decide⟩
    | rng h1 h2 => subst h2; exact ⟨_, _, rfl, rfl, by decide⟩
  obtain ⟨n, vs, c1, c2, c3⟩ := hc
  unfold letOwnedTupleGo
  have go : ∀ a, wpAny (model prog w) A (do
      let o ← load I
      match o.cls, o.data with
      | .type n, .fields vs =>
        if ["enumerate", "zip", "dict_itemiterator", "dict_reverseitemiterator", "odict_iterator", "itertools.zip_longest", "itertools.pairwise"].contains n && vs[0]? == some (rawInt (a : Addr)) then
          rule "for.unpacks-the-owned-tuple"
          updateField I 0 .none
      | _, _ => pure ()) Q E s := fun a => by
    refine wpAny_bind (wpAny_load hI ?_)
    rw [c1, c2]
    dsimp only
    rw [c3]
    exact wpAny_pure h
  split
  · cases y with
    | ref a => exact go a
    | _ => exact wpAny_pure h
  · cases y with
    | ref a => exact go a
    | _ => exact wpAny_pure h
  · exact wpAny_pure h
inductive TgOk (W : Wd) (names : List (Str × NameKind)) : Ft → PySem.Expr → Prop
  | one {i : Nat} {x : Str} {p : Pos} : W.tb[i]? = some x → names.lookup x = some .local → TgOk W names (.one i) (.Name x p)
  | many {is : List Nat} {elts : List PySem.Expr} {n : Nat} {p : Pos} : All2 (fun i e => ∃ x q, e = PySem.Expr.Name x q ∧ W.tb[i]? = some x ∧ names.lookup x = some .local) is elts → TgOk W names (.many is) (.Tuple elts n p)
noncomputable def tgs : Ft → List Nat
  | .one i => [i]
  | .many is => is.reverse
section
variable {W : Wd} {cx : Cx} {cs : Scope} {cp : Option Cp} {d : Nat} {c : Fc} {σ : St} {ps : PZ} {h : Heap} {g : Array GenState} {dr : Drawn} {tk : Nat} {os : OsState} {A : Around} {E : Value → Shared → Prop}
abbrev Zf := Loc → List Nat → (Str → Option Value) → List (Addr × Obj) → Prop
noncomputable def StoreOk (W : Wd) (c : Fc) (σ : St) (ps : PZ) (env : Env) (names : List (Str × NameKind)) (Z : Zf) : Prop :=
  ∀ {i : Nat} {x : Str} {v : V} {y : Value} {L : Loc} {B : List Nat} {m : Str → Option Value} {X : List (Addr × Obj)} {h : Heap} {g : Array GenState} {dr : Drawn} {tk : Nat} {os : OsState} {A : Around} {Q : Unit → Shared → Prop} {E : Value → Shared → Prop}, W.tb[i]? = some x → names.lookup x = some .local → VR (hds ps) v y → SR W c m X σ ps h → Z L B m X →
    (∀ m' X' h', SR W c m' X' σ ps h' → Z (putK i v L) (i :: B) m' X' → Q () ⟨h', g, dr, tk + 1, os⟩) → wpAny (model W.prog W.w) A (storeName env x y) Q E ⟨h, g, dr, tk, os⟩
theorem assignEach_names {names : List (Str × NameKind)} {env : Env} : ∀ {is : List Nat} {elts : List PySem.Expr}, All2 (fun i e => ∃ x q, e = PySem.Expr.Name x q ∧ W.tb[i]? = some x ∧ names.lookup x = some .local) is elts → assignEach elts env = elts.map fun e => (false, assign e env) := by
  intro is elts r
  induction r with
  | nil => rfl
  | cons h0 _ ih =>
    obtain ⟨x, q, rfl, _, _⟩ := h0
    show (false, assign (.Name x q) env) :: assignEach _ env = _
    rw [ih]; rfl
theorem names_ok {env : Env} {names : List (Str × NameKind)} {Z : Zf} (so : StoreOk W c σ ps env names Z) : ∀ {is : List Nat} {elts : List PySem.Expr} {vs : List V} {ys : List Value} {L L1 : Loc} {B : List Nat} {m : Str → Option Value} {X : List (Addr × Obj)} {h : Heap} {tk : Nat} {Q : Unit → Shared → Prop},
    All2 (fun i e => ∃ x q, e = PySem.Expr.Name x q ∧ W.tb[i]? = some x ∧ names.lookup x = some .local) is elts → All2 (VR (hds ps)) vs ys → bindMany cx is vs L = some L1 → SR W c m X σ ps h → Z L B m X → 1 ≤ tk →
    (∀ m' X' h' tk', SR W c m' X' σ ps h' → Z L1 (is.reverse ++ B) m' X' → 1 ≤ tk' → Q () ⟨h', g, dr, tk', os⟩) → wpAny (model W.prog W.w) A (assignInOrder (elts.map fun e => assign e env) ys) Q E ⟨h, g, dr, tk, os⟩ := by
  intro is elts vs ys L L1 B m X h tk Q r
  induction r generalizing vs ys L B m X h tk with
  | nil =>
    intro rv e S z ht k
    cases rv with
    | nil =>
      simp only [bindMany, Option.some.injEq] at e
      subst e
      exact wpAny_pure (k m X h tk S (by simpa using z) ht)
    | cons _ _ => simp [bindMany] at e
  | @cons i el is elts h0 _ ih =>
    intro rv e S z ht k
    cases rv with
    | nil => simp [bindMany] at e
    | @cons v y vs ys h1 h2 =>
      simp only [bindMany] at e
      obtain ⟨x, q, rfl, hi, hl⟩ := h0
      show wpAny _ A (holding ys (assign (.Name x q) env y) >>= fun qq1 => assignInOrder (elts.map fun e => assign e env) ys) Q E _
      refine wpAny_bind (wpAny_holding ?_)
      rw [arm_assign_Name]
      refine wpAny_bind (wpAny_standAt (wpAny_bindName (so hi hl h1 S z fun m' X' h' S' z' => ?_)))
      refine ih h2 e S' z' (by lia) fun m2 X2 h2 tk2 S2 z2 ht2 => k m2 X2 h2 tk2 S2 ?_ ht2
      simpa using z2
theorem bind_ok (G : GOk W cx d) (ok : FOk W c d) {env : Env} {names : List (Str × NameKind)} {Z : Zf} (so : StoreOk W c σ ps env names Z) {t : Ft} {target : PySem.Expr} (tg : TgOk W names t target) {v : V} {y : Value} {L L1 : Loc} {B : List Nat} {m : Str → Option Value} {X : List (Addr × Obj)} {Q : Unit → Shared → Prop}
    (S : SR W c m X σ ps h) (z : Z L B m X) (rv : VR (hds ps) v y) (e : bindFt cx σ t v L = some L1) (ht : 1 ≤ tk) (hA : A.handled = none)
    (k : ∀ m' X' h' tk', SR W c m' X' σ ps h' → Z L1 (tgs t ++ B) m' X' → 1 ≤ tk' → Q () ⟨h', g, dr, tk', os⟩) : wpAny (model W.prog W.w) A (assign target env y) Q E ⟨h, g, dr, tk, os⟩ := by
  cases tg with
  | one hi hl =>
    simp only [bindFt, Option.some.injEq] at e
    subst e
    rw [arm_assign_Name]
    exact wpAny_bind (wpAny_standAt (wpAny_bindName (so hi hl rv S z fun m' X' h' S' z' => k m' X' h' _ S' z' (by lia))))
  | @many is elts n p r =>
    simp only [bindFt, Option.bind_eq_some_iff] at e
    obtain ⟨vs, e1, e2⟩ := e
    have len : elts.length = vs.length := by
      have key : ∀ {is : List Nat} {vs : List V} {L L1 : Loc}, bindMany cx is vs L = some L1 → is.length = vs.length := by
        intro is
        induction is with
        | nil => intro vs L L1 e; cases vs with
          | nil => rfl
          | cons _ _ => simp [bindMany] at e
        | cons a r ih => intro vs L L1 e; cases vs with
          | nil => simp [bindMany] at e
          | cons b q => simp only [bindMany] at e; simp [ih e]
      rw [← key e2, r.len]
    rw [arm_assign_Tuple]
    refine wpAny_bind (wpAny_standAt ?_)
    unfold unpack
    rw [assignEach_names r]
    have l1 : (elts.map fun e => (false, assign e env)).length = vs.length := by rw [List.length_map, len]
    have l2 : (elts.map fun e => (false, assign e env)).findIdx? (·.1) = none := by
      rw [List.findIdx?_eq_none_iff]; intro x hx; obtain ⟨a, _, rfl⟩ := List.mem_map.mp hx; rfl
    have l3 : (elts.map fun e => (false, assign e env)).map (·.2) = elts.map fun e => assign e env := by rw [List.map_map]; rfl
    rw [l1, l2, l3]
    refine wpAny_bind (wpAny_holding (unpackItems_ok G ok S rv e1 ht hA fun h' tk' ys S' rys ht' => ?_))
    exact names_ok so r rys e2 S' z ht' fun m2 X2 h2 tk2 S2 z2 ht2 => k m2 X2 h2 tk2 S2 z2 ht2
end
end PL
end
section
namespace PL
section
variable {prog : Program} {w : World} {A : Around} {R : Result → Shared → Prop} {s : Shared}
theorem comp_step {elt target iter : PySem.Expr} {gens : List Comprehension} {scope : Scope} {pos : Pos} {depth : Nat} {it acc : Value} {env : Env} {T : Sem Fin}
    (hturn : compTurn (.ListComp elt gens scope pos) depth it acc env = (standAt iter.pos >>= fun qq1 => pyNext it >>= fun r => match r with
      | none => pure (.done .next)
      | some v => letOwnedTupleGo target it v >>= fun qq1 => assign target env v >>= fun qq1 => T))
    (h : wpAny (model prog w) A (pyNext it) (fun r s₁ => match r with
      | none => R (.ok .next) s₁
      | some v => wpAny (model prog w) A (letOwnedTupleGo target it v) (fun qq1 s₂ => wpAny (model prog w) A (assign target env v) (fun qq1 s₃ => wpAny (model prog w) A T
          (fun fin s' => match fin with | .done f => R (.ok f) s' | .again c' => c'.quiet = true ∧ codeAny (model prog w) A c' R s')
          (notedBy (model prog w) A env fun e s' => R (.error e) s') s₃) (notedBy (model prog w) A env fun e s' => R (.error e) s') s₂) (notedBy (model prog w) A env fun e s' => R (.error e) s') s₁)
      (notedBy (model prog w) A env fun e s' => R (.error e) s') s) :
    codeAny (model prog w) A (.compLoop (.ListComp elt gens scope pos) depth it acc env) R s := by
  refine codeAny_of_tree ?_
  show wpAny _ A ((compTurn (.ListComp elt gens scope pos) depth it acc env).onRaise (fun x => do noteFrame x env; theTreesLotGoes x)) _ _ s
  refine wpAny_noted ?_
  rw [hturn]
  refine wpAny_bind (wpAny_standAt (wpAny_bind (wpAny_mono h (fun r s₁ h₁ => ?_) fun qq1 qq2 h' => h')))
  cases r with
  | none => exact wpAny_pure h₁
  | some v => exact wpAny_bind (wpAny_mono h₁ (fun qq1 s₂ h₂ => wpAny_bind (wpAny_mono h₂ (fun qq1 s₃ h₃ => h₃) fun qq1 qq2 h' => h')) fun qq1 qq2 h' => h')
noncomputable def emitT (elt : PySem.Expr) (acc : Value) (env : Env) : Sem Unit := (eval elt env >>= fun x => call (.builtin "list.append") [acc, x] >>= fun qq1 => pure ())
theorem turn0 (elt target iter : PySem.Expr) (scope : Scope) (pos : Pos) (it acc : Value) (env : Env) :
    compTurn (.ListComp elt [⟨target, iter, [], 0⟩] scope pos) 0 it acc env = (standAt iter.pos >>= fun qq1 => pyNext it >>= fun r => match r with
      | none => pure (.done .next)
      | some v => letOwnedTupleGo target it v >>= fun qq1 => assign target env v >>= fun qq1 =>
        (emitT elt acc env >>= fun qq1 => again (.compLoop (.ListComp elt [⟨target, iter, [], 0⟩] scope pos) 0 it acc env))) := by rfl
theorem turn2 (elt target iter target2 iter2 : PySem.Expr) (scope : Scope) (pos : Pos) (it acc : Value) (env : Env) :
    compTurn (.ListComp elt [⟨target, iter, [], 0⟩, ⟨target2, iter2, [], 0⟩] scope pos) 0 it acc env = (standAt iter.pos >>= fun qq1 => pyNext it >>= fun r => match r with
      | none => pure (.done .next)
      | some v => letOwnedTupleGo target it v >>= fun qq1 => assign target env v >>= fun qq1 =>
        (eval iter2 env >>= fun x => standAt iter2.pos >>= fun qq1 => foldedSetIterable iter2 env x >>= fun x => holding [x] (pyIter x) >>= fun it2 =>
          runOwn (.compStart (.ListComp elt [⟨target, iter, [], 0⟩, ⟨target2, iter2, [], 0⟩] scope pos) 1 it2 acc env) env >>= fun qq1 => again (.compLoop (.ListComp elt [⟨target, iter, [], 0⟩, ⟨target2, iter2, [], 0⟩] scope pos) 0 it acc env))) := by
  rfl
theorem turn3 (elt target iter target2 iter2 : PySem.Expr) (scope : Scope) (pos : Pos) (it acc : Value) (env : Env) :
    compTurn (.ListComp elt [⟨target, iter, [], 0⟩, ⟨target2, iter2, [], 0⟩] scope pos) 1 it acc env = (standAt iter2.pos >>= fun qq1 => pyNext it >>= fun r => match r with
      | none => pure (.done .next)
      | some v => letOwnedTupleGo target2 it v >>= fun qq1 => assign target2 env v >>= fun qq1 =>
        (emitT elt acc env >>= fun qq1 => again (.compLoop (.ListComp elt [⟨target, iter, [], 0⟩, ⟨target2, iter2, [], 0⟩] scope pos) 1 it acc env))) := by
  rfl
end
theorem compL_nil {bind : V → Loc → St → Option Loc} {still : St → Bool} {elt : Loc → St → Option (List V × St)} {L : Loc} {σ : St} : compL bind still elt [] L σ = if still σ then some ([], σ) else none := rfl
theorem compL_cons {bind : V → Loc → St → Option Loc} {still : St → Bool} {elt : Loc → St → Option (List V × St)} {L : Loc} {σ : St} {v : V} {vs : List V} : compL bind still elt (v :: vs) L σ = if still σ then (bind v L σ).bind fun L1 => (elt L1 σ).bind fun (xs, σ1) => (compL bind still elt vs L1 σ1).bind fun (ys, σ2) => some (xs ++ ys, σ2) else none := rfl
theorem putK_other {β : Type} (i j : Nat) (v : β) (L : List (Nat × β)) (h : j ≠ i) : getK j (putK i v L) = getK j L := by
  rw [getK_putK, if_neg h]
theorem bindMany_get (cx : Cx) : ∀ {is : List Nat} {vs : List V} {L L1 : Loc} {j : Nat}, bindMany cx is vs L = some L1 → j ∉ is → getK j L1 = getK j L
  | [], [], L, L1, j, e, _ => by simp only [bindMany, Option.some.injEq] at e; rw [e]
  | [], _ :: _, L, L1, j, e, _ => by simp [bindMany] at e
  | _ :: _, [], L, L1, j, e, _ => by simp [bindMany] at e
  | i :: is, v :: vs, L, L1, j, e, h => by
    simp only [bindMany] at e
    rw [bindMany_get cx e (fun q => h (.tail _ q)), putK_other]
    exact fun q => h (q ▸ .head _)
theorem bindFt_get {cx : Cx} {σ : St} {t : Ft} {v : V} {L L1 : Loc} {j : Nat} (e : bindFt cx σ t v L = some L1) (h : j ∉ tgs t) : getK j L1 = getK j L := by
  cases t with
  | one i =>
    simp only [bindFt, Option.some.injEq] at e
    subst e
    exact putK_other _ _ _ _ (fun q => h (by simp [tgs, q]))
  | many is =>
    simp only [bindFt, Option.bind_eq_some_iff] at e
    obtain ⟨vs, _, e2⟩ := e
    exact bindMany_get cx e2 (fun q => h (by simpa [tgs] using q))
theorem LRb.put {tb : List Str} {hs : HS} {L : Loc} {m : Str → Option Value} {B : List Nat} (nd : tb.Nodup) (lr : LRb tb hs L m B) {i : Nat} {x : Str} {v : V} {y : Value} (hi : tb[i]? = some x) (rv : VR hs v y) : LRb tb hs (putK i v L) (fun z => if z = x then some y else m z) (i :: B) := by
  intro j hj u e
  rw [getK_putK] at e
  split at e
  · rename_i q
    subst q
    cases e
    exact ⟨x, y, hi, by simp, rv⟩
  · rename_i q
    rcases List.mem_cons.mp hj with rfl | hj
    · exact absurd rfl q
    · obtain ⟨z, w, h1, h2, h3⟩ := lr j hj u e
      refine ⟨z, w, h1, ?_, h3⟩
      have : ¬ z = x := fun e' => q (tb_inj nd (e' ▸ h1) hi)
      simp [this, h2]
section
variable {W : Wd} {cx : Cx} {cs : Scope} {cp : Option Cp} {d : Nat} {c : Fc} {m : Str → Option Value} {X P Y : List (Addr × Obj)} {σ : St} {ps : PZ} {h : Heap} {g : Array GenState} {dr : Drawn} {tk : Nat} {os : OsState} {A : Around}
noncomputable def Zc (W : Wd) (ps : PZ) (m : Str → Option Value) (C : Addr) (Y : List (Addr × Obj)) : Zf := fun L B m' X' => m' = m ∧ ∃ o mc, X' = (C, o) :: Y ∧ IsNs o mc ∧ LRb W.tb (hds ps) L mc B
theorem store_c (nd : W.tb.Nodup) {C : Addr} {sc : Scope} (hf : sc.kind = .function) : StoreOk W c σ ps (compEnv sc C c.env) sc.names (Zc W ps m C Y) := by
  intro i x v y L B m' X' h g dr tk os A Q E hi hl rv S z k
  obtain ⟨rfl, o, mc, rfl, ⟨es, ep, q1, q2, q3⟩, lr⟩ := z
  have gC := (S.N (C, o) (by simp)).1
  refine wpAny_storeName_local (m := mc) hl ⟨o, es, ep, gC, q1, q2, q3⟩ (fun h' hn' hs => ?_) ?_
  · obtain ⟨o', es', ep', g', r⟩ := hn'
    exact k _ _ h' (S.putX (P := []) (same_keep hs) g') ⟨rfl, o', _, rfl, ⟨es', ep', r⟩, lr.put nd hi rv⟩
  · show (sc.kind == .class || (sc.kind == .module && _)) = false
    rw [hf]; rfl
theorem comp_emit (G : GOk W cx d) (hc : c.cs = cs) (ok : FOk W c d) {sc : Scope} (hf : sc.kind = .function) {t : Ft} {target iter elt : PySem.Expr} {gens : List Comprehension} {pos : Pos} {depth : Nat} {B0 : List Nat} {e : PE} {C I D : Addr} {R : Result → Shared → Prop}
    (tg : TgOk W sc.names t target) (hdis : ∀ j ∈ B0, j ∉ tgs t) (he : OkE W cx cs (some (sc, tgs t ++ B0)) d e elt)
    (hturn : compTurn (.ListComp elt gens sc pos) depth (.ref I) (.ref D) (compEnv sc C c.env) = (standAt iter.pos >>= fun qq1 => pyNext (.ref I) >>= fun r => match r with
      | none => pure (.done .next)
      | some v => letOwnedTupleGo target (.ref I) v >>= fun qq1 => assign target (compEnv sc C c.env) v >>= fun qq1 =>
        (emitT elt (.ref D) (compEnv sc C c.env) >>= fun qq1 => again (.compLoop (.ListComp elt gens sc pos) depth (.ref I) (.ref D) (compEnv sc C c.env)))))
    {v : V} {x : Value} {σ1 : St} {xs : List V} (hx : iterV cx σ1 v = some xs) {L0 : Loc} :
    ∀ (rest : List V) (i : Nat) (L : Loc) (σ : St) (ps : PZ) (h : Heap) (tk : Nat) (ob o : Obj) (mc : Str → Option Value) (ys : List Value) (n : Nat) (acc vs : List V) (σ' : St),
      xs.drop i = rest → i ≤ xs.length → SR W c m ((C, o) :: (I, ob) :: (D, listOf ys.toArray n) :: X) σ ps h → IsNs o mc → ItOb W cx σ1 v x i ob → All2 (VR (hds ps)) acc ys → VR (hds ps) v x → 1 ≤ tk →
      (∀ j ∈ B0, getK j L = getK j L0) → LRb W.tb (hds ps) L0 mc B0 →
      compL (fun v L s => bindFt cx s t v L) (fun s => stillV cx σ1 s v) (fun L1 s => (evE cx e L1 s).map fun (v, s2) => ([v], s2)) rest L σ = some (vs, σ') → acc.length + vs.length ≤ LIM →
      (∀ ps' h' tk' o' mc' ys' n', (hds ps).Le (hds ps') → SR W c m ((C, o') :: (D, listOf (List.toArray ys') n') :: X) σ' ps' h' → IsNs o' mc' → All2 (VR (hds ps')) (acc ++ vs) ys' → LRb W.tb (hds ps') L0 mc' B0 → 1 ≤ tk' → R (.ok .next) ⟨h', g, dr, tk', os⟩) →
      codeAny (model W.prog W.w) c.A (.compLoop (.ListComp elt gens sc pos) depth (.ref I) (.ref D) (compEnv sc C c.env)) R ⟨h, g, dr, tk, os⟩ := by
  intro rest
  induction rest with
  | nil =>
    intro i L σ ps h tk ob o mc ys n acc vs σ' hd hi S hns it ra rv ht hL lr e1 hz hR
    refine gdE (compL_nil.symm.trans e1) fun hst e1 => ?_
    obtain ⟨rfl, rfl⟩ := Prod.mk.inj (Option.some.inj e1)
    refine comp_step hturn (it_end (P := [(C, o)]) G ok S rv ((iter_still hst).trans hx) (it.still hst) (List.getElem?_eq_none (List.drop_eq_nil_iff.mp hd)) hi ok.hh fun h' S' => ?_)
    exact hR ps h' tk o mc ys n (.rfl) S' hns (by rw [List.append_nil]; exact ra) lr ht
  | cons u rest ih =>
    intro i L σ ps h tk ob o mc ys n acc vs σ' hd hi S hns it ra rv ht hL lr e1 hz hR
    refine gdE (compL_cons.symm.trans e1) fun hst e1 => bdE e1 fun L1 b1 e1 => bd2 e1 fun w1 σ2 e2 e5 => mp2 e2 fun w σ2' b2 q => bd2 e5 fun vs2 σ3 b3 e6 => ?_
    obtain ⟨rfl, rfl⟩ := Prod.mk.inj (Option.some.inj q)
    obtain ⟨rfl, rfl⟩ := Prod.mk.inj (Option.some.inj e6)
    have hui : xs[i]? = some u := by
      have : (xs.drop i)[0]? = some u := by rw [hd]; rfl
      simpa using this
    have hil : i < xs.length := (List.getElem?_eq_some_iff.mp hui).1
    refine comp_step hturn ?_
    refine it_next (P := [(C, o)]) G ok S rv ((iter_still hst).trans hx) (it.still hst) hui ht fun ob1 h1 y1 tk1 it1 S1 ry1 ht1 => ?_
    have S1' : SR W c m ((C, o) :: (I, ob1) :: (D, listOf ys.toArray n) :: X) σ ps h1 := S1
    refine it_go it1 (S1'.N (I, ob1) (by simp)).1 ?_
    have lrL : LRb W.tb (hds ps) L mc B0 := fun j hj z e => lr j hj z ((hL j hj) ▸ e)
    refine bind_ok (Z := Zc W ps m C ((I, ob1) :: (D, listOf ys.toArray n) :: X)) G ok (store_c G.co.nd hf) tg (B := B0) S1' ⟨rfl, o, mc, rfl, hns, lrL⟩ ry1 b1 ht1 ok.hh fun m2 X2 h2 tk2 S2 z2 ht2 => ?_
    obtain ⟨rfl, o2, mc2, rfl, hns2, lr2⟩ := z2
    refine wpAny_bind (wpAny_bind (he.1 c hc ok S2 ⟨C, o2, mc2, rfl, by simp, hns2, lr2⟩ ht2 b2 fun ps3 h3 tk3 y3 p3 S3 r3 ht3 => wpAny_bind ?_))
    have gD := (S3.N (D, listOf ys.toArray n) (by simp)).1
    have hlen : ys.length ≤ LIM := by rw [← ra.len]; lia
    refine append_at (s := ⟨h3, g, dr, tk3, os⟩) gD (fun h4 hs4 ho4 => wpAny_pure (wpAny_pure ⟨rfl, ?_⟩)) (by rw [List.size_toArray, sizeLine_eq]; unfold LIM at hlen; lia)
    have e2 : ys.toArray.push y3 = (ys ++ [y3]).toArray := List.push_toArray ..
    rw [e2] at ho4
    have S4 : SR W c m2 ((C, o2) :: (I, ob1) :: (D, listOf (ys ++ [y3]).toArray (n + 1)) :: X) σ2' ps3 h4 := S3.putX (P := [(C, o2), (I, ob1)]) (same_keep hs4) ho4
    have itb := it1.still (still_sym hst)
    have hL1 : ∀ j ∈ B0, getK j L1 = getK j L0 := fun j hj => (bindFt_get b1 (hdis j hj)).trans (hL j hj)
    have lr4 : LRb W.tb (hds ps3) L0 mc2 B0 := fun j hj z e => (lr2.mono p3) j (List.mem_append_right _ hj) z ((hL1 j hj).trans e)
    simp only [List.length_append, List.length_cons, List.length_nil] at hz
    refine ih (i + 1) L1 σ2' ps3 h4 tk3 ob1 o2 mc2 (ys ++ [y3]) (n + 1) (acc ++ [w]) vs2 σ3 ?_ hil S4 hns2 itb ((ra.mono fun qq1 qq2 z => z.mono p3).snoc r3) (rv.mono p3) ht3 hL1 lr4 b3 (by simp only [List.length_append, List.length_cons, List.length_nil]; lia) fun ps5 h5 tk5 o5 mc5 ys5 n5 p5 S5 hns5 ra5 lr5 ht5 => ?_
    · rw [← List.drop_drop, hd]; rfl
    · exact hR ps5 h5 tk5 o5 mc5 ys5 n5 (p3.trans p5) S5 hns5 (by simpa using ra5) lr5 ht5
end
end PL
end
section
namespace PL
section
variable {prog : Program} {w : World} {A : Around} {R : Result → Shared → Prop} {s : Shared}
theorem comp_start1 {elt target iter ifs target2 iter2 ifs2 rest scope pos it acc env}
    (h0 : codeAny (model prog w) A (.compLoop (.ListComp elt (⟨target, iter, ifs, 0⟩ :: ⟨target2, iter2, ifs2, 0⟩ :: rest) scope pos) 1 it acc env) R s)
    (h : wpAny (model prog w) A (pyIter it) (fun it' s' => codeAny (model prog w) A (.compLoop (.ListComp elt (⟨target, iter, ifs, 0⟩ :: ⟨target2, iter2, ifs2, 0⟩ :: rest) scope pos) 1 it' acc env) R s')
      (notedBy (model prog w) A env fun x s' => R (.error x) s') s) :
    codeAny (model prog w) A (.compStart (.ListComp elt (⟨target, iter, ifs, 0⟩ :: ⟨target2, iter2, ifs2, 0⟩ :: rest) scope pos) 1 it acc env) R s := by
  refine codeAny_of_tree ?_
  show wpAny _ _ ((compStart (.ListComp elt (⟨target, iter, ifs, 0⟩ :: ⟨target2, iter2, ifs2, 0⟩ :: rest) scope pos) 1 it acc env).onRaise (fun x => do noteFrame x env; standAt theWindowsPlace)) _ _ s
  refine wpAny_notedAt ?_
  unfold compStart
  show wpAny _ _ (ask >>= _) _ _ s
  refine wpAny_bind (wpAny_askSetting (wpAny_ite ?_))
  split
  · first
      | exact wpAny_bind (wpAny_pure (wpAny_pure (And.intro rfl h0)))
      | exact wpAny_pure (And.intro rfl h0)
  · first
      | exact wpAny_bind (wpAny_rule (wpAny_bind (wpAny_standAt (wpAny_bind (wpAny_mono h (fun it' s' h' => wpAny_pure (And.intro rfl h')) fun qq1 qq2 x => x)))))
      | (refine wpAny_bind (wpAny_rule ?_); show wpAny _ _ (standAt iter2.pos >>= _) _ _ s; exact wpAny_bind (wpAny_standAt (wpAny_bind (wpAny_mono h (fun it' s' h' => wpAny_pure (And.intro rfl h')) fun qq1 qq2 x => x))))
end
section
variable {W : Wd} {cx : Cx} {cs : Scope} {cp : Option Cp} {d : Nat} {c : Fc} {m : Str → Option Value} {X X' P Y : List (Addr × Obj)} {σ : St} {ps : PZ} {h : Heap} {g : Array GenState} {dr : Drawn} {tk : Nat} {os : OsState} {A : Around}
theorem SR.perm (S : SR W c m X σ ps h) (p : X.Perm X') : SR W c m X' σ ps h := by
  refine ⟨S.F, fun q hq => S.N q ?_, ?_, S.rel, S.fz⟩
  · rcases List.mem_append.mp hq with hq | hq
    · exact List.mem_append_left _ hq
    · exact List.mem_append_right _ (p.mem_iff.mpr hq)
  · have : ((ps.flatten ++ X).map (·.1)).Perm ((ps.flatten ++ X').map (·.1)) := List.Perm.map _ (List.Perm.append_left _ p)
    exact this.nodup_iff.mp S.nd
theorem it_self {prog : Program} {w : World} {E : Value → Shared → Prop} {σ : St} {v : V} {x : Value} {i : Nat} {ob : Obj} {I : Addr} {Q : Value → Shared → Prop} {s : Shared} (it : ItOb W cx σ v x i ob) (hI : s.heap.get? I = some ob) (h : Q (.ref I) s) :
    wpAny (model prog w) A (pyIter (.ref I)) Q E s := by
  cases it with
  | str h1 h2 h3 h4 =>
    rcases h3 with h3 | h3
    · exact wpAny_pyIter_striter_ascii ⟨ob, hI, h3, h4⟩ h
    · exact wpAny_pyIter_striter_wide ⟨ob, hI, h3, h4⟩ h
  | list h1 h2 h3 h4 => exact wpAny_pyIter_listiter ⟨ob, hI, h3, h4⟩ h
  | tuple h1 h2 h3 h4 => exact wpAny_pyIter_tupleiter ⟨ob, hI, h3, h4⟩ h
  | rng h1 h2 => subst h2; exact wpAny_pyIter_rangeiter hI h
structure ScOk (sc : Scope) : Prop where
  free : ∀ x ∈ sc.names, x.2 ≠ .free
  cell : ∀ x ∈ sc.names, x.2 ≠ .cell
  kind : sc.kind = .function
  names : ∀ x ∈ sc.names, x.2 = .local → sc.names.lookup x.1 = some .local
theorem comp_open (G : GOk W cx d) (ok : FOk W c d) {sc : Scope} (so : ScOk sc) {e : PE} {iter elt : PySem.Expr} {target : PySem.Expr} {ifs : List PySem.Expr} {more : List Comprehension} {pos : Pos} {env : Env} {Q E : Value → Shared → Prop} {L : Loc} {v : V} {σ1 : St} {xs vs : List V} {σ2 σ' : St} {r : V}
    (hc : c.cs = cs) (hit : OkE W cx cs cp d e iter) (hs : ∀ env x, foldedSetIterable iter env x = pure x)
    (S : SR W c m X σ ps h) (V : Vw W cp c env m X (hds ps) L) (ht : 1 ≤ tk) (e1 : evE cx e L σ = some (v, σ1)) (hx : iterV cx σ1 v = some xs) (ha : allocL vs σ2 = some (r, σ'))
    (H : Hand W c m X (hds ps) σ' r g dr os Q)
    (loop : ∀ (ps1 : PZ) (h1 : Heap) (tk1 : Nat) (x : Value) (C I D : Addr) (o ob : Obj) (R : Result → Shared → Prop), (hds ps).Le (hds ps1) → SR W c m ((C, o) :: (I, ob) :: (D, listOf ([] : List Value).toArray 0) :: X) σ1 ps1 h1 → IsNs o (fun qq1 => none) → ItOb W cx σ1 v x 0 ob → VR (hds ps1) v x → 1 ≤ tk1 →
      (∀ ps' h' tk' o' mc' ys' n', (hds ps1).Le (hds ps') → SR W c m ((C, o') :: (D, listOf (List.toArray ys') n') :: X) σ2 ps' h' → IsNs o' mc' → All2 (VR (hds ps')) vs ys' → 1 ≤ tk' → R (.ok .next) ⟨h', g, dr, tk', os⟩) →
      codeAny (model W.prog W.w) c.A (.compLoop (.ListComp elt (⟨target, iter, ifs, 0⟩ :: more) sc pos) 0 (.ref I) (.ref D) (compEnv sc C c.env)) R ⟨h1, g, dr, tk1, os⟩) :
    wpAny (model W.prog W.w) c.A (eval (.ListComp elt (⟨target, iter, ifs, 0⟩ :: more) sc pos) env) Q E ⟨h, g, dr, tk, os⟩ := by
  refine wpAny_ListComp so.free so.kind so.names (hit.1 c hc ok S V ht e1 fun ps1 h1 tk1 y1 p1 S1 r1 ht1 => ?_) (hs env)
  refine it_new G ok S1 r1 hx fun I ob h2 it2 S2 => ?_
  refine wpAny_newObj_type (hd := by size_fits) ?_
  have S3 := S2.take { cls := .type "list", data := .seq ([] : List Value).toArray } rfl
  refine wpAny_newFunctionEnv so.cell (by intro y hy; simp at hy) (fun h4 hns hsb => ?_) so.kind
  have S4 := S3.take { cls := .type "dict", data := .dict #[] } rfl
  obtain ⟨o, es, ep, go, q1, q2, q3⟩ := hns
  have S5 := S4.putX (P := []) (same_keep hsb) go
  have S6 := S5.perm (X' := (_, o) :: (I, ob) :: (h2.objs.size, listOf ([] : List Value).toArray 0) :: X) (List.Perm.cons _ (List.Perm.swap ..))
  have henv : ∀ C, compEnv sc C env = compEnv sc C c.env := fun C => by
    unfold Vw at V
    split at V
    · rw [V.1]
    · obtain ⟨_, _, _, rfl, _⟩ := V; rfl
  have key : codeAny (model W.prog W.w) c.A (.compLoop (.ListComp elt (⟨target, iter, ifs, 0⟩ :: more) sc pos) 0 (.ref I) (.ref h2.objs.size) (compEnv sc (h2.push { cls := .type "list", data := .seq ([] : List Value).toArray }).objs.size env))
      (fun r s' => ∃ m, s'.heap.Ns (h2.push { cls := .type "list", data := .seq ([] : List Value).toArray }).objs.size m ∧ ∀ h', Heap.SameBut (h2.push { cls := .type "list", data := .seq ([] : List Value).toArray }).objs.size s'.heap h' →
          match r with | .ok _ => Q (.ref h2.objs.size) { s' with heap := h' } | .error x => wpAny (model W.prog W.w) c.A (passOn "comprehension.variables-let-go" x (compEnv sc (h2.push { cls := .type "list", data := .seq ([] : List Value).toArray }).objs.size env)) Q E { s' with heap := h' }) ⟨h4, g, dr, tk1, os⟩ := by
    rw [henv]
    refine loop ps1 h4 tk1 y1 _ I h2.objs.size o ob _ p1 S6 ⟨es, ep, q1, q2, q3⟩ it2 r1 ht1 fun ps7 h7 tk7 o7 mc7 ys7 n7 p7 S7 hns7 ra7 ht7 => ?_
    obtain ⟨es7, ep7, z1, z2, z3⟩ := hns7
    refine ⟨mc7, ⟨o7, es7, ep7, (S7.N (_, o7) (by simp)).1, z1, z2, z3⟩, fun h8 hs8 => ?_⟩
    have S8 := S7.dropX (P := []) (same_keep hs8)
    refine gdE ha fun hl ha => ?_
    have S9 : SR W c m X (σ2 ++ [.list vs]) (ps7.add [(h2.objs.size, listOf ys7.toArray n7)]) h8 := SR.claim S8 (Heap.SameBut.refl _ _) (S8.N (h2.objs.size, listOf ys7.toArray n7) (by simp)).1 (.list (ra7.mono fun qq1 qq2 => VR.mono .add) (Nat.le_trans hl (Nat.le_add_right _ _)))
    refine (H.eq ha) _ _ _ _ ((p1.trans p7).trans pre_snoc) S9 ?_ ht7
    rw [hds_snoc]
    exact VR.last (hds_len.trans S7.len.symm)
  exact codeAny_compStart_list key (it_self it2 (S6.N (I, ob) (by simp)).1 key)
theorem ok_comp (G : GOk W cx d) {sc : Scope} (so : ScOk sc) {t : Ft} {e el : PE} {target iter elt : PySem.Expr} {pos : Pos} (tg : TgOk W sc.names t target) (hit : OkE W cx cs cp d e iter) (he : OkE W cx cs (some (sc, tgs t ++ [])) d el elt) (hs : ∀ env x, foldedSetIterable iter env x = pure x) :
    OkE W cx cs cp d (.comp t e el) (.ListComp elt [⟨target, iter, [], 0⟩] sc pos) := by
  refine ⟨?_⟩
  intro c hc ok env m X L σ ps h tk v σ' Q E g dr os S V ht ee H
  refine bd2 (evE_comp.symm.trans ee) fun v0 σ1 e1 e => bdE e fun xs hx e => bd2 e fun vs σ2 e2 e3 => ?_
  refine comp_open G ok so hc hit hs S V ht e1 hx e3 H fun ps1 h1 tk1 x C I D o ob R p1 S1 hns it1 rv ht1 hR => ?_
  have hlim : vs.length ≤ LIM := gdE e3 fun h qq1 => h
  refine comp_emit G hc ok so.kind (B0 := []) tg (fun j hj => by cases hj) he (turn0 ..) hx (L0 := L) xs 0 L σ1 ps1 h1 tk1 ob o _ [] 0 [] vs σ2 rfl (Nat.zero_le _) S1 hns it1 .nil rv ht1 (fun j hj => by cases hj) (fun j hj => by cases hj) e2 (by simpa using hlim) fun ps' h' tk' o' mc' ys' n' p' S' hns' ra' qq1 ht' => ?_
  exact hR ps' h' tk' o' mc' ys' n' p' S' hns' (by simpa using ra') ht'
end
end PL
end
section
namespace PL
section
variable {W : Wd} {cx : Cx} {cs : Scope} {cp : Option Cp} {d : Nat} {c : Fc} {m : Str → Option Value} {X X' P Y : List (Addr × Obj)} {σ : St} {ps : PZ} {h : Heap} {g : Array GenState} {dr : Drawn} {tk : Nat} {os : OsState} {A : Around}
theorem comp_outer (G : GOk W cx d) (hc : c.cs = cs) (ok : FOk W c d) {sc : Scope} (so : ScOk sc) {t t2 : Ft} {target iter target2 iter2 elt : PySem.Expr} {pos : Pos} {e2 e : PE} {C I D : Addr} {R : Result → Shared → Prop}
    (tg : TgOk W sc.names t target) (tg2 : TgOk W sc.names t2 target2) (hdis : ∀ j ∈ tgs t ++ [], j ∉ tgs t2) (he2 : OkE W cx cs (some (sc, tgs t ++ [])) d e2 iter2) (he : OkE W cx cs (some (sc, tgs t2 ++ (tgs t ++ []))) d e elt) (hs2 : ∀ env x, foldedSetIterable iter2 env x = pure x)
    {v : V} {x : Value} {σ1 : St} {xs : List V} (hx : iterV cx σ1 v = some xs) :
    ∀ (rest : List V) (i : Nat) (L : Loc) (σ : St) (ps : PZ) (h : Heap) (tk : Nat) (ob o : Obj) (mc : Str → Option Value) (ys : List Value) (n : Nat) (acc vs : List V) (σ' : St),
      xs.drop i = rest → i ≤ xs.length → SR W c m ((C, o) :: (I, ob) :: (D, listOf ys.toArray n) :: X) σ ps h → IsNs o mc → ItOb W cx σ1 v x i ob → All2 (VR (hds ps)) acc ys → VR (hds ps) v x → 1 ≤ tk →
      compL (fun v L s => bindFt cx s t v L) (fun s => stillV cx σ1 s v) (fun L1 s => (evE cx e2 L1 s).bind fun (o2, s1) => (iterV cx s1 o2).bind fun ys =>
        compL (fun v L s => bindFt cx s t2 v L) (fun s => stillV cx s1 s o2) (fun L2 s => (evE cx e L2 s).map fun (v, s2) => ([v], s2)) ys L1 s1) rest L σ = some (vs, σ') → acc.length + vs.length ≤ LIM →
      (∀ ps' h' tk' o' mc' ys' n', (hds ps).Le (hds ps') → SR W c m ((C, o') :: (D, listOf (List.toArray ys') n') :: X) σ' ps' h' → IsNs o' mc' → All2 (VR (hds ps')) (acc ++ vs) ys' → 1 ≤ tk' → R (.ok .next) ⟨h', g, dr, tk', os⟩) →
      codeAny (model W.prog W.w) c.A (.compLoop (.ListComp elt [⟨target, iter, [], 0⟩, ⟨target2, iter2, [], 0⟩] sc pos) 0 (.ref I) (.ref D) (compEnv sc C c.env)) R ⟨h, g, dr, tk, os⟩ := by
  intro rest
  induction rest with
  | nil =>
    intro i L σ ps h tk ob o mc ys n acc vs σ' hd hi S hns it ra rv ht e1 hz hR
    refine gdE (compL_nil.symm.trans e1) fun hst e1 => ?_
    obtain ⟨rfl, rfl⟩ := Prod.mk.inj (Option.some.inj e1)
    refine comp_step (turn2 ..) (it_end (P := [(C, o)]) G ok S rv ((iter_still hst).trans hx) (it.still hst) (List.getElem?_eq_none (List.drop_eq_nil_iff.mp hd)) hi ok.hh fun h' S' => ?_)
    exact hR ps h' tk o mc ys n (.rfl) S' hns (by rw [List.append_nil]; exact ra) ht
  | cons u rest ih =>
    intro i L σ ps h tk ob o mc ys n acc vs σ' hd hi S hns it ra rv ht e1 hz hR
    refine gdE (compL_cons.symm.trans e1) fun hst e1 => bdE e1 fun L1 b1 e1 => bd2 e1 fun w1 σ2 e2 e5 => bd2 e2 fun o2v s1 b2 e3 => bdE e3 fun ys2 b3 b4 => bd2 e5 fun vs2 σ3 b5 e6 => ?_
    obtain ⟨rfl, rfl⟩ := Prod.mk.inj (Option.some.inj e6)
    have hui : xs[i]? = some u := by
      have : (xs.drop i)[0]? = some u := by rw [hd]; rfl
      simpa using this
    have hil : i < xs.length := (List.getElem?_eq_some_iff.mp hui).1
    refine comp_step (turn2 ..) ?_
    refine it_next (P := [(C, o)]) G ok S rv ((iter_still hst).trans hx) (it.still hst) hui ht fun ob1 h1 y1 tk1 it1 S1 ry1 ht1 => ?_
    have S1' : SR W c m ((C, o) :: (I, ob1) :: (D, listOf ys.toArray n) :: X) σ ps h1 := S1
    refine it_go it1 (S1'.N (I, ob1) (by simp)).1 ?_
    refine bind_ok (Z := Zc W ps m C ((I, ob1) :: (D, listOf ys.toArray n) :: X)) G ok (store_c G.co.nd so.kind) tg (B := []) S1' ⟨rfl, o, mc, rfl, hns, fun j hj => by cases hj⟩ ry1 b1 ht1 ok.hh fun m2 X2 h2 tk2 S2 z2 ht2 => ?_
    obtain ⟨rfl, o2, mc2, rfl, hns2, lr2⟩ := z2
    refine wpAny_bind (he2.1 c hc ok S2 ⟨C, o2, mc2, rfl, by simp, hns2, lr2⟩ ht2 b2 fun ps3 h3 tk3 y3 p3 S3 r3 ht3 => wpAny_bind (wpAny_standAt (wpAny_bind (wpAny_of_eq (hs2 _ _) (wpAny_bind (wpAny_holding ?_))))))
    refine it_new G ok S3 r3 b3 fun I2 ob2 h4 it4 S4 => ?_
    have S5 : SR W c m2 ((C, o2) :: (I2, ob2) :: (D, listOf ys.toArray n) :: (I, ob1) :: X) s1 ps3 h4 :=
      S4.perm (by
        refine (List.Perm.swap (C, o2) (I2, ob2) _).trans (List.Perm.cons _ (List.Perm.cons _ ?_))
        exact List.Perm.swap ..)
    have itb := it1.still (still_sym hst)
    simp only [List.length_append] at hz
    refine wpAny_bind (wpAny_runOwn (h := none) ?_)
    have key : ∀ R1 : Result → Shared → Prop, (∀ s', codeAny (model W.prog W.w) c.A (.compLoop (.ListComp elt [⟨target, iter, [], 0⟩, ⟨target2, iter2, [], 0⟩] sc pos) 0 (.ref I) (.ref D) (compEnv sc C c.env)) R s' → R1 (.ok .next) s') →
        codeAny (model W.prog W.w) c.A (.compLoop (.ListComp elt [⟨target, iter, [], 0⟩, ⟨target2, iter2, [], 0⟩] sc pos) 1 (.ref I2) (.ref D) (compEnv sc C c.env)) R1 ⟨h4, g, dr, tk3, os⟩ := by
      intro R1 hR1
      refine comp_emit G hc ok so.kind (B0 := tgs t ++ []) (X := (I, ob1) :: X) tg2 hdis he (turn3 ..) b3 (L0 := L1) ys2 0 L1 s1 ps3 h4 tk3 ob2 o2 mc2 ys n acc w1 σ2 rfl (Nat.zero_le _) S5 hns2 it4 (ra.mono fun qq1 qq2 z => z.mono p3) r3 ht3 (fun qq1 qq2 => rfl) (lr2.mono p3) b4 (by lia) fun ps5 h5 tk5 o5 mc5 ys5 n5 p5 S5' hns5 ra5 lr5 ht5 => ?_
      have S6 : SR W c m2 ((C, o5) :: (I, ob1) :: (D, listOf ys5.toArray n5) :: X) σ2 ps5 h5 := S5'.perm (List.Perm.cons _ (List.Perm.swap ..))
      refine hR1 _ ?_
      have hlen : (acc ++ w1).length + vs2.length ≤ LIM := by simp only [List.length_append]; lia
      refine ih (i + 1) L1 σ2 ps5 h5 tk5 ob1 o5 mc5 ys5 n5 (acc ++ w1) vs2 σ3 ?_ hil S6 hns5 itb ra5 ((rv.mono p3).mono p5) ht5 b5 hlen fun ps7 h7 tk7 o7 mc7 ys7 n7 p7 S7 hns7 ra7 ht7 => ?_
      · rw [← List.drop_drop, hd]; rfl
      · exact hR ps7 h7 tk7 o7 mc7 ys7 n7 ((p3.trans p5).trans p7) S7 hns7 (by simpa using ra7) ht7
    refine comp_start1 ?_ (it_self it4 (S5.N (I2, ob2) (by simp)).1 ?_)
    · exact key _ fun s' hc' => wpAny_pure ⟨rfl, hc'⟩
    · exact key _ fun s' hc' => wpAny_pure ⟨rfl, hc'⟩
theorem ok_comp2 (G : GOk W cx d) {sc : Scope} (so : ScOk sc) {t t2 : Ft} {e e2 el : PE} {target iter target2 iter2 elt : PySem.Expr} {pos : Pos} (tg : TgOk W sc.names t target) (tg2 : TgOk W sc.names t2 target2) (hdis : ∀ j ∈ tgs t ++ [], j ∉ tgs t2) (hit : OkE W cx cs cp d e iter)
    (he2 : OkE W cx cs (some (sc, tgs t ++ [])) d e2 iter2) (he : OkE W cx cs (some (sc, tgs t2 ++ (tgs t ++ []))) d el elt) (hs : ∀ env x, foldedSetIterable iter env x = pure x) (hs2 : ∀ env x, foldedSetIterable iter2 env x = pure x) :
    OkE W cx cs cp d (.comp2 t e t2 e2 el) (.ListComp elt [⟨target, iter, [], 0⟩, ⟨target2, iter2, [], 0⟩] sc pos) := by
  refine ⟨?_⟩
  intro c hc ok env m X L σ ps h tk v σ' Q E g dr os S V ht ee H
  refine bd2 (evE_comp2.symm.trans ee) fun v0 σ1 e1 e => bdE e fun xs hx e => bd2 e fun vs σ2 e2' e3 => ?_
  refine comp_open G ok so hc hit hs S V ht e1 hx e3 H fun ps1 h1 tk1 x C I D o ob R p1 S1 hns it1 rv ht1 hR => ?_
  have hlim : vs.length ≤ LIM := gdE e3 fun h qq1 => h
  refine comp_outer G hc ok so tg tg2 hdis he2 he hs2 hx xs 0 L σ1 ps1 h1 tk1 ob o _ [] 0 [] vs σ2 rfl (Nat.zero_le _) S1 hns it1 .nil rv ht1 e2' (by simpa using hlim) fun ps' h' tk' o' mc' ys' n' p' S' hns' ra' ht' => ?_
  exact hR ps' h' tk' o' mc' ys' n' p' S' hns' (by simpa using ra') ht'
end
end PL
end
section
namespace PL
inductive FlR (hs : HS) : Fl → Flow → Prop
  | next : FlR hs .next .next
  | brk : FlR hs .brk .brk
  | cont : FlR hs .cont .cont
  | ret {v : V} {y : Value} : VR hs v y → FlR hs (.ret v) (.ret y)
theorem FlR.mono {hs hs' : HS} {fl : Fl} {f : Flow} (r : FlR hs fl f) (p : hs.Le hs') : FlR hs' fl f := by
  cases r with
  | next => exact .next
  | brk => exact .brk
  | cont => exact .cont
  | ret h => exact .ret (h.mono p)
abbrev HandS (W : Wd) (c : Fc) (X : List (Addr × Obj)) (hs : HS) (σ' : St) (L' : Loc) (fl : Fl) (g : Array GenState) (dr : Drawn) (os : OsState) (Q : Flow → Shared → Prop) : Prop :=
  ∀ m' ps' h' t' f, hs.Le (hds ps') → SR W c m' X σ' ps' h' → LR W.tb (hds ps') L' m' → FlR (hds ps') fl f → 1 ≤ t' → Q f ⟨h', g, dr, t', os⟩
structure OkS (W : Wd) (cx : Cx) (cs : Scope) (d : Nat) (s : PS) (st : Stmt) : Prop where
  h : ∀ (c : Fc), c.cs = cs → FOk W c d → ∀ {m : Str → Option Value} {X : List (Addr × Obj)} {L : Loc} {σ : St} {ps : PZ} {h : Heap} {tk : Nat} {fl : Fl} {L' : Loc} {σ' : St} {Q : Flow → Shared → Prop} {E : Value → Shared → Prop} {g : Array GenState} {dr : Drawn} {os : OsState} {z : Nat} {hz : HS},
    SR W c m X σ ps h → LR W.tb (hds ps) L m → 1 ≤ tk → hz.a.length = z → hz.Le (hds ps) → evS cx s z L σ = some (fl, L', σ') → HandS W c X hz σ' L' fl g dr os Q → wpAny (model W.prog W.w) c.A (exec st c.env) Q E ⟨h, g, dr, tk, os⟩
structure OkSs (W : Wd) (cx : Cx) (cs : Scope) (d : Nat) (ss : List PS) (sts : List Stmt) : Prop where
  h : ∀ (c : Fc), c.cs = cs → FOk W c d → ∀ {m : Str → Option Value} {X : List (Addr × Obj)} {L : Loc} {σ : St} {ps : PZ} {h : Heap} {tk : Nat} {fl : Fl} {L' : Loc} {σ' : St} {Q : Flow → Shared → Prop} {E : Value → Shared → Prop} {g : Array GenState} {dr : Drawn} {os : OsState} {z : Nat} {hz : HS},
    SR W c m X σ ps h → LR W.tb (hds ps) L m → 1 ≤ tk → hz.a.length = z → hz.Le (hds ps) → evSs cx ss z L σ = some (fl, L', σ') → HandS W c X hz σ' L' fl g dr os Q → wpAny (model W.prog W.w) c.A (execs sts c.env) Q E ⟨h, g, dr, tk, os⟩
theorem HandS.eq {W : Wd} {c : Fc} {X : List (Addr × Obj)} {hs : HS} {σ σ' : St} {L L' : Loc} {fl f : Fl} {g : Array GenState} {dr : Drawn} {os : OsState} {Q : Flow → Shared → Prop} (k : HandS W c X hs σ' L' fl g dr os Q) (e : some (f, L, σ) = some (fl, L', σ')) : HandS W c X hs σ L f g dr os Q := by cases e; exact k
section
variable {c : Cx} {L : Loc} {σ : St} {z : Nat}
theorem evSs_nil : evSs c [] z L σ = some (.next, L, σ) := rfl
theorem evSs_cons {s : PS} {r : List PS} : evSs c (s :: r) z L σ = (evS c s z L σ).bind fun (f, L1, σ1) => match f with | .next => evSs c r z L1 σ1 | f => some (f, L1, σ1) := rfl
theorem evS_expr {e : PE} : evS c (.expr e) z L σ = (evE c e L σ).map fun (_, σ1) => (.next, L, σ1) := rfl
theorem evS_assign {t : Tg} {e : PE} : evS c (.assign t e) z L σ = (evE c e L σ).bind fun (v, σ1) => (asgT c t v L σ1).map fun (L1, σ2) => (.next, L1, σ2) := rfl
theorem evS_assignT {ts : List Tg} {e : PE} : evS c (.assignT ts e) z L σ = (evE c e L σ).bind fun (v, σ1) => (itemsV c σ1 v).bind fun vs => (asgTs c ts vs L σ1).map fun (L1, σ2) => (.next, L1, σ2) := rfl
theorem evS_augL {i : Nat} {op : BOp} {e : PE} : evS c (.augL i op e) z L σ = (getK i L).bind fun a => (evE c e L σ).bind fun (b, σ1) => (iopV c op a b σ1).map fun (v, σ2) => (.next, putK i v L, σ2) := rfl
theorem evS_augA {o e : PE} {f : Nat} {op : BOp} : evS c (.augA o f op e) z L σ = (evE c o L σ).bind fun (ov, σ1) => (getAttrV c ov f σ1).bind fun (a, σ2) => (evE c e L σ2).bind fun (b, σ3) => (iopV c op a b σ3).bind fun (v, σ4) => (setAttrV c ov f v σ4).map fun s => (.next, L, s) := rfl
theorem evS_augS {o i e : PE} {op : BOp} : evS c (.augS o i op e) z L σ = (evE c o L σ).bind fun (ov, σ1) => (evE c i L σ1).bind fun (iv, σ2) => (subV c σ2 ov iv).bind fun a => (evE c e L σ2).bind fun (b, σ3) => (iopV c op a b σ3).bind fun (v, σ4) => (setSubV ov iv v σ4).map fun s => (.next, L, s) := rfl
theorem evS_ifs {t : PE} {b o : List PS} : evS c (.ifs t b o) z L σ = (evT c t L σ).bind fun (x, σ1) => match x with | true => evSs c b z L σ1 | false => evSs c o z L σ1 := rfl
theorem evS_ret {e : PE} : evS c (.ret e) z L σ = (evE c e L σ).map fun (v, σ1) => (.ret v, L, σ1) := rfl
theorem asgT_a {o : PE} {f : Nat} {v : V} : asgT c (.a o f) v L σ = (evE c o L σ).bind fun (ov, σ1) => (setAttrV c ov f v σ1).map fun s => (L, s) := rfl
theorem asgT_s {o i : PE} {v : V} : asgT c (.s o i) v L σ = (evE c o L σ).bind fun (ov, σ1) => (evE c i L σ1).bind fun (iv, σ2) => (setSubV ov iv v σ2).map fun s => (L, s) := rfl
end
section
variable {W : Wd} {cx : Cx} {cs : Scope} {d : Nat}
theorem okSs_nil : OkSs W cx cs d [] [] := by
  refine ⟨?_⟩
  intro c hc ok m X L σ ps h tk fl L' σ' Q E g dr os z hz S lr ht hl pz e H
  exact wpAny_execs_nil ((H.eq (evSs_nil.symm.trans e)) m ps h tk _ pz S lr .next ht)
theorem okSs_cons {s : PS} {st : Stmt} {ss : List PS} {sts : List Stmt} (hs : OkS W cx cs d s st) (hss : OkSs W cx cs d ss sts) : OkSs W cx cs d (s :: ss) (st :: sts) := by
  refine ⟨?_⟩
  intro c hc ok m X L σ ps h tk fl L' σ' Q E g dr os z hz S lr ht hl pz e H
  refine bd3 (evSs_cons.symm.trans e) fun f1 L1 σ1 e1 e2 => ?_
  refine wpAny_execs_cons (hs.1 c hc ok S lr ht hl pz e1 fun m1 ps1 h1 t1 ff p1 S1 lr1 fr1 ht1 => ?_)
  cases fr1 with
  | next => exact hss.1 c hc ok S1 lr1 ht1 hl p1 e2 H
  | brk => exact (H.eq e2) m1 ps1 h1 t1 _ p1 S1 lr1 .brk ht1
  | cont => exact (H.eq e2) m1 ps1 h1 t1 _ p1 S1 lr1 .cont ht1
  | ret hv => exact (H.eq e2) m1 ps1 h1 t1 _ p1 S1 lr1 (.ret hv) ht1
theorem okS_pass {pos : Pos} : OkS W cx cs d .pass (.Pass pos) := by
  refine ⟨?_⟩
  intro c hc ok m X L σ ps h tk fl L' σ' Q E g dr os z hz S lr ht hl pz e H
  exact wpAny_Pass ((H.eq e) m ps h tk _ pz S lr .next ht)
theorem okS_brk {pos : Pos} : OkS W cx cs d .brk (.Break pos) := by
  refine ⟨?_⟩
  intro c hc ok m X L σ ps h tk fl L' σ' Q E g dr os z hz S lr ht hl pz e H
  exact wpAny_Break ((H.eq e) m ps h tk _ pz S lr .brk ht)
theorem okS_cont {pos : Pos} : OkS W cx cs d .cont (.Continue pos) := by
  refine ⟨?_⟩
  intro c hc ok m X L σ ps h tk fl L' σ' Q E g dr os z hz S lr ht hl pz e H
  exact wpAny_Continue ((H.eq e) m ps h tk _ pz S lr .cont ht)
theorem okS_ret {e : PE} {x : PySem.Expr} {pos : Pos} (he : OkE W cx cs none d e x) : OkS W cx cs d (.ret e) (.Return (some x) pos) := by
  refine ⟨?_⟩
  intro c hc ok m X L σ ps h tk fl L' σ' Q E g dr os z hz S lr ht hl pz ee H
  refine mp2 (evS_ret.symm.trans ee) fun v σ1 e1 e => ?_
  exact wpAny_Return_some (he.1 c hc ok S ⟨rfl, lr⟩ ht e1 fun ps1 h1 t1 y1 p1 S1 r1 ht1 => (H.eq e) m ps1 h1 t1 _ (pz.trans p1) S1 (lr.mono p1) (.ret r1) ht1)
theorem okS_expr {e : PE} {x : PySem.Expr} {pos : Pos} (he : OkE W cx cs none d e x) (hs : ∀ env, swapsWith x none pos.line env = pure false) : OkS W cx cs d (.expr e) (.Expr x pos) := by
  refine ⟨?_⟩
  intro c hc ok m X L σ ps h tk fl L' σ' Q E g dr os z hz S lr ht hl pz ee H
  refine mp2 (evS_expr.symm.trans ee) fun v σ1 e1 e => ?_
  refine wpAny_Expr_any (he.1 c hc ok S ⟨rfl, lr⟩ ht e1 fun ps1 h1 t1 y1 p1 S1 r1 ht1 => (H.eq e) m ps1 h1 t1 _ (pz.trans p1) S1 (lr.mono p1) .next ht1) ?_ (hs _)
  show (c.cs.kind == .module && _) = false
  rw [ok.kind]; rfl
structure OkTg (W : Wd) (cx : Cx) (cs : Scope) (d : Nat) (t : Tg) (x : PySem.Expr) : Prop where
  h : ∀ (c : Fc), c.cs = cs → FOk W c d → ∀ {m : Str → Option Value} {X : List (Addr × Obj)} {L : Loc} {σ : St} {ps : PZ} {h : Heap} {tk : Nat} {v : V} {y : Value} {L' : Loc} {σ' : St} {Q : Unit → Shared → Prop} {E : Value → Shared → Prop} {g : Array GenState} {dr : Drawn} {os : OsState},
    SR W c m X σ ps h → LR W.tb (hds ps) L m → VR (hds ps) v y → 1 ≤ tk → asgT cx t v L σ = some (L', σ') →
    (∀ m' ps' h' t', (hds ps).Le (hds ps') → SR W c m' X σ' ps' h' → LR W.tb (hds ps') L' m' → 1 ≤ t' → Q () ⟨h', g, dr, t', os⟩) → wpAny (model W.prog W.w) c.A (assign x c.env y) Q E ⟨h, g, dr, tk, os⟩
theorem okTg_l (G : GOk W cx d) {i : Nat} {x : Str} {p : Pos} (hi : W.tb[i]? = some x) (hk : cs.names.lookup x = some .local) : OkTg W cx cs d (.l i) (.Name x p) := by
  refine ⟨?_⟩
  intro c hc ok m X L σ ps h tk v y L' σ' Q E g dr os S lr rv ht e H
  obtain ⟨rfl, rfl⟩ := Prod.mk.inj (Option.some.inj e)
  subst hc
  rw [arm_assign_Name]
  exact wpAny_bind (wpAny_standAt (wpAny_bindName (store_fn G.co.nd S lr hi rv hk ok.kind fun m' h' S' lr' => H m' ps h' _ (.rfl) S' lr' (tk1 1 ht))))
theorem okTg_a (G : GOk W cx d) {o : PE} {f : Nat} {x : PySem.Expr} {nm : Str} {p : Pos} (hn : W.tb[f]? = some nm) (ho : OkE W cx cs none d o x) : OkTg W cx cs d (.a o f) (.Attribute x nm p) := by
  refine ⟨?_⟩
  intro c hc ok m X L σ ps h tk v y L' σ' Q E g dr os S lr rv ht e H
  refine bd2 (asgT_a.symm.trans e) fun ov σ1 e1 e => mp0 e fun s e2 e3 => ?_
  obtain ⟨rfl, rfl⟩ := Prod.mk.inj (Option.some.inj e3)
  rw [arm_assign_Attribute]
  refine wpAny_bind (wpAny_holding (ho.1 c hc ok S ⟨rfl, lr⟩ ht e1 fun ps1 h1 t1 y1 p1 S1 r1 ht1 => wpAny_bind (wpAny_standAt (wpAny_bind (wpAny_holding ?_)))))
  refine setAttr_ok G.co S1 ok.X hn r1 (rv.mono p1) e2 ht1 fun ps2 h2 t2 he S2 ht2 => wpAny_release ?_
  exact H m ps2 h2 t2 (by rw [he]; exact p1) S2 (by rw [he]; exact lr.mono p1) ht2
theorem okTg_s (G : GOk W cx d) {o i : PE} {x y : PySem.Expr} {p : Pos} (ho : OkE W cx cs none d o x) (hi : OkE W cx cs none d i y) : OkTg W cx cs d (.s o i) (.Subscript x y p) := by
  refine ⟨?_⟩
  intro c hc ok m X L σ ps h tk v z L' σ' Q E g dr os S lr rv ht e H
  refine bd2 (asgT_s.symm.trans e) fun ov σ1 e1 e => bd2 e fun iv σ2 e2 e => mp0 e fun s e3 e4 => ?_
  obtain ⟨rfl, rfl⟩ := Prod.mk.inj (Option.some.inj e4)
  rw [arm_assign_Subscript]
  refine wpAny_bind (wpAny_holding (ho.1 c hc ok S ⟨rfl, lr⟩ ht e1 fun ps1 h1 t1 y1 p1 S1 r1 ht1 => wpAny_bind (wpAny_holding (hi.1 c hc ok S1 ⟨rfl, lr.mono p1⟩ ht1 e2 fun ps2 h2 t2 y2 p2 S2 r2 ht2 => wpAny_bind (wpAny_standAt (wpAny_bind (wpAny_holding ?_)))))))
  refine setSub_ok S2 (r1.mono p2) r2 (rv.mono (p1.trans p2)) e3 ht2 fun ps3 h3 t3 he S3 ht3 => wpAny_release ?_
  exact H m ps3 h3 t3 (by rw [he]; exact p1.trans p2) S3 (by rw [he]; exact lr.mono (p1.trans p2)) ht3
theorem okS_assign {t : Tg} {e : PE} {x y : PySem.Expr} {pos : Pos} (ht' : OkTg W cx cs d t x) (he : OkE W cx cs none d e y) (hs : ∀ env, swapsWithSole [x] y pos.line env = pure false) (hw : ∀ env, swappedStores [x] y env = pure none)
    (ha : ∀ env, assignEach [x] env = [(false, assign x env)]) : OkS W cx cs d (.assign t e) (.Assign [x] y pos) := by
  refine ⟨?_⟩
  intro c hc ok m X L σ ps h tk fl L' σ' Q E g dr os z hz S lr ht hl pz ee H
  refine bd2 (evS_assign.symm.trans ee) fun v σ1 e1 e => mp2 e fun L1 σ2 e2 e => ?_
  refine wpAny_Assign_stores (he.1 c hc ok S ⟨rfl, lr⟩ ht e1 fun ps1 h1 t1 y1 p1 S1 r1 ht1 => ?_) (hs _) (hw _)
  rw [ha]
  exact ht'.1 c hc ok S1 (lr.mono p1) r1 ht1 e2 fun m2 ps2 h2 t2 p2 S2 lr2 ht2 => (H.eq e) m2 ps2 h2 t2 _ (pz.trans (p1.trans p2)) S2 lr2 .next ht2
theorem asgTs_ok (G : GOk W cx d) {ts : List Tg} {xs : List PySem.Expr} (r : All2 (OkTg W cx cs d) ts xs) (c : Fc) (hc : c.cs = cs) (ok : FOk W c d) : ∀ {m : Str → Option Value} {X : List (Addr × Obj)} {L : Loc} {σ : St} {ps : PZ} {h : Heap} {tk : Nat} {vs : List V} {ys : List Value} {L' : Loc} {σ' : St} {Q : Unit → Shared → Prop} {E : Value → Shared → Prop} {g : Array GenState} {dr : Drawn} {os : OsState},
    SR W c m X σ ps h → LR W.tb (hds ps) L m → All2 (VR (hds ps)) vs ys → 1 ≤ tk → asgTs cx ts vs L σ = some (L', σ') →
    (∀ m' ps' h' t', (hds ps).Le (hds ps') → SR W c m' X σ' ps' h' → LR W.tb (hds ps') L' m' → 1 ≤ t' → Q () ⟨h', g, dr, t', os⟩) → wpAny (model W.prog W.w) c.A (assignInOrder (xs.map fun e => assign e c.env) ys) Q E ⟨h, g, dr, tk, os⟩ := by
  induction r with
  | nil =>
    intro m X L σ ps h tk vs ys L' σ' Q E g dr os S lr rv ht e H
    cases rv with
    | nil =>
      obtain ⟨rfl, rfl⟩ := Prod.mk.inj (Option.some.inj e)
      exact wpAny_pure (H m ps h tk .rfl S lr ht)
    | cons _ _ => exact noE e
  | @cons t x ts xs h0 _ ih =>
    intro m X L σ ps h tk vs ys L' σ' Q E g dr os S lr rv ht e H
    cases rv with
    | nil => exact noE e
    | @cons v y vs ys h1 h2 =>
      refine bd2 (show (asgT cx t v L σ).bind _ = _ from e) fun L1 σ1 e1 e2 => ?_
      show wpAny _ c.A (holding ys (assign x c.env y) >>= fun qq1 => assignInOrder (xs.map fun e => assign e c.env) ys) Q E _
      refine wpAny_bind (wpAny_holding (h0.1 c hc ok S lr h1 ht e1 fun m1 ps1 h1' t1 p1 S1 lr1 ht1 => ?_))
      exact ih S1 lr1 (h2.mono fun qq1 qq2 z => z.mono p1) ht1 e2 fun m2 ps2 h2 t2 p2 S2 lr2 ht2 => H m2 ps2 h2 t2 (p1.trans p2) S2 lr2 ht2
theorem okS_assignT (G : GOk W cx d) {ts : List Tg} {e : PE} {elts : List PySem.Expr} {n : Nat} {tp : Pos} {y : PySem.Expr} {pos : Pos} (r : All2 (OkTg W cx cs d) ts elts) (he : OkE W cx cs none d e y) (hs : ∀ env, swapsWithSole [.Tuple elts n tp] y pos.line env = pure false) (hw : ∀ env, swappedStores [.Tuple elts n tp] y env = pure none)
    (ha : ∀ env, assignEach elts env = elts.map fun e => (false, assign e env)) : OkS W cx cs d (.assignT ts e) (.Assign [.Tuple elts n tp] y pos) := by
  refine ⟨?_⟩
  intro c hc ok m X L σ ps h tk fl L' σ' Q E g dr os z hz S lr ht hl pz ee H
  refine bd2 (evS_assignT.symm.trans ee) fun v σ1 e1 e => bdE e fun vs e2 e => mp2 e fun L1 σ2 e3 e => ?_
  refine Assign_Tuple (he.1 c hc ok S ⟨rfl, lr⟩ ht e1 fun ps1 h1 t1 y1 p1 S1 r1 ht1 => ?_) (hs _) (hw _)
  have len : elts.length = vs.length := by
    have key : ∀ {ts : List Tg} {vs : List V} {L : Loc} {σ : St} {r : Loc × St}, asgTs cx ts vs L σ = some r → ts.length = vs.length := by
      intro ts
      induction ts with
      | nil => intro vs L σ r e; cases vs with
        | nil => rfl
        | cons _ _ => exact noE e
      | cons a q ih => intro vs L σ r e; cases vs with
        | nil => exact noE e
        | cons b q' => exact bd2 (show (asgT cx a b L σ).bind _ = _ from e) fun qq1 qq2 qq3 e => congrArg Nat.succ (ih e)
    rw [← key e3, r.len]
  rw [arm_assign_Tuple]
  refine wpAny_bind (wpAny_standAt ?_)
  unfold unpack
  rw [ha]
  have l1 : (elts.map fun e => (false, assign e c.env)).length = vs.length := by rw [List.length_map, len]
  have l2 : (elts.map fun e => (false, assign e c.env)).findIdx? (·.1) = none := by
    rw [List.findIdx?_eq_none_iff]; intro x hx; obtain ⟨a, _, rfl⟩ := List.mem_map.mp hx; rfl
  have l3 : (elts.map fun e => (false, assign e c.env)).map (·.2) = elts.map fun e => assign e c.env := by rw [List.map_map]; rfl
  rw [l1, l2, l3]
  refine wpAny_bind (wpAny_holding (unpackItems_ok G ok S1 r1 e2 ht1 ok.hh fun h' tk' ys S' rys ht' => ?_))
  exact asgTs_ok G r c hc ok S' (lr.mono p1) rys ht' e3 fun m2 ps2 h2 t2 p2 S2 lr2 ht2 => (H.eq e) m2 ps2 h2 t2 _ (pz.trans (p1.trans p2)) S2 lr2 .next ht2
theorem okS_augL (G : GOk W cx d) {i : Nat} {op : BOp} {e : PE} {x : Str} {y : PySem.Expr} {p pos : Pos} (ho : op = .add ∨ op = .sub) (hi : W.tb[i]? = some x) (hk : cs.names.lookup x = some .local) (he : OkE W cx cs none d e y) : OkS W cx cs d (.augL i op e) (.AugAssign (.Name x p) (opB op) y pos) := by
  refine ⟨?_⟩
  intro c hc ok m X L σ ps h tk fl L' σ' Q E g dr os z hz S lr ht hl pz ee H
  refine bdE (evS_augL.symm.trans ee) fun a e0 e => bd2 e fun b σ1 e1 e => mp2 e fun v σ2 e2 e => ?_
  subst hc
  obtain ⟨x', ya, h1, h2, h3⟩ := lr i a e0
  obtain rfl := Option.some.inj (h1.symm.trans hi)
  refine wpAny_AugAssign_Name (wpAny_loadName_local (m := m) ok.kind hk S.F.ns h2 (he.1 c rfl ok S ⟨rfl, lr⟩ ht e1 fun ps1 h1 t1 y1 p1 S1 r1 ht1 => ?_))
  refine iop_ok S1 ho (h3.mono p1) r1 e2 ht1 fun ps2 h2 t2 y2 p2 S2 r2 ht2 => ?_
  exact store_fn G.co.nd S2 ((lr.mono p1).mono p2) hi r2 hk ok.kind fun m' h' S' lr' => (H.eq e) m' ps2 h' _ _ (pz.trans (p1.trans p2)) S' lr' .next (tk1 1 ht2)
theorem okS_augA (G : GOk W cx d) {o : PE} {f : Nat} {op : BOp} {e : PE} {x y : PySem.Expr} {nm : Str} {p pos : Pos} (hop : op = .add ∨ op = .sub) (hn : W.tb[f]? = some nm) (ho : OkE W cx cs none d o x) (he : OkE W cx cs none d e y) : OkS W cx cs d (.augA o f op e) (.AugAssign (.Attribute x nm p) (opB op) y pos) := by
  refine ⟨?_⟩
  intro c hc ok m X L σ ps h tk fl L' σ' Q E g dr os z hz S lr ht hl pz ee H
  refine bd2 (evS_augA.symm.trans ee) fun ov σ1 e1 e => bd2 e fun a σ2 e2 e => bd2 e fun b σ3 e3 e => bd2 e fun v σ4 e4 e => mp0 e fun s e5 e => ?_
  refine wpAny_AugAssign_AttributeAny (ho.1 c hc ok S ⟨rfl, lr⟩ ht e1 fun ps1 h1 t1 y1 p1 S1 r1 ht1 => ?_)
  refine getAttr_ok G.so G.co S1 ok.X hn r1 e2 ht1 fun ps2 h2 t2 y2 p2 S2 r2 ht2 => ?_
  refine he.1 c hc ok S2 ⟨rfl, (lr.mono p1).mono p2⟩ ht2 e3 fun ps3 h3 t3 y3 p3 S3 r3 ht3 => ?_
  refine iop_ok S3 hop (r2.mono p3) r3 e4 ht3 fun ps4 h4 t4 y4 p4 S4 r4 ht4 => ?_
  refine setAttr_ok G.co S4 ok.X hn (r1.mono ((p2.trans p3).trans p4)) r4 e5 ht4 fun ps5 h5 t5 he S5 ht5 => ?_
  exact (H.eq e) m ps5 h5 t5 _ (by rw [he]; exact pz.trans (((p1.trans p2).trans p3).trans p4)) S5 (by rw [he]; exact lr.mono (((p1.trans p2).trans p3).trans p4)) .next ht5
theorem okS_augS (G : GOk W cx d) {o i : PE} {op : BOp} {e : PE} {x y z : PySem.Expr} {p pos : Pos} (hop : op = .add ∨ op = .sub) (ho : OkE W cx cs none d o x) (hi : OkE W cx cs none d i y) (he : OkE W cx cs none d e z)
    (hst : ∀ ov iv new, augStore y ov iv new = (do holding [new, ov, iv] (setItem ov iv new); release [new, ov, iv] []; pure .next)) : OkS W cx cs d (.augS o i op e) (.AugAssign (.Subscript x y p) (opB op) z pos) := by
  refine ⟨?_⟩
  intro c hc ok m X L σ ps h tk fl L' σ' Q E g dr os z hz S lr ht hl pz ee H
  refine bd2 (evS_augS.symm.trans ee) fun ov σ1 e1 e => bd2 e fun iv σ2 e2 e => bdE e fun a e3 e => bd2 e fun b σ3 e4 e => bd2 e fun v σ4 e5 e => mp0 e fun s e6 e => ?_
  refine wpAny_AugAssign_SubscriptAny (ho.1 c hc ok S ⟨rfl, lr⟩ ht e1 fun ps1 h1 t1 y1 p1 S1 r1 ht1 => ?_) hst
  refine hi.1 c hc ok S1 ⟨rfl, lr.mono p1⟩ ht1 e2 fun ps2 h2 t2 y2 p2 S2 r2 ht2 => ?_
  refine sub_ok G.so S2 (S2.K ok) (r1.mono p2) r2 e3 ht2 fun ps3 h3 t3 y3 p3 S3 r3 ht3 => ?_
  refine he.1 c hc ok S3 ⟨rfl, (lr.mono (p1.trans p2)).mono p3⟩ ht3 e4 fun ps4 h4 t4 y4 p4 S4 r4 ht4 => ?_
  refine iop_ok S4 hop (r3.mono p4) r4 e5 ht4 fun ps5 h5 t5 y5 p5 S5 r5 ht5 => ?_
  refine setSub_ok S5 (r1.mono (((p2.trans p3).trans p4).trans p5)) (r2.mono ((p3.trans p4).trans p5)) r5 e6 ht5 fun ps6 h6 t6 he S6 ht6 => ?_
  exact (H.eq e) m ps6 h6 t6 _ (by rw [he]; exact pz.trans ((((p1.trans p2).trans p3).trans p4).trans p5)) S6 (by rw [he]; exact lr.mono ((((p1.trans p2).trans p3).trans p4).trans p5)) .next ht6
theorem okS_if {t : PE} {b o : List PS} {x : PySem.Expr} {bs os' : List Stmt} {pos : Pos} (ht' : OkT W cx cs none d t x) (hb : OkSs W cx cs d b bs) (ho : OkSs W cx cs d o os') : OkS W cx cs d (.ifs t b o) (.If x bs os' pos) := by
  refine ⟨?_⟩
  intro c hc ok m X L σ ps h tk fl L' σ' Q E g dr os z hz S lr ht hl pz ee H
  refine bd2 (evS_ifs.symm.trans ee) fun bb σ1 e1 e2 => ?_
  refine wpAny_If (ht'.1 c hc ok S ⟨rfl, lr⟩ ht e1 fun ps1 h1 t1 p1 S1 ht1 => ?_)
  cases bb with
  | true => exact hb.1 c hc ok S1 (lr.mono p1) ht1 hl (pz.trans p1) e2 H
  | false => exact ho.1 c hc ok S1 (lr.mono p1) ht1 hl (pz.trans p1) e2 H
end
end PL
end
section
namespace PL
section
variable {c : Cx} {L : Loc} {σ : St} {z : Nat}
theorem evS_whiles {t : PE} {b : List PS} : evS c (.whiles t b) z L σ = whileL (fun L s => evT c t L s) (fun L s => evSs c b z L s) c.fuel L σ := rfl
theorem evS_fors {t : Ft} {it : PE} {b : List PS} : evS c (.fors t it b) z L σ = (evE c it L σ).bind fun (v, σ1) => (iterV c σ1 v).bind fun xs => forL (fun v L s => bindFt c s t v L) (fun s => stillV c σ1 s v) (fun L s => evSs c b σ1.length L s) xs L σ1 := rfl
theorem whileL_succ {test : Loc → St → Option (Bool × St)} {body : Loc → St → Option (Fl × Loc × St)} {n : Nat} : whileL test body (n + 1) L σ = (test L σ).bind fun (b, σ1) => match b with
    | false => some (.next, L, σ1)
    | true => (body L σ1).bind fun (f, L2, σ2) => match f with
      | .brk => some (.next, L2, σ2)
      | .ret v => some (.ret v, L2, σ2)
      | _ => whileL test body n L2 σ2 := rfl
theorem forL_nil {bind : V → Loc → St → Option Loc} {still : St → Bool} {body : Loc → St → Option (Fl × Loc × St)} : forL bind still body [] L σ = if still σ then some (.next, L, σ) else none := rfl
theorem forL_cons {bind : V → Loc → St → Option Loc} {still : St → Bool} {body : Loc → St → Option (Fl × Loc × St)} {v : V} {vs : List V} : forL bind still body (v :: vs) L σ = if still σ then
      (bind v L σ).bind fun L1 => (body L1 σ).bind fun (f, L2, σ2) => match f with
        | .brk => some (.next, L2, σ2)
        | .ret v => some (.ret v, L2, σ2)
        | _ => forL bind still body vs L2 σ2
    else none := rfl
end
section
variable {W : Wd} {cx : Cx} {cs : Scope} {d : Nat}
inductive WhI (W : Wd) (cx : Cx) (c : Fc) (X : List (Addr × Obj)) (hz : HS) (g : Array GenState) (dr : Drawn) (os : OsState) (t : PE) (b : List PS) (z : Nat) (r : Fl × Loc × St) (n : Nat) : Shared → Prop
  | mk (m : Str → Option Value) (L : Loc) (σ : St) (ps : PZ) (h : Heap) (tk : Nat) : SR W c m X σ ps h → LR W.tb (hds ps) L m → 1 ≤ tk → hz.Le (hds ps) → whileL (fun L s => evT cx t L s) (fun L s => evSs cx b z L s) n L σ = some r → WhI W cx c X hz g dr os t b z r n ⟨h, g, dr, tk, os⟩
theorem okS_while {t : PE} {b : List PS} {x : PySem.Expr} {bs : List Stmt} {pos : Pos} (ht' : OkT W cx cs none d t x) (hb : OkSs W cx cs d b bs) : OkS W cx cs d (.whiles t b) (.While x bs [] pos) := by
  refine ⟨?_⟩
  intro c hc ok m X L σ ps h tk fl L' σ' Q E g dr os z hz S lr ht hl pz ee H
  refine wpAny_While ?_
  refine codeAny_whileLoop (fun n s => WhI W cx c X hz g dr os t b z (fl, L', σ') n s) (fun n s I => ?_) cx.fuel (.mk m L σ ps h tk S lr ht pz (evS_whiles.symm.trans ee))
  cases I with
  | mk m1 L1 σ1 ps1 h1 tk1 S1 lr1 ht1 p1 e1 =>
  cases n with
  | zero => exact noE e1
  | succ n =>
    refine bd2 (whileL_succ.symm.trans e1) fun bb σ2 e2 e3 => ?_
    refine ht'.1 c hc ok S1 ⟨rfl, lr1⟩ ht1 e2 fun ps2 h2 t2 p2 S2 ht2 => ?_
    cases bb with
    | false => exact wpAny_execs_nil ((H.eq e3) m1 ps2 h2 t2 _ (p1.trans p2) S2 (lr1.mono p2) .next ht2)
    | true =>
      refine bd3 e3 fun f3 L3 σ3 e4 e5 => ?_
      refine hb.1 c hc ok S2 (lr1.mono p2) ht2 hl (p1.trans p2) e4 fun m3 ps3 h3 t3 ff p3 S3 lr3 fr3 ht3 => ?_
      cases fr3 with
      | next => exact ⟨n, Nat.lt_succ_self _, .mk m3 L3 σ3 ps3 h3 t3 S3 lr3 ht3 p3 e5⟩
      | cont => exact ⟨n, Nat.lt_succ_self _, .mk m3 L3 σ3 ps3 h3 t3 S3 lr3 ht3 p3 e5⟩
      | brk => exact (H.eq e5) m3 ps3 h3 t3 _ (p3) S3 lr3 .next ht3
      | ret hv => exact (H.eq e5) m3 ps3 h3 t3 _ (p3) S3 lr3 (.ret hv) ht3
noncomputable def Zfn (W : Wd) (ps : PZ) (X : List (Addr × Obj)) : Zf := fun L B m' X' => X' = X ∧ LR W.tb (hds ps) L m'
theorem store_f {c : Fc} {σ : St} {ps : PZ} {X : List (Addr × Obj)} (nd : W.tb.Nodup) (hf : c.cs.kind = .function) : StoreOk W c σ ps c.env c.cs.names (Zfn W ps X) := by
  intro i x v y L B m' X' h g dr tk os A Q E hi hl rv S z k
  obtain ⟨rfl, lr⟩ := z
  exact store_fn nd S lr hi rv hl hf fun m2 h2 S2 lr2 => k m2 _ h2 S2 ⟨rfl, lr2⟩
inductive FoI (W : Wd) (cx : Cx) (c : Fc) (X : List (Addr × Obj)) (h0 : HS) (g : Array GenState) (dr : Drawn) (os : OsState) (t : Ft) (b : List PS) (σ0 : St) (v : V) (x : Value) (xs : List V) (I : Addr) (r : Fl × Loc × St) : Nat → Shared → Prop
  | mk (i : Nat) (rest : List V) (m : Str → Option Value) (L : Loc) (σ : St) (ps : PZ) (h : Heap) (tk : Nat) (ob : Obj) : xs.drop i = rest → i ≤ xs.length → SR W c m ((I, ob) :: X) σ ps h → LR W.tb (hds ps) L m → ItOb W cx σ0 v x i ob → 1 ≤ tk → h0.Le (hds ps) →
      forL (fun v L s => bindFt cx s t v L) (fun s => stillV cx σ0 s v) (fun L s => evSs cx b σ0.length L s) rest L σ = some r → FoI W cx c X h0 g dr os t b σ0 v x xs I r (rest.length + 1) ⟨h, g, dr, tk, os⟩
theorem drop_at {xs rest : List V} {u : V} {i : Nat} (hd : xs.drop i = u :: rest) : xs[i]? = some u ∧ xs.drop (i + 1) = rest := by
  refine ⟨?_, by rw [← List.drop_drop, hd]; rfl⟩
  have : (xs.drop i)[0]? = some u := by rw [hd]; rfl
  rwa [List.getElem?_drop] at this
theorem okS_for (G : GOk W cx d) {t : Ft} {e : PE} {b : List PS} {target iter : PySem.Expr} {bs : List Stmt} {pos : Pos} (tg : TgOk W cs.names t target) (he : OkE W cx cs none d e iter) (hb : OkSs W cx cs d b bs) (hs : ∀ env x, foldedSetIterable iter env x = pure x) :
    OkS W cx cs d (.fors t e b) (.For target iter bs [] pos) := by
  refine ⟨?_⟩
  intro c hc ok m X L σ ps h tk fl L' σ' Q E g dr os z hz S lr ht hlz pz ee H
  subst hc
  refine bd2 (evS_fors.symm.trans ee) fun v σ0 e1 e => bdE e fun xs hx e2 => ?_
  refine wpAny_For (he.1 c rfl ok S ⟨rfl, lr⟩ ht e1 fun ps0 h0 t0 x p0 S0 r0 ht0 => ?_) (hs _)
  refine it_new G ok S0 r0 hx fun I ob h1 it1 S1 => ?_
  refine codeAny_forLoop_any (fun n s => FoI W cx c X (hds ps0) g dr os t b σ0 v x xs I (fl, L', σ') n s) (fun n s J => ?_) (xs.length + 1) (.mk 0 xs m L σ0 ps0 h1 t0 ob rfl (Nat.zero_le _) S1 (lr.mono p0) it1 ht0 .rfl e2)
  cases J with
  | mk i rest m1 L1 σ1 ps1 h1 tk1 ob1 hd hi S1 lr1 it1 ht1 p1 e3 =>
  have rv := r0.mono p1
  cases rest with
  | nil =>
    refine gdE (forL_nil.symm.trans e3) fun hst e3 => it_end (P := []) G ok S1 rv ((iter_still hst).trans hx) (it1.still hst) (List.getElem?_eq_none (List.drop_eq_nil_iff.mp hd)) hi ok.hh fun h' S' => ?_
    exact wpAny_execs_nil ((H.eq e3) m1 ps1 h' tk1 _ (pz.trans (p0.trans p1)) S' lr1 .next ht1)
  | cons u rest =>
    refine gdE (forL_cons.symm.trans e3) fun hst e3 => bdE e3 fun L2 b1 e3 => bd3 e3 fun f2 L3 σ3 e4 e5 => ?_
    have hu := drop_at hd
    refine it_next (P := []) G ok S1 rv ((iter_still hst).trans hx) (it1.still hst) hu.1 ht1 fun ob2 h2 y2 tk2 it2 S2 ry2 ht2 => ?_
    have S2' : SR W c m1 ((I, ob2) :: X) σ1 ps1 h2 := S2
    refine it_go it2 (S2'.N (I, ob2) (List.mem_append_right _ (.head _))).1 ?_
    refine bind_ok (Z := Zfn W ps1 ((I, ob2) :: X)) G ok (store_f G.co.nd ok.kind) tg (B := []) S2' ⟨rfl, lr1⟩ ry2 b1 ht2 ok.hh fun m3 X3 h3 tk3 S3 z3 ht3 => ?_
    obtain ⟨rfl, lr3⟩ := z3
    refine hb.1 c rfl ok S3 lr3 ht3 (hds_len.trans S0.len.symm) p1 e4 fun m4 ps4 h4 t4 ff p4 S4 lr4 fr4 ht4 => ?_
    have I4 : forL (fun v L s => bindFt cx s t v L) (fun s => stillV cx σ0 s v) (fun L s => evSs cx b σ0.length L s) rest L3 σ3 = some (fl, L', σ') → ∃ n, n < rest.length + 1 + 1 ∧ FoI W cx c X (hds ps0) g dr os t b σ0 v x xs I (fl, L', σ') n ⟨h4, g, dr, t4, os⟩ := fun e5 =>
      ⟨_, Nat.lt_succ_self _, .mk (i + 1) rest m4 L3 σ3 ps4 h4 t4 ob2 hu.2 (List.getElem?_eq_some_iff.mp hu.1).1 S4 lr4 (it2.still (still_sym hst)) ht4 p4 e5⟩
    cases fr4 with
    | next => exact I4 e5
    | cont => exact I4 e5
    | brk => exact (H.eq e5) m4 ps4 h4 t4 _ (pz.trans (p0.trans p4)) (S4.dropX (P := []) fun qq1 qq2 qq3 e => e) lr4 .next ht4
    | ret hv => exact (H.eq e5) m4 ps4 h4 t4 _ (pz.trans (p0.trans p4)) (S4.dropX (P := []) fun qq1 qq2 qq3 e => e) lr4 (.ret hv) ht4
end
noncomputable def PZ.gc (ps : PZ) (σ : St) (n : Nat) : PZ := ⟨ps.p.take n, ps.zl ++ (ps.p.drop n).flatten, fun o A => ps.z o A ∨ ∃ a k ob, n ≤ a ∧ σ[a]? = some ob ∧ (hds ps).a[a]? = some A ∧ frzO (rz σ n k) ob = .frz o⟩
theorem All2.mapl {α β γ : Type} {R : α → β → Prop} {S : γ → β → Prop} {f : α → γ} {l : List α} {m : List β} (h : All2 R l m) (k : ∀ a b, R a b → S (f a) b) : All2 S (l.map f) m := by
  induction h with
  | nil => exact .nil
  | cons h _ ih => exact .cons (k _ _ h) ih
theorem map_fst {α β γ : Type} {f : β → γ} (l : List (α × β)) : (l.map fun p => (p.1, f p.2)).map (·.1) = l.map (·.1) := by rw [List.map_map]; rfl
section
variable {W : Wd} {c : Fc} {m : Str → Option Value} {X : List (Addr × Obj)} {σ : St} {ps : PZ} {h : Heap} {n : Nat} {v : V} {x : Value}
theorem vr_rz {k : Nat} (r : VR (hds ps) v x) : VR ⟨[], (ps.gc σ n).z⟩ (rz σ n k v) x := by
  cases r with
  | none => cases k <;> exact .none
  | bool b => cases k <;> exact .bool b
  | int i t => cases k <;> exact .int i t
  | str s t h => cases k <;> exact .str s t h
  | sref a => cases k <;> exact .sref a
  | frz z => cases k <;> exact .frz (.inl z)
  | bad A => cases k <;> exact .bad A
  | @ref a A hA =>
    cases k with
    | zero => exact .bad A
    | succ k =>
      show VR _ (bif Nat.ble n a then (match σ[a]? with | some o => frzO (rz σ n k) o | none => .bad) else .bad) _
      cases hb : Nat.ble n a with
      | false => exact .bad A
      | true =>
        cases ho : σ[a]? with
        | none => exact .bad A
        | some ob =>
          show VR _ (frzO (rz σ n k) ob) _
          cases hf : frzO (rz σ n k) ob with
          | frz o => exact .frz (.inr ⟨a, k, ob, Nat.le_of_ble_eq_true hb, ho, hA, hf⟩)
          | bad => exact .bad A
          | _ => cases ob <;> cases hf
theorem gc_le : HS.Le ⟨[], (ps.gc σ n).z⟩ (hds (ps.gc σ n)) := ⟨⟨_, rfl⟩, fun qq1 qq2 h => h⟩
theorem vr_rv (r : VR (hds ps) v x) : VR (hds (ps.gc σ n)) (rv σ n v) x := by
  cases r with
  | none => exact .none
  | bool b => exact .bool b
  | int i t => exact .int i t
  | str s t h => exact .str s t h
  | sref a => exact .sref a
  | frz z => exact .frz (.inl z)
  | bad A => exact .bad A
  | @ref a A hA =>
    show VR _ (bif Nat.blt a n then .ref a else rz σ n 6 (.ref a)) _
    cases hb : Nat.blt a n with
    | false => exact (vr_rz (.ref hA)).mono gc_le
    | true =>
      refine .ref ?_
      show ((ps.p.take n).map hd1)[a]? = _
      rw [List.map_take, List.getElem?_take_of_lt (Nat.le_of_ble_eq_true hb)]
      exact hA
theorem or_map {hs hs' : HS} {f : V → V} (k : ∀ {v x}, VR hs v x → VR hs' (f v) x) {o : O} {part : Part} (r : ORel W.prog W.w W.tb hs o part) : ORel W.prog W.w W.tb hs' (oMap f o) part := by
  cases r with
  | list h1 h2 => exact .list (h1.mapl fun qq1 qq2 => k) (by rw [List.length_map]; exact h2)
  | tuple h1 h2 => exact .tuple (h1.mapl fun qq1 qq2 => k) (by rw [List.length_map]; exact h2)
  | dict h1 h2 h3 h4 => exact .dict h1 (h2.mapl fun qq1 qq2 z => ⟨z.1, k z.2⟩) (by rw [List.length_map]; exact h3) h4
  | inst h1 h2 h3 => exact .inst (h1.mapl fun _ _ ⟨x, t, q1, q2, q3⟩ => ⟨x, t, q1, q2, k q3⟩) (by rw [map_fst]; exact h2) (by rw [List.length_map]; exact h3)
  | meth h1 => exact .meth (k h1)
  | rng => exact .rng
theorem or_frz {hs hs' : HS} {f : V → V} (k : ∀ {v x}, VR hs v x → VR hs' (f v) x) {o ob : O} {part : Part} (r : ORel W.prog W.w W.tb hs ob part) (e : frzO f ob = .frz o) : ORel W.prog W.w W.tb hs' o part := by
  have z := or_map k r
  cases ob with
  | list => cases e; exact z
  | tuple => cases e; exact z
  | dict => cases e; exact z
  | _ => cases e
theorem gc_perm : ((ps.gc σ n).flatten ++ X).Perm (ps.flatten ++ X) := by
  refine List.Perm.append_right _ ?_
  show ((ps.p.take n).flatten ++ (ps.zl ++ (ps.p.drop n).flatten)).Perm (ps.p.flatten ++ ps.zl)
  refine (List.Perm.append_left _ List.perm_append_comm).trans ?_
  rw [← List.append_assoc, ← List.flatten_append, List.take_append_drop]
theorem SR.gc (S : SR W c m X σ ps h) (n : Nat) : SR W c m X (gcS σ n) (ps.gc σ n) h := by
  refine ⟨S.F, fun p hp => S.N p (gc_perm.mem_iff.mp hp), ?_, (S.rel.take n).mapl fun qq1 qq2 => or_map vr_rv, ?_⟩
  · have q := (gc_perm (X := X) (ps := ps) (σ := σ) (n := n)).map Prod.fst
    exact q.nodup_iff.mpr S.nd
  · rintro o A (z | ⟨a, k, ob, hn, ho, hA, hf⟩)
    · obtain ⟨part, h1, h2, h3⟩ := S.fz o A z
      exact ⟨part, h1, fun q hq => List.mem_append_left _ (h2 q hq), h3.mono (⟨⟨_, rfl⟩, fun qq1 qq2 h => Or.inl h⟩ : HS.Le ⟨[], ps.z⟩ ⟨[], (ps.gc σ n).z⟩)⟩
    · obtain ⟨part, hp, hr⟩ := S.obj ho
      refine ⟨part, Option.some.inj ((hds_get hp).symm.trans hA), fun q hq => List.mem_append_right _ (List.mem_flatten.mpr ⟨part, ?_, hq⟩), or_frz vr_rz hr hf⟩
      refine List.mem_of_getElem? (i := a - n) ?_
      rw [List.getElem?_drop, Nat.add_sub_cancel' hn]
      exact hp
theorem LR.gc {tb : List Str} {L : Loc} (lr : LR tb (hds ps) L m) : LR tb (hds (ps.gc σ n)) (gcL σ n L) m := fun i v e => by
  obtain ⟨w, hw, rfl⟩ := Option.map_eq_some_iff.mp ((getK_map i L).symm.trans e)
  obtain ⟨x, y, h1, h2, h3⟩ := lr i w hw
  exact ⟨x, y, h1, h2, vr_rv h3⟩
theorem HS.Le.gc {hz : HS} (p : hz.Le (hds ps)) (hl : hz.a.length ≤ n) : hz.Le (hds (ps.gc σ n)) := by
  refine ⟨?_, fun o A z => .inl (p.z o A z)⟩
  show hz.a <+: (ps.p.take n).map hd1
  rw [List.map_take]
  exact List.prefix_take_iff.mpr ⟨p.a, hl⟩
end
theorem evSs_gc {c : Cx} {L : Loc} {σ : St} {z k : Nat} {r : List PS} : evSs c (.gc k :: r) z L σ = evSs c r z (gcL σ (z + k) L) (gcS σ (z + k)) := rfl
theorem okSs_gc {W : Wd} {cx : Cx} {cs : Scope} {d k : Nat} {ss : List PS} {sts : List Stmt} (hss : OkSs W cx cs d ss sts) : OkSs W cx cs d (.gc k :: ss) sts := by
  refine ⟨?_⟩
  intro c hc ok m X L σ ps h tk fl L' σ' Q E g dr os z hz S lr ht hl pz e H
  exact hss.1 c hc ok (S.gc (z + k)) lr.gc ht hl (pz.gc (hl ▸ Nat.le_add_right _ _)) (evSs_gc.symm.trans e) H
theorem evS_retf {c : Cx} {L : Loc} {σ : St} {z : Nat} {e : PE} : evS c (.retf e) z L σ = (evE c e L σ).map fun (v, σ1) => (.ret (rv σ1 z v), gcL σ1 z L, gcS σ1 z) := rfl
theorem okS_retf {W : Wd} {cx : Cx} {cs : Scope} {d : Nat} {e : PE} {x : PySem.Expr} {pos : Pos} (he : OkE W cx cs none d e x) : OkS W cx cs d (.retf e) (.Return (some x) pos) := by
  refine ⟨?_⟩
  intro c hc ok m X L σ ps h tk fl L' σ' Q E g dr os z hz S lr ht hl pz ee H
  refine mp2 (evS_retf.symm.trans ee) fun v σ1 e1 e => ?_
  exact wpAny_Return_some (he.1 c hc ok S ⟨rfl, lr⟩ ht e1 fun ps1 h1 t1 y1 p1 S1 r1 ht1 => (H.eq e) m _ h1 t1 _ ((pz.trans p1).gc (hl ▸ Nat.le_refl _)) (S1.gc z) (lr.mono p1).gc (.ret (vr_rv r1)) ht1)
end PL
end
section
namespace PL
theorem bindMany_len (cx : Cx) : ∀ {is : List Nat} {vs : List V} {L L1 : Loc}, bindMany cx is vs L = some L1 → is.length = vs.length
  | [], [], L, L1, e => rfl
  | [], _ :: _, L, L1, e => by simp [bindMany] at e
  | _ :: _, [], L, L1, e => by simp [bindMany] at e
  | _ :: is, _ :: vs, L, L1, e => by simp only [bindMany] at e; simp [bindMany_len cx e]
theorem bindMany_some (cx : Cx) : ∀ {is : List Nat} {vs : List V} (L : Loc), is.length = vs.length → ∃ L1, bindMany cx is vs L = some L1
  | [], [], L, _ => ⟨L, rfl⟩
  | [], _ :: _, L, h => by simp at h
  | _ :: _, [], L, h => by simp at h
  | i :: is, v :: vs, L, h => bindMany_some cx (is := is) (vs := vs) (putK i v L) (by simpa using h)
theorem bindMany_at (cx : Cx) : ∀ {is : List Nat} {vs : List V} {L L1 : Loc}, bindMany cx is vs L = some L1 → is.Nodup → ∀ (k i : Nat) (v : V), is[k]? = some i → vs[k]? = some v → getK i L1 = some v
  | [], _, L, L1, e, nd, k, i, v, h1, h2 => by simp at h1
  | _ :: _, [], L, L1, e, nd, k, i, v, h1, h2 => by simp at h2
  | a :: is, b :: vs, L, L1, e, nd, k, i, v, h1, h2 => by
    simp only [bindMany] at e
    have nd' := List.nodup_cons.mp nd
    cases k with
    | zero =>
      simp at h1 h2
      subst h1 h2
      rw [bindMany_get cx e nd'.1, getK_putK, if_pos rfl]
    | succ k => exact bindMany_at cx e nd'.2 k i v (by simpa using h1) (by simpa using h2)
theorem bindMany_rev (cx : Cx) {is : List Nat} {vs : List V} {L L1 L2 : Loc} (e1 : bindMany cx is vs L = some L1) (e2 : bindMany cx is.reverse vs.reverse L = some L2) (nd : is.Nodup) (j : Nat) : getK j L2 = getK j L1 := by
  have len := bindMany_len cx e1
  by_cases q : j ∈ is
  · obtain ⟨k, hk, hj⟩ := List.mem_iff_getElem.mp q
    have hv : k < vs.length := by lia
    rw [bindMany_at cx e1 nd k j vs[k] (by rw [List.getElem?_eq_getElem hk, hj]) (List.getElem?_eq_getElem hv)]
    refine bindMany_at cx e2 ((List.reverse_perm is).nodup_iff.mpr nd) (is.length - 1 - k) j vs[k] ?_ ?_
    · rw [List.getElem?_reverse (by lia)]
      have : is.length - 1 - (is.length - 1 - k) = k := by lia
      rw [this, List.getElem?_eq_getElem hk, hj]
    · rw [List.getElem?_reverse (by lia)]
      have : vs.length - 1 - (is.length - 1 - k) = k := by lia
      rw [this, List.getElem?_eq_getElem hv]
  · rw [bindMany_get cx e1 q, bindMany_get cx e2 (by simpa using q)]
theorem asgTs_l (cx : Cx) : ∀ {is : List Nat} {vs : List V} {L L1 : Loc} {σ σ' : St}, asgTs cx (is.map Tg.l) vs L σ = some (L1, σ') → bindMany cx is vs L = some L1 ∧ σ' = σ
  | [], [], L, L1, σ, σ', e => by
    simp only [List.map_nil, asgTs, Option.some.injEq, Prod.mk.injEq] at e
    exact ⟨by simp [bindMany, e.1], e.2.symm⟩
  | [], _ :: _, L, L1, σ, σ', e => by simp [asgTs] at e
  | _ :: _, [], L, L1, σ, σ', e => by simp [asgTs] at e
  | i :: is, v :: vs, L, L1, σ, σ', e => by
    simp only [List.map_cons, asgTs, asgT, Option.bind_some] at e
    simp only [bindMany]
    exact asgTs_l cx e
section
variable {W : Wd} {cx : Cx} {cs : Scope} {d : Nat}
theorem binds_ok (nd : W.tb.Nodup) {c : Fc} {σ : St} {ps : PZ} {X : List (Addr × Obj)} {g : Array GenState} {dr : Drawn} {os : OsState} {A : Around} {E : Value → Shared → Prop} (hf : c.cs.kind = .function) : ∀ {is : List Nat} {names : List Str}, All2 (fun i x => W.tb[i]? = some x ∧ c.cs.names.lookup x = some .local) is names →
    ∀ {vs : List V} {ys : List Value} {L L1 : Loc} {m : Str → Option Value} {h : Heap} {tk : Nat} {Q : Unit → Shared → Prop}, All2 (VR (hds ps)) vs ys → bindMany cx is vs L = some L1 → SR W c m X σ ps h → LR W.tb (hds ps) L m → 1 ≤ tk →
    (∀ m' h' tk', SR W c m' X σ ps h' → LR W.tb (hds ps) L1 m' → 1 ≤ tk' → Q () ⟨h', g, dr, tk', os⟩) → wpAny (model W.prog W.w) A (assignInOrder (names.map fun n => bindName c.env n) ys) Q E ⟨h, g, dr, tk, os⟩ := by
  intro is names r
  induction r with
  | nil =>
    intro vs ys L L1 m h tk Q rv e S lr ht k
    cases rv with
    | nil =>
      simp only [bindMany, Option.some.injEq] at e
      subst e
      exact wpAny_pure (k m h tk S lr ht)
    | cons _ _ => simp [bindMany] at e
  | @cons i x is names h0 _ ih =>
    intro vs ys L L1 m h tk Q rv e S lr ht k
    cases rv with
    | nil => simp [bindMany] at e
    | @cons v y vs ys h1 h2 =>
      simp only [bindMany] at e
      show wpAny _ A (holding ys (bindName c.env x y) >>= fun qq1 => assignInOrder (names.map fun n => bindName c.env n) ys) Q E _
      refine wpAny_bind (wpAny_holding (wpAny_bindName (store_fn nd S lr h0.1 h1 h0.2 hf fun m' h' S' lr' => ?_)))
      exact ih h2 e S' lr' (by lia) k
theorem okS_swap (G : GOk W cx d) {is : List Nat} {names : List Str} {e : PE} {elts : List PySem.Expr} {n : Nat} {tp : Pos} {y : PySem.Expr} {pos : Pos} (hn : All2 (fun i x => W.tb[i]? = some x ∧ cs.names.lookup x = some .local) is names) (hnd : is.Nodup) (he : OkE W cx cs none d e y)
    (hs : ∀ env, swapsWithSole [.Tuple elts n tp] y pos.line env = pure false) (hw : ∀ c : Fc, c.cs = cs → swappedStores [.Tuple elts n tp] y c.env = pure (some names)) : OkS W cx cs d (.assignT (is.map Tg.l) e) (.Assign [.Tuple elts n tp] y pos) := by
  refine ⟨?_⟩
  intro c hc ok m X L σ ps h tk fl L' σ' Q E g dr os z hz S lr ht hl pz ee H
  refine bd2 (evS_assignT.symm.trans ee) fun v σ1 e1 e => bdE e fun vs e2 e => mp2 e fun L1 σ2 e3 e9 => ?_
  obtain ⟨b1, rfl⟩ := asgTs_l cx e3
  have len := bindMany_len cx b1
  have hnl : names.length = vs.length := by rw [← hn.len]; exact len
  refine Assign_Tuple_swapped (he.1 c hc ok S ⟨rfl, lr⟩ ht e1 fun ps1 h1 t1 y1 p1 S1 r1 ht1 => ?_) (hs _) (hw c hc)
  subst hc
  rw [hnl]
  refine unpackItems_ok G ok S1 r1 e2 ht1 ok.hh fun h' tk' ys S' rys ht' => ?_
  obtain ⟨L2, b2⟩ := bindMany_some cx (is := is.reverse) (vs := vs.reverse) L (by simpa using len)
  refine binds_ok G.co.nd ok.kind hn.rev rys.rev b2 S' (lr.mono p1) ht' fun m2 h2 t2 S2 lr2 ht2 => ?_
  refine (H.eq e9) m2 ps1 h2 t2 _ (pz.trans p1) S2 (fun j u hj => lr2 j u ?_) .next ht2
  rw [bindMany_rev cx b1 b2 hnd]; exact hj
end
end PL
end
section
namespace PL
structure GX (W : Wd) (cx : Cx) (d : Nat) : Prop where
  G : GOk W cx d
  init : W.tb[cx.init]? = some "__init__"
  fn : ∀ f args σ r, f < BIG → cx.call f args σ = some r → fnIn W.K f = true
noncomputable def BindOk (W : Wd) (fn : Fn) (fd : FuncData) (scope : Scope) : Prop :=
  ∀ (args : List V) (L : Loc), bindP fn.params args fn.dflt = some L → ∀ (hs : HS) (xs : List Value), All2 (VR hs) args xs →
    ∃ binds, (∀ s : Shared, W.K.In s.heap → BindsTo s fd ⟨xs, []⟩ binds) ∧ (∀ y ∈ binds, scope.names.lookup y.1 = some .local) ∧ LR W.tb hs L (fun y => binds.reverse.lookup y)
structure FnOk (W : Wd) (f : Nat) (fn : Fn) (qual name : Str) (params : Arguments) (body : List Stmt) (scope : Scope) (dV kV doc pm cdv ct oc : Value) (an od : Option Addr) (osl : Array (Option Value)) : Prop where
  at_ : W.K.lookup f = some ⟨oc, od, .func (fnOf name qual params body scope dV kV doc pm an cdv ct), osl⟩
  code : codeIn W.K cdv qual = true
  kind : scope.kind = .function
  co : scope.isCoroutine = false
  gen : scope.isGenerator = false
  cell : ∀ x ∈ scope.names, x.2 ≠ .cell
  bind : BindOk W fn (fnOf name qual params body scope dV kV doc pm an cdv ct) scope
  body : ∀ (cx : Cx) (d : Nat), GX W cx d → OkSs W cx scope d fn.body body
noncomputable def FnEx (W : Wd) (f : Nat) (fn : Fn) : Prop := ∃ qual name params body scope dV kV doc pm cdv ct oc an od osl, FnOk W f fn qual name params body scope dV kV doc pm cdv ct oc an od osl
theorem FnEx.fn {W : Wd} {f : Nat} {fn : Fn} (x : FnEx W f fn) : fnIn W.K f = true := by
  obtain ⟨qual, name, params, body, scope, dV, kV, doc, pm, cdv, ct, oc, an, od, osl, o⟩ := x
  unfold fnIn
  rw [o.at_]
theorem runF_succ {p : Pr} {fuel d f : Nat} {args : List V} {σ : St} : runF p fuel (d + 1) f args σ = (p.fns f).bind fun fn => (bindP fn.params args fn.dflt).bind fun L =>
      (evSs (cxOf p fuel (runF p fuel d)) fn.body σ.length L σ).map fun (fl, _, σ1) => ((match fl with | .ret v => v | _ => .none), σ1) := rfl
theorem call_ok (W : Wd) (p : Pr) (hso : SoOk W p.so) (hco : ∀ fuel call, ClsOk W (cxOf p fuel call)) (hi : W.tb[p.init]? = some "__init__") (hf : ∀ f fn, p.fns f = some fn → FnEx W f fn) (fuel : Nat) : ∀ d, CallOk W (runF p fuel d) d
  | 0 => fun f args σ v σ' qq1 e => noE e
  | d + 1 => by
    have ih := call_ok W p hso hco hi hf fuel d
    intro f args σ v σ' _ e c ok m X ps h tk xs R g dr os S ra ht H
    refine bdE (runF_succ.symm.trans e) fun fn e1 e => bdE e fun L0 e2 e => mp3 e fun fl L1 σ1 e3 e4 => ?_
    have gx : GX W (cxOf p fuel (runF p fuel d)) d := ⟨⟨hso, hco _ _, ih⟩, hi, fun f' args' σ2 r' qq1 e' => by
      have e' : runF p fuel d f' args' σ2 = some r' := e'
      cases d with
      | zero => exact noE e'
      | succ d => exact bdE (runF_succ.symm.trans e') fun fn' q qq1 => (hf f' fn' q).fn⟩
    obtain ⟨qual, name, params, body, scope, dV, kV, doc, pm, cdv, ct, oc, an, od, osl, o⟩ := hf f fn e1
    obtain ⟨binds, b1, b2, b3⟩ := o.bind args L0 e2 _ xs ra
    obtain ⟨g0, G0, F0⟩ := S.F
    have K := ok.X.keeps S.F.base
    have hd := ok.depth
    have hu := ok.units
    have T0 := ok.T.keeps G0.B.stays
    refine callX_plain (cl := []) G0.B F0 (G0.news S.N) T0.nolimit ok.frames rfl ok.kind (K _ _ o.at_) rfl (codeRec_of K o.code) (by show _ < 1000; lia) (b1 _ K) b2 (fun g' L' h₁ FG F' N' B' st qq1 => ?_) o.cell o.co o.gen o.kind
    refine (o.body _ d gx).1 { cn := qual, cs := scope, L := L', a := f, ccd := cdv, h₀ := g', A₀ := c.A, base := c.base, outer := c.env :: c.outer, A := c.A.deeper (envOf qual scope L' f cdv) } rfl ⟨?_, ok.hh, ?_, ?_, ok.X, ok.T, o.kind⟩ (m := fun y => binds.reverse.lookup y) (X := X) (ps := ps) ⟨⟨g', ⟨rfl, B'⟩, F'⟩, N', S.nd, S.rel, S.fz⟩ b3 (Nat.le_trans ht (Nat.le_add_right _ _)) (hds_len.trans S.len.symm) .rfl e3 fun m' ps' h' t' ff pp S' lr' fr ht' => ?_
    · show c.A.frames.map (_ :: ·) = _
      rw [ok.frames]; rfl
    · show c.A.depth + 1 + 3 * d + 3 ≤ 990
      lia
    · show c.A.units + 3 + 30 * d + 300 ≤ 9800
      lia
    · obtain ⟨_, ⟨rfl, _⟩, F2⟩ := S'.F
      refine leaveK_ F2 S'.N fun kF kN => ?_
      have S2 : SR W c m X σ1 ps' h' := ⟨⟨g0, G0, kF⟩, G0.back kN, S'.nd, S'.rel, S'.fz⟩
      cases fr with
      | ret hv => exact (H.eq e4) ps' h' t' _ pp S2 hv ht'
      | next => exact (H.eq e4) ps' h' t' _ pp S2 .none ht'
      | brk => exact (H.eq e4) ps' h' t' _ pp S2 .none ht'
      | cont => exact (H.eq e4) ps' h' t' _ pp S2 .none ht'
end PL
end
section
namespace PL
structure BE (K : Frag) (fd : FuncData) (vs : List Value) (binds : List (Str × Value)) : Prop where
  h : ∀ s : Shared, K.In s.heap → BindsTo s fd ⟨vs, []⟩ binds
theorem BE.of_eq {K : Frag} {fd : FuncData} {vs : List Value} {binds : List (Str × Value)} (h : bindArgs fd ⟨vs, []⟩ = pure binds) : BE K fd vs binds := ⟨fun s X => BindsTo.of_eq h⟩
noncomputable def bindRest (fd : FuncData) (vs : List Value) : { k : Option (Array Value) → Sem (List (Str × Value)) // bindArgs fd ⟨vs, []⟩ = seqItems? fd.defaults >>= k } := ⟨_, rfl⟩
theorem BE.df {K : Frag} {fd : FuncData} {T : Addr} {vs : List Value} {binds : List (Str × Value)} {its : List Value} {n : Nat} (hd : fd.defaults = .ref T) (ho : K.lookup T = some { cls := .type "tuple", data := .seq its.toArray n })
    (h : (bindRest fd vs).1 (some its.toArray) = pure binds) : BE K fd vs binds :=
  ⟨fun s X => BindsTo.of_defaults hd (X _ _ ho) rfl (bindRest fd vs).2 h⟩
section
variable {W : Wd} {fn : Fn} {fd : FuncData} {scope : Scope}
theorem bind_0 (hp : fn.params = []) (hb : BE W.K fd [] []) : BindOk W fn fd scope := by
  intro args L e hs xs ra
  rw [hp] at e
  cases ra with
  | nil =>
    obtain rfl := Option.some.inj e
    exact ⟨[], ⟨hb.h, ⟨(fun y hy => nomatch hy), (fun i v h => by cases h)⟩⟩⟩
  | cons _ _ => exact noE e
theorem one_lr {tb : List Str} {hs : HS} {i : Nat} {x : Str} {a : V} {va : Value} (hi : tb[i]? = some x) (h1 : VR hs a va) : LR tb hs [(i, a)] (fun z => [(x, va)].reverse.lookup z) := by
  intro j v h
  simp only [getK, BT.beq_eq] at h
  by_cases q : i = j
  · subst q; simp at h; subst h; exact ⟨x, _, hi, by simp, h1⟩
  · simp [q] at h
theorem bind_1 {i : Nat} {x : Str} (hp : fn.params = [i]) (hd : fn.dflt = []) (hi : W.tb[i]? = some x) (hl : scope.names.lookup x = some .local) (hb : ∀ v, BE W.K fd [v] [(x, v)]) : BindOk W fn fd scope := by
  intro args L e hs xs ra
  rw [hp, hd] at e
  cases ra with
  | nil => exact noE e
  | cons h1 r1 =>
    cases r1 with
    | cons _ _ => exact noE e
    | nil =>
      obtain rfl := Option.some.inj e
      exact ⟨[(x, _)], (hb _).h, fun y hy => (List.mem_singleton.mp hy) ▸ hl, one_lr hi h1⟩
theorem two_lr {tb : List Str} {hs : HS} {i j : Nat} {x y : Str} {a b : V} {va vb : Value} (hi : tb[i]? = some x) (hj : tb[j]? = some y) (hxy : x ≠ y) (h1 : VR hs a va) (h2 : VR hs b vb) : LR tb hs [(i, a), (j, b)] (fun z => [(x, va), (y, vb)].reverse.lookup z) := by
  intro k v h
  simp only [getK, BT.beq_eq] at h
  by_cases q : i = k
  · subst q
    simp at h; subst h
    refine ⟨x, va, hi, ?_, h1⟩
    have : (x == y) = false := by rw [beq_eq_false_iff_ne]; exact hxy
    simp [List.lookup, this]
  · simp only [q, decide_false, cond_false] at h
    by_cases q2 : j = k
    · subst q2
      simp at h; subst h
      exact ⟨y, vb, hj, by simp [List.lookup], h2⟩
    · simp [q2] at h
theorem three_lr {tb : List Str} {hs : HS} {i j k : Nat} {x y z : Str} {a b c : V} {va vb vc : Value} (hi : tb[i]? = some x) (hj : tb[j]? = some y) (hk : tb[k]? = some z) (hxy : x ≠ y) (hxz : x ≠ z) (hyz : y ≠ z) (h1 : VR hs a va) (h2 : VR hs b vb) (h3 : VR hs c vc) :
    LR tb hs [(i, a), (j, b), (k, c)] (fun u => [(x, va), (y, vb), (z, vc)].reverse.lookup u) := by
  intro l v h
  simp only [getK, BT.beq_eq] at h
  have e1 : (x == z) = false := by rw [beq_eq_false_iff_ne]; exact hxz
  have e2 : (x == y) = false := by rw [beq_eq_false_iff_ne]; exact hxy
  have e3 : (y == z) = false := by rw [beq_eq_false_iff_ne]; exact hyz
  by_cases q : i = l
  · subst q
    simp at h; subst h
    exact ⟨x, va, hi, by simp [List.lookup, e1, e2], h1⟩
  · simp only [q, decide_false, cond_false] at h
    by_cases q2 : j = l
    · subst q2
      simp at h; subst h
      exact ⟨y, vb, hj, by simp [List.lookup, e3], h2⟩
    · simp only [q2, decide_false, cond_false] at h
      by_cases q3 : k = l
      · subst q3
        simp at h; subst h
        exact ⟨z, vc, hk, by simp [List.lookup], h3⟩
      · simp [q3] at h
theorem bind_2 {i j : Nat} {x y : Str} (hp : fn.params = [i, j]) (hd : fn.dflt = []) (hi : W.tb[i]? = some x) (hj : W.tb[j]? = some y) (hxy : x ≠ y) (hl : scope.names.lookup x = some .local) (hl2 : scope.names.lookup y = some .local)
    (hb : ∀ v u, BE W.K fd [v, u] [(x, v), (y, u)]) : BindOk W fn fd scope := by
  intro args L e hs xs ra
  rw [hp, hd] at e
  cases ra with
  | nil => exact noE e
  | cons h1 r1 =>
    cases r1 with
    | nil => exact noE e
    | cons h2 r2 =>
      cases r2 with
      | cons _ _ => exact noE e
      | nil =>
        obtain rfl := Option.some.inj e
        refine ⟨[(x, _), (y, _)], (hb _ _).h, fun z hz => ?_, two_lr hi hj hxy h1 h2⟩
        simp only [List.mem_cons, List.not_mem_nil, or_false] at hz
        rcases hz with rfl | rfl
        · exact hl
        · exact hl2
theorem bind_d2 {i j : Nat} {x y : Str} {d : V} {dv : Value} (hp : fn.params = [i, j]) (hd : fn.dflt = [d]) (hdv : VR .nil d dv) (hi : W.tb[i]? = some x) (hj : W.tb[j]? = some y) (hxy : x ≠ y) (hl : scope.names.lookup x = some .local) (hl2 : scope.names.lookup y = some .local)
    (hb : ∀ v u, BE W.K fd [v, u] [(x, v), (y, u)]) (hb1 : ∀ v, BE W.K fd [v] [(x, v), (y, dv)]) : BindOk W fn fd scope := by
  intro args L e hs xs ra
  rw [hp, hd] at e
  have loc : ∀ (a b : Value), ∀ z ∈ [(x, a), (y, b)], scope.names.lookup z.1 = some .local := by
    intro a b z hz
    simp only [List.mem_cons, List.not_mem_nil, or_false] at hz
    rcases hz with rfl | rfl
    · exact hl
    · exact hl2
  cases ra with
  | nil => exact noE e
  | cons h1 r1 =>
    cases r1 with
    | nil =>
      obtain rfl := Option.some.inj e
      exact ⟨[(x, _), (y, dv)], (hb1 _).h, loc _ _, two_lr hi hj hxy h1 (hdv.mono .nil)⟩
    | cons h2 r2 =>
      cases r2 with
      | cons _ _ => exact noE e
      | nil =>
        obtain rfl := Option.some.inj e
        exact ⟨[(x, _), (y, _)], (hb _ _).h, loc _ _, two_lr hi hj hxy h1 h2⟩
theorem bind_d3 {i j k : Nat} {x y z : Str} {d : V} {dv : Value} (hp : fn.params = [i, j, k]) (hd : fn.dflt = [d]) (hdv : VR .nil d dv) (hi : W.tb[i]? = some x) (hj : W.tb[j]? = some y) (hk : W.tb[k]? = some z) (hxy : x ≠ y) (hxz : x ≠ z) (hyz : y ≠ z) (hl : scope.names.lookup x = some .local) (hl2 : scope.names.lookup y = some .local) (hl3 : scope.names.lookup z = some .local)
    (hb : ∀ v u t, BE W.K fd [v, u, t] [(x, v), (y, u), (z, t)]) (hb1 : ∀ v u, BE W.K fd [v, u] [(x, v), (y, u), (z, dv)]) : BindOk W fn fd scope := by
  intro args L e hs xs ra
  rw [hp, hd] at e
  have loc : ∀ (a b c : Value), ∀ q ∈ [(x, a), (y, b), (z, c)], scope.names.lookup q.1 = some .local := by
    intro a b c q hq
    simp only [List.mem_cons, List.not_mem_nil, or_false] at hq
    rcases hq with rfl | rfl | rfl
    · exact hl
    · exact hl2
    · exact hl3
  cases ra with
  | nil => exact noE e
  | cons h1 r1 =>
    cases r1 with
    | nil => exact noE e
    | cons h2 r2 =>
      cases r2 with
      | nil =>
        obtain rfl := Option.some.inj e
        exact ⟨_, (hb1 _ _).h, loc _ _ _, three_lr hi hj hk hxy hxz hyz h1 h2 (hdv.mono .nil)⟩
      | cons h3 r3 =>
        cases r3 with
        | cons _ _ => exact noE e
        | nil =>
          obtain rfl := Option.some.inj e
          exact ⟨_, (hb _ _ _).h, loc _ _ _, three_lr hi hj hk hxy hxz hyz h1 h2 h3⟩
end
theorem lookup_app {K xs : Frag} {a : Addr} {o : Obj} (h : List.lookup a K = some o) : List.lookup a (K ++ xs) = some o := by
  induction K with
  | nil => simp at h
  | cons p r ih =>
    obtain ⟨b, ob⟩ := p
    rw [List.cons_append, List.lookup_cons] at *
    split
    · rename_i q; rw [q] at h; exact h
    · rename_i q; rw [q] at h; exact ih h
theorem lookup_last {K : Frag} {a : Addr} {o : Obj} (h : List.lookup a K = none) : List.lookup a (K ++ [(a, o)]) = some o := by
  induction K with
  | nil => simp [List.lookup]
  | cons p r ih =>
    obtain ⟨b, ob⟩ := p
    rw [List.cons_append, List.lookup_cons] at *
    split
    · rename_i q; rw [q] at h; simp at h
    · rename_i q; rw [q] at h; exact ih h
end PL
end
section
namespace PL
theorem noB {p : Prop} (h : false = true) : p := nomatch h
theorem an {a b : Bool} {p : Prop} (h : (a && b) = true) (k : a = true → b = true → p) : p := by
  cases a with
  | true => exact k rfl h
  | false => exact noB h
noncomputable def onX (K0 : Str → Bool) (K1 : Const → Bool) (K2 : PySem.Expr → Str → Pos → Bool) (K3 : PySem.Expr → PySem.Expr → Bool) (K4 : Option PySem.Expr → Option PySem.Expr → Option PySem.Expr → Bool) (K5 : PySem.Expr → Operator → PySem.Expr → Bool) (K6 : UnaryOp → PySem.Expr → Bool) (K7 : BoolOp → List PySem.Expr → Bool) (K8 : PySem.Expr → List CmpOp → List PySem.Expr → Bool) (K9 : PySem.Expr → PySem.Expr → PySem.Expr → Bool) (K10 : List PySem.Expr → Bool) (K11 : List PySem.Expr → Bool) (K12 : List (Option PySem.Expr) → List PySem.Expr → Bool) (K13 : PySem.Expr → List Comprehension → Scope → Bool) (K14 : PySem.Expr → List PySem.Expr → List Keyword → Pos → Bool) (x : PySem.Expr) : Bool := match x with
  | .Name n _ => K0 n
  | .Constant c _ _ => K1 c
  | .Attribute y n p => K2 y n p
  | .Subscript y z _ => K3 y z
  | .Slice a b c _ => K4 a b c
  | .BinOp y op z _ => K5 y op z
  | .UnaryOp op y _ => K6 op y
  | .BoolOp op l _ => K7 op l
  | .Compare y ops l _ => K8 y ops l
  | .IfExp t b f _ => K9 t b f
  | .List l _ => K10 l
  | .Tuple l _ _ => K11 l
  | .Dict l m _ => K12 l m
  | .ListComp y g sc _ => K13 y g sc
  | .Call f l kw p => K14 f l kw p
  | _ => false
theorem onXE {P : PySem.Expr → Prop} {x : PySem.Expr} {K0 : Str → Bool} {K1 : Const → Bool} {K2 : PySem.Expr → Str → Pos → Bool} {K3 : PySem.Expr → PySem.Expr → Bool} {K4 : Option PySem.Expr → Option PySem.Expr → Option PySem.Expr → Bool} {K5 : PySem.Expr → Operator → PySem.Expr → Bool} {K6 : UnaryOp → PySem.Expr → Bool} {K7 : BoolOp → List PySem.Expr → Bool} {K8 : PySem.Expr → List CmpOp → List PySem.Expr → Bool} {K9 : PySem.Expr → PySem.Expr → PySem.Expr → Bool} {K10 : List PySem.Expr → Bool} {K11 : List PySem.Expr → Bool} {K12 : List (Option PySem.Expr) → List PySem.Expr → Bool} {K13 : PySem.Expr → List Comprehension → Scope → Bool} {K14 : PySem.Expr → List PySem.Expr → List Keyword → Pos → Bool} (h : onX K0 K1 K2 K3 K4 K5 K6 K7 K8 K9 K10 K11 K12 K13 K14 x = true) (h0 : ∀ n p, K0 n = true → P (.Name n p)) (h1 : ∀ c j p, K1 c = true → P (.Constant c j p)) (h2 : ∀ y n p, K2 y n p = true → P (.Attribute y n p)) (h3 : ∀ y z p, K3 y z = true → P (.Subscript y z p)) (h4 : ∀ a b c p, K4 a b c = true → P (.Slice a b c p)) (h5 : ∀ y op z p, K5 y op z = true → P (.BinOp y op z p)) (h6 : ∀ op y p, K6 op y = true → P (.UnaryOp op y p)) (h7 : ∀ op l p, K7 op l = true → P (.BoolOp op l p)) (h8 : ∀ y ops l p, K8 y ops l = true → P (.Compare y ops l p)) (h9 : ∀ t b f p, K9 t b f = true → P (.IfExp t b f p)) (h10 : ∀ l p, K10 l = true → P (.List l p)) (h11 : ∀ l j p, K11 l = true → P (.Tuple l j p)) (h12 : ∀ l m p, K12 l m = true → P (.Dict l m p)) (h13 : ∀ y g sc p, K13 y g sc = true → P (.ListComp y g sc p)) (h14 : ∀ f l kw p, K14 f l kw p = true → P (.Call f l kw p)) : P x := by
  cases x with
  | Name n p => exact h0 _ _ h
  | Constant c j p => exact h1 _ _ _ h
  | Attribute y n p => exact h2 _ _ _ h
  | Subscript y z p => exact h3 _ _ _ h
  | Slice a b c p => exact h4 _ _ _ _ h
  | BinOp y op z p => exact h5 _ _ _ _ h
  | UnaryOp op y p => exact h6 _ _ _ h
  | BoolOp op l p => exact h7 _ _ _ h
  | Compare y ops l p => exact h8 _ _ _ _ h
  | IfExp t b f p => exact h9 _ _ _ _ h
  | List l p => exact h10 _ _ h
  | Tuple l j p => exact h11 _ _ _ h
  | Dict l m p => exact h12 _ _ _ h
  | ListComp y g sc p => exact h13 _ _ _ _ h
  | Call f l kw p => exact h14 _ _ _ _ h
  | _ => exact noB h
noncomputable def xName (x : PySem.Expr) (k : Str → Bool) : Bool := onX k (fun qq1 => false) (fun qq1 qq2 qq3 => false) (fun qq1 qq2 => false) (fun qq1 qq2 qq3 => false) (fun qq1 qq2 qq3 => false) (fun qq1 qq2 => false) (fun qq1 qq2 => false) (fun qq1 qq2 qq3 => false) (fun qq1 qq2 qq3 => false) (fun qq1 => false) (fun qq1 => false) (fun qq1 qq2 => false) (fun qq1 qq2 qq3 => false) (fun qq1 qq2 qq3 qq4 => false) x
@[elab_as_elim] theorem xNameE {P : PySem.Expr → Prop} {x : PySem.Expr} {k : Str → Bool} (h : xName x k = true) (H : ∀ n p, k n = true → P (.Name n p)) : P x :=
  onXE h H (fun qq1 qq2 qq3 => noB) (fun qq1 qq2 qq3 => noB) (fun qq1 qq2 qq3 => noB) (fun qq1 qq2 qq3 qq4 => noB) (fun qq1 qq2 qq3 qq4 => noB) (fun qq1 qq2 qq3 => noB) (fun qq1 qq2 qq3 => noB) (fun qq1 qq2 qq3 qq4 => noB) (fun qq1 qq2 qq3 qq4 => noB) (fun qq1 qq2 => noB) (fun qq1 qq2 qq3 => noB) (fun qq1 qq2 qq3 => noB) (fun qq1 qq2 qq3 qq4 => noB) (fun qq1 qq2 qq3 qq4 => noB)
noncomputable def xConstant (x : PySem.Expr) (k : Const → Bool) : Bool := onX (fun qq1 => false) k (fun qq1 qq2 qq3 => false) (fun qq1 qq2 => false) (fun qq1 qq2 qq3 => false) (fun qq1 qq2 qq3 => false) (fun qq1 qq2 => false) (fun qq1 qq2 => false) (fun qq1 qq2 qq3 => false) (fun qq1 qq2 qq3 => false) (fun qq1 => false) (fun qq1 => false) (fun qq1 qq2 => false) (fun qq1 qq2 qq3 => false) (fun qq1 qq2 qq3 qq4 => false) x
@[elab_as_elim] theorem xConstantE {P : PySem.Expr → Prop} {x : PySem.Expr} {k : Const → Bool} (h : xConstant x k = true) (H : ∀ c j p, k c = true → P (.Constant c j p)) : P x :=
  onXE h (fun qq1 qq2 => noB) H (fun qq1 qq2 qq3 => noB) (fun qq1 qq2 qq3 => noB) (fun qq1 qq2 qq3 qq4 => noB) (fun qq1 qq2 qq3 qq4 => noB) (fun qq1 qq2 qq3 => noB) (fun qq1 qq2 qq3 => noB) (fun qq1 qq2 qq3 qq4 => noB) (fun qq1 qq2 qq3 qq4 => noB) (fun qq1 qq2 => noB) (fun qq1 qq2 qq3 => noB) (fun qq1 qq2 qq3 => noB) (fun qq1 qq2 qq3 qq4 => noB) (fun qq1 qq2 qq3 qq4 => noB)
noncomputable def xAttribute (x : PySem.Expr) (k : PySem.Expr → Str → Pos → Bool) : Bool := onX (fun qq1 => false) (fun qq1 => false) k (fun qq1 qq2 => false) (fun qq1 qq2 qq3 => false) (fun qq1 qq2 qq3 => false) (fun qq1 qq2 => false) (fun qq1 qq2 => false) (fun qq1 qq2 qq3 => false) (fun qq1 qq2 qq3 => false) (fun qq1 => false) (fun qq1 => false) (fun qq1 qq2 => false) (fun qq1 qq2 qq3 => false) (fun qq1 qq2 qq3 qq4 => false) x
@[elab_as_elim] theorem xAttributeE {P : PySem.Expr → Prop} {x : PySem.Expr} {k : PySem.Expr → Str → Pos → Bool} (h : xAttribute x k = true) (H : ∀ y n p, k y n p = true → P (.Attribute y n p)) : P x :=
  onXE h (fun qq1 qq2 => noB) (fun qq1 qq2 qq3 => noB) H (fun qq1 qq2 qq3 => noB) (fun qq1 qq2 qq3 qq4 => noB) (fun qq1 qq2 qq3 qq4 => noB) (fun qq1 qq2 qq3 => noB) (fun qq1 qq2 qq3 => noB) (fun qq1 qq2 qq3 qq4 => noB) (fun qq1 qq2 qq3 qq4 => noB) (fun qq1 qq2 => noB) (fun qq1 qq2 qq3 => noB) (fun qq1 qq2 qq3 => noB) (fun qq1 qq2 qq3 qq4 => noB) (fun qq1 qq2 qq3 qq4 => noB)
noncomputable def xSubscript (x : PySem.Expr) (k : PySem.Expr → PySem.Expr → Bool) : Bool := onX (fun qq1 => false) (fun qq1 => false) (fun qq1 qq2 qq3 => false) k (fun qq1 qq2 qq3 => false) (fun qq1 qq2 qq3 => false) (fun qq1 qq2 => false) (fun qq1 qq2 => false) (fun qq1 qq2 qq3 => false) (fun qq1 qq2 qq3 => false) (fun qq1 => false) (fun qq1 => false) (fun qq1 qq2 => false) (fun qq1 qq2 qq3 => false) (fun qq1 qq2 qq3 qq4 => false) x
@[elab_as_elim] theorem xSubscriptE {P : PySem.Expr → Prop} {x : PySem.Expr} {k : PySem.Expr → PySem.Expr → Bool} (h : xSubscript x k = true) (H : ∀ y z p, k y z = true → P (.Subscript y z p)) : P x :=
  onXE h (fun qq1 qq2 => noB) (fun qq1 qq2 qq3 => noB) (fun qq1 qq2 qq3 => noB) H (fun qq1 qq2 qq3 qq4 => noB) (fun qq1 qq2 qq3 qq4 => noB) (fun qq1 qq2 qq3 => noB) (fun qq1 qq2 qq3 => noB) (fun qq1 qq2 qq3 qq4 => noB) (fun qq1 qq2 qq3 qq4 => noB) (fun qq1 qq2 => noB) (fun qq1 qq2 qq3 => noB) (fun qq1 qq2 qq3 => noB) (fun qq1 qq2 qq3 qq4 => noB) (fun qq1 qq2 qq3 qq4 => noB)
noncomputable def xSlice (x : PySem.Expr) (k : Option PySem.Expr → Option PySem.Expr → Option PySem.Expr → Bool) : Bool := onX (fun qq1 => false) (fun qq1 => false) (fun qq1 qq2 qq3 => false) (fun qq1 qq2 => false) k (fun qq1 qq2 qq3 => false) (fun qq1 qq2 => false) (fun qq1 qq2 => false) (fun qq1 qq2 qq3 => false) (fun qq1 qq2 qq3 => false) (fun qq1 => false) (fun qq1 => false) (fun qq1 qq2 => false) (fun qq1 qq2 qq3 => false) (fun qq1 qq2 qq3 qq4 => false) x
@[elab_as_elim] theorem xSliceE {P : PySem.Expr → Prop} {x : PySem.Expr} {k : Option PySem.Expr → Option PySem.Expr → Option PySem.Expr → Bool} (h : xSlice x k = true) (H : ∀ a b c p, k a b c = true → P (.Slice a b c p)) : P x :=
  onXE h (fun qq1 qq2 => noB) (fun qq1 qq2 qq3 => noB) (fun qq1 qq2 qq3 => noB) (fun qq1 qq2 qq3 => noB) H (fun qq1 qq2 qq3 qq4 => noB) (fun qq1 qq2 qq3 => noB) (fun qq1 qq2 qq3 => noB) (fun qq1 qq2 qq3 qq4 => noB) (fun qq1 qq2 qq3 qq4 => noB) (fun qq1 qq2 => noB) (fun qq1 qq2 qq3 => noB) (fun qq1 qq2 qq3 => noB) (fun qq1 qq2 qq3 qq4 => noB) (fun qq1 qq2 qq3 qq4 => noB)
noncomputable def xBinOp (x : PySem.Expr) (k : PySem.Expr → Operator → PySem.Expr → Bool) : Bool := onX (fun qq1 => false) (fun qq1 => false) (fun qq1 qq2 qq3 => false) (fun qq1 qq2 => false) (fun qq1 qq2 qq3 => false) k (fun qq1 qq2 => false) (fun qq1 qq2 => false) (fun qq1 qq2 qq3 => false) (fun qq1 qq2 qq3 => false) (fun qq1 => false) (fun qq1 => false) (fun qq1 qq2 => false) (fun qq1 qq2 qq3 => false) (fun qq1 qq2 qq3 qq4 => false) x
@[elab_as_elim] theorem xBinOpE {P : PySem.Expr → Prop} {x : PySem.Expr} {k : PySem.Expr → Operator → PySem.Expr → Bool} (h : xBinOp x k = true) (H : ∀ y op z p, k y op z = true → P (.BinOp y op z p)) : P x :=
  onXE h (fun qq1 qq2 => noB) (fun qq1 qq2 qq3 => noB) (fun qq1 qq2 qq3 => noB) (fun qq1 qq2 qq3 => noB) (fun qq1 qq2 qq3 qq4 => noB) H (fun qq1 qq2 qq3 => noB) (fun qq1 qq2 qq3 => noB) (fun qq1 qq2 qq3 qq4 => noB) (fun qq1 qq2 qq3 qq4 => noB) (fun qq1 qq2 => noB) (fun qq1 qq2 qq3 => noB) (fun qq1 qq2 qq3 => noB) (fun qq1 qq2 qq3 qq4 => noB) (fun qq1 qq2 qq3 qq4 => noB)
noncomputable def xUnaryOp (x : PySem.Expr) (k : UnaryOp → PySem.Expr → Bool) : Bool := onX (fun qq1 => false) (fun qq1 => false) (fun qq1 qq2 qq3 => false) (fun qq1 qq2 => false) (fun qq1 qq2 qq3 => false) (fun qq1 qq2 qq3 => false) k (fun qq1 qq2 => false) (fun qq1 qq2 qq3 => false) (fun qq1 qq2 qq3 => false) (fun qq1 => false) (fun qq1 => false) (fun qq1 qq2 => false) (fun qq1 qq2 qq3 => false) (fun qq1 qq2 qq3 qq4 => false) x
@[elab_as_elim] theorem xUnaryOpE {P : PySem.Expr → Prop} {x : PySem.Expr} {k : UnaryOp → PySem.Expr → Bool} (h : xUnaryOp x k = true) (H : ∀ op y p, k op y = true → P (.UnaryOp op y p)) : P x :=
  onXE h (fun qq1 qq2 => noB) (fun qq1 qq2 qq3 => noB) (fun qq1 qq2 qq3 => noB) (fun qq1 qq2 qq3 => noB) (fun qq1 qq2 qq3 qq4 => noB) (fun qq1 qq2 qq3 qq4 => noB) H (fun qq1 qq2 qq3 => noB) (fun qq1 qq2 qq3 qq4 => noB) (fun qq1 qq2 qq3 qq4 => noB) (fun qq1 qq2 => noB) (fun qq1 qq2 qq3 => noB) (fun qq1 qq2 qq3 => noB) (fun qq1 qq2 qq3 qq4 => noB) (fun qq1 qq2 qq3 qq4 => noB)
noncomputable def xBoolOp (x : PySem.Expr) (k : BoolOp → List PySem.Expr → Bool) : Bool := onX (fun qq1 => false) (fun qq1 => false) (fun qq1 qq2 qq3 => false) (fun qq1 qq2 => false) (fun qq1 qq2 qq3 => false) (fun qq1 qq2 qq3 => false) (fun qq1 qq2 => false) k (fun qq1 qq2 qq3 => false) (fun qq1 qq2 qq3 => false) (fun qq1 => false) (fun qq1 => false) (fun qq1 qq2 => false) (fun qq1 qq2 qq3 => false) (fun qq1 qq2 qq3 qq4 => false) x
@[elab_as_elim] theorem xBoolOpE {P : PySem.Expr → Prop} {x : PySem.Expr} {k : BoolOp → List PySem.Expr → Bool} (h : xBoolOp x k = true) (H : ∀ op l p, k op l = true → P (.BoolOp op l p)) : P x :=
  onXE h (fun qq1 qq2 => noB) (fun qq1 qq2 qq3 => noB) (fun qq1 qq2 qq3 => noB) (fun qq1 qq2 qq3 => noB) (fun qq1 qq2 qq3 qq4 => noB) (fun qq1 qq2 qq3 qq4 => noB) (fun qq1 qq2 qq3 => noB) H (fun qq1 qq2 qq3 qq4 => noB) (fun qq1 qq2 qq3 qq4 => noB) (fun qq1 qq2 => noB) (fun qq1 qq2 qq3 => noB) (fun qq1 qq2 qq3 => noB) (fun qq1 qq2 qq3 qq4 => noB) (fun qq1 qq2 qq3 qq4 => noB)
noncomputable def xCompare (x : PySem.Expr) (k : PySem.Expr → List CmpOp → List PySem.Expr → Bool) : Bool := onX (fun qq1 => false) (fun qq1 => false) (fun qq1 qq2 qq3 => false) (fun qq1 qq2 => false) (fun qq1 qq2 qq3 => false) (fun qq1 qq2 qq3 => false) (fun qq1 qq2 => false) (fun qq1 qq2 => false) k (fun qq1 qq2 qq3 => false) (fun qq1 => false) (fun qq1 => false) (fun qq1 qq2 => false) (fun qq1 qq2 qq3 => false) (fun qq1 qq2 qq3 qq4 => false) x
@[elab_as_elim] theorem xCompareE {P : PySem.Expr → Prop} {x : PySem.Expr} {k : PySem.Expr → List CmpOp → List PySem.Expr → Bool} (h : xCompare x k = true) (H : ∀ y ops l p, k y ops l = true → P (.Compare y ops l p)) : P x :=
  onXE h (fun qq1 qq2 => noB) (fun qq1 qq2 qq3 => noB) (fun qq1 qq2 qq3 => noB) (fun qq1 qq2 qq3 => noB) (fun qq1 qq2 qq3 qq4 => noB) (fun qq1 qq2 qq3 qq4 => noB) (fun qq1 qq2 qq3 => noB) (fun qq1 qq2 qq3 => noB) H (fun qq1 qq2 qq3 qq4 => noB) (fun qq1 qq2 => noB) (fun qq1 qq2 qq3 => noB) (fun qq1 qq2 qq3 => noB) (fun qq1 qq2 qq3 qq4 => noB) (fun qq1 qq2 qq3 qq4 => noB)
noncomputable def xIfExp (x : PySem.Expr) (k : PySem.Expr → PySem.Expr → PySem.Expr → Bool) : Bool := onX (fun qq1 => false) (fun qq1 => false) (fun qq1 qq2 qq3 => false) (fun qq1 qq2 => false) (fun qq1 qq2 qq3 => false) (fun qq1 qq2 qq3 => false) (fun qq1 qq2 => false) (fun qq1 qq2 => false) (fun qq1 qq2 qq3 => false) k (fun qq1 => false) (fun qq1 => false) (fun qq1 qq2 => false) (fun qq1 qq2 qq3 => false) (fun qq1 qq2 qq3 qq4 => false) x
@[elab_as_elim] theorem xIfExpE {P : PySem.Expr → Prop} {x : PySem.Expr} {k : PySem.Expr → PySem.Expr → PySem.Expr → Bool} (h : xIfExp x k = true) (H : ∀ t b f p, k t b f = true → P (.IfExp t b f p)) : P x :=
  onXE h (fun qq1 qq2 => noB) (fun qq1 qq2 qq3 => noB) (fun qq1 qq2 qq3 => noB) (fun qq1 qq2 qq3 => noB) (fun qq1 qq2 qq3 qq4 => noB) (fun qq1 qq2 qq3 qq4 => noB) (fun qq1 qq2 qq3 => noB) (fun qq1 qq2 qq3 => noB) (fun qq1 qq2 qq3 qq4 => noB) H (fun qq1 qq2 => noB) (fun qq1 qq2 qq3 => noB) (fun qq1 qq2 qq3 => noB) (fun qq1 qq2 qq3 qq4 => noB) (fun qq1 qq2 qq3 qq4 => noB)
noncomputable def xList (x : PySem.Expr) (k : List PySem.Expr → Bool) : Bool := onX (fun qq1 => false) (fun qq1 => false) (fun qq1 qq2 qq3 => false) (fun qq1 qq2 => false) (fun qq1 qq2 qq3 => false) (fun qq1 qq2 qq3 => false) (fun qq1 qq2 => false) (fun qq1 qq2 => false) (fun qq1 qq2 qq3 => false) (fun qq1 qq2 qq3 => false) k (fun qq1 => false) (fun qq1 qq2 => false) (fun qq1 qq2 qq3 => false) (fun qq1 qq2 qq3 qq4 => false) x
@[elab_as_elim] theorem xListE {P : PySem.Expr → Prop} {x : PySem.Expr} {k : List PySem.Expr → Bool} (h : xList x k = true) (H : ∀ l p, k l = true → P (.List l p)) : P x :=
  onXE h (fun qq1 qq2 => noB) (fun qq1 qq2 qq3 => noB) (fun qq1 qq2 qq3 => noB) (fun qq1 qq2 qq3 => noB) (fun qq1 qq2 qq3 qq4 => noB) (fun qq1 qq2 qq3 qq4 => noB) (fun qq1 qq2 qq3 => noB) (fun qq1 qq2 qq3 => noB) (fun qq1 qq2 qq3 qq4 => noB) (fun qq1 qq2 qq3 qq4 => noB) H (fun qq1 qq2 qq3 => noB) (fun qq1 qq2 qq3 => noB) (fun qq1 qq2 qq3 qq4 => noB) (fun qq1 qq2 qq3 qq4 => noB)
noncomputable def xTuple (x : PySem.Expr) (k : List PySem.Expr → Bool) : Bool := onX (fun qq1 => false) (fun qq1 => false) (fun qq1 qq2 qq3 => false) (fun qq1 qq2 => false) (fun qq1 qq2 qq3 => false) (fun qq1 qq2 qq3 => false) (fun qq1 qq2 => false) (fun qq1 qq2 => false) (fun qq1 qq2 qq3 => false) (fun qq1 qq2 qq3 => false) (fun qq1 => false) k (fun qq1 qq2 => false) (fun qq1 qq2 qq3 => false) (fun qq1 qq2 qq3 qq4 => false) x
@[elab_as_elim] theorem xTupleE {P : PySem.Expr → Prop} {x : PySem.Expr} {k : List PySem.Expr → Bool} (h : xTuple x k = true) (H : ∀ l j p, k l = true → P (.Tuple l j p)) : P x :=
  onXE h (fun qq1 qq2 => noB) (fun qq1 qq2 qq3 => noB) (fun qq1 qq2 qq3 => noB) (fun qq1 qq2 qq3 => noB) (fun qq1 qq2 qq3 qq4 => noB) (fun qq1 qq2 qq3 qq4 => noB) (fun qq1 qq2 qq3 => noB) (fun qq1 qq2 qq3 => noB) (fun qq1 qq2 qq3 qq4 => noB) (fun qq1 qq2 qq3 qq4 => noB) (fun qq1 qq2 => noB) H (fun qq1 qq2 qq3 => noB) (fun qq1 qq2 qq3 qq4 => noB) (fun qq1 qq2 qq3 qq4 => noB)
noncomputable def xDict (x : PySem.Expr) (k : List (Option PySem.Expr) → List PySem.Expr → Bool) : Bool := onX (fun qq1 => false) (fun qq1 => false) (fun qq1 qq2 qq3 => false) (fun qq1 qq2 => false) (fun qq1 qq2 qq3 => false) (fun qq1 qq2 qq3 => false) (fun qq1 qq2 => false) (fun qq1 qq2 => false) (fun qq1 qq2 qq3 => false) (fun qq1 qq2 qq3 => false) (fun qq1 => false) (fun qq1 => false) k (fun qq1 qq2 qq3 => false) (fun qq1 qq2 qq3 qq4 => false) x
@[elab_as_elim] theorem xDictE {P : PySem.Expr → Prop} {x : PySem.Expr} {k : List (Option PySem.Expr) → List PySem.Expr → Bool} (h : xDict x k = true) (H : ∀ l m p, k l m = true → P (.Dict l m p)) : P x :=
  onXE h (fun qq1 qq2 => noB) (fun qq1 qq2 qq3 => noB) (fun qq1 qq2 qq3 => noB) (fun qq1 qq2 qq3 => noB) (fun qq1 qq2 qq3 qq4 => noB) (fun qq1 qq2 qq3 qq4 => noB) (fun qq1 qq2 qq3 => noB) (fun qq1 qq2 qq3 => noB) (fun qq1 qq2 qq3 qq4 => noB) (fun qq1 qq2 qq3 qq4 => noB) (fun qq1 qq2 => noB) (fun qq1 qq2 qq3 => noB) H (fun qq1 qq2 qq3 qq4 => noB) (fun qq1 qq2 qq3 qq4 => noB)
noncomputable def xListComp (x : PySem.Expr) (k : PySem.Expr → List Comprehension → Scope → Bool) : Bool := onX (fun qq1 => false) (fun qq1 => false) (fun qq1 qq2 qq3 => false) (fun qq1 qq2 => false) (fun qq1 qq2 qq3 => false) (fun qq1 qq2 qq3 => false) (fun qq1 qq2 => false) (fun qq1 qq2 => false) (fun qq1 qq2 qq3 => false) (fun qq1 qq2 qq3 => false) (fun qq1 => false) (fun qq1 => false) (fun qq1 qq2 => false) k (fun qq1 qq2 qq3 qq4 => false) x
@[elab_as_elim] theorem xListCompE {P : PySem.Expr → Prop} {x : PySem.Expr} {k : PySem.Expr → List Comprehension → Scope → Bool} (h : xListComp x k = true) (H : ∀ y g sc p, k y g sc = true → P (.ListComp y g sc p)) : P x :=
  onXE h (fun qq1 qq2 => noB) (fun qq1 qq2 qq3 => noB) (fun qq1 qq2 qq3 => noB) (fun qq1 qq2 qq3 => noB) (fun qq1 qq2 qq3 qq4 => noB) (fun qq1 qq2 qq3 qq4 => noB) (fun qq1 qq2 qq3 => noB) (fun qq1 qq2 qq3 => noB) (fun qq1 qq2 qq3 qq4 => noB) (fun qq1 qq2 qq3 qq4 => noB) (fun qq1 qq2 => noB) (fun qq1 qq2 qq3 => noB) (fun qq1 qq2 qq3 => noB) H (fun qq1 qq2 qq3 qq4 => noB)
noncomputable def xCall (x : PySem.Expr) (k : PySem.Expr → List PySem.Expr → List Keyword → Pos → Bool) : Bool := onX (fun qq1 => false) (fun qq1 => false) (fun qq1 qq2 qq3 => false) (fun qq1 qq2 => false) (fun qq1 qq2 qq3 => false) (fun qq1 qq2 qq3 => false) (fun qq1 qq2 => false) (fun qq1 qq2 => false) (fun qq1 qq2 qq3 => false) (fun qq1 qq2 qq3 => false) (fun qq1 => false) (fun qq1 => false) (fun qq1 qq2 => false) (fun qq1 qq2 qq3 => false) k x
@[elab_as_elim] theorem xCallE {P : PySem.Expr → Prop} {x : PySem.Expr} {k : PySem.Expr → List PySem.Expr → List Keyword → Pos → Bool} (h : xCall x k = true) (H : ∀ f l kw p, k f l kw p = true → P (.Call f l kw p)) : P x :=
  onXE h (fun qq1 qq2 => noB) (fun qq1 qq2 qq3 => noB) (fun qq1 qq2 qq3 => noB) (fun qq1 qq2 qq3 => noB) (fun qq1 qq2 qq3 qq4 => noB) (fun qq1 qq2 qq3 qq4 => noB) (fun qq1 qq2 qq3 => noB) (fun qq1 qq2 qq3 => noB) (fun qq1 qq2 qq3 qq4 => noB) (fun qq1 qq2 qq3 qq4 => noB) (fun qq1 qq2 => noB) (fun qq1 qq2 qq3 => noB) (fun qq1 qq2 qq3 => noB) (fun qq1 qq2 qq3 qq4 => noB) H
noncomputable def onS (K0 : PySem.Expr → Bool) (K1 : List PySem.Expr → PySem.Expr → Bool) (K2 : PySem.Expr → Operator → PySem.Expr → Bool) (K3 : PySem.Expr → List Stmt → List Stmt → Bool) (K4 : PySem.Expr → List Stmt → List Stmt → Bool) (K5 : PySem.Expr → PySem.Expr → List Stmt → List Stmt → Bool) (K6 : Option PySem.Expr → Bool) (K7 : Bool) (K8 : Bool) (K9 : Bool) (x : Stmt) : Bool := match x with
  | .Expr x _ => K0 x
  | .Assign l y _ => K1 l y
  | .AugAssign x op y _ => K2 x op y
  | .If x a b _ => K3 x a b
  | .While x a b _ => K4 x a b
  | .For x y a b _ => K5 x y a b
  | .Return x _ => K6 x
  | .Pass _ => K7
  | .Break _ => K8
  | .Continue _ => K9
  | _ => false
theorem onSE {P : Stmt → Prop} {x : Stmt} {K0 : PySem.Expr → Bool} {K1 : List PySem.Expr → PySem.Expr → Bool} {K2 : PySem.Expr → Operator → PySem.Expr → Bool} {K3 : PySem.Expr → List Stmt → List Stmt → Bool} {K4 : PySem.Expr → List Stmt → List Stmt → Bool} {K5 : PySem.Expr → PySem.Expr → List Stmt → List Stmt → Bool} {K6 : Option PySem.Expr → Bool} {K7 : Bool} {K8 : Bool} {K9 : Bool} (h : onS K0 K1 K2 K3 K4 K5 K6 K7 K8 K9 x = true) (h0 : ∀ x p, K0 x = true → P (.Expr x p)) (h1 : ∀ l y p, K1 l y = true → P (.Assign l y p)) (h2 : ∀ x op y p, K2 x op y = true → P (.AugAssign x op y p)) (h3 : ∀ x a b p, K3 x a b = true → P (.If x a b p)) (h4 : ∀ x a b p, K4 x a b = true → P (.While x a b p)) (h5 : ∀ x y a b p, K5 x y a b = true → P (.For x y a b p)) (h6 : ∀ x p, K6 x = true → P (.Return x p)) (h7 : ∀ p, K7  = true → P (.Pass p)) (h8 : ∀ p, K8  = true → P (.Break p)) (h9 : ∀ p, K9  = true → P (.Continue p)) : P x := by
  cases x with
  | Expr x p => exact h0 _ _ h
  | Assign l y p => exact h1 _ _ _ h
  | AugAssign x op y p => exact h2 _ _ _ _ h
  | If x a b p => exact h3 _ _ _ _ h
  | While x a b p => exact h4 _ _ _ _ h
  | For x y a b p => exact h5 _ _ _ _ _ h
  | Return x p => exact h6 _ _ h
  | Pass p => exact h7 _ h
  | Break p => exact h8 _ h
  | Continue p => exact h9 _ h
  | _ => exact noB h
noncomputable def sExpr (x : Stmt) (k : PySem.Expr → Bool) : Bool := onS k (fun qq1 qq2 => false) (fun qq1 qq2 qq3 => false) (fun qq1 qq2 qq3 => false) (fun qq1 qq2 qq3 => false) (fun qq1 qq2 qq3 qq4 => false) (fun qq1 => false) false false false x
@[elab_as_elim] theorem sExprE {P : Stmt → Prop} {x : Stmt} {k : PySem.Expr → Bool} (h : sExpr x k = true) (H : ∀ x p, k x = true → P (.Expr x p)) : P x :=
  onSE h H (fun qq1 qq2 qq3 => noB) (fun qq1 qq2 qq3 qq4 => noB) (fun qq1 qq2 qq3 qq4 => noB) (fun qq1 qq2 qq3 qq4 => noB) (fun qq1 qq2 qq3 qq4 qq5 => noB) (fun qq1 qq2 => noB) (fun qq1 => noB) (fun qq1 => noB) (fun qq1 => noB)
noncomputable def sAssign (x : Stmt) (k : List PySem.Expr → PySem.Expr → Bool) : Bool := onS (fun qq1 => false) k (fun qq1 qq2 qq3 => false) (fun qq1 qq2 qq3 => false) (fun qq1 qq2 qq3 => false) (fun qq1 qq2 qq3 qq4 => false) (fun qq1 => false) false false false x
@[elab_as_elim] theorem sAssignE {P : Stmt → Prop} {x : Stmt} {k : List PySem.Expr → PySem.Expr → Bool} (h : sAssign x k = true) (H : ∀ l y p, k l y = true → P (.Assign l y p)) : P x :=
  onSE h (fun qq1 qq2 => noB) H (fun qq1 qq2 qq3 qq4 => noB) (fun qq1 qq2 qq3 qq4 => noB) (fun qq1 qq2 qq3 qq4 => noB) (fun qq1 qq2 qq3 qq4 qq5 => noB) (fun qq1 qq2 => noB) (fun qq1 => noB) (fun qq1 => noB) (fun qq1 => noB)
noncomputable def sAugAssign (x : Stmt) (k : PySem.Expr → Operator → PySem.Expr → Bool) : Bool := onS (fun qq1 => false) (fun qq1 qq2 => false) k (fun qq1 qq2 qq3 => false) (fun qq1 qq2 qq3 => false) (fun qq1 qq2 qq3 qq4 => false) (fun qq1 => false) false false false x
@[elab_as_elim] theorem sAugAssignE {P : Stmt → Prop} {x : Stmt} {k : PySem.Expr → Operator → PySem.Expr → Bool} (h : sAugAssign x k = true) (H : ∀ x op y p, k x op y = true → P (.AugAssign x op y p)) : P x :=
  onSE h (fun qq1 qq2 => noB) (fun qq1 qq2 qq3 => noB) H (fun qq1 qq2 qq3 qq4 => noB) (fun qq1 qq2 qq3 qq4 => noB) (fun qq1 qq2 qq3 qq4 qq5 => noB) (fun qq1 qq2 => noB) (fun qq1 => noB) (fun qq1 => noB) (fun qq1 => noB)
noncomputable def sIf (x : Stmt) (k : PySem.Expr → List Stmt → List Stmt → Bool) : Bool := onS (fun qq1 => false) (fun qq1 qq2 => false) (fun qq1 qq2 qq3 => false) k (fun qq1 qq2 qq3 => false) (fun qq1 qq2 qq3 qq4 => false) (fun qq1 => false) false false false x
@[elab_as_elim] theorem sIfE {P : Stmt → Prop} {x : Stmt} {k : PySem.Expr → List Stmt → List Stmt → Bool} (h : sIf x k = true) (H : ∀ x a b p, k x a b = true → P (.If x a b p)) : P x :=
  onSE h (fun qq1 qq2 => noB) (fun qq1 qq2 qq3 => noB) (fun qq1 qq2 qq3 qq4 => noB) H (fun qq1 qq2 qq3 qq4 => noB) (fun qq1 qq2 qq3 qq4 qq5 => noB) (fun qq1 qq2 => noB) (fun qq1 => noB) (fun qq1 => noB) (fun qq1 => noB)
noncomputable def sWhile (x : Stmt) (k : PySem.Expr → List Stmt → List Stmt → Bool) : Bool := onS (fun qq1 => false) (fun qq1 qq2 => false) (fun qq1 qq2 qq3 => false) (fun qq1 qq2 qq3 => false) k (fun qq1 qq2 qq3 qq4 => false) (fun qq1 => false) false false false x
@[elab_as_elim] theorem sWhileE {P : Stmt → Prop} {x : Stmt} {k : PySem.Expr → List Stmt → List Stmt → Bool} (h : sWhile x k = true) (H : ∀ x a b p, k x a b = true → P (.While x a b p)) : P x :=
  onSE h (fun qq1 qq2 => noB) (fun qq1 qq2 qq3 => noB) (fun qq1 qq2 qq3 qq4 => noB) (fun qq1 qq2 qq3 qq4 => noB) H (fun qq1 qq2 qq3 qq4 qq5 => noB) (fun qq1 qq2 => noB) (fun qq1 => noB) (fun qq1 => noB) (fun qq1 => noB)
noncomputable def sFor (x : Stmt) (k : PySem.Expr → PySem.Expr → List Stmt → List Stmt → Bool) : Bool := onS (fun qq1 => false) (fun qq1 qq2 => false) (fun qq1 qq2 qq3 => false) (fun qq1 qq2 qq3 => false) (fun qq1 qq2 qq3 => false) k (fun qq1 => false) false false false x
@[elab_as_elim] theorem sForE {P : Stmt → Prop} {x : Stmt} {k : PySem.Expr → PySem.Expr → List Stmt → List Stmt → Bool} (h : sFor x k = true) (H : ∀ x y a b p, k x y a b = true → P (.For x y a b p)) : P x :=
  onSE h (fun qq1 qq2 => noB) (fun qq1 qq2 qq3 => noB) (fun qq1 qq2 qq3 qq4 => noB) (fun qq1 qq2 qq3 qq4 => noB) (fun qq1 qq2 qq3 qq4 => noB) H (fun qq1 qq2 => noB) (fun qq1 => noB) (fun qq1 => noB) (fun qq1 => noB)
noncomputable def sReturn (x : Stmt) (k : Option PySem.Expr → Bool) : Bool := onS (fun qq1 => false) (fun qq1 qq2 => false) (fun qq1 qq2 qq3 => false) (fun qq1 qq2 qq3 => false) (fun qq1 qq2 qq3 => false) (fun qq1 qq2 qq3 qq4 => false) k false false false x
@[elab_as_elim] theorem sReturnE {P : Stmt → Prop} {x : Stmt} {k : Option PySem.Expr → Bool} (h : sReturn x k = true) (H : ∀ x p, k x = true → P (.Return x p)) : P x :=
  onSE h (fun qq1 qq2 => noB) (fun qq1 qq2 qq3 => noB) (fun qq1 qq2 qq3 qq4 => noB) (fun qq1 qq2 qq3 qq4 => noB) (fun qq1 qq2 qq3 qq4 => noB) (fun qq1 qq2 qq3 qq4 qq5 => noB) H (fun qq1 => noB) (fun qq1 => noB) (fun qq1 => noB)
noncomputable def sPass (x : Stmt) (k : Bool) : Bool := onS (fun qq1 => false) (fun qq1 qq2 => false) (fun qq1 qq2 qq3 => false) (fun qq1 qq2 qq3 => false) (fun qq1 qq2 qq3 => false) (fun qq1 qq2 qq3 qq4 => false) (fun qq1 => false) k false false x
@[elab_as_elim] theorem sPassE {P : Stmt → Prop} {x : Stmt} {k : Bool} (h : sPass x k = true) (H : ∀ p, k  = true → P (.Pass p)) : P x :=
  onSE h (fun qq1 qq2 => noB) (fun qq1 qq2 qq3 => noB) (fun qq1 qq2 qq3 qq4 => noB) (fun qq1 qq2 qq3 qq4 => noB) (fun qq1 qq2 qq3 qq4 => noB) (fun qq1 qq2 qq3 qq4 qq5 => noB) (fun qq1 qq2 => noB) H (fun qq1 => noB) (fun qq1 => noB)
noncomputable def sBreak (x : Stmt) (k : Bool) : Bool := onS (fun qq1 => false) (fun qq1 qq2 => false) (fun qq1 qq2 qq3 => false) (fun qq1 qq2 qq3 => false) (fun qq1 qq2 qq3 => false) (fun qq1 qq2 qq3 qq4 => false) (fun qq1 => false) false k false x
@[elab_as_elim] theorem sBreakE {P : Stmt → Prop} {x : Stmt} {k : Bool} (h : sBreak x k = true) (H : ∀ p, k  = true → P (.Break p)) : P x :=
  onSE h (fun qq1 qq2 => noB) (fun qq1 qq2 qq3 => noB) (fun qq1 qq2 qq3 qq4 => noB) (fun qq1 qq2 qq3 qq4 => noB) (fun qq1 qq2 qq3 qq4 => noB) (fun qq1 qq2 qq3 qq4 qq5 => noB) (fun qq1 qq2 => noB) (fun qq1 => noB) H (fun qq1 => noB)
noncomputable def sContinue (x : Stmt) (k : Bool) : Bool := onS (fun qq1 => false) (fun qq1 qq2 => false) (fun qq1 qq2 qq3 => false) (fun qq1 qq2 qq3 => false) (fun qq1 qq2 qq3 => false) (fun qq1 qq2 qq3 qq4 => false) (fun qq1 => false) false false k x
@[elab_as_elim] theorem sContinueE {P : Stmt → Prop} {x : Stmt} {k : Bool} (h : sContinue x k = true) (H : ∀ p, k  = true → P (.Continue p)) : P x :=
  onSE h (fun qq1 qq2 => noB) (fun qq1 qq2 qq3 => noB) (fun qq1 qq2 qq3 qq4 => noB) (fun qq1 qq2 qq3 qq4 => noB) (fun qq1 qq2 qq3 qq4 => noB) (fun qq1 qq2 qq3 qq4 qq5 => noB) (fun qq1 qq2 => noB) (fun qq1 => noB) (fun qq1 => noB) H
noncomputable def r1 {α : Type} (l : List α) (k : α → Bool) : Bool := match l with | x :: r => (match r with | [] => k x | _ :: _ => false) | [] => false
@[elab_as_elim] theorem r1E {α : Type} {P : List α → Prop} {l : List α} {k : α → Bool} (h : r1 l k = true) (H : ∀ x, k x = true → P [x]) : P l := by
  cases l with
  | nil => exact noB h
  | cons x r => cases r with
    | nil => exact H x h
    | cons _ _ => exact noB h
noncomputable def rCons {α : Type} (l : List α) (k : α → List α → Bool) : Bool := match l with | x :: r => k x r | [] => false
@[elab_as_elim] theorem rConsE {α : Type} {P : List α → Prop} {l : List α} {k : α → List α → Bool} (h : rCons l k = true) (H : ∀ x r, k x r = true → P (x :: r)) : P l := by
  cases l with
  | nil => exact noB h
  | cons x r => exact H x r h
noncomputable def rNil {α : Type} (l : List α) : Bool := match l with | [] => true | _ => false
theorem rNilE {α : Type} {l : List α} (h : rNil l = true) : l = [] := by
  cases l with
  | nil => rfl
  | cons _ _ => exact noB h
noncomputable def rSome {α : Type} (l : Option α) (k : α → Bool) : Bool := match l with | some x => k x | none => false
@[elab_as_elim] theorem rSomeE {α : Type} {P : Option α → Prop} {l : Option α} {k : α → Bool} (h : rSome l k = true) (H : ∀ x, k x = true → P (some x)) : P l := by
  cases l with
  | none => exact noB h
  | some x => exact H x h
noncomputable def rNone {α : Type} (l : Option α) : Bool := match l with | none => true | some _ => false
theorem rNoneE {α : Type} {l : Option α} (h : rNone l = true) : l = none := by
  cases l with
  | none => rfl
  | some x => exact noB h
noncomputable def isI (x : PySem.Expr) (l : List Nat) : Bool := l.any (Nat.beq x.ctorIdx)
noncomputable def rdX (x : PySem.Expr) : Bool := onX (fun a => true) (fun a => true) (fun a b c => true) (fun a b => true) (fun a b c => true) (fun a b c => true) (fun a b => true) (fun a b => true) (fun a b c => true) (fun a b c => true) (fun a => true) (fun a => true) (fun a b => true) (fun a b c => true) (fun a b c d => true) x
noncomputable def ordX (x : PySem.Expr) : Bool := rdX x && !isI x [26]
noncomputable def noComp (x : PySem.Expr) : Bool := rdX x && !isI x [8]
noncomputable def noTup (x : PySem.Expr) : Bool := rdX x && !isI x [25]
noncomputable def plainT (x : PySem.Expr) : Bool := rdX x && !isI x [0, 3, 5, 15]
noncomputable def noCall (x : PySem.Expr) : Bool := rdX x && (!isI x [16] || xCall x fun f b c d => rdX f && !isI f [23])
structure XF (x : PySem.Expr) : Prop where
  star : isI x [26] = false → ∀ xs env, starEach (x :: xs) env = (false, eval x env) :: starEach xs env
  sub : isI x [26] = false → ∀ o i, subscripted x false o i = operate [o, i] (getItem o i)
  aug : isI x [26] = false → ∀ ov iv new, augStore x ov iv new = (do holding [new, ov, iv] (setItem ov iv new); release [new, ov, iv] []; pure .next)
  set : isI x [26] = false → ∀ env v, foldedSetIterable x env v = pure v
  mark : isI x [26] = false → ∀ op, behindInMarks op x = false
  comp : isI x [8] = false → ∀ t n env, swapsWith x t n env = pure false
  tup : isI x [25] = false → ∀ l n p env, swappedStores [.Tuple l n p] x env = pure none
  plain : isI x [0, 3, 5, 15] = false → ∀ env w, isTrue x env w = (do let v ← w; standAt x.pos; holding [v] (truthy v))
  call : isI x [16] = false → ∀ nm env w, attributeBase x nm env w = w
  name : isI x [23] = false → ∀ l k p nm env w, attributeBase (.Call x l k p) nm env w = w
theorem xf {x : PySem.Expr} (h : rdX x = true) : XF x := by
  refine onXE (P := XF) h (fun a b hh => ?_) (fun a b c hh => ?_) (fun a b c hh => ?_) (fun a b c hh => ?_) (fun a b c d hh => ?_) (fun a b c d hh => ?_) (fun a b c hh => ?_) (fun a b c hh => ?_) (fun a b c d hh => ?_) (fun a b c d hh => ?_) (fun a b hh => ?_) (fun a b c hh => ?_) (fun a b c hh => ?_) (fun a b c d hh => ?_) (fun a b c d hh => ?_)
  all_goals exact ⟨by first | exact fun h => noB h.symm | exact fun h a b => rfl, by first | exact fun h => noB h.symm | exact fun h a b => rfl, by first | exact fun h => noB h.symm | exact fun h a b c => rfl, by first | exact fun h => noB h.symm | exact fun h a b => rfl, by first | exact fun h => noB h.symm | exact fun h a => rfl, by first | exact fun h => noB h.symm | exact fun h a b c => rfl, by first | exact fun h => noB h.symm | exact fun h a b c d => rfl, by first | exact fun h => noB h.symm | exact fun h a b => rfl, by first | exact fun h => noB h.symm | exact fun h a b c => rfl, by first | exact fun h => noB h.symm | exact fun h a b c d e f => rfl⟩
theorem nt {b : Bool} (h : (!b) = true) : b = false := by
  cases b with
  | false => rfl
  | true => exact noB h
theorem ordF {x : PySem.Expr} {p : Prop} (h : ordX x = true) (k : XF x → isI x [26] = false → p) : p := an h fun h1 h2 => k (xf h1) (nt h2)
theorem noComp_eq {x : PySem.Expr} (h : noComp x = true) (t : Option PySem.Expr) (n : Nat) (env : Env) : swapsWith x t n env = pure false := an h fun h1 h2 => (xf h1).comp (nt h2) t n env
theorem noTup_eq {x : PySem.Expr} (h : noTup x = true) (l : List PySem.Expr) (n : Nat) (p : Pos) (env : Env) : swappedStores [.Tuple l n p] x env = pure none := an h fun h1 h2 => (xf h1).tup (nt h2) l n p env
theorem plainT_eq {x : PySem.Expr} (h : plainT x = true) (env : Env) (w : Sem Value) : isTrue x env w = (do let v ← w; standAt x.pos; holding [v] (truthy v)) := an h fun h1 h2 => (xf h1).plain (nt h2) env w
theorem noCall_eq {x : PySem.Expr} (h : noCall x = true) (nm : Str) (env : Env) (w : Sem Value) : attributeBase x nm env w = w := by
  refine an h fun h1 h2 => ?_
  cases q : isI x [16] with
  | false => exact (xf h1).call q nm env w
  | true =>
    rw [q] at h2
    exact xCallE (P := fun x => attributeBase x nm env w = w) h2 fun f l k p h => an h fun h3 h4 => (xf h3).name (nt h4) l k p nm env w
end PL
end
section
namespace PL
open PySem.W.Fast (sEq sEq_iff lEq lEq_iff)
structure Tc where
  tb : List Str
  gl : List (Str × Option V)
  fa : List Nat
  ca : List Nat
structure TcOk (W : Wd) (t : Tc) : Prop where
  tb : W.tb = t.tb
  gl : ∀ x v, (x, some v) ∈ t.gl → ∃ y, VR .nil v y ∧ nsIn W.K mainGlobals x = some (some y)
  bt : ∀ x, (x, none) ∈ t.gl → nsIn W.K mainGlobals x = some none
  fa : ∀ f, t.fa.any (Nat.beq f) = true → keepIn W.K (.ref f) = true ∧ f < BIG
  ca : ∀ c, t.ca.any (Nat.beq c) = true → keepIn W.K (.ref c) = true ∧ makesIn W.K c = true
noncomputable def lkS {β : Type} (x : Str) : List (Str × β) → Option β
  | [] => none
  | (y, v) :: r => bif sEq x y then some v else lkS x r
theorem sEq_beq (x y : Str) : sEq x y = (x == y) := by
  rw [Bool.eq_iff_iff, sEq_iff, beq_iff_eq]
theorem lkS_eq {β : Type} (x : Str) : ∀ l : List (Str × β), lkS x l = l.lookup x
  | [] => rfl
  | (y, v) :: r => by
    show (bif sEq x y then some v else lkS x r) = _
    rw [List.lookup_cons, sEq_beq, lkS_eq x r]
    cases x == y <;> rfl
theorem lkS_mem {β : Type} {x : Str} {v : β} : ∀ {l : List (Str × β)}, lkS x l = some v → (x, v) ∈ l
  | [], h => noE h
  | (y, w) :: r, h => by
    have h1 : (bif sEq x y then some w else lkS x r) = some v := h
    cases q : sEq x y with
    | true =>
      rw [q] at h1
      obtain rfl := sEq_iff.mp q
      obtain rfl : w = v := Option.some.inj h1
      exact .head _
    | false => rw [q] at h1; exact .tail _ (lkS_mem h1)
noncomputable def nmK (l : List (Str × NameKind)) (x : Str) (k : NameKind) : Bool := match lkS x l with | some k' => decide (k' = k) | none => false
theorem nmK_ok {l : List (Str × NameKind)} {x : Str} {k : NameKind} (h : nmK l x k = true) : l.lookup x = some k := by
  unfold nmK at h
  rw [lkS_eq] at h
  cases q : l.lookup x with
  | none => rw [q] at h; exact noB h
  | some k' => rw [q] at h; rw [of_decide_eq_true h]
noncomputable def nmI (tb : List Str) (i : Nat) (x : Str) : Bool := match tb[i]? with | some y => sEq y x | none => false
theorem nmI_ok {tb : List Str} {i : Nat} {x : Str} (h : nmI tb i x = true) : tb[i]? = some x := by
  unfold nmI at h
  cases q : tb[i]? with
  | none => rw [q] at h; exact noB h
  | some k' => rw [q] at h; rw [sEq_iff.mp h]
noncomputable def eqVb (v w : V) : Bool := match v with
  | .none => (match w with | .none => true | _ => false)
  | .bool a => (match w with | .bool b => decide (a = b) | _ => false)
  | .int a => (match w with | .int b => decide (a = b) | _ => false)
  | .str a => (match w with | .str b => lEq a b | _ => false)
  | .sref a => (match w with | .sref b => Nat.beq a b | _ => false)
  | _ => false
theorem eqVb_ok {v w : V} (h : eqVb v w = true) : v = w := by
  cases v with
  | none => cases w <;> first | rfl | exact noB h
  | bool a => cases w <;> first | exact noB h | exact congrArg V.bool (of_decide_eq_true h)
  | int a => cases w <;> first | exact noB h | exact congrArg V.int (of_decide_eq_true h)
  | str a => cases w <;> first | exact noB h | exact congrArg V.str (lEq_iff.mp h)
  | sref a => cases w <;> first | exact noB h | exact congrArg V.sref (Nat.eq_of_beq_eq_true h)
  | _ => exact noB h
noncomputable def constV (c : Const) : Option V := match c with
  | .none => some .none
  | .bool b => some (.bool b)
  | .int i => some (.int i)
  | .str s => bif Nat.ble s.cps.toList.length 100000 then some (.str s.cps.toList) else none
  | _ => none
noncomputable def cEq (c : Const) (v : V) : Bool := match constV c with | some w => eqVb w v | none => false
section
variable {W : Wd} {cx : Cx} {cs : Scope} {cp : Option Cp} {d : Nat}
theorem cEq_ok {c : Const} {v : V} (h : cEq c v = true) {k : Nat} {p : Pos} : OkE W cx cs cp d (.const v) (.Constant c k p) := by
  unfold cEq at h
  cases q : constV c with
  | none => rw [q] at h; exact noB h
  | some w =>
    rw [q] at h
    obtain rfl := eqVb_ok h
    cases c with
    | none => obtain rfl := Option.some.inj q; exact okC_none
    | bool b => obtain rfl := Option.some.inj q; exact okC_bool
    | int i => obtain rfl := Option.some.inj q; exact okC_int
    | str s =>
      have q : (bif Nat.ble s.cps.toList.length 100000 then some (V.str s.cps.toList) else none) = some w := q
      cases hb : Nat.ble s.cps.toList.length 100000 with
      | false => rw [hb] at q; exact noE q
      | true =>
        rw [hb] at q
        obtain rfl := Option.some.inj q
        exact okC_str rfl (Nat.le_of_ble_eq_true hb)
    | _ => exact noE q
end
noncomputable def dbg : Str := Str.ofString "__debug__"
noncomputable def gOk (t : Tc) (x : Str) (v : V) : Bool := match lkS x t.gl with | some o => (match o with | some w => eqVb w v | none => false) | none => false
noncomputable def bOk (t : Tc) (x : Str) : Bool := match lkS x t.gl with | some o => rNone o | none => false
theorem dbg_ok {x : Str} (h : (!sEq x dbg) = true) : (x == ("__debug__" : Str)) = false := (sEq_beq x dbg).symm.trans (nt h)
section
variable {W : Wd} {t : Tc} (T : TcOk W t)
include T
theorem gOk_ok {x : Str} {v : V} (h : gOk t x v = true) : ∃ y, VR .nil v y ∧ nsIn W.K mainGlobals x = some (some y) := by
  unfold gOk at h
  cases q : lkS x t.gl with
  | none => rw [q] at h; exact noB h
  | some o =>
    rw [q] at h
    cases o with
    | none => exact noB h
    | some w => obtain rfl := eqVb_ok h; exact T.gl x w (lkS_mem q)
theorem bOk_ok {x : Str} (h : bOk t x = true) : nsIn W.K mainGlobals x = some none := by
  unfold bOk at h
  cases q : lkS x t.gl with
  | none => rw [q] at h; exact noB h
  | some o => rw [q] at h; obtain rfl := rNoneE h; exact T.bt x (lkS_mem q)
end
noncomputable def unN (op : UOp) : Str := match op with
  | .len => Str.ofString "len" | .ord => Str.ofString "ord" | .chr => Str.ofString "chr" | .sum => Str.ofString "sum" | .listOf => Str.ofString "list" | .dictOf => Str.ofString "dict" | .range => Str.ofString "range"
noncomputable def unB (op : UOp) : Value := match op with
  | .len => .builtin "len" | .ord => .builtin "ord" | .chr => .builtin "chr" | .sum => .builtin "sum" | .listOf => .type "list" | .dictOf => .type "dict" | .range => .type "range"
structure UnOk (op : UOp) : Prop where
  v : bootBuiltins (unN op) = some (unB op)
  n : unN op ≠ "__name__"
  d : (unN op == ("__debug__" : Str)) = false
  r : ∀ a, unB op ≠ .ref a
theorem un_boot (op : UOp) : UnOk op := by
  cases op with
  | len => exact ⟨by show bootBuiltins (Str.ofString "len") = _; boot_by_name, by decide, by kernel_rfl, fun a h => nomatch h⟩
  | ord => exact ⟨by show bootBuiltins (Str.ofString "ord") = _; boot_by_name, by decide, by kernel_rfl, fun a h => nomatch h⟩
  | chr => exact ⟨by show bootBuiltins (Str.ofString "chr") = _; boot_by_name, by decide, by kernel_rfl, fun a h => nomatch h⟩
  | sum => exact ⟨by show bootBuiltins (Str.ofString "sum") = _; boot_by_name, by decide, by kernel_rfl, fun a h => nomatch h⟩
  | listOf => exact ⟨by show bootBuiltins (Str.ofString "list") = _; boot_by_name, by decide, by kernel_rfl, fun a h => nomatch h⟩
  | dictOf => exact ⟨by show bootBuiltins (Str.ofString "dict") = _; boot_by_name, by decide, by kernel_rfl, fun a h => nomatch h⟩
  | range => exact ⟨by show bootBuiltins (Str.ofString "range") = _; boot_by_name, by decide, by kernel_rfl, fun a h => nomatch h⟩
noncomputable def bmN (op : MOp) : Str := match op with
  | .append => Str.ofString "append" | .popAt => Str.ofString "pop" | .join => Str.ofString "join" | .count3 => Str.ofString "count" | .rfind3 => Str.ofString "rfind" | .split => Str.ofString "split" | .update => Str.ofString "update"
noncomputable def bmI (op : MOp) : String := match op with
  | .append => "list.append" | .popAt => "list.pop" | .join => "str.join" | .count3 => "str.count" | .rfind3 => "str.rfind" | .split => "str.split" | .update => "dict.update"
section
variable {W : Wd} {cx : Cx} {d : Nat}
theorem un_val (G : GOk W cx d) (op : UOp) : Val1 W cx d (unB op) (unF cx op) := by
  cases op with
  | len => exact len_ok G
  | ord => exact ord_ok
  | chr => exact chr_ok
  | sum => exact sum_ok G
  | listOf => exact listOf_ok G
  | dictOf => exact dictOf_ok
  | range => exact range_ok
theorem isStrV_of {v : V} (h : isStrV v = true) : ∃ s, v = .str s := by
  cases v with
  | str s => exact ⟨s, rfl⟩
  | _ => exact noB h
theorem get_strB {id : String} {nm : Str} (slot : Slot "str" nm id) (ty : typeOf (.builtin id) = pure (.type "method_descriptor")) : GetM W id nm (fun o σ => isStrV o = true) :=
  fun c m X σ ps h tk o x pl A Q E g dr os S ra hP hq => get_str slot ty c S ra (isStrV_of hP) hq
theorem bm_get (op : MOp) : GetM W (bmI op) (bmN op) (fun o σ => bmP op σ o = true) := by
  cases op with
  | append => exact get_list PySem.F.slot_list_append PySem.F.type_list_append
  | popAt => exact get_list PySem.F.slot_list_pop PySem.F.type_list_pop
  | join => exact get_strB PySem.F.slot_str_join PySem.F.type_str_join
  | count3 => exact get_strB PySem.F.slot_str_count PySem.F.type_str_count
  | rfind3 => exact get_strB PySem.F.slot_str_rfind PySem.F.type_str_rfind
  | split => exact get_strB PySem.F.slot_str_split PySem.F.type_str_split
  | update => exact get_dict PySem.F.slot_dict_update PySem.F.type_dict_update
theorem bm_val (G : GOk W cx d) (op : MOp) : ValM W cx d (bmI op) (bmF cx op) := by
  cases op with
  | append => exact append_ok
  | popAt => exact popAt_ok
  | join => exact join_ok G
  | count3 => exact count3_ok
  | rfind3 => exact rfind3_ok
  | split => exact split_ok
  | update => exact update_ok
end
section
variable {W : Wd} {cx : Cx} {cs : Scope} {cp : Option Cp} {d : Nat}
theorem bif_E {β : Type} {a : Bool} {x : Option β} {y : β} {p : Prop} (e : (bif a then x else none) = some y) (k : a = true → x = some y → p) : p := by
  cases a with
  | true => exact k rfl e
  | false => exact noE e
theorem okEs_of {es : List PE} {xs : List PySem.Expr} (h : All2 (fun e x => OkE W cx cs cp d e x) es xs) (hs : xs.all ordX = true) : OkEs W cx cs cp d es xs ∧ ∀ pos env, (backTo pos (starEach xs env)).any (·.1) = false := by
  induction h with
  | nil => exact ⟨okEs_nil, fun pos env => rfl⟩
  | @cons e x es xs h _ ih =>
    refine an (show (ordX x && xs.all ordX) = true from hs) fun h1 h2 => ordF h1 fun f q => ?_
    obtain ⟨i1, i2⟩ := ih h2
    refine ⟨okEs_cons h i1 (f.star q xs), fun pos env => ?_⟩
    rw [f.star q]
    exact i2 pos env
theorem dict_l {P : PE → PySem.Expr → Prop} : ∀ {ks : List (List Nat)} {es : List PE} {keys : List (Option PySem.Expr)} {values : List PySem.Expr}, All2 (fun k x => ∃ n pos, x = some (PySem.Expr.Constant (.str (toS k)) n pos)) ks keys → All2 P es values → ks.length = es.length →
    ∃ l : List (PySem.Expr × PySem.Expr), (keys = l.map fun p => some p.1) ∧ values = l.map (·.2) ∧ KeysAre ks l ∧ All2 (fun e p => P e p.2) es l := by
  intro ks es keys values h1
  induction h1 generalizing es values with
  | nil =>
    intro h2 hl
    cases h2 with
    | nil => exact ⟨[], rfl, rfl, .nil, .nil⟩
    | cons _ _ => cases hl
  | cons h _ ih =>
    intro h2 hl
    cases h2 with
    | nil => cases hl
    | @cons e x es xs h2 h3 =>
      obtain ⟨n, pos, rfl⟩ := h
      obtain ⟨l, q1, q2, q3, q4⟩ := ih h3 (Nat.succ.inj hl)
      exact ⟨(_, x) :: l, congrArg (_ :: ·) q1, congrArg (x :: ·) q2, .cons ⟨n, pos, rfl⟩ q3, .cons h2 q4⟩
theorem methArm {x : PySem.Expr} {nm : Str} {apos pos : Pos} {xs : List PySem.Expr} (h1 : noCall x = true) (hp : ∀ pos env, (backTo pos (starEach xs env)).any (·.1) = false) (h3 : Nat.blt xs.length 30 = true) (h4 : Nat.beq apos.endLine pos.line = true) : ∀ env, ∃ pl, eval (.Call (.Attribute x nm apos) xs [] pos) env = (do
      let ov ← eval x env
      standAt apos.atName
      let (f, first) ← holding [ov] (getMethod ov nm pl)
      callWith pos f first (backTo pos (starEach xs env)) []) := by
  intro env
  refine ⟨(do return (← importBound x env).getD true), ?_⟩
  have e1 : methodCallForm (xs.length + ([] : List Keyword).length) (backTo pos (starEach xs env)) (backToKw pos (keywordEach [] env)) = true := by
    unfold methodCallForm
    have : (backTo pos (starEach xs env)).all (!·.1) = true := by
      have := hp pos env
      rw [List.all_eq_not_any_not]
      simpa using this
    rw [this]
    show (true && true && decide (xs.length + 0 + 0 < 30)) = true
    rw [decide_eq_true (by simpa using h3)]; rfl
  have e2 : methodCallPos true x env apos pos = pure pos := by
    unfold methodCallPos
    have : (apos.endLine == pos.line) = true := beq_iff_eq.mpr (Nat.eq_of_beq_eq_true h4)
    rw [this]; rfl
  show (do let ov ← attributeBase x nm env (eval x env); standAt apos.atName; methodCall x nm apos pos env ov (xs.length + ([] : List Keyword).length) (backTo pos (starEach xs env)) (backToKw pos (keywordEach [] env))) = _
  rw [noCall_eq h1]
  unfold methodCall
  rw [e1, e2]
  rfl
end
end PL
end
section
namespace PL
open PySem.W.Fast (sEq sEq_iff lEq lEq_iff)
structure Ck where
  e : Option Cp → PySem.Expr → Bool
  t : Option Cp → PySem.Expr → Bool
  a : BoolOp → Option Cp → List PySem.Expr → Bool
  b : BoolOp → Option Cp → List PySem.Expr → Bool
noncomputable def ckT (e t : Option Cp → PySem.Expr → Bool) : Ck := ⟨e, t, fun op cp xs => r1 xs (t cp), fun op cp xs => r1 xs (e cp)⟩
noncomputable def ckP (e : Option Cp → PySem.Expr → Bool) : Ck := ckT e fun cp x => plainT x && e cp x
noncomputable def scB (sc : Scope) : Bool := decide (sc.kind = .function) && sc.names.all fun p => decide (p.2 ≠ .free) && decide (p.2 ≠ .cell) && (decide (p.2 ≠ .local) || nmK sc.names p.1 .local)
noncomputable def nmL (tb : List Str) (l : List (Str × NameKind)) : List Nat → List PySem.Expr → Bool
  | [], xs => rNil xs
  | i :: is, xs => rCons xs fun x r => (xName x fun n => nmI tb i n && nmK l n .local) && nmL tb l is r
noncomputable def tgB (tb : List Str) (l : List (Str × NameKind)) (t : Ft) (x : PySem.Expr) : Bool := match t with
  | .one i => xName x fun n => nmI tb i n && nmK l n .local
  | .many is => xTuple x fun xs => nmL tb l is xs
noncomputable def isNoneC (e : PE) : Bool := match e with | .const v => eqVb v .none | _ => false
noncomputable def ckPart (e : PE) (k : PySem.Expr → Bool) (x : Option PySem.Expr) : Bool := match x with | some x => k x | none => isNoneC e
noncomputable def keysB : List (List Nat) → List (Option PySem.Expr) → Bool
  | [], xs => rNil xs
  | k :: ks, xs => rCons xs fun x r => (rSome x fun x => xConstant x fun c => match c with | .str s => lEq k s.cps.toList | _ => false) && keysB ks r
noncomputable def compB (g : List Comprehension) (k : PySem.Expr → PySem.Expr → List Comprehension → Bool) : Bool := rCons g fun c r => rNil c.ifs && decide (c.is_async = 0) && ordX c.iter && k c.target c.iter r
noncomputable def callB (x : PySem.Expr) (k : Str → List PySem.Expr → Bool) : Bool := xCall x fun f xs kw p => rNil kw && xs.all ordX && xName f fun n => !sEq n dbg && k n xs
noncomputable def methB (x : PySem.Expr) (k : PySem.Expr → Str → List PySem.Expr → Bool) : Bool := xCall x fun f xs kw p => rNil kw && xs.all ordX && Nat.blt xs.length 30 && xAttribute f fun y n ap => Nat.beq ap.endLine p.line && noCall y && k y n xs
noncomputable def strB (x : PySem.Expr) (k : List Nat) : Bool := xConstant x fun c => match c with | .str s => lEq k s.cps.toList | _ => false
noncomputable def globB (t : Tc) (sc : Scope) (n : Str) (v : V) : Bool := gOk t n v && nmK sc.names n .globalImplicit
noncomputable def neg1 (x : PySem.Expr) : Bool := xUnaryOp x fun op y => decide (op = .USub) && xConstant y fun c => cEq c (.int 1)
mutual
noncomputable def ck (t : Tc) (cs : Scope) : PE → Ck
  | .const v => ckP fun cp x => xConstant x fun c => cEq c v
  | .loc i => ckP fun cp x => xName x fun n => !sEq n dbg && nmI t.tb i n && nmK (scOf cs cp).names n .local && (match cp with | none => true | some p => p.2.any (Nat.beq i))
  | .glob v => ckP fun cp x => xName x fun n => !sEq n dbg && globB t (scOf cs cp) n v
  | .attr e f => ckP fun cp x => xAttribute x fun y n p => (ck t cs e).e cp y && nmI t.tb f n && noCall y
  | .sub e i => ckP fun cp x => xSubscript x fun y z => (ck t cs e).e cp y && (ck t cs i).e cp z && ordX z
  | .slice e lo hi => ckP fun cp x => xSubscript x fun y z => (ck t cs e).e cp y && xSlice z fun a b c => ckPart lo ((ck t cs lo).e cp) a && ckPart hi ((ck t cs hi).e cp) b && rNone c
  | .rev e => ckP fun cp x => xSubscript x fun y z => (ck t cs e).e cp y && xSlice z fun a b c => rNone a && rNone b && rSome c neg1
  | .bin op l r => ckP fun cp x => xBinOp x fun y o z => decide (o = opB op) && (ck t cs l).e cp y && (ck t cs r).e cp z
  | .cmp op l r =>
    let f (a b : Option Cp → PySem.Expr → Bool) : Option Cp → PySem.Expr → Bool := fun cp x => xCompare x fun y os zs => r1 os fun o => r1 zs fun z => decide (o = opC op) && a cp y && b cp z && ordX z
    ckT (f (ck t cs l).e (ck t cs r).e) (f (ck t cs l).e (ck t cs r).e)
  | .chain o1 o2 u v w =>
    let f (a b c : Option Cp → PySem.Expr → Bool) : Option Cp → PySem.Expr → Bool := fun cp x => xCompare x fun y os zs => rCons os fun p os => r1 os fun q => rCons zs fun z zs => r1 zs fun k => decide (p = opC o1) && decide (q = opC o2) && a cp y && b cp z && c cp k && ordX k
    ckT (f (ck t cs u).e (ck t cs v).e (ck t cs w).e) (f (ck t cs u).e (ck t cs v).e (ck t cs w).e)
  | .notE e => ckT (fun cp x => xUnaryOp x fun op y => decide (op = .Not) && (ck t cs e).e cp y) fun cp x => xUnaryOp x fun op y => decide (op = .Not) && (ck t cs e).t cp y
  | .neg e => ckP fun cp x => xUnaryOp x fun op y => decide (op = .USub) && (ck t cs e).e cp y
  | .andE l r =>
    let b : Option Cp → List PySem.Expr → Bool := fun cp xs => rCons xs fun x r0 => rCons r0 fun y ys => (ck t cs l).e cp x && (ck t cs r).b .And cp r0
    let a : Option Cp → List PySem.Expr → Bool := fun cp xs => rCons xs fun x r0 => (ck t cs l).t cp x && (ck t cs r).a .And cp r0
    ⟨fun cp x => xBoolOp x fun op xs => decide (op = .And) && b cp xs, fun cp x => xBoolOp x fun op xs => decide (op = .And) && a cp xs, fun op cp xs => decide (op = .And) && a cp xs, fun op cp xs => decide (op = .And) && b cp xs⟩
  | .orE l r =>
    let b : Option Cp → List PySem.Expr → Bool := fun cp xs => rCons xs fun x r0 => rCons r0 fun y ys => (ck t cs l).e cp x && (ck t cs r).b .Or cp r0
    let a : Option Cp → List PySem.Expr → Bool := fun cp xs => rCons xs fun x r0 => (ck t cs l).t cp x && (ck t cs r).a .Or cp r0
    ⟨fun cp x => xBoolOp x fun op xs => decide (op = .Or) && b cp xs, fun cp x => xBoolOp x fun op xs => decide (op = .Or) && a cp xs, fun op cp xs => decide (op = .Or) && a cp xs, fun op cp xs => decide (op = .Or) && b cp xs⟩
  | .ife u b o => ckP fun cp x => xIfExp x fun y z w => (ck t cs u).t cp y && (ck t cs b).e cp z && (ck t cs o).e cp w
  | .listE es => ckP fun cp x => xList x fun xs => ckl t cs es cp xs && xs.all ordX
  | .tupE es => ckP fun cp x => xTuple x fun xs => ckl t cs es cp xs && xs.all ordX
  | .dictE ks es => ckP fun cp x => xDict x fun keys vs => bif ks.isEmpty then es.isEmpty && rNil keys && rNil vs else Nat.beq ks.length es.length && keysB ks keys && ckl t cs es cp vs
  | .comp f it el => ckP fun cp x => xListComp x fun y g sc => scB sc && compB g fun tg z r => rNil r && tgB t.tb sc.names f tg && (ck t cs it).e cp z && (ck t cs el).e (some (sc, tgs f ++ [])) y
  | .comp2 f it f2 it2 el => ckP fun cp x => xListComp x fun y g sc => scB sc && compB g fun tg z r => compB r fun tg2 z2 r => rNil r && tgB t.tb sc.names f tg && tgB t.tb sc.names f2 tg2 && decide (∀ j ∈ tgs f ++ [], j ∉ tgs f2) &&
      (ck t cs it).e cp z && (ck t cs it2).e (some (sc, tgs f ++ [])) z2 && (ck t cs el).e (some (sc, tgs f2 ++ (tgs f ++ []))) y
  | .call f es => ckP fun cp x => callB x fun n xs => globB t (scOf cs cp) n (.sref f) && t.fa.any (Nat.beq f) && ckl t cs es cp xs
  | .new c es => ckP fun cp x => callB x fun n xs => globB t (scOf cs cp) n (.sref c) && t.ca.any (Nat.beq c) && ckl t cs es cp xs
  | .meth o m es => ckP fun cp x => methB x fun y n xs => (ck t cs o).e cp y && nmI t.tb m n && ckl t cs es cp xs
  | .replC o a b => ckP fun cp x => methB x fun y n xs => sEq n (Str.ofString "replace") && (ck t cs o).e cp y && rCons xs fun u r => r1 r fun w => strB u a && strB w b
  | .un op e => ckP fun cp x => callB x fun n xs => sEq n (unN op) && bOk t n && nmK (scOf cs cp).names n .globalImplicit && r1 xs fun y => (ck t cs e).e cp y
  | .bm op o es => ckP fun cp x => methB x fun y n xs => sEq n (bmN op) && (ck t cs o).e cp y && ckl t cs es cp xs
termination_by structural e => e
noncomputable def ckl (t : Tc) (cs : Scope) : List PE → Option Cp → List PySem.Expr → Bool
  | [], cp, xs => rNil xs
  | e :: es, cp, xs => rCons xs fun x r => (ck t cs e).e cp x && ckl t cs es cp r
termination_by structural e => e
end
end PL
end
section
namespace PL
open PySem.W.Fast (sEq sEq_iff lEq lEq_iff)
section
variable {W : Wd} {cx : Cx} {cs : Scope} {d : Nat} {t : Tc}
structure CkOk (W : Wd) (cx : Cx) (cs : Scope) (d : Nat) (pe : PE) (k : Ck) : Prop where
  e : ∀ cp x, (scOf cs cp).kind = .function → k.e cp x = true → OkE W cx cs cp d pe x
  t : ∀ cp x, (scOf cs cp).kind = .function → k.t cp x = true → OkT W cx cs cp d pe x
  a : ∀ op cp xs, (scOf cs cp).kind = .function → k.a op cp xs = true → OkA W cx cs cp d op pe xs
  b : ∀ op cp xs, (scOf cs cp).kind = .function → k.b op cp xs = true → OkB W cx cs cp d op pe xs
theorem ckT_ok {e : PE} {f g : Option Cp → PySem.Expr → Bool} (he : ∀ cp x, (scOf cs cp).kind = .function → f cp x = true → OkE W cx cs cp d e x) (ht : ∀ cp x, (scOf cs cp).kind = .function → g cp x = true → OkT W cx cs cp d e x) : CkOk W cx cs d e (ckT f g) :=
  ⟨he, ht, fun op cp xs hk h => r1E (P := fun xs => OkA W cx cs cp d op e xs) h fun x h => okA_one (ht cp x hk h), fun op cp xs hk h => r1E (P := fun xs => OkB W cx cs cp d op e xs) h fun x h => okB_one (he cp x hk h)⟩
theorem ckP_ok (G : GOk W cx d) {e : PE} {f : Option Cp → PySem.Expr → Bool} (hv : ∀ L σ, evT cx e L σ = (evE cx e L σ).bind fun (v, σ1) => (truthyV cx σ1 v).map fun b => (b, σ1)) (he : ∀ cp x, (scOf cs cp).kind = .function → f cp x = true → OkE W cx cs cp d e x) : CkOk W cx cs d e (ckP f) :=
  ckT_ok he fun cp x hk h => an h fun h1 h2 => okT_val G (he cp x hk h2) hv (plainT_eq h1)
theorem sc_ok {sc : Scope} (h : scB sc = true) : ScOk sc := by
  refine an h fun h1 h2 => ?_
  have h2 := List.all_eq_true.mp h2
  refine ⟨fun x hx => ?_, fun x hx => ?_, of_decide_eq_true h1, fun x hx e => ?_⟩
  · exact an (h2 x hx) fun h qq1 => an h fun h qq1 => of_decide_eq_true h
  · exact an (h2 x hx) fun h qq1 => an h fun qq1 h => of_decide_eq_true h
  · refine an (h2 x hx) fun qq1 h => ?_
    rw [e] at h
    exact nmK_ok h
theorem nmL_ok (T : TcOk W t) {l : List (Str × NameKind)} : ∀ {is : List Nat} {xs : List PySem.Expr}, nmL t.tb l is xs = true → All2 (fun i e => ∃ x q, e = PySem.Expr.Name x q ∧ W.tb[i]? = some x ∧ l.lookup x = some .local) is xs
  | [], xs, h => by rw [rNilE h]; exact .nil
  | i :: is, xs, h => rConsE (P := fun xs => All2 _ (i :: is) xs) h fun x r h => an h fun h1 h2 => .cons (xNameE (P := fun e => ∃ x q, e = PySem.Expr.Name x q ∧ W.tb[i]? = some x ∧ l.lookup x = some .local) h1 fun n p h => an h fun h3 h4 => ⟨n, p, rfl, T.tb ▸ nmI_ok h3, nmK_ok h4⟩) (nmL_ok T h2)
theorem tgB_ok (T : TcOk W t) {l : List (Str × NameKind)} {f : Ft} {x : PySem.Expr} (h : tgB t.tb l f x = true) : TgOk W l f x := by
  cases f with
  | one i => exact xNameE h fun n p h => an h fun h3 h4 => .one (T.tb ▸ nmI_ok h3) (nmK_ok h4)
  | many is => exact xTupleE h fun xs j p h => .many (nmL_ok T h)
theorem ckPart_ok {cp : Option Cp} {e : PE} {k : PySem.Expr → Bool} {x : Option PySem.Expr} (he : ∀ x, k x = true → OkE W cx cs cp d e x) (h : ckPart e k x = true) : OkP W cx cs cp d e x := by
  cases x with
  | some x => exact okP_some (he x h)
  | none =>
    cases e with
    | const v => obtain rfl := eqVb_ok (show eqVb v .none = true from h); exact okP_none
    | _ => exact noB h
theorem strK {c : Const} {k : List Nat} (h : (match c with | .str s => lEq k s.cps.toList | _ => false) = true) : c = .str (toS k) := by
  cases c with
  | str s => rw [lEq_iff.mp h]; exact congrArg Const.str (toS_ofS s).symm
  | _ => exact noB h
theorem keysB_ok : ∀ {ks : List (List Nat)} {xs : List (Option PySem.Expr)}, keysB ks xs = true → All2 (fun k x => ∃ n pos, x = some (PySem.Expr.Constant (.str (toS k)) n pos)) ks xs
  | [], xs, h => by rw [rNilE h]; exact .nil
  | k :: ks, xs, h => rConsE (P := fun xs => All2 _ (k :: ks) xs) h fun x r h => an h fun h1 h2 => .cons (rSomeE (P := fun x => ∃ n pos, x = some (PySem.Expr.Constant (.str (toS k)) n pos)) h1 fun x h => xConstantE (P := fun x => ∃ n pos, some x = some (PySem.Expr.Constant (.str (toS k)) n pos)) h fun c j p h => ⟨j, p, by rw [strK h]⟩) (keysB_ok h2)
theorem compB_E {P : List Comprehension → Prop} {g : List Comprehension} {k : PySem.Expr → PySem.Expr → List Comprehension → Bool} (h : compB g k = true) (H : ∀ tg it r, ordX it = true → k tg it r = true → P (⟨tg, it, [], 0⟩ :: r)) : P g := by
  refine rConsE h fun c r h => an h fun h h4 => an h fun h h3 => an h fun h1 h2 => ?_
  obtain ⟨tg, it, ifs, a⟩ := c
  obtain rfl : ifs = [] := rNilE h1
  obtain rfl : a = 0 := of_decide_eq_true h2
  exact H tg it r h3 h4
theorem chkCallE {P : PySem.Expr → Prop} {x : PySem.Expr} {k : Str → List PySem.Expr → Bool} (h : callB x k = true) (H : ∀ n q xs p, xs.all ordX = true → (n == ("__debug__" : Str)) = false → k n xs = true → P (.Call (.Name n q) xs [] p)) : P x := by
  refine xCallE h fun f l kw p h => an h fun h h3 => an h fun h1 h2 => ?_
  obtain rfl := rNilE h1
  exact xNameE (P := fun f => P (.Call f l [] p)) h3 fun n q h => an h fun h4 h5 => H n q l p h2 (dbg_ok h4) h5
theorem chkMethE {P : PySem.Expr → Prop} {x : PySem.Expr} {k : PySem.Expr → Str → List PySem.Expr → Bool} (h : methB x k = true) (H : ∀ y n q xs p, xs.all ordX = true → Nat.blt xs.length 30 = true → Nat.beq q.endLine p.line = true → noCall y = true → k y n xs = true → P (.Call (.Attribute y n q) xs [] p)) : P x := by
  refine xCallE h fun f l kw p h => an h fun h h4 => an h fun h h3 => an h fun h1 h2 => ?_
  obtain rfl := rNilE h1
  exact xAttributeE (P := fun f => P (.Call f l [] p)) h4 fun y n q h => an h fun h h7 => an h fun h5 h6 => H y n q l p h2 h3 h5 h6 h7
theorem glob_ok (T : TcOk W t) {cp : Option Cp} {n : Str} {v : V} {p : Pos} (hk : (scOf cs cp).kind = .function) (hd : (n == ("__debug__" : Str)) = false) (h : globB t (scOf cs cp) n v = true) : OkE W cx cs cp d (.glob v) (.Name n p) :=
  an h fun h1 h2 => let ⟨y, r, g⟩ := gOk_ok T h1; ok_glob r g (nmK_ok h2) hk hd
theorem neg1_ok {cp : Option Cp} {x : PySem.Expr} (h : neg1 x = true) : OkE W cx cs cp d (.neg (.const (.int 1))) x :=
  xUnaryOpE h fun op y p h => an h fun h1 h2 => by
    obtain rfl := of_decide_eq_true h1
    exact ok_neg (xConstantE h2 fun c j p h => cEq_ok h)
theorem ck_ok (T : TcOk W t) (gx : GX W cx d) (e : PE) : CkOk W cx cs d e (ck t cs e) := by
  refine PE.rec (motive_1 := fun e => CkOk W cx cs d e (ck t cs e)) (motive_2 := fun es => ∀ cp xs, (scOf cs cp).kind = .function → ckl t cs es cp xs = true → All2 (fun e x => OkE W cx cs cp d e x) es xs)
    ?const ?loc ?glob ?attr ?sub ?slice ?rev ?bin ?cmp ?chain ?notE ?neg ?andE ?orE ?ife ?listE ?tupE ?dictE ?comp ?comp2 ?call ?new ?meth ?replC ?un ?bm ?nil ?cons e
  case const => exact fun v => ckP_ok gx.G (fun qq1 qq2 => rfl) fun cp x hk h => xConstantE h fun c j p h => cEq_ok h
  case loc =>
    refine fun i => ckP_ok gx.G (fun qq1 qq2 => rfl) fun cp x hk h => xNameE h fun n p h => an h fun h h4 => an h fun h h3 => an h fun h1 h2 => ok_loc (T.tb ▸ nmI_ok h2) ?_ (nmK_ok h3) hk (dbg_ok h1)
    cases cp with
    | none => exact trivial
    | some q =>
      obtain ⟨j, hj, e⟩ := List.any_eq_true.mp h4
      exact Nat.eq_of_beq_eq_true e ▸ hj
  case glob => exact fun v => ckP_ok gx.G (fun qq1 qq2 => rfl) fun cp x hk h => xNameE h fun n p h => an h fun h1 h2 => glob_ok T hk (dbg_ok h1) h2
  case attr => exact fun e f ih => ckP_ok gx.G (fun qq1 qq2 => rfl) fun cp x hk h => xAttributeE h fun y n p h => an h fun h h3 => an h fun h1 h2 => ok_attr gx.G (T.tb ▸ nmI_ok h2) (ih.e cp y hk h1) (noCall_eq h3 n)
  case sub => exact fun e i ih ih2 => ckP_ok gx.G (fun qq1 qq2 => rfl) fun cp x hk h => xSubscriptE h fun y z p h => an h fun h h3 => an h fun h1 h2 => ordF h3 fun f q => ok_sub gx.G (ih.e cp y hk h1) (ih2.e cp z hk h2) (f.sub q)
  case slice =>
    refine fun e lo hi ih ih2 ih3 => ckP_ok gx.G (fun qq1 qq2 => rfl) fun cp x hk h => xSubscriptE h fun y z p h => an h fun h1 h2 => xSliceE (P := fun z => OkE W cx cs cp d _ (.Subscript y z p)) h2 fun a b c q h => an h fun h h5 => an h fun h3 h4 => ?_
    obtain rfl := rNoneE h5
    exact ok_slice gx.G (ih.e cp y hk h1) (ckPart_ok (fun x h => ih2.e cp x hk h) h3) (ckPart_ok (fun x h => ih3.e cp x hk h) h4)
  case rev =>
    refine fun e ih => ckP_ok gx.G (fun qq1 qq2 => rfl) fun cp x hk h => xSubscriptE h fun y z p h => an h fun h1 h2 => xSliceE (P := fun z => OkE W cx cs cp d _ (.Subscript y z p)) h2 fun a b c q h => an h fun h h5 => an h fun h3 h4 => ?_
    obtain rfl := rNoneE h3
    obtain rfl := rNoneE h4
    exact rSomeE (P := fun c => OkE W cx cs cp d _ (.Subscript y (.Slice none none c q) p)) h5 fun s h => ok_rev gx.G (ih.e cp y hk h1) (neg1_ok h)
  case bin => exact fun op l r ih ih2 => ckP_ok gx.G (fun qq1 qq2 => rfl) fun cp x hk h => xBinOpE h fun y o z p h => an h fun h h3 => an h fun h1 h2 => of_decide_eq_true h1 ▸ ok_bin (ih.e cp y hk h2) (ih2.e cp z hk h3)
  case cmp =>
    refine fun op l r ih ih2 => ckT_ok (fun cp x hk h => xCompareE h fun y os zs p h => r1E (P := fun os => OkE W cx cs cp d _ (.Compare y os zs p)) h fun o h => r1E (P := fun zs => OkE W cx cs cp d _ (.Compare y [o] zs p)) h fun z h => an h fun h h4 => an h fun h h3 => an h fun h1 h2 => ordF h4 fun f q => of_decide_eq_true h1 ▸ ok_cmp gx.G (ih.e cp y hk h2) (ih2.e cp z hk h3) (f.mark q _))
      fun cp x hk h => xCompareE h fun y os zs p h => r1E (P := fun os => OkT W cx cs cp d _ (.Compare y os zs p)) h fun o h => r1E (P := fun zs => OkT W cx cs cp d _ (.Compare y [o] zs p)) h fun z h => an h fun h h4 => an h fun h h3 => an h fun h1 h2 => ordF h4 fun f q => of_decide_eq_true h1 ▸ okT_cmp gx.G (ih.e cp y hk h2) (ih2.e cp z hk h3) (f.mark q _)
  case chain =>
    refine fun o1 o2 u v w ih ih2 ih3 => ckT_ok (fun cp x hk h => xCompareE h fun y os zs p h => rConsE (P := fun os => OkE W cx cs cp d _ (.Compare y os zs p)) h fun a r h => r1E (P := fun r => OkE W cx cs cp d _ (.Compare y (a :: r) zs p)) h fun b h => rConsE (P := fun zs => OkE W cx cs cp d _ (.Compare y [a, b] zs p)) h fun z r h => r1E (P := fun r => OkE W cx cs cp d _ (.Compare y [a, b] (z :: r) p)) h fun k h => ?_)
      fun cp x hk h => xCompareE h fun y os zs p h => rConsE (P := fun os => OkT W cx cs cp d _ (.Compare y os zs p)) h fun a r h => r1E (P := fun r => OkT W cx cs cp d _ (.Compare y (a :: r) zs p)) h fun b h => rConsE (P := fun zs => OkT W cx cs cp d _ (.Compare y [a, b] zs p)) h fun z r h => r1E (P := fun r => OkT W cx cs cp d _ (.Compare y [a, b] (z :: r) p)) h fun k h => ?_
    all_goals
      refine an h fun h h6 => an h fun h h5 => an h fun h h4 => an h fun h h3 => an h fun h1 h2 => ordF h6 fun f q => ?_
      obtain rfl := of_decide_eq_true h1
      obtain rfl := of_decide_eq_true h2
    · exact ok_chain gx.G (ih.e cp y hk h3) (ih2.e cp z hk h4) (ih3.e cp k hk h5) (f.mark q _)
    · exact okT_chain gx.G (ih.e cp y hk h3) (ih2.e cp z hk h4) (ih3.e cp k hk h5) (f.mark q _)
  case notE =>
    refine fun e ih => ckT_ok (fun cp x hk h => xUnaryOpE h fun op y p h => an h fun h1 h2 => ?_) fun cp x hk h => xUnaryOpE h fun op y p h => an h fun h1 h2 => ?_
    all_goals obtain rfl := of_decide_eq_true h1
    · exact ok_not gx.G (ih.e cp y hk h2)
    · exact okT_not (ih.t cp y hk h2)
  case neg =>
    refine fun e ih => ckP_ok gx.G (fun qq1 qq2 => rfl) fun cp x hk h => xUnaryOpE h fun op y p h => an h fun h1 h2 => ?_
    obtain rfl := of_decide_eq_true h1
    exact ok_neg (ih.e cp y hk h2)
  case andE =>
    intro l r ih ih2
    have a : ∀ cp xs, (scOf cs cp).kind = .function → (rCons xs fun x r0 => (ck t cs l).t cp x && (ck t cs r).a .And cp r0) = true → OkA W cx cs cp d .And (.andE l r) xs := fun cp xs hk h => rConsE (P := fun xs => OkA W cx cs cp d .And (.andE l r) xs) h fun x r0 h => an h fun h1 h2 => okA_and (ih.t cp x hk h1) (ih2.a _ cp r0 hk h2)
    have b : ∀ cp xs, (scOf cs cp).kind = .function → (rCons xs fun x r0 => rCons r0 fun y ys => (ck t cs l).e cp x && (ck t cs r).b .And cp r0) = true → OkB W cx cs cp d .And (.andE l r) xs := fun cp xs hk h => rConsE (P := fun xs => OkB W cx cs cp d .And (.andE l r) xs) h fun x r0 h => rConsE (P := fun r0 => ((ck t cs l).e cp x && (ck t cs r).b .And cp r0) = true → OkB W cx cs cp d .And (.andE l r) (x :: r0)) h (fun y ys qq1 h => an h fun h1 h2 => okB_and gx.G (ih.e cp x hk h1) (ih2.b _ cp _ hk h2)) (by
      refine rConsE (P := fun r0 => (rCons r0 fun y ys => (ck t cs l).e cp x && (ck t cs r).b .And cp r0) = true → ((ck t cs l).e cp x && (ck t cs r).b .And cp r0) = true) h (fun y ys qq1 h => h) h)
    exact ⟨fun cp x hk h => xBoolOpE h fun op xs p h => an h fun h1 h2 => of_decide_eq_true h1 ▸ ok_bool (b cp xs hk h2), fun cp x hk h => xBoolOpE h fun op xs p h => an h fun h1 h2 => of_decide_eq_true h1 ▸ okT_bool (a cp xs hk h2), fun op cp xs hk h => an h fun h1 h2 => of_decide_eq_true h1 ▸ a cp xs hk h2, fun op cp xs hk h => an h fun h1 h2 => of_decide_eq_true h1 ▸ b cp xs hk h2⟩
  case orE =>
    intro l r ih ih2
    have a : ∀ cp xs, (scOf cs cp).kind = .function → (rCons xs fun x r0 => (ck t cs l).t cp x && (ck t cs r).a .Or cp r0) = true → OkA W cx cs cp d .Or (.orE l r) xs := fun cp xs hk h => rConsE (P := fun xs => OkA W cx cs cp d .Or (.orE l r) xs) h fun x r0 h => an h fun h1 h2 => okA_or (ih.t cp x hk h1) (ih2.a _ cp r0 hk h2)
    have b : ∀ cp xs, (scOf cs cp).kind = .function → (rCons xs fun x r0 => rCons r0 fun y ys => (ck t cs l).e cp x && (ck t cs r).b .Or cp r0) = true → OkB W cx cs cp d .Or (.orE l r) xs := fun cp xs hk h => rConsE (P := fun xs => OkB W cx cs cp d .Or (.orE l r) xs) h fun x r0 h => rConsE (P := fun r0 => ((ck t cs l).e cp x && (ck t cs r).b .Or cp r0) = true → OkB W cx cs cp d .Or (.orE l r) (x :: r0)) h (fun y ys qq1 h => an h fun h1 h2 => okB_or gx.G (ih.e cp x hk h1) (ih2.b _ cp _ hk h2)) (by
      refine rConsE (P := fun r0 => (rCons r0 fun y ys => (ck t cs l).e cp x && (ck t cs r).b .Or cp r0) = true → ((ck t cs l).e cp x && (ck t cs r).b .Or cp r0) = true) h (fun y ys qq1 h => h) h)
    exact ⟨fun cp x hk h => xBoolOpE h fun op xs p h => an h fun h1 h2 => of_decide_eq_true h1 ▸ ok_bool (b cp xs hk h2), fun cp x hk h => xBoolOpE h fun op xs p h => an h fun h1 h2 => of_decide_eq_true h1 ▸ okT_bool (a cp xs hk h2), fun op cp xs hk h => an h fun h1 h2 => of_decide_eq_true h1 ▸ a cp xs hk h2, fun op cp xs hk h => an h fun h1 h2 => of_decide_eq_true h1 ▸ b cp xs hk h2⟩
  case ife => exact fun u b o ih ih2 ih3 => ckP_ok gx.G (fun qq1 qq2 => rfl) fun cp x hk h => xIfExpE h fun y z w p h => an h fun h h3 => an h fun h1 h2 => ok_ife gx.G (ih.t cp y hk h1) (ih2.e cp z hk h2) (ih3.e cp w hk h3)
  case listE => exact fun es ih => ckP_ok gx.G (fun qq1 qq2 => rfl) fun cp x hk h => xListE h fun xs p h => an h fun h1 h2 => ok_list (okEs_of (ih cp xs hk h1) h2).1
  case tupE => exact fun es ih => ckP_ok gx.G (fun qq1 qq2 => rfl) fun cp x hk h => xTupleE h fun xs j p h => an h fun h1 h2 => ok_tup (okEs_of (ih cp xs hk h1) h2).1
  case dictE =>
    refine fun ks es ih => ckP_ok gx.G (fun qq1 qq2 => rfl) fun cp x hk h => xDictE h fun keys vs p h => ?_
    cases ks with
    | nil =>
      refine an h fun h h3 => an h fun h1 h2 => ?_
      obtain rfl := rNilE h2
      obtain rfl := rNilE h3
      obtain rfl : es = [] := List.isEmpty_iff.mp h1
      exact ok_dict0
    | cons k ks =>
      refine an h fun h h4 => an h fun h2 h3 => ?_
      obtain ⟨l, q1, q2, q3, q4⟩ := dict_l (keysB_ok h3) (ih cp vs hk h4) (Nat.eq_of_beq_eq_true h2)
      exact ok_dict q3 q4 q1 q2 fun e => nomatch e
  case comp =>
    refine fun f it el ih ih2 => ckP_ok gx.G (fun qq1 qq2 => rfl) fun cp x hk h => xListCompE h fun y g sc p h => an h fun h1 h2 => compB_E (P := fun g => OkE W cx cs cp d _ (.ListComp y g sc p)) h2 fun tg z r ho h => an h fun h h6 => an h fun h h5 => an h fun h3 h4 => ordF ho fun f q => ?_
    obtain rfl := rNilE h3
    have so := sc_ok h1
    exact ok_comp gx.G so (tgB_ok T h4) (ih.e cp z hk h5) (ih2.e _ y so.kind h6) (f.set q)
  case comp2 =>
    refine fun f it f2 it2 el ih ih2 ih3 => ckP_ok gx.G (fun qq1 qq2 => rfl) fun cp x hk h => xListCompE h fun y g sc p h => an h fun h1 h2 => compB_E (P := fun g => OkE W cx cs cp d _ (.ListComp y g sc p)) h2 fun tg z r ho h => compB_E (P := fun g => OkE W cx cs cp d _ (.ListComp y (⟨tg, z, [], 0⟩ :: g) sc p)) h fun tg2 z2 r ho2 h =>
      an h fun h h9 => an h fun h h8 => an h fun h h7 => an h fun h h6 => an h fun h h5 => an h fun h3 h4 => ordF ho fun f q => ordF ho2 fun f2 q2 => ?_
    obtain rfl := rNilE h3
    have so := sc_ok h1
    exact ok_comp2 gx.G so (tgB_ok T h4) (tgB_ok T h5) (of_decide_eq_true h6) (ih.e cp z hk h7) (ih2.e _ z2 so.kind h8) (ih3.e _ y so.kind h9) (f.set q) (f2.set q2)
  case call =>
    refine fun f es ih => ckP_ok gx.G (fun qq1 qq2 => rfl) fun cp x hk h => chkCallE h fun n q xs p hs hd h => an h fun h h3 => an h fun h1 h2 => ?_
    obtain ⟨o1, o2⟩ := okEs_of (ih cp xs hk h3) hs
    obtain ⟨k1, k2⟩ := T.fa f h2
    exact ok_call gx.G (glob_ok T hk hd h1) o1 k1 k2 (o2 p) fun env => rfl
  case new =>
    refine fun c es ih => ckP_ok gx.G (fun qq1 qq2 => rfl) fun cp x hk h => chkCallE h fun n q xs p hs hd h => an h fun h h3 => an h fun h1 h2 => ?_
    obtain ⟨o1, o2⟩ := okEs_of (ih cp xs hk h3) hs
    obtain ⟨k1, k2⟩ := T.ca c h2
    exact ok_new gx.G (glob_ok T hk hd h1) o1 k1 k2 gx.init (o2 p) fun env => rfl
  case meth =>
    refine fun o m es ih ih2 => ckP_ok gx.G (fun qq1 qq2 => rfl) fun cp x hk h => chkMethE h fun y n q xs p hs hl hp hc h => an h fun h h3 => an h fun h1 h2 => ?_
    obtain ⟨o1, o2⟩ := okEs_of (ih2 cp xs hk h3) hs
    exact ok_meth gx.G gx.fn (T.tb ▸ nmI_ok h2) (ih.e cp y hk h1) o1 (o2 p) (methArm hc o2 hl hp)
  case replC =>
    refine fun o a b ih => ckP_ok gx.G (fun qq1 qq2 => rfl) fun cp x hk h => chkMethE h fun y n q xs p hs hl hp hc h => an h fun h h3 => an h fun h1 h2 => ?_
    obtain rfl := sEq_iff.mp h1
    refine rConsE (P := fun xs => xs.all ordX = true → Nat.blt xs.length 30 = true → OkE W cx cs cp d _ (.Call (.Attribute y _ q) xs [] p)) h3 (fun u r h => r1E (P := fun r => (u :: r).all ordX = true → Nat.blt (u :: r).length 30 = true → OkE W cx cs cp d _ (.Call (.Attribute y _ q) (u :: r) [] p)) h fun w h => an h fun h4 h5 => ?_) hs hl
    refine xConstantE (P := fun u => [u, w].all ordX = true → Nat.blt [u, w].length 30 = true → OkE W cx cs cp d _ (.Call (.Attribute y _ q) [u, w] [] p)) h4 fun c1 j1 p1 h4 => xConstantE (P := fun w => [PySem.Expr.Constant c1 j1 p1, w].all ordX = true → Nat.blt [PySem.Expr.Constant c1 j1 p1, w].length 30 = true → OkE W cx cs cp d _ (.Call (.Attribute y _ q) [.Constant c1 j1 p1, w] [] p)) h5 fun c2 j2 p2 h5 hs hl => ?_
    obtain rfl := strK h4
    obtain rfl := strK h5
    exact ok_repl rfl rfl (ih.e cp y hk h2) (methArm hc (fun pos env => rfl) hl hp)
  case un =>
    refine fun op e ih => ckP_ok gx.G (fun qq1 qq2 => rfl) fun cp x hk h => chkCallE h fun n q xs p hs hd h => an h fun h h4 => an h fun h h3 => an h fun h1 h2 => ?_
    obtain rfl := sEq_iff.mp h1
    have u := un_boot op
    refine r1E (P := fun xs => xs.all ordX = true → OkE W cx cs cp d _ (.Call (.Name (unN op) q) xs [] p)) h4 (fun y h hs => an (show (ordX y && true) = true from hs) fun ho qq1 => ordF ho fun f z => ?_) hs
    exact ok_fn1 (e := e) (fun qq1 qq2 => evE_un) ⟨bOk_ok T h2, u.v, u.n, nmK_ok h3, hk, hd⟩ u.r (un_val gx.G op) (ih.e cp y hk h) (f.star z []) fun env => rfl
  case bm =>
    refine fun op o es ih ih2 => ckP_ok gx.G (fun qq1 qq2 => rfl) fun cp x hk h => chkMethE h fun y n q xs p hs hl hp hc h => an h fun h h3 => an h fun h1 h2 => ?_
    obtain rfl := sEq_iff.mp h1
    obtain ⟨o1, o2⟩ := okEs_of (ih2 cp xs hk h3) hs
    exact ok_bm (fun L σ r σ' ee => bd2 (evE_bm.symm.trans ee) fun ov σ1 e1 e => bif_E e fun e2 e => bd2 e fun vs σ2 e3 e4 => ⟨ov, σ1, vs, σ2, e1, e2, e3, e4⟩) (bm_get op) (bm_val gx.G op) (ih.e cp y hk h2) o1 (o2 p) (methArm hc o2 hl hp)
  case nil => exact fun cp xs hk h => by rw [rNilE h]; exact .nil
  case cons => exact fun e es ih ih2 cp xs hk h => rConsE (P := fun xs => All2 _ (e :: es) xs) h fun x r h => an h fun h1 h2 => .cons (ih.e cp x hk h1) (ih2 cp r hk h2)
end
end PL
end
section
namespace PL
open PySem.W.Fast (sEq sEq_iff lEq lEq_iff)
noncomputable def ckTg (t : Tc) (cs : Scope) (g : Tg) (x : PySem.Expr) : Bool := match g with
  | .l i => xName x fun n => nmI t.tb i n && nmK cs.names n .local
  | .a o f => xAttribute x fun y n p => (ck t cs o).e none y && nmI t.tb f n
  | .s o i => xSubscript x fun y z => (ck t cs o).e none y && (ck t cs i).e none z
noncomputable def ckTgs (t : Tc) (cs : Scope) : List Tg → List PySem.Expr → Bool
  | [], xs => rNil xs
  | g :: gs, xs => rCons xs fun x r => ckTg t cs g x && ckTgs t cs gs r
noncomputable def lsOf : List Tg → Option (List Nat)
  | [] => some []
  | g :: gs => match g with | .l i => (lsOf gs).map (i :: ·) | _ => none
noncomputable def swN (cs : Scope) (l : List PySem.Expr) (n : Nat) : List Str := l.filterMap fun x => match x with
  | .Name id p => if ((cs.names.lookup id == some .local) && p.line == n) = true then some id else none
  | _ => none
noncomputable def nmN (tb : List Str) (l : List (Str × NameKind)) : List Nat → List Str → Bool
  | [], xs => rNil xs
  | i :: is, xs => rCons xs fun n r => nmI tb i n && nmK l n .local && nmN tb l is r
noncomputable def swB (cs : Scope) (l vs : List PySem.Expr) (ns : List Str) : Bool :=
  (l.length == 2 || l.length == 3) && vs.length == l.length && vs.all ordX && ns.length == l.length && ns.eraseDups.length == ns.length && !vs.all (foldedForSure 8) && !vs.all (constantsAlone 8)
noncomputable def lnOf (l : List PySem.Expr) : Nat := (l.head?.map (·.pos.line)).getD 0
noncomputable def addSub (op : BOp) : Bool := match op with | .add => true | .sub => true | _ => false
noncomputable def isGc (s : PS) : Bool := match s with | .gc _ => true | _ => false
mutual
noncomputable def ckS (t : Tc) (cs : Scope) : PS → Stmt → Bool
  | .expr e, st => sExpr st fun x => (ck t cs e).e none x && noComp x
  | .assign g e, st => sAssign st fun xs y => (ck t cs e).e none y && noComp y && r1 xs fun x => ckTg t cs g x
  | .assignT gs e, st => sAssign st fun xs y => (ck t cs e).e none y && noComp y && r1 xs fun x => xTuple x fun l => (noTup y && ckTgs t cs gs l) || xTuple y fun vs => rSome (lsOf gs) fun is => decide is.Nodup && nmN t.tb cs.names is (swN cs l (lnOf l)) && swB cs l vs (swN cs l (lnOf l))
  | .augL i op e, st => sAugAssign st fun x o y => decide (o = opB op) && addSub op && (ck t cs e).e none y && xName x fun n => nmI t.tb i n && nmK cs.names n .local
  | .augA u f op e, st => sAugAssign st fun x o y => decide (o = opB op) && addSub op && (ck t cs e).e none y && xAttribute x fun z n p => (ck t cs u).e none z && nmI t.tb f n
  | .augS u i op e, st => sAugAssign st fun x o y => decide (o = opB op) && addSub op && (ck t cs e).e none y && xSubscript x fun z w => (ck t cs u).e none z && (ck t cs i).e none w && ordX w
  | .ifs u b o, st => sIf st fun x p q => (ck t cs u).t none x && ckSs t cs b p && ckSs t cs o q
  | .whiles u b, st => sWhile st fun x p q => (ck t cs u).t none x && ckSs t cs b p && rNil q
  | .fors f it b, st => sFor st fun x y p q => (ck t cs it).e none y && ckSs t cs b p && rNil q && tgB t.tb cs.names f x && ordX y
  | .ret e, st => sReturn st fun x => rSome x fun x => (ck t cs e).e none x
  | .brk, st => sBreak st true
  | .cont, st => sContinue st true
  | .pass, st => sPass st true
  | .gc k, st => false
  | .retf e, st => sReturn st fun x => rSome x fun x => (ck t cs e).e none x
termination_by structural s => s
noncomputable def ckSs (t : Tc) (cs : Scope) : List PS → List Stmt → Bool
  | [], sts => rNil sts
  | s :: ss, sts => bif isGc s then ckSs t cs ss sts else rCons sts fun st r => ckS t cs s st && ckSs t cs ss r
termination_by structural s => s
end
section
variable {W : Wd} {cx : Cx} {cs : Scope} {d : Nat} {t : Tc}
theorem addSub_ok {op : BOp} (h : addSub op = true) : op = .add ∨ op = .sub := by
  cases op with
  | add => exact .inl rfl
  | sub => exact .inr rfl
  | _ => exact noB h
theorem lsOf_ok : ∀ {gs : List Tg} {is : List Nat}, lsOf gs = some is → gs = is.map Tg.l
  | [], is, h => by obtain rfl := Option.some.inj h; rfl
  | g :: gs, is, h => by
    cases g with
    | l i =>
      exact mpE (P := fun is => Tg.l i :: gs = is.map Tg.l) (show (lsOf gs).map (i :: ·) = some is from h) fun is' h1 => by rw [lsOf_ok h1]; rfl
    | _ => exact noE h
theorem nmN_ok (T : TcOk W t) {l : List (Str × NameKind)} : ∀ {is : List Nat} {xs : List Str}, nmN t.tb l is xs = true → All2 (fun i x => W.tb[i]? = some x ∧ l.lookup x = some .local) is xs
  | [], xs, h => by rw [rNilE h]; exact .nil
  | i :: is, xs, h => rConsE (P := fun xs => All2 _ (i :: is) xs) h fun x r h => an h fun h h2 => an h fun h3 h4 => .cons ⟨T.tb ▸ nmI_ok h3, nmK_ok h4⟩ (nmN_ok T h2)
theorem sw_ok {c : Fc} (hk : c.cs.kind = .function) {l vs : List PySem.Expr} {n j : Nat} {p r : Pos} (h : swB c.cs l vs (swN c.cs l (lnOf l)) = true) : swappedStores [.Tuple l n p] (.Tuple vs j r) c.env = pure (some (swN c.cs l (lnOf l))) := by
  refine an h fun h h7 => an h fun h h6 => an h fun h h5 => an h fun h h4 => an h fun h h3 => an h fun h1 h2 => ?_
  have nf : ∀ {b : Bool}, b = false → ¬ b = true := fun h => by rw [h]; exact Bool.false_ne_true
  have b0 : ∀ {a b : Nat}, (a == b) = true → (a != b) = false := fun h => by unfold bne; rw [h]; rfl
  have e1 : (!(l.length == 2 || l.length == 3) || vs.length != l.length || c.env.blockKind != ScopeKind.function) = false := by
    have hb : c.env.blockKind = .function := by
      show (if c.cs.kind.isAnnotationScope then ScopeKind.function else c.cs.kind) = _
      rw [hk]; rfl
    rw [h1, b0 h2, hb]; rfl
  have e2 : (vs.any fun x => match x with | .Starred .. => true | _ => false) = false := by
    rw [List.any_eq_false]
    intro x hx
    refine ordF (List.all_eq_true.mp h3 x hx) fun f g => ?_
    cases x with
    | Starred _ _ => exact noB (List.all_eq_true.mp h3 _ hx)
    | _ => exact Bool.false_ne_true
  unfold swappedStores
  refine (if_neg (nf e1)).trans ((if_neg (nf e2)).trans ((if_neg (nf ?_)).trans ((if_neg (nf (nt h6))).trans (if_neg (nf (nt h7))))))
  show ((swN c.cs l (lnOf l)).length != l.length || (swN c.cs l (lnOf l)).eraseDups.length != (swN c.cs l (lnOf l)).length) = false
  rw [b0 h4, b0 h5]; rfl
structure TgX (W : Wd) (cx : Cx) (cs : Scope) (d : Nat) (g : Tg) (x : PySem.Expr) : Prop where
  ok : OkTg W cx cs d g x
  sw : ∀ y env, swappedStores [x] y env = pure none
  ea : ∀ xs env, assignEach (x :: xs) env = (false, assign x env) :: assignEach xs env
theorem ckTg_ok (T : TcOk W t) (gx : GX W cx d) (hk : cs.kind = .function) {g : Tg} {x : PySem.Expr} (h : ckTg t cs g x = true) : TgX W cx cs d g x := by
  cases g with
  | l i => exact xNameE h fun n p h => an h fun h1 h2 => ⟨okTg_l gx.G (T.tb ▸ nmI_ok h1) (nmK_ok h2), fun qq1 qq2 => rfl, fun qq1 qq2 => rfl⟩
  | a o f => exact xAttributeE h fun y n p h => an h fun h1 h2 => ⟨okTg_a gx.G (T.tb ▸ nmI_ok h2) ((ck_ok T gx o).e none y hk h1), fun qq1 qq2 => rfl, fun qq1 qq2 => rfl⟩
  | s o i => exact xSubscriptE h fun y z p h => an h fun h1 h2 => ⟨okTg_s gx.G ((ck_ok T gx o).e none y hk h1) ((ck_ok T gx i).e none z hk h2), fun qq1 qq2 => rfl, fun qq1 qq2 => rfl⟩
theorem ckTgs_ok (T : TcOk W t) (gx : GX W cx d) (hk : cs.kind = .function) : ∀ {gs : List Tg} {xs : List PySem.Expr}, ckTgs t cs gs xs = true → All2 (OkTg W cx cs d) gs xs ∧ ∀ env, assignEach xs env = xs.map fun e => (false, assign e env)
  | [], xs, h => by rw [rNilE h]; exact ⟨.nil, fun qq1 => rfl⟩
  | g :: gs, xs, h => rConsE (P := fun xs => All2 (OkTg W cx cs d) (g :: gs) xs ∧ ∀ env, assignEach xs env = xs.map fun e => (false, assign e env)) h fun x r h => an h fun h1 h2 =>
    let x1 := ckTg_ok T gx hk h1
    let x2 := ckTgs_ok T gx hk h2
    ⟨.cons x1.ok x2.1, fun env => (x1.ea r env).trans (congrArg (_ :: ·) (x2.2 env))⟩
theorem ckS_ok (T : TcOk W t) (gx : GX W cx d) (hk : cs.kind = .function) (ss : List PS) : ∀ sts, ckSs t cs ss sts = true → OkSs W cx cs d ss sts := by
  have E : ∀ (e : PE) (x : PySem.Expr), (ck t cs e).e none x = true → OkE W cx cs none d e x := fun e x h => (ck_ok T gx e).e none x hk h
  have C : ∀ (e : PE) (x : PySem.Expr), (ck t cs e).t none x = true → OkT W cx cs none d e x := fun e x h => (ck_ok T gx e).t none x hk h
  refine PS.rec_1 (motive_1 := fun s => isGc s = false → ∀ st, ckS t cs s st = true → OkS W cx cs d s st) (motive_2 := fun ss => ∀ sts, ckSs t cs ss sts = true → OkSs W cx cs d ss sts)
    ?expr ?assign ?assignT ?augL ?augA ?augS ?ifs ?whiles ?fors ?ret ?brk ?cont ?pass ?gc ?retf ?nil ?cons ss
  case expr =>
    exact fun e qq1 st h => sExprE h fun x p h => an h fun h1 h2 => okS_expr (E e x h1) (noComp_eq h2 _ _)
  case assign =>
    exact fun g e qq1 st h => sAssignE h fun xs y p h => an h fun h h3 => an h fun h1 h2 => r1E (P := fun xs => OkS W cx cs d (.assign g e) (.Assign xs y p)) h3 fun x h =>
      let x1 := ckTg_ok T gx hk h
      okS_assign (pos := p) x1.ok (E e y h1) (fun env => noComp_eq h2 (some x) p.line env) (fun env => x1.sw y env) (fun env => x1.ea [] env)
  case assignT =>
    refine fun g e qq1 st h => sAssignE h fun xs y p h => an h fun h h4 => an h fun h1 h2 => r1E (P := fun xs => OkS W cx cs d (.assignT g e) (.Assign xs y p)) h4 fun x h => xTupleE (P := fun x => OkS W cx cs d (.assignT g e) (.Assign [x] y p)) h fun l n q h => ?_
    rcases Bool.or_eq_true_iff.mp h with h | h
    · exact an h fun h3 h =>
        let x1 := ckTgs_ok T gx hk h
        okS_assignT (pos := p) gx.G x1.1 (E e y h1) (fun env => noComp_eq h2 (some (.Tuple l n q)) p.line env) (noTup_eq h3 l n q) x1.2
    · revert h1 h2
      refine xTupleE (P := fun y => (ck t cs e).e none y = true → noComp y = true → OkS W cx cs d (.assignT g e) (.Assign [.Tuple l n q] y p)) h fun vs j r h h1 h2 => ?_
      cases hg : lsOf g with
      | none => rw [hg] at h; exact noB h
      | some is =>
        rw [hg] at h
        refine an (show (decide is.Nodup && nmN t.tb cs.names is (swN cs l (lnOf l)) && swB cs l vs (swN cs l (lnOf l))) = true from h) fun h h7 => an h fun h5 h6 => ?_
        rw [lsOf_ok hg]
        exact okS_swap (pos := p) gx.G (nmN_ok T h6) (of_decide_eq_true h5) (E e _ h1) (fun env => noComp_eq h2 (some (.Tuple l n q)) p.line env) fun c hc => by subst hc; exact sw_ok hk h7
  case augL =>
    exact fun i op e qq1 st h => sAugAssignE h fun x o y p h => an h fun h h4 => an h fun h h3 => an h fun h1 h2 => xNameE (P := fun x => OkS W cx cs d (.augL i op e) (.AugAssign x o y p)) h4 fun n q h => an h fun h5 h6 => of_decide_eq_true h1 ▸ okS_augL gx.G (addSub_ok h2) (T.tb ▸ nmI_ok h5) (nmK_ok h6) (E e y h3)
  case augA =>
    exact fun u f op e qq1 st h => sAugAssignE h fun x o y p h => an h fun h h4 => an h fun h h3 => an h fun h1 h2 => xAttributeE (P := fun x => OkS W cx cs d (.augA u f op e) (.AugAssign x o y p)) h4 fun z n q h => an h fun h5 h6 => of_decide_eq_true h1 ▸ okS_augA gx.G (addSub_ok h2) (T.tb ▸ nmI_ok h6) (E u z h5) (E e y h3)
  case augS =>
    exact fun u i op e qq1 st h => sAugAssignE h fun x o y p h => an h fun h h4 => an h fun h h3 => an h fun h1 h2 => xSubscriptE (P := fun x => OkS W cx cs d (.augS u i op e) (.AugAssign x o y p)) h4 fun z w q h => an h fun h h7 => an h fun h5 h6 => ordF h7 fun f g => of_decide_eq_true h1 ▸ okS_augS gx.G (addSub_ok h2) (E u z h5) (E i w h6) (E e y h3) (f.aug g)
  case ifs =>
    exact fun u b o ih ih2 qq1 st h => sIfE h fun x p q l h => an h fun h h3 => an h fun h1 h2 => okS_if (C u x h1) (ih p h2) (ih2 q h3)
  case whiles =>
    exact fun u b ih qq1 st h => sWhileE h fun x p q l h => an h fun h h3 => an h fun h1 h2 => rNilE h3 ▸ okS_while (C u x h1) (ih p h2)
  case fors =>
    exact fun f it b ih qq1 st h => sForE h fun x y p q l h => an h fun h h5 => an h fun h h4 => an h fun h h3 => an h fun h1 h2 => ordF h5 fun f g => rNilE h3 ▸ okS_for gx.G (tgB_ok T h4) (E it y h1) (ih p h2) (f.set g)
  case ret =>
    exact fun e qq1 st h => sReturnE h fun x p h => rSomeE (P := fun x => OkS W cx cs d (.ret e) (.Return x p)) h fun x h => okS_ret (E e x h)
  case brk =>
    exact fun qq1 st h => sBreakE h fun p qq1 => okS_brk
  case cont =>
    exact fun qq1 st h => sContinueE h fun p qq1 => okS_cont
  case pass =>
    exact fun qq1 st h => sPassE h fun p qq1 => okS_pass
  case gc =>
    exact fun k h => noB h.symm
  case retf =>
    exact fun e qq1 st h => sReturnE h fun x p h => rSomeE (P := fun x => OkS W cx cs d (.retf e) (.Return x p)) h fun x h => okS_retf (E e x h)
  case nil =>
    exact fun sts h => by rw [rNilE h]; exact okSs_nil
  case cons =>
    intro s ss ih ih2 sts h
    have h : (bif isGc s then ckSs t cs ss sts else rCons sts fun st r => ckS t cs s st && ckSs t cs ss r) = true := h
    cases q : isGc s with
    | true =>
      rw [q] at h
      cases s with
      | gc k => exact okSs_gc (ih2 sts h)
      | _ => exact noB q
    | false =>
      rw [q] at h
      exact rConsE (P := fun sts => OkSs W cx cs d (s :: ss) sts) h fun st r h => an h fun h1 h2 => okSs_cons (ih q st h1) (ih2 r h2)
end
end PL
end
section
namespace PL
open PySem.W.Fast (sEq sEq_iff lEq lEq_iff)
theorem getK_mem {β : Type} {k : Nat} {v : β} : ∀ {l : List (Nat × β)}, getK k l = some v → (k, v) ∈ l
  | [], h => noE h
  | (i, w) :: r, h => by
    have h1 : (bif Nat.beq i k then some w else getK k r) = some v := h
    cases hb : Nat.beq i k with
    | true =>
      rw [hb] at h1
      obtain rfl : w = v := Option.some.inj h1
      rw [Nat.eq_of_beq_eq_true hb]
      exact .head _
    | false => rw [hb] at h1; exact .tail _ (getK_mem h1)
theorem two_mem {β : Type} {l : List (Nat × List (Nat × β))} {a b : Nat} {v : β} (h : two l a b = some v) {f : Nat → Nat → β → Bool} (hf : (l.all fun p => p.2.all fun q => f p.1 q.1 q.2) = true) : f a b v = true := by
  unfold two at h
  cases q : getK a l with
  | none => rw [q] at h; exact noE h
  | some r =>
    rw [q] at h
    exact List.all_eq_true.mp (List.all_eq_true.mp hf _ (getK_mem q)) _ (getK_mem h)
theorem twoI_mem {l : List (Nat × List Nat)} {a b : Nat} (h : twoI l a b = true) {f : Nat → Nat → Bool} (hf : (l.all fun p => p.2.all fun q => f p.1 q) = true) : f a b = true := by
  unfold twoI at h
  cases q : getK a l with
  | none => rw [q] at h; exact noB h
  | some r =>
    rw [q] at h
    exact List.all_eq_true.mp (List.all_eq_true.mp hf _ (getK_mem q)) _ (List.contains_iff_mem.mp h)
noncomputable def vrB (v : V) (y : Value) : Bool := match v with
  | .none => decide (y = .none)
  | .bool b => decide (y = .bool b)
  | .int i => (match y with | .int j _ => decide (i = j) | _ => false)
  | .str s => (match y with | .str x _ => lEq s x.cps.toList && Nat.ble s.length 100000 | _ => false)
  | .sref a => decide (y = .ref a)
  | _ => false
theorem vrB_ok {hs : HS} {v : V} {y : Value} (h : vrB v y = true) : VR hs v y := by
  cases v with
  | none => rw [of_decide_eq_true h]; exact .none
  | bool b => rw [of_decide_eq_true h]; exact .bool b
  | sref b => rw [of_decide_eq_true h]; exact .sref b
  | int i => cases y with
    | int j t => obtain rfl : i = j := of_decide_eq_true h; exact .int i t
    | _ => exact noB h
  | str s => cases y with
    | str x t =>
      refine an (show (lEq s x.cps.toList && Nat.ble s.length 100000) = true from h) fun h1 h2 => ?_
      have e : x = toS s := by rw [lEq_iff.mp h1]; exact (toS_ofS x).symm
      rw [e]
      exact .str s t (Nat.le_of_ble_eq_true h2)
    | _ => exact noB h
  | _ => exact noB h
noncomputable def vrL : List V → List Value → Bool
  | [], ys => rNil ys
  | v :: vs, ys => rCons ys fun y r => vrB v y && vrL vs r
theorem vrL_ok {hs : HS} : ∀ {vs : List V} {ys : List Value}, vrL vs ys = true → All2 (VR hs) vs ys
  | [], ys, h => by rw [rNilE h]; exact .nil
  | v :: vs, ys, h => rConsE (P := fun ys => All2 (VR hs) (v :: vs) ys) h fun y r h => an h fun h1 h2 => .cons (vrB_ok h1) (vrL_ok h2)
noncomputable def glB (K : Frag) (p : Str × Option V) : Bool := match p.2 with
  | some v => (match nsIn K mainGlobals p.1 with | some o => rSome o fun y => vrB v y | none => false)
  | none => (match nsIn K mainGlobals p.1 with | some o => rNone o | none => false)
noncomputable def tcB (K : Frag) (t : Tc) : Bool := t.gl.all (glB K) && t.fa.all (fun f => keepIn K (.ref f) && Nat.blt f 1000000) && t.ca.all fun c => keepIn K (.ref c) && makesIn K c
theorem glB_some {K : Frag} {x : Str} {v : V} (h : glB K (x, some v) = true) : ∃ y, VR .nil v y ∧ nsIn K mainGlobals x = some (some y) := by
  have h1 : (match nsIn K mainGlobals x with | some o => rSome o fun y => vrB v y | none => false) = true := h
  cases q : nsIn K mainGlobals x with
  | none => rw [q] at h1; exact noB h1
  | some o =>
    rw [q] at h1
    exact rSomeE (P := fun o => ∃ y, VR .nil v y ∧ some o = some (some y)) h1 fun y h => ⟨y, vrB_ok h, rfl⟩
theorem glB_none {K : Frag} {x : Str} (h : glB K (x, none) = true) : nsIn K mainGlobals x = some none := by
  have h1 : (match nsIn K mainGlobals x with | some o => rNone o | none => false) = true := h
  cases q : nsIn K mainGlobals x with
  | none => rw [q] at h1; exact noB h1
  | some o => rw [q] at h1; rw [rNoneE h1]
theorem any_all {l : List Nat} {f : Nat} {k : Nat → Bool} (h : l.any (Nat.beq f) = true) (ha : l.all k = true) : k f = true := by
  obtain ⟨j, hj, e⟩ := List.any_eq_true.mp h
  rw [Nat.eq_of_beq_eq_true e]
  exact List.all_eq_true.mp ha j hj
theorem tcB_ok {W : Wd} {t : Tc} (ht : W.tb = t.tb) (h : tcB W.K t = true) : TcOk W t :=
  an h fun h h3 => an h fun h1 h2 => ⟨ht, fun x v hm => glB_some (List.all_eq_true.mp h1 _ hm), fun x hm => glB_none (List.all_eq_true.mp h1 _ hm),
    fun f hf => an (any_all hf h2) fun a b => ⟨a, Nat.le_of_ble_eq_true b⟩, fun c hc => an (any_all hc h3) fun a b => ⟨a, b⟩⟩
noncomputable def fdOf (K : Frag) (f : Nat) : FuncData := match K.lookup f with | some o => (match o.data with | .func fd => fd | _ => default) | none => default
noncomputable def isFn (fd : FuncData) (k : List Stmt → Bool) : Bool := match fd.body with | .stmts b => k b | _ => false
noncomputable def fdChk (t : Tc) (K : Frag) (fn : Fn) (fd : FuncData) : Bool := decide (fd.scope.kind = .function) && (!fd.scope.isCoroutine && (!fd.scope.isGenerator && ((fd.scope.names.all fun p => decide (p.2 ≠ .cell)) && (codeIn K fd.code fd.qualname && (decide (fd.globals = mainGlobals) && (rNil fd.closure && (decide (fd.builtins = builtinsNs) && isFn fd fun b => ckSs t fd.scope fn.body b)))))))
noncomputable def fnB (t : Tc) (K : Frag) (f : Nat) (fn : Fn) : Bool := match K.lookup f with
  | some o => (match o.data with | .func fd => fdChk t K fn fd | _ => false)
  | none => false
theorem isFn_ok {fd : FuncData} {k : List Stmt → Bool} (h : isFn fd k = true) : ∃ b, fd.body = .stmts b ∧ k b = true := by
  unfold isFn at h
  cases q : fd.body with
  | stmts b => rw [q] at h; exact ⟨b, rfl, h⟩
  | expr b => rw [q] at h; exact noB h
theorem fd_eta {fd : FuncData} {b : List Stmt} (h1 : fd.body = .stmts b) (h2 : fd.globals = mainGlobals) (h3 : fd.closure = []) (h4 : fd.builtins = builtinsNs) : fd = fnOf fd.name fd.qualname fd.params b fd.scope fd.defaults fd.kwdefaults fd.doc fd.pyModule fd.annotations fd.code fd.closureTuple := by
  cases fd
  cases h1; cases h2; cases h3; cases h4
  rfl
theorem fdChk_ok {W : Wd} {t : Tc} (T : TcOk W t) {f : Nat} {fn : Fn} {fd : FuncData} {oc : Value} {od : Option Addr} {osl : Array (Option Value)} (q : W.K.lookup f = some ⟨oc, od, .func fd, osl⟩) (h : fdChk t W.K fn fd = true) (hb : BindOk W fn fd fd.scope) : FnEx W f fn :=
  an h fun h1 h => an h fun h2 h => an h fun h3 h => an h fun h4 h => an h fun h5 h => an h fun h6 h => an h fun h7 h => an h fun h8 h => by
    obtain ⟨b, e, h9⟩ := isFn_ok h
    have e2 := fd_eta e (of_decide_eq_true h6) (rNilE h7) (of_decide_eq_true h8)
    exact ⟨_, _, _, _, _, _, _, _, _, _, _, _, _, _, _, ⟨q.trans (congrArg (fun z => some (Obj.mk oc od (.func z) osl)) e2), h5, of_decide_eq_true h1, nt h2, nt h3, fun x hx => of_decide_eq_true (List.all_eq_true.mp h4 x hx), Eq.mp (congrArg (fun z => BindOk W fn z fd.scope) e2) hb, fun cx d gx => ckS_ok T gx (of_decide_eq_true h1) fn.body b h9⟩⟩
theorem fnB_ok {W : Wd} {t : Tc} (T : TcOk W t) {f : Nat} {fn : Fn} (h : fnB t W.K f fn = true) (hb : BindOk W fn (fdOf W.K f) (fdOf W.K f).scope) : FnEx W f fn := by
  unfold fdOf at hb
  unfold fnB at h
  cases q : W.K.lookup f with
  | none => rw [q] at h; exact noB h
  | some o =>
    rw [q] at h hb
    obtain ⟨oc, od, dt, osl⟩ := o
    cases dt with
    | func fd => exact fdChk_ok T q h hb
    | _ => exact noB h
noncomputable def atB (tb : List Str) (f : Nat) (k : Str → Bool) : Bool := match tb[f]? with | some x => k x | none => false
theorem atB_ok {tb : List Str} {f : Nat} {k : Str → Bool} (h : atB tb f k = true) : ∃ x, tb[f]? = some x ∧ k x = true := by
  unfold atB at h
  cases q : tb[f]? with
  | none => rw [q] at h; exact noB h
  | some x => rw [q] at h; exact ⟨x, rfl, h⟩
noncomputable def plB (K : Frag) (cl : Nat) : Bool := decide (findIn K (.ref cl) "__getattribute__" = some (some (.builtin "object.__getattribute__"))) && decide (findIn K (.ref cl) "__getattr__" = some none) && hasDictIn K cl && decide (findIn K (.ref cl) "__setattr__" = some (some (.builtin "object.__setattr__"))) && plainOver K cl
noncomputable def ciB (tb : List Str) (K : Frag) (cl f : Nat) : Bool := atB tb f fun x => decide (findIn K (.ref cl) x = some none) && decide (takerIn K cl x = some none)
noncomputable def cmB (tb : List Str) (K : Frag) (cl f g : Nat) : Bool := atB tb f fun x => decide (findIn K (.ref cl) x = some (some (.ref g))) && decide (typeIn K (.ref g) = some (.type "function")) && decide (specialIn K (.ref g) "__get__" = some (some (.builtin "function.__get__"))) && decide (takesIn K (.ref g) = some false) && !copiedNames.contains x && Nat.blt g 1000000
noncomputable def cvB (tb : List Str) (K : Frag) (cl f : Nat) (v : V) : Bool := atB tb f fun x => (match findIn K (.ref cl) x with | some o => rSome o fun a => decide (specialIn K a "__get__" = some none) && handedIn a && !copiedNames.contains x && vrB v a | none => false)
noncomputable def clB (tb : List Str) (K : Frag) (cs : List Nat) (tm : List (Nat × List (Nat × Nat))) (tv : List (Nat × List (Nat × V))) (ti : List (Nat × List Nat)) : Bool :=
  cs.all (plB K) && (tm.all fun p => p.2.all fun q => cs.any (Nat.beq p.1) && cmB tb K p.1 q.1 q.2) && (tv.all fun p => p.2.all fun q => cs.any (Nat.beq p.1) && cvB tb K p.1 q.1 q.2) && (ti.all fun p => p.2.all fun q => cs.any (Nat.beq p.1) && ciB tb K p.1 q)
theorem clB_ok {W : Wd} {cx : Cx} {cs : List Nat} {tm : List (Nat × List (Nat × Nat))} {tv : List (Nat × List (Nat × V))} {ti : List (Nat × List Nat)} (nd : W.tb.Nodup) (e1 : cx.clsm = two tm) (e2 : cx.clsv = two tv) (e3 : cx.clsi = twoI ti) (h : clB W.tb W.K cs tm tv ti = true) : ClsOk W cx := by
  refine an h fun h h4 => an h fun h h3 => an h fun h1 h2 => ?_
  have M : ∀ cl f g, cx.clsm cl f = some g → cs.any (Nat.beq cl) = true ∧ cmB W.tb W.K cl f g = true := fun cl f g h => by
    rw [e1] at h
    exact an (two_mem (f := fun a b c => cs.any (Nat.beq a) && cmB W.tb W.K a b c) h h2) fun a b => ⟨a, b⟩
  have Vv : ∀ cl f v, cx.clsv cl f = some v → cs.any (Nat.beq cl) = true ∧ cvB W.tb W.K cl f v = true := fun cl f g h => by
    rw [e2] at h
    exact an (two_mem (f := fun a b c => cs.any (Nat.beq a) && cvB W.tb W.K a b c) h h3) fun a b => ⟨a, b⟩
  have I : ∀ cl f, cx.clsi cl f = true → cs.any (Nat.beq cl) = true ∧ ciB W.tb W.K cl f = true := fun cl f h => by
    rw [e3] at h
    exact an (twoI_mem (f := fun a b => cs.any (Nat.beq a) && ciB W.tb W.K a b) h h4) fun a b => ⟨a, b⟩
  refine ⟨nd, fun cl f h => ?_, fun cl f h => ?_, fun cl f g h => ?_, fun cl f v h => ?_⟩
  · obtain ⟨x, hx, h⟩ := atB_ok (I cl f h).2
    exact an h fun a b => ⟨x, hx, of_decide_eq_true a, of_decide_eq_true b⟩
  · have hc : cs.any (Nat.beq cl) = true := by
      rcases h with h | h | h
      · exact (I cl f h).1
      · obtain ⟨g, hg⟩ := Option.isSome_iff_exists.mp h; exact (M cl f g hg).1
      · obtain ⟨g, hg⟩ := Option.isSome_iff_exists.mp h; exact (Vv cl f g hg).1
    exact an (any_all hc h1) fun h h9 => an h fun h h8 => an h fun h h7 => an h fun h5 h6 => ⟨⟨of_decide_eq_true h5, of_decide_eq_true h6⟩, h7, of_decide_eq_true h8, h9⟩
  · obtain ⟨x, hx, h⟩ := atB_ok (M cl f g h).2
    exact an h fun h h9 => an h fun h h8 => an h fun h h7 => an h fun h h6 => an h fun h4 h5 => ⟨x, hx, of_decide_eq_true h4, of_decide_eq_true h5, of_decide_eq_true h6, of_decide_eq_true h7, nt h8, Nat.le_of_ble_eq_true h9⟩
  · obtain ⟨x, hx, h⟩ := atB_ok (Vv cl f v h).2
    cases q : findIn W.K (.ref cl) x with
    | none => rw [q] at h; exact noB h
    | some o =>
      rw [q] at h
      exact rSomeE (P := fun o => findIn W.K (.ref cl) x = some o → _) h (fun a h q => an h fun h h9 => an h fun h h8 => an h fun h6 h7 => ⟨x, a, hx, q, of_decide_eq_true h6, h7, nt h8, vrB_ok h9⟩) q
noncomputable def seqOf (K : Frag) (a : Nat) : List Value := match K.lookup a with | some o => (match o.data with | .seq its _ => its.toList | _ => []) | none => []
noncomputable def epOf (K : Frag) (a : Nat) : Nat := match K.lookup a with | some o => (match o.data with | .seq _ n => n | .dict _ n => n | _ => 0) | none => 0
noncomputable def esOf (K : Frag) (a : Nat) : List DictEntry := match K.lookup a with | some o => (match o.data with | .dict es _ => es.toList | _ => []) | none => []
noncomputable def keyS (e : DictEntry) : Str := match e.key with | .str x _ => x | _ => Str.empty
noncomputable def enB (p : List Nat × V) (e : DictEntry) : Bool := match e.key with | .str x _ => lEq p.1 x.cps.toList && vrB p.2 e.val | _ => false
noncomputable def enL : List (List Nat × V) → List DictEntry → Bool
  | [], ys => rNil ys
  | v :: vs, ys => rCons ys fun y r => enB v y && enL vs r
structure SoAt (W : Wd) (a : Nat) (o : O) : Prop where
  h : ∃ ob, W.K.lookup a = some ob ∧ ORel W.prog W.w W.tb HS.nil o [(a, ob)]
theorem so_tup {W : Wd} {a : Nat} {vs : List V} (h : W.K.lookup a = some { cls := .type "tuple", data := .seq (seqOf W.K a).toArray (epOf W.K a) }) (hv : (vrL vs (seqOf W.K a) && Nat.ble vs.length 100000) = true) : SoAt W a (.tuple vs) :=
  ⟨_, h, an hv fun h1 h2 => .tuple (vrL_ok h1) (Nat.le_trans (Nat.le_of_ble_eq_true h2) (Nat.le_add_right _ _))⟩
theorem so_dict {W : Wd} {a : Nat} {kvs : List (List Nat × V)} (h : W.K.lookup a = some { cls := .type "dict", data := .dict (esOf W.K a).toArray (epOf W.K a) }) (hh : (esOf W.K a).map (·.hash) = (esOf W.K a).map fun e => PyData.keyHash W.w.params (keyS e)) (hv : enL kvs (esOf W.K a) = true) (nd : (kvs.map (·.1)).Nodup) (hl : Nat.ble kvs.length 100000 = true) (hA : (a == sysModules) = false) : SoAt W a (.dict kvs) := by
  refine ⟨_, h, ?_⟩
  have key : ∀ {kvs : List (List Nat × V)} {es : List DictEntry}, es.map (·.hash) = es.map (fun e => PyData.keyHash W.w.params (keyS e)) → enL kvs es = true →
      ∃ ks : List (Str × Value), (∀ e ∈ es, ∃ k, (PySem.strKind W.prog W.w).is k e.key = true ∧ e.hash = PyData.keyHash W.w.params k) ∧ Pairs (PySem.strKind W.prog W.w) es ks ∧ All2 (KV HS.nil) kvs ks ∧ ks.map (·.1) = (kvs.map (·.1)).map toS := by
    intro kvs
    induction kvs with
    | nil => intro es _ hv; rw [rNilE hv]; exact ⟨[], (fun e he => nomatch he), Pairs.nil, .nil, rfl⟩
    | cons p r ih =>
      intro es hh hv
      refine rConsE (P := fun es => es.map (·.hash) = es.map (fun e => PyData.keyHash W.w.params (keyS e)) → ∃ ks : List (Str × Value), (∀ e ∈ es, ∃ k, (PySem.strKind W.prog W.w).is k e.key = true ∧ e.hash = PyData.keyHash W.w.params k) ∧ Pairs (PySem.strKind W.prog W.w) es ks ∧ All2 (KV HS.nil) (p :: r) ks ∧ ks.map (·.1) = ((p :: r).map (·.1)).map toS) hv (fun e es h hh => an h fun h1 h2 => ?_) hh
      obtain ⟨hash, key, val⟩ := e
      obtain ⟨hh1, hh2⟩ := List.cons.inj hh
      obtain ⟨ks, q1, q2, q3, q4⟩ := ih hh2 h2
      cases key with
      | str x t =>
        refine an (show (lEq p.1 x.cps.toList && vrB p.2 val) = true from h1) fun h3 h4 => ?_
        have e : x = toS p.1 := by rw [lEq_iff.mp h3]; exact (toS_ofS x).symm
        refine ⟨(x, val) :: ks, fun e' he => ?_, Pairs.cons (strKind_is W.prog W.w x t) rfl q2, .cons ⟨e, vrB_ok h4⟩ q3, ?_⟩
        · rcases List.mem_cons.mp he with rfl | he
          · exact ⟨x, strKind_is W.prog W.w x t, hh1⟩
          · exact q1 e' he
        · show x :: ks.map (·.1) = toS p.1 :: _
          rw [q4, e]
      | _ => exact noB h1
  obtain ⟨ks, h1, h2, h3, h4⟩ := key hh hv
  refine ORel.dict (ks := ks) ⟨(esOf W.K a).toArray, epOf W.K a, ⟨rfl, rfl, rfl⟩, rfl, fun e he => ?_, by simpa using h2, ?_⟩ h3 (Nat.le_of_ble_eq_true hl) hA
  · obtain ⟨k, h5, h6⟩ := h1 e (by simpa using he)
    exact ⟨k, h5, h6.trans rfl⟩
  · rw [h4]
    exact List.pairwise_map.mpr (nd.imp fun hne he => hne (toS_inj he))
noncomputable def dfT (K : Frag) (f : Nat) : Nat := match (fdOf K f).defaults with | .ref T => T | _ => 0
theorem dfK {K : Frag} {f : Nat} {vs : List Value} {binds : List (Str × Value)} (hd : (fdOf K f).defaults = .ref (dfT K f)) (ho : K.lookup (dfT K f) = some { cls := .type "tuple", data := .seq (seqOf K (dfT K f)).toArray (epOf K (dfT K f)) })
    (h : (bindRest (fdOf K f) vs).1 (some (seqOf K (dfT K f)).toArray) = pure binds) : BE K (fdOf K f) vs binds := .df hd ho h
noncomputable def allP {α : Type} (P : α → Prop) : List α → Prop
  | [] => True
  | x :: r => P x ∧ allP P r
theorem allP_mem {α : Type} {P : α → Prop} : ∀ {l : List α}, allP P l → ∀ x ∈ l, P x
  | y :: r, h, x, hx => by
    rcases List.mem_cons.mp hx with e | hx
    · exact e ▸ h.1
    · exact allP_mem h.2 x hx
theorem fns_of {W : Wd} {t : Tc} (T : TcOk W t) {l : List (Nat × Fn)} (h : allP (fun p : Nat × Fn => fnB t W.K p.1 p.2 = true) l) (hb : allP (fun p : Nat × Fn => BindOk W p.2 (fdOf W.K p.1) (fdOf W.K p.1).scope) l) (f : Nat) (fn : Fn) (e : getK f l = some fn) : FnEx W f fn :=
  fnB_ok T (allP_mem h _ (getK_mem e)) (allP_mem hb _ (getK_mem e))
theorem so_of {W : Wd} {l : List (Nat × O)} {sp : Nat} {o : O} (h : allP (fun p : Nat × O => SoAt W p.1 p.2) l) (hs : SoAt W sp o) : SoOk W (fun a => match getK a l with | some o => some o | none => getK a [(sp, o)]) := by
  refine ⟨fun a o' e => ?_⟩
  have k : SoAt W a o' := by
    have e1 : (match getK a l with | some o => some o | none => getK a [(sp, o)]) = some o' := e
    cases q : getK a l with
    | some o2 => rw [q] at e1; obtain rfl := Option.some.inj e1; exact allP_mem h _ (getK_mem q)
    | none =>
      rw [q] at e1
      have e2 : (bif Nat.beq sp a then some o else none) = some o' := e1
      exact bif_E e2 fun h1 h2 => by rw [← Nat.eq_of_beq_eq_true h1, ← Option.some.inj h2]; exact hs
  obtain ⟨ob, h1, h2⟩ := k.h
  exact ⟨[(a, ob)], rfl, fun q hq => by rw [List.mem_singleton.mp hq]; exact h1, h2⟩
theorem ints_all {vs : List Value} {is : List Int} (h : IntsAre vs is) : All2 (VR HS.nil) (is.map V.int) vs := by
  induction h with
  | nil => exact .nil
  | cons n t _ ih => exact .cons (.int n t) ih
theorem script_ob {P : Params} {h : Heap} {sp : Addr} {d : WData} (w1 : Well P h (.ref sp) d) (hd : ∃ xs, d = .list xs) {vs : List Value} (hL : h.IsList sp vs.toArray) : ∃ n, h.get? sp = some (listOf vs.toArray n) := by
  obtain ⟨xs, rfl⟩ := hd
  cases w1 with
  | list h1 _ =>
    obtain ⟨o, h2, _, n, h3⟩ := hL
    rw [h1] at h2
    cases h2
    cases h3
    exact ⟨_, h1⟩
theorem lookup_in {K : Frag} {a : Addr} {o : Obj} {h : Heap} (k : K.In h) (e : h.get? a = some o) : List.lookup a (K ++ [(a, o)]) = some o := by
  cases q : List.lookup a K with
  | none => exact lookup_last q
  | some o' =>
    obtain rfl := Option.some.inj (e.symm.trans (k _ _ q))
    exact lookup_app q
theorem in_app {K : Frag} {a : Addr} {o : Obj} {h : Heap} (k : K.In h) (e : h.get? a = some o) : Frag.In (K ++ [(a, o)]) h := by
  intro b x hb
  cases q : List.lookup b K with
  | some o' =>
    rw [lookup_app q] at hb
    obtain rfl := Option.some.inj hb
    exact k _ _ q
  | none =>
    rw [List.lookup_append, q] at hb
    have hb : (List.lookup b [(a, o)]) = some x := hb
    rw [List.lookup_cons] at hb
    cases hab : b == a with
    | true => rw [hab] at hb; obtain rfl := Option.some.inj hb; rw [beq_iff_eq.mp hab]; exact e
    | false => rw [hab] at hb; exact noE hb
theorem gx_of (W : Wd) (p : Pr) (hso : SoOk W p.so) (hco : ∀ fuel call, ClsOk W (cxOf p fuel call)) (hi : W.tb[p.init]? = some "__init__") (hf : ∀ f fn, p.fns f = some fn → FnEx W f fn) (fuel d : Nat) : GX W (cxOf p fuel (runF p fuel d)) d := by
  refine ⟨⟨hso, hco _ _, call_ok W p hso hco hi hf fuel d⟩, hi, fun f' args' σ2 r' qq1 e' => ?_⟩
  have e' : runF p fuel d f' args' σ2 = some r' := e'
  cases d with
  | zero => exact noE e'
  | succ d => exact bdE (runF_succ.symm.trans e') fun fn' q qq1 => (hf f' fn' q).fn
theorem body_of {W : Wd} {f : Nat} {fn : Fn} (x : FnEx W f fn) {qual name : Str} {params : Arguments} {body : List Stmt} {scope : Scope} {dV kV doc pm cdv ct oc : Value} {an od : Option Addr} {osl : Array (Option Value)}
    (h : W.K.lookup f = some ⟨oc, od, .func (fnOf name qual params body scope dV kV doc pm an cdv ct), osl⟩) : scope.kind = .function ∧ ∀ (cx : Cx) (d : Nat), GX W cx d → OkSs W cx scope d fn.body body := by
  obtain ⟨qual', name', params', body', scope', dV', kV', doc', pm', cdv', ct', oc', an', od', osl', o⟩ := x
  have e := Data.func.inj (congrArg Obj.data (Option.some.inj (o.at_.symm.trans h)))
  obtain rfl : body' = body := FuncBody.stmts.inj (congrArg FuncData.body e)
  obtain rfl : scope' = scope := congrArg FuncData.scope e
  exact ⟨o.kind, o.body⟩
theorem run_law {W : Wd} {p : Pr} {lawF sp : Nat} {fn : Fn} {fuel d : Nat} (hso : SoOk W p.so) (hco : ∀ fuel call, ClsOk W (cxOf p fuel call)) (hi : W.tb[p.init]? = some "__init__") (hf : ∀ f fn, p.fns f = some fn → FnEx W f fn)
    {qual name : Str} {params : Arguments} {body : List Stmt} {scope : Scope} {dV kV doc pm cdv ct oc : Value} {an od : Option Addr} {osl : Array (Option Value)}
    (hat : W.K.lookup lawF = some ⟨oc, od, .func (fnOf name qual params body scope dV kV doc pm an cdv ct), osl⟩) (hfn : p.fns lawF = some fn)
    {i : Nat} {x : Str} (hx : W.tb[i]? = some x) {s₁ : Shared} (T : Top W.p W.loose W.mean W.mg W.mb s₁.heap) (KX : W.K.In s₁.heap) {fa : Addr} {cd : Value} {h₁ : Heap} {nm : Str} {g : Array GenState} {dr : Drawn} {tk : Nat} {os : OsState}
    (F : PyProof.Rows.Fr s₁.heap s₁.heap.objs.size h₁ (fun z => [(x, Value.ref sp)].reverse.lookup z)) (N0 : News s₁.heap s₁.heap.objs.size h₁ []) (ht : 1 ≤ tk) (hd : d ≤ 100)
    (he : ∃ L' σ', evSs (cxOf p fuel (runF p fuel d)) fn.body 0 [(i, .sref sp)] [] = some (.ret (.bool true), L', σ')) {Q : Flow → Shared → Prop} {E : Value → Shared → Prop}
    (H : ∀ h' t', (∀ b o, s₁.heap.get? b = some o → h'.get? b = some o) → Q (.ret (.bool true)) ⟨h', g, dr, t', os⟩) :
    wpAny (model W.prog W.w) (callerA.deeper (envOf nm scope s₁.heap.objs.size fa cd)) (execs body (envOf nm scope s₁.heap.objs.size fa cd)) Q E ⟨h₁, g, dr, tk, os⟩ := by
  obtain ⟨L', σ', he⟩ := he
  obtain ⟨hk, hb⟩ := body_of (hf _ _ hfn) hat
  refine (hb _ d (gx_of W p hso hco hi hf fuel d)).1 { cn := nm, cs := scope, L := s₁.heap.objs.size, a := fa, ccd := cd, h₀ := s₁.heap, A₀ := callerA, base := s₁.heap, outer := [], A := callerA.deeper (envOf nm scope s₁.heap.objs.size fa cd) } rfl
    ⟨Around.frames_deeper rfl, rfl, ?_, ?_, KX, T, hk⟩ (m := fun z => [(x, Value.ref sp)].reverse.lookup z) (X := []) (ps := ⟨[], [], fun qq1 qq2 => False⟩) ⟨⟨s₁.heap, ⟨rfl, below_caller s₁.heap⟩, F⟩, N0, List.nodup_nil, .nil, fun qq1 qq2 h => h.elim⟩ (one_lr hx (.sref sp)) ht (hz := HS.nil) rfl .nil he fun m' ps' h' t' f p' S' lr' fr ht' => ?_
  · show 1 + 300 + 1 + 3 * d + 3 ≤ 990
    lia
  · show 4 + 3 + 30 * d + 300 ≤ 9800
    lia
  · cases fr with
    | ret r =>
      cases r
      obtain ⟨_, G, F2⟩ := S'.F
      refine H h' t' fun b o e => F2.keep b o ?_
      rw [G.eq]; exact e
theorem or_list {prog : Program} {w : World} {tb : List Str} {hs : HS} {o : O} {A : Addr} {its : Array Value} {n : Nat} (r : ORel prog w tb hs o [(A, listOf its n)]) : oIsL o = true := by
  generalize hp : [(A, listOf its n)] = part at r
  cases r with
  | list => rfl
  | tuple =>
    have h := Value.type.inj (congrArg (fun o : Obj => o.cls) (congrArg Prod.snd (List.cons.inj hp).1))
    exact absurd h (by decide)
  | dict h1 h2 h3 h4 =>
    obtain ⟨rfl, rfl⟩ := Prod.mk.inj (List.cons.inj hp).1
    obtain ⟨es, n', ⟨q1, _⟩, _⟩ := h1
    exact absurd (Value.type.inj q1) (by decide)
  | inst => exact nomatch (List.cons.inj hp).2
  | meth =>
    have h := congrArg (fun o : Obj => o.cls) (congrArg Prod.snd (List.cons.inj hp).1)
    exact absurd (Value.type.inj h) (by decide)
  | rng =>
    have h := congrArg (fun o : Obj => o.cls) (congrArg Prod.snd (List.cons.inj hp).1)
    exact absurd (Value.type.inj h) (by decide)
theorem so_none {W : Wd} {l : List (Nat × O)} (h : allP (fun q : Nat × O => SoAt W q.1 q.2) l) (hn : (l.all fun q => !oIsL q.2) = true) {g : Heap} (X : W.K.In g) {sp n : Nat} {its : Array Value} (e : g.get? sp = some (listOf its n)) : getK sp l = none := by
  cases q : getK sp l with
  | none => rfl
  | some o =>
    obtain ⟨ob, h1, h2⟩ := (allP_mem h _ (getK_mem q)).h
    obtain rfl := Option.some.inj (e.symm.trans (X _ _ h1))
    have h3 := nt (List.all_eq_true.mp hn _ (getK_mem q))
    rw [or_list h2] at h3
    exact noB h3.symm
end PL
end
section
namespace L4
open PL
noncomputable def f42 : List PS := [(.ret (.join [] (.comp (.one 25) (.loc 3) (.ife (.chain .le .le (.const (.str [65])) (.loc 25) (.const (.str [90]))) (.chr (.bin .add (.ord (.loc 25)) (.const (.int 32)))) (.loc 25)))))]
noncomputable def f63 : List PS := [(.assign (.a (.loc 34) 3) (.loc 3)),
    (.assign (.a (.loc 34) 16) (.const (.int 0)))]
noncomputable def f70 : List PS := [(.assign (.l 56) (.slice (.attr (.loc 34) 3) (.attr (.loc 34) 16) (.bin .add (.attr (.loc 34) 16) (.loc 76)))),
    (.augA (.loc 34) 16 .add (.len (.loc 56))),
    (.ret (.loc 56))]
noncomputable def f84 : List PS := [(.ret (.orE (.chain .le .le (.const (.int 1)) (.loc 82) (.const (.int 8))) (.orE (.cmp .eq (.loc 82) (.const (.int 11))) (.orE (.chain .le .le (.const (.int 14)) (.loc 82) (.const (.int 31))) (.orE (.chain .le .le (.const (.int 127)) (.loc 82) (.const (.int 159))) (.orE (.chain .le .le (.const (.int 64976)) (.loc 82) (.const (.int 65007))) (.orE (.cmp .isin (.bin .mod (.loc 82) (.const (.int 65536))) (.tupE [(.const (.int 65534)), (.const (.int 65535))])) (.chain .le .le (.const (.int 55296)) (.loc 82) (.const (.int 57343))))))))))]
noncomputable def f98 : List PS := [(.assign (.a (.loc 34) 52) (.attr (.loc 34) 66)),
    (.assign (.a (.loc 34) 67) (.listE [(.const (.int 0))])),
    (.assign (.a (.loc 34) 48) (.meth (.loc 34) 68 [(.loc 69)])),
    (.expr (.meth (.loc 34) 70 []))]
noncomputable def f105 : List PS := [(.assign (.a (.loc 34) 46) (.const (.str []))),
    (.assign (.a (.loc 34) 41) (.const (.int 0))),
    (.assign (.a (.loc 34) 47) (.const (.int 0))),
    (.assign (.a (.loc 34) 77) (.listE [])),
    (.assign (.a (.loc 34) 43) (.const (.int 0))),
    (.assign (.a (.loc 34) 44) (.const (.int 0))),
    (.assign (.a (.loc 34) 50) (.const .none))]
noncomputable def f112 : List PS := [(.assign (.l 13) (.new 73 [(.loc 69)])),
    (.ret (.loc 13))]
noncomputable def f119 : List PS := [(.assign (.l 46) (.attr (.loc 34) 46)),
    (.assign (.l 71) (.count3 (.loc 46) [10] (.const (.int 0)) (.loc 72))),
    (.assign (.l 73) (.bin .add (.attr (.loc 34) 43) (.loc 71))),
    (.assign (.l 74) (.rfind3 (.loc 46) [10] (.const (.int 0)) (.loc 72))),
    (.ifs (.cmp .eq (.loc 74) (.neg (.const (.int 1)))) [(.assign (.l 75) (.bin .add (.attr (.loc 34) 44) (.loc 72)))] [(.assign (.l 75) (.bin .sub (.loc 72) (.bin .add (.loc 74) (.const (.int 1)))))]),
    (.ret (.tupE [(.loc 73), (.loc 75)]))]
noncomputable def f126 : List PS := [(.assignT [(.l 53), (.l 54)] (.meth (.loc 34) 45 [(.attr (.loc 34) 47)])),
    (.ret (.tupE [(.bin .add (.loc 53) (.const (.int 1))), (.loc 54)]))]
noncomputable def f133 : List PS := [(.ifs (.cmp .ge (.attr (.loc 34) 47) (.attr (.loc 34) 41)) [(.ifs (.notE (.meth (.loc 34) 14 [])) [(.ret (.glob .none))] [])] []),
    (.assign (.l 47) (.attr (.loc 34) 47)),
    (.assign (.l 21) (.sub (.attr (.loc 34) 46) (.loc 47))),
    (.assign (.a (.loc 34) 47) (.bin .add (.loc 47) (.const (.int 1)))),
    (.ret (.loc 21))]
noncomputable def f141 : List PS := [(.ifs (.cmp .is (.loc 41) (.const .none)) [(.assign (.l 41) (.attr (.loc 34) 42))] []),
    (.assignT [(.a (.loc 34) 43), (.a (.loc 34) 44)] (.meth (.loc 34) 45 [(.attr (.loc 34) 41)])),
    (.assign (.a (.loc 34) 46) (.const (.str []))),
    (.assign (.a (.loc 34) 41) (.const (.int 0))),
    (.assign (.a (.loc 34) 47) (.const (.int 0))),
    (.assign (.l 29) (.meth (.attr (.loc 34) 48) 49 [(.loc 41)])),
    (.ifs (.attr (.loc 34) 50) [(.assign (.l 29) (.bin .add (.attr (.loc 34) 50) (.loc 29))),
    (.assign (.a (.loc 34) 50) (.const .none))] [(.ifs (.notE (.loc 29)) [(.ret (.const (.bool false)))] [])]),
    (.ifs (.cmp .gt (.len (.loc 29)) (.const (.int 1))) [(.assign (.l 51) (.ord (.sub (.loc 29) (.neg (.const (.int 1)))))),
    (.ifs (.orE (.cmp .eq (.loc 51) (.const (.int 13))) (.chain .le .le (.const (.int 55296)) (.loc 51) (.const (.int 56319)))) [(.assign (.a (.loc 34) 50) (.sub (.loc 29) (.neg (.const (.int 1))))),
    (.assign (.l 29) (.slice (.loc 29) (.const .none) (.neg (.const (.int 1)))))] [])] []),
    (.ifs (.attr (.loc 34) 52) [(.expr (.meth (.loc 34) 52 [(.loc 29)]))] []),
    (.assign (.l 29) (.replC (.loc 29) [13, 10] [10])),
    (.assign (.l 29) (.replC (.loc 29) [13] [10])),
    (.assign (.a (.loc 34) 46) (.loc 29)),
    (.assign (.a (.loc 34) 41) (.len (.loc 29))),
    (.ret (.const (.bool true)))]
noncomputable def f148 : List PS := [(.fors (.one 25) (.loc 29) [(.ifs (.call 84 [(.ord (.loc 25))]) [(.expr (.append (.attr (.loc 34) 77) (.const (.str [105, 110, 118, 97, 108, 105, 100, 45, 99, 111, 100, 101, 112, 111, 105, 110, 116]))))] [])])]
noncomputable def f156 : List PS := [(.assign (.l 78) (.listE [])),
    (.whiles (.const (.bool true)) [(.assign (.l 9) (.attr (.loc 34) 47)),
    (.whiles (.andE (.cmp .ne (.loc 9) (.attr (.loc 34) 41)) (.cmp .eq (.cmp .isin (.sub (.attr (.loc 34) 46) (.loc 9)) (.loc 79)) (.loc 80))) [(.augL 9 .add (.const (.int 1)))]),
    (.ifs (.cmp .eq (.loc 9) (.attr (.loc 34) 47)) [(.ifs (.cmp .ne (.attr (.loc 34) 47) (.attr (.loc 34) 41)) [.brk] [])] [(.ifs (.cmp .ne (.loc 9) (.attr (.loc 34) 41)) [(.expr (.append (.loc 78) (.slice (.attr (.loc 34) 46) (.attr (.loc 34) 47) (.loc 9)))),
    (.assign (.a (.loc 34) 47) (.loc 9)),
    .brk] [])]),
    (.expr (.append (.loc 78) (.slice (.attr (.loc 34) 46) (.attr (.loc 34) 47) (.const .none)))),
    (.ifs (.notE (.meth (.loc 34) 14 [])) [.brk] [])]),
    (.assign (.l 81) (.join [] (.loc 78))),
    (.retf (.loc 81))]
noncomputable def f261 : List PS := [(.assign (.a (.loc 34) 13) (.new 166 [(.loc 13)])),
    (.assign (.a (.loc 34) 35) (.loc 35)),
    (.assign (.a (.loc 34) 36) (.const (.bool false))),
    (.assign (.a (.loc 34) 37) (.listE [])),
    (.assign (.a (.loc 34) 38) (.attr (.loc 34) 39)),
    (.assign (.a (.loc 34) 40) (.const (.bool false))),
    (.assign (.a (.loc 34) 19) (.const .none))]
noncomputable def f297 : List PS := [(.assign (.l 18) (.attr (.loc 34) 19)),
    (.ifs (.cmp .isin (.sub (.loc 18) (.const (.str [116, 121, 112, 101]))) (.glob (.sref 49))) [(.assign (.s (.loc 18) (.const (.str [110, 97, 109, 101]))) (.call 42 [(.sub (.loc 18) (.const (.str [110, 97, 109, 101])))])),
    (.ifs (.cmp .eq (.sub (.loc 18) (.const (.str [116, 121, 112, 101]))) (.sub (.glob (.sref 48)) (.const (.str [83, 116, 97, 114, 116, 84, 97, 103])))) [(.assign (.l 65) (.sub (.loc 18) (.const (.str [100, 97, 116, 97])))),
    (.assign (.l 29) (.dictOf (.loc 65))),
    (.ifs (.cmp .gt (.len (.loc 65)) (.len (.loc 29))) [(.expr (.update (.loc 29) (.rev (.loc 65))))] []),
    (.assign (.s (.loc 18) (.const (.str [100, 97, 116, 97]))) (.loc 29))] []),
    (.ifs (.cmp .eq (.sub (.loc 18) (.const (.str [116, 121, 112, 101]))) (.sub (.glob (.sref 48)) (.const (.str [69, 110, 100, 84, 97, 103])))) [(.ifs (.sub (.loc 18) (.const (.str [100, 97, 116, 97]))) [(.expr (.append (.attr (.loc 34) 12) (.dictE [[116, 121, 112, 101], [100, 97, 116, 97]] [(.sub (.glob (.sref 48)) (.const (.str [80, 97, 114, 115, 101, 69, 114, 114, 111, 114]))), (.const (.str [97, 116, 116, 114, 105, 98, 117, 116, 101, 115, 45, 105, 110, 45, 101, 110, 100, 45, 116, 97, 103]))])))] []),
    (.ifs (.sub (.loc 18) (.const (.str [115, 101, 108, 102, 67, 108, 111, 115, 105, 110, 103]))) [(.expr (.append (.attr (.loc 34) 12) (.dictE [[116, 121, 112, 101], [100, 97, 116, 97]] [(.sub (.glob (.sref 48)) (.const (.str [80, 97, 114, 115, 101, 69, 114, 114, 111, 114]))), (.const (.str [115, 101, 108, 102, 45, 99, 108, 111, 115, 105, 110, 103, 45, 102, 108, 97, 103, 45, 111, 110, 45, 101, 110, 100, 45, 116, 97, 103]))])))] [])] [])] []),
    (.expr (.append (.attr (.loc 34) 12) (.loc 18))),
    (.assign (.a (.loc 34) 38) (.attr (.loc 34) 39)),
    (.gc 0)]
noncomputable def f542 : List PS := [(.assign (.l 29) (.meth (.attr (.loc 34) 13) 21 [])),
    (.assign (.l 57) (.const (.bool true))),
    (.assign (.l 58) (.const (.bool false))),
    (.ifs (.cmp .eq (.loc 29) (.const (.str [61]))) [(.assign (.a (.loc 34) 38) (.attr (.loc 34) 59))] [(.ifs (.cmp .isin (.loc 29) (.glob (.sref 27))) [(.augS (.sub (.sub (.attr (.loc 34) 19) (.const (.str [100, 97, 116, 97]))) (.neg (.const (.int 1)))) (.const (.int 0)) .add (.bin .add (.loc 29) (.meth (.attr (.loc 34) 13) 60 [(.glob (.sref 27)), (.const (.bool true))]))),
    (.assign (.l 57) (.const (.bool false)))] [(.ifs (.cmp .eq (.loc 29) (.const (.str [62]))) [(.assign (.l 58) (.const (.bool true)))] [(.ifs (.cmp .isin (.loc 29) (.glob (.sref 22))) [(.assign (.a (.loc 34) 38) (.attr (.loc 34) 61))] [(.ifs (.cmp .eq (.loc 29) (.const (.str [47]))) [(.assign (.a (.loc 34) 38) (.attr (.loc 34) 62))] [(.ifs (.cmp .eq (.loc 29) (.const (.str [0]))) [(.expr (.append (.attr (.loc 34) 12) (.dictE [[116, 121, 112, 101], [100, 97, 116, 97]] [(.sub (.glob (.sref 48)) (.const (.str [80, 97, 114, 115, 101, 69, 114, 114, 111, 114]))), (.const (.str [105, 110, 118, 97, 108, 105, 100, 45, 99, 111, 100, 101, 112, 111, 105, 110, 116]))]))),
    (.augS (.sub (.sub (.attr (.loc 34) 19) (.const (.str [100, 97, 116, 97]))) (.neg (.const (.int 1)))) (.const (.int 0)) .add (.const (.str [65533]))),
    (.assign (.l 57) (.const (.bool false)))] [(.ifs (.cmp .isin (.loc 29) (.tupE [(.const (.str [39])), (.const (.str [34])), (.const (.str [60]))])) [(.expr (.append (.attr (.loc 34) 12) (.dictE [[116, 121, 112, 101], [100, 97, 116, 97]] [(.sub (.glob (.sref 48)) (.const (.str [80, 97, 114, 115, 101, 69, 114, 114, 111, 114]))), (.const (.str [105, 110, 118, 97, 108, 105, 100, 45, 99, 104, 97, 114, 97, 99, 116, 101, 114, 45, 105, 110, 45, 97, 116, 116, 114, 105, 98, 117, 116, 101, 45, 110, 97, 109, 101]))]))),
    (.augS (.sub (.sub (.attr (.loc 34) 19) (.const (.str [100, 97, 116, 97]))) (.neg (.const (.int 1)))) (.const (.int 0)) .add (.loc 29)),
    (.assign (.l 57) (.const (.bool false)))] [(.ifs (.cmp .is (.loc 29) (.glob .none)) [(.expr (.append (.attr (.loc 34) 12) (.dictE [[116, 121, 112, 101], [100, 97, 116, 97]] [(.sub (.glob (.sref 48)) (.const (.str [80, 97, 114, 115, 101, 69, 114, 114, 111, 114]))), (.const (.str [101, 111, 102, 45, 105, 110, 45, 97, 116, 116, 114, 105, 98, 117, 116, 101, 45, 110, 97, 109, 101]))]))),
    (.assign (.a (.loc 34) 38) (.attr (.loc 34) 39))] [(.augS (.sub (.sub (.attr (.loc 34) 19) (.const (.str [100, 97, 116, 97]))) (.neg (.const (.int 1)))) (.const (.int 0)) .add (.loc 29)),
    (.assign (.l 57) (.const (.bool false)))])])])])])])])]),
    (.ifs (.loc 57) [(.assign (.s (.sub (.sub (.attr (.loc 34) 19) (.const (.str [100, 97, 116, 97]))) (.neg (.const (.int 1)))) (.const (.int 0))) (.call 42 [(.sub (.sub (.sub (.attr (.loc 34) 19) (.const (.str [100, 97, 116, 97]))) (.neg (.const (.int 1)))) (.const (.int 0)))])),
    (.fors (.many [8, 63]) (.slice (.sub (.attr (.loc 34) 19) (.const (.str [100, 97, 116, 97]))) (.const .none) (.neg (.const (.int 1)))) [(.ifs (.cmp .eq (.sub (.sub (.sub (.attr (.loc 34) 19) (.const (.str [100, 97, 116, 97]))) (.neg (.const (.int 1)))) (.const (.int 0))) (.loc 8)) [(.expr (.append (.attr (.loc 34) 12) (.dictE [[116, 121, 112, 101], [100, 97, 116, 97]] [(.sub (.glob (.sref 48)) (.const (.str [80, 97, 114, 115, 101, 69, 114, 114, 111, 114]))), (.const (.str [100, 117, 112, 108, 105, 99, 97, 116, 101, 45, 97, 116, 116, 114, 105, 98, 117, 116, 101]))]))),
    .brk] [])]),
    (.ifs (.loc 58) [(.expr (.meth (.loc 34) 28 []))] [])] []),
    (.retf (.const (.bool true)))]
noncomputable def f773 : List PS := [(.retf (.listE [(.const (.str [97])), (.const (.str [65])), (.const (.str [97, 98])), (.const (.str [97, 66])), (.const (.str [98])), (.const (.str [75])), (.const (.str [8490])), (.const (.str [97, 39])), (.const (.str [65, 39])), (.const (.str [98, 0]))]))]
noncomputable def f780 : List PS := [(.retf (.listE [(.const (.str [32])), (.const (.str [61])), (.const (.str [47])), (.const (.str [10])), (.const (.str [9])), (.const (.str [13]))]))]
noncomputable def f787 : List PS := [(.retf (.listE [(.const (.str [112])), (.const (.str [81])), (.const (.str [201, 72, 49])), (.const (.str [8490, 66, 114]))]))]
noncomputable def f794 : List PS := [(.retf (.listE [(.const (.str [83, 116, 97, 114, 116, 84, 97, 103])), (.const (.str [83, 116, 97, 114, 116, 84, 97, 103])), (.const (.str [69, 110, 100, 84, 97, 103])), (.const (.str [83, 116, 97, 114, 116, 84, 97, 103])), (.const (.str [69, 109, 112, 116, 121, 84, 97, 103])), (.const (.str [69, 110, 100, 84, 97, 103])), (.const (.str [83, 116, 97, 114, 116, 84, 97, 103]))]))]
noncomputable def f799 : List PS := [(.ret (.join [] (.comp (.one 25) (.replC (.loc 8) [0] [65533]) (.ife (.chain .le .le (.const (.str [65])) (.loc 25) (.const (.str [90]))) (.chr (.bin .add (.ord (.loc 25)) (.const (.int 32)))) (.loc 25)))))]
noncomputable def f806 : List PS := [(.retf (.dictE [[116, 121, 112, 101], [100, 97, 116, 97]] [(.sub (.glob (.sref 48)) (.const (.str [80, 97, 114, 115, 101, 69, 114, 114, 111, 114]))), (.loc 64)]))]
noncomputable def f813 : List PS := [(.assign (.l 55) (.splitC (.loc 56) [10])),
    (.retf (.tupE [(.len (.loc 55)), (.len (.sub (.loc 55) (.neg (.const (.int 1)))))]))]
noncomputable def f820 : List PS := [(.assign (.l 1) (.listE [])),
    (.whiles (.andE (.loc 30) (.cmp .lt (.len (.loc 1)) (.const (.int 8)))) [(.assign (.l 31) (.popAt (.loc 30) (.const (.int 0)))),
    (.assign (.l 7) (.listE [])),
    (.fors (.one 32) (.range (.bin .mod (.bin .add (.loc 31) (.const (.int 3))) (.const (.int 5)))) [(.assign (.l 33) (.ife (.loc 30) (.popAt (.loc 30) (.const (.int 0))) (.bin .add (.loc 31) (.loc 32)))),
    (.expr (.append (.loc 7) (.tupE [(.sub (.call 773 []) (.bin .mod (.loc 33) (.const (.int 10)))), (.sub (.call 780 []) (.bin .mod (.bin .fdiv (.loc 33) (.const (.int 10))) (.const (.int 6))))])))]),
    (.expr (.append (.loc 1) (.tupE [(.sub (.call 794 []) (.bin .mod (.loc 31) (.const (.int 7)))), (.sub (.call 787 []) (.bin .mod (.bin .fdiv (.loc 31) (.const (.int 35))) (.const (.int 4)))), (.cmp .eq (.bin .mod (.bin .fdiv (.loc 31) (.const (.int 140))) (.const (.int 2))) (.const (.int 1))), (.loc 7)]))),
    (.gc 1)]),
    (.retf (.loc 1))]
noncomputable def f825 : List PS := [(.assign (.l 1) (.call 820 [(.orE (.listOf (.slice (.loc 2) (.const .none) (.const (.int 30)))) (.listE [(.const (.int 0))]))])),
    (.gc 0),
    (.assign (.l 3) (.join [] (.comp2 (.many [4, 5, 6, 7]) (.loc 1) (.many [8, 9]) (.loc 7) (.bin .add (.loc 8) (.loc 9))))),
    (.assign (.l 10) (.replC (.loc 3) [13] [10])),
    (.gc 0),
    (.assign (.l 11) (.new 762 [(.loc 3)])),
    (.gc 7),
    (.assign (.a (.loc 11) 12) (.listE [])),
    (.expr (.meth (.attr (.loc 11) 13) 14 [(.bin .add (.const (.int 2)) (.bin .mod (.bin .fdiv (.sum (.slice (.loc 2) (.const .none) (.const (.int 1)))) (.const (.int 9))) (.const (.int 14))))])),
    (.gc 8),
    (.assignT [(.l 15), (.l 16), (.l 17)] (.tupE [(.listE []), (.const (.int 0)), (.const (.int 0))])),
    (.gc 9),
    (.fors (.many [4, 5, 6, 7]) (.loc 1) [(.assign (.l 18) (.dictE [[116, 121, 112, 101], [110, 97, 109, 101], [100, 97, 116, 97], [115, 101, 108, 102, 67, 108, 111, 115, 105, 110, 103]] [(.sub (.glob (.sref 48)) (.loc 4)), (.loc 5), (.listE []), (.loc 6)])),
    (.assign (.a (.loc 11) 19) (.loc 18)),
    (.assign (.l 20) (.listE [])),
    (.fors (.many [8, 9]) (.loc 7) [(.expr (.append (.sub (.loc 18) (.const (.str [100, 97, 116, 97]))) (.listE [(.meth (.attr (.loc 11) 13) 21 []), (.const (.str []))]))),
    (.augL 16 .add (.bin .add (.len (.loc 8)) (.const (.int 1)))),
    (.assign (.l 22) (.const (.int 0))),
    (.whiles (.andE (.cmp .lt (.loc 22) (.const (.int 9))) (.cmp .ne (.meth (.attr (.loc 11) 13) 23 []) (.call 813 [(.slice (.loc 10) (.const .none) (.loc 16))]))) [(.expr (.meth (.loc 11) 24 [])),
    (.augL 22 .add (.const (.int 1)))]),
    (.fors (.one 25) (.slice (.loc 8) (.const (.int 1)) (.const .none)) [(.ifs (.cmp .eq (.loc 25) (.const (.str [0]))) [(.expr (.append (.loc 15) (.call 806 [(.const (.str [105, 110, 118, 97, 108, 105, 100, 45, 99, 111, 100, 101, 112, 111, 105, 110, 116]))])))] [(.ifs (.cmp .eq (.loc 25) (.const (.str [39]))) [(.expr (.append (.loc 15) (.call 806 [(.const (.str [105, 110, 118, 97, 108, 105, 100, 45, 99, 104, 97, 114, 97, 99, 116, 101, 114, 45, 105, 110, 45, 97, 116, 116, 114, 105, 98, 117, 116, 101, 45, 110, 97, 109, 101]))])))] [])])]),
    (.ifs (.cmp .isin (.call 799 [(.loc 8)]) (.comp (.many [26, 27]) (.loc 20) (.loc 26))) [(.expr (.append (.loc 15) (.call 806 [(.const (.str [100, 117, 112, 108, 105, 99, 97, 116, 101, 45, 97, 116, 116, 114, 105, 98, 117, 116, 101]))])))] []),
    (.assign (.s (.sub (.sub (.loc 18) (.const (.str [100, 97, 116, 97]))) (.neg (.const (.int 1)))) (.const (.int 1))) (.chr (.bin .add (.const (.int 97)) (.bin .mod (.loc 17) (.const (.int 26)))))),
    (.expr (.append (.loc 20) (.listE [(.call 799 [(.loc 8)]), (.chr (.bin .add (.const (.int 97)) (.bin .mod (.loc 17) (.const (.int 26)))))]))),
    (.augL 17 .add (.const (.int 1))),
    (.gc 0),
    (.ifs (.orE (.cmp .ne (.sub (.loc 18) (.const (.str [100, 97, 116, 97]))) (.loc 20)) (.cmp .ne (.attr (.loc 11) 12) (.loc 15))) [(.ret (.const (.bool false)))] [])]),
    (.expr (.meth (.loc 11) 28 [])),
    (.assign (.l 29) (.loc 20)),
    (.ifs (.cmp .eq (.loc 4) (.const (.str [83, 116, 97, 114, 116, 84, 97, 103]))) [(.assign (.l 29) (.dictE [] [])),
    (.fors (.many [26, 27]) (.loc 20) [(.ifs (.cmp .notin (.loc 26) (.loc 29)) [(.assign (.s (.loc 29) (.loc 26)) (.loc 27))] [])])] []),
    (.ifs (.andE (.cmp .eq (.loc 4) (.const (.str [69, 110, 100, 84, 97, 103]))) (.loc 20)) [(.expr (.append (.loc 15) (.call 806 [(.const (.str [97, 116, 116, 114, 105, 98, 117, 116, 101, 115, 45, 105, 110, 45, 101, 110, 100, 45, 116, 97, 103]))])))] []),
    (.ifs (.andE (.cmp .eq (.loc 4) (.const (.str [69, 110, 100, 84, 97, 103]))) (.loc 6)) [(.expr (.append (.loc 15) (.call 806 [(.const (.str [115, 101, 108, 102, 45, 99, 108, 111, 115, 105, 110, 103, 45, 102, 108, 97, 103, 45, 111, 110, 45, 101, 110, 100, 45, 116, 97, 103]))])))] []),
    (.expr (.append (.loc 15) (.dictE [[116, 121, 112, 101], [110, 97, 109, 101], [100, 97, 116, 97], [115, 101, 108, 102, 67, 108, 111, 115, 105, 110, 103]] [(.sub (.glob (.sref 48)) (.loc 4)), (.call 799 [(.loc 5)]), (.loc 29), (.loc 6)]))),
    (.gc 0),
    (.ifs (.orE (.cmp .ne (.attr (.loc 11) 12) (.loc 15)) (.cmp .ne (.listOf (.sub (.loc 18) (.const (.str [100, 97, 116, 97])))) (.listOf (.loc 29)))) [(.ret (.const (.bool false)))] []),
    (.gc 0)]),
    (.ret (.andE (.cmp .is (.meth (.attr (.loc 11) 13) 21 []) (.const .none)) (.cmp .eq (.meth (.attr (.loc 11) 13) 23 []) (.call 813 [(.loc 10)]))))]
noncomputable def fnL : List (Nat × Fn) := [
  (42, ⟨[3], [], f42⟩),
  (63, ⟨[34, 3], [], f63⟩),
  (70, ⟨[34, 76], [], f70⟩),
  (84, ⟨[82], [], f84⟩),
  (98, ⟨[34, 69], [], f98⟩),
  (105, ⟨[34], [], f105⟩),
  (112, ⟨[34, 69], [], f112⟩),
  (119, ⟨[34, 72], [], f119⟩),
  (126, ⟨[34], [], f126⟩),
  (133, ⟨[34], [], f133⟩),
  (141, ⟨[34, 41], [.none], f141⟩),
  (148, ⟨[34, 29], [], f148⟩),
  (156, ⟨[34, 79, 80], [(.bool false)], f156⟩),
  (261, ⟨[34, 13, 35], [.none], f261⟩),
  (297, ⟨[34], [], f297⟩),
  (542, ⟨[34], [], f542⟩),
  (773, ⟨[], [], f773⟩),
  (780, ⟨[], [], f780⟩),
  (787, ⟨[], [], f787⟩),
  (794, ⟨[], [], f794⟩),
  (799, ⟨[8], [], f799⟩),
  (806, ⟨[64], [], f806⟩),
  (813, ⟨[56], [], f813⟩),
  (820, ⟨[30], [], f820⟩),
  (825, ⟨[2], [], f825⟩)]
noncomputable def clsmL : List (Nat × List (Nat × Nat)) := [
  (73, [(0, 63), (49, 70)]),
  (166, [(0, 98), (70, 105), (68, 112), (45, 119), (23, 126), (21, 133), (14, 141), (66, 148), (60, 156)]),
  (762, [(0, 261), (28, 297), (39, 304), (24, 542), (61, 549), (59, 556), (62, 591)])]
noncomputable def clsvL : List (Nat × List (Nat × V)) := [
  (73, []),
  (166, [(42, (.int 10240))]),
  (762, [])]
noncomputable def clsiL : List (Nat × List Nat) := [(73, [16, 3]), (166, [50, 46, 47, 41, 48, 77, 67, 44, 43, 52]), (762, [19, 40, 36, 37, 35, 38, 13, 12])]
noncomputable def soL : List (Nat × O) := [
  (22, .tuple [(.str [9]), (.str [10]), (.str [12]), (.str [32]), (.str [13])]),
  (27, .tuple [(.str [97]), (.str [98]), (.str [99]), (.str [100]), (.str [101]), (.str [102]), (.str [103]), (.str [104]), (.str [105]), (.str [106]), (.str [107]), (.str [108]), (.str [109]), (.str [110]), (.str [111]), (.str [112]), (.str [113]), (.str [114]), (.str [115]), (.str [116]), (.str [117]), (.str [118]), (.str [119]), (.str [120]), (.str [121]), (.str [122]), (.str [65]), (.str [66]), (.str [67]), (.str [68]), (.str [69]), (.str [70]), (.str [71]), (.str [72]), (.str [73]), (.str [74]), (.str [75]), (.str [76]), (.str [77]), (.str [78]), (.str [79]), (.str [80]), (.str [81]), (.str [82]), (.str [83]), (.str [84]), (.str [85]), (.str [86]), (.str [87]), (.str [88]), (.str [89]), (.str [90])]),
  (48, .dict [([68, 111, 99, 116, 121, 112, 101], (.int 0)), ([67, 104, 97, 114, 97, 99, 116, 101, 114, 115], (.int 1)), ([83, 112, 97, 99, 101, 67, 104, 97, 114, 97, 99, 116, 101, 114, 115], (.int 2)), ([83, 116, 97, 114, 116, 84, 97, 103], (.int 3)), ([69, 110, 100, 84, 97, 103], (.int 4)), ([69, 109, 112, 116, 121, 84, 97, 103], (.int 5)), ([67, 111, 109, 109, 101, 110, 116], (.int 6)), ([80, 97, 114, 115, 101, 69, 114, 114, 111, 114], (.int 7))]),
  (49, .tuple [(.int 3), (.int 4), (.int 5)])]
noncomputable def pr (sx : List (Nat × O)) : Pr := { so := fun a => match getK a soL with | some o => some o | none => getK a sx, clsm := two clsmL, clsv := two clsvL, clsi := twoI clsiL, init := 0, fns := fun a => getK a fnL }
noncomputable def tab : List String := ["__init__", "tags", "script", "text", "kind", "title", "closing", "names", "name", "end", "mended", "reader", "tokenQueue", "stream", "readChunk", "due", "place", "count", "token", "currentToken", "row", "char", "rounds", "position", "attributeNameState", "c", "key", "value", "emitCurrentToken", "data", "tape", "n", "k", "m", "self", "parser", "escapeFlag", "lastFourChars", "state", "dataState", "escape", "chunkSize", "_defaultChunkSize", "prevNumLines", "prevNumCols", "_position", "chunk", "chunkOffset", "dataStream", "read", "_bufferedCharacter", "lastv", "reportCharacterErrors", "line", "col", "rows", "part", "leavingThisState", "emitToken", "beforeAttributeValueState", "charsUntil", "afterAttributeNameState", "selfClosingStartTagState", "_", "word", "raw", "characterErrorsUCS4", "newLines", "openStream", "source", "reset", "nLines", "offset", "positionLine", "lastLinePos", "positionColumn", "size", "errors", "rv", "characters", "opposite", "r", "codepoint"]
noncomputable def lawF : Nat := 825
end L4
end
section
namespace PL
open Builtin.Str StrLaws
def spl (c : Nat) : List Nat → List (List Nat)
  | [] => [[]]
  | x :: r => if x = c then [] :: spl c r else match spl c r with
    | [] => [[x]]
    | p :: q => (x :: p) :: q
theorem spl_ne (c : Nat) : ∀ l, spl c l ≠ []
  | [] => by simp [spl]
  | x :: r => by
    unfold spl
    split
    · simp
    · split <;> simp
theorem spl_free (c : Nat) : ∀ l, c ∉ l → spl c l = [l]
  | [], _ => rfl
  | x :: r, h => by
    have h1 : x ≠ c := fun e => h (e ▸ List.mem_cons_self ..)
    have h2 : c ∉ r := fun e => h (List.mem_cons_of_mem _ e)
    rw [spl, if_neg h1, spl_free c r h2]
theorem spl_app (c : Nat) : ∀ a b, c ∉ a → spl c (a ++ c :: b) = a :: spl c b
  | [], b, _ => by rw [List.nil_append, spl, if_pos rfl]
  | x :: r, b, h => by
    have h1 : x ≠ c := fun e => h (e ▸ List.mem_cons_self ..)
    have h2 : c ∉ r := fun e => h (List.mem_cons_of_mem _ e)
    rw [List.cons_append, spl, if_neg h1, spl_app c r b h2]
theorem spl_join (c : Nat) : ∀ parts : List Str, parts ≠ [] → (∀ p ∈ parts, c ∉ p.cps.toList) → spl c (Str.join ⟨#[c]⟩ parts).cps.toList = parts.map ofS
  | [], h, _ => absurd rfl h
  | [x], _, h => by
    show spl c x.cps.toList = _
    rw [spl_free c _ (h x (List.mem_cons_self ..))]
    rfl
  | x :: y :: r, _, h => by
    show spl c (x ++ ⟨#[c]⟩ ++ Str.join ⟨#[c]⟩ (y :: r)).cps.toList = _
    have ih := spl_join c (y :: r) (by simp) (fun p hp => h p (List.mem_cons_of_mem _ hp))
    have e : (x ++ ⟨#[c]⟩ ++ Str.join ⟨#[c]⟩ (y :: r)).cps.toList = x.cps.toList ++ c :: (Str.join ⟨#[c]⟩ (y :: r)).cps.toList := by
      simp [Str.cps_append]
    rw [e, spl_app c _ _ (h x (List.mem_cons_self ..)), ih]
    rfl
theorem ofSP_toS (l : List Nat) : ofS (toS l) = l := by simp [toS, ofS]
theorem split_ne (x y : Str) : Txt.split x y ≠ [] := by
  unfold Txt.split
  split
  · simp
  · split
    · simp
    · rw [partsBetween_eq]
      obtain ⟨p, r, h⟩ := partsFrom_ne x y.length 0 (occurrences x y 0 x.length (x.length + 1))
      rw [h]
      simp
theorem split_eq (l : List Nat) (c : Nat) : (Txt.split (toS l) (toS [c])).map ofS = spl c l := by
  have h1 := spl_join c (Txt.split (toS l) (toS [c])) (split_ne _ _) (split_free (toS l) c)
  rw [← h1]
  have h2 : Str.join (toS [c]) (Txt.split (toS l) (toS [c])) = toS l := join_split (toS l) (toS [c])
  have h3 : Str.join ⟨#[c]⟩ (Txt.split (toS l) (toS [c])) = toS l := h2
  rw [h3]
  simp [toS]
def joinD (d : List Nat) : List (List Nat) → List Nat
  | [] => []
  | [x] => x
  | x :: y :: r => x ++ d ++ joinD d (y :: r)
theorem join_toL (d : Nat) : ∀ parts : List Str, (Str.join ⟨#[d]⟩ parts).cps.toList = joinD [d] (parts.map ofS)
  | [] => by simp [Str.join, joinD, Str.empty]
  | [x] => rfl
  | x :: y :: r => by
    show (x ++ ⟨#[d]⟩ ++ Str.join ⟨#[d]⟩ (y :: r)).cps.toList = _
    simp only [Str.cps_append, Array.toList_append, join_toL d (y :: r)]
    rfl
theorem joinD_cons (d x : Nat) : ∀ p q, joinD [d] ((x :: p) :: q) = x :: joinD [d] (p :: q)
  | p, [] => rfl
  | p, y :: r => by simp [joinD]
theorem joinD_nil (d : Nat) : ∀ q, q ≠ [] → joinD [d] ([] :: q) = d :: joinD [d] q
  | [], h => absurd rfl h
  | y :: r, _ => by simp [joinD]
theorem join_spl (c d : Nat) : ∀ l, joinD [d] (spl c l) = l.map fun x => if x = c then d else x
  | [] => rfl
  | x :: r => by
    unfold spl
    by_cases h : x = c
    · rw [if_pos h, joinD_nil d _ (spl_ne c r), join_spl c d r, List.map_cons, if_pos h]
    · rw [if_neg h]
      have ih := join_spl c d r
      cases hs : spl c r with
      | nil => exact absurd hs (spl_ne c r)
      | cons p q =>
        simp only
        rw [joinD_cons, ← hs, ih, List.map_cons, if_neg h]
theorem repl_one (l : List Nat) (c d : Nat) : ofS (Txt.replace (toS l) (toS [c]) (toS [d])) = l.map fun x => if x = c then d else x := by
  have h : Txt.replace (toS l) (toS [c]) (toS [d]) = Str.join ⟨#[d]⟩ (Txt.split (toS l) (toS [c])) := replace_one (toS l) (toS [d]) c
  rw [h]
  show (Str.join ⟨#[d]⟩ _).cps.toList = _
  rw [join_toL, split_eq, join_spl]
def noPair (c d : Nat) : List Nat → Bool
  | [] => true
  | [_] => true
  | x :: y :: r => !(x == c && y == d) && noPair c d (y :: r)
theorem noPair_at (c d : Nat) : ∀ l i, noPair c d l = true → ¬ ((l.drop i).take 2 == [c, d]) = true
  | [], i, _ => by simp
  | [x], 0, _ => by simp
  | [x], i + 1, _ => by simp
  | x :: y :: r, 0, h => by
    simp [noPair] at h ⊢
    intro e1 e2
    rcases h.1 with h1 | h1
    · exact h1 e1
    · exact h1 e2
  | x :: y :: r, i + 1, h => by
    simp only [noPair, Bool.and_eq_true] at h
    have := noPair_at c d (y :: r) i h.2
    simpa using this
theorem occ_size (s sub : Str) (hi limit : Nat) (hn : ∀ i, i + sub.length ≤ hi → subAt s sub i = false) : ∀ (l : List Nat) (st : Array Nat × Nat), (forIn l st (occBody s sub hi limit)).run = st
  | [], st => rfl
  | a :: l, st => by
    rw [List.forIn_cons]
    unfold occBody
    split
    · rename_i h
      rw [hn a h.1.2] at h
      exact absurd h.2 (by simp)
    · exact occ_size s sub hi limit hn l _
theorem repl_two (l : List Nat) (c d : Nat) (z : List Nat) (h : noPair c d l = true) : ofS (Txt.replace (toS l) (toS [c, d]) (toS z)) = l := by
  unfold Txt.replace
  have e : occurrences (toS l) (toS [c, d]) 0 (toS l).length ((toS l).length + 1) = [] := by
    rw [occ_eq, occ_size]
    · intro i _
      rw [subAt_eq]
      have := noPair_at c d l i h
      simpa [toS, Str.length] using this
  rw [e]
  simp [ofSP_toS]
theorem cnt_range (c hi : Nat) : ∀ (l : List Nat) (m cur : Nat), l.length ≤ m → hi ≤ m + cur → (List.range' cur m).countP (fun i => decide (i + 1 ≤ hi) && decide (l[i - cur]? = some c)) = (l.take (hi - cur)).count c
  | [], m, cur, _, _ => by
    simp
  | x :: l, 0, cur, h, _ => by simp at h
  | x :: l, m + 1, cur, h, h2 => by
    rw [List.range'_succ, List.countP_cons]
    have ih := cnt_range c hi l m (cur + 1) (by simpa using h) (by lia)
    have e : (List.range' (cur + 1) m).countP (fun i => decide (i + 1 ≤ hi) && decide ((x :: l)[i - cur]? = some c)) = (List.range' (cur + 1) m).countP (fun i => decide (i + 1 ≤ hi) && decide (l[i - (cur + 1)]? = some c)) := by
      refine List.countP_congr fun i hi' => ?_
      have h3 : cur + 1 ≤ i := by
        have := List.mem_range'.mp hi'
        lia
      have h4 : i - cur = (i - (cur + 1)) + 1 := by lia
      rw [h4, List.getElem?_cons_succ]
    rw [e, ih]
    by_cases hc : cur + 1 ≤ hi
    · have h5 : hi - cur = (hi - (cur + 1)) + 1 := by lia
      rw [h5, List.take_succ_cons, List.count_cons]
      simp [hc]
    · have h5 : hi - cur = 0 := by lia
      have h6 : hi - (cur + 1) = 0 := by lia
      simp [h5, h6, hc]
theorem take1_iff (s : Str) (c i : Nat) : subAt s ⟨#[c]⟩ i = true ↔ s.cps.toList[i]? = some c := by
  rw [subAt_eq]
  exact take1_drop
theorem occ_cnt (s : Str) (c hi limit : Nat) (hl : hi < limit) : ∀ (m cur : Nat) (st : Array Nat × Nat), cur + m = hi + 1 → st.2 ≤ cur → st.1.size ≤ cur →
    (forIn (List.range' cur m) st (occBody s ⟨#[c]⟩ hi limit)).run.fst.size = st.1.size + (List.range' cur m).countP (fun i => decide (i + 1 ≤ hi) && decide (s.cps.toList[i]? = some c)) := by
  intro m
  induction m with
  | zero => intro cur st _ _ _; simp
  | succ m ih =>
    intro cur st h0 h1 h2
    rw [List.range'_succ, List.forIn_cons, List.countP_cons]
    unfold occBody
    by_cases hc : cur + (⟨#[c]⟩ : Str).length ≤ hi ∧ subAt s ⟨#[c]⟩ cur = true
    · rw [if_pos ⟨⟨⟨by lia, h1⟩, hc.1⟩, hc.2⟩]
      refine Eq.trans (ih (cur + 1) (st.fst.push cur, cur + (⟨#[c]⟩ : Str).length) (by lia) (by show cur + 1 ≤ cur + 1; lia) (by simp; lia)) ?_
      have hx : s.cps.toList[cur]? = some c := (take1_iff s c cur).mp hc.2
      have h4 : cur + 1 ≤ hi := hc.1
      have h5 : (decide (cur + 1 ≤ hi) && decide (s.cps.toList[cur]? = some c)) = true := by simp only [hx, h4, decide_true, Bool.and_self]
      rw [h5]
      simp
      lia
    · rw [if_neg (fun h => hc ⟨h.1.2, h.2⟩)]
      refine Eq.trans (ih (cur + 1) (st.fst, st.snd) (by lia) (by show st.2 ≤ _; lia) (by show st.1.size ≤ _; lia)) ?_
      have hx : (decide (cur + 1 ≤ hi) && decide (s.cps.toList[cur]? = some c)) = false := by
        cases hd : (decide (cur + 1 ≤ hi) && decide (s.cps.toList[cur]? = some c)) with
        | false => rfl
        | true =>
          simp only [Bool.and_eq_true, decide_eq_true_eq] at hd
          exact absurd ⟨hd.1, (take1_iff s c cur).mpr hd.2⟩ hc
      rw [hx]
      simp
theorem count_eq (l : List Nat) (c hi : Nat) (hh : hi ≤ l.length) : (occurrences (toS l) (toS [c]) 0 (min hi l.length) (l.length + 1)).length = (l.take hi).count c := by
  rw [Nat.min_eq_left hh, occ_eq]
  have h0 : (forIn (List.range' 0 (hi + 1 - 0)) (#[], 0) (occBody (toS l) (toS [c]) hi (l.length + 1))).run.fst.toList.length = _ := occ_cnt (toS l) c hi (l.length + 1) (by lia) (hi + 1 - 0) 0 (#[], 0) (by lia) (Nat.le_refl _) (Nat.le_refl _)
  rw [h0]
  have h2 : (List.range' 0 (hi + 1 - 0)).countP (fun i => decide (i + 1 ≤ hi) && decide ((toS l).cps.toList[i]? = some c)) = (List.range' 0 (hi + 1 - 0)).countP (fun i => decide (i + 1 ≤ hi) && decide ((l.take hi)[i - 0]? = some c)) := by
    refine List.countP_congr fun i qq1 => ?_
    simp only [toS, Nat.sub_zero, Bool.and_eq_true, decide_eq_true_eq]
    constructor <;> rintro ⟨a, b⟩ <;> refine ⟨a, ?_⟩
    · rw [List.getElem?_take_of_lt (by lia)]; exact of_decide_eq_true b
    · rw [List.getElem?_take_of_lt (by lia)] at b; exact decide_eq_true b
  rw [h2, cnt_range c hi (l.take hi) (hi + 1 - 0) 0 (by simp; lia) (by lia), Nat.sub_zero, List.take_take, Nat.min_self]
  show 0 + _ = _
  lia
def lastIx (c : Nat) : List Nat → Option Nat
  | [] => none
  | x :: r => match lastIx c r with
    | some i => some (i + 1)
    | none => if x = c then some 0 else none
theorem last_run1 (s : Str) (c hi : Nat) : ∀ (l : List Nat) (m cur : Nat) (st : Option Nat), l.length ≤ m → (∀ i, cur ≤ i → (i + 1 ≤ hi ∧ s.cps.toList[i]? = some c ↔ l[i - cur]? = some c)) →
    (forIn (List.range' cur m) st (lastBody s ⟨#[c]⟩ hi)).run = match lastIx c l with | some i => some (i + cur) | none => st
  | [], 0, cur, st, _, _ => by simp [lastIx]
  | [], m + 1, cur, st, _, h => by
    rw [List.range'_succ, List.forIn_cons]
    unfold lastBody
    rw [if_neg]
    · exact last_run1 s c hi [] m (cur + 1) st (by simp) (fun i hi' => by have := h i (by lia); rw [List.getElem?_nil] at this ⊢; exact this)
    · rintro ⟨a, b⟩
      have := (h cur (Nat.le_refl _)).mp ⟨a, (take1_iff s c cur).mp b⟩
      simp at this
  | x :: l, 0, cur, st, hl, _ => by simp at hl
  | x :: l, m + 1, cur, st, hl, h => by
    rw [List.range'_succ, List.forIn_cons]
    have h0 := h cur (Nat.le_refl _)
    have hn : ∀ i, cur + 1 ≤ i → (i + 1 ≤ hi ∧ s.cps.toList[i]? = some c ↔ l[i - (cur + 1)]? = some c) := fun i hi' => by
      have h1 := h i (by lia)
      have e : i - cur = (i - (cur + 1)) + 1 := by lia
      rw [e, List.getElem?_cons_succ] at h1
      exact h1
    rw [Nat.sub_self, List.getElem?_cons_zero] at h0
    have e : lastIx c (x :: l) = match lastIx c l with | some i => some (i + 1) | none => if x = c then some 0 else none := rfl
    rw [e]
    unfold lastBody
    by_cases hx : x = c
    · have h2 : cur + 1 ≤ hi ∧ s.cps.toList[cur]? = some c := h0.mpr (by rw [hx])
      rw [if_pos ⟨h2.1, (take1_iff s c cur).mpr h2.2⟩]
      refine Eq.trans (last_run1 s c hi l m (cur + 1) (some cur) (by simpa using hl) hn) ?_
      cases lastIx c l with
      | none => simp [hx]
      | some i => simp; lia
    · rw [if_neg]
      · refine Eq.trans (last_run1 s c hi l m (cur + 1) st (by simpa using hl) hn) ?_
        cases lastIx c l with
        | none => simp [hx]
        | some i => simp; lia
      · rintro ⟨a, b⟩
        have := h0.mp ⟨a, (take1_iff s c cur).mp b⟩
        exact hx (Option.some.inj this)
theorem last_eq1 (l : List Nat) (c hi : Nat) (hh : hi ≤ l.length) : lastOccurrence (toS l) (toS [c]) 0 (min hi l.length) = lastIx c (l.take hi) := by
  rw [Nat.min_eq_left hh, last_eq]
  refine Eq.trans (last_run1 (toS l) c hi (l.take hi) (hi + 1 - 0) 0 none (by rw [List.length_take]; lia) (fun i qq1 => ?_)) ?_
  · simp only [toS, Nat.sub_zero]
    constructor
    · rintro ⟨a, b⟩
      rw [List.getElem?_take_of_lt (by lia)]
      exact b
    · intro b
      by_cases h : i < hi
      · rw [List.getElem?_take_of_lt h] at b
        exact ⟨h, b⟩
      · rw [List.getElem?_take_eq_none (by lia)] at b
        simp at b
  · cases lastIx c (l.take hi) <;> simp
end PL
end
section
namespace PL
open Builtin.Str StrLaws
section
variable {cx : Cx} {L : Loc} {σ : St}
theorem tv_loc {i : Nat} : evT cx (.loc i) L σ = (evE cx (.loc i) L σ).bind fun (v, σ1) => (truthyV cx σ1 v).map fun b => (b, σ1) := rfl
theorem tv_call {f : Nat} {es : List PE} : evT cx (.call f es) L σ = (evE cx (.call f es) L σ).bind fun (v, σ1) => (truthyV cx σ1 v).map fun b => (b, σ1) := rfl
theorem tv_meth {o : PE} {f : Nat} {es : List PE} : evT cx (.meth o f es) L σ = (evE cx (.meth o f es) L σ).bind fun (v, σ1) => (truthyV cx σ1 v).map fun b => (b, σ1) := rfl
end
section
variable {c : Cx} {L L1 : Loc} {σ σ1 : St} {z : Nat} {r : List PS} {e : PE} {v : V}
theorem asgL {i : Nat} (h : evE c e L σ = some (v, σ1)) : evSs c (.assign (.l i) e :: r) z L σ = evSs c r z (putK i v L) σ1 := by rw [evSs_cons, evS_assign, h]; rfl
theorem exprS (h : evE c e L σ = some (v, σ1)) : evSs c (.expr e :: r) z L σ = evSs c r z L σ1 := by rw [evSs_cons, evS_expr, h]; rfl
theorem ifS {t : PE} {b o : List PS} {x : Bool} (h : evT c t L σ = some (x, σ1)) : evSs c (.ifs t b o :: r) z L σ = (match x with | true => evSs c b z L σ1 | false => evSs c o z L σ1).bind fun (f, L1, σ1) => match f with | .next => evSs c r z L1 σ1 | f => some (f, L1, σ1) := by rw [evSs_cons, evS_ifs, h]; rfl
theorem ifT {t : PE} {b o : List PS} (h : evT c t L σ = some (true, σ1)) : evSs c (.ifs t b o :: r) z L σ = (evSs c b z L σ1).bind fun (f, L1, σ1) => match f with | .next => evSs c r z L1 σ1 | f => some (f, L1, σ1) := ifS h
theorem ifF {t : PE} {b o : List PS} (h : evT c t L σ = some (false, σ1)) : evSs c (.ifs t b o :: r) z L σ = (evSs c o z L σ1).bind fun (f, L1, σ1) => match f with | .next => evSs c r z L1 σ1 | f => some (f, L1, σ1) := ifS h
theorem ifN {t : PE} {b : List PS} (h : evT c t L σ = some (false, σ1)) : evSs c (.ifs t b [] :: r) z L σ = evSs c r z L σ1 := ifS h
theorem retF' (h : evE c e L σ = some (v, σ1)) : evSs c (.retf e :: r) z L σ = some (.ret (rv σ1 z v), gcL σ1 z L, gcS σ1 z) := by rw [evSs_cons, evS_retf, h]; rfl
theorem retS (h : evE c e L σ = some (v, σ1)) : evSs c (.ret e :: r) z L σ = some (.ret v, L, σ1) := by rw [evSs_cons, evS_ret, h]; rfl
end
section
variable {c : Cx} {L : Loc} {σ σ1 σ2 : St} {l r : PE} {a b v : V}
theorem cmpE {op : COp} {x : Bool} (h1 : evE c l L σ = some (a, σ1)) (h2 : evE c r L σ1 = some (b, σ2)) (h3 : cmpV c σ2 op a b = some x) : evE c (.cmp op l r) L σ = some (.bool x, σ2) := by
  rw [evE_cmp, h1, Option.bind_some]
  show (evE c r L σ1).bind _ = _
  rw [h2, Option.bind_some]
  show (cmpV c σ2 op a b).map _ = _
  rw [h3]; rfl
theorem cmpT {op : COp} {x : Bool} (h1 : evE c l L σ = some (a, σ1)) (h2 : evE c r L σ1 = some (b, σ2)) (h3 : cmpV c σ2 op a b = some x) : evT c (.cmp op l r) L σ = some (x, σ2) := by
  rw [evT_cmp, cmpE h1 h2 h3]; rfl
theorem subE (h1 : evE c l L σ = some (a, σ1)) (h2 : evE c r L σ1 = some (b, σ2)) (h3 : subV c σ2 a b = some v) : evE c (.sub l r) L σ = some (v, σ2) := by
  rw [evE_sub, h1, Option.bind_some]
  show (evE c r L σ1).bind _ = _
  rw [h2, Option.bind_some]
  show (subV c σ2 a b).map _ = _
  rw [h3]; rfl
theorem andT1 {x : Bool} (h1 : evT c l L σ = some (true, σ1)) (h2 : evT c r L σ1 = some (x, σ2)) : evT c (.andE l r) L σ = some (x, σ2) := by rw [evT_andE, h1]; exact h2
theorem andT0 (h1 : evT c l L σ = some (false, σ1)) : evT c (.andE l r) L σ = some (false, σ1) := by rw [evT_andE, h1]; rfl
theorem orT0 {x : Bool} (h1 : evT c l L σ = some (false, σ1)) (h2 : evT c r L σ1 = some (x, σ2)) : evT c (.orE l r) L σ = some (x, σ2) := by rw [evT_orE, h1]; exact h2
theorem notT {x : Bool} (h1 : evT c l L σ = some (x, σ1)) : evT c (.notE l) L σ = some (!x, σ1) := by rw [evT_notE, h1]; rfl
theorem appE {a : Nat} {vs : List V} {σ' : St} (h1 : evE c l L σ = some (.ref a, σ1)) (hg0 : σ1[a]? = some (.list vs)) (h2 : evE c r L σ1 = some (v, σ2)) (hg : σ2[a]? = some (.list vs)) (hl : vs.length ≤ LIM) (hs : σ2.set a (.list (vs ++ [v])) = σ') : evE c (.append l r) L σ = some (.none, σ') := by
  subst hs
  have h3 : isListV σ1 (.ref a) = true := by show (match σ1[a]? with | some o => oIsL o | none => false) = true; rw [hg0]; rfl
  rw [evE_append, h1, Option.bind_some]
  show (bif isListV σ1 (.ref a) then (evE c r L σ1).bind _ else none) = _
  rw [h3, cond_true, h2, Option.bind_some]
  show (σ2[a]?).bind _ = _
  rw [hg, Option.bind_some]
  exact if_pos hl
theorem getE {i : Nat} (h : getK i L = some v) : evE c (.loc i) L σ = some (v, σ) := evE_loc.trans (congrArg (Option.map fun v => (v, σ)) h)
end
noncomputable def retV : Fl → V | .ret v => v | _ => .none
theorem fn_eq {p : Pr} {F d f : Nat} {args : List V} {σ : St} {fn : Fn} {L L' : Loc} {fl : Fl} {v : V} {σ' : St} (h1 : p.fns f = some fn) (h2 : bindP fn.params args fn.dflt = some L)
    (h : evSs (cxOf p F (runF p F d)) fn.body σ.length L σ = some (fl, L', σ')) (hv : retV fl = v) : runF p F (d + 1) f args σ = some (v, σ') := by
  rw [runF_succ, h1, Option.bind_some, h2, Option.bind_some, h, ← hv]
  cases fl <;> rfl
theorem fn_ex {p : Pr} {F d f : Nat} {args : List V} {σ : St} {fn : Fn} {L : Loc} {fl : Fl} {v : V} {σ' : St} (h1 : p.fns f = some fn) (h2 : bindP fn.params args fn.dflt = some L)
    (h : ∃ L', evSs (cxOf p F (runF p F d)) fn.body σ.length L σ = some (fl, L', σ')) (hv : retV fl = v) : runF p F (d + 1) f args σ = some (v, σ') := let ⟨_, h⟩ := h; fn_eq h1 h2 h hv
theorem gk_eq {β : Type} {i : Nat} {v : β} : ∀ {L : List (Nat × β)}, getK i (putK i v L) = some v := (getK_putK i i v _).trans (if_pos rfl)
theorem gk_ne {β : Type} {i j : Nat} {v : β} {w : Option β} (h : i ≠ j) {L : List (Nat × β)} (e : getK i L = w) : getK i (putK j v L) = w := (getK_putK j i v L).trans ((if_neg h).trans e)
theorem gk_gc {i n : Nat} {v w : V} {L : Loc} {σ : St} (h : getK i L = some v) (e : rv σ n v = w) : getK i (gcL σ n L) = some w := (getK_map i L).trans ((congrArg (Option.map (rv σ n)) h).trans (congrArg some e))
theorem lk_last {σ : St} {o : O} : (σ ++ [o])[σ.length]? = some o := List.getElem?_concat_length
noncomputable def Cld (σ : St) : Prop := ∀ s, σ.map (oMap (rv s σ.length)) = σ
theorem gcS_app {σ τ : St} (h : Cld σ) : gcS (σ ++ τ) σ.length = σ := by
  show ((σ ++ τ).take σ.length).map _ = σ
  rw [List.take_left' rfl]
  exact h _
theorem rv_last {σ : St} {o : O} : rv (σ ++ [o]) σ.length (.ref σ.length) = frzO (rz (σ ++ [o]) σ.length 5) o := by
  show (bif Nat.blt σ.length σ.length then _ else bif Nat.ble σ.length σ.length then (match (σ ++ [o])[σ.length]? with | some o => frzO _ o | none => .bad) else .bad) = _
  rw [lk_last, Nat.ble_eq_true_of_le (Nat.le_refl _), show Nat.blt σ.length σ.length = false from Bool.eq_false_iff.mpr fun h => Nat.lt_irrefl _ (Nat.le_of_ble_eq_true h)]
  rfl
theorem allocL_eq {vs : List V} {σ : St} (h : vs.length ≤ LIM) : allocL vs σ = some (.ref σ.length, σ ++ [.list vs]) := if_pos h
theorem compL_pure {bind : V → Loc → St → Option Loc} {still : St → Bool} {elt : Loc → St → Option (List V × St)} {σ : St} (f : V → V) (hs : still σ = true) : ∀ (xs : List V) (L : Loc), (∀ v ∈ xs, ∀ L, ∃ L1, bind v L σ = some L1 ∧ elt L1 σ = some ([f v], σ)) → compL bind still elt xs L σ = some (xs.map f, σ)
  | [], L, _ => (compL_nil).trans (if_pos hs)
  | v :: vs, L, h => by
    obtain ⟨L1, h1, h2⟩ := h v (.head _) L
    rw [compL_cons, if_pos hs, h1, Option.bind_some, h2, Option.bind_some]
    show (compL bind still elt vs L1 σ).bind _ = _
    rw [compL_pure f hs vs L1 fun v hv => h v (.tail _ hv)]
    rfl
theorem strsV_map : ∀ ps : List (List Nat), strsV (ps.map V.str) = some ps
  | [] => rfl
  | p :: r => by show (strsV (r.map V.str)).map (p :: ·) = _; rw [strsV_map r]; rfl
theorem joinL_nil : ∀ ps : List (List Nat), joinL [] ps = ps.flatten
  | [] => rfl
  | [x] => by simp [joinL]
  | x :: y :: r => by show x ++ [] ++ joinL [] (y :: r) = _; rw [joinL_nil (y :: r), List.append_nil]; rfl
theorem len_sum : ∀ ps : List (List Nat), (ps.map (·.length)).sum = ps.flatten.length
  | [] => rfl
  | x :: r => by show x.length + (r.map (·.length)).sum = (x ++ r.flatten).length; rw [len_sum r, List.length_append]
theorem joinV_eq {c : Cx} {σ : St} {v : V} {ps : List (List Nat)} (e : objOf c σ v = some (.list (ps.map V.str))) (hl : ps.flatten.length ≤ LIM) : joinV c [] v σ = some (.str ps.flatten, σ) := by
  show ((objOf c σ v).bind itemsO).bind _ = _
  rw [e]
  show (strsV (ps.map V.str)).bind _ = _
  rw [strsV_map, Option.bind_some, joinL_nil, len_sum, List.length_nil, Nat.mul_zero, Nat.add_zero]
  exact if_pos ⟨hl, hl⟩
noncomputable def low (c : Nat) : Nat := if 65 ≤ c ∧ c ≤ 90 then c + 32 else c
noncomputable def zed (c : Nat) : Nat := if c = 0 then 65533 else c
theorem chrV_eq {i : Int} {σ : St} (e : 0 ≤ i ∧ i < 1114112) : chrV (.int i) σ = some (.str [i.toNat], σ) := if_pos e
theorem one_lt (a b : Nat) : (!decide (([a] : List Nat) < [b])) = decide (b ≤ a) := by
  have : (([a] : List Nat) < [b]) ↔ a < b := by
    constructor
    · intro h
      cases h with
      | rel h => exact h
      | cons h => cases h
    · exact fun h => .rel h
  rw [Bool.eq_iff_iff]
  simp [this]
theorem flat_one : ∀ l : List Nat, (l.map fun c => [c]).flatten = l
  | [] => rfl
  | x :: r => congrArg (x :: ·) (flat_one r)
noncomputable def lowE : PE := .ife (.chain .le .le (.const (.str [65])) (.loc 25) (.const (.str [90]))) (.chr (.bin .add (.ord (.loc 25)) (.const (.int 32)))) (.loc 25)
theorem low_elt {c : Cx} {L : Loc} {σ : St} {x : Nat} (h : getK 25 L = some (.str [x])) : evE c lowE L σ = some (.str [low x], σ) := by
  have e25 : evE c (.loc 25) L σ = some (.str [x], σ) := evE_loc.trans (congrArg (Option.map fun v => (v, σ)) h)
  have hv : evE c (.chain .le .le (.const (.str [65])) (.loc 25) (.const (.str [90]))) L σ = some (.bool (decide (65 ≤ x) && decide (x ≤ 90)), σ) := by
    rw [evE_chain, evE_const, Option.bind_some]
    show ((evE c (.loc 25) L σ).bind _) = _
    rw [e25, Option.bind_some]
    show ((some (!decide ([x] < [65]))).bind _) = _
    rw [one_lt]
    cases decide (65 ≤ x) with
    | false => rfl
    | true => rw [← one_lt 90 x]; rfl
  have ht : evT c (.chain .le .le (.const (.str [65])) (.loc 25) (.const (.str [90]))) L σ = some (decide (65 ≤ x) && decide (x ≤ 90), σ) := by
    rw [evT_chain, hv]; rfl
  have hb : evE c (.bin .add (.ord (.loc 25)) (.const (.int 32))) L σ = some (.int ((x : Int) + 32), σ) := by rw [evE_bin, evE_ord, e25]; rfl
  unfold lowE
  rw [evE_ife, ht, Option.bind_some]
  unfold low
  by_cases hx : 65 ≤ x ∧ x ≤ 90
  · rw [if_pos hx, decide_eq_true hx.1, decide_eq_true hx.2]
    show evE c (.chr (.bin .add (.ord (.loc 25)) (.const (.int 32)))) L σ = _
    rw [evE_chr, hb, Option.bind_some]
    have : 0 ≤ (x : Int) + 32 ∧ (x : Int) + 32 < 1114112 := by lia
    show chrV (.int ((x : Int) + 32)) σ = _
    rw [chrV_eq this, show ((x : Int) + 32).toNat = x + 32 by lia]
  · rw [if_neg hx, (Bool.eq_false_iff.mpr fun h => hx (by simpa using h) : (decide (65 ≤ x) && decide (x ≤ 90)) = false)]
    exact e25
theorem low_join {c : Cx} {L : Loc} {σ : St} {it : PE} {s : List Nat} (hi : evE c it L σ = some (.str s, σ)) (hl : s.length ≤ 1000) : evE c (.join [] (.comp (.one 25) it lowE)) L σ = some (.str (s.map low), σ ++ [.list ((s.map fun x => [low x]).map V.str)]) := by
  have hl2 : s.length ≤ LIM := Nat.le_trans hl (by decide)
  have hc : compL (fun v L s => bindFt c s (.one 25) v L) (fun s' => stillV c σ s' (.str s)) (fun L1 s => (evE c lowE L1 s).map fun (v, s2) => ([v], s2)) (s.map fun ch => V.str [ch]) L σ = some ((s.map fun ch => V.str [ch]).map (fun v => match v with | .str [x] => .str [low x] | v => v), σ) := by
    refine compL_pure _ (still_iff.mpr rfl) _ _ fun v hv L => ?_
    obtain ⟨x, _, rfl⟩ := List.mem_map.mp hv
    exact ⟨_, rfl, by rw [low_elt gk_eq]; rfl⟩
  rw [List.map_map] at hc
  rw [evE_join, evE_comp, hi, Option.bind_some]
  show (((iterV c σ (.str s)).bind _).bind _) = _
  rw [show iterV c σ (.str s) = some (s.map fun ch => V.str [ch]) from rfl, Option.bind_some]
  show ((compL _ _ _ _ _ _).bind _).bind _ = _
  rw [hc, Option.bind_some]
  show (allocL _ σ).bind _ = _
  have e : List.map ((fun v => match v with | V.str [x] => V.str [low x] | v => v) ∘ fun ch => V.str [ch]) s = (s.map fun x => [low x]).map V.str := by rw [List.map_map]; rfl
  rw [e, allocL_eq (by rw [List.length_map, List.length_map]; exact hl2), Option.bind_some]
  have hf : (s.map fun x => [low x]).flatten = s.map low := by rw [← flat_one (s.map low), List.map_map]; rfl
  have := joinV_eq (c := c) (σ := σ ++ [.list ((s.map fun x => [low x]).map V.str)]) (v := .ref σ.length) (ps := s.map fun x => [low x]) lk_last (by rw [hf, List.length_map]; exact hl2)
  rw [hf] at this
  exact this
section
variable {F d : Nat} {sx : List (Nat × O)} {σ : St}
theorem x42 {s : List Nat} (hl : s.length ≤ 1000) : runF (L4.pr sx) F (d + 1) 42 [.str s] σ = some (.str (s.map low), σ ++ [.list ((s.map fun x => [low x]).map V.str)]) :=
  fn_eq rfl rfl (retS (low_join (c := cxOf (L4.pr sx) F (runF (L4.pr sx) F d)) (L := [(3, .str s)]) rfl hl)) rfl
end
end PL
end
section
namespace PL
open Builtin.Str StrLaws
theorem count3_eq {s : List Nat} {c hi : Nat} {σ : St} (h1 : hi ≤ s.length) (h2 : s.length ≤ LIM) : count3V [c] (.str s) (.int 0) (.int (hi : Nat)) σ = some (.int ((s.take hi).count c : Nat), σ) := by
  have h3 : (0 : Int) = 0 ∧ (0 : Int) ≤ (hi : Nat) ∧ ((hi : Nat) : Int) ≤ LIM := by lia
  refine (if_pos h3).trans ?_
  rw [Int.toNat_natCast, count_eq s c hi h1]
theorem rfind3_eq {s : List Nat} {c hi : Nat} {σ : St} (h1 : hi ≤ s.length) (h2 : s.length ≤ LIM) : rfind3V [c] (.str s) (.int 0) (.int (hi : Nat)) σ = some (.int (match lastIx c (s.take hi) with | some i => (i : Int) | none => -1), σ) := by
  have h3 : (0 : Int) = 0 ∧ (0 : Int) ≤ (hi : Nat) ∧ ((hi : Nat) : Int) ≤ LIM := by lia
  refine (if_pos h3).trans ?_
  rw [Int.toNat_natCast, last_eq1 s c hi h1]
  all_goals (cases lastIx c (s.take hi) <;> rfl)
theorem lastIx_lt (c : Nat) : ∀ (l : List Nat) (i : Nat), lastIx c l = some i → i < l.length
  | [], i, h => by simp [lastIx] at h
  | x :: r, i, h => by
    have e : lastIx c (x :: r) = match lastIx c r with | some i => some (i + 1) | none => if x = c then some 0 else none := rfl
    rw [e] at h
    cases hr : lastIx c r with
    | none =>
      rw [hr] at h
      simp only at h
      split at h
      · injection h with h; subst h; simp
      · simp at h
    | some j =>
      rw [hr] at h
      have := lastIx_lt c r j hr
      injection h with h
      subst h
      simpa using this
noncomputable def colOf (p : Nat) (l : List Nat) : Nat := match lastIx 10 l with | none => p + l.length | some i => l.length - (i + 1)
theorem spl_len (c : Nat) : ∀ l, (spl c l).length = l.count c + 1
  | [] => rfl
  | x :: r => by
    have ih := spl_len c r
    unfold spl
    by_cases h : x = c
    · rw [if_pos h, List.length_cons, ih, h, List.count_cons_self]
    · rw [if_neg h, List.count_cons_of_ne h]
      cases hs : spl c r with
      | nil => exact absurd hs (spl_ne c r)
      | cons p q => rw [hs] at ih; exact ih
theorem spl_last : ∀ l, ∃ q, (spl 10 l).getLast? = some q ∧ q.length = colOf 0 l
  | [] => ⟨[], rfl, rfl⟩
  | x :: r => by
    obtain ⟨q, h1, h2⟩ := spl_last r
    have e : lastIx 10 (x :: r) = match lastIx 10 r with | some i => some (i + 1) | none => if x = 10 then some 0 else none := rfl
    unfold colOf at h2 ⊢
    rw [e]
    unfold spl
    by_cases h : x = 10
    · rw [if_pos h]
      refine ⟨q, ?_, ?_⟩
      · rw [List.getLast?_cons, h1]; rfl
      · cases hl : lastIx 10 r with
        | none => rw [hl] at h2; simp [h]; simpa using h2
        | some i => rw [hl] at h2; simp; lia
    · rw [if_neg h]
      cases hs : spl 10 r with
      | nil => exact absurd hs (spl_ne 10 r)
      | cons p t =>
        rw [hs] at h1
        cases t with
        | nil =>
          simp at h1
          subst h1
          refine ⟨x :: p, rfl, ?_⟩
          have hn : 10 ∉ r := by
            have := spl_len 10 r
            rw [hs] at this
            have h0 : r.count 10 = 0 := by simpa using this.symm
            exact List.count_eq_zero.mp h0
          cases hl : lastIx 10 r with
          | none => rw [hl] at h2; simp [h]; simpa using h2
          | some i =>
            have hk : ∀ (l : List Nat) i, lastIx 10 l = some i → 10 ∈ l := by
              intro l
              induction l with
              | nil => intro i hi; simp [lastIx] at hi
              | cons y r ih =>
                intro i hi
                have e : lastIx 10 (y :: r) = match lastIx 10 r with | some i => some (i + 1) | none => if y = 10 then some 0 else none := rfl
                rw [e] at hi
                cases hr : lastIx 10 r with
                | none =>
                  rw [hr] at hi
                  simp only at hi
                  split at hi
                  · rename_i hy; rw [hy]; exact List.mem_cons_self ..
                  · simp at hi
                | some j => exact List.mem_cons_of_mem _ (ih j hr)
            exact absurd (hk r i hl) hn
        | cons p2 t2 =>
          refine ⟨q, ?_, ?_⟩
          · rw [List.getLast?_cons_cons] at h1 ⊢; exact h1
          · cases hl : lastIx 10 r with
            | none =>
              exfalso
              have hk : ∀ (l : List Nat), lastIx 10 l = none → 10 ∉ l := by
                intro l
                induction l with
                | nil => intro _; simp
                | cons y r ih =>
                  intro hi
                  have e : lastIx 10 (y :: r) = match lastIx 10 r with | some i => some (i + 1) | none => if y = 10 then some 0 else none := rfl
                  rw [e] at hi
                  cases hr : lastIx 10 r with
                  | none =>
                    rw [hr] at hi
                    simp only at hi
                    split at hi
                    · simp at hi
                    · rename_i hy
                      simp only [List.mem_cons, not_or]
                      exact ⟨Ne.symm hy, ih hr⟩
                  | some j => rw [hr] at hi; simp at hi
              have := spl_len 10 r
              rw [hs, List.count_eq_zero.mpr (hk r hl)] at this
              simp at this
            | some i => rw [hl] at h2; simp; lia
theorem splitV_eq {c : Nat} {s : List Nat} {σ : St} (hs : s.length ≤ 1000) : splitV [c] (.str s) σ = some (.ref σ.length, σ ++ [.list ((spl c s).map V.str)]) := by
  have e : (Txt.split (toS s) (toS [c])).map (fun x => V.str (ofS x)) = (spl c s).map V.str := by
    rw [← split_eq, List.map_map]; rfl
  have hle : ∀ x ∈ spl c s, x.length ≤ s.length := by
    clear e hs
    induction s with
    | nil => simp [spl]
    | cons y r ih =>
      unfold spl
      split
      · intro x hx
        rcases List.mem_cons.mp hx with rfl | hx
        · simp
        · exact Nat.le_succ_of_le (ih x hx)
      · cases hr : spl c r with
        | nil => exact absurd hr (spl_ne c r)
        | cons p q =>
          rw [hr] at ih
          intro x hx
          rcases List.mem_cons.mp hx with rfl | hx
          · have := ih p (List.mem_cons_self ..)
            simpa using this
          · exact Nat.le_succ_of_le (ih x (List.mem_cons_of_mem _ hx))
  refine Eq.trans (if_pos ?_) ?_
  rotate_left
  · rw [e]
    refine allocL_eq ?_
    rw [List.length_map, spl_len]
    have := List.count_le_length (a := c) (l := s)
    unfold LIM; lia
  · refine ⟨by simp, ?_⟩
    rw [List.all_eq_true]
    intro x hx
    have h1 : ofS x ∈ spl c s := by rw [← split_eq]; exact List.mem_map_of_mem hx
    have h2 := hle _ h1
    have h3 : (ofS x).length = x.length := by simp [ofS, Str.length]
    exact decide_eq_true (by unfold LIM; lia)
theorem repl1_eq {s : List Nat} {a b : Nat} {σ : St} (hl : s.length ≤ LIM) (hab : a ≠ b) : replV [a] [b] (.str s) σ = some (.str (s.map fun x => if x = a then b else x), σ) := by
  have e := repl_one s a b
  refine Eq.trans (if_pos ⟨?_, fun h => hab (List.cons.inj h).1, (by decide : 1 ≤ 14)⟩) ?_
  · rw [e]
  · rw [e, List.length_map]; exact hl
noncomputable def small (s : List Nat) : List Nat := (s.map zed).map low
noncomputable def namesL : List (List Nat) := [[97], [65], [97, 98], [97, 66], [98], [75], [8490], [97, 39], [65, 39], [98, 0]]
noncomputable def endsL : List (List Nat) := [[32], [61], [47], [10], [9], [13]]
noncomputable def titlesL : List (List Nat) := [[112], [81], [201, 72, 49], [8490, 66, 114]]
noncomputable def kStart : List Nat := [83, 116, 97, 114, 116, 84, 97, 103]
noncomputable def kEnd : List Nat := [69, 110, 100, 84, 97, 103]
noncomputable def kEmpty : List Nat := [69, 109, 112, 116, 121, 84, 97, 103]
noncomputable def kindsL : List (List Nat) := [kStart, kStart, kEnd, kStart, kEmpty, kEnd, kStart]
noncomputable def sType : List Nat := [116, 121, 112, 101]
noncomputable def sData : List Nat := [100, 97, 116, 97]
noncomputable def errO (w : List Nat) : O := .dict [(sType, .int 7), (sData, .str w)]
theorem new_eq {c : Cx} {L : Loc} {σ : St} {e : PE} {o : O} {v : V} {r : List PS} (hC : Cld σ) (h : evE c e L σ = some (.ref σ.length, σ ++ [o])) (hf : frzO (rz (σ ++ [o]) σ.length 5) o = v) : evSs c (.retf e :: r) σ.length L σ = some (.ret v, gcL (σ ++ [o]) σ.length L, σ) := by
  rw [retF' h, rv_last, gcS_app hC, hf]
section
variable {F d : Nat} {sx : List (Nat × O)} {σ : St}
theorem x799 {s : List Nat} (hl : s.length ≤ 1000) : runF (L4.pr sx) F (d + 1) 799 [.str s] σ = some (.str (small s), σ ++ [.list (((s.map zed).map fun x => [low x]).map V.str)]) := by
  have hl2 : (s.map zed).length ≤ 1000 := by rw [List.length_map]; exact hl
  have hz : evE (cxOf (L4.pr sx) F (runF (L4.pr sx) F d)) (.replC (.loc 8) [0] [65533]) [(8, .str s)] σ = some (.str (s.map zed), σ) := repl1_eq (Nat.le_trans hl (by decide)) (by decide)
  exact fn_eq rfl rfl (retS (low_join hz hl2)) rfl
theorem x773 (hC : Cld σ) : runF (L4.pr sx) F (d + 1) 773 [] σ = some (.frz (.list (namesL.map V.str)), σ) := fn_eq rfl rfl (new_eq hC rfl rfl) rfl
theorem x780 (hC : Cld σ) : runF (L4.pr sx) F (d + 1) 780 [] σ = some (.frz (.list (endsL.map V.str)), σ) := fn_eq rfl rfl (new_eq hC rfl rfl) rfl
theorem x787 (hC : Cld σ) : runF (L4.pr sx) F (d + 1) 787 [] σ = some (.frz (.list (titlesL.map V.str)), σ) := fn_eq rfl rfl (new_eq hC rfl rfl) rfl
theorem x794 (hC : Cld σ) : runF (L4.pr sx) F (d + 1) 794 [] σ = some (.frz (.list (kindsL.map V.str)), σ) := fn_eq rfl rfl (new_eq hC rfl rfl) rfl
theorem x806 (hC : Cld σ) {w : List Nat} : runF (L4.pr sx) F (d + 1) 806 [.str w] σ = some (.frz (errO w), σ) := fn_eq rfl rfl (new_eq hC rfl rfl) rfl
noncomputable def plc (m : List Nat) : O := .tuple [.int ((m.count 10 + 1 : Nat)), .int (colOf 0 m : Nat)]
theorem idx_last {n : Nat} (h : 0 < n) : idxOf n (-1) = some (n - 1) := by
  unfold idxOf
  rw [if_neg (by decide), if_pos (by lia)]
  rfl
theorem x813 {s : List Nat} (hC : Cld σ) (hs : s.length ≤ 1000) : runF (L4.pr sx) F (d + 1) 813 [.str s] σ = some (.frz (plc s), σ) := by
  obtain ⟨q, h1, h2⟩ := spl_last s
  have hpos : 0 < (spl 10 s).length := by rw [spl_len]; lia
  have h3 : ((spl 10 s).map V.str)[((spl 10 s).map V.str).length - 1]? = some (.str q) := by
    rw [List.length_map, List.getElem?_map, ← List.getLast?_eq_getElem?, h1]; rfl
  have h4 : subO (.list ((spl 10 s).map V.str)) (.int (-1)) = some (.str q) := by
    show (idxOf _ (-1)).bind _ = _
    rw [idx_last (by rw [List.length_map]; exact hpos)]; exact h3
  refine fn_eq rfl rfl (L' := gcL (σ ++ [O.list ((spl 10 s).map V.str)]) σ.length [(56, .str s), (55, .ref σ.length)]) (fl := .ret (.frz (plc s))) ?_ rfl
  refine (asgL (v := .ref σ.length) (σ1 := σ ++ [O.list ((spl 10 s).map V.str)]) (show evE (cxOf (L4.pr sx) F (runF (L4.pr sx) F d)) (.splitC (.loc 56) [10]) [(56, .str s)] σ = _ from splitV_eq (c := 10) (σ := σ) hs)).trans ((retF' (v := .frz (plc s)) (σ1 := σ ++ [O.list ((spl 10 s).map V.str)]) ?_).trans (by rw [gcS_app hC]; rfl))
  have e1 : evE (cxOf (L4.pr sx) F (runF (L4.pr sx) F d)) (.len (.loc 55)) (putK 55 (.ref σ.length) [(56, .str s)]) (σ ++ [O.list ((spl 10 s).map V.str)]) = some (.int ((s.count 10 + 1 : Nat)), σ ++ [O.list ((spl 10 s).map V.str)]) := by
    show ((σ ++ [O.list ((spl 10 s).map V.str)])[σ.length]?).bind _ = _
    rw [lk_last, ← spl_len, ← List.length_map (as := spl 10 s) V.str]; rfl
  have e2 : evE (cxOf (L4.pr sx) F (runF (L4.pr sx) F d)) (.sub (.loc 55) (.neg (.const (.int 1)))) (putK 55 (.ref σ.length) [(56, .str s)]) (σ ++ [O.list ((spl 10 s).map V.str)]) = some (.str q, σ ++ [O.list ((spl 10 s).map V.str)]) := by
    show (((σ ++ [O.list ((spl 10 s).map V.str)])[σ.length]?).bind _).map _ = _
    rw [lk_last, Option.bind_some, h4]; rfl
  rw [evE_tupE, evEs_cons, e1, Option.bind_some]
  show ((evEs _ [_] _ _).bind _).bind _ = _
  rw [evEs_cons, evE_len, e2]
  show some (V.frz (.tuple [_, .int (q.length : Nat)]), _) = _
  rw [h2]; rfl
end
end PL
end
section
namespace PL
open Builtin.Str StrLaws
noncomputable def OutS (x : Option (Fl × Loc × St)) (Q : Fl → Loc → St → Prop) : Prop := ∃ f L σ, x = some (f, L, σ) ∧ Q f L σ
noncomputable def Lp (K : Fl → Loc → St → Prop) (I : Loc → St → Prop) : Fl → Loc → St → Prop
  | .brk, L, σ => K .next L σ
  | .ret v, L, σ => K (.ret v) L σ
  | _, L, σ => I L σ
theorem whileL_rule {test : Loc → St → Option (Bool × St)} {body : Loc → St → Option (Fl × Loc × St)} {K : Fl → Loc → St → Prop} (I : Nat → Loc → St → Prop)
    (hs : ∀ n L σ, I n L σ → ∃ x σ1, test L σ = some (x, σ1) ∧ match x with | false => K .next L σ1 | true => OutS (body L σ1) (Lp K fun L2 σ2 => ∃ m, m < n ∧ I m L2 σ2)) :
    ∀ (k n : Nat) (L : Loc) (σ : St), n < k → I n L σ → OutS (whileL test body k L σ) K
  | 0, n, L, σ, hk, _ => absurd hk (Nat.not_lt_zero _)
  | k + 1, n, L, σ, hk, h => by
    obtain ⟨x, σ1, e, h1⟩ := hs n L σ h
    rw [whileL_succ, e, Option.bind_some]
    cases x with
    | false => exact ⟨_, _, _, rfl, h1⟩
    | true =>
      obtain ⟨f, L2, σ2, e2, h2⟩ := h1
      show OutS ((body L σ1).bind _) K
      rw [e2, Option.bind_some]
      cases f with
      | brk => exact ⟨_, _, _, rfl, h2⟩
      | ret v => exact ⟨_, _, _, rfl, h2⟩
      | next => obtain ⟨m, hm, h2⟩ := h2; exact whileL_rule I hs k m L2 σ2 (Nat.lt_of_lt_of_le hm (Nat.le_of_lt_succ hk)) h2
      | cont => obtain ⟨m, hm, h2⟩ := h2; exact whileL_rule I hs k m L2 σ2 (Nat.lt_of_lt_of_le hm (Nat.le_of_lt_succ hk)) h2
theorem forL_rule {bind : V → Loc → St → Option Loc} {still : St → Bool} {body : Loc → St → Option (Fl × Loc × St)} {K : Fl → Loc → St → Prop} (I : List V → Loc → St → Prop)
    (hs : ∀ v vs L σ, I (v :: vs) L σ → still σ = true ∧ ∃ L1, bind v L σ = some L1 ∧ OutS (body L1 σ) (Lp K (I vs)))
    (hn : ∀ L σ, I [] L σ → still σ = true ∧ K .next L σ) : ∀ (xs : List V) (L : Loc) (σ : St), I xs L σ → OutS (forL bind still body xs L σ) K
  | [], L, σ, h => ⟨_, _, _, forL_nil.trans (if_pos (hn L σ h).1), (hn L σ h).2⟩
  | v :: vs, L, σ, h => by
    obtain ⟨h1, L1, e, f, L2, σ2, e2, h2⟩ := hs v vs L σ h
    rw [forL_cons, if_pos h1, e, Option.bind_some, e2, Option.bind_some]
    cases f with
    | brk => exact ⟨_, _, _, rfl, h2⟩
    | ret v => exact ⟨_, _, _, rfl, h2⟩
    | next => exact forL_rule I hs hn vs L2 σ2 h2
    | cont => exact forL_rule I hs hn vs L2 σ2 h2
theorem forL_skip {bind : V → Loc → St → Option Loc} {still : St → Bool} {body : Loc → St → Option (Fl × Loc × St)} {σ : St} (P : Loc → Prop) (hs : still σ = true) {xs : List V} {L : Loc} (h0 : P L)
    (h : ∀ v ∈ xs, ∀ L, P L → ∃ L1 L2, bind v L σ = some L1 ∧ body L1 σ = some (.next, L2, σ) ∧ P L2) : ∃ L', forL bind still body xs L σ = some (.next, L', σ) ∧ P L' := by
  obtain ⟨f, L', σ', e, q1, q2, q3⟩ := forL_rule (K := fun f L s => f = .next ∧ s = σ ∧ P L) (fun vs L s => s = σ ∧ P L ∧ ∀ v ∈ vs, v ∈ xs) (bind := bind) (still := still) (body := body) (fun v vs L s ⟨q, p, sub⟩ => by
    subst q
    obtain ⟨L1, L2, e1, e2, p2⟩ := h v (sub v (.head _)) L p
    exact ⟨hs, L1, e1, _, _, _, e2, rfl, p2, fun w hw => sub w (.tail _ hw)⟩) (fun L s ⟨q, p, _⟩ => ⟨q ▸ hs, rfl, q, p⟩) xs L σ ⟨rfl, h0, fun qq1 h => h⟩
  subst q1 q2
  exact ⟨L', e, q3⟩
noncomputable def smO (chunk : List Nat) (off pl pc : Nat) (buf : V) : O := .inst 166 [(52, .ref 2), (67, .ref 3), (48, .ref 4), (46, .str chunk), (41, .int (chunk.length : Nat)), (47, .int (off : Nat)), (77, .ref 5), (43, .int (pl : Nat)), (44, .int (pc : Nat)), (50, buf)]
noncomputable def txO (t : List Nat) (p : Nat) : O := .inst 73 [(3, .str t), (16, .int (p : Nat))]
noncomputable def hS (x0 sm tx : O) (rest : List O) : St := x0 :: sm :: .meth 148 (.ref 1) :: .list [.int 0] :: tx :: .list [] :: rest
section
variable {c : Cx} {L : Loc} {σ : St}
theorem orB {l r : PE} {a b : Bool} (h1 : evE c l L σ = some (.bool a, σ)) (h2 : evE c r L σ = some (.bool b, σ)) : evE c (.orE l r) L σ = some (.bool (a || b), σ) := by
  rw [evE_orE, h1]
  cases a with
  | true => rfl
  | false => exact h2
theorem chainB {a e x : Int} {i : Nat} (h : getK i L = some (.int x)) : evE c (.chain .le .le (.const (.int a)) (.loc i) (.const (.int e))) L σ = some (.bool (decide (a ≤ x) && decide (x ≤ e)), σ) := by
  rw [evE_chain, evE_const, Option.bind_some]
  show ((evE c (.loc i) L σ).bind _) = _
  rw [evE_loc, h, Option.map_some, Option.bind_some]
  show ((some (decide (a ≤ x))).bind _) = _
  cases decide (a ≤ x) with
  | false => rfl
  | true => rfl
end
noncomputable def inv (c : Nat) : Bool := (decide (1 ≤ (c : Int)) && decide ((c : Int) ≤ 8)) || (((c : Int) == 11) || ((decide (14 ≤ (c : Int)) && decide ((c : Int) ≤ 31)) || ((decide (127 ≤ (c : Int)) && decide ((c : Int) ≤ 159)) || ((decide (64976 ≤ (c : Int)) && decide ((c : Int) ≤ 65007)) || (((65534 == Int.fmod c 65536) || ((65535 == Int.fmod c 65536) || false)) || (decide (55296 ≤ (c : Int)) && decide ((c : Int) ≤ 57343)))))))
section
variable {F d : Nat} {sx : List (Nat × O)} {σ : St}
theorem x84 {x : Nat} : runF (L4.pr sx) F (d + 1) 84 [.int (x : Nat)] σ = some (.bool (inv x), σ) := by
  have h : getK 82 [(82, V.int (x : Nat))] = some (.int (x : Nat)) := rfl
  refine fn_eq (L := [(82, .int (x : Nat))]) rfl rfl (retS ?_) rfl
  exact orB (chainB h) (orB rfl (orB (chainB h) (orB (chainB h) (orB (chainB h) (orB rfl (chainB h))))))
theorem x148 {D : List Nat} (hi : ∀ c ∈ D, inv c = false) : runF (L4.pr sx) F (d + 2) 148 [.ref 1, .str D] σ = some (.none, σ) := by
  obtain ⟨L', e, _⟩ := forL_skip (σ := σ) (bind := fun v L s => bindFt (cxOf (L4.pr sx) F (runF (L4.pr sx) F (d + 1))) s (.one 25) v L) (still := fun s => stillV (cxOf (L4.pr sx) F (runF (L4.pr sx) F (d + 1))) σ s (.str D))
      (body := fun L s => evSs (cxOf (L4.pr sx) F (runF (L4.pr sx) F (d + 1))) [.ifs (.call 84 [.ord (.loc 25)]) [.expr (.append (.attr (.loc 34) 77) (.const (.str [105, 110, 118, 97, 108, 105, 100, 45, 99, 111, 100, 101, 112, 111, 105, 110, 116])))] []] σ.length L s)
      (fun qq1 => True) (still_iff.mpr rfl) (xs := D.map fun ch => V.str [ch]) (L := [(34, .ref 1), (29, .str D)]) trivial fun v hv L qq1 => by
    obtain ⟨x, hx, rfl⟩ := List.mem_map.mp hv
    refine ⟨putK 25 (.str [x]) L, putK 25 (.str [x]) L, rfl, ?_, trivial⟩
    refine (ifN (σ1 := σ) ?_).trans rfl
    have h1 : evE (cxOf (L4.pr sx) F (runF (L4.pr sx) F (d + 1))) (.loc 25) (putK 25 (.str [x]) L) σ = some (.str [x], σ) := evE_loc.trans (congrArg (Option.map _) gk_eq)
    have h2 : evE (cxOf (L4.pr sx) F (runF (L4.pr sx) F (d + 1))) (.call 84 [.ord (.loc 25)]) (putK 25 (.str [x]) L) σ = some (.bool false, σ) := by
      rw [evE_call, evEs_cons, evE_ord, h1]
      exact x84.trans (by rw [hi x hx])
    rw [tv_call, h2]; rfl
  refine fn_eq (L := [(34, .ref 1), (29, .str D)]) (fl := .next) (L' := L') rfl rfl ?_ rfl
  show evSs _ [.fors _ _ _] _ _ _ = _
  rw [evSs_cons, evS_fors]
  show (Option.bind (forL _ _ _ _ _ _) _) = _
  rw [e]; rfl
theorem read_cut {t : List Nat} {p n : Nat} (hp : p ≤ t.length) : cut t (clampI t.length (p : Int)) (clampI t.length ((p : Int) + (n : Int))) = (t.drop p).take n := by
  unfold cut clampI
  have h3 : ((p : Int) + (n : Int)).toNat = p + n := by lia
  rw [if_neg (by lia), if_neg (by lia), h3, Int.toNat_natCast, Nat.min_eq_left hp]
  by_cases h4 : p + n ≤ t.length
  · rw [Nat.min_eq_left h4, Nat.add_sub_cancel_left]
  · rw [Nat.min_eq_right (by lia), List.take_of_length_le (by rw [List.length_drop]; lia), List.take_of_length_le (by rw [List.length_drop]; lia)]
variable {x0 sm tx : O} {chunk t : List Nat} {off pl pc n p : Nat} {buf : V} {rest : List O}
theorem x70 (hp : p ≤ t.length) : runF (L4.pr sx) F (d + 1) 70 [.ref 4, .int (n : Nat)] (hS x0 sm (txO t p) rest) = some (.str ((t.drop p).take n), hS x0 sm (txO t (p + ((t.drop p).take n).length)) rest) := by
  rw [← read_cut hp]
  exact fn_eq rfl rfl rfl rfl
theorem x119 {o : Nat} (h1 : o ≤ chunk.length) (h2 : chunk.length ≤ LIM) : runF (L4.pr sx) F (d + 1) 119 [.ref 1, .int (o : Nat)] (hS x0 (smO chunk off pl pc buf) tx rest) =
    some (.frz (.tuple [.int ((pl + (chunk.take o).count 10 : Nat)), .int (colOf pc (chunk.take o) : Nat)]), hS x0 (smO chunk off pl pc buf) tx rest) := by
  have hc : evSs (cxOf (L4.pr sx) F (runF (L4.pr sx) F d)) L4.f119 (hS x0 (smO chunk off pl pc buf) tx rest).length [(34, .ref 1), (72, .int (o : Nat))] (hS x0 (smO chunk off pl pc buf) tx rest) =
      evSs (cxOf (L4.pr sx) F (runF (L4.pr sx) F d)) (L4.f119.drop 4) (hS x0 (smO chunk off pl pc buf) tx rest).length [(34, .ref 1), (72, .int (o : Nat)), (46, .str chunk), (71, .int ((chunk.take o).count 10 : Nat)), (73, .int ((pl + (chunk.take o).count 10 : Nat))), (74, .int (match lastIx 10 (chunk.take o) with | some i => (i : Int) | none => -1))] (hS x0 (smO chunk off pl pc buf) tx rest) := by
    refine (asgL (v := .str chunk) (σ1 := hS x0 (smO chunk off pl pc buf) tx rest) ?_).trans ?_
    · rfl
    refine (asgL (v := .int ((chunk.take o).count 10 : Nat)) (σ1 := hS x0 (smO chunk off pl pc buf) tx rest) ?_).trans ?_
    · exact count3_eq (c := 10) (σ := hS x0 (smO chunk off pl pc buf) tx rest) h1 h2
    refine (asgL (v := .int ((pl + (chunk.take o).count 10 : Nat))) (σ1 := hS x0 (smO chunk off pl pc buf) tx rest) ?_).trans ?_
    · rfl
    refine (asgL (v := .int (match lastIx 10 (chunk.take o) with | some i => (i : Int) | none => -1)) (σ1 := hS x0 (smO chunk off pl pc buf) tx rest) ?_).trans ?_
    · exact rfind3_eq (c := 10) (σ := hS x0 (smO chunk off pl pc buf) tx rest) h1 h2
    rfl
  unfold colOf
  cases hl : lastIx 10 (chunk.take o) with
  | none =>
    rw [hl] at hc
    rw [List.length_take, Nat.min_eq_left h1]
    exact fn_ex (fl := .ret (.frz (.tuple [.int ((pl + (chunk.take o).count 10 : Nat)), .int ((pc + o : Nat))]))) rfl rfl ⟨_, hc.trans rfl⟩ rfl
  | some i =>
    rw [hl] at hc
    have hi := lastIx_lt 10 _ i hl
    rw [List.length_take, Nat.min_eq_left h1] at hi ⊢
    have e : ((o - (i + 1) : Nat) : Int) = (o : Int) - ((i : Int) + 1) := by lia
    show _ = some (V.frz (.tuple [_, .int ((o - (i + 1) : Nat) : Int)]), _)
    rw [e]
    exact fn_ex (fl := .ret (.frz (.tuple [.int ((pl + (chunk.take o).count 10 : Nat)), .int ((o : Int) - ((i : Int) + 1))]))) rfl rfl ⟨_, hc.trans rfl⟩ rfl
theorem x126 (h1 : off ≤ chunk.length) (h2 : chunk.length ≤ LIM) : runF (L4.pr sx) F (d + 2) 126 [.ref 1] (hS x0 (smO chunk off pl pc buf) tx rest) =
    some (.frz (.tuple [.int ((pl + (chunk.take off).count 10 + 1 : Nat)), .int (colOf pc (chunk.take off) : Nat)]), hS x0 (smO chunk off pl pc buf) tx rest) := by
  refine fn_eq (fl := .ret (.frz (.tuple [.int ((pl + (chunk.take off).count 10 + 1 : Nat)), .int (colOf pc (chunk.take off) : Nat)]))) (L' := [(34, .ref 1), (53, .int ((pl + (chunk.take off).count 10 : Nat))), (54, .int (colOf pc (chunk.take off) : Nat))]) rfl rfl ?_ rfl
  show evSs _ [.assignT _ _, .ret _] _ _ _ = _
  rw [evSs_cons, evS_assignT]
  have e : evE (cxOf (L4.pr sx) F (runF (L4.pr sx) F (d + 1))) (.meth (.loc 34) 45 [.attr (.loc 34) 47]) [(34, .ref 1)] (hS x0 (smO chunk off pl pc buf) tx rest) = some (.frz (.tuple [.int ((pl + (chunk.take off).count 10 : Nat)), .int (colOf pc (chunk.take off) : Nat)]), hS x0 (smO chunk off pl pc buf) tx rest) := x119 h1 h2
  show (((evE _ _ _ _).bind _).bind _) = _
  rw [e]
  rfl
end
end PL
end
section
namespace PL
open Builtin.Str StrLaws
noncomputable def splitD (l : List Nat) : List Nat × Option Nat := match l.getLast? with
  | none => (l, none)
  | some x => if 1 < l.length ∧ (x = 13 ∨ 55296 ≤ x ∧ x ≤ 56319) then (l.dropLast, some x) else (l, none)
noncomputable def bufV : Option Nat → V | none => .none | some x => .str [x]
noncomputable def rep2 (l : List Nat) : List Nat := ofS (Txt.replace (toS l) (toS [13, 10]) (toS [10]))
noncomputable def mend (l : List Nat) : List Nat := (rep2 l).map fun x => if x = 13 then 10 else x
theorem mend_nil : mend [] = [] := by unfold mend rep2; rw [repl_two [] 13 10 [10] rfl]; rfl
theorem cut_last {α : Type} (l : List α) (h : 0 < l.length) : cut l 0 (clampI l.length (-1)) = l.dropLast := by
  unfold cut clampI
  rw [if_pos (by decide), List.drop_zero, List.dropLast_eq_take]
  congr 1
  lia
theorem splitD_cat (l : List Nat) : (splitD l).1 ++ (splitD l).2.toList = l := by
  unfold splitD
  split
  · simp
  · rename_i x hx
    split
    · simp only [Option.toList_some]
      obtain ⟨hne, e⟩ := List.getLast?_eq_some_iff.mp hx
      rw [e]; simp
    · simp
theorem splitD_len (l : List Nat) : (splitD l).1.length ≤ l.length := by
  have := congrArg List.length (splitD_cat l)
  rw [List.length_append] at this
  lia
theorem colOf_app (p : Nat) : ∀ (a b : List Nat), colOf (colOf p a) b = colOf p (a ++ b) := by
  have key : ∀ (a b : List Nat), lastIx 10 (a ++ b) = match lastIx 10 b with | some i => some (a.length + i) | none => lastIx 10 a := by
    intro a b
    induction a with
    | nil => cases h : lastIx 10 b <;> simp [lastIx, h]
    | cons x r ih =>
      have e : lastIx 10 (x :: (r ++ b)) = match lastIx 10 (r ++ b) with | some i => some (i + 1) | none => if x = 10 then some 0 else none := rfl
      rw [List.cons_append, e, ih]
      cases h : lastIx 10 b with
      | some i => simp; lia
      | none => rfl
  intro a b
  unfold colOf
  rw [key]
  cases h : lastIx 10 b with
  | some i => simp; lia
  | none =>
    simp only
    cases h2 : lastIx 10 a with
    | none => simp; lia
    | some i =>
      have := lastIx_lt 10 a i h2
      simp; lia
noncomputable def Md (raw m : List Nat) : Prop := noPair 13 10 raw = true ∧ (∀ c ∈ raw, inv c = false) ∧ raw.length ≤ 1000 ∧ m = raw.map fun x => if x = 13 then 10 else x
theorem noPair_app (c d : Nat) : ∀ a b, noPair c d (a ++ b) = true → noPair c d a = true ∧ noPair c d b = true
  | [], b, h => ⟨rfl, h⟩
  | [x], [], h => ⟨rfl, rfl⟩
  | [x], y :: r, h => by
    simp only [List.cons_append, List.nil_append, noPair, Bool.and_eq_true] at h
    exact ⟨rfl, h.2⟩
  | x :: y :: r, b, h => by
    simp only [List.cons_append, noPair, Bool.and_eq_true] at h
    have ih := noPair_app c d (y :: r) b h.2
    refine ⟨?_, ih.2⟩
    simp only [noPair, Bool.and_eq_true]
    exact ⟨h.1, ih.1⟩
theorem mend_eq {l : List Nat} (h : noPair 13 10 l = true) : mend l = l.map fun x => if x = 13 then 10 else x := by
  unfold mend rep2
  rw [repl_two l 13 10 [10] h]
theorem rep2_eq {l : List Nat} (h : noPair 13 10 l = true) : rep2 l = l := repl_two l 13 10 [10] h
theorem splitD_ne {l : List Nat} (h : l ≠ []) : (splitD l).1 ≠ [] := by
  unfold splitD
  split
  · exact h
  · split
    · rename_i x hx hq
      intro e
      have := congrArg List.length e
      simp at this
      lia
    · exact h
theorem Md.step {buf : Option Nat} {R m : List Nat} {n : Nat} (h : Md (buf.toList ++ R) m) :
    m = mend (splitD (buf.toList ++ R.take n)).1 ++ ((splitD (buf.toList ++ R.take n)).2.toList ++ R.drop n).map (fun x => if x = 13 then 10 else x) ∧
    Md ((splitD (buf.toList ++ R.take n)).2.toList ++ R.drop n) (((splitD (buf.toList ++ R.take n)).2.toList ++ R.drop n).map (fun x => if x = 13 then 10 else x)) ∧
    (rep2 (splitD (buf.toList ++ R.take n)).1).length ≤ LIM ∧ (buf.toList ++ R.take n).length ≤ 1000 ∧ (∀ c ∈ (splitD (buf.toList ++ R.take n)).1, inv c = false) ∧ (mend (splitD (buf.toList ++ R.take n)).1).length ≤ LIM := by
  obtain ⟨h1, h2, h3, h4⟩ := h
  have e : buf.toList ++ R = (splitD (buf.toList ++ R.take n)).1 ++ ((splitD (buf.toList ++ R.take n)).2.toList ++ R.drop n) := by
    rw [← List.append_assoc, splitD_cat, List.append_assoc, List.take_append_drop]
  have el := congrArg List.length e
  rw [List.length_append (as := (splitD (buf.toList ++ R.take n)).1)] at el
  have h5 := h1
  rw [e] at h5
  have h6 := noPair_app 13 10 _ _ h5
  have hl := splitD_len (buf.toList ++ R.take n)
  have hl2 : (buf.toList ++ R.take n).length ≤ (buf.toList ++ R).length := by simp; lia
  refine ⟨?_, ⟨h6.2, fun c hc => h2 c (by rw [e]; exact List.mem_append_right _ hc), by lia, rfl⟩, ?_, by lia, ?_, ?_⟩
  · rw [mend_eq h6.1, ← List.map_append, ← e]; exact h4
  · rw [rep2_eq h6.1]; unfold LIM; lia
  · exact fun c hc => h2 c (by rw [e]; exact List.mem_append_left _ hc)
  · rw [mend_eq h6.1, List.length_map]; unfold LIM; lia
theorem repl2_eq {s : List Nat} {σ : St} (hl : (rep2 s).length ≤ LIM) : replV [13, 10] [10] (.str s) σ = some (.str (rep2 s), σ) := if_pos (⟨hl, (by decide), (by decide)⟩ : (rep2 s).length ≤ LIM ∧ ([13, 10] : List Nat) ≠ [10] ∧ ([10] : List Nat).length ≤ 14)
theorem fldCall_eq {c : Cx} {cl m q g : Nat} {self : V} {σ σ2 : St} {as : St → Option (List V × St)} {vs : List V} (hc : c.clsi cl m = true) (hq : σ[q]? = some (.meth g self)) (ha : as σ = some (vs, σ2)) (h2 : σ2[q]? = some (.meth g self)) (hB : g < BIG) :
    fldCall c cl m (.ref q) σ as = c.call g (self :: vs) σ2 := by
  show (if c.clsi cl m = true then (σ[q]?).bind _ else none) = _
  rw [if_pos hc, hq, Option.bind_some]
  show (as σ).bind _ = _
  rw [ha, Option.bind_some]
  exact @if_pos _ (Classical.propDecidable _) ⟨h2, hB⟩ _ _ _
section
variable {F d : Nat} {sx : List (Nat × O)} {σ : St} {x0 sm tx : O} {chunk t E : List Nat} {off pl pc n p z : Nat} {buf v41 : V} {rest : List O} {L2 : Loc}
theorem x141d (hi : ∀ c ∈ E, inv c = false) (hr : (rep2 E).length ≤ LIM) : ∃ L', evSs (cxOf (L4.pr sx) F (runF (L4.pr sx) F (d + 2))) (L4.f141.drop 8) z ((34, .ref 1) :: (41, v41) :: (29, .str E) :: L2) (hS x0 (smO [] 0 pl pc buf) tx rest) =
    some (.ret (.bool true), L', hS x0 (smO (mend E) 0 pl pc buf) tx rest) := by
  apply Exists.intro
  refine (ifT (σ1 := hS x0 (smO [] 0 pl pc buf) tx rest) ?_).trans ?_
  · rfl
  rw [exprS (v := .none) (σ1 := hS x0 (smO [] 0 pl pc buf) tx rest) ?_]
  rotate_left
  · exact (fldCall_eq (c := cxOf (L4.pr sx) F (runF (L4.pr sx) F (d + 2))) (cl := 166) (m := 52) (q := 2) (g := 148) (self := .ref 1) (σ := hS x0 (smO [] 0 pl pc buf) tx rest) (as := evEs (cxOf (L4.pr sx) F (runF (L4.pr sx) F (d + 2))) [.loc 29] ((34, .ref 1) :: (41, v41) :: (29, .str E) :: L2)) (σ2 := hS x0 (smO [] 0 pl pc buf) tx rest) (vs := [.str E]) rfl rfl rfl rfl (by decide : 148 < BIG)).trans (x148 hi)
  show evSs _ (L4.f141.drop 9) z _ _ = _
  refine (asgL (v := .str (rep2 E)) (σ1 := hS x0 (smO [] 0 pl pc buf) tx rest) ?_).trans ?_
  · exact repl2_eq (σ := hS x0 (smO [] 0 pl pc buf) tx rest) hr
  refine (asgL (v := .str (mend E)) (σ1 := hS x0 (smO [] 0 pl pc buf) tx rest) ?_).trans ?_
  · exact repl1_eq (σ := hS x0 (smO [] 0 pl pc buf) tx rest) hr (by decide)
  rfl
theorem orT {c : Cx} {L : Loc} {l r : PE} {a b : Bool} (h1 : evT c l L σ = some (a, σ)) (h2 : evT c r L σ = some (b, σ)) : evT c (.orE l r) L σ = some (a || b, σ) := by
  rw [evT_orE, h1]
  cases a with
  | true => rfl
  | false => exact h2
theorem last_eq {c : Cx} {L : Loc} {i : Nat} {D : List Nat} {x : Nat} (hL : getK i L = some (.str D)) (hx : D.getLast? = some x) : evE c (.sub (.loc i) (.neg (.const (.int 1)))) L σ = some (.str [x], σ) := by
  have h0 : 0 < D.length := by cases D with | nil => cases hx | cons => exact Nat.succ_pos _
  rw [evE_sub, evE_loc, hL, Option.map_some, Option.bind_some]
  show Option.map _ (((idxOf D.length (-1)).bind _)) = _
  rw [idx_last h0, Option.bind_some, ← List.getLast?_eq_getElem?, hx]
  rfl
theorem splitD_no {D : List Nat} (h : ¬ 1 < D.length) : splitD D = (D, none) := by
  unfold splitD
  cases D.getLast? with
  | none => rfl
  | some x => exact if_neg fun h' => h h'.1
theorem x141c {D : List Nat} (hi : ∀ c ∈ (splitD D).1, inv c = false) (hr : (rep2 (splitD D).1).length ≤ LIM) : ∃ L', evSs (cxOf (L4.pr sx) F (runF (L4.pr sx) F (d + 2))) (L4.f141.drop 7) z [(34, .ref 1), (41, v41), (29, .str D)] (hS x0 (smO [] 0 pl pc .none) tx rest) =
    some (.ret (.bool true), L', hS x0 (smO (mend (splitD D).1) 0 pl pc (bufV (splitD D).2)) tx rest) := by
  by_cases hl : 1 < D.length
  · have hne : D.getLast? ≠ none := fun h => by rw [List.getLast?_eq_none_iff] at h; subst h; cases hl
    cases hx : D.getLast? with
    | none => exact absurd hx hne
    | some x =>
      have hs : splitD D = if x = 13 ∨ 55296 ≤ x ∧ x ≤ 56319 then (D.dropLast, some x) else (D, none) := by
        unfold splitD
        rw [hx]
        by_cases hq : x = 13 ∨ 55296 ≤ x ∧ x ≤ 56319
        · exact (if_pos ⟨hl, hq⟩).trans (if_pos hq).symm
        · exact (if_neg fun h => hq h.2).trans (if_neg hq).symm
      have h51 : evE (cxOf (L4.pr sx) F (runF (L4.pr sx) F (d + 2))) (.ord (.sub (.loc 29) (.neg (.const (.int 1))))) [(34, .ref 1), (41, v41), (29, .str D)] (hS x0 (smO [] 0 pl pc .none) tx rest) = some (.int (x : Nat), hS x0 (smO [] 0 pl pc .none) tx rest) := by
        rw [evE_ord, last_eq rfl hx]; rfl
      have ht : evT (cxOf (L4.pr sx) F (runF (L4.pr sx) F (d + 2))) (.orE (.cmp .eq (.loc 51) (.const (.int 13))) (.chain .le .le (.const (.int 55296)) (.loc 51) (.const (.int 56319)))) [(34, .ref 1), (41, v41), (29, .str D), (51, .int (x : Nat))] (hS x0 (smO [] 0 pl pc .none) tx rest) =
          some ((((x : Int) == 13) || (decide (55296 ≤ (x : Int)) && decide ((x : Int) ≤ 56319))), hS x0 (smO [] 0 pl pc .none) tx rest) := by
        refine orT rfl ?_
        rw [evT_chain, chainB (x := (x : Int)) rfl]; rfl
      have e7 : evSs (cxOf (L4.pr sx) F (runF (L4.pr sx) F (d + 2))) (L4.f141.drop 7) z [(34, .ref 1), (41, v41), (29, .str D)] (hS x0 (smO [] 0 pl pc .none) tx rest) = (evSs (cxOf (L4.pr sx) F (runF (L4.pr sx) F (d + 2))) [.ifs (.orE (.cmp .eq (.loc 51) (.const (.int 13))) (.chain .le .le (.const (.int 55296)) (.loc 51) (.const (.int 56319)))) [.assign (.a (.loc 34) 50) (.sub (.loc 29) (.neg (.const (.int 1)))), .assign (.l 29) (.slice (.loc 29) (.const .none) (.neg (.const (.int 1))))] []]
          z [(34, .ref 1), (41, v41), (29, .str D), (51, .int (x : Nat))] (hS x0 (smO [] 0 pl pc .none) tx rest)).bind fun (f, L1, σ1) => match f with | .next => evSs (cxOf (L4.pr sx) F (runF (L4.pr sx) F (d + 2))) (L4.f141.drop 8) z L1 σ1 | f => some (f, L1, σ1) := by
        refine (ifT (σ1 := hS x0 (smO [] 0 pl pc .none) tx rest) ?_).trans ?_
        · show some (decide ((1 : Int) < (D.length : Nat)), _) = _
          rw [decide_eq_true (by lia)]
        rw [asgL h51]; rfl
      rw [e7]
      by_cases hq : x = 13 ∨ 55296 ≤ x ∧ x ≤ 56319
      · rw [if_pos hq] at hs
        rw [hs] at hi hr ⊢
        obtain ⟨L', e⟩ := x141d (F := F) (d := d) (sx := sx) (x0 := x0) (tx := tx) (pl := pl) (pc := pc) (z := z) (buf := .str [x]) (v41 := v41) (rest := rest) (L2 := [(51, .int (x : Nat))]) hi hr
        refine ⟨L', ?_⟩
        rw [ifT (σ1 := hS x0 (smO [] 0 pl pc .none) tx rest) (ht.trans (by rw [show ((x : Int) == 13 || (decide (55296 ≤ (x : Int)) && decide ((x : Int) ≤ 56319))) = true by simp; lia]))]
        have h50 : evSs (cxOf (L4.pr sx) F (runF (L4.pr sx) F (d + 2))) [.assign (.a (.loc 34) 50) (.sub (.loc 29) (.neg (.const (.int 1)))), .assign (.l 29) (.slice (.loc 29) (.const .none) (.neg (.const (.int 1))))] z [(34, .ref 1), (41, v41), (29, .str D), (51, .int (x : Nat))] (hS x0 (smO [] 0 pl pc .none) tx rest) =
            some (.next, [(34, .ref 1), (41, v41), (29, .str D.dropLast), (51, .int (x : Nat))], hS x0 (smO [] 0 pl pc (.str [x])) tx rest) := by
          rw [evSs_cons, evS_assign, last_eq rfl hx, ← cut_last D (Nat.lt_trans Nat.zero_lt_one hl)]; rfl
        rw [h50]
        exact e
      · rw [if_neg hq] at hs
        rw [hs] at hi hr ⊢
        obtain ⟨L', e⟩ := x141d (F := F) (d := d) (sx := sx) (x0 := x0) (tx := tx) (pl := pl) (pc := pc) (z := z) (buf := .none) (v41 := v41) (rest := rest) (L2 := [(51, .int (x : Nat))]) hi hr
        refine ⟨L', ?_⟩
        rw [ifN (σ1 := hS x0 (smO [] 0 pl pc .none) tx rest) (ht.trans (by rw [show ((x : Int) == 13 || (decide (55296 ≤ (x : Int)) && decide ((x : Int) ≤ 56319))) = false by simp; lia]))]
        exact e
  · rw [splitD_no hl] at hi hr ⊢
    obtain ⟨L', e⟩ := x141d (F := F) (d := d) (sx := sx) (x0 := x0) (tx := tx) (pl := pl) (pc := pc) (z := z) (buf := .none) (v41 := v41) (rest := rest) (L2 := []) hi hr
    refine ⟨L', (ifN (σ1 := hS x0 (smO [] 0 pl pc .none) tx rest) ?_).trans e⟩
    show some (decide ((1 : Int) < (D.length : Nat)), _) = _
    rw [decide_eq_false (by lia)]
theorem x141a (hp : p ≤ t.length) (hc : chunk.length ≤ LIM) : evSs (cxOf (L4.pr sx) F (runF (L4.pr sx) F (d + 2))) (L4.f141.drop 1) z [(34, .ref 1), (41, .int (n : Nat))] (hS x0 (smO chunk off pl pc buf) (txO t p) rest) =
    evSs (cxOf (L4.pr sx) F (runF (L4.pr sx) F (d + 2))) (L4.f141.drop 6) z [(34, .ref 1), (41, .int (n : Nat)), (29, .str ((t.drop p).take n))] (hS x0 (smO [] 0 (pl + chunk.count 10) (colOf pc chunk) buf) (txO t (p + ((t.drop p).take n).length)) rest) := by
  have e1 : evE (cxOf (L4.pr sx) F (runF (L4.pr sx) F (d + 2))) (.meth (.loc 34) 45 [.attr (.loc 34) 41]) [(34, .ref 1), (41, .int (n : Nat))] (hS x0 (smO chunk off pl pc buf) (txO t p) rest) = some (.frz (.tuple [.int ((pl + chunk.count 10 : Nat)), .int (colOf pc chunk : Nat)]), hS x0 (smO chunk off pl pc buf) (txO t p) rest) := by
    have := x119 (F := F) (d := d + 1) (sx := sx) (x0 := x0) (off := off) (pl := pl) (pc := pc) (buf := buf) (tx := txO t p) (rest := rest) (o := chunk.length) (Nat.le_refl _) hc
    rw [List.take_length] at this
    exact this
  have e2 : evSs (cxOf (L4.pr sx) F (runF (L4.pr sx) F (d + 2))) (L4.f141.drop 1) z [(34, .ref 1), (41, .int (n : Nat))] (hS x0 (smO chunk off pl pc buf) (txO t p) rest) = evSs (cxOf (L4.pr sx) F (runF (L4.pr sx) F (d + 2))) (L4.f141.drop 5) z [(34, .ref 1), (41, .int (n : Nat))] (hS x0 (smO [] 0 (pl + chunk.count 10) (colOf pc chunk) buf) (txO t p) rest) := by
    show evSs _ (.assignT _ (.meth (.loc 34) 45 [.attr (.loc 34) 41]) :: _) _ _ _ = _
    rw [evSs_cons, evS_assignT, e1]
    rfl
  rw [e2]
  exact asgL (v := .str ((t.drop p).take n)) (σ1 := hS x0 (smO [] 0 (pl + chunk.count 10) (colOf pc chunk) buf) (txO t (p + ((t.drop p).take n).length)) rest) (x70 (F := F) (d := d + 1) (sx := sx) hp)
theorem x141b {b : Option Nat} {T : List Nat} (hi : ∀ c ∈ (splitD (b.toList ++ T)).1, inv c = false) (hr : (rep2 (splitD (b.toList ++ T)).1).length ≤ LIM) (hT : (b.toList ++ T).length ≤ LIM) : ∃ L', evSs (cxOf (L4.pr sx) F (runF (L4.pr sx) F (d + 2))) (L4.f141.drop 6) z [(34, .ref 1), (41, v41), (29, .str T)] (hS x0 (smO [] 0 pl pc (bufV b)) tx rest) =
    some (.ret (.bool (!(b.toList ++ T).isEmpty)), L', hS x0 (smO (mend (splitD (b.toList ++ T)).1) 0 pl pc (bufV (splitD (b.toList ++ T)).2)) tx rest) := by
  cases b with
  | none =>
    cases T with
    | nil => exact ⟨[(34, .ref 1), (41, v41), (29, .str [])], by rw [show splitD (Option.none.toList ++ []) = ([], none) from rfl, mend_nil]; rfl⟩
    | cons x r =>
      obtain ⟨L', e⟩ := x141c (F := F) (d := d) (sx := sx) (x0 := x0) (tx := tx) (pl := pl) (pc := pc) (z := z) (v41 := v41) (rest := rest) (D := x :: r) hi hr
      exact ⟨L', e⟩
  | some x =>
    obtain ⟨L', e⟩ := x141c (F := F) (d := d) (sx := sx) (x0 := x0) (tx := tx) (pl := pl) (pc := pc) (z := z) (v41 := v41) (rest := rest) (D := x :: T) hi hr
    refine ⟨L', Eq.trans ?_ e⟩
    have h29 : evE (cxOf (L4.pr sx) F (runF (L4.pr sx) F (d + 2))) (.bin .add (.attr (.loc 34) 50) (.loc 29)) [(34, .ref 1), (41, v41), (29, .str T)] (hS x0 (smO [] 0 pl pc (.str [x])) tx rest) = some (.str (x :: T), hS x0 (smO [] 0 pl pc (.str [x])) tx rest) := if_pos (by rw [Nat.add_comm]; exact hT : [x].length + T.length ≤ LIM)
    refine (ifT (σ1 := hS x0 (smO [] 0 pl pc (.str [x])) tx rest) ?_).trans ?_
    · rfl
    rw [asgL h29]
    rfl
noncomputable def nextS (t : List Nat) (n p : Nat) (b : Option Nat) : List Nat := b.toList ++ (t.drop p).take n
theorem x141n {b : Option Nat} (hp : p ≤ t.length) (hc : chunk.length ≤ LIM) (hi : ∀ c ∈ (splitD (nextS t n p b)).1, inv c = false) (hr : (rep2 (splitD (nextS t n p b)).1).length ≤ LIM) (hT : (nextS t n p b).length ≤ LIM) :
    runF (L4.pr sx) F (d + 3) 141 [.ref 1, .int (n : Nat)] (hS x0 (smO chunk off pl pc (bufV b)) (txO t p) rest) = some (.bool (!(nextS t n p b).isEmpty), hS x0 (smO (mend (splitD (nextS t n p b)).1) 0 (pl + chunk.count 10) (colOf pc chunk) (bufV (splitD (nextS t n p b)).2)) (txO t (p + ((t.drop p).take n).length)) rest) := by
  obtain ⟨L', e⟩ := x141b (F := F) (d := d) (sx := sx) (x0 := x0) (tx := txO t (p + ((t.drop p).take n).length)) (pl := pl + chunk.count 10) (pc := colOf pc chunk) (z := (hS x0 (smO chunk off pl pc (bufV b)) (txO t p) rest).length) (v41 := .int (n : Nat)) (rest := rest) (b := b) (T := (t.drop p).take n) hi hr hT
  exact fn_ex (fl := .ret _) rfl rfl ⟨L', Eq.trans (Eq.trans (ifN (σ1 := hS x0 (smO chunk off pl pc (bufV b)) (txO t p) rest) rfl) (x141a hp hc)) e⟩ rfl
theorem x141 {b : Option Nat} (hp : p ≤ t.length) (hc : chunk.length ≤ LIM) (hi : ∀ c ∈ (splitD (nextS t 10240 p b)).1, inv c = false) (hr : (rep2 (splitD (nextS t 10240 p b)).1).length ≤ LIM) (hT : (nextS t 10240 p b).length ≤ LIM) :
    runF (L4.pr sx) F (d + 3) 141 [.ref 1] (hS x0 (smO chunk off pl pc (bufV b)) (txO t p) rest) = some (.bool (!(nextS t 10240 p b).isEmpty), hS x0 (smO (mend (splitD (nextS t 10240 p b)).1) 0 (pl + chunk.count 10) (colOf pc chunk) (bufV (splitD (nextS t 10240 p b)).2)) (txO t (p + ((t.drop p).take 10240).length)) rest) := by
  obtain ⟨L', e⟩ := x141b (F := F) (d := d) (sx := sx) (x0 := x0) (tx := txO t (p + ((t.drop p).take 10240).length)) (pl := pl + chunk.count 10) (pc := colOf pc chunk) (z := (hS x0 (smO chunk off pl pc (bufV b)) (txO t p) rest).length) (v41 := .int (10240 : Nat)) (rest := rest) (b := b) (T := (t.drop p).take 10240) hi hr hT
  exact fn_ex (fl := .ret _) rfl rfl ⟨L', Eq.trans (x141a hp hc) e⟩ rfl
end
end PL
end
section
namespace PL
open Builtin.Str StrLaws
theorem tw_app {p : Nat → Bool} : ∀ (a b : List Nat), (a ++ b).takeWhile p = if (a.takeWhile p).length = a.length then a ++ b.takeWhile p else a.takeWhile p
  | [], b => by simp
  | x :: r, b => by
    rw [List.cons_append, List.takeWhile_cons, List.takeWhile_cons]
    cases hx : p x with
    | false => simp
    | true =>
      simp only [if_true, List.length_cons, Nat.add_right_cancel_iff]
      rw [tw_app r b]
      split <;> rfl
theorem tw_pre {p : Nat → Bool} : ∀ (l : List Nat), l.take (l.takeWhile p).length = l.takeWhile p
  | [] => rfl
  | x :: r => by
    rw [List.takeWhile_cons]
    cases hx : p x with
    | false => simp
    | true => simp [tw_pre r]
inductive SvO (t m : List Nat) : O → O → Nat → Prop
  | mk {chunk : List Nat} {off : Nat} {buf : Option Nat} {p : Nat} {pre rst : List Nat} : off ≤ chunk.length → chunk.length ≤ LIM → m = pre ++ (chunk ++ rst) → Md (buf.toList ++ t.drop p) rst → p ≤ t.length → SvO t m (smO chunk off (pre.count 10) (colOf 0 pre) (bufV buf)) (txO t p) (pre.length + off)
noncomputable def CldR (x0 : O) (rest : List O) : Prop := ∀ s, oMap (rv s (rest.length + 6)) x0 = x0 ∧ rest.map (oMap (rv s (rest.length + 6))) = rest
theorem rv_low {s : St} {a n : Nat} (h : a < n) : rv s n (.ref a) = .ref a := by
  show (bif Nat.blt a n then V.ref a else _) = _
  rw [show Nat.blt a n = true from Nat.ble_eq_true_of_le h]; rfl
theorem rv_buf {s : St} {n : Nat} (b : Option Nat) : rv s n (bufV b) = bufV b := by cases b <;> rfl
theorem cld_hS {x0 sm tx : O} {rest : List O} {t m : List Nat} {k : Nat} (h : SvO t m sm tx k) (hR : CldR x0 rest) : Cld (hS x0 sm tx rest) := fun s => by
  cases h with | @mk chunk off buf p pre rst _ _ _ _ _ =>
  have r2 : ∀ a, a < 6 → rv s (rest.length + 6) (.ref a) = .ref a := fun a ha => rv_low (Nat.lt_of_lt_of_le ha (Nat.le_add_left _ _))
  show oMap (rv s (rest.length + 6)) x0 :: O.inst 166 [(52, rv s (rest.length + 6) (.ref 2)), (67, rv s (rest.length + 6) (.ref 3)), (48, rv s (rest.length + 6) (.ref 4)), _, _, _, (77, rv s (rest.length + 6) (.ref 5)), _, _, (50, rv s (rest.length + 6) (bufV buf))] :: .meth 148 (rv s (rest.length + 6) (.ref 1)) :: _ :: _ :: _ :: rest.map (oMap (rv s (rest.length + 6))) = _
  rw [(hR s).1, (hR s).2, r2 2 (by decide), r2 3 (by decide), r2 4 (by decide), r2 5 (by decide), r2 1 (by decide), rv_buf]
  rfl
theorem drop_chunk {t : List Nat} {p n : Nat} : t.drop (p + ((t.drop p).take n).length) = (t.drop p).drop n := by
  rw [List.drop_drop, List.length_take]
  by_cases h : n ≤ (t.drop p).length
  · rw [Nat.min_eq_left h]
  · have h := Nat.le_of_not_le h
    rw [Nat.min_eq_right h, ← List.drop_drop, List.drop_eq_nil_of_le (Nat.le_refl _), ← List.drop_drop, List.drop_eq_nil_of_le h]
theorem read_le {t : List Nat} {p n : Nat} (hp : p ≤ t.length) : p + ((t.drop p).take n).length ≤ t.length := by
  rw [List.length_take, List.length_drop]; lia
section
variable {F d : Nat} {sx : List (Nat × O)} {x0 sm tx : O} {rest : List O} {t m : List Nat} {k : Nat}
theorem sv_position (H : SvO t m sm tx k) : runF (L4.pr sx) F (d + 2) 126 [.ref 1] (hS x0 sm tx rest) = some (.frz (plc (m.take k)), hS x0 sm tx rest) := by
  cases H with | @mk chunk off buf p pre rst ho hc hm hr hp =>
  have e : m.take (pre.length + off) = pre ++ chunk.take off := by
    rw [hm, List.take_length_add_append, List.take_append_of_le_length ho]
  rw [x126 ho hc, e]
  unfold plc
  rw [List.count_append, colOf_app]
theorem sv_step {chunk pre rst : List Nat} {buf : Option Nat} {p : Nat} (n : Nat) (hp : p ≤ t.length) (hr : Md (buf.toList ++ t.drop p) rst) : rst = mend (splitD (nextS t n p buf)).1 ++ ((splitD (nextS t n p buf)).2.toList ++ (t.drop p).drop n).map (fun x => if x = 13 then 10 else x) ∧
    Md ((splitD (nextS t n p buf)).2.toList ++ t.drop (p + ((t.drop p).take n).length)) (((splitD (nextS t n p buf)).2.toList ++ (t.drop p).drop n).map (fun x => if x = 13 then 10 else x)) ∧ (rep2 (splitD (nextS t n p buf)).1).length ≤ LIM ∧ (nextS t n p buf).length ≤ LIM ∧ (∀ c ∈ (splitD (nextS t n p buf)).1, inv c = false) ∧ (mend (splitD (nextS t n p buf)).1).length ≤ LIM := by
  obtain ⟨g1, g2, g3, g4, g5, g6⟩ := hr.step (n := n)
  rw [drop_chunk]
  exact ⟨g1, g2, g3, Nat.le_trans g4 (by decide), g5, g6⟩
theorem sv_chunk {chunk pre rst : List Nat} {off p : Nat} {buf : Option Nat} (hc : chunk.length ≤ LIM) (hr : Md (buf.toList ++ t.drop p) rst) (hp : p ≤ t.length) : ∃ chunk' buf' p' rst',
    runF (L4.pr sx) F (d + 3) 141 [.ref 1] (hS x0 (smO chunk off (pre.count 10) (colOf 0 pre) (bufV buf)) (txO t p) rest) = some (.bool (!rst.isEmpty), hS x0 (smO chunk' 0 ((pre ++ chunk).count 10) (colOf 0 (pre ++ chunk)) (bufV buf')) (txO t p') rest) ∧ (rst ≠ [] → chunk' ≠ []) ∧ chunk'.length ≤ LIM ∧ rst = chunk' ++ rst' ∧ Md (buf'.toList ++ t.drop p') rst' ∧ p' ≤ t.length := by
  obtain ⟨g1, g2, g3, g4, g5, g6⟩ := sv_step (chunk := chunk) (pre := pre) 10240 hp hr
  have hn : (nextS t 10240 p buf).isEmpty = rst.isEmpty := by
    rw [hr.2.2.2]
    unfold nextS
    cases buf with
    | some y => rfl
    | none => cases t.drop p <;> rfl
  refine ⟨_, _, _, _, ?_, ?_, g6, g1, g2, read_le hp⟩
  · rw [x141 hp hc g5 g3 g4, hn, List.count_append, ← colOf_app]
  · intro hne e
    have h3 : nextS t 10240 p buf ≠ [] := by
      intro e2
      rw [e2] at hn
      exact hne (List.isEmpty_iff.mp hn.symm)
    have h4 := splitD_ne h3
    have h5 : noPair 13 10 (splitD (nextS t 10240 p buf)).1 = true := by
      have e : buf.toList ++ t.drop p = (splitD (nextS t 10240 p buf)).1 ++ ((splitD (nextS t 10240 p buf)).2.toList ++ (t.drop p).drop 10240) := by
        unfold nextS
        rw [← List.append_assoc, splitD_cat, List.append_assoc, List.take_append_drop]
      have := hr.1
      rw [e] at this
      exact (noPair_app 13 10 _ _ this).1
    rw [mend_eq h5] at e
    exact h4 (List.map_eq_nil_iff.mp e)
theorem sv_first {n : Nat} (hm : Md t m) : ∃ sm tx v, runF (L4.pr sx) F (d + 3) 141 [.ref 1, .int (n : Nat)] (hS x0 (smO [] 0 0 0 .none) (txO t 0) rest) = some (v, hS x0 sm tx rest) ∧ SvO t m sm tx 0 := by
  obtain ⟨g1, g2, g3, g4, g5, g6⟩ := sv_step (t := t) (chunk := []) (pre := []) (p := 0) (buf := none) n (Nat.zero_le _) hm
  exact ⟨_, _, _, x141n (b := none) (Nat.zero_le _) (Nat.zero_le _) g5 g3 g4, .mk (pre := []) (Nat.zero_le _) g6 g1 g2 (read_le (Nat.zero_le _))⟩
theorem char_at {chunk : List Nat} {off pl pc x : Nat} {buf : V} {z : Nat} (hx : chunk[off]? = some x) : ∃ L', evSs (cxOf (L4.pr sx) F (runF (L4.pr sx) F d)) (L4.f133.drop 1) z [(34, .ref 1)] (hS x0 (smO chunk off pl pc buf) tx rest) = some (.ret (.str [x]), L', hS x0 (smO chunk (off + 1) pl pc buf) tx rest) := by
  have ho : off < chunk.length := (List.getElem?_eq_some_iff.mp hx).1
  have h21 : evE (cxOf (L4.pr sx) F (runF (L4.pr sx) F d)) (.sub (.attr (.loc 34) 46) (.loc 47)) [(34, .ref 1), (47, .int (off : Nat))] (hS x0 (smO chunk off pl pc buf) tx rest) = some (.str [x], hS x0 (smO chunk off pl pc buf) tx rest) := by
    show Option.map _ (((idxOf chunk.length (off : Nat)).bind _)) = _
    have : idxOf chunk.length (off : Nat) = some off := by
      unfold idxOf
      rw [if_pos (Int.natCast_nonneg _), Int.toNat_natCast, if_pos ho]
    rw [this, Option.bind_some, hx]; rfl
  apply Exists.intro
  refine (asgL (v := .int (off : Nat)) (σ1 := hS x0 (smO chunk off pl pc buf) tx rest) ?_).trans ?_
  · rfl
  refine (asgL h21).trans ?_
  rfl
noncomputable def nxt (m : List Nat) (k : Nat) : Nat := match m[k]? with | some _ => k + 1 | none => k
theorem sv_char (H : SvO t m sm tx k) : ∃ sm' tx', runF (L4.pr sx) F (d + 4) 133 [.ref 1] (hS x0 sm tx rest) = some (bufV m[k]?, hS x0 sm' tx' rest) ∧ SvO t m sm' tx' (nxt m k) := by
  cases H with | @mk chunk off buf p pre rst ho hc hm hr hp =>
  have ht : evT (cxOf (L4.pr sx) F (runF (L4.pr sx) F (d + 3))) (.cmp .ge (.attr (.loc 34) 47) (.attr (.loc 34) 41)) [(34, .ref 1)] (hS x0 (smO chunk off (pre.count 10) (colOf 0 pre) (bufV buf)) (txO t p) rest) = some (decide (((chunk.length : Nat) : Int) ≤ (off : Nat)), hS x0 (smO chunk off (pre.count 10) (colOf 0 pre) (bufV buf)) (txO t p) rest) := rfl
  unfold nxt
  by_cases hlt : off < chunk.length
  · rw [decide_eq_false (by lia)] at ht
    have hx : chunk[off]? = some chunk[off] := List.getElem?_eq_getElem hlt
    have hk : m[pre.length + off]? = some chunk[off] := by
      rw [hm, List.getElem?_append_right (Nat.le_add_right _ _), Nat.add_sub_cancel_left, List.getElem?_append_left hlt]; exact hx
    obtain ⟨L', e⟩ := char_at (F := F) (d := d + 3) (sx := sx) (x0 := x0) (tx := txO t p) (rest := rest) (pl := pre.count 10) (pc := colOf 0 pre) (buf := bufV buf) (z := rest.length + 6) hx
    rw [hk]
    exact ⟨_, _, fn_ex (fl := .ret (.str [chunk[off]])) (σ' := hS x0 (smO chunk (off + 1) (pre.count 10) (colOf 0 pre) (bufV buf)) (txO t p) rest) rfl rfl ⟨L', (ifN ht).trans e⟩ rfl, .mk (off := off + 1) hlt hc hm hr hp⟩
  · obtain rfl : off = chunk.length := Nat.le_antisymm ho (Nat.le_of_not_lt hlt)
    rw [decide_eq_true (Int.le_refl _)] at ht
    obtain ⟨chunk', buf', p', rst', e1, hne, hc1, e2, hr1, hp1⟩ := sv_chunk (F := F) (d := d) (sx := sx) (x0 := x0) (rest := rest) (off := chunk.length) (pre := pre) hc hr hp
    have ht2 : evT (cxOf (L4.pr sx) F (runF (L4.pr sx) F (d + 3))) (.notE (.meth (.loc 34) 14 [])) [(34, .ref 1)] (hS x0 (smO chunk chunk.length (pre.count 10) (colOf 0 pre) (bufV buf)) (txO t p) rest) = some (rst.isEmpty, hS x0 (smO chunk' 0 ((pre ++ chunk).count 10) (colOf 0 (pre ++ chunk)) (bufV buf')) (txO t p') rest) := by
      have e1 : evE (cxOf (L4.pr sx) F (runF (L4.pr sx) F (d + 3))) (.meth (.loc 34) 14 []) [(34, .ref 1)] (hS x0 (smO chunk chunk.length (pre.count 10) (colOf 0 pre) (bufV buf)) (txO t p) rest) = _ := e1
      rw [evT_notE, tv_meth, e1]
      show some (!!rst.isEmpty, _) = _
      rw [Bool.not_not]
    have hd : m.drop (pre.length + chunk.length) = rst := by rw [hm, ← List.append_assoc, List.drop_left' List.length_append]
    have hk : m[pre.length + chunk.length]? = rst[0]? := by rw [← hd, List.getElem?_drop, Nat.add_zero]
    have hl : pre.length + chunk.length = (pre ++ chunk).length := List.length_append.symm
    rw [hk]
    have h0 := (ifT (r := L4.f133.drop 1) (b := [.ifs (.notE (.meth (.loc 34) 14 [])) [.ret (.glob .none)] []]) (o := []) (z := rest.length + 6) ht)
    cases rst with
    | nil =>
      obtain ⟨rfl, rfl⟩ := List.append_eq_nil_iff.mp e2.symm
      refine ⟨_, _, fn_ex (fl := .ret .none) (σ' := hS x0 (smO [] 0 ((pre ++ chunk).count 10) (colOf 0 (pre ++ chunk)) (bufV buf')) (txO t p') rest) rfl rfl ⟨[(34, .ref 1)], h0.trans ?_⟩ rfl, ?_⟩
      · rw [ifT ht2]; rfl
      · show SvO t m _ _ (pre.length + chunk.length)
        rw [hl]
        exact .mk (pre := pre ++ chunk) (chunk := []) (off := 0) (rst := []) (Nat.zero_le _) hc1 (by rw [hm, List.append_nil, List.append_nil, List.append_nil]) hr1 hp1
    | cons y r =>
      cases chunk' with
      | nil => exact absurd rfl (hne (List.cons_ne_nil _ _))
      | cons y' r' =>
        obtain rfl := (List.cons.inj e2).1
        obtain ⟨L', e⟩ := char_at (F := F) (d := d + 3) (sx := sx) (x0 := x0) (tx := txO t p') (rest := rest) (chunk := y :: r') (off := 0) (pl := (pre ++ chunk).count 10) (pc := colOf 0 (pre ++ chunk)) (buf := bufV buf') (z := rest.length + 6) rfl
        refine ⟨_, _, fn_ex (fl := .ret (.str [y])) (σ' := hS x0 (smO (y :: r') 1 ((pre ++ chunk).count 10) (colOf 0 (pre ++ chunk)) (bufV buf')) (txO t p') rest) rfl rfl ⟨L', h0.trans (Eq.trans ?_ e)⟩ rfl, ?_⟩
        · rw [ifN ht2]; rfl
        · show SvO t m _ _ (pre.length + chunk.length + 1)
          rw [hl]
          exact .mk (pre := pre ++ chunk) (chunk := y :: r') (off := 1) (Nat.succ_le_succ (Nat.zero_le _)) hc1 (by rw [hm, e2, List.append_assoc]) hr1 hp1
end
end PL
end
section
namespace PL
open Builtin.Str StrLaws
noncomputable def lettersL : List Nat := [97, 98, 99, 100, 101, 102, 103, 104, 105, 106, 107, 108, 109, 110, 111, 112, 113, 114, 115, 116, 117, 118, 119, 120, 121, 122, 65, 66, 67, 68, 69, 70, 71, 72, 73, 74, 75, 76, 77, 78, 79, 80, 81, 82, 83, 84, 85, 86, 87, 88, 89, 90]
theorem inL_one (c : Nat) : ∀ l : List Nat, inL (.str [c]) (l.map fun x => V.str [x]) = some (l.contains c)
  | [] => rfl
  | x :: r => by
    show (some (([x] : List Nat) == [c])).bind _ = _
    rw [Option.bind_some, inL_one c r, List.contains_cons, Option.map_some]
    have : (([x] : List Nat) == [c]) = (c == x) := by
      by_cases h : c = x
      · subst h; rw [beq_self_eq_true, beq_self_eq_true]
      · rw [beq_false_of_ne h, beq_false_of_ne fun e => h (List.cons.inj e).1.symm]
    rw [this]
noncomputable def lt (x : Nat) : Bool := lettersL.contains x
theorem in_letters {F : Nat} {call} {sx : List (Nat × O)} {σ : St} (x : Nat) : cmpV (cxOf (L4.pr sx) F call) σ .isin (.str [x]) (.sref 27) = some (lt x) := inL_one x lettersL
theorem set_last {o o' : O} : ∀ {rest : List O}, (rest ++ [o]).set rest.length o' = rest ++ [o']
  | [] => rfl
  | x :: r => congrArg (x :: ·) set_last
section
variable {F d : Nat} {sx : List (Nat × O)} {x0 sm tx : O} {rest : List O} {t m : List Nat} {k : Nat}
noncomputable def uL (N : Nat) (L9 : Loc) : Loc := (34, .ref 1) :: (79, .sref 27) :: (80, .bool true) :: (78, .ref N) :: L9
noncomputable def uT : PE := .andE (.cmp .ne (.loc 9) (.attr (.loc 34) 41)) (.cmp .eq (.cmp .isin (.sub (.attr (.loc 34) 46) (.loc 9)) (.loc 79)) (.loc 80))
theorem ut_at {chunk : List Nat} {off pl pc j x N : Nat} {buf : V} (hx : chunk[j]? = some x) : evT (cxOf (L4.pr sx) F (runF (L4.pr sx) F d)) uT (uL N [(9, .int (j : Nat))]) (hS x0 (smO chunk off pl pc buf) tx rest) = some (lt x, hS x0 (smO chunk off pl pc buf) tx rest) := by
  have hj : j < chunk.length := (List.getElem?_eq_some_iff.mp hx).1
  have h1 : evT (cxOf (L4.pr sx) F (runF (L4.pr sx) F d)) (.cmp .ne (.loc 9) (.attr (.loc 34) 41)) (uL N [(9, .int (j : Nat))]) (hS x0 (smO chunk off pl pc buf) tx rest) = some (!((j : Int) == (chunk.length : Nat)), hS x0 (smO chunk off pl pc buf) tx rest) := rfl
  have h2 : evE (cxOf (L4.pr sx) F (runF (L4.pr sx) F d)) (.sub (.attr (.loc 34) 46) (.loc 9)) (uL N [(9, .int (j : Nat))]) (hS x0 (smO chunk off pl pc buf) tx rest) = some (.str [x], hS x0 (smO chunk off pl pc buf) tx rest) := by
    show Option.map _ (((idxOf chunk.length (j : Nat)).bind _)) = _
    have : idxOf chunk.length (j : Nat) = some j := by
      unfold idxOf
      rw [if_pos (Int.natCast_nonneg _), Int.toNat_natCast, if_pos hj]
    rw [this, Option.bind_some, hx]; rfl
  unfold uT
  refine andT1 (h1.trans (by rw [show ((j : Int) == (chunk.length : Nat)) = false from beq_false_of_ne (by lia)]; rfl)) ?_
  refine cmpT (cmpE h2 (b := .sref 27) rfl (in_letters x)) (b := .bool true) rfl ?_
  show some (lt x == true) = _
  rw [beq_true]
theorem ut_end {chunk : List Nat} {off pl pc N : Nat} {buf : V} : evT (cxOf (L4.pr sx) F (runF (L4.pr sx) F d)) uT (uL N [(9, .int (chunk.length : Nat))]) (hS x0 (smO chunk off pl pc buf) tx rest) = some (false, hS x0 (smO chunk off pl pc buf) tx rest) := by
  have h1 : evT (cxOf (L4.pr sx) F (runF (L4.pr sx) F d)) (.cmp .ne (.loc 9) (.attr (.loc 34) 41)) (uL N [(9, .int (chunk.length : Nat))]) (hS x0 (smO chunk off pl pc buf) tx rest) = some (!((chunk.length : Int) == (chunk.length : Nat)), hS x0 (smO chunk off pl pc buf) tx rest) := rfl
  unfold uT
  rw [evT_andE, h1, beq_self_eq_true]; rfl
theorem until_in {chunk : List Nat} {off pl pc N z : Nat} {buf : V} : ∀ (w : List Nat) (j k : Nat), chunk.drop j = w → w.length < k → j ≤ chunk.length → whileL (fun L s => evT (cxOf (L4.pr sx) F (runF (L4.pr sx) F d)) uT L s) (fun L s => evSs (cxOf (L4.pr sx) F (runF (L4.pr sx) F d)) [.augL 9 .add (.const (.int 1))] z L s) k (uL N [(9, .int (j : Nat))]) (hS x0 (smO chunk off pl pc buf) tx rest) =
    some (.next, uL N [(9, .int ((j + (w.takeWhile lt).length : Nat)))], hS x0 (smO chunk off pl pc buf) tx rest)
  | _, _, 0, _, h, _ => absurd h (Nat.not_lt_zero _)
  | [], j, k + 1, hw, _, hj => by
    obtain rfl : j = chunk.length := Nat.le_antisymm hj (List.drop_eq_nil_iff.mp hw)
    rw [whileL_succ, ut_end]; rfl
  | x :: w, j, k + 1, hw, hk, hj => by
    have hx : chunk[j]? = some x := by
      have : (chunk.drop j)[0]? = some x := by rw [hw]; rfl
      simpa using this
    have hj' := (List.getElem?_eq_some_iff.mp hx).1
    have hw' : chunk.drop (j + 1) = w := by rw [← List.drop_drop, hw]; rfl
    rw [whileL_succ, ut_at hx, Option.bind_some, List.takeWhile_cons]
    cases lt x with
    | false => rfl
    | true =>
      refine Eq.trans (until_in w (j + 1) k hw' (Nat.lt_of_succ_lt_succ hk) hj') ?_
      rw [Nat.add_assoc, Nat.add_comm 1]; rfl
theorem hS_get {l : O} : (hS x0 sm tx (rest ++ [l]))[rest.length + 6]? = some l := lk_last (σ := rest)
theorem hS_set {l l' : O} : (hS x0 sm tx (rest ++ [l])).set (rest.length + 6) l' = hS x0 sm tx (rest ++ [l']) := congrArg (fun r => x0 :: sm :: O.meth 148 (.ref 1) :: O.list [.int 0] :: tx :: O.list [] :: r) set_last
inductive UI (x0 : O) (rest : List O) (t m : List Nat) (k : Nat) : Nat → Loc → St → Prop
  | mk {chunk : List Nat} {off : Nat} {buf : Option Nat} {p : Nat} {pre rst : List Nat} {parts : List (List Nat)} {L9 : Loc} : (L9 = [] ∨ ∃ v, L9 = [(9, v)]) → off ≤ chunk.length → chunk.length ≤ LIM → m = pre ++ (chunk ++ rst) → Md (buf.toList ++ t.drop p) rst → p ≤ t.length →
    parts.length + rst.length ≤ 1000 → pre.length + off = k + parts.flatten.length → (m.drop k).takeWhile lt = parts.flatten ++ (m.drop (pre.length + off)).takeWhile lt →
    UI x0 rest t m k rst.length (uL (rest.length + 6) L9) (hS x0 (smO chunk off (pre.count 10) (colOf 0 pre) (bufV buf)) (txO t p) (rest ++ [.list (parts.map .str)]))
inductive UE (x0 : O) (rest : List O) (t m : List Nat) (k : Nat) : Fl → Loc → St → Prop
  | mk {sm tx : O} {parts : List (List Nat)} {L9 : Loc} : parts.flatten = (m.drop k).takeWhile lt → SvO t m sm tx (k + ((m.drop k).takeWhile lt).length) → UE x0 rest t m k .next (uL (rest.length + 6) L9) (hS x0 sm tx (rest ++ [.list (parts.map .str)]))
theorem cut_end {α : Type} {l : List α} {i : Nat} (h : i ≤ l.length) : cut l (clampI l.length (i : Nat)) l.length = l.drop i := by
  unfold cut clampI
  rw [if_neg (by lia), Int.toNat_natCast, Nat.min_eq_left h, List.take_of_length_le (by rw [List.length_drop]; exact Nat.le_refl _)]
theorem cut_mid {α : Type} {l : List α} {i j : Nat} (h : i + j ≤ l.length) : cut l (clampI l.length (i : Nat)) (clampI l.length ((i + j : Nat) : Int)) = (l.drop i).take j := by
  unfold cut clampI
  rw [if_neg (by lia), if_neg (by lia), Int.toNat_natCast, Int.toNat_natCast, Nat.min_eq_left h, Nat.min_eq_left (Nat.le_trans (Nat.le_add_right _ _) h), Nat.add_sub_cancel_left]
theorem addpart {parts : List (List Nat)} {q : List Nat} : O.list (parts.map V.str ++ [.str q]) = .list ((parts ++ [q]).map V.str) := by rw [List.map_append]; rfl
theorem until_tail {chunk : List Nat} {off : Nat} {buf : Option Nat} {p : Nat} {pre rst : List Nat} {parts : List (List Nat)} {v9 : V} {z : Nat} (ho : off ≤ chunk.length) (hc : chunk.length ≤ LIM) (hm : m = pre ++ (chunk ++ rst)) (hr : Md (buf.toList ++ t.drop p) rst) (hp : p ≤ t.length)
    (hpn : parts.length + rst.length ≤ 1000) (hk : pre.length + off = k + parts.flatten.length) (htw : (m.drop k).takeWhile lt = parts.flatten ++ (m.drop (pre.length + off)).takeWhile lt)
    (htw2 : (m.drop (pre.length + off)).takeWhile lt = chunk.drop off ++ rst.takeWhile lt) :
    OutS (evSs (cxOf (L4.pr sx) F (runF (L4.pr sx) F (d + 3))) [.expr (.append (.loc 78) (.slice (.attr (.loc 34) 46) (.attr (.loc 34) 47) (.const .none))), .ifs (.notE (.meth (.loc 34) 14 [])) [.brk] []] z (uL (rest.length + 6) [(9, v9)]) (hS x0 (smO chunk off (pre.count 10) (colOf 0 pre) (bufV buf)) (txO t p) (rest ++ [.list (parts.map .str)])))
      (Lp (UE x0 rest t m k) fun L2 σ2 => ∃ n, n < rst.length ∧ UI x0 rest t m k n L2 σ2) := by
  have h1 : evE (cxOf (L4.pr sx) F (runF (L4.pr sx) F (d + 3))) (.slice (.attr (.loc 34) 46) (.attr (.loc 34) 47) (.const .none)) (uL (rest.length + 6) [(9, v9)]) (hS x0 (smO chunk off (pre.count 10) (colOf 0 pre) (bufV buf)) (txO t p) (rest ++ [.list (parts.map .str)])) = some (.str (chunk.drop off), hS x0 (smO chunk off (pre.count 10) (colOf 0 pre) (bufV buf)) (txO t p) (rest ++ [.list (parts.map .str)])) := by
    rw [← cut_end ho]; rfl
  have h2 := appE (c := cxOf (L4.pr sx) F (runF (L4.pr sx) F (d + 3))) (l := .loc 78) (a := rest.length + 6) (L := uL (rest.length + 6) [(9, v9)]) rfl hS_get h1 hS_get (by rw [List.length_map]; exact Nat.le_trans (Nat.le_trans (Nat.le_add_right _ _) hpn) (by decide)) (hS_set.trans (by rw [addpart]))
  obtain ⟨chunk', buf', p', rst', e1, hne, hc1, e2, hr1, hp1⟩ := sv_chunk (F := F) (d := d) (sx := sx) (x0 := x0) (rest := rest ++ [.list ((parts ++ [chunk.drop off]).map .str)]) (off := off) (pre := pre) hc hr hp
  have e1 : evE (cxOf (L4.pr sx) F (runF (L4.pr sx) F (d + 3))) (.meth (.loc 34) 14 []) (uL (rest.length + 6) [(9, v9)]) (hS x0 (smO chunk off (pre.count 10) (colOf 0 pre) (bufV buf)) (txO t p) (rest ++ [.list ((parts ++ [chunk.drop off]).map .str)])) = _ := e1
  have h3 : evT (cxOf (L4.pr sx) F (runF (L4.pr sx) F (d + 3))) (.notE (.meth (.loc 34) 14 [])) (uL (rest.length + 6) [(9, v9)]) (hS x0 (smO chunk off (pre.count 10) (colOf 0 pre) (bufV buf)) (txO t p) (rest ++ [.list ((parts ++ [chunk.drop off]).map .str)])) = some (!!rst.isEmpty, _) := notT (by rw [tv_meth, e1]; rfl)
  have hfl : (parts ++ [chunk.drop off]).flatten = parts.flatten ++ chunk.drop off := by rw [List.flatten_append, List.flatten_cons, List.flatten_nil, List.append_nil]
  have hlen : pre.length + chunk.length = k + (parts ++ [chunk.drop off]).flatten.length := by
    rw [hfl, List.length_append, List.length_drop]; lia
  have htw3 : (m.drop k).takeWhile lt = (parts ++ [chunk.drop off]).flatten ++ rst.takeWhile lt := by
    rw [htw, htw2, hfl, List.append_assoc]
  have hmd : m.drop (pre.length + chunk.length) = rst := by rw [hm, ← List.append_assoc, List.drop_left' List.length_append]
  have hl : pre.length + chunk.length = (pre ++ chunk).length := List.length_append.symm
  rw [exprS h2]
  cases rst with
  | nil =>
    obtain ⟨rfl, rfl⟩ := List.append_eq_nil_iff.mp e2.symm
    rw [ifT h3]
    rw [List.takeWhile_nil, List.append_nil] at htw3
    refine ⟨.brk, _, _, rfl, .mk htw3.symm ?_⟩
    rw [htw3, ← hlen, hl]
    exact .mk (pre := pre ++ chunk) (chunk := []) (off := 0) (rst := []) (Nat.zero_le _) hc1 (by rw [hm, List.append_nil, List.append_nil, List.append_nil]) hr1 hp1
  | cons y r =>
    rw [ifN h3]
    have hlt : rst'.length < (y :: r).length := by
      have : chunk' ≠ [] := hne (List.cons_ne_nil _ _)
      rw [e2, List.length_append]
      exact Nat.lt_add_of_pos_left (List.length_pos_iff.mpr this)
    refine ⟨.next, _, _, rfl, rst'.length, hlt, .mk (pre := pre ++ chunk) (.inr ⟨_, rfl⟩) (Nat.zero_le _) hc1 (by rw [hm, e2, List.append_assoc]) hr1 hp1 ?_ (by rw [← hlen, hl]; rfl) ?_⟩
    · rw [List.length_append]
      exact Nat.le_trans (by rw [Nat.add_assoc, Nat.add_comm _ rst'.length]; exact Nat.add_le_add_left hlt _) hpn
    · rw [htw3, Nat.add_zero, ← hl, hmd]
noncomputable def uB : List PS := match (L4.f156[1]? : Option PS) with | some (PS.whiles _ b) => b | _ => []
theorem until_body {n z : Nat} {L : Loc} {σ : St} (hF : 1000 < F) (hm1 : m.length ≤ 1000) (h : UI x0 rest t m k n L σ) : OutS (evSs (cxOf (L4.pr sx) F (runF (L4.pr sx) F (d + 3))) uB z L σ) (Lp (UE x0 rest t m k) fun L2 σ2 => ∃ n', n' < n ∧ UI x0 rest t m k n' L2 σ2) := by
  cases h with | @mk chunk off buf p pre rst parts L9 h9 ho hc hm hr hp hpn hk htw =>
  have cl : chunk.length ≤ m.length := by rw [hm, List.length_append, List.length_append]; lia
  have e9 : putK 9 (.int (off : Nat)) (uL (rest.length + 6) L9) = uL (rest.length + 6) [(9, .int (off : Nat))] := by
    rcases h9 with rfl | ⟨v, rfl⟩ <;> rfl
  have e0 := asgL (c := cxOf (L4.pr sx) F (runF (L4.pr sx) F (d + 3))) (i := 9) (e := .attr (.loc 34) 47) (r := uB.drop 1) (z := z) (L := uL (rest.length + 6) L9) (σ := hS x0 (smO chunk off (pre.count 10) (colOf 0 pre) (bufV buf)) (txO t p) (rest ++ [.list (parts.map .str)])) (v := .int (off : Nat)) (σ1 := hS x0 (smO chunk off (pre.count 10) (colOf 0 pre) (bufV buf)) (txO t p) (rest ++ [.list (parts.map .str)])) rfl
  rw [e9] at e0
  have e1 := until_in (F := F) (d := d + 3) (sx := sx) (x0 := x0) (tx := txO t p) (rest := rest ++ [.list (parts.map .str)]) (off := off) (pl := pre.count 10) (pc := colOf 0 pre) (N := rest.length + 6) (z := z) (buf := bufV buf) (chunk.drop off) off (cxOf (L4.pr sx) F (runF (L4.pr sx) F (d + 3))).fuel rfl (by show _ < F; rw [List.length_drop]; lia) ho
  have e2 : evSs (cxOf (L4.pr sx) F (runF (L4.pr sx) F (d + 3))) (uB.drop 1) z (uL (rest.length + 6) [(9, .int (off : Nat))]) (hS x0 (smO chunk off (pre.count 10) (colOf 0 pre) (bufV buf)) (txO t p) (rest ++ [.list (parts.map .str)])) = evSs (cxOf (L4.pr sx) F (runF (L4.pr sx) F (d + 3))) (uB.drop 2) z (uL (rest.length + 6) [(9, .int ((off + ((chunk.drop off).takeWhile lt).length : Nat)))]) (hS x0 (smO chunk off (pre.count 10) (colOf 0 pre) (bufV buf)) (txO t p) (rest ++ [.list (parts.map .str)])) := by
    show evSs _ (.whiles uT [.augL 9 .add (.const (.int 1))] :: uB.drop 2) _ _ _ = _
    rw [evSs_cons, evS_whiles, e1]; rfl
  have hb : evSs (cxOf (L4.pr sx) F (runF (L4.pr sx) F (d + 3))) uB z (uL (rest.length + 6) L9) (hS x0 (smO chunk off (pre.count 10) (colOf 0 pre) (bufV buf)) (txO t p) (rest ++ [.list (parts.map .str)])) = _ := e0.trans e2
  rw [hb]
  clear hb e2 e1 e0 e9 h9
  have hdrop : m.drop (pre.length + off) = chunk.drop off ++ rst := by
    rw [hm, ← List.drop_drop, List.drop_left, List.drop_append_of_le_length ho]
  have hqt := tw_pre (p := lt) (chunk.drop off)
  have hql := (List.takeWhile_sublist (p := lt) (l := chunk.drop off)).length_le
  have htw2 := tw_app (p := lt) (chunk.drop off) rst
  rw [← hdrop, List.length_drop] at htw2
  generalize (chunk.drop off).takeWhile lt = q at hqt hql htw2 ⊢
  rw [List.length_drop] at hql
  have t1 : evT (cxOf (L4.pr sx) F (runF (L4.pr sx) F (d + 3))) (.cmp .eq (.loc 9) (.attr (.loc 34) 47)) (uL (rest.length + 6) [(9, .int ((off + q.length : Nat)))]) (hS x0 (smO chunk off (pre.count 10) (colOf 0 pre) (bufV buf)) (txO t p) (rest ++ [.list (parts.map .str)])) = some (((off + q.length : Nat) : Int) == (off : Nat), hS x0 (smO chunk off (pre.count 10) (colOf 0 pre) (bufV buf)) (txO t p) (rest ++ [.list (parts.map .str)])) := rfl
  have t2 : evT (cxOf (L4.pr sx) F (runF (L4.pr sx) F (d + 3))) (.cmp .ne (.attr (.loc 34) 47) (.attr (.loc 34) 41)) (uL (rest.length + 6) [(9, .int ((off + q.length : Nat)))]) (hS x0 (smO chunk off (pre.count 10) (colOf 0 pre) (bufV buf)) (txO t p) (rest ++ [.list (parts.map .str)])) = some (!((off : Int) == (chunk.length : Nat)), hS x0 (smO chunk off (pre.count 10) (colOf 0 pre) (bufV buf)) (txO t p) (rest ++ [.list (parts.map .str)])) := rfl
  have t3 : evT (cxOf (L4.pr sx) F (runF (L4.pr sx) F (d + 3))) (.cmp .ne (.loc 9) (.attr (.loc 34) 41)) (uL (rest.length + 6) [(9, .int ((off + q.length : Nat)))]) (hS x0 (smO chunk off (pre.count 10) (colOf 0 pre) (bufV buf)) (txO t p) (rest ++ [.list (parts.map .str)])) = some (!(((off + q.length : Nat) : Int) == (chunk.length : Nat)), hS x0 (smO chunk off (pre.count 10) (colOf 0 pre) (bufV buf)) (txO t p) (rest ++ [.list (parts.map .str)])) := rfl
  rw [show uB.drop 2 = .ifs (.cmp .eq (.loc 9) (.attr (.loc 34) 47)) [.ifs (.cmp .ne (.attr (.loc 34) 47) (.attr (.loc 34) 41)) [.brk] []] [.ifs (.cmp .ne (.loc 9) (.attr (.loc 34) 41)) [.expr (.append (.loc 78) (.slice (.attr (.loc 34) 46) (.attr (.loc 34) 47) (.loc 9))), .assign (.a (.loc 34) 47) (.loc 9), .brk] []] :: uB.drop 3 from rfl]
  by_cases hq : q.length = 0
  · rw [show (((off + q.length : Nat) : Int) == (off : Nat)) = true from beq_iff_eq.mpr (by lia)] at t1
    rw [ifT t1]
    by_cases ho2 : off = chunk.length
    · rw [if_pos (by lia)] at htw2
      rw [show ((off : Int) == (chunk.length : Nat)) = true from beq_iff_eq.mpr (by lia)] at t2
      rw [ifN t2]
      exact until_tail ho hc hm hr hp hpn hk htw htw2
    · rw [if_neg (by lia), List.eq_nil_of_length_eq_zero hq] at htw2
      rw [show ((off : Int) == (chunk.length : Nat)) = false from beq_false_of_ne (by lia)] at t2
      rw [ifT t2]
      rw [htw2, List.append_nil] at htw
      refine ⟨.brk, _, _, rfl, .mk htw.symm ?_⟩
      rw [htw, ← hk]
      exact .mk ho hc hm hr hp
  · rw [show (((off + q.length : Nat) : Int) == (off : Nat)) = false from beq_false_of_ne (by lia)] at t1
    rw [ifF t1]
    by_cases ho2 : off + q.length = chunk.length
    · rw [if_pos (by lia)] at htw2
      rw [show (((off + q.length : Nat) : Int) == (chunk.length : Nat)) = true from beq_iff_eq.mpr (by lia)] at t3
      rw [ifN t3]
      exact until_tail ho hc hm hr hp hpn hk htw htw2
    · rw [if_neg (by lia)] at htw2
      rw [show (((off + q.length : Nat) : Int) == (chunk.length : Nat)) = false from beq_false_of_ne (by lia)] at t3
      rw [ifT t3]
      have h1 : evE (cxOf (L4.pr sx) F (runF (L4.pr sx) F (d + 3))) (.slice (.attr (.loc 34) 46) (.attr (.loc 34) 47) (.loc 9)) (uL (rest.length + 6) [(9, .int ((off + q.length : Nat)))]) (hS x0 (smO chunk off (pre.count 10) (colOf 0 pre) (bufV buf)) (txO t p) (rest ++ [.list (parts.map .str)])) = some (.str q, hS x0 (smO chunk off (pre.count 10) (colOf 0 pre) (bufV buf)) (txO t p) (rest ++ [.list (parts.map .str)])) := by
        have := cut_mid (l := chunk) (i := off) (j := q.length) (by lia)
        rw [hqt] at this
        exact Eq.trans (b := some (V.str (cut chunk (clampI chunk.length (off : Nat)) (clampI chunk.length ((off + q.length : Nat) : Int))), hS x0 (smO chunk off (pre.count 10) (colOf 0 pre) (bufV buf)) (txO t p) (rest ++ [.list (parts.map .str)]))) rfl (by rw [this])
      rw [exprS (appE (c := cxOf (L4.pr sx) F (runF (L4.pr sx) F (d + 3))) (l := .loc 78) (a := rest.length + 6) (L := uL (rest.length + 6) [(9, .int ((off + q.length : Nat)))]) rfl hS_get h1 hS_get (by rw [List.length_map]; exact Nat.le_trans (Nat.le_trans (Nat.le_add_right _ _) hpn) (by decide)) (hS_set.trans (by rw [addpart])))]
      have hfl : (parts ++ [q]).flatten = (m.drop k).takeWhile lt := by rw [List.flatten_append, List.flatten_cons, List.flatten_nil, List.append_nil, htw, htw2]
      refine ⟨.brk, _, _, rfl, .mk hfl ?_⟩
      rw [← hfl, show k + (parts ++ [q]).flatten.length = pre.length + (off + q.length) by rw [List.flatten_append, List.flatten_cons, List.flatten_nil, List.append_nil, List.length_append]; lia]
      exact .mk (off := off + q.length) (by lia) hc hm hr hp
theorem sv_until (hF : 1000 < F) (hm1 : m.length ≤ 1000) (H : SvO t m sm tx k) (hR : CldR x0 rest) : ∃ sm' tx', runF (L4.pr sx) F (d + 4) 156 [.ref 1, .sref 27, .bool true] (hS x0 sm tx rest) = some (.str ((m.drop k).takeWhile lt), hS x0 sm' tx' rest) ∧ SvO t m sm' tx' (k + ((m.drop k).takeWhile lt).length) := by
  have h0 : ∃ n, n < F ∧ UI x0 rest t m k n (uL (rest.length + 6) []) (hS x0 sm tx (rest ++ [.list []])) := by
    cases H with | @mk chunk off buf p pre rst ho hc hm hr hp =>
    have : rst.length ≤ m.length := by rw [hm, List.length_append, List.length_append]; lia
    exact ⟨rst.length, by lia, .mk (parts := []) (.inl rfl) ho hc hm hr hp (by rw [List.length_nil]; lia) rfl rfl⟩
  obtain ⟨n, hn, h0⟩ := h0
  obtain ⟨fl, L', σ', e, hE⟩ := whileL_rule (test := fun L s => evT (cxOf (L4.pr sx) F (runF (L4.pr sx) F (d + 3))) (.const (.bool true)) L s) (body := fun L s => evSs (cxOf (L4.pr sx) F (runF (L4.pr sx) F (d + 3))) uB (rest.length + 6) L s) (K := UE x0 rest t m k) (UI x0 rest t m k) (fun n L σ h => ⟨true, σ, rfl, until_body hF hm1 h⟩) (cxOf (L4.pr sx) F (runF (L4.pr sx) F (d + 3))).fuel n _ _ hn h0
  cases hE with | @mk sm' tx' parts L9 hfl hS' =>
  have hle : ((m.drop k).takeWhile lt).length ≤ LIM := by
    have := (List.takeWhile_sublist (p := lt) (l := m.drop k)).length_le
    rw [List.length_drop] at this
    exact Nat.le_trans this (Nat.le_trans (Nat.sub_le _ _) (Nat.le_trans hm1 (by decide)))
  refine ⟨sm', tx', ?_, hS'⟩
  have hj : evE (cxOf (L4.pr sx) F (runF (L4.pr sx) F (d + 3))) (.join [] (.loc 78)) (uL (rest.length + 6) L9) (hS x0 sm' tx' (rest ++ [.list (parts.map .str)])) = some (.str ((m.drop k).takeWhile lt), hS x0 sm' tx' (rest ++ [.list (parts.map .str)])) := by
    have := joinV_eq (c := cxOf (L4.pr sx) F (runF (L4.pr sx) F (d + 3))) (v := .ref (rest.length + 6)) (σ := hS x0 sm' tx' (rest ++ [O.list (parts.map V.str)])) (ps := parts) (show (hS x0 sm' tx' (rest ++ [.list (parts.map .str)]))[rest.length + 6]? = _ from hS_get) (by rw [hfl]; exact hle)
    rw [hfl] at this
    exact this
  have e1 : evSs (cxOf (L4.pr sx) F (runF (L4.pr sx) F (d + 3))) L4.f156 (rest.length + 6) [(34, .ref 1), (79, .sref 27), (80, .bool true)] (hS x0 sm tx rest) = evSs (cxOf (L4.pr sx) F (runF (L4.pr sx) F (d + 3))) (L4.f156.drop 2) (rest.length + 6) (uL (rest.length + 6) L9) (hS x0 sm' tx' (rest ++ [.list (parts.map .str)])) := by
    refine (asgL (v := .ref (rest.length + 6)) (σ1 := hS x0 sm tx (rest ++ [.list []])) ?_).trans ?_
    · rfl
    show evSs _ (.whiles (.const (.bool true)) uB :: L4.f156.drop 2) _ _ _ = _
    rw [evSs_cons, evS_whiles]
    exact congrArg (fun x => Option.bind x fun (f, L1, σ1) => match f with | .next => evSs (cxOf (L4.pr sx) F (runF (L4.pr sx) F (d + 3))) (L4.f156.drop 2) (rest.length + 6) L1 σ1 | f => some (f, L1, σ1)) e
  refine fn_ex (fl := .ret (.str ((m.drop k).takeWhile lt))) rfl rfl ⟨gcL (hS x0 sm' tx' (rest ++ [.list (parts.map .str)])) (rest.length + 6) (putK 81 (.str ((m.drop k).takeWhile lt)) (uL (rest.length + 6) L9)), e1.trans ?_⟩ rfl
  rw [show L4.f156.drop 2 = [.assign (.l 81) (.join [] (.loc 78)), .retf (.loc 81)] from rfl, asgL hj, retF' (getE gk_eq)]
  rw [show gcS (hS x0 sm' tx' (rest ++ [.list (parts.map .str)])) (rest.length + 6) = hS x0 sm' tx' rest from gcS_app (cld_hS hS' hR)]
  rfl
end
end PL
end
section
namespace PL
open Builtin.Str StrLaws
section
variable {c : Cx} {L L1 : Loc} {σ σ1 σ2 σ3 : St} {z : Nat} {r : List PS} {t e i : PE} {b o : List PS}
theorem ifFn (ht : evT c t L σ = some (false, σ1)) (ho : evSs c o z L σ1 = some (.next, L1, σ2)) : evSs c (.ifs t b o :: r) z L σ = evSs c r z L1 σ2 := by rw [ifF ht, ho]; rfl
theorem ifTn (ht : evT c t L σ = some (true, σ1)) (ho : evSs c b z L σ1 = some (.next, L1, σ2)) : evSs c (.ifs t b o :: r) z L σ = evSs c r z L1 σ2 := by rw [ifT ht, ho]; rfl
theorem asgS {v ov iv : V} (h1 : evE c e L σ = some (v, σ1)) (h2 : evE c t L σ1 = some (ov, σ2)) (h3 : evE c i L σ2 = some (iv, σ2)) (h4 : setSubV ov iv v σ2 = some σ3) : evSs c (.assign (.s t i) e :: r) z L σ = evSs c r z L σ3 := by
  rw [evSs_cons, evS_assign, h1, Option.bind_some]
  show (((asgT c (.s t i) v L σ1).map _).bind _) = _
  rw [asgT_s, h2, Option.bind_some]
  show ((((evE c i L σ2).bind _).map _).bind _) = _
  rw [h3, Option.bind_some]
  show ((((setSubV ov iv v σ2).map _).map _).bind _) = _
  rw [h4]; rfl
theorem augS {v w ov iv u : V} {op : BOp} {σ4 : St} (h2 : evE c t L σ = some (ov, σ)) (h3 : evE c i L σ = some (iv, σ)) (h5 : subV c σ ov iv = some w) (h1 : evE c e L σ = some (v, σ2)) (h6 : iopV c op w v σ2 = some (u, σ3)) (h4 : setSubV ov iv u σ3 = some σ4) : evSs c (.augS t i op e :: r) z L σ = evSs c r z L σ4 := by
  rw [evSs_cons, evS_augS, h2, Option.bind_some]
  show (((evE c i L σ).bind _).bind _) = _
  rw [h3, Option.bind_some]
  show (((subV c σ ov iv).bind _).bind _) = _
  rw [h5, Option.bind_some, h1, Option.bind_some]
  show (((iopV c op w v σ2).bind _).bind _) = _
  rw [h6, Option.bind_some]
  show (((setSubV ov iv u σ3).map _).bind _) = _
  rw [h4]; rfl
end
noncomputable def Fz (vs : List V) : Prop := ∀ s n, vs.map (rv s n) = vs
theorem Fz.nil : Fz [] := fun qq1 qq2 => rfl
theorem Fz.snoc {vs : List V} {o : O} (h : Fz vs) : Fz (vs ++ [.frz o]) := fun s n => by rw [List.map_append, h s n]; rfl
theorem Fz.frz {l : List O} : Fz (l.map V.frz) := fun s n => by rw [List.map_map]; rfl
theorem subLast {vs : List V} {x : V} : subO (.list (vs ++ [x])) (.int (-1)) = some x := by
  show (idxOf (vs ++ [x]).length (-1)).bind (fun j => (vs ++ [x])[j]?) = some x
  rw [idx_last (by rw [List.length_append]; exact Nat.succ_pos _), Option.bind_some, List.length_append]
  exact List.getElem?_concat_length
noncomputable def sName : List Nat := [110, 97, 109, 101]
noncomputable def sClose : List Nat := [115, 101, 108, 102, 67, 108, 111, 115, 105, 110, 103]
noncomputable def tkD (ty : Int) (title : List Nat) (data : V) (cl : Bool) : List (List Nat × V) := [(sType, .int ty), (sName, .str title), (sData, data), (sClose, .bool cl)]
noncomputable def rdO (st cur : V) : O := .inst 762 [(13, .ref 1), (35, .none), (36, .bool false), (37, .ref 6), (38, st), (40, .bool false), (19, cur), (12, .ref 7)]
noncomputable def h13 (st : V) (sm tx : O) (qs ds dl : List V) (ty : Int) (title : List Nat) (cl : Bool) (rs : List V) (nm : List Nat) (vv : List Nat) (ex : List O) : St :=
  hS (rdO st (.ref 10)) sm tx (.list [] :: .list qs :: .list ds :: .list dl :: .dict (tkD ty title (.ref 9) cl) :: .list rs :: .list [.str nm, .str vv] :: ex)
noncomputable def cpE : PE := .sub (.sub (.attr (.loc 34) 19) (.const (.str [100, 97, 116, 97]))) (.neg (.const (.int 1)))
section
variable {F d : Nat} {sx : List (Nat × O)} {sm tx sm' tx' : O} {t m : List Nat} {k z : Nat} {st : V} {qs ds ps rs : List V} {ty : Int} {title nm vv x w : List Nat} {cl : Bool} {ex : List O} {L : Loc} {e : PE} {r : List PS}
theorem cp_eq (hL : getK 34 L = some (.ref 0)) : evE (cxOf (L4.pr sx) F (runF (L4.pr sx) F d)) cpE L (h13 st sm tx qs ds (ps ++ [V.ref 12]) ty title cl rs nm vv ex) = some (.ref 12, h13 st sm tx qs ds (ps ++ [V.ref 12]) ty title cl rs nm vv ex) := by
  have h1 : evE (cxOf (L4.pr sx) F (runF (L4.pr sx) F d)) (.attr (.loc 34) 19) L (h13 st sm tx qs ds (ps ++ [V.ref 12]) ty title cl rs nm vv ex) = some (.ref 10, h13 st sm tx qs ds (ps ++ [V.ref 12]) ty title cl rs nm vv ex) := by
    rw [evE_attr, getE hL]; rfl
  exact subE (subE h1 (b := .str sData) rfl (v := .ref 9) rfl) (b := .int (-1)) rfl subLast
theorem more (hL : getK 34 L = some (.ref 0)) (he : evE (cxOf (L4.pr sx) F (runF (L4.pr sx) F d)) e L (h13 st sm tx qs ds (ps ++ [V.ref 12]) ty title cl rs nm vv ex) = some (.str x, h13 st sm' tx' qs ds (ps ++ [V.ref 12]) ty title cl rs nm vv ex)) (hl : nm.length + x.length ≤ LIM) :
    evSs (cxOf (L4.pr sx) F (runF (L4.pr sx) F d)) (.augS cpE (.const (.int 0)) .add e :: r) z L (h13 st sm tx qs ds (ps ++ [V.ref 12]) ty title cl rs nm vv ex) = evSs (cxOf (L4.pr sx) F (runF (L4.pr sx) F d)) r z L (h13 st sm' tx' qs ds (ps ++ [V.ref 12]) ty title cl rs (nm ++ x) vv ex) :=
  augS (op := .add) (cp_eq hL) (iv := .int 0) rfl (w := .str nm) rfl he (u := .str (nm ++ x)) (σ3 := h13 st sm' tx' qs ds (ps ++ [V.ref 12]) ty title cl rs nm vv ex) (if_pos hl) (σ4 := h13 st sm' tx' qs ds (ps ++ [V.ref 12]) ty title cl rs (nm ++ x) vv ex) rfl
noncomputable def errE (w : List Nat) : PE := .dictE [[116, 121, 112, 101], [100, 97, 116, 97]] [(.sub (.glob (.sref 48)) (.const (.str [80, 97, 114, 115, 101, 69, 114, 114, 111, 114]))), (.const (.str w))]
theorem gc13 {st : V} {s : SvO t m sm tx k} (hq : Fz ds) (hr : Fz rs) : gcS (h13 st sm tx qs ds (ps ++ [V.ref 12]) ty title cl rs nm vv ex) 13 = h13 (rv (h13 st sm tx qs ds (ps ++ [V.ref 12]) ty title cl rs nm vv ex) 13 st) sm tx (qs.map (rv (h13 st sm tx qs ds (ps ++ [V.ref 12]) ty title cl rs nm vv ex) 13)) ds (ps.map (rv (h13 st sm tx qs ds (ps ++ [V.ref 12]) ty title cl rs nm vv ex) 13) ++ [V.ref 12]) ty title cl rs nm vv [] := by
  generalize hf : rv (h13 st sm tx qs ds (ps ++ [V.ref 12]) ty title cl rs nm vv ex) 13 = f
  have h1 : oMap f sm = sm ∧ oMap f tx = tx := by
    subst hf
    cases s with | @mk chunk off buf p pre rst _ _ _ _ _ =>
    refine ⟨?_, rfl⟩
    show O.inst 166 [_, _, _, _, _, _, _, _, _, (50, rv _ 13 (bufV buf))] = _
    rw [rv_buf]; rfl
  have h2 : ds.map f = ds := hf ▸ hq _ _
  have h3 : rs.map f = rs := hf ▸ hr _ _
  have h4 : (ps ++ [V.ref 12]).map f = ps.map f ++ [V.ref 12] := by rw [List.map_append, ← hf]; rfl
  have : gcS (h13 st sm tx qs ds (ps ++ [V.ref 12]) ty title cl rs nm vv ex) 13 = hS (rdO (f st) (.ref 10)) (oMap f sm) (oMap f tx) [O.list [], .list (qs.map f), .list (ds.map f), .list ((ps ++ [V.ref 12]).map f), .dict (tkD ty title (.ref 9) cl), .list (rs.map f), .list [.str nm, .str vv]] := by
    subst hf; rfl
  rw [this, h1.1, h1.2, h2, h3, h4]; rfl
end
end PL
end
section
namespace PL
open Builtin.Str StrLaws
theorem binE {c : Cx} {L : Loc} {σ σ1 σ2 σ3 : St} {l r : PE} {op : BOp} {a b v : V} (h1 : evE c l L σ = some (a, σ1)) (h2 : evE c r L σ1 = some (b, σ2)) (h3 : binV c op a b σ2 = some (v, σ3)) : evE c (.bin op l r) L σ = some (v, σ3) := by
  rw [evE_bin, h1, Option.bind_some]
  show (evE c r L σ1).bind _ = _
  rw [h2]; exact h3
theorem methE {c : Cx} {L : Loc} {σ σ1 σ2 σ3 : St} {e : PE} {es : List PE} {a cl g mm : Nat} {fs : List (Nat × V)} {vs : List V} {v : V} (h1 : evE c e L σ = some (.ref a, σ1)) (hg : σ1[a]? = some (.inst cl fs)) (hk : getK mm fs = none) (hm : c.clsm cl mm = some g) (h2 : evEs c es L σ1 = some (vs, σ2)) (h3 : c.call g (.ref a :: vs) σ2 = some (v, σ3)) : evE c (.meth e mm es) L σ = some (v, σ3) := by
  rw [evE_meth, h1, Option.bind_some]
  show (σ1[a]?).bind _ = _
  rw [hg, Option.bind_some]
  show (match getK mm fs with | some v => fldCall c cl mm v σ1 (evEs c es L) | none => clsCall c cl mm (.ref a) σ1 (evEs c es L)) = _
  rw [hk]
  show (c.clsm cl mm).bind _ = _
  rw [hm, Option.bind_some]
  show (evEs c es L σ1).bind _ = _
  rw [h2]; exact h3
theorem sm_inst {t m : List Nat} {sm tx : O} {k : Nat} (S : SvO t m sm tx k) : ∃ fs, sm = .inst 166 fs ∧ ∀ i ∈ [14, 21, 23, 60], getK i fs = none := by
  cases S
  exact ⟨_, rfl, by intro i hi; rcases List.mem_cons.mp hi with rfl | hi; rfl; rcases List.mem_cons.mp hi with rfl | hi; rfl; rcases List.mem_cons.mp hi with rfl | hi; rfl; rcases List.mem_cons.mp hi with rfl | hi; rfl; cases hi⟩
theorem sm_call {t m : List Nat} {sm tx : O} {k : Nat} (S : SvO t m sm tx k) {c : Cx} {L : Loc} {σ σ1 σ2 σ3 : St} {e : PE} {es : List PE} {g mm : Nat} {vs : List V} {v : V} (h1 : evE c e L σ = some (.ref 1, σ1)) (hg : σ1[1]? = some sm) (hi : mm ∈ [14, 21, 23, 60]) (hm : c.clsm 166 mm = some g) (h2 : evEs c es L σ1 = some (vs, σ2)) (h3 : c.call g (.ref 1 :: vs) σ2 = some (v, σ3)) : evE c (.meth e mm es) L σ = some (v, σ3) := by
  obtain ⟨fs, q, hk⟩ := sm_inst S
  exact methE h1 (hg.trans (congrArg some q)) (hk mm hi) hm h2 h3
noncomputable def wInv : List Nat := [105, 110, 118, 97, 108, 105, 100, 45, 99, 111, 100, 101, 112, 111, 105, 110, 116]
noncomputable def wChr : List Nat := [105, 110, 118, 97, 108, 105, 100, 45, 99, 104, 97, 114, 97, 99, 116, 101, 114, 45, 105, 110, 45, 97, 116, 116, 114, 105, 98, 117, 116, 101, 45, 110, 97, 109, 101]
noncomputable def wDup : List Nat := [100, 117, 112, 108, 105, 99, 97, 116, 101, 45, 97, 116, 116, 114, 105, 98, 117, 116, 101]
section
variable {F d : Nat} {sx : List (Nat × O)} {sm tx : O} {t m : List Nat} {k : Nat} {qs ds ps rs : List V} {ty : Int} {title nm vv : List Nat} {cl : Bool}
theorem cld13 (hq : Fz qs) (hd : Fz ds) (hp : Fz ps) (hr : Fz rs) : CldR (rdO .bad (.ref 10)) [.list [], .list qs, .list ds, .list (ps ++ [V.ref 12]), .dict (tkD ty title (.ref 9) cl), .list rs, .list [.str nm, .str vv]] := fun s => by
  refine ⟨rfl, ?_⟩
  show [O.list [], .list (qs.map _), .list (ds.map _), .list ((ps ++ [V.ref 12]).map _), .dict (tkD ty title (.ref 9) cl), .list (rs.map _), .list [.str nm, .str vv]] = _
  rw [hq s, hd s, hr s, List.map_append, hp s]; rfl
theorem x542s (H : SvO t m sm tx k) : ∃ sm' tx', SvO t m sm' tx' (nxt m k) ∧ evSs (cxOf (L4.pr sx) F (runF (L4.pr sx) F (d + 4))) L4.f542 13 [(34, .ref 0)] (h13 .bad sm tx qs ds (ps ++ [V.ref 12]) ty title cl rs nm vv []) =
    evSs (cxOf (L4.pr sx) F (runF (L4.pr sx) F (d + 4))) (L4.f542.drop 3) 13 [(34, .ref 0), (29, bufV m[k]?), (57, .bool true), (58, .bool false)] (h13 .bad sm' tx' qs ds (ps ++ [V.ref 12]) ty title cl rs nm vv []) := by
  obtain ⟨sm', tx', e, S⟩ := sv_char (F := F) (d := d) (sx := sx) (x0 := rdO .bad (.ref 10)) (rest := [.list [], .list qs, .list ds, .list (ps ++ [V.ref 12]), .dict (tkD ty title (.ref 9) cl), .list rs, .list [.str nm, .str vv]]) H
  refine ⟨sm', tx', S, (asgL (v := bufV m[k]?) (σ1 := h13 .bad sm' tx' qs ds (ps ++ [V.ref 12]) ty title cl rs nm vv []) ?_).trans rfl⟩
  exact sm_call H rfl rfl (by decide) rfl rfl e
theorem x542e {v29 : V} (S : SvO t m sm tx k) (hq : Fz qs) (hd : Fz ds) (hp : Fz ps) (hr : Fz rs) : ∃ L', evSs (cxOf (L4.pr sx) F (runF (L4.pr sx) F (d + 4))) (L4.f542.drop 4) 13 [(34, .ref 0), (29, v29), (57, .bool false), (58, .bool false)] (h13 .bad sm tx qs ds (ps ++ [V.ref 12]) ty title cl rs nm vv []) =
    some (.ret (.bool true), L', h13 .bad sm tx qs ds (ps ++ [V.ref 12]) ty title cl rs nm vv []) := by
  apply Exists.intro
  refine (ifN (σ1 := h13 .bad sm tx qs ds (ps ++ [V.ref 12]) ty title cl rs nm vv []) rfl).trans ((retF' (v := .bool true) (σ1 := h13 .bad sm tx qs ds (ps ++ [V.ref 12]) ty title cl rs nm vv []) rfl).trans ?_)
  rw [gc13 (s := S) hd hr, hq, hp]; rfl
theorem x542L {c : Nat} (hF : 1000 < F) (hm1 : m.length ≤ 1000) (hn : nm.length ≤ 10) (H : SvO t m sm tx k) (hq : Fz qs) (hd : Fz ds) (hp : Fz ps) (hr : Fz rs) (hc : m[k]? = some c) (hl : lt c = true) (h61 : c ≠ 61) : ∃ sm' tx', SvO t m sm' tx' (k + 1 + ((m.drop (k + 1)).takeWhile lt).length) ∧
    runF (L4.pr sx) F (d + 5) 542 [.ref 0] (h13 .bad sm tx qs ds (ps ++ [V.ref 12]) ty title cl rs nm vv []) = some (.bool true, h13 .bad sm' tx' qs ds (ps ++ [V.ref 12]) ty title cl rs (nm ++ c :: (m.drop (k + 1)).takeWhile lt) vv []) := by
  obtain ⟨sm1, tx1, S1, e1⟩ := x542s (F := F) (d := d) (sx := sx) (qs := qs) (ds := ds) (ps := ps) (ty := ty) (title := title) (cl := cl) (rs := rs) (nm := nm) (vv := vv) H
  have S1 : SvO t m sm1 tx1 (k + 1) := by unfold nxt at S1; rw [hc] at S1; exact S1
  rw [hc] at e1
  obtain ⟨sm2, tx2, e2, S2⟩ := sv_until (F := F) (d := d) (sx := sx) hF hm1 S1 (cld13 (ty := ty) (title := title) (cl := cl) (nm := nm) (vv := vv) hq hd hp hr)
  have hle : ((m.drop (k + 1)).takeWhile lt).length ≤ 1000 := by
    have := (List.takeWhile_sublist (p := lt) (l := m.drop (k + 1))).length_le
    rw [List.length_drop] at this
    lia
  have he : evE (cxOf (L4.pr sx) F (runF (L4.pr sx) F (d + 4))) (.bin .add (.loc 29) (.meth (.attr (.loc 34) 13) 60 [.glob (.sref 27), .const (.bool true)])) [(34, .ref 0), (29, .str [c]), (57, .bool true), (58, .bool false)] (h13 .bad sm1 tx1 qs ds (ps ++ [V.ref 12]) ty title cl rs nm vv []) = some (.str (c :: (m.drop (k + 1)).takeWhile lt), h13 .bad sm2 tx2 qs ds (ps ++ [V.ref 12]) ty title cl rs nm vv []) :=
    binE (a := .str [c]) rfl (b := .str ((m.drop (k + 1)).takeWhile lt)) (σ2 := h13 .bad sm2 tx2 qs ds (ps ++ [V.ref 12]) ty title cl rs nm vv []) (sm_call S1 rfl rfl (by decide) rfl rfl e2) (if_pos (by show 1 + _ ≤ 100000; lia : [c].length + ((m.drop (k + 1)).takeWhile lt).length ≤ LIM))
  obtain ⟨L', e3⟩ := x542e (F := F) (d := d) (sx := sx) (v29 := .str [c]) (ty := ty) (title := title) (cl := cl) (nm := nm ++ c :: (m.drop (k + 1)).takeWhile lt) (vv := vv) S2 hq hd hp hr
  refine ⟨sm2, tx2, S2, fn_ex (fl := .ret (.bool true)) rfl rfl ⟨L', e1.trans (Eq.trans (ifFn (σ1 := h13 .bad sm1 tx1 qs ds (ps ++ [V.ref 12]) ty title cl rs nm vv []) (L1 := [(34, .ref 0), (29, .str [c]), (57, .bool false), (58, .bool false)]) (σ2 := h13 .bad sm2 tx2 qs ds (ps ++ [V.ref 12]) ty title cl rs (nm ++ c :: (m.drop (k + 1)).takeWhile lt) vv []) ?_ ?_) e3)⟩ rfl⟩
  · exact (show _ = some (([c] : List Nat) == [61], _) from rfl).trans (by rw [show (([c] : List Nat) == [61]) = false from beq_false_of_ne fun e => h61 (List.cons.inj e).1])
  · refine (ifTn (σ1 := h13 .bad sm1 tx1 qs ds (ps ++ [V.ref 12]) ty title cl rs nm vv []) (L1 := [(34, .ref 0), (29, .str [c]), (57, .bool false), (58, .bool false)]) (σ2 := h13 .bad sm2 tx2 qs ds (ps ++ [V.ref 12]) ty title cl rs (nm ++ c :: (m.drop (k + 1)).takeWhile lt) vv []) ?_ ?_).trans rfl
    · exact (cmpT (a := .str [c]) rfl (b := .sref 27) rfl (in_letters c)).trans (by rw [hl])
    · exact (more rfl he (by show _ ≤ 100000; rw [List.length_cons]; lia)).trans rfl
end
end PL
end
section
namespace PL
open Builtin.Str StrLaws
section
variable {F d : Nat} {sx : List (Nat × O)} {sm tx : O} {t m : List Nat} {k : Nat} {qs ds ps rs : List V} {ty : Int} {title nm vv : List Nat} {cl : Bool}
theorem errS {v29 : V} {e : PE} {x w : List Nat} (hql : qs.length ≤ 1000) (hn : nm.length + x.length ≤ LIM)
    (he : evE (cxOf (L4.pr sx) F (runF (L4.pr sx) F (d + 4))) e [(34, .ref 0), (29, v29), (57, .bool true), (58, .bool false)] (h13 .bad sm tx (qs ++ [V.ref 13]) ds (ps ++ [V.ref 12]) ty title cl rs nm vv [errO w]) = some (.str x, h13 .bad sm tx (qs ++ [V.ref 13]) ds (ps ++ [V.ref 12]) ty title cl rs nm vv [errO w])) :
    evSs (cxOf (L4.pr sx) F (runF (L4.pr sx) F (d + 4))) [.expr (.append (.attr (.loc 34) 12) (errE w)), .augS cpE (.const (.int 0)) .add e, .assign (.l 57) (.const (.bool false))] 13 [(34, .ref 0), (29, v29), (57, .bool true), (58, .bool false)] (h13 .bad sm tx qs ds (ps ++ [V.ref 12]) ty title cl rs nm vv []) =
      some (.next, [(34, .ref 0), (29, v29), (57, .bool false), (58, .bool false)], h13 .bad sm tx (qs ++ [V.ref 13]) ds (ps ++ [V.ref 12]) ty title cl rs (nm ++ x) vv [errO w]) :=
  (exprS (appE (a := 7) rfl rfl (v := .ref 13) (σ2 := h13 .bad sm tx qs ds (ps ++ [V.ref 12]) ty title cl rs nm vv [errO w]) rfl rfl (Nat.le_trans hql (by decide)) (σ' := h13 .bad sm tx (qs ++ [V.ref 13]) ds (ps ++ [V.ref 12]) ty title cl rs nm vv [errO w]) rfl)).trans ((more rfl he hn).trans rfl)
theorem x542f {v29 : V} {w : List Nat} (S : SvO t m sm tx k) (hq : Fz qs) (hd : Fz ds) (hp : Fz ps) (hr : Fz rs) : ∃ L', evSs (cxOf (L4.pr sx) F (runF (L4.pr sx) F (d + 4))) (L4.f542.drop 4) 13 [(34, .ref 0), (29, v29), (57, .bool false), (58, .bool false)] (h13 .bad sm tx (qs ++ [V.ref 13]) ds (ps ++ [V.ref 12]) ty title cl rs nm vv [errO w]) =
    some (.ret (.bool true), L', h13 .bad sm tx (qs ++ [.frz (errO w)]) ds (ps ++ [V.ref 12]) ty title cl rs nm vv []) := by
  apply Exists.intro
  refine (ifN (σ1 := h13 .bad sm tx (qs ++ [V.ref 13]) ds (ps ++ [V.ref 12]) ty title cl rs nm vv [errO w]) rfl).trans ((retF' (v := .bool true) (σ1 := h13 .bad sm tx (qs ++ [V.ref 13]) ds (ps ++ [V.ref 12]) ty title cl rs nm vv [errO w]) rfl).trans ?_)
  rw [gc13 (s := S) hd hr, List.map_append, hq, hp]; rfl
theorem x542Q {c : Nat} {w : List Nat} (hcw : (c = 0 ∧ w = wInv) ∨ (c = 39 ∧ w = wChr)) (hn : nm.length ≤ 10) (hql : qs.length ≤ 1000) (H : SvO t m sm tx k) (hq : Fz qs) (hd : Fz ds) (hp : Fz ps) (hr : Fz rs) (hc : m[k]? = some c) : ∃ sm' tx', SvO t m sm' tx' (k + 1) ∧
    runF (L4.pr sx) F (d + 5) 542 [.ref 0] (h13 .bad sm tx qs ds (ps ++ [V.ref 12]) ty title cl rs nm vv []) = some (.bool true, h13 .bad sm' tx' (qs ++ [.frz (errO w)]) ds (ps ++ [V.ref 12]) ty title cl rs (nm ++ [zed c]) vv []) := by
  obtain ⟨sm1, tx1, S1, e1⟩ := x542s (F := F) (d := d) (sx := sx) (qs := qs) (ds := ds) (ps := ps) (ty := ty) (title := title) (cl := cl) (rs := rs) (nm := nm) (vv := vv) H
  have S1 : SvO t m sm1 tx1 (k + 1) := by unfold nxt at S1; rw [hc] at S1; exact S1
  rw [hc] at e1
  obtain ⟨L', e3⟩ := x542f (F := F) (d := d) (sx := sx) (v29 := .str [c]) (w := w) (ty := ty) (title := title) (cl := cl) (nm := nm ++ [zed c]) (vv := vv) S1 hq hd hp hr
  have hn2 : nm.length + 1 ≤ LIM := Nat.le_trans (Nat.succ_le_succ hn) (by decide)
  refine ⟨sm1, tx1, S1, fn_ex (fl := .ret (.bool true)) rfl rfl ⟨L', e1.trans (Eq.trans ?_ e3)⟩ rfl⟩
  rcases hcw with ⟨rfl, rfl⟩ | ⟨rfl, rfl⟩
  · have e2 := errS (F := F) (d := d) (sx := sx) (sm := sm1) (tx := tx1) (ds := ds) (ps := ps) (ty := ty) (title := title) (cl := cl) (rs := rs) (vv := vv) (v29 := .str [0]) (e := .const (.str [65533])) (x := [65533]) (w := wInv) hql hn2 rfl
    exact ifFn rfl ((ifFn rfl ((ifFn rfl ((ifFn rfl ((ifFn rfl ((ifTn rfl e2).trans rfl)).trans rfl)).trans rfl)).trans rfl)).trans rfl)
  · have e2 := errS (F := F) (d := d) (sx := sx) (sm := sm1) (tx := tx1) (ds := ds) (ps := ps) (ty := ty) (title := title) (cl := cl) (rs := rs) (vv := vv) (v29 := .str [39]) (e := .loc 29) (x := [39]) (w := wChr) hql hn2 rfl
    exact ifFn rfl ((ifFn rfl ((ifFn rfl ((ifFn rfl ((ifFn rfl ((ifFn rfl ((ifTn rfl e2).trans rfl)).trans rfl)).trans rfl)).trans rfl)).trans rfl)).trans rfl)
noncomputable def pairV (p : List Nat × List Nat) : V := .frz (.list [.str p.1, .str p.2])
theorem Fz.pairs {l : List (List Nat × List Nat)} : Fz (l.map pairV) := fun s n => by rw [List.map_map]; rfl
noncomputable def dupB : List PS := [.ifs (.cmp .eq (.sub cpE (.const (.int 0))) (.loc 8)) [.expr (.append (.attr (.loc 34) 12) (errE wDup)), .brk] []]
theorem dup_loop {a1 a2 a3 : O} (hql : qs.length ≤ 1000) : ∀ (l : List (List Nat × List Nat)) (L : Loc), getK 34 L = some (.ref 0) → ∃ L', getK 58 L' = getK 58 L ∧
    forL (fun v L s => bindFt (cxOf (L4.pr sx) F (runF (L4.pr sx) F (d + 4))) s (.many [8, 63]) v L) (fun s => stillV (cxOf (L4.pr sx) F (runF (L4.pr sx) F (d + 4))) (h13 (.ref 13) sm tx qs ds (ps ++ [V.ref 12]) ty title cl rs nm vv [a1, a2, a3]) s (.ref 15)) (fun L s => evSs (cxOf (L4.pr sx) F (runF (L4.pr sx) F (d + 4))) dupB 16 L s) (l.map pairV) L (h13 (.ref 13) sm tx qs ds (ps ++ [V.ref 12]) ty title cl rs nm vv [a1, a2, a3]) =
      some (.next, L', if (l.any fun p => p.1 == nm) = true then h13 (.ref 13) sm tx (qs ++ [V.ref 16]) ds (ps ++ [V.ref 12]) ty title cl rs nm vv [a1, a2, a3, errO wDup] else h13 (.ref 13) sm tx qs ds (ps ++ [V.ref 12]) ty title cl rs nm vv [a1, a2, a3])
  | [], L, h => ⟨L, rfl, forL_nil.trans (if_pos (still_iff.mpr rfl))⟩
  | p :: l, L, h => by
    have h34 : getK 34 (putK 63 (.str p.2) (putK 8 (.str p.1) L)) = some (.ref 0) := gk_ne (by decide) (gk_ne (by decide) h)
    have h8 : getK 8 (putK 63 (.str p.2) (putK 8 (.str p.1) L)) = some (.str p.1) := gk_ne (by decide) gk_eq
    have ht : evT (cxOf (L4.pr sx) F (runF (L4.pr sx) F (d + 4))) (.cmp .eq (.sub cpE (.const (.int 0))) (.loc 8)) (putK 63 (.str p.2) (putK 8 (.str p.1) L)) (h13 (.ref 13) sm tx qs ds (ps ++ [V.ref 12]) ty title cl rs nm vv [a1, a2, a3]) = some (nm == p.1, h13 (.ref 13) sm tx qs ds (ps ++ [V.ref 12]) ty title cl rs nm vv [a1, a2, a3]) :=
      cmpT (subE (cp_eq h34) (b := .int 0) rfl (v := .str nm) rfl) (getE h8) rfl
    have hb : bindFt (cxOf (L4.pr sx) F (runF (L4.pr sx) F (d + 4))) (h13 (.ref 13) sm tx qs ds (ps ++ [V.ref 12]) ty title cl rs nm vv [a1, a2, a3]) (.many [8, 63]) (pairV p) L = some (putK 63 (.str p.2) (putK 8 (.str p.1) L)) := rfl
    rw [List.map_cons, forL_cons, if_pos (still_iff.mpr rfl), List.any_cons, hb, Option.bind_some]
    rw [show (nm == p.1) = (p.1 == nm) from BEq.comm] at ht
    cases hq : p.1 == nm with
    | true =>
      rw [hq] at ht
      refine ⟨putK 63 (.str p.2) (putK 8 (.str p.1) L), (gk_ne (by decide) (gk_ne (by decide) rfl) : _ = _), ?_⟩
      have e : evSs (cxOf (L4.pr sx) F (runF (L4.pr sx) F (d + 4))) dupB 16 (putK 63 (.str p.2) (putK 8 (.str p.1) L)) (h13 (.ref 13) sm tx qs ds (ps ++ [V.ref 12]) ty title cl rs nm vv [a1, a2, a3]) = some (.brk, putK 63 (.str p.2) (putK 8 (.str p.1) L), h13 (.ref 13) sm tx (qs ++ [V.ref 16]) ds (ps ++ [V.ref 12]) ty title cl rs nm vv [a1, a2, a3, errO wDup]) := by
        have h12 : evE (cxOf (L4.pr sx) F (runF (L4.pr sx) F (d + 4))) (.attr (.loc 34) 12) (putK 63 (.str p.2) (putK 8 (.str p.1) L)) (h13 (.ref 13) sm tx qs ds (ps ++ [V.ref 12]) ty title cl rs nm vv [a1, a2, a3]) = some (.ref 7, h13 (.ref 13) sm tx qs ds (ps ++ [V.ref 12]) ty title cl rs nm vv [a1, a2, a3]) := by
          rw [evE_attr, getE h34]; rfl
        unfold dupB
        rw [ifT ht, exprS (appE h12 rfl (v := .ref 16) (σ2 := h13 (.ref 13) sm tx qs ds (ps ++ [V.ref 12]) ty title cl rs nm vv [a1, a2, a3, errO wDup]) rfl rfl (Nat.le_trans hql (by decide)) (σ' := h13 (.ref 13) sm tx (qs ++ [V.ref 16]) ds (ps ++ [V.ref 12]) ty title cl rs nm vv [a1, a2, a3, errO wDup]) rfl)]
        rfl
      rw [e]; rfl
    | false =>
      rw [hq] at ht
      obtain ⟨L', k1, e⟩ := dup_loop hql l _ h34
      refine ⟨L', k1.trans (gk_ne (by decide) (gk_ne (by decide) rfl)), ?_⟩
      rw [show evSs (cxOf (L4.pr sx) F (runF (L4.pr sx) F (d + 4))) dupB 16 (putK 63 (.str p.2) (putK 8 (.str p.1) L)) (h13 (.ref 13) sm tx qs ds (ps ++ [V.ref 12]) ty title cl rs nm vv [a1, a2, a3]) = some (.next, putK 63 (.str p.2) (putK 8 (.str p.1) L), h13 (.ref 13) sm tx qs ds (ps ++ [V.ref 12]) ty title cl rs nm vv [a1, a2, a3]) from (ifN ht).trans rfl, Option.bind_some]
      exact e
end
end PL
end
section
namespace PL
open Builtin.Str StrLaws
noncomputable def dupErr (kvs : List (List Nat × List Nat)) (n : List Nat) : List (List Nat) := if (kvs.any fun p => p.1 == n) = true then [wDup] else []
noncomputable def errV (w : List Nat) : V := .frz (errO w)
theorem Fz.errs {qs : List V} (h : Fz qs) (l : List (List Nat)) : Fz (qs ++ l.map errV) := fun s n => by rw [List.map_append, h s n, List.map_map]; rfl
section
variable {F d : Nat} {sx : List (Nat × O)} {sm tx : O} {t m : List Nat} {k : Nat} {qs ds rs : List V} {kvs : List (List Nat × List Nat)} {ty : Int} {title nm vv : List Nat} {cl : Bool} {v29 : V} {a1 a2 : O}
theorem slice_ps : evE (cxOf (L4.pr sx) F (runF (L4.pr sx) F (d + 4))) (.slice (.sub (.attr (.loc 34) 19) (.const (.str [100, 97, 116, 97]))) (.const .none) (.neg (.const (.int 1)))) [(34, .ref 0), (29, v29), (57, .bool true), (58, .bool false)] (h13 (.ref 13) sm tx qs ds (kvs.map pairV ++ [V.ref 12]) ty title cl rs nm vv [a1, a2]) =
    if kvs.length ≤ LIM then some (.ref 15, h13 (.ref 13) sm tx qs ds (kvs.map pairV ++ [V.ref 12]) ty title cl rs nm vv [a1, a2, .list (kvs.map pairV)]) else none := by
  have e := cut_last (kvs.map pairV ++ [V.ref 12]) (by rw [List.length_append]; exact Nat.succ_pos _)
  rw [List.dropLast_concat] at e
  refine Eq.trans (b := allocL (cut (kvs.map pairV ++ [V.ref 12]) 0 (clampI (kvs.map pairV ++ [V.ref 12]).length (-1))) (h13 (.ref 13) sm tx qs ds (kvs.map pairV ++ [V.ref 12]) ty title cl rs nm vv [a1, a2])) rfl ?_
  rw [e]
  unfold allocL
  rw [List.length_map]; rfl
theorem x542g {gi : Nat} (hk : kvs.length ≤ 10) (hn : nm.length ≤ 10) (hql : qs.length ≤ 1000) : ∃ L' a2, evSs (cxOf (L4.pr sx) F (runF (L4.pr sx) F (d + 4))) (L4.f542.drop 4) 13 [(34, .ref 0), (29, v29), (57, .bool true), (58, .bool false)] (h13 (.ref 13) sm tx qs ds (kvs.map pairV ++ [V.ref 12]) ty title cl rs nm vv [.meth gi (.ref 0)]) =
    evSs (cxOf (L4.pr sx) F (runF (L4.pr sx) F (d + 4))) (L4.f542.drop 5) 13 L' (if (kvs.any fun p => p.1 == nm.map low) = true then h13 (.ref 13) sm tx (qs ++ [V.ref 16]) ds (kvs.map pairV ++ [V.ref 12]) ty title cl rs (nm.map low) vv [.meth gi (.ref 0), a2, .list (kvs.map pairV), errO wDup] else h13 (.ref 13) sm tx qs ds (kvs.map pairV ++ [V.ref 12]) ty title cl rs (nm.map low) vv [.meth gi (.ref 0), a2, .list (kvs.map pairV)]) := by
  obtain ⟨L', k58, e⟩ := dup_loop (F := F) (d := d) (sx := sx) (sm := sm) (tx := tx) (ds := ds) (ps := kvs.map pairV) (ty := ty) (title := title) (cl := cl) (rs := rs) (nm := nm.map low) (vv := vv) (a1 := .meth gi (.ref 0)) (a2 := .list ((nm.map fun x => [low x]).map V.str)) (a3 := .list (kvs.map pairV)) hql kvs [(34, .ref 0), (29, v29), (57, .bool true), (58, .bool false)] rfl
  refine ⟨L', .list ((nm.map fun x => [low x]).map V.str), ifTn (σ1 := h13 (.ref 13) sm tx qs ds (kvs.map pairV ++ [V.ref 12]) ty title cl rs nm vv [.meth gi (.ref 0)]) rfl ?_⟩
  have h1 : evE (cxOf (L4.pr sx) F (runF (L4.pr sx) F (d + 4))) (.call 42 [.sub cpE (.const (.int 0))]) [(34, .ref 0), (29, v29), (57, .bool true), (58, .bool false)] (h13 (.ref 13) sm tx qs ds (kvs.map pairV ++ [V.ref 12]) ty title cl rs nm vv [.meth gi (.ref 0)]) = some (.str (nm.map low), h13 (.ref 13) sm tx qs ds (kvs.map pairV ++ [V.ref 12]) ty title cl rs nm vv [.meth gi (.ref 0), .list ((nm.map fun x => [low x]).map V.str)]) := by
    rw [evE_call, evEs_cons, subE (cp_eq rfl) (b := .int 0) rfl (v := .str nm) rfl]
    exact x42 (Nat.le_trans hn (by decide))
  refine (asgS h1 (cp_eq rfl) (iv := .int 0) rfl (σ3 := h13 (.ref 13) sm tx qs ds (kvs.map pairV ++ [V.ref 12]) ty title cl rs (nm.map low) vv [.meth gi (.ref 0), .list ((nm.map fun x => [low x]).map V.str)]) rfl).trans ?_
  rw [evSs_cons, evS_fors, slice_ps, if_pos (Nat.le_trans hk (by decide)), Option.bind_some]
  show (Option.bind (Option.bind (some (kvs.map pairV)) _) _) = _
  rw [Option.bind_some]
  refine Eq.trans (congrArg (fun x => Option.bind x _) e) ?_
  exact ifN (by rw [tv_loc, getE (k58.trans rfl)]; rfl)
theorem x542h {L : Loc} {gi : Nat} (S : SvO t m sm tx k) (hq : Fz qs) (hd : Fz ds) (hr : Fz rs) : ∃ L', evSs (cxOf (L4.pr sx) F (runF (L4.pr sx) F (d + 4))) (L4.f542.drop 5) 13 L (if (kvs.any fun p => p.1 == nm) = true then h13 (.ref 13) sm tx (qs ++ [V.ref 16]) ds (kvs.map pairV ++ [V.ref 12]) ty title cl rs nm vv [.meth gi (.ref 0), a1, a2, errO wDup] else h13 (.ref 13) sm tx qs ds (kvs.map pairV ++ [V.ref 12]) ty title cl rs nm vv [.meth gi (.ref 0), a1, a2]) =
    some (.ret (.bool true), L', h13 .bad sm tx (qs ++ (dupErr kvs nm).map errV) ds (kvs.map pairV ++ [V.ref 12]) ty title cl rs nm vv []) := by
  unfold dupErr
  cases (kvs.any fun p => p.1 == nm) with
  | true =>
    apply Exists.intro
    refine (retF' (v := .bool true) (σ1 := h13 (.ref 13) sm tx (qs ++ [V.ref 16]) ds (kvs.map pairV ++ [V.ref 12]) ty title cl rs nm vv [.meth gi (.ref 0), a1, a2, errO wDup]) rfl).trans ?_
    rw [gc13 (s := S) hd hr, List.map_append, hq, Fz.pairs]; rfl
  | false =>
    apply Exists.intro
    refine (retF' (v := .bool true) (σ1 := h13 (.ref 13) sm tx qs ds (kvs.map pairV ++ [V.ref 12]) ty title cl rs nm vv [.meth gi (.ref 0), a1, a2]) rfl).trans ?_
    rw [gc13 (s := S) hd hr, hq, Fz.pairs]
    rw [show ((if false = true then [wDup] else [] : List (List Nat)).map errV) = [] from rfl, List.append_nil]
    rfl
theorem x542A {c : Nat} (hc5 : c = 61 ∨ c = 47 ∨ c = 32 ∨ c = 10 ∨ c = 9) (hk : kvs.length ≤ 10) (hn : nm.length ≤ 10) (hql : qs.length ≤ 1000) (H : SvO t m sm tx k) (hq : Fz qs) (hd : Fz ds) (hr : Fz rs) (hc : m[k]? = some c) : ∃ sm' tx', SvO t m sm' tx' (k + 1) ∧
    runF (L4.pr sx) F (d + 5) 542 [.ref 0] (h13 .bad sm tx qs ds (kvs.map pairV ++ [V.ref 12]) ty title cl rs nm vv []) = some (.bool true, h13 .bad sm' tx' (qs ++ (dupErr kvs (nm.map low)).map errV) ds (kvs.map pairV ++ [V.ref 12]) ty title cl rs (nm.map low) vv []) := by
  obtain ⟨sm1, tx1, S1, e1⟩ := x542s (F := F) (d := d) (sx := sx) (qs := qs) (ds := ds) (ps := kvs.map pairV) (ty := ty) (title := title) (cl := cl) (rs := rs) (nm := nm) (vv := vv) H
  have S1 : SvO t m sm1 tx1 (k + 1) := by unfold nxt at S1; rw [hc] at S1; exact S1
  rw [hc] at e1
  have e2 : ∃ gi, evSs (cxOf (L4.pr sx) F (runF (L4.pr sx) F (d + 4))) (L4.f542.drop 3) 13 [(34, .ref 0), (29, .str [c]), (57, .bool true), (58, .bool false)] (h13 .bad sm1 tx1 qs ds (kvs.map pairV ++ [V.ref 12]) ty title cl rs nm vv []) =
      evSs (cxOf (L4.pr sx) F (runF (L4.pr sx) F (d + 4))) (L4.f542.drop 4) 13 [(34, .ref 0), (29, .str [c]), (57, .bool true), (58, .bool false)] (h13 (.ref 13) sm1 tx1 qs ds (kvs.map pairV ++ [V.ref 12]) ty title cl rs nm vv [.meth gi (.ref 0)]) := by
    rcases hc5 with rfl | rfl | rfl | rfl | rfl
    · exact ⟨556, rfl⟩
    · exact ⟨591, rfl⟩
    · exact ⟨549, rfl⟩
    · exact ⟨549, rfl⟩
    · exact ⟨549, rfl⟩
  obtain ⟨gi, e2⟩ := e2
  obtain ⟨L3, a2, e3⟩ := x542g (F := F) (d := d) (sx := sx) (sm := sm1) (tx := tx1) (ds := ds) (rs := rs) (ty := ty) (title := title) (cl := cl) (vv := vv) (v29 := .str [c]) (gi := gi) hk hn hql
  obtain ⟨L4, e4⟩ := x542h (F := F) (d := d) (sx := sx) (kvs := kvs) (ty := ty) (title := title) (cl := cl) (nm := nm.map low) (vv := vv) (a1 := a2) (a2 := .list (kvs.map pairV)) (L := L3) (gi := gi) S1 hq hd hr
  exact ⟨sm1, tx1, S1, fn_ex (fl := .ret (.bool true)) rfl rfl ⟨L4, e1.trans (e2.trans (e3.trans e4))⟩ rfl⟩
end
end PL
end
section
namespace PL
open Builtin.Str StrLaws
noncomputable def LK (L : Loc) : List (Nat × V) → Prop
  | [] => True
  | (i, v) :: r => getK i L = some v ∧ LK L r
noncomputable def updK (j : Nat) (v : V) : List (Nat × V) → List (Nat × V)
  | [] => []
  | (i, w) :: r => (i, bif Nat.beq i j then v else w) :: updK j v r
theorem LK.get {L : Loc} {i : Nat} {v : V} : ∀ {fs : List (Nat × V)}, LK L fs → getK i fs = some v → getK i L = some v
  | [], _, e => nomatch e
  | (j, w) :: r, h, e => by
    have e : (bif Nat.beq j i then some w else getK i r) = some v := e
    cases q : Nat.beq j i with
    | true => rw [q] at e; obtain rfl := Nat.eq_of_beq_eq_true q; exact h.1.trans e
    | false => rw [q] at e; exact LK.get h.2 e
theorem LK.sub {L M : Loc} (h : LK L M) : ∀ {fs : List (Nat × V)}, LK M fs → LK L fs
  | [], _ => trivial
  | (j, w) :: r, k => ⟨h.get k.1, LK.sub h k.2⟩
theorem LK.put {L : Loc} {j : Nat} {v : V} : ∀ {fs : List (Nat × V)}, LK L fs → LK (putK j v L) (updK j v fs)
  | [], _ => trivial
  | (i, w) :: r, h => by
    refine ⟨?_, LK.put h.2⟩
    cases q : Nat.beq i j with
    | true => obtain rfl := Nat.eq_of_beq_eq_true q; exact gk_eq
    | false => exact gk_ne (fun e => by rw [e, Nat.beq_refl] at q; cases q) h.1
theorem LK.new {L : Loc} {j : Nat} {v : V} {fs : List (Nat × V)} (h : LK L fs) : LK (putK j v L) ((j, v) :: updK j v fs) := ⟨gk_eq, h.put⟩
theorem LK.gc {L : Loc} {σ : St} {n : Nat} : ∀ {fs : List (Nat × V)}, LK L fs → LK (gcL σ n L) (gcL σ n fs)
  | [], _ => trivial
  | (i, w) :: r, h => ⟨gk_gc h.1 rfl, LK.gc h.2⟩
noncomputable def Kp (js : List Nat) (L L' : Loc) : Prop := ∀ i, js.contains i = false → getK i L' = getK i L
theorem Kp.rfl {js : List Nat} {L : Loc} : Kp js L L := fun qq1 qq2 => Eq.refl _
theorem Kp.trans {js : List Nat} {L L' L'' : Loc} (h : Kp js L L') (k : Kp js L' L'') : Kp js L L'' := fun i hi => (k i hi).trans (h i hi)
theorem Kp.put {js : List Nat} {L L' : Loc} {j : Nat} {v : V} (h : Kp js L L') (hj : js.contains j = true) : Kp js L (putK j v L') := fun i hi => (gk_ne (fun e => by rw [← e, hi] at hj; cases hj) (Eq.refl _)).trans (h i hi)
theorem LK.kp {js : List Nat} {L L' : Loc} (k : Kp js L L') : ∀ {fs : List (Nat × V)}, LK L fs → (fs.all fun p => !js.contains p.1) = true → LK L' fs
  | [], _, _ => trivial
  | (i, w) :: r, h, e => by
    have e : (!js.contains i && r.all fun p => !js.contains p.1) = true := e
    rw [Bool.and_eq_true] at e
    exact ⟨(k i (Bool.not_eq_true' _ ▸ e.1)).trans h.1, LK.kp k h.2 e.2⟩
theorem cut_take {α : Type} (l : List α) (n : Nat) : cut l 0 (clampI l.length (n : Nat)) = l.take n := by
  unfold cut clampI
  rw [if_neg (by lia), Int.toNat_natCast, List.drop_zero, Nat.sub_zero]
  by_cases h : n ≤ l.length
  · rw [Nat.min_eq_left h]
  · have h := Nat.le_of_not_le h
    rw [Nat.min_eq_right h, List.take_of_length_le (Nat.le_refl _), List.take_of_length_le h]
theorem lastIx_none {c : Nat} : ∀ {l : List Nat}, c ∉ l → lastIx c l = none
  | [], _ => rfl
  | x :: r, h => by
    have h := not_or.mp fun h' => h (List.mem_cons.mpr h')
    show (match lastIx c r with | some i => some (i + 1) | none => if x = c then some 0 else none) = none
    rw [lastIx_none h.2]
    exact if_neg (Ne.symm h.1)
noncomputable def samePl (a b : List Nat) : Bool := (((a.count 10 + 1 : Nat) : Int) == (b.count 10 + 1 : Nat)) && (((colOf 0 a : Nat) : Int) == (colOf 0 b : Nat))
theorem plc_inj {m : List Nat} {i j : Nat} (hij : i < j) (hj : j ≤ m.length) : samePl (m.take i) (m.take j) = false := by
  refine Bool.eq_false_iff.mpr fun h => ?_
  unfold samePl at h
  rw [Bool.and_eq_true] at h
  have h1 := Int.ofNat.inj (eq_of_beq h.1)
  have h2 := Int.ofNat.inj (eq_of_beq h.2)
  have e : m.take j = m.take i ++ (m.drop i).take (j - i) := by
    rw [← List.take_append_drop i (m.take j), List.take_take, Nat.min_eq_left (Nat.le_of_lt hij), List.drop_take]
  rw [e, List.count_append] at h1
  have h4 := List.count_eq_zero.mp (show ((m.drop i).take (j - i)).count 10 = 0 by lia)
  rw [e, ← colOf_app] at h2
  have h5 : colOf (colOf 0 (m.take i)) ((m.drop i).take (j - i)) = colOf 0 (m.take i) + ((m.drop i).take (j - i)).length := by
    rw [colOf, lastIx_none h4]
  have h6 : ((m.drop i).take (j - i)).length = j - i := by rw [List.length_take, List.length_drop]; lia
  lia
theorem samePl_refl (a : List Nat) : samePl a a = true := by unfold samePl; rw [beq_self_eq_true, beq_self_eq_true]; rfl
section
variable {F d : Nat} {sx : List (Nat × O)} {sm tx : O} {t m : List Nat} {k : Nat} {qs ds ps rs : List V} {ty : Int} {title nm vv : List Nat} {cl : Bool} {L : Loc} {r : List PS} {z pl n : Nat}
noncomputable def rdT : PE := .andE (.cmp .lt (.loc 22) (.const (.int 9))) (.cmp .ne (.meth (.attr (.loc 11) 13) 23 []) (.call 813 [.slice (.loc 10) (.const .none) (.loc 16)]))
theorem rd_test (S : SvO t m sm tx k) (hq : Fz qs) (hd : Fz ds) (hp : Fz ps) (hr : Fz rs) (hm1 : m.length ≤ 1000) (hL : LK L [(10, .str m), (11, .ref 0), (16, .int (pl : Nat)), (22, .int (n : Nat))]) (hn : n < 9) :
    evT (cxOf (L4.pr sx) F (runF (L4.pr sx) F (d + 5))) rdT L (h13 .bad sm tx qs ds (ps ++ [V.ref 12]) ty title cl rs nm vv []) = some (!samePl (m.take k) (m.take pl), h13 .bad sm tx qs ds (ps ++ [V.ref 12]) ty title cl rs nm vv []) := by
  have h1 : evT (cxOf (L4.pr sx) F (runF (L4.pr sx) F (d + 5))) (.cmp .lt (.loc 22) (.const (.int 9))) L (h13 .bad sm tx qs ds (ps ++ [V.ref 12]) ty title cl rs nm vv []) = some (true, h13 .bad sm tx qs ds (ps ++ [V.ref 12]) ty title cl rs nm vv []) :=
    cmpT (getE (hL.get rfl)) (b := .int 9) rfl (by show some (decide ((n : Int) < 9)) = _; rw [decide_eq_true (by lia)])
  have h2 : evE (cxOf (L4.pr sx) F (runF (L4.pr sx) F (d + 5))) (.attr (.loc 11) 13) L (h13 .bad sm tx qs ds (ps ++ [V.ref 12]) ty title cl rs nm vv []) = some (.ref 1, h13 .bad sm tx qs ds (ps ++ [V.ref 12]) ty title cl rs nm vv []) := by
    rw [evE_attr, getE (hL.get rfl)]; rfl
  have h3 : evE (cxOf (L4.pr sx) F (runF (L4.pr sx) F (d + 5))) (.call 813 [.slice (.loc 10) (.const .none) (.loc 16)]) L (h13 .bad sm tx qs ds (ps ++ [V.ref 12]) ty title cl rs nm vv []) = some (.frz (plc (m.take pl)), h13 .bad sm tx qs ds (ps ++ [V.ref 12]) ty title cl rs nm vv []) := by
    have hs : evE (cxOf (L4.pr sx) F (runF (L4.pr sx) F (d + 5))) (.slice (.loc 10) (.const .none) (.loc 16)) L (h13 .bad sm tx qs ds (ps ++ [V.ref 12]) ty title cl rs nm vv []) = some (.str (m.take pl), h13 .bad sm tx qs ds (ps ++ [V.ref 12]) ty title cl rs nm vv []) := by
      rw [evE_slice, getE (hL.get rfl), Option.bind_some]
      show (Option.bind (evE _ (.loc 16) _ _) _) = _
      rw [getE (hL.get rfl), ← cut_take]; rfl
    rw [evE_call, evEs_cons, hs]
    exact x813 (cld_hS S (cld13 hq hd hp hr)) (Nat.le_trans (List.length_take ▸ Nat.min_le_right _ _) hm1)
  refine andT1 h1 (cmpT (sm_call S h2 rfl (by decide) rfl rfl (sv_position (d := d + 3) S)) h3 ?_)
  show some (!((_ && (_ && true)))) = _
  rw [Bool.and_true]; rfl
theorem rd_body {sm' tx' : O} {qs' : List V} {nm' : List Nat} (hL : LK L [(11, .ref 0), (22, .int (n : Nat))]) (e : runF (L4.pr sx) F (d + 5) 542 [.ref 0] (h13 .bad sm tx qs ds ps ty title cl rs nm vv []) = some (.bool true, h13 .bad sm' tx' qs' ds ps ty title cl rs nm' vv [])) :
    evSs (cxOf (L4.pr sx) F (runF (L4.pr sx) F (d + 5))) [.expr (.meth (.loc 11) 24 []), .augL 22 .add (.const (.int 1))] z L (h13 .bad sm tx qs ds ps ty title cl rs nm vv []) = some (.next, putK 22 (.int ((n + 1 : Nat) : Int)) L, h13 .bad sm' tx' qs' ds ps ty title cl rs nm' vv []) := by
  rw [exprS (methE (getE (hL.get rfl)) rfl rfl rfl rfl e), evSs_cons, evS_augL, hL.get (i := 22) rfl]
  rfl
end
end PL
end
section
namespace PL
open Builtin.Str StrLaws
noncomputable def secErr (c : Nat) : List (List Nat) := if c = 0 then [wInv] else if c = 39 then [wChr] else []
noncomputable def secErrs (l : List Nat) : List (List Nat) := (l.map secErr).flatten
theorem zed_ne {c : Nat} (h : c ≠ 0) : zed c = c := if_neg h
section
variable {F d : Nat} {sx : List (Nat × O)} {sm tx : O} {t m : List Nat} {k : Nat} {qs ds rs : List V} {kvs : List (List Nat × List Nat)} {ty : Int} {title nm : List Nat} {cl : Bool} {L : Loc} {r : List PS} {z pl n c0 x : Nat} {rst : List Nat}
theorem x542c {c : Nat} (hcc : c = 98 ∨ c = 66 ∨ c = 39 ∨ c = 0) (hx : lt x = false) (hF : 1000 < F) (hm1 : m.length ≤ 1000) (hql : qs.length ≤ 1000) (H : SvO t m sm tx k) (hq : Fz qs) (hd : Fz ds) (hr : Fz rs) (hm : m.drop k = c :: x :: rst) : ∃ sm' tx', SvO t m sm' tx' (k + 1) ∧
    runF (L4.pr sx) F (d + 5) 542 [.ref 0] (h13 .bad sm tx qs ds (kvs.map pairV ++ [V.ref 12]) ty title cl rs [c0] [] []) = some (.bool true, h13 .bad sm' tx' (qs ++ (secErr c).map errV) ds (kvs.map pairV ++ [V.ref 12]) ty title cl rs [c0, zed c] [] []) := by
  have hc : m[k]? = some c := by rw [← Nat.add_zero k, ← List.getElem?_drop, hm]; rfl
  have hrun : (m.drop (k + 1)).takeWhile lt = [] := by
    rw [← List.drop_drop, hm]
    show (x :: rst).takeWhile lt = []
    rw [List.takeWhile_cons, hx]; rfl
  have hcc' : (lt c = true ∧ c ≠ 61 ∧ c ≠ 0 ∧ c ≠ 39) ∨ c = 39 ∨ c = 0 := by
    rcases hcc with rfl | rfl | rfl | rfl
    · exact .inl ⟨rfl, by decide, by decide, by decide⟩
    · exact .inl ⟨rfl, by decide, by decide, by decide⟩
    · exact .inr (.inl rfl)
    · exact .inr (.inr rfl)
  rcases hcc' with ⟨h1, h2, h3, h4⟩ | rfl | rfl
  · obtain ⟨sm', tx', S, e⟩ := x542L (F := F) (d := d) (sx := sx) (ty := ty) (title := title) (cl := cl) (nm := [c0]) (vv := []) hF hm1 (by decide : 1 ≤ 10) H hq hd Fz.pairs hr hc h1 h2
    rw [hrun] at S e
    rw [show secErr c = [] from (if_neg h3).trans (if_neg h4), zed_ne h3, List.map_nil, List.append_nil]
    exact ⟨sm', tx', S, e⟩
  · exact x542Q (.inr ⟨rfl, rfl⟩) (by decide : 1 ≤ 10) hql H hq hd Fz.pairs hr hc
  · exact x542Q (.inl ⟨rfl, rfl⟩) (by decide : 1 ≤ 10) hql H hq hd Fz.pairs hr hc
noncomputable def rdB : List PS := [.expr (.meth (.loc 11) 24 []), .augL 22 .add (.const (.int 1))]
theorem rd_stop {f : Nat} (S : SvO t m sm tx k) (hq : Fz qs) (hd : Fz ds) (hr : Fz rs) (hm1 : m.length ≤ 1000) (hL : LK L [(10, .str m), (11, .ref 0), (16, .int (k : Nat)), (22, .int (n : Nat))]) (hn : n < 9) :
    whileL (fun L s => evT (cxOf (L4.pr sx) F (runF (L4.pr sx) F (d + 5))) rdT L s) (fun L s => evSs (cxOf (L4.pr sx) F (runF (L4.pr sx) F (d + 5))) rdB z L s) (f + 1) L (h13 .bad sm tx qs ds (kvs.map pairV ++ [V.ref 12]) ty title cl rs nm [] []) = some (.next, L, h13 .bad sm tx qs ds (kvs.map pairV ++ [V.ref 12]) ty title cl rs nm [] []) := by
  rw [whileL_succ, rd_test S hq hd Fz.pairs hr hm1 hL hn, samePl_refl]; rfl
theorem rd_step {f : Nat} {sm' tx' : O} {qs' : List V} {nm' : List Nat} (S : SvO t m sm tx k) (hq : Fz qs) (hd : Fz ds) (hr : Fz rs) (hm1 : m.length ≤ 1000) (hL : LK L [(10, .str m), (11, .ref 0), (16, .int (pl : Nat)), (22, .int (n : Nat))]) (hn : n < 9) (hk : k < pl) (hp : pl ≤ m.length)
    (e : runF (L4.pr sx) F (d + 5) 542 [.ref 0] (h13 .bad sm tx qs ds (kvs.map pairV ++ [V.ref 12]) ty title cl rs nm [] []) = some (.bool true, h13 .bad sm' tx' qs' ds (kvs.map pairV ++ [V.ref 12]) ty title cl rs nm' [] [])) :
    whileL (fun L s => evT (cxOf (L4.pr sx) F (runF (L4.pr sx) F (d + 5))) rdT L s) (fun L s => evSs (cxOf (L4.pr sx) F (runF (L4.pr sx) F (d + 5))) rdB z L s) (f + 1) L (h13 .bad sm tx qs ds (kvs.map pairV ++ [V.ref 12]) ty title cl rs nm [] []) =
    whileL (fun L s => evT (cxOf (L4.pr sx) F (runF (L4.pr sx) F (d + 5))) rdT L s) (fun L s => evSs (cxOf (L4.pr sx) F (runF (L4.pr sx) F (d + 5))) rdB z L s) f (putK 22 (.int ((n + 1 : Nat) : Int)) L) (h13 .bad sm' tx' qs' ds (kvs.map pairV ++ [V.ref 12]) ty title cl rs nm' [] []) := by
  rw [whileL_succ, rd_test S hq hd Fz.pairs hr hm1 hL hn, plc_inj hk hp]
  have := rd_body (d := d) (sx := sx) (F := F) (z := z) (L := L) (ds := ds) (ty := ty) (title := title) (cl := cl) (rs := rs) (vv := []) (hL.sub ⟨rfl, rfl, trivial⟩) e
  show (Option.bind (evSs _ rdB z L _) _) = _
  rw [show evSs (cxOf (L4.pr sx) F (runF (L4.pr sx) F (d + 5))) rdB z L _ = _ from this]; rfl
theorem read_name {tail : List Nat} (ht : tail = [] ∨ ∃ c, tail = [c] ∧ (c = 98 ∨ c = 66 ∨ c = 39 ∨ c = 0)) (hx : x = 61 ∨ x = 47 ∨ x = 32 ∨ x = 10 ∨ x = 9) (hF : 1000 < F) (hm1 : m.length ≤ 1000) (hk : kvs.length ≤ 10) (hql : qs.length ≤ 900) (H : SvO t m sm tx k) (hq : Fz qs) (hd : Fz ds) (hr : Fz rs)
    (hm : m.drop k = tail ++ x :: rst) (hL : LK L [(10, .str m), (11, .ref 0), (16, .int ((k + tail.length + 1 : Nat) : Int)), (22, .int (0 : Nat))]) : ∃ sm' tx' L', SvO t m sm' tx' (k + tail.length + 1) ∧ Kp [22] L L' ∧
    evSs (cxOf (L4.pr sx) F (runF (L4.pr sx) F (d + 5))) (.whiles rdT rdB :: r) z L (h13 .bad sm tx qs ds (kvs.map pairV ++ [V.ref 12]) ty title cl rs [c0] [] []) = evSs (cxOf (L4.pr sx) F (runF (L4.pr sx) F (d + 5))) r z L' (h13 .bad sm' tx' (qs ++ (secErrs tail ++ dupErr kvs ((c0 :: tail.map zed).map low)).map errV) ds (kvs.map pairV ++ [V.ref 12]) ty title cl rs ((c0 :: tail.map zed).map low) [] []) := by
  have hpl : k + tail.length + 1 ≤ m.length := by
    have := congrArg List.length hm
    rw [List.length_drop, List.length_append, List.length_cons] at this
    lia
  have hlx : lt x = false := by rcases hx with rfl | rfl | rfl | rfl | rfl <;> rfl
  obtain ⟨f, rfl⟩ : ∃ f, F = f + 3 := ⟨F - 3, by lia⟩
  rw [evSs_cons, evS_whiles]
  rcases ht with rfl | ⟨c, rfl, hcc⟩
  · have hc : m[k]? = some x := by rw [← Nat.add_zero k, ← List.getElem?_drop, hm]; rfl
    obtain ⟨sm', tx', S, e⟩ := x542A (F := f + 3) (d := d) (sx := sx) (ty := ty) (title := title) (cl := cl) (nm := [c0]) (vv := []) hx hk (by decide : 1 ≤ 10) (Nat.le_trans hql (by decide)) H hq hd hr hc
    have e1 := rd_step (f := f + 2) (z := z) H hq hd hr hm1 hL (by decide) (Nat.lt_succ_self _) hpl e
    have e2 := rd_stop (F := f + 3) (d := d) (sx := sx) (qs := qs ++ (dupErr kvs ([c0].map low)).map errV) (f := f + 1) (z := z) (ty := ty) (title := title) (cl := cl) (nm := [c0].map low) (kvs := kvs) (n := 1) S (hq.errs _) hd hr hm1 (hL.put (j := 22) (v := .int ((0 + 1 : Nat) : Int))) (by decide)
    refine ⟨sm', tx', putK 22 (.int ((0 + 1 : Nat) : Int)) L, S, Kp.rfl.put rfl, ?_⟩
    exact congrArg (fun q => Option.bind q _) (e1.trans e2)
  · obtain ⟨sm1, tx1, S1, e0⟩ := x542c (F := f + 3) (d := d) (sx := sx) (kvs := kvs) (ty := ty) (title := title) (cl := cl) (c0 := c0) hcc hlx hF hm1 (Nat.le_trans hql (by decide)) H hq hd hr hm
    have hc : m[k + 1]? = some x := by rw [← List.getElem?_drop, hm]; rfl
    have hsl : (secErr c).length ≤ 1 := by unfold secErr; split; exact Nat.le_refl _; split; exact Nat.le_refl _; exact Nat.zero_le _
    have hql2 : (qs ++ (secErr c).map errV).length ≤ 1000 := by rw [List.length_append, List.length_map]; lia
    obtain ⟨sm', tx', S, e⟩ := x542A (F := f + 3) (d := d) (sx := sx) (ty := ty) (title := title) (cl := cl) (nm := [c0, zed c]) (vv := []) hx hk (by decide : 2 ≤ 10) hql2 S1 (hq.errs _) hd hr hc
    have e1 := rd_step (f := f + 2) (z := z) H hq hd hr hm1 hL (by decide) (by show k < k + 1 + 1; lia) hpl e0
    have e2 := rd_step (f := f + 1) (z := z) S1 (hq.errs _) hd hr hm1 (hL.put (j := 22) (v := .int ((0 + 1 : Nat) : Int))) (n := 1) (pl := k + 1 + 1) (by decide) (Nat.lt_succ_self _) hpl e
    have e3 := rd_stop (F := f + 3) (d := d) (sx := sx) (qs := (qs ++ (secErr c).map errV) ++ (dupErr kvs ([c0, zed c].map low)).map errV) (f := f) (z := z) (ty := ty) (title := title) (cl := cl) (nm := [c0, zed c].map low) (kvs := kvs) (n := 2) S ((hq.errs _).errs _) hd hr hm1 ((hL.put (j := 22) (v := .int ((0 + 1 : Nat) : Int))).put (j := 22) (v := .int ((1 + 1 : Nat) : Int))) (by decide)
    refine ⟨sm', tx', putK 22 (.int ((1 + 1 : Nat) : Int)) (putK 22 (.int ((0 + 1 : Nat) : Int)) L), S, (Kp.rfl.put rfl).put rfl, ?_⟩
    refine (congrArg (fun q => Option.bind q _) (e1.trans (e2.trans e3))).trans ?_
    rw [List.append_assoc, ← List.map_append, show secErrs [c] = secErr c from List.append_nil _]
    rfl
end
end PL
end
section
namespace PL
open Builtin.Str StrLaws
structure QOk (q : List V) : Prop where
  z : Fz q
  e : ∀ v ∈ q, ∀ σ, eqV σ eqD v v = some true
theorem QOk.app {q r : List V} (h : QOk q) (k : QOk r) : QOk (q ++ r) := ⟨fun s n => by rw [List.map_append, h.z, k.z], fun v hv => (List.mem_append.mp hv).elim (h.e v) (k.e v)⟩
theorem eqL_self {f : V → V → Option Bool} : ∀ {l : List V}, (∀ v ∈ l, f v v = some true) → eqL f l l = some true
  | [], _ => rfl
  | v :: l, h => by
    show (f v v).bind _ = _
    rw [h v (.head _), Option.bind_some, eqL_self fun w hw => h w (.tail _ hw)]; rfl
theorem eqV_str {σ : St} {n : Nat} {s : List Nat} : eqV σ (n + 1) (.str s) (.str s) = some true := by show some (s == s) = _; rw [beq_self_eq_true]
theorem QOk.errs (l : List (List Nat)) : QOk (l.map errV) := by
  refine ⟨fun s n => by rw [List.map_map]; rfl, fun v hv σ => ?_⟩
  obtain ⟨w, _, rfl⟩ := List.mem_map.mp hv
  show ((eqV σ 11 (.int 7) (.int 7)).bind fun x => (((eqV σ 11 (.str w) (.str w)).bind fun x => some (x && true))).map fun y => x && y) = _
  rw [eqV_str]; rfl
theorem QOk.pairs (l : List (List Nat × List Nat)) : QOk (l.map pairV) := by
  refine ⟨Fz.pairs, fun v hv σ => ?_⟩
  obtain ⟨p, _, rfl⟩ := List.mem_map.mp hv
  show (eqL (eqV σ 11) [.str p.1, .str p.2] [.str p.1, .str p.2]) = _
  exact eqL_self fun v hv => by
    rcases List.mem_cons.mp hv with rfl | hv
    · exact eqV_str
    · obtain rfl := List.mem_singleton.mp hv; exact eqV_str
theorem ne_self {σ : St} {a b : Nat} {q : List V} (h : QOk q) (ha : σ[a]? = some (.list q)) (hb : σ[b]? = some (.list q)) : neV σ eqD (.ref a) (.ref b) = some false := by
  show (σ[a]?).bind _ = _
  rw [ha, Option.bind_some]
  show (σ[b]?).bind _ = _
  rw [hb, Option.bind_some]
  show (if q.length = q.length then (eqL (eqV σ eqD) q q).map fun r => !r else some true) = _
  rw [if_pos rfl, eqL_self fun v hv => h.e v hv σ]; rfl
theorem inL_keys (a : List Nat) : ∀ l : List (List Nat × List Nat), inL (.str a) (l.map fun p => V.str p.1) = some (l.any fun p => p.1 == a)
  | [] => rfl
  | p :: l => by
    show (some (p.1 == a)).bind _ = _
    rw [Option.bind_some, inL_keys a l]; rfl
noncomputable def h12 (sm tx : O) (q : List V) (kvs : List (List Nat × List Nat)) (ty : Int) (title : List Nat) (cl : Bool) : St :=
  hS (rdO .bad (.ref 10)) sm tx [.list [], .list q, .list q, .list (kvs.map pairV), .dict (tkD ty title (.ref 9) cl), .list (kvs.map pairV)]
section
variable {F d : Nat} {sx : List (Nat × O)} {sm tx : O} {t m : List Nat} {k : Nat} {q qs ds rs dl : List V} {kvs : List (List Nat × List Nat)} {ty : Int} {title nm vv : List Nat} {cl : Bool} {L : Loc} {r : List PS} {z n c0 x : Nat} {rst w : List Nat} {ex : List O}
theorem due_add (hC : Cld (h13 .bad sm tx qs ds dl ty title cl rs nm vv ex)) (hd : ds.length ≤ 1000) (h15 : getK 15 L = some (.ref 8)) : evSs (cxOf (L4.pr sx) F (runF (L4.pr sx) F (d + 1))) (.expr (.append (.loc 15) (.call 806 [.const (.str w)])) :: r) z L (h13 .bad sm tx qs ds dl ty title cl rs nm vv ex) =
    evSs (cxOf (L4.pr sx) F (runF (L4.pr sx) F (d + 1))) r z L (h13 .bad sm tx qs (ds ++ [errV w]) dl ty title cl rs nm vv ex) :=
  exprS (appE (getE h15) rfl (v := errV w) (σ2 := h13 .bad sm tx qs ds dl ty title cl rs nm vv ex) (x806 (F := F) (d := d) (sx := sx) hC) rfl (Nat.le_trans hd (by decide)) rfl)
noncomputable def mark (cnt : Nat) : List Nat := [97 + cnt % 26]
theorem mod_eq {c : Cx} {σ : St} {x y : Int} (e : 0 < y ∧ y ≤ LIM) : binV c .mod (.int x) (.int y) σ = some (.int (Int.fmod x y), σ) := if_pos e
noncomputable def markE : PE := .chr (.bin .add (.const (.int 97)) (.bin .mod (.loc 17) (.const (.int 26))))
theorem mark_eq {c : Cx} {σ : St} {cnt : Nat} (h17 : getK 17 L = some (.int (cnt : Nat))) : evE c markE L σ = some (.str (mark cnt), σ) := by
  have h1 : evE c (.bin .mod (.loc 17) (.const (.int 26))) L σ = some (.int (Int.fmod (cnt : Nat) 26), σ) := binE (getE h17) (b := .int 26) rfl (mod_eq (by decide))
  have h2 : evE c (.bin .add (.const (.int 97)) (.bin .mod (.loc 17) (.const (.int 26)))) L σ = some (.int (97 + Int.fmod (cnt : Nat) 26), σ) := binE (a := .int 97) rfl h1 rfl
  have h3 : (97 : Int) + Int.fmod (cnt : Nat) 26 = ((97 + cnt % 26 : Nat) : Int) := by
    rw [Int.fmod_eq_emod_of_nonneg _ (by decide)]; lia
  unfold markE
  rw [evE_chr, h2, h3, Option.bind_some]
  show chrV (.int ((97 + cnt % 26 : Nat) : Int)) σ = _
  rw [chrV_eq (by lia), Int.toNat_natCast]; rfl
end
end PL
end
section
namespace PL
open Builtin.Str StrLaws
noncomputable def tagBody : List PS := match (L4.f825[12]? : Option PS) with | some (PS.fors _ _ b) => b | _ => []
noncomputable def nmBody : List PS := match (tagBody[3]? : Option PS) with | some (PS.fors _ _ b) => b | _ => []
theorem forL_one {bind : V → Loc → St → Option Loc} {still : St → Bool} {body : Loc → St → Option (Fl × Loc × St)} {v : V} {L L1 L2 : Loc} {σ σ2 : St} (h1 : still σ = true) (hb : bind v L σ = some L1) (h2 : body L1 σ = some (.next, L2, σ2)) (h3 : still σ2 = true) : forL bind still body [v] L σ = some (.next, L2, σ2) := by
  rw [forL_cons, if_pos h1, hb, Option.bind_some, h2, Option.bind_some]; exact forL_nil.trans (if_pos h3)
section
variable {F d : Nat} {sx : List (Nat × O)} {sm tx : O} {t m : List Nat} {k : Nat} {q qs ds rs dl : List V} {kvs : List (List Nat × List Nat)} {ty : Int} {title nm vv : List Nat} {cl : Bool} {L : Loc} {r : List PS} {z n c0 x pl cnt : Nat} {rst w tail : List Nat} {ex : List O}
theorem augLI {c : Cx} {i : Nat} {a b : Int} {e : PE} {σ : St} (h1 : getK i L = some (.int a)) (h2 : evE c e L σ = some (.int b, σ)) : evSs c (.augL i .add e :: r) z L σ = evSs c r z (putK i (.int (a + b)) L) σ := by
  rw [evSs_cons, evS_augL, h1, Option.bind_some, h2]; rfl
theorem nm0 (S : SvO t m sm tx pl) (hc : m[pl]? = some c0) (hk : kvs.length ≤ 10) (hL : LK L [(8, .str (c0 :: tail)), (11, .ref 0), (16, .int (pl : Nat)), (18, .ref 10)]) : ∃ sm' tx', SvO t m sm' tx' (pl + 1) ∧
    evSs (cxOf (L4.pr sx) F (runF (L4.pr sx) F (d + 5))) nmBody z L (h12 sm tx q kvs ty title cl) = evSs (cxOf (L4.pr sx) F (runF (L4.pr sx) F (d + 5))) (nmBody.drop 3) z (putK 22 (.int (0 : Nat)) (putK 16 (.int ((pl + 1 + tail.length + 1 : Nat) : Int)) L)) (h13 .bad sm' tx' q q (kvs.map pairV ++ [V.ref 12]) ty title cl (kvs.map pairV) [c0] [] []) := by
  obtain ⟨sm', tx', e, S'⟩ := sv_char (F := F) (d := d + 1) (sx := sx) (x0 := rdO .bad (.ref 10)) (rest := [.list [], .list q, .list q, .list (kvs.map pairV), .dict (tkD ty title (.ref 9) cl), .list (kvs.map pairV)]) S
  have S' : SvO t m sm' tx' (pl + 1) := by unfold nxt at S'; rw [hc] at S'; exact S'
  rw [hc] at e
  refine ⟨sm', tx', S', ?_⟩
  have h18 : evE (cxOf (L4.pr sx) F (runF (L4.pr sx) F (d + 5))) (.sub (.loc 18) (.const (.str [100, 97, 116, 97]))) L (h12 sm tx q kvs ty title cl) = some (.ref 9, h12 sm tx q kvs ty title cl) := subE (getE (hL.get rfl)) (b := .str sData) rfl (v := .ref 9) rfl
  have h13' : evE (cxOf (L4.pr sx) F (runF (L4.pr sx) F (d + 5))) (.attr (.loc 11) 13) L (h12 sm tx q kvs ty title cl) = some (.ref 1, h12 sm tx q kvs ty title cl) := by
    rw [evE_attr, getE (hL.get rfl)]; rfl
  have hch : evE (cxOf (L4.pr sx) F (runF (L4.pr sx) F (d + 5))) (.listE [.meth (.attr (.loc 11) 13) 21 [], .const (.str [])]) L (h12 sm tx q kvs ty title cl) = some (.ref 12, h13 .bad sm' tx' q q (kvs.map pairV) ty title cl (kvs.map pairV) [c0] [] []) := by
    have h21 : evE (cxOf (L4.pr sx) F (runF (L4.pr sx) F (d + 5))) (.meth (.attr (.loc 11) 13) 21 []) L (h12 sm tx q kvs ty title cl) = some (.str [c0], h12 sm' tx' q kvs ty title cl) := sm_call S h13' rfl (by decide) rfl rfl e
    rw [evE_listE, evEs_cons, h21]
    rfl
  refine (exprS (appE h18 rfl hch rfl (by rw [List.length_map]; exact Nat.le_trans hk (by decide)) (σ' := h13 .bad sm' tx' q q (kvs.map pairV ++ [V.ref 12]) ty title cl (kvs.map pairV) [c0] [] []) rfl)).trans ?_
  refine (augLI (b := ((tail.length + 1 : Nat) : Int) + 1) (hL.get (i := 16) rfl) ?_).trans ?_
  · exact binE (a := .int ((tail.length + 1 : Nat) : Int)) (by rw [evE_len, getE (hL.get rfl)]; rfl) (b := .int 1) rfl rfl
  rw [show (pl : Int) + (((tail.length + 1 : Nat) : Int) + 1) = ((pl + 1 + tail.length + 1 : Nat) : Int) by lia]
  rfl
theorem due_tail (ht : tail = [] ∨ ∃ c, tail = [c] ∧ (c = 98 ∨ c = 66 ∨ c = 39 ∨ c = 0)) (hC : Cld (h13 .bad sm tx qs ds dl ty title cl rs nm vv [])) (hd : ds.length ≤ 900) (hL : LK L [(8, .str (c0 :: tail)), (15, .ref 8)]) : ∃ L', Kp [25] L L' ∧
    evSs (cxOf (L4.pr sx) F (runF (L4.pr sx) F (d + 1))) (nmBody.drop 4) z L (h13 .bad sm tx qs ds dl ty title cl rs nm vv []) = evSs (cxOf (L4.pr sx) F (runF (L4.pr sx) F (d + 1))) (nmBody.drop 5) z L' (h13 .bad sm tx qs (ds ++ (secErrs tail).map errV) dl ty title cl rs nm vv []) := by
  have hs : evE (cxOf (L4.pr sx) F (runF (L4.pr sx) F (d + 1))) (.slice (.loc 8) (.const (.int 1)) (.const .none)) L (h13 .bad sm tx qs ds dl ty title cl rs nm vv []) = some (.str tail, h13 .bad sm tx qs ds dl ty title cl rs nm vv []) := by
    have := cut_end (l := c0 :: tail) (i := 1) (Nat.succ_le_succ (Nat.zero_le _))
    rw [evE_slice, getE (hL.get rfl), Option.bind_some]
    show some (V.str (cut (c0 :: tail) (clampI (c0 :: tail).length (1 : Nat)) (c0 :: tail).length), _) = _
    rw [this]; rfl
  rw [show nmBody.drop 4 = .fors (.one 25) (.slice (.loc 8) (.const (.int 1)) (.const .none)) [.ifs (.cmp .eq (.loc 25) (.const (.str [0]))) [.expr (.append (.loc 15) (.call 806 [.const (.str wInv)]))] [.ifs (.cmp .eq (.loc 25) (.const (.str [39]))) [.expr (.append (.loc 15) (.call 806 [.const (.str wChr)]))] []]] :: nmBody.drop 5 from rfl]
  rw [evSs_cons, evS_fors, hs, Option.bind_some]
  have hi : iterV (cxOf (L4.pr sx) F (runF (L4.pr sx) F (d + 1))) (h13 .bad sm tx qs ds dl ty title cl rs nm vv []) (.str tail) = some (tail.map fun ch => V.str [ch]) := rfl
  show ∃ L', Kp [25] L L' ∧ Option.bind (Option.bind (iterV _ _ _) _) _ = _
  rw [hi, Option.bind_some]
  rcases ht with rfl | ⟨c, rfl, hcc⟩
  · refine ⟨L, Kp.rfl, ?_⟩
    rw [show ((secErrs []).map errV) = [] from rfl, List.append_nil]
    refine Eq.trans (congrArg (fun x => Option.bind x _) (forL_nil.trans (if_pos (still_iff.mpr rfl)))) rfl
  · refine ⟨putK 25 (.str [c]) L, Kp.rfl.put rfl, ?_⟩
    have hb : evSs (cxOf (L4.pr sx) F (runF (L4.pr sx) F (d + 1))) [.ifs (.cmp .eq (.loc 25) (.const (.str [0]))) [.expr (.append (.loc 15) (.call 806 [.const (.str wInv)]))] [.ifs (.cmp .eq (.loc 25) (.const (.str [39]))) [.expr (.append (.loc 15) (.call 806 [.const (.str wChr)]))] []]] 13 (putK 25 (.str [c]) L) (h13 .bad sm tx qs ds dl ty title cl rs nm vv []) =
        some (.next, putK 25 (.str [c]) L, h13 .bad sm tx qs (ds ++ (secErrs [c]).map errV) dl ty title cl rs nm vv []) := by
      have t0 : ∀ y, evT (cxOf (L4.pr sx) F (runF (L4.pr sx) F (d + 1))) (.cmp .eq (.loc 25) (.const (.str [y]))) (putK 25 (.str [c]) L) (h13 .bad sm tx qs ds dl ty title cl rs nm vv []) = some (([c] : List Nat) == [y], h13 .bad sm tx qs ds dl ty title cl rs nm vv []) := fun y => cmpT (getE gk_eq) (b := .str [y]) rfl rfl
      have da : ∀ w, evSs (cxOf (L4.pr sx) F (runF (L4.pr sx) F (d + 1))) [.expr (.append (.loc 15) (.call 806 [.const (.str w)]))] 13 (putK 25 (.str [c]) L) (h13 .bad sm tx qs ds dl ty title cl rs nm vv []) = some (.next, putK 25 (.str [c]) L, h13 .bad sm tx qs (ds ++ [errV w]) dl ty title cl rs nm vv []) := fun w => due_add hC (Nat.le_trans hd (by decide)) (gk_ne (by decide) (hL.get rfl))
      rcases hcc with rfl | rfl | rfl | rfl
      · rw [show ((secErrs [98]).map errV) = [] from rfl, List.append_nil]; exact ifFn (t0 0) (ifN (t0 39))
      · rw [show ((secErrs [66]).map errV) = [] from rfl, List.append_nil]; exact ifFn (t0 0) (ifN (t0 39))
      · exact ifFn (t0 0) (ifTn (t0 39) (da wChr))
      · exact ifTn (t0 0) (da wInv)
    refine Eq.trans (congrArg (a₂ := some (Fl.next, putK 25 (.str [c]) L, h13 .bad sm tx qs (ds ++ (secErrs [c]).map errV) dl ty title cl rs nm vv [])) (fun x => Option.bind x _) ?_) rfl
    exact forL_one (still_iff.mpr rfl) rfl hb (still_iff.mpr rfl)
end
end PL
end
section
namespace PL
open Builtin.Str StrLaws
noncomputable def strsL (l : List (List Nat)) : O := .list (l.map V.str)
theorem strs_map {f : V → V} (hf : ∀ s, f (.str s) = .str s) (l : List (List Nat)) : oMap f (strsL l) = strsL l := by
  show O.list ((l.map V.str).map f) = _
  rw [List.map_map]
  exact congrArg O.list (List.map_congr_left fun s qq1 => hf s)
theorem strs_cl {σ : St} {n : Nat} (l : List (List Nat)) : oMap (rv σ n) (strsL l) = strsL l := strs_map (fun qq1 => rfl) l
section
variable {F d : Nat} {sx : List (Nat × O)} {sm tx : O} {t m : List Nat} {k : Nat} {q qs ds rs ps dl : List V} {kvs : List (List Nat × List Nat)} {ty : Int} {title nm vv : List Nat} {cl : Bool} {L : Loc} {r : List PS} {z n : Nat} {n0 : List Nat} {ex : List O}
theorem cldX (H : SvO t m sm tx k) (hq : Fz qs) (hd : Fz ds) (hp : Fz ps) (hr : Fz rs) (hx : ∀ s n, ex.map (oMap (rv s n)) = ex) : Cld (h13 .bad sm tx qs ds (ps ++ [V.ref 12]) ty title cl rs nm vv ex) := by
  refine cld_hS H fun s => ?_
  have h : ∀ a, a < 13 → rv s (ex.length + 13) (.ref a) = .ref a := fun a ha => rv_low (Nat.lt_of_lt_of_le ha (Nat.le_add_left _ _))
  refine ⟨?_, ?_⟩
  · show O.inst 762 [(13, rv s (ex.length + 13) (.ref 1)), _, _, (37, rv s (ex.length + 13) (.ref 6)), _, _, (19, rv s (ex.length + 13) (.ref 10)), (12, rv s (ex.length + 13) (.ref 7))] = _
    rw [h 1 (by decide), h 6 (by decide), h 10 (by decide), h 7 (by decide)]; rfl
  · show O.list [] :: .list (qs.map (rv s (ex.length + 13))) :: .list (ds.map (rv s (ex.length + 13))) :: .list ((ps ++ [V.ref 12]).map (rv s (ex.length + 13))) :: .dict [_, _, (sData, rv s (ex.length + 13) (.ref 9)), _] :: .list (rs.map (rv s (ex.length + 13))) :: _ :: ex.map (oMap (rv s (ex.length + 13))) = _
    rw [hq, hd, hr, hx, List.map_append, hp, h 9 (by decide), List.map_cons, h 12 (by decide)]; rfl
theorem comp_keys (h20 : getK 20 L = some (.ref 11)) (hk : kvs.length ≤ 10) : evE (cxOf (L4.pr sx) F (runF (L4.pr sx) F d)) (.comp (.many [26, 27]) (.loc 20) (.loc 26)) L (h13 .bad sm tx qs ds dl ty title cl (kvs.map pairV) nm vv ex) =
    some (.ref (ex.length + 13), h13 .bad sm tx qs ds dl ty title cl (kvs.map pairV) nm vv (ex ++ [strsL (kvs.map Prod.fst)])) := by
  have hc := compL_pure (σ := h13 .bad sm tx qs ds dl ty title cl (kvs.map pairV) nm vv ex) (bind := fun v L s => bindFt (cxOf (L4.pr sx) F (runF (L4.pr sx) F d)) s (.many [26, 27]) v L) (still := fun s => stillV (cxOf (L4.pr sx) F (runF (L4.pr sx) F d)) (h13 .bad sm tx qs ds dl ty title cl (kvs.map pairV) nm vv ex) s (.ref 11)) (elt := fun L1 s => (evE (cxOf (L4.pr sx) F (runF (L4.pr sx) F d)) (.loc 26) L1 s).map fun (v, s2) => ([v], s2))
    (fun v => match v with | .frz (.list (v :: _)) => v | v => v) (still_iff.mpr rfl) (kvs.map pairV) L fun v hv L => by
      obtain ⟨p, _, rfl⟩ := List.mem_map.mp hv
      exact ⟨_, rfl, by rw [getE (show getK 26 (putK 27 (.str p.2) (putK 26 (.str p.1) L)) = some (.str p.1) from gk_ne (by decide) gk_eq)]; rfl⟩
  rw [evE_comp, getE h20, Option.bind_some]
  show (Option.bind (some (kvs.map pairV)) _) = _
  rw [Option.bind_some]
  show (Option.bind (compL _ _ _ _ _ _) _) = _
  rw [hc, Option.bind_some]
  show allocL _ _ = _
  have e : (kvs.map pairV).map (fun v => match v with | .frz (.list (v :: _)) => v | v => v) = (kvs.map Prod.fst).map V.str := by rw [List.map_map, List.map_map]; rfl
  rw [e, allocL_eq (by rw [List.length_map, List.length_map]; exact Nat.le_trans hk (by decide))]
  rfl
theorem due_dup (S : SvO t m sm tx k) (hq : Fz qs) (hd : Fz ds) (hp : Fz ps) (hn : n0.length ≤ 1000) (hk : kvs.length ≤ 10) (hdl : ds.length ≤ 1000) (hL : LK L [(8, .str n0), (15, .ref 8), (20, .ref 11)]) : ∃ g,
    evSs (cxOf (L4.pr sx) F (runF (L4.pr sx) F (d + 1))) (nmBody.drop 5) z L (h13 .bad sm tx qs ds (ps ++ [V.ref 12]) ty title cl (kvs.map pairV) nm vv []) =
    evSs (cxOf (L4.pr sx) F (runF (L4.pr sx) F (d + 1))) (nmBody.drop 6) z L (h13 .bad sm tx qs (ds ++ (dupErr kvs (small n0)).map errV) (ps ++ [V.ref 12]) ty title cl (kvs.map pairV) nm vv [strsL g, strsL (kvs.map Prod.fst)]) := by
  refine ⟨(n0.map zed).map fun x => [low x], ?_⟩
  have h1 : evE (cxOf (L4.pr sx) F (runF (L4.pr sx) F (d + 1))) (.call 799 [.loc 8]) L (h13 .bad sm tx qs ds (ps ++ [V.ref 12]) ty title cl (kvs.map pairV) nm vv []) = some (.str (small n0), h13 .bad sm tx qs ds (ps ++ [V.ref 12]) ty title cl (kvs.map pairV) nm vv [strsL ((n0.map zed).map fun x => [low x])]) := by
    rw [evE_call, evEs_cons, getE (hL.get rfl)]
    exact x799 hn
  have h2 := comp_keys (F := F) (d := d + 1) (sx := sx) (sm := sm) (tx := tx) (qs := qs) (ds := ds) (dl := ps ++ [V.ref 12]) (ty := ty) (title := title) (cl := cl) (nm := nm) (vv := vv) (ex := [strsL ((n0.map zed).map fun x => [low x])]) (hL.get (i := 20) rfl) hk
  have ht := cmpT (op := .isin) h1 h2 (x := kvs.any fun p => p.1 == small n0) (by
    show inL (.str (small n0)) ((kvs.map Prod.fst).map V.str) = _
    rw [List.map_map]; exact inL_keys _ _)
  unfold dupErr
  cases hb : (kvs.any fun p => p.1 == small n0) with
  | false =>
    rw [hb] at ht
    rw [show ((if false = true then [wDup] else [] : List (List Nat)).map errV) = [] from rfl, List.append_nil]
    exact ifN ht
  | true =>
    rw [hb] at ht
    exact ifTn ht (due_add (cldX S hq hd hp Fz.pairs fun s n => by rw [List.map_append, List.map_cons, strs_cl, List.map_cons, strs_cl]; rfl) hdl (hL.get rfl))
end
end PL
end
section
namespace PL
open Builtin.Str StrLaws
theorem sm_cl {t m : List Nat} {sm tx : O} {k : Nat} (S : SvO t m sm tx k) {σ : St} {n : Nat} (h : 6 ≤ n) : oMap (rv σ n) sm = sm ∧ oMap (rv σ n) tx = tx := by
  cases S with | @mk chunk off buf p pre rst _ _ _ _ _ =>
  have r2 : ∀ a, a < 6 → rv σ n (.ref a) = .ref a := fun a ha => rv_low (Nat.lt_of_lt_of_le ha h)
  refine ⟨?_, rfl⟩
  show O.inst 166 [(52, rv σ n (.ref 2)), (67, rv σ n (.ref 3)), (48, rv σ n (.ref 4)), _, _, _, (77, rv σ n (.ref 5)), _, _, (50, rv σ n (bufV buf))] = _
  rw [r2 2 (by decide), r2 3 (by decide), r2 4 (by decide), r2 5 (by decide), rv_buf]; rfl
theorem neC {c : Cx} {σ : St} {a b : Nat} {q : List V} (h : QOk q) (ha : σ[a]? = some (.list q)) (hb : σ[b]? = some (.list q)) : cmpV c σ .ne (.ref a) (.ref b) = some false := ne_self h ha hb
theorem gcNx {c : Cx} {k z : Nat} {r : List PS} {L : Loc} {σ : St} : evSs c (.gc k :: r) z L σ = evSs c r z (gcL σ (z + k) L) (gcS σ (z + k)) := by rw [evSs_cons]; rfl
section
variable {F d : Nat} {sx : List (Nat × O)} {sm tx : O} {t m : List Nat} {k : Nat} {q qs ds rs ps dl : List V} {kvs : List (List Nat × List Nat)} {ty : Int} {title nm vv n0 : List Nat} {cl : Bool} {L : Loc} {r : List PS} {z n cnt : Nat} {ex : List O} {g1 g2 : List (List Nat)}
noncomputable def hN (sm tx : O) (q : List V) (kvs : List (List Nat × List Nat)) (ty : Int) (title : List Nat) (cl : Bool) (nm vv : List Nat) (g1 g2 g3 : List (List Nat)) : St :=
  h13 .bad sm tx q q (kvs.map pairV ++ [V.ref 12]) ty title cl (kvs.map pairV ++ [V.ref 16]) nm vv [strsL g1, strsL g2, strsL g3, .list [.str nm, .str vv]]
theorem gcN (S : SvO t m sm tx k) (hq : QOk q) {g3 : List (List Nat)} : gcS (hN sm tx q kvs ty title cl nm vv g1 g2 g3) 12 = h12 sm tx q (kvs ++ [(nm, vv)]) ty title cl := by
  obtain ⟨h1, h2⟩ := sm_cl S (σ := hN sm tx q kvs ty title cl nm vv g1 g2 g3) (n := 12) (by decide)
  have h3 : q.map (rv (hN sm tx q kvs ty title cl nm vv g1 g2 g3) 12) = q := hq.z _ _
  have h4 : (kvs.map pairV ++ [V.ref 12]).map (rv (hN sm tx q kvs ty title cl nm vv g1 g2 g3) 12) = (kvs ++ [(nm, vv)]).map pairV := by
    rw [List.map_append, Fz.pairs, List.map_append]; rfl
  have h5 : (kvs.map pairV ++ [V.ref 16]).map (rv (hN sm tx q kvs ty title cl nm vv g1 g2 g3) 12) = (kvs ++ [(nm, vv)]).map pairV := by
    rw [List.map_append, Fz.pairs, List.map_append]; rfl
  generalize hf : rv (hN sm tx q kvs ty title cl nm vv g1 g2 g3) 12 = f at h1 h2 h3 h4 h5
  have : gcS (hN sm tx q kvs ty title cl nm vv g1 g2 g3) 12 = hS (rdO .bad (.ref 10)) (oMap f sm) (oMap f tx) [O.list [], .list (q.map f), .list (q.map f), .list ((kvs.map pairV ++ [V.ref 12]).map f), .dict (tkD ty title (.ref 9) cl), .list ((kvs.map pairV ++ [V.ref 16]).map f)] := by
    subst hf; rfl
  rw [this, h1, h2, h3, h4, h5]; rfl
theorem name_cmp (hq : QOk q) (hL : LK L [(11, .ref 0), (15, .ref 8), (18, .ref 10), (20, .ref 11)]) :
    evSs (cxOf (L4.pr sx) F (runF (L4.pr sx) F d)) (nmBody.drop 10) z L (h12 sm tx q kvs ty title cl) = some (.next, L, h12 sm tx q kvs ty title cl) := by
  have h18 : evE (cxOf (L4.pr sx) F (runF (L4.pr sx) F d)) (.sub (.loc 18) (.const (.str [100, 97, 116, 97]))) L (h12 sm tx q kvs ty title cl) = some (.ref 9, h12 sm tx q kvs ty title cl) := subE (getE (hL.get rfl)) (b := .str sData) rfl (v := .ref 9) rfl
  have h12' : evE (cxOf (L4.pr sx) F (runF (L4.pr sx) F d)) (.attr (.loc 11) 12) L (h12 sm tx q kvs ty title cl) = some (.ref 7, h12 sm tx q kvs ty title cl) := by
    rw [evE_attr, getE (hL.get rfl)]; rfl
  exact ifN (orT0 (cmpT h18 (getE (hL.get rfl)) (neC (QOk.pairs kvs) rfl rfl)) (cmpT h12' (getE (hL.get rfl)) (neC hq rfl rfl)))
theorem name_end (S : SvO t m sm tx k) (hq : QOk q) (hk : kvs.length ≤ 10) (hn : n0.length ≤ 1000) (hL : LK L [(8, .str n0), (11, .ref 0), (15, .ref 8), (17, .int (cnt : Nat)), (18, .ref 10), (20, .ref 11)]) : ∃ s,
    evSs (cxOf (L4.pr sx) F (runF (L4.pr sx) F (d + 1))) (nmBody.drop 6) 12 L (h13 .bad sm tx q q (kvs.map pairV ++ [V.ref 12]) ty title cl (kvs.map pairV) (small n0) [] [strsL g1, strsL g2]) =
    some (.next, gcL s 12 (putK 17 (.int ((cnt + 1 : Nat) : Int)) L), h12 sm tx q (kvs ++ [(small n0, mark cnt)]) ty title cl) := by
  refine ⟨hN sm tx q kvs ty title cl (small n0) (mark cnt) g1 g2 ((n0.map zed).map fun x => [low x]), ?_⟩
  have h9 : ∀ σ, σ = h13 .bad sm tx q q (kvs.map pairV ++ [V.ref 12]) ty title cl (kvs.map pairV) (small n0) [] [strsL g1, strsL g2] → evE (cxOf (L4.pr sx) F (runF (L4.pr sx) F (d + 1))) (.sub (.sub (.loc 18) (.const (.str [100, 97, 116, 97]))) (.neg (.const (.int 1)))) L σ = some (.ref 12, σ) := by
    rintro _ rfl
    exact subE (subE (getE (hL.get rfl)) (b := .str sData) rfl (v := .ref 9) rfl) (b := .int (-1)) rfl subLast
  refine (asgS (mark_eq (hL.get rfl)) (h9 _ rfl) (iv := .int 1) rfl (σ3 := h13 .bad sm tx q q (kvs.map pairV ++ [V.ref 12]) ty title cl (kvs.map pairV) (small n0) (mark cnt) [strsL g1, strsL g2]) rfl).trans ?_
  have hl : evE (cxOf (L4.pr sx) F (runF (L4.pr sx) F (d + 1))) (.listE [.call 799 [.loc 8], markE]) L (h13 .bad sm tx q q (kvs.map pairV ++ [V.ref 12]) ty title cl (kvs.map pairV) (small n0) (mark cnt) [strsL g1, strsL g2]) = some (.ref 16, h13 .bad sm tx q q (kvs.map pairV ++ [V.ref 12]) ty title cl (kvs.map pairV) (small n0) (mark cnt) [strsL g1, strsL g2, strsL ((n0.map zed).map fun x => [low x]), .list [.str (small n0), .str (mark cnt)]]) := by
    rw [evE_listE, evEs_cons, evE_call, evEs_cons, getE (hL.get rfl)]
    refine Eq.trans (congrArg (fun x => Option.bind (Option.bind x _) _) (x799 (F := F) (d := d) (sx := sx) hn)) ?_
    show (Option.bind (Option.bind (evEs _ [markE] _ _) _) _) = _
    rw [evEs_cons, mark_eq (hL.get rfl)]; rfl
  refine (exprS (appE (getE (hL.get rfl)) rfl hl rfl (by rw [List.length_map]; exact Nat.le_trans hk (by decide)) (σ' := hN sm tx q kvs ty title cl (small n0) (mark cnt) g1 g2 ((n0.map zed).map fun x => [low x])) rfl)).trans ?_
  refine (augLI (b := 1) (hL.get (i := 17) rfl) rfl).trans ?_
  refine (gcNx (k := 0) (r := nmBody.drop 10)).trans ?_
  show (evSs _ (nmBody.drop 10) 12 (gcL _ 12 (putK 17 (.int ((cnt : Int) + 1)) L)) (gcS _ 12)) = _
  rw [gcN S hq]
  exact name_cmp hq ((hL.put (j := 17) (v := .int ((cnt + 1 : Nat) : Int))).gc.sub ⟨rfl, rfl, rfl, rfl, trivial⟩)
end
end PL
end
section
namespace PL
open Builtin.Str StrLaws
noncomputable def nl13 (x : Nat) : Nat := if x = 13 then 10 else x
noncomputable def txt (names : List (List Nat × List Nat)) : List Nat := (names.map fun n => n.1 ++ n.2.map nl13).flatten
structure NameOk (n : List Nat × List Nat) : Prop where
  h1 : n.1 ∈ namesL
  h2 : n.2 ∈ endsL
theorem all_mem {α : Type} {P : α → Prop} : ∀ {l : List α}, l.foldr (fun a p => P a ∧ p) True → ∀ a ∈ l, P a
  | _ :: _, h, _, .head _ => h.1
  | _ :: _, h, a, .tail _ k => all_mem h.2 a k
theorem name_shape : ∀ n ∈ namesL, ∃ c0 tail, n = c0 :: tail ∧ c0 ≠ 0 ∧ (tail = [] ∨ ∃ c, tail = [c] ∧ (c = 98 ∨ c = 66 ∨ c = 39 ∨ c = 0)) :=
  all_mem ⟨⟨_, _, rfl, by decide, .inl rfl⟩, ⟨_, _, rfl, by decide, .inl rfl⟩, ⟨_, _, rfl, by decide, .inr ⟨_, rfl, .inl rfl⟩⟩, ⟨_, _, rfl, by decide, .inr ⟨_, rfl, .inr (.inl rfl)⟩⟩, ⟨_, _, rfl, by decide, .inl rfl⟩,
    ⟨_, _, rfl, by decide, .inl rfl⟩, ⟨_, _, rfl, by decide, .inl rfl⟩, ⟨_, _, rfl, by decide, .inr ⟨_, rfl, .inr (.inr (.inl rfl))⟩⟩, ⟨_, _, rfl, by decide, .inr ⟨_, rfl, .inr (.inr (.inl rfl))⟩⟩, ⟨_, _, rfl, by decide, .inr ⟨_, rfl, .inr (.inr (.inr rfl))⟩⟩, trivial⟩
theorem end_shape : ∀ n ∈ endsL, ∃ x, n.map nl13 = [x] ∧ (x = 61 ∨ x = 47 ∨ x = 32 ∨ x = 10 ∨ x = 9) :=
  all_mem ⟨⟨32, rfl, .inr (.inr (.inl rfl))⟩, ⟨61, rfl, .inl rfl⟩, ⟨47, rfl, .inr (.inl rfl)⟩, ⟨10, rfl, .inr (.inr (.inr (.inl rfl)))⟩, ⟨9, rfl, .inr (.inr (.inr (.inr rfl)))⟩, ⟨10, rfl, .inr (.inr (.inr (.inl rfl)))⟩, trivial⟩
noncomputable def nF (kd ti m : List Nat) (cl : Bool) (k cnt : Nat) : List (Nat × V) := [(4, .str kd), (5, .str ti), (6, .bool cl), (10, .str m), (11, .ref 0), (15, .ref 8), (16, .int (k : Nat)), (17, .int (cnt : Nat)), (18, .ref 10), (20, .ref 11)]
noncomputable def nmV (n : List Nat × List Nat) : V := .frz (.tuple [.str n.1, .str n.2])
theorem secErrs_len {tail : List Nat} (ht : tail = [] ∨ ∃ c, tail = [c] ∧ (c = 98 ∨ c = 66 ∨ c = 39 ∨ c = 0)) : (secErrs tail).length ≤ 1 := by
  rcases ht with rfl | ⟨c, rfl, rfl | rfl | rfl | rfl⟩
  · exact Nat.zero_le _
  · exact Nat.zero_le _
  · exact Nat.zero_le _
  · exact Nat.le_refl _
  · exact Nat.le_refl _
theorem dupErr_len {kvs : List (List Nat × List Nat)} {n : List Nat} : (dupErr kvs n).length ≤ 1 := by
  unfold dupErr
  split
  · exact Nat.le_refl _
  · exact Nat.zero_le _
section
variable {F d : Nat} {sx : List (Nat × O)} {sm tx : O} {t m : List Nat} {k : Nat} {q : List V} {kvs : List (List Nat × List Nat)} {ty : Int} {title kd ti : List Nat} {cl : Bool} {L : Loc} {cnt c0 x B : Nat} {tail rst : List Nat}
theorem name_step (hF : 1000 < F) (hm1 : m.length ≤ 1000) (S : SvO t m sm tx k) (hq : QOk q) (hql : q.length ≤ 800) (hk : kvs.length ≤ 10) (hc0 : c0 ≠ 0) (ht : tail = [] ∨ ∃ c, tail = [c] ∧ (c = 98 ∨ c = 66 ∨ c = 39 ∨ c = 0)) (hx : x = 61 ∨ x = 47 ∨ x = 32 ∨ x = 10 ∨ x = 9)
    (hm : m.drop k = c0 :: (tail ++ x :: rst)) (hL : LK L ((8, .str (c0 :: tail)) :: nF kd ti m cl k cnt)) : ∃ sm' tx' L', SvO t m sm' tx' (k + 1 + tail.length + 1) ∧ LK L' (nF kd ti m cl (k + 1 + tail.length + 1) (cnt + 1)) ∧
    evSs (cxOf (L4.pr sx) F (runF (L4.pr sx) F (d + 5))) nmBody 12 L (h12 sm tx q kvs ty title cl) = some (.next, L', h12 sm' tx' (q ++ (secErrs tail ++ dupErr kvs (small (c0 :: tail))).map errV) (kvs ++ [(small (c0 :: tail), mark cnt)]) ty title cl) := by
  have hc : m[k]? = some c0 := by rw [← Nat.add_zero k, ← List.getElem?_drop, hm]; rfl
  have hmd : m.drop (k + 1) = tail ++ x :: rst := by rw [← List.drop_drop, hm]; rfl
  have hsm : small (c0 :: tail) = (c0 :: tail.map zed).map low := by unfold small; rw [List.map_cons, zed_ne hc0]
  have htl : (c0 :: tail).length ≤ 1000 := by rcases ht with rfl | ⟨c, rfl, _⟩; exact (by decide : 1 ≤ 1000); exact (by decide : 2 ≤ 1000)
  have hs1 := secErrs_len ht
  obtain ⟨sm1, tx1, S1, e1⟩ := nm0 (F := F) (d := d) (sx := sx) (q := q) (ty := ty) (title := title) (cl := cl) (tail := tail) (z := 12) S hc hk (hL.sub ⟨rfl, rfl, rfl, rfl, trivial⟩)
  have hL1 : LK (putK 22 (.int (0 : Nat)) (putK 16 (.int ((k + 1 + tail.length + 1 : Nat) : Int)) L)) ((22, .int (0 : Nat)) :: (8, .str (c0 :: tail)) :: nF kd ti m cl (k + 1 + tail.length + 1) cnt) := (hL.put (j := 16)).new
  obtain ⟨sm2, tx2, L2, S2, K2, e2⟩ := read_name (F := F) (d := d) (sx := sx) (r := nmBody.drop 4) (z := 12) (ty := ty) (title := title) (cl := cl) (c0 := c0) (L := putK 22 (.int (0 : Nat)) (putK 16 (.int ((k + 1 + tail.length + 1 : Nat) : Int)) L)) ht hx hF hm1 hk (Nat.le_trans hql (by decide)) S1 hq.z hq.z (rs := kvs.map pairV) Fz.pairs hmd (hL1.sub ⟨rfl, rfl, rfl, rfl, trivial⟩)
  have hL2 := LK.kp K2 (hL1.sub (fs := (8, .str (c0 :: tail)) :: nF kd ti m cl (k + 1 + tail.length + 1) cnt) ⟨rfl, rfl, rfl, rfl, rfl, rfl, rfl, rfl, rfl, rfl, rfl, trivial⟩) rfl
  rw [← hsm] at e2
  have Q1 := hq.app (QOk.errs (secErrs tail ++ dupErr kvs (small (c0 :: tail))))
  have Q2 := hq.app (QOk.errs (secErrs tail))
  obtain ⟨L3, K3, e3⟩ := due_tail (F := F) (d := d + 4) (sx := sx) (sm := sm2) (tx := tx2) (qs := q ++ (secErrs tail ++ dupErr kvs (small (c0 :: tail))).map errV) (ds := q) (dl := kvs.map pairV ++ [V.ref 12]) (rs := kvs.map pairV) (ty := ty) (title := title) (cl := cl) (nm := small (c0 :: tail)) (vv := []) (z := 12) ht (cldX S2 Q1.z hq.z Fz.pairs Fz.pairs fun qq1 qq2 => rfl) (Nat.le_trans hql (by decide)) (hL2.sub ⟨rfl, rfl, trivial⟩)
  have hL3 := LK.kp K3 hL2 rfl
  have hdl : (q ++ (secErrs tail).map errV).length ≤ 1000 := by rw [List.length_append, List.length_map]; lia
  obtain ⟨g, e4⟩ := due_dup (F := F) (d := d + 4) (sx := sx) (L := L3) (nm := small (c0 :: tail)) (vv := []) (ty := ty) (title := title) (cl := cl) (z := 12) (n0 := c0 :: tail) S2 Q1.z Q2.z Fz.pairs htl hk hdl (hL3.sub ⟨rfl, rfl, rfl, trivial⟩)
  have hqe : (q ++ (secErrs tail).map errV) ++ (dupErr kvs (small (c0 :: tail))).map errV = q ++ (secErrs tail ++ dupErr kvs (small (c0 :: tail))).map errV := by rw [List.append_assoc, ← List.map_append]
  rw [hqe] at e4
  obtain ⟨s, e5⟩ := name_end (F := F) (d := d + 4) (sx := sx) (L := L3) (ty := ty) (title := title) (cl := cl) (n0 := c0 :: tail) (g1 := g) (g2 := kvs.map Prod.fst) S2 Q1 hk htl (hL3.sub ⟨rfl, rfl, rfl, rfl, rfl, rfl, trivial⟩)
  exact ⟨sm2, tx2, _, S2, ((hL3.put (j := 17) (v := .int ((cnt + 1 : Nat) : Int))).gc).sub (fs := nF kd ti m cl (k + 1 + tail.length + 1) (cnt + 1)) ⟨rfl, rfl, rfl, rfl, rfl, rfl, rfl, rfl, rfl, rfl, trivial⟩, e1.trans (e2.trans (e3.trans (e4.trans e5)))⟩
inductive NI (t m kd ti title : List Nat) (ty : Int) (cl : Bool) (rst : List Nat) (B : Nat) : List V → Loc → St → Prop
  | mk {names : List (List Nat × List Nat)} {sm tx : O} {q : List V} {kvs : List (List Nat × List Nat)} {k cnt : Nat} {L : Loc} : (∀ n ∈ names, NameOk n) → LK L (nF kd ti m cl k cnt) → SvO t m sm tx k → m.drop k = txt names ++ rst → QOk q → q.length + 2 * names.length ≤ B → kvs.length + names.length ≤ 4 → (∀ p ∈ kvs, p.1.length ≤ 100) →
    NI t m kd ti title ty cl rst B (names.map nmV) L (h12 sm tx q kvs ty title cl)
theorem names_loop {σ0 : St} {o : O} (hF : 1000 < F) (hm1 : m.length ≤ 1000) (hB : B ≤ 800) {xs : List V} {L : Loc} {σ : St} (h : NI t m kd ti title ty cl rst B xs L σ) :
    OutS (forL (fun v L s => bindFt (cxOf (L4.pr sx) F (runF (L4.pr sx) F (d + 5))) s (.many [8, 9]) v L) (fun s => stillV (cxOf (L4.pr sx) F (runF (L4.pr sx) F (d + 5))) σ0 s (.frz o)) (fun L s => evSs (cxOf (L4.pr sx) F (runF (L4.pr sx) F (d + 5))) nmBody 12 L s) xs L σ) (fun f L σ => f = .next ∧ NI t m kd ti title ty cl rst B [] L σ) := by
  refine forL_rule (NI t m kd ti title ty cl rst B) (fun v vs L σ h => ⟨still_iff.mpr rfl, ?_⟩) (fun L σ h => ⟨still_iff.mpr rfl, rfl, h⟩) xs L σ h
  generalize hv : v :: vs = ws at h
  cases h with | @mk names sm tx q kvs k cnt _ hok hL S hm hq hql hkl hkk =>
  cases names with
  | nil => cases hv
  | cons n names =>
    obtain ⟨rfl, rfl⟩ := List.cons.inj hv
    refine ⟨putK 9 (.str n.2) (putK 8 (.str n.1) L), rfl, ?_⟩
    obtain ⟨c0, tail, en, hc0, htl⟩ := name_shape n.1 (hok n (.head _)).h1
    obtain ⟨e, ee, he⟩ := end_shape n.2 (hok n (.head _)).h2
    have hm' : m.drop k = c0 :: (tail ++ e :: (txt names ++ rst)) := by
      rw [hm]
      show ((n.1 ++ n.2.map nl13) ++ txt names) ++ rst = _
      rw [en, ee]; simp
    have hs1 := secErrs_len htl
    have hd1 := dupErr_len (kvs := kvs) (n := small (c0 :: tail))
    rw [List.length_cons] at hql hkl
    obtain ⟨sm', tx', L', S', hL', e'⟩ := name_step (F := F) (d := d) (sx := sx) (ty := ty) (title := title) (cl := cl) (kd := kd) (ti := ti) (L := putK 9 (.str n.2) (putK 8 (.str n.1) L)) hF hm1 S hq (by lia) (by lia : kvs.length ≤ 10) hc0 htl he hm' (((hL.new (j := 8) (v := .str n.1)).put (j := 9) (v := .str n.2)).sub ⟨by rw [en]; rfl, rfl, rfl, rfl, rfl, rfl, rfl, rfl, rfl, rfl, rfl, trivial⟩)
    refine ⟨_, _, _, e', .mk (fun n h => hok n (.tail _ h)) hL' S' ?_ (hq.app (QOk.errs _)) ?_ ?_ ?_⟩
    · rw [show k + 1 + tail.length + 1 = k + (c0 :: tail ++ [e]).length by rw [List.length_append, List.length_cons]; simp; lia, ← List.drop_drop, hm']
      rw [show c0 :: (tail ++ e :: (txt names ++ rst)) = (c0 :: tail ++ [e]) ++ (txt names ++ rst) by simp, List.drop_left]
    · rw [List.length_append, List.length_map, List.length_append]; lia
    · rw [List.length_append, List.length_singleton]; lia
    · intro p hp
      rcases List.mem_append.mp hp with hp | hp
      · exact hkk p hp
      · obtain rfl := List.mem_singleton.mp hp
        show ((List.map low (List.map zed (c0 :: tail)))).length ≤ 100
        rw [List.length_map, List.length_map]
        rcases htl with rfl | ⟨c, rfl, _⟩
        · exact (by decide : 1 ≤ 100)
        · exact (by decide : 2 ≤ 100)
end
end PL
end
section
namespace PL
open Builtin.Str StrLaws
section
variable {β : Type}
theorem gS_cons (k j : List Nat) (v : β) (r : List (List Nat × β)) : getS k ((j, v) :: r) = if j = k then some v else getS k r := rfl
theorem gS_putS (k j : List Nat) (v : β) : ∀ d, getS k (putS j v d) = if j = k then some v else getS k d
  | [] => rfl
  | (i, w) :: r => by
    show getS k (if i = j then (i, v) :: r else (i, w) :: putS j v r) = _
    by_cases h : i = j
    · subst h
      rw [if_pos rfl, gS_cons, gS_cons]
      by_cases h2 : i = k
      · rw [if_pos h2, if_pos h2]
      · rw [if_neg h2, if_neg h2, if_neg h2]
    · rw [if_neg h, gS_cons, gS_putS k j v r, gS_cons]
      by_cases h2 : i = k
      · rw [if_pos h2, if_pos h2, if_neg fun e => h (h2.trans e.symm)]
      · rw [if_neg h2, if_neg h2]
noncomputable def ks (d : List (List Nat × β)) : List (List Nat) := d.map Prod.fst
theorem putS_old {j : List Nat} {v : β} : ∀ {d}, j ∈ ks d → ks (putS j v d) = ks d ∧ (putS j v d).length = d.length
  | (i, w) :: r, h => by
    show ks (if i = j then (i, v) :: r else (i, w) :: putS j v r) = _ ∧ (if i = j then (i, v) :: r else (i, w) :: putS j v r).length = _
    by_cases h1 : i = j
    · rw [if_pos h1]; exact ⟨rfl, rfl⟩
    · rw [if_neg h1]
      have := putS_old (v := v) ((List.mem_cons.mp h).resolve_left (Ne.symm h1))
      exact ⟨congrArg (i :: ·) this.1, congrArg Nat.succ this.2⟩
theorem putS_new {j : List Nat} {v : β} : ∀ {d}, j ∉ ks d → putS j v d = d ++ [(j, v)]
  | [], _ => rfl
  | (i, w) :: r, h => by
    have h := not_or.mp fun h' => h (List.mem_cons.mpr h')
    show (if i = j then (i, v) :: r else (i, w) :: putS j v r) = _
    rw [if_neg (Ne.symm h.1), putS_new h.2]; rfl
theorem gS_none {k : List Nat} : ∀ {d : List (List Nat × β)}, k ∉ ks d → getS k d = none
  | [], _ => rfl
  | (i, w) :: r, h => by
    have h := not_or.mp fun h' => h (List.mem_cons.mpr h')
    rw [gS_cons, if_neg (Ne.symm h.1)]; exact gS_none h.2
theorem gS_some {k : List Nat} : ∀ {d : List (List Nat × β)}, k ∈ ks d → (getS k d).isSome = true
  | (i, w) :: r, h => by
    rw [gS_cons]
    by_cases h1 : i = k
    · rw [if_pos h1]; rfl
    · rw [if_neg h1]; exact gS_some ((List.mem_cons.mp h).resolve_left (Ne.symm h1))
theorem mem_putS {k j : List Nat} {v : β} {d : List (List Nat × β)} (h : k ∈ ks d ∨ k = j) : k ∈ ks (putS j v d) := by
  by_cases hj : j ∈ ks d
  · rw [(putS_old hj).1]; exact h.elim id fun (e : k = j) => e ▸ hj
  · rw [putS_new hj, ks, List.map_append]
    exact List.mem_append.mpr (h.imp id fun (e : k = j) => e ▸ .head _)
theorem nd_putS {j : List Nat} {v : β} {d : List (List Nat × β)} (h : (ks d).Nodup) : (ks (putS j v d)).Nodup := by
  by_cases hj : j ∈ ks d
  · rw [(putS_old hj).1]; exact h
  · rw [putS_new hj, ks, List.map_append]
    exact List.nodup_append.mpr ⟨h, List.nodup_cons.mpr ⟨List.not_mem_nil, .nil⟩, fun a ha b hb e => hj ((e.trans (List.mem_singleton.mp hb) : a = j) ▸ ha)⟩
theorem d_ext : ∀ {d d' : List (List Nat × β)}, ks d = ks d' → (ks d).Nodup → (∀ k, getS k d = getS k d') → d = d'
  | [], [], _, _, _ => rfl
  | [], _ :: _, h, _, _ => nomatch h
  | _ :: _, [], h, _, _ => nomatch h
  | (i, v) :: r, (j, w) :: t, h, hn, he => by
    obtain ⟨h1, h2⟩ := List.cons.inj h
    obtain rfl : i = j := h1
    obtain ⟨hn1, hn2⟩ := List.nodup_cons.mp hn
    have h3 := he i
    rw [gS_cons, gS_cons, if_pos rfl, if_pos rfl] at h3
    obtain rfl := Option.some.inj h3
    refine congrArg ((i, v) :: ·) (d_ext h2 hn2 fun k => ?_)
    by_cases hk : i = k
    · subst hk
      rw [gS_none hn1, gS_none ((show ks r = ks t from h2) ▸ hn1)]
    · have := he k
      rwa [gS_cons, gS_cons, if_neg hk, if_neg hk] at this
end
noncomputable def fstD (kvs d : List (List Nat × V)) : List (List Nat × V) := kvs.foldl (fun d p => if (getS p.1 d).isSome then d else putS p.1 p.2 d) d
theorem gS_fstD (k : List Nat) : ∀ l d : List (List Nat × V), getS k (fstD l d) = (getS k d).or (getS k l)
  | [], d => by show getS k d = _; cases getS k d <;> rfl
  | (j, v) :: r, d => by
    show getS k (fstD r (if (getS j d).isSome then d else putS j v d)) = _
    rw [gS_fstD k r, gS_cons]
    cases hj : getS j d with
    | some w =>
      show (getS k d).or _ = _
      by_cases h : j = k
      · subst h; rw [hj]; rfl
      · rw [if_neg h]
    | none =>
      show (getS k (putS j v d)).or _ = _
      rw [gS_putS]
      by_cases h : j = k
      · subst h; rw [if_pos rfl, if_pos rfl, hj]; rfl
      · rw [if_neg h, if_neg h]
theorem ks_both : ∀ (l d d' : List (List Nat × V)), ks d = ks d' → (ks d).Nodup → ks (putAll l d) = ks (fstD l d') ∧ (ks (putAll l d)).Nodup
  | [], d, d', h, n => ⟨h, n⟩
  | (j, v) :: r, d, d', h, n => by
    refine ks_both r (putS j v d) (if (getS j d').isSome then d' else putS j v d') ?_ (nd_putS n)
    by_cases hj : j ∈ ks d
    · rw [(putS_old hj).1, if_pos (gS_some (h ▸ hj))]; exact h
    · rw [gS_none (h ▸ hj), putS_new hj]
      show _ = ks (putS j v d')
      rw [putS_new (h ▸ hj), ks, ks, List.map_append, List.map_append]
      exact congrArg (· ++ [j]) h
theorem mem_putAll {k : List Nat} : ∀ {l d : List (List Nat × V)}, k ∈ ks d ∨ k ∈ ks l → k ∈ ks (putAll l d)
  | [], d, h => h.elim id fun h => nomatch h
  | (j, v) :: r, d, h => mem_putAll (l := r) (d := putS j v d) (h.elim (fun h => .inl (mem_putS (.inl h))) fun h => (List.mem_cons.mp h).elim (fun e => .inl (mem_putS (.inr e))) .inr)
theorem back (k : List Nat) (D : List (List Nat × V)) : ∀ l, (∀ p ∈ l, p.1 ∈ ks D) → ks (l.foldr (fun p d => putS p.1 p.2 d) D) = ks D ∧ getS k (l.foldr (fun p d => putS p.1 p.2 d) D) = (getS k l).or (getS k D)
  | [], _ => ⟨rfl, rfl⟩
  | (j, v) :: r, h => by
    obtain ⟨h1, h2⟩ := back k D r fun p hp => h p (.tail _ hp)
    refine ⟨?_, ?_⟩
    · show ks (putS j v (r.foldr _ D)) = _
      rw [(putS_old (h1 ▸ h (j, v) (.head _))).1]; exact h1
    · show getS k (putS j v (r.foldr _ D)) = _
      rw [gS_putS, gS_cons, h2]
      by_cases e : j = k
      · rw [if_pos e, if_pos e]; rfl
      · rw [if_neg e, if_neg e]
theorem len_putAll : ∀ (l d : List (List Nat × V)), (putAll l d).length ≤ d.length + l.length ∧ (d.length + l.length ≤ (putAll l d).length → putAll l d = fstD l d)
  | [], d => ⟨Nat.le_refl _, fun qq1 => rfl⟩
  | (j, v) :: r, d => by
    obtain ⟨h1, h2⟩ := len_putAll r (putS j v d)
    show (putAll r (putS j v d)).length ≤ d.length + (r.length + 1) ∧ (d.length + (r.length + 1) ≤ (putAll r (putS j v d)).length → putAll r (putS j v d) = fstD r (if (getS j d).isSome then d else putS j v d))
    by_cases hj : j ∈ ks d
    · rw [(putS_old hj).2] at h1
      exact ⟨by lia, fun h => absurd h (by lia)⟩
    · have hl : (putS j v d).length = d.length + 1 := by rw [putS_new hj, List.length_append]; rfl
      rw [hl] at h1 h2
      refine ⟨by lia, fun h => ?_⟩
      rw [h2 (by lia), gS_none hj]; rfl
theorem dict_law (l : List (List Nat × V)) : (if (putAll l []).length < l.length then putAll l.reverse (putAll l []) else putAll l []) = fstD l [] := by
  split
  · have h0 := ks_both l [] [] rfl .nil
    have hr : putAll l.reverse (putAll l []) = l.foldr (fun p d => putS p.1 p.2 d) (putAll l []) := List.foldl_reverse
    have hm : ∀ p ∈ l, p.1 ∈ ks (putAll l []) := fun p hp => mem_putAll (.inr (List.mem_map_of_mem hp))
    rw [hr]
    have hb := fun k => back k (putAll l []) l hm
    refine d_ext ((hb []).1.trans h0.1) ((hb []).1 ▸ h0.2) fun k => ?_
    rw [(hb k).2, gS_fstD]
    by_cases hk : k ∈ ks l
    · have := gS_some hk
      cases h : getS k l with
      | none => rw [h] at this; cases this
      | some v => rfl
    · have hn : k ∉ ks (putAll l []) := fun h => by
        have h1 : (getS k (fstD l [])).isSome = true := gS_some (h0.1 ▸ h)
        rw [gS_fstD, gS_none hk] at h1; cases h1
      rw [gS_none hk, gS_none hn]; rfl
  · rename_i h
    exact (len_putAll l []).2 (by rw [List.length_nil, Nat.zero_add]; exact Nat.le_of_not_lt h)
theorem fstD_nd (l : List (List Nat × V)) : (ks (fstD l [])).Nodup := (ks_both l [] [] rfl .nil).1 ▸ (ks_both l [] [] rfl .nil).2
end PL
end
section
namespace PL
open Builtin.Str StrLaws
noncomputable def wAtt : List Nat := [97, 116, 116, 114, 105, 98, 117, 116, 101, 115, 45, 105, 110, 45, 101, 110, 100, 45, 116, 97, 103]
noncomputable def wSelf : List Nat := [115, 101, 108, 102, 45, 99, 108, 111, 115, 105, 110, 103, 45, 102, 108, 97, 103, 45, 111, 110, 45, 101, 110, 100, 45, 116, 97, 103]
noncomputable def strV (kvs : List (List Nat × List Nat)) : List (List Nat × V) := kvs.map fun p => (p.1, V.str p.2)
theorem pairsV_eq {σ : St} : ∀ kvs : List (List Nat × List Nat), pairsV σ (kvs.map pairV) = some (strV kvs)
  | [] => rfl
  | p :: kvs => by
    show (some (p.1, V.str p.2)).bind (fun p => (pairsV σ (kvs.map pairV)).map (p :: ·)) = _
    rw [pairsV_eq kvs]; rfl
theorem putAll_len : ∀ (l d : List (List Nat × V)), (putAll l d).length ≤ d.length + l.length := fun l d => (len_putAll l d).1
noncomputable def hE (st : V) (sm tx : O) (qs ds : List V) (kvs : List (List Nat × List Nat)) (ty : Int) (title : List Nat) (data : V) (cl : Bool) (ex : List O) : St :=
  hS (rdO st (.ref 10)) sm tx (.list [] :: .list qs :: .list ds :: .list (kvs.map pairV) :: .dict (tkD ty title data cl) :: .list (kvs.map pairV) :: ex)
noncomputable def emB : List PS := match (L4.f297[1]? : Option PS) with | some (PS.ifs _ b _) => b | _ => []
noncomputable def emS : List PS := match (emB[1]? : Option PS) with | some (PS.ifs _ b _) => b | _ => []
noncomputable def emT : List PS := match (emB[2]? : Option PS) with | some (PS.ifs _ b _) => b | _ => []
section
variable {F d : Nat} {sx : List (Nat × O)} {sm tx : O} {t m : List Nat} {k : Nat} {q qs qs' ds : List V} {kvs : List (List Nat × List Nat)} {ty : Int} {title : List Nat} {cl : Bool} {L : Loc} {st data data' : V} {ex : List O} {g : O} {z : Nat} {r : List PS}
theorem gcE (S : SvO t m sm tx k) (hd : Fz ds) : gcS (hE st sm tx qs ds kvs ty title data cl ex) 12 = hE (rv (hE st sm tx qs ds kvs ty title data cl ex) 12 st) sm tx (qs.map (rv (hE st sm tx qs ds kvs ty title data cl ex) 12)) ds kvs ty title (rv (hE st sm tx qs ds kvs ty title data cl ex) 12 data) cl [] := by
  obtain ⟨h1, h2⟩ := sm_cl S (σ := hE st sm tx qs ds kvs ty title data cl ex) (n := 12) (by decide)
  have h3 : ds.map (rv (hE st sm tx qs ds kvs ty title data cl ex) 12) = ds := hd _ _
  have h4 : (kvs.map pairV).map (rv (hE st sm tx qs ds kvs ty title data cl ex) 12) = kvs.map pairV := Fz.pairs _ _
  generalize hf : rv (hE st sm tx qs ds kvs ty title data cl ex) 12 = f at h1 h2 h3 h4
  have : gcS (hE st sm tx qs ds kvs ty title data cl ex) 12 = hS (rdO (f st) (.ref 10)) (oMap f sm) (oMap f tx) [O.list [], .list (qs.map f), .list (ds.map f), .list ((kvs.map pairV).map f), .dict (tkD ty title (f data) cl), .list ((kvs.map pairV).map f)] := by
    subst hf; rfl
  rw [this, h1, h2, h3, h4]; rfl
theorem em_fin {L2 : Loc} {s : St} (S : SvO t m sm tx k) (hd : Fz ds) (hql : qs.length ≤ 1000) (hs : s = hE (.ref (ex.length + 12)) sm tx (qs ++ [V.ref 10]) ds kvs ty title data cl (ex ++ [.meth 304 (.ref 0)])) (h1 : qs.map (rv s 12) = qs') (h2 : rv s 12 data = data') (h3 : rv s 12 (.ref (ex.length + 12)) = .bad) :
    evSs (cxOf (L4.pr sx) F (runF (L4.pr sx) F d)) (L4.f297.drop 2) 12 ((34, .ref 0) :: (18, .ref 10) :: L2) (hE .bad sm tx qs ds kvs ty title data cl ex) = some (.next, gcL s 12 ((34, .ref 0) :: (18, .ref 10) :: L2), hE .bad sm tx (qs' ++ [V.ref 10]) ds kvs ty title data' cl []) := by
  subst h1 h2
  refine (exprS (appE (a := 7) rfl rfl (v := .ref 10) (σ2 := hE .bad sm tx qs ds kvs ty title data cl ex) rfl rfl (Nat.le_trans hql (by decide)) (σ' := hE .bad sm tx (qs ++ [V.ref 10]) ds kvs ty title data cl ex) rfl)).trans ?_
  refine Eq.trans (b := evSs (cxOf (L4.pr sx) F (runF (L4.pr sx) F d)) [.gc 0] 12 ((34, .ref 0) :: (18, .ref 10) :: L2) s) (by rw [hs]; rfl) ?_
  refine gcNx.trans ?_
  show some (Fl.next, gcL s 12 _, gcS s 12) = _
  have e := gcE (st := .ref (ex.length + 12)) (qs := qs ++ [V.ref 10]) (kvs := kvs) (ty := ty) (title := title) (data := data) (cl := cl) (ex := ex ++ [.meth 304 (.ref 0)]) S hd
  rw [← hs] at e
  rw [e, h3, List.map_append]; rfl
theorem em_err {w : List Nat} {L2 : Loc} (hql : qs.length ≤ 1000) : evSs (cxOf (L4.pr sx) F (runF (L4.pr sx) F d)) (.expr (.append (.attr (.loc 34) 12) (errE w)) :: r) z ((34, .ref 0) :: L2) (hE .bad sm tx qs ds kvs ty title data cl ex) =
    evSs (cxOf (L4.pr sx) F (runF (L4.pr sx) F d)) r z ((34, .ref 0) :: L2) (hE .bad sm tx (qs ++ [V.ref (ex.length + 12)]) ds kvs ty title data cl (ex ++ [errO w])) :=
  exprS (appE (a := 7) rfl rfl (v := .ref (ex.length + 12)) (σ2 := hE .bad sm tx qs ds kvs ty title data cl (ex ++ [errO w])) rfl rfl (Nat.le_trans hql (by decide)) rfl)
theorem em_name (ht : title.length ≤ 1000) : evSs (cxOf (L4.pr sx) F (runF (L4.pr sx) F (d + 1))) emB z [(34, .ref 0), (18, .ref 10)] (hE .bad sm tx q q kvs ty title (.ref 9) cl []) =
    evSs (cxOf (L4.pr sx) F (runF (L4.pr sx) F (d + 1))) (emB.drop 1) z [(34, .ref 0), (18, .ref 10)] (hE .bad sm tx q q kvs ty (title.map low) (.ref 9) cl [strsL (title.map fun x => [low x])]) :=
  asgS (σ1 := hE .bad sm tx q q kvs ty title (.ref 9) cl [strsL (title.map fun x => [low x])]) (by rw [evE_call, evEs_cons]; exact x42 (F := F) (d := d) (sx := sx) ht) (ov := .ref 10) rfl (iv := .str sName) rfl rfl
theorem em_start (hk : kvs.length ≤ 10) : ∃ ex', (ex' = [] ∨ ∃ l, ex' = [O.list l]) ∧ evSs (cxOf (L4.pr sx) F (runF (L4.pr sx) F d)) emS z [(34, .ref 0), (18, .ref 10)] (hE .bad sm tx q q kvs 3 title (.ref 9) cl [g]) =
    some (.next, [(34, .ref 0), (18, .ref 10), (65, .ref 9), (29, .ref 13)], hE .bad sm tx q q kvs 3 title (.ref 13) cl (g :: .dict (fstD (strV kvs) []) :: ex')) := by
  have hl : (strV kvs).length = kvs.length := List.length_map ..
  have hp := putAll_len (strV kvs) []
  rw [List.length_nil, Nat.zero_add] at hp
  have e1 : evSs (cxOf (L4.pr sx) F (runF (L4.pr sx) F d)) emS z [(34, .ref 0), (18, .ref 10)] (hE .bad sm tx q q kvs 3 title (.ref 9) cl [g]) =
      evSs (cxOf (L4.pr sx) F (runF (L4.pr sx) F d)) (emS.drop 2) z [(34, .ref 0), (18, .ref 10), (65, .ref 9), (29, .ref 13)] (hE .bad sm tx q q kvs 3 title (.ref 9) cl [g, .dict (putAll (strV kvs) [])]) := by
    refine (asgL (v := .ref 9) (σ1 := hE .bad sm tx q q kvs 3 title (.ref 9) cl [g]) rfl).trans ((asgL (v := .ref 13) (σ1 := hE .bad sm tx q q kvs 3 title (.ref 9) cl [g, .dict (putAll (strV kvs) [])]) ?_).trans rfl)
    show (Option.bind (pairsV (hE .bad sm tx q q kvs 3 title (.ref 9) cl [g]) (kvs.map pairV)) _) = _
    rw [pairsV_eq, Option.bind_some]
    exact if_pos (Nat.le_trans (hl ▸ hk) (by decide))
  have ht : evT (cxOf (L4.pr sx) F (runF (L4.pr sx) F d)) (.cmp .gt (.len (.loc 65)) (.len (.loc 29))) [(34, .ref 0), (18, .ref 10), (65, .ref 9), (29, .ref 13)] (hE .bad sm tx q q kvs 3 title (.ref 9) cl [g, .dict (putAll (strV kvs) [])]) = some (decide ((putAll (strV kvs) []).length < (strV kvs).length), hE .bad sm tx q q kvs 3 title (.ref 9) cl [g, .dict (putAll (strV kvs) [])]) := by
    refine cmpT (a := .int ((kvs.map pairV).length : Nat)) rfl (b := .int ((putAll (strV kvs) []).length : Nat)) rfl ?_
    show some (decide (((putAll (strV kvs) []).length : Int) < ((kvs.map pairV).length : Nat))) = _
    rw [List.length_map, hl]
    exact congrArg some (decide_eq_decide.mpr Int.ofNat_lt)
  have hlaw := dict_law (strV kvs)
  by_cases h : (putAll (strV kvs) []).length < (strV kvs).length
  · rw [if_pos h] at hlaw
    rw [decide_eq_true h] at ht
    refine ⟨[O.list (kvs.map pairV).reverse], .inr ⟨_, rfl⟩, e1.trans ((ifTn ht (L1 := [(34, .ref 0), (18, .ref 10), (65, .ref 9), (29, .ref 13)]) (σ2 := hE .bad sm tx q q kvs 3 title (.ref 9) cl [g, .dict (fstD (strV kvs) []), .list (kvs.map pairV).reverse]) ((exprS (v := .none) ?_).trans rfl)).trans rfl)⟩
    rw [evE_update]
    show (Option.bind (evE _ (.rev (.loc 65)) _ _) _) = _
    have hr : evE (cxOf (L4.pr sx) F (runF (L4.pr sx) F d)) (.rev (.loc 65)) [(34, .ref 0), (18, .ref 10), (65, .ref 9), (29, .ref 13)] (hE .bad sm tx q q kvs 3 title (.ref 9) cl [g, .dict (putAll (strV kvs) [])]) = some (.ref 14, hE .bad sm tx q q kvs 3 title (.ref 9) cl [g, .dict (putAll (strV kvs) []), .list (kvs.map pairV).reverse]) := by
      refine (allocL_eq ?_ : allocL (kvs.map pairV).reverse (hE .bad sm tx q q kvs 3 title (.ref 9) cl [g, .dict (putAll (strV kvs) [])]) = _)
      rw [List.length_reverse, List.length_map]; exact Nat.le_trans hk (by decide)
    rw [hr, Option.bind_some]
    show (Option.bind (pairsV _ (kvs.map pairV).reverse) _) = _
    rw [← List.map_reverse, pairsV_eq, Option.bind_some]
    refine (if_pos (?_ : (putAll (strV kvs) []).length + (strV kvs.reverse).length ≤ LIMD)).trans ?_
    · rw [show (strV kvs.reverse).length = kvs.length by rw [strV, List.length_map, List.length_reverse]]
      show _ ≤ 500
      lia
    · rw [← hlaw, show strV kvs.reverse = (strV kvs).reverse from List.map_reverse]; rfl
  · rw [if_neg h] at hlaw
    rw [decide_eq_false h, hlaw] at ht
    rw [hlaw] at e1
    exact ⟨[], .inl rfl, e1.trans ((ifN ht).trans rfl)⟩
end
end PL
end
section
namespace PL
open Builtin.Str StrLaws
theorem fstD_all {P : List Nat × V → Prop} : ∀ (l d : List (List Nat × V)), (∀ p ∈ l, P p) → (∀ p ∈ d, P p) → ∀ p ∈ fstD l d, P p
  | [], d, _, h => h
  | (j, v) :: r, d, hl, h => by
    refine fstD_all r (if (getS j d).isSome then d else putS j v d) (fun p hp => hl p (.tail _ hp)) ?_
    by_cases hj : j ∈ ks d
    · rw [if_pos (gS_some hj)]; exact h
    · rw [gS_none hj, putS_new hj]
      intro p hp
      rcases List.mem_append.mp hp with hp | hp
      · exact h p hp
      · obtain rfl := List.mem_singleton.mp hp; exact hl _ (.head _)
noncomputable def dO (kvs : List (List Nat × List Nat)) : O := .dict (fstD (strV kvs) [])
theorem dO_str (kvs : List (List Nat × List Nat)) : ∀ p ∈ fstD (strV kvs) [], ∃ s, p.2 = .str s :=
  fstD_all _ _ (fun p hp => by obtain ⟨x, _, rfl⟩ := List.mem_map.mp hp; exact ⟨_, rfl⟩) fun qq1 h => nomatch h
theorem dO_map {f : V → V} (hf : ∀ s, f (.str s) = .str s) (kvs : List (List Nat × List Nat)) : frzO f (dO kvs) = .frz (dO kvs) := by
  show V.frz (.dict ((fstD (strV kvs) []).map fun p => (p.1, f p.2))) = V.frz (.dict (fstD (strV kvs) []))
  refine congrArg (fun l => V.frz (.dict l)) ((List.map_congr_left fun p hp => ?_).trans (List.map_id _))
  obtain ⟨s, hs⟩ := dO_str kvs p hp
  show (p.1, f p.2) = p
  rw [hs, hf, ← hs]
noncomputable def emErrs (kvs : List (List Nat × List Nat)) (cl : Bool) : List (List Nat) := (bif !kvs.isEmpty then [wAtt] else []) ++ (bif cl then [wSelf] else [])
section
variable {F d : Nat} {sx : List (Nat × O)} {sm tx : O} {t m : List Nat} {k : Nat} {q : List V} {kvs : List (List Nat × List Nat)} {title : List Nat} {cl : Bool}
theorem x297S (S : SvO t m sm tx k) (hq : Fz q) (hql : q.length ≤ 800) (hk : kvs.length ≤ 10) (ht : title.length ≤ 1000) : runF (L4.pr sx) F (d + 2) 297 [.ref 0] (hE .bad sm tx q q kvs 3 title (.ref 9) cl []) = some (.none, hE .bad sm tx (q ++ [V.ref 10]) q kvs 3 (title.map low) (.frz (dO kvs)) cl []) := by
  obtain ⟨ex', hex, e⟩ := em_start (F := F) (d := d + 1) (sx := sx) (sm := sm) (tx := tx) (q := q) (title := title.map low) (cl := cl) (g := strsL (title.map fun x => [low x])) (z := 12) hk
  have e1 : ∃ L', evSs (cxOf (L4.pr sx) F (runF (L4.pr sx) F (d + 1))) L4.f297 12 [(34, .ref 0)] (hE .bad sm tx q q kvs 3 title (.ref 9) cl []) = some (.next, L', hE .bad sm tx (q ++ [V.ref 10]) q kvs 3 (title.map low) (.frz (dO kvs)) cl []) := by
    have e2 := (asgL (c := cxOf (L4.pr sx) F (runF (L4.pr sx) F (d + 1))) (z := 12) (i := 18) (e := .attr (.loc 34) 19) (r := L4.f297.drop 1) (L := [(34, .ref 0)]) (v := .ref 10) (σ := hE .bad sm tx q q kvs 3 title (.ref 9) cl []) rfl).trans (ifTn (L := [(34, .ref 0), (18, .ref 10)]) rfl ((em_name ht).trans ((ifTn (L := [(34, .ref 0), (18, .ref 10)]) rfl e).trans (ifN rfl))))
    rcases hex with rfl | ⟨l, rfl⟩
    · exact ⟨_, e2.trans (em_fin S hq (Nat.le_trans hql (by decide)) rfl (hq _ _) (dO_map (fun qq1 => rfl) kvs) rfl)⟩
    · exact ⟨_, e2.trans (em_fin S hq (Nat.le_trans hql (by decide)) rfl (hq _ _) (dO_map (fun qq1 => rfl) kvs) rfl)⟩
  exact fn_ex rfl rfl e1 rfl
theorem x297E (S : SvO t m sm tx k) (hq : Fz q) (hql : q.length ≤ 800) (ht : title.length ≤ 1000) : runF (L4.pr sx) F (d + 2) 297 [.ref 0] (hE .bad sm tx q q kvs 5 title (.ref 9) cl []) = some (.none, hE .bad sm tx (q ++ [V.ref 10]) q kvs 5 (title.map low) (.ref 9) cl []) := by
  have e2 := (asgL (c := cxOf (L4.pr sx) F (runF (L4.pr sx) F (d + 1))) (z := 12) (i := 18) (e := .attr (.loc 34) 19) (r := L4.f297.drop 1) (L := [(34, .ref 0)]) (v := .ref 10) (σ := hE .bad sm tx q q kvs 5 title (.ref 9) cl []) rfl).trans (ifTn (L := [(34, .ref 0), (18, .ref 10)]) rfl ((em_name ht).trans ((ifN (L := [(34, .ref 0), (18, .ref 10)]) rfl).trans (ifN rfl))))
  exact fn_ex rfl rfl ⟨_, e2.trans (em_fin S hq (Nat.le_trans hql (by decide)) rfl (hq _ _) rfl rfl)⟩ rfl
theorem x297T (S : SvO t m sm tx k) (hq : Fz q) (hql : q.length ≤ 800) (ht : title.length ≤ 1000) : runF (L4.pr sx) F (d + 2) 297 [.ref 0] (hE .bad sm tx q q kvs 4 title (.ref 9) cl []) = some (.none, hE .bad sm tx (q ++ (emErrs kvs cl).map errV ++ [V.ref 10]) q kvs 4 (title.map low) (.ref 9) cl []) := by
  have l0 : q.length ≤ 1000 := Nat.le_trans hql (by decide)
  have l1 : ∀ v, (q ++ [v]).length ≤ 1000 := fun v => by rw [List.length_append]; exact Nat.le_trans (Nat.succ_le_succ hql) (by decide)
  have l2 : ∀ v w, (q ++ [v] ++ [w]).length ≤ 1000 := fun v w => by rw [List.length_append, List.length_append]; exact Nat.le_trans (Nat.succ_le_succ (Nat.succ_le_succ hql)) (by decide)
  have e2 : ∀ {L2 σ2}, evSs (cxOf (L4.pr sx) F (runF (L4.pr sx) F (d + 1))) emT 12 [(34, .ref 0), (18, .ref 10)] (hE .bad sm tx q q kvs 4 (title.map low) (.ref 9) cl [strsL (title.map fun x => [low x])]) = some (.next, L2, σ2) → evSs (cxOf (L4.pr sx) F (runF (L4.pr sx) F (d + 1))) L4.f297 12 [(34, .ref 0)] (hE .bad sm tx q q kvs 4 title (.ref 9) cl []) = evSs (cxOf (L4.pr sx) F (runF (L4.pr sx) F (d + 1))) (L4.f297.drop 2) 12 L2 σ2 := fun e => (asgL (c := cxOf (L4.pr sx) F (runF (L4.pr sx) F (d + 1))) (z := 12) (i := 18) (e := .attr (.loc 34) 19) (r := L4.f297.drop 1) (L := [(34, .ref 0)]) (v := .ref 10) (σ := hE .bad sm tx q q kvs 4 title (.ref 9) cl []) rfl).trans (ifTn (L := [(34, .ref 0), (18, .ref 10)]) rfl ((em_name ht).trans ((ifN (L := [(34, .ref 0), (18, .ref 10)]) rfl).trans ((ifTn (L := [(34, .ref 0), (18, .ref 10)]) rfl e).trans rfl))))
  have e1 : ∃ L', evSs (cxOf (L4.pr sx) F (runF (L4.pr sx) F (d + 1))) L4.f297 12 [(34, .ref 0)] (hE .bad sm tx q q kvs 4 title (.ref 9) cl []) = some (.next, L', hE .bad sm tx (q ++ (emErrs kvs cl).map errV ++ [V.ref 10]) q kvs 4 (title.map low) (.ref 9) cl []) := by
    cases kvs with
    | nil =>
      cases cl with
      | false => exact ⟨_, (e2 ((ifN rfl).trans (ifN rfl))).trans (em_fin S hq l0 rfl ((hq _ _).trans (List.append_nil q).symm) rfl rfl)⟩
      | true => exact ⟨_, (e2 ((ifN rfl).trans ((ifTn rfl (em_err l0)).trans rfl))).trans (em_fin S hq (l1 _) rfl ((List.map_append ..).trans (congrArg (· ++ _) (hq _ _))) rfl rfl)⟩
    | cons p kvs =>
      cases cl with
      | false => exact ⟨_, (e2 ((ifTn rfl (em_err l0)).trans (ifN rfl))).trans (em_fin S hq (l1 _) rfl ((List.map_append ..).trans (congrArg (· ++ _) (hq _ _))) rfl rfl)⟩
      | true => exact ⟨_, (e2 ((ifTn rfl (em_err l0)).trans ((ifTn rfl (em_err (l1 _))).trans rfl))).trans (em_fin S hq (l2 _ _) rfl (by rw [List.map_append, List.map_append, hq, List.append_assoc]; rfl) rfl rfl)⟩
  exact fn_ex rfl rfl e1 rfl
end
end PL
end
section
namespace PL
open Builtin.Str StrLaws
noncomputable def h9 (cur : V) (sm tx : O) (qs ds : List V) (ex : List O) : St := hS (rdO .bad cur) sm tx (.list [] :: .list qs :: .list ds :: ex)
noncomputable def kinds48 : List (List Nat × V) := [([68, 111, 99, 116, 121, 112, 101], (.int 0)), ([67, 104, 97, 114, 97, 99, 116, 101, 114, 115], (.int 1)), ([83, 112, 97, 99, 101, 67, 104, 97, 114, 97, 99, 116, 101, 114, 115], (.int 2)), ([83, 116, 97, 114, 116, 84, 97, 103], (.int 3)), ([69, 110, 100, 84, 97, 103], (.int 4)), ([69, 109, 112, 116, 121, 84, 97, 103], (.int 5)), ([67, 111, 109, 109, 101, 110, 116], (.int 6)), ([80, 97, 114, 115, 101, 69, 114, 114, 111, 114], (.int 7))]
noncomputable def tokV (ty : Int) (title : List Nat) (o : O) (cl : Bool) : V := .frz (.dict (tkD ty (title.map low) (.frz o) cl))
section
variable {F d : Nat} {sx : List (Nat × O)} {sm tx : O} {t m : List Nat} {k : Nat} {q qs ds : List V} {kvs : List (List Nat × List Nat)} {ty : Int} {title kd : List Nat} {cl : Bool} {L : Loc} {data v29 cur : V} {ex : List O} {o : O} {xs : List V} {s σ : St}
theorem gc9 (S : SvO t m sm tx k) (hs : s = hE .bad sm tx qs ds kvs ty title data cl ex) : gcS s 9 = h9 (rv s 9 (.ref 10)) sm tx (qs.map (rv s 9)) (ds.map (rv s 9)) [] := by
  obtain ⟨h1, h2⟩ := sm_cl S (σ := s) (n := 9) (by decide)
  generalize hf : rv s 9 = f at h1 h2
  have : gcS s 9 = hS (rdO .bad (f (.ref 10))) (oMap f sm) (oMap f tx) [O.list [], .list (qs.map f), .list (ds.map f)] := by subst hf hs; rfl
  rw [this, h1, h2]; rfl
theorem gc9' (S : SvO t m sm tx k) (hq : Fz qs) (hd : Fz ds) : gcS (h9 (.frz o) sm tx qs ds ex) 9 = h9 (.frz o) sm tx qs ds [] := by
  obtain ⟨h1, h2⟩ := sm_cl S (σ := h9 (.frz o) sm tx qs ds ex) (n := 9) (by decide)
  have h3 : qs.map (rv (h9 (.frz o) sm tx qs ds ex) 9) = qs := hq _ _
  have h4 : ds.map (rv (h9 (.frz o) sm tx qs ds ex) 9) = ds := hd _ _
  generalize hf : rv (h9 (.frz o) sm tx qs ds ex) 9 = f at h1 h2 h3 h4
  have : gcS (h9 (.frz o) sm tx qs ds ex) 9 = hS (rdO .bad (.frz o)) (oMap f sm) (oMap f tx) [O.list [], .list (qs.map f), .list (ds.map f)] := by subst hf; rfl
  rw [this, h1, h2, h3, h4]; rfl
noncomputable def tkE : PE := .dictE [[116, 121, 112, 101], [110, 97, 109, 101], [100, 97, 116, 97], [115, 101, 108, 102, 67, 108, 111, 115, 105, 110, 103]] [(.sub (.glob (.sref 48)) (.loc 4)), (.call 799 [(.loc 5)]), (.loc 29), (.loc 6)]
theorem kind_eq (hL : getK 4 L = some (.str kd)) (hty : getS kd kinds48 = some (.int ty)) : evE (cxOf (L4.pr sx) F (runF (L4.pr sx) F d)) (.sub (.glob (.sref 48)) (.loc 4)) L σ = some (.int ty, σ) :=
  subE (a := .sref 48) rfl (getE hL) (by show getS kd kinds48 = _; exact hty)
theorem tok_eq (hL : LK L [(4, .str kd), (5, .str title), (6, .bool cl), (29, v29)]) (hty : getS kd kinds48 = some (.int ty)) (htl : title.length ≤ 1000) (hsm : small title = title.map low) : ∃ g,
    evE (cxOf (L4.pr sx) F (runF (L4.pr sx) F (d + 1))) tkE L σ = some (.ref (σ.length + 1), σ ++ [strsL g, .dict (tkD ty (title.map low) v29 cl)]) := by
  refine ⟨(title.map zed).map fun x => [low x], ?_⟩
  unfold tkE
  rw [evE_dictE, evEs_cons, kind_eq (hL.get rfl) hty, Option.bind_some]
  show (Option.bind (Option.bind (evEs _ (_ :: _) _ _) _) _) = _
  rw [evEs_cons, evE_call, evEs_cons, getE (hL.get (i := 5) rfl)]
  refine Eq.trans (congrArg (fun x => Option.bind (Option.bind (Option.bind x _) _) _) (x799 (F := F) (d := d) (sx := sx) htl)) ?_
  show (Option.bind (Option.bind (Option.bind (evEs _ (_ :: _) _ _) _) _) _) = _
  rw [evEs_cons, getE (hL.get (i := 29) rfl), Option.bind_some]
  show (Option.bind (Option.bind (Option.bind (Option.bind (evEs _ (_ :: _) _ _) _) _) _) _) = _
  rw [evEs_cons, getE (hL.get (i := 6) rfl), hsm]
  show some (V.ref (σ ++ [_]).length, (σ ++ [_]) ++ [_]) = _
  rw [List.length_append, List.append_assoc]; rfl
theorem tag_end (S : SvO t m sm tx k) (hq : QOk q) (hql : q.length ≤ 1000) (htk : QOk [tokV ty title o cl]) (hx : QOk xs) (hxo : listOfO o = some xs) (hxl : xs.length ≤ 1000) (hsm : small title = title.map low) (htl : title.length ≤ 1000) (hty : getS kd kinds48 = some (.int ty))
    (hL : LK L [(4, .str kd), (5, .str title), (6, .bool cl), (11, .ref 0), (15, .ref 8), (18, .ref 10), (29, v29)])
    (hs : ∀ g s, s = hE .bad sm tx (q ++ [V.ref 10]) (q ++ [V.ref (ex.length + 13)]) kvs ty (title.map low) data cl (ex ++ [strsL g, .dict (tkD ty (title.map low) v29 cl)]) → rv s 9 (.ref 10) = tokV ty title o cl ∧ rv s 9 (.ref (ex.length + 13)) = tokV ty title o cl ∧ rv s 9 v29 = .frz o) :
    ∃ s1 s2 cur, evSs (cxOf (L4.pr sx) F (runF (L4.pr sx) F (d + 1))) (tagBody.drop 9) 9 L (hE .bad sm tx (q ++ [V.ref 10]) q kvs ty (title.map low) data cl ex) = some (.next, gcL s1 9 (gcL s2 9 L), h9 (.frz cur) sm tx (q ++ [tokV ty title o cl]) (q ++ [tokV ty title o cl]) []) := by
  obtain ⟨g, e1⟩ := tok_eq (F := F) (d := d) (sx := sx) (σ := hE .bad sm tx (q ++ [V.ref 10]) q kvs ty (title.map low) data cl ex) (hL.sub (fs := [(4, .str kd), (5, .str title), (6, .bool cl), (29, v29)]) ⟨rfl, rfl, rfl, rfl, trivial⟩) hty htl hsm
  obtain ⟨r1, r2, r3⟩ := hs g _ rfl
  refine ⟨h9 (tokV ty title o cl) sm tx (q ++ [tokV ty title o cl]) (q ++ [tokV ty title o cl]) [.list xs, .list xs], hE .bad sm tx (q ++ [V.ref 10]) (q ++ [V.ref (ex.length + 13)]) kvs ty (title.map low) data cl (ex ++ [strsL g, .dict (tkD ty (title.map low) v29 cl)]), .dict (tkD ty (title.map low) (.frz o) cl), ?_⟩
  refine (exprS (appE (getE (hL.get (i := 15) rfl)) rfl e1 rfl (Nat.le_trans hql (by decide)) (σ' := hE .bad sm tx (q ++ [V.ref 10]) (q ++ [V.ref (ex.length + 13)]) kvs ty (title.map low) data cl (ex ++ [strsL g, .dict (tkD ty (title.map low) v29 cl)])) rfl)).trans ?_
  refine (gcNx (k := 0) (r := tagBody.drop 11)).trans ?_
  have e2 := gc9 S (Eq.refl (hE .bad sm tx (q ++ [V.ref 10]) (q ++ [V.ref (ex.length + 13)]) kvs ty (title.map low) data cl (ex ++ [strsL g, .dict (tkD ty (title.map low) v29 cl)])))
  have hL2 := hL.gc (σ := hE .bad sm tx (q ++ [V.ref 10]) (q ++ [V.ref (ex.length + 13)]) kvs ty (title.map low) data cl (ex ++ [strsL g, .dict (tkD ty (title.map low) v29 cl)])) (n := 9)
  rw [List.map_append, List.map_append, hq.z, List.map_cons, List.map_cons, List.map_nil, r1, r2] at e2
  have k29 := (hL2.get (i := 29) rfl).trans (congrArg some r3)
  have k18 := (hL2.get (i := 18) rfl).trans (congrArg some r1)
  show evSs _ (tagBody.drop 11) 9 (gcL _ 9 L) (gcS _ 9) = _
  rw [e2]
  have hq2 := hq.app htk
  have a1 : ∀ {e : PE} {L' : Loc} {σ' : St}, evE (cxOf (L4.pr sx) F (runF (L4.pr sx) F (d + 1))) e L' σ' = some (.frz o, σ') → evE (cxOf (L4.pr sx) F (runF (L4.pr sx) F (d + 1))) (.listOf e) L' σ' = some (.ref σ'.length, σ' ++ [.list xs]) := fun h => by
    rw [evE_listOf, h, Option.bind_some]
    show (Option.bind (listOfO o) _) = _
    rw [hxo, Option.bind_some]
    exact allocL_eq (Nat.le_trans hxl (by decide))
  refine (ifN (σ1 := h9 (tokV ty title o cl) sm tx (q ++ [tokV ty title o cl]) (q ++ [tokV ty title o cl]) [.list xs, .list xs]) (orT0 (cmpT (evE_attr.trans (congrArg (fun x => Option.bind x _) (getE (hL2.get (i := 11) rfl)))) (getE (hL2.get (i := 15) rfl)) (neC hq2 rfl rfl)) (cmpT (a1 (subE (getE k18) (b := .str sData) rfl rfl)) (a1 (getE k29)) (neC hx rfl rfl)))).trans ?_
  refine (gcNx (k := 0) (r := [])).trans ?_
  exact congrArg (fun x => some (Fl.next, _, x)) (gc9' S hq2.z hq2.z)
end
end PL
end
section
namespace PL
open Builtin.Str StrLaws
theorem eqK_self {f : V → V → Option Bool} {ls : List (List Nat × V)} : ∀ {r : List (List Nat × V)}, (∀ p ∈ r, getS p.1 ls = some p.2 ∧ f p.2 p.2 = some true) → eqK f ls r = some true
  | [], _ => rfl
  | (k, v) :: r, h => by
    obtain ⟨h1, h2⟩ := h (k, v) (.head _)
    show (match getS k ls with | none => some false | some w => (f v w).bind fun x => (eqK f ls r).map fun y => x && y) = _
    rw [h1, eqK_self fun p hp => h p (.tail _ hp)]
    show (f v v).bind _ = _
    rw [h2]; rfl
theorem gS_mem {β : Type} {k : List Nat} {v : β} : ∀ {d : List (List Nat × β)}, (ks d).Nodup → (k, v) ∈ d → getS k d = some v
  | (i, w) :: r, hn, h => by
    obtain ⟨h1, h2⟩ := List.nodup_cons.mp hn
    rw [gS_cons]
    rcases List.mem_cons.mp h with e | h
    · injection e with e1 e2; subst e1 e2; exact if_pos rfl
    · have h3 := List.mem_map_of_mem (f := Prod.fst) h
      rw [if_neg fun (e : i = k) => h1 (e ▸ h3)]; exact gS_mem h2 h
theorem pair_self {σ : St} {n : Nat} (p : List Nat × List Nat) : eqV σ (n + 2) (pairV p) (pairV p) = some true := by
  show (eqL (eqV σ (n + 1)) [.str p.1, .str p.2] [.str p.1, .str p.2]) = _
  exact eqL_self fun v hv => by
    rcases List.mem_cons.mp hv with rfl | hv
    · exact eqV_str
    · obtain rfl := List.mem_singleton.mp hv; exact eqV_str
theorem list_self {σ : St} {n : Nat} (kvs : List (List Nat × List Nat)) : eqV σ (n + 3) (.frz (.list (kvs.map pairV))) (.frz (.list (kvs.map pairV))) = some true := by
  show (if (kvs.map pairV).length = (kvs.map pairV).length then eqL (eqV σ (n + 2)) (kvs.map pairV) (kvs.map pairV) else some false) = _
  rw [if_pos rfl]
  exact eqL_self fun v hv => by obtain ⟨p, _, rfl⟩ := List.mem_map.mp hv; exact pair_self p
theorem dict_self {σ : St} {n : Nat} (kvs : List (List Nat × List Nat)) : eqV σ (n + 2) (.frz (dO kvs)) (.frz (dO kvs)) = some true := by
  show (if (fstD (strV kvs) []).length = (fstD (strV kvs) []).length then eqK (eqV σ (n + 1)) (fstD (strV kvs) []) (fstD (strV kvs) []) else some false) = _
  rw [if_pos rfl]
  exact eqK_self fun p hp => ⟨gS_mem (fstD_nd _) hp, by obtain ⟨s, hs⟩ := dO_str kvs p hp; rw [hs]; exact eqV_str⟩
theorem QOk.tok {ty : Int} {title : List Nat} {cl : Bool} {o : O} (h : ∀ σ, eqV σ 11 (.frz o) (.frz o) = some true) : QOk [tokV ty title o cl] := by
  refine ⟨fun qq1 qq2 => rfl, fun v hv σ => ?_⟩
  obtain rfl := List.mem_singleton.mp hv
  show (eqK (eqV σ 11) (tkD ty (title.map low) (.frz o) cl) (tkD ty (title.map low) (.frz o) cl)) = _
  exact eqK_self (all_mem ⟨⟨rfl, (by show some (ty == ty) = _; rw [beq_self_eq_true])⟩, ⟨rfl, eqV_str⟩, ⟨rfl, h σ⟩, ⟨rfl, (by show some (cl == cl) = _; rw [beq_self_eq_true])⟩, trivial⟩)
theorem QOk.strs (l : List (List Nat)) : QOk (l.map V.str) := by
  refine ⟨fun s n => by rw [List.map_map]; rfl, fun v hv σ => ?_⟩
  obtain ⟨w, _, rfl⟩ := List.mem_map.mp hv
  exact eqV_str
section
variable {c : Cx} {L L1 L2 : Loc} {σ σ1 σ2 σ3 : St} {z : Nat} {r : List PS} {e tt it : PE} {b : List PS} {t : Ft} {f : Nat}
theorem asgA {v ov : V} (h1 : evE c e L σ = some (v, σ1)) (h2 : evE c tt L σ1 = some (ov, σ2)) (h4 : setAttrV c ov f v σ2 = some σ3) : evSs c (.assign (.a tt f) e :: r) z L σ = evSs c r z L σ3 := by
  rw [evSs_cons, evS_assign, h1, Option.bind_some]
  show (((asgT c (.a tt f) v L σ1).map _).bind _) = _
  rw [show asgT c (.a tt f) v L σ1 = (evE c tt L σ1).bind fun (ov, σ1) => (setAttrV c ov f v σ1).map fun s => (L, s) from rfl, h2, Option.bind_some]
  show ((((setAttrV c ov f v σ2).map _).map _).bind _) = _
  rw [h4]; rfl
theorem forS {o : V} {xs : List V} (h1 : evE c it L σ = some (o, σ1)) (h2 : iterV c σ1 o = some xs) (h3 : forL (fun v L s => bindFt c s t v L) (fun s => stillV c σ1 s o) (fun L s => evSs c b σ1.length L s) xs L σ1 = some (.next, L2, σ2)) : evSs c (.fors t it b :: r) z L σ = evSs c r z L2 σ2 := by
  rw [evSs_cons, evS_fors, h1, Option.bind_some]
  show (((iterV c σ1 o).bind _).bind _) = _
  rw [h2, Option.bind_some, h3]; rfl
end
noncomputable def fdB : List PS := [.ifs (.cmp .notin (.loc 26) (.loc 29)) [.assign (.s (.loc 29) (.loc 26)) (.loc 27)] []]
section
variable {F d : Nat} {sx : List (Nat × O)} {sm tx : O} {t m : List Nat} {k : Nat} {q qs ds : List V} {kvs : List (List Nat × List Nat)} {ty : Int} {title kd : List Nat} {cl : Bool} {L : Loc} {data v29 cur : V} {ex : List O} {o : O} {xs : List V} {s σ : St} {z : Nat}
theorem fd_loop {D0 : List (List Nat × V)} : ∀ (l : List (List Nat × List Nat)) (D : List (List Nat × V)) (L : Loc), getK 29 L = some (.ref 12) → D.length + l.length ≤ 100 → ∃ L', Kp [26, 27] L L' ∧
    forL (fun v L s => bindFt (cxOf (L4.pr sx) F (runF (L4.pr sx) F d)) s (.many [26, 27]) v L) (fun s => stillV (cxOf (L4.pr sx) F (runF (L4.pr sx) F d)) (hE .bad sm tx qs ds kvs ty title data cl [.dict D0]) s (.ref 11)) (fun L s => evSs (cxOf (L4.pr sx) F (runF (L4.pr sx) F d)) fdB 13 L s) (l.map pairV) L (hE .bad sm tx qs ds kvs ty title data cl [.dict D]) =
      some (.next, L', hE .bad sm tx qs ds kvs ty title data cl [.dict (fstD (strV l) D)])
  | [], D, L, h, hl => ⟨L, Kp.rfl, forL_nil.trans (if_pos (still_iff.mpr rfl))⟩
  | p :: l, D, L, h, hl => by
    have k29 : getK 29 (putK 27 (.str p.2) (putK 26 (.str p.1) L)) = some (.ref 12) := gk_ne (by decide) (gk_ne (by decide) h)
    have k26 : getK 26 (putK 27 (.str p.2) (putK 26 (.str p.1) L)) = some (.str p.1) := gk_ne (by decide) gk_eq
    have ht : evT (cxOf (L4.pr sx) F (runF (L4.pr sx) F d)) (.cmp .notin (.loc 26) (.loc 29)) (putK 27 (.str p.2) (putK 26 (.str p.1) L)) (hE .bad sm tx qs ds kvs ty title data cl [.dict D]) = some (!(getS p.1 D).isSome, hE .bad sm tx qs ds kvs ty title data cl [.dict D]) := cmpT (getE k26) (getE k29) rfl
    have hb : evSs (cxOf (L4.pr sx) F (runF (L4.pr sx) F d)) fdB 13 (putK 27 (.str p.2) (putK 26 (.str p.1) L)) (hE .bad sm tx qs ds kvs ty title data cl [.dict D]) = some (.next, putK 27 (.str p.2) (putK 26 (.str p.1) L), hE .bad sm tx qs ds kvs ty title data cl [.dict (if (getS p.1 D).isSome then D else putS p.1 (.str p.2) D)]) := by
      cases hg : (getS p.1 D).isSome with
      | true => rw [hg] at ht; exact ifN ht
      | false =>
        rw [hg] at ht
        refine ifTn ht ((asgS (getE gk_eq) (getE k29) (getE k26) (σ3 := hE .bad sm tx qs ds kvs ty title data cl [.dict (putS p.1 (.str p.2) D)]) ?_).trans rfl)
        exact if_pos (Nat.le_trans (Nat.le_trans (Nat.le_add_right _ _) hl) (by decide))
    have hd : (if (getS p.1 D).isSome then D else putS p.1 (.str p.2) D).length ≤ D.length + 1 := by
      split
      · exact Nat.le_succ _
      · exact putAll_len [(p.1, .str p.2)] D
    rw [List.length_cons] at hl
    obtain ⟨L', K, e⟩ := fd_loop l (if (getS p.1 D).isSome then D else putS p.1 (.str p.2) D) _ k29 (by lia)
    refine ⟨L', ((Kp.rfl.put rfl).put rfl).trans K, ?_⟩
    have hst : stillV (cxOf (L4.pr sx) F (runF (L4.pr sx) F d)) (hE .bad sm tx qs ds kvs ty title data cl [.dict D0]) (hE .bad sm tx qs ds kvs ty title data cl [.dict D]) (.ref 11) = true := still_iff.mpr rfl
    rw [List.map_cons, forL_cons, if_pos hst]
    show (Option.bind (some (putK 27 (.str p.2) (putK 26 (.str p.1) L))) _) = _
    rw [Option.bind_some, hb, Option.bind_some]
    exact e
end
end PL
end
section
namespace PL
open Builtin.Str StrLaws
section
variable {F d : Nat} {sx : List (Nat × O)} {sm tx : O} {t m : List Nat} {k cnt : Nat} {q qs ds : List V} {kvs : List (List Nat × List Nat)} {ty : Int} {title ti kd : List Nat} {cl : Bool} {L : Loc} {data v29 cur : V} {ex : List O} {o : O} {xs : List V} {s σ : St} {z : Nat} {r : List PS}
theorem tag_start (hL : LK L [(4, .str kd), (5, .str title), (6, .bool cl), (11, .ref 0)]) (hty : getS kd kinds48 = some (.int ty)) :
    evSs (cxOf (L4.pr sx) F (runF (L4.pr sx) F d)) tagBody z L (h9 cur sm tx q q []) = evSs (cxOf (L4.pr sx) F (runF (L4.pr sx) F d)) (tagBody.drop 3) z (putK 20 (.ref 11) (putK 18 (.ref 10) L)) (h12 sm tx q [] ty title cl) := by
  have h0 : evE (cxOf (L4.pr sx) F (runF (L4.pr sx) F d)) (.dictE [[116, 121, 112, 101], [110, 97, 109, 101], [100, 97, 116, 97], [115, 101, 108, 102, 67, 108, 111, 115, 105, 110, 103]] [(.sub (.glob (.sref 48)) (.loc 4)), (.loc 5), (.listE []), (.loc 6)]) L (h9 cur sm tx q q []) = some (.ref 10, h9 cur sm tx q q [.list [], .dict (tkD ty title (.ref 9) cl)]) := by
    rw [evE_dictE, evEs_cons, kind_eq (hL.get rfl) hty, Option.bind_some]
    show (Option.bind (Option.bind (evEs _ (_ :: _) _ _) _) _) = _
    rw [evEs_cons, getE (hL.get (i := 5) rfl), Option.bind_some]
    show (Option.bind (Option.bind (Option.bind (evEs _ (_ :: _) _ (h9 cur sm tx q q [])) _) _) _) = _
    rw [evEs_cons]
    show (Option.bind (Option.bind (Option.bind (Option.bind (evEs _ (_ :: _) _ (h9 cur sm tx q q [.list []])) _) _) _) _) = _
    rw [evEs_cons, getE (hL.get (i := 6) rfl)]; rfl
  refine (asgL h0).trans ((asgA (getE gk_eq) (getE (gk_ne (by decide) (hL.get (i := 11) rfl))) (σ3 := h9 (.ref 10) sm tx q q [.list [], .dict (tkD ty title (.ref 9) cl)]) rfl).trans ((asgL (v := .ref 11) (σ1 := h12 sm tx q [] ty title cl) rfl).trans rfl))
theorem cldE (S : SvO t m sm tx k) (hqs : ∀ s, qs.map (rv s 12) = qs) (hd : Fz ds) : Cld (hE .bad sm tx qs ds kvs ty title (.ref 9) cl []) :=
  cld_hS S fun s => ⟨rfl, by
    show [O.list [], .list (qs.map (rv s 12)), .list (ds.map (rv s 12)), .list ((kvs.map pairV).map (rv s 12)), .dict (tkD ty title (.ref 9) cl), .list ((kvs.map pairV).map (rv s 12))] = _
    rw [hqs, hd, Fz.pairs]⟩
theorem due_err {tE : PE} {w : List Nat} {b : Bool} (hC : Cld (hE .bad sm tx qs ds kvs ty title data cl ex)) (hdl : ds.length ≤ 1000) (h15 : getK 15 L = some (.ref 8)) (ht : evT (cxOf (L4.pr sx) F (runF (L4.pr sx) F (d + 1))) tE L (hE .bad sm tx qs ds kvs ty title data cl ex) = some (b, hE .bad sm tx qs ds kvs ty title data cl ex)) :
    evSs (cxOf (L4.pr sx) F (runF (L4.pr sx) F (d + 1))) (.ifs tE [.expr (.append (.loc 15) (.call 806 [.const (.str w)]))] [] :: r) z L (hE .bad sm tx qs ds kvs ty title data cl ex) = evSs (cxOf (L4.pr sx) F (runF (L4.pr sx) F (d + 1))) r z L (hE .bad sm tx qs (ds ++ (bif b then [w] else []).map errV) kvs ty title data cl ex) := by
  cases b with
  | false => rw [show ((bif false then [w] else [] : List (List Nat)).map errV) = [] from rfl, List.append_nil]; exact ifN ht
  | true =>
    refine ifTn ht ((exprS (v := .none) ?_).trans rfl)
    exact appE (getE h15) rfl (v := errV w) (σ2 := hE .bad sm tx qs ds kvs ty title data cl ex) (x806 (F := F) (d := d) (sx := sx) hC) rfl (Nat.le_trans hdl (by decide)) (σ' := hE .bad sm tx qs (ds ++ [errV w]) kvs ty title data cl ex) rfl
noncomputable def mF (kd ti : List Nat) (cl : Bool) : List (Nat × V) := [(4, .str kd), (5, .str ti), (6, .bool cl), (11, .ref 0), (15, .ref 8), (18, .ref 10), (20, .ref 11)]
theorem mid_S (hk : kvs.length ≤ 10) (hL : LK L (mF kStart title cl)) : ∃ L', Kp [26, 27, 29] L L' ∧ getK 29 L' = some (.ref 12) ∧
    evSs (cxOf (L4.pr sx) F (runF (L4.pr sx) F d)) (tagBody.drop 5) z L (hE .bad sm tx qs ds kvs 3 ti data cl []) = evSs (cxOf (L4.pr sx) F (runF (L4.pr sx) F d)) (tagBody.drop 9) z L' (hE .bad sm tx qs ds kvs 3 ti data cl [dO kvs]) := by
  obtain ⟨L3, K, e⟩ := fd_loop (F := F) (d := d) (sx := sx) (sm := sm) (tx := tx) (qs := qs) (ds := ds) (kvs := kvs) (ty := 3) (title := ti) (cl := cl) (data := data) (D0 := []) kvs [] (putK 29 (.ref 12) (putK 29 (.ref 11) L)) gk_eq (by rw [List.length_nil, Nat.zero_add]; exact Nat.le_trans hk (by decide))
  have hL2 : LK (putK 29 (.ref 11) L) ((29, .ref 11) :: mF kStart title cl) := hL.new
  have K2 : Kp [26, 27, 29] L L3 := fun i hi => (K i (by
    have h := hi
    rw [List.contains_cons, List.contains_cons, Bool.or_eq_false_iff, Bool.or_eq_false_iff] at h
    show ((i == 26) || ((i == 27) || false)) = false
    rw [h.1, h.2.1]; rfl)).trans (((Kp.rfl.put rfl).put rfl : Kp [26, 27, 29] L (putK 29 (.ref 12) (putK 29 (.ref 11) L))) i hi)
  have hL3 := LK.kp K2 hL rfl
  refine ⟨L3, K2, (K 29 rfl).trans gk_eq, ?_⟩
  refine (asgL (getE (hL.get (i := 20) rfl))).trans ?_
  refine (ifTn (cmpT (getE (hL2.get (i := 4) rfl)) (b := .str kStart) rfl rfl) ((asgL (v := .ref 12) (σ1 := hE .bad sm tx qs ds kvs 3 ti data cl [.dict []]) rfl).trans ((forS (getE (gk_ne (by decide) (hL2.get (i := 20) rfl))) rfl e).trans rfl))).trans ?_
  exact (ifN (andT0 (cmpT (getE (hL3.get (i := 4) rfl)) (b := .str kEnd) rfl rfl))).trans (ifN (andT0 (cmpT (getE (hL3.get (i := 4) rfl)) (b := .str kEnd) rfl rfl)))
theorem mid_E (hL : LK L (mF kEmpty title cl)) : evSs (cxOf (L4.pr sx) F (runF (L4.pr sx) F d)) (tagBody.drop 5) z L (hE .bad sm tx qs ds kvs 5 ti data cl []) = evSs (cxOf (L4.pr sx) F (runF (L4.pr sx) F d)) (tagBody.drop 9) z (putK 29 (.ref 11) L) (hE .bad sm tx qs ds kvs 5 ti data cl []) := by
  have hL2 : LK (putK 29 (.ref 11) L) (mF kEmpty title cl) := hL.put
  exact (asgL (getE (hL.get (i := 20) rfl))).trans ((ifN (cmpT (getE (hL2.get (i := 4) rfl)) (b := .str kStart) rfl rfl)).trans ((ifN (andT0 (cmpT (getE (hL2.get (i := 4) rfl)) (b := .str kEnd) rfl rfl))).trans (ifN (andT0 (cmpT (getE (hL2.get (i := 4) rfl)) (b := .str kEnd) rfl rfl)))))
theorem mid_T (S : SvO t m sm tx k) (hqs : ∀ s, qs.map (rv s 12) = qs) (hd : QOk ds) (hdl : ds.length ≤ 800) (hL : LK L (mF kEnd title cl)) : evSs (cxOf (L4.pr sx) F (runF (L4.pr sx) F (d + 1))) (tagBody.drop 5) z L (hE .bad sm tx qs ds kvs 4 (title.map low) (.ref 9) cl []) = evSs (cxOf (L4.pr sx) F (runF (L4.pr sx) F (d + 1))) (tagBody.drop 9) z (putK 29 (.ref 11) L) (hE .bad sm tx qs (ds ++ (emErrs kvs cl).map errV) kvs 4 (title.map low) (.ref 9) cl []) := by
  have hL2 : LK (putK 29 (.ref 11) L) (mF kEnd title cl) := hL.put
  have he : ∀ σ, evT (cxOf (L4.pr sx) F (runF (L4.pr sx) F (d + 1))) (.cmp .eq (.loc 4) (.const (.str [69, 110, 100, 84, 97, 103]))) (putK 29 (.ref 11) L) σ = some (true, σ) := fun σ => cmpT (getE (hL2.get (i := 4) rfl)) (b := .str kEnd) rfl rfl
  have t20 : ∀ ds, evT (cxOf (L4.pr sx) F (runF (L4.pr sx) F (d + 1))) (.loc 20) (putK 29 (.ref 11) L) (hE .bad sm tx qs ds kvs 4 (title.map low) (.ref 9) cl []) = some (!kvs.isEmpty, hE .bad sm tx qs ds kvs 4 (title.map low) (.ref 9) cl []) := fun ds => by
    rw [tv_loc, getE (hL2.get (i := 20) rfl)]; cases kvs <;> rfl
  have t6 : ∀ σ, evT (cxOf (L4.pr sx) F (runF (L4.pr sx) F (d + 1))) (.loc 6) (putK 29 (.ref 11) L) σ = some (cl, σ) := fun σ => by
    rw [tv_loc, getE (hL2.get (i := 6) rfl)]; rfl
  have Q1 := hd.app (QOk.errs (bif !kvs.isEmpty then [wAtt] else []))
  have l1 : (ds ++ (bif !kvs.isEmpty then [wAtt] else []).map errV).length ≤ 1000 := by
    rw [List.length_append, List.length_map]
    refine Nat.le_trans (Nat.add_le_add hdl (show _ ≤ 1 from ?_)) (by decide)
    cases kvs with | nil => exact Nat.zero_le _ | cons => exact Nat.le_refl _
  refine (asgL (getE (hL.get (i := 20) rfl))).trans ((ifN (cmpT (getE (hL2.get (i := 4) rfl)) (b := .str kStart) rfl rfl)).trans ((due_err (w := wAtt) (cldE S hqs hd.z) (Nat.le_trans hdl (by decide)) (hL2.get rfl) (andT1 (he _) (t20 _))).trans ((due_err (w := wSelf) (cldE S hqs Q1.z) l1 (hL2.get rfl) (andT1 (he _) (t6 _))).trans ?_)))
  rw [List.append_assoc, ← List.map_append]; rfl
end
end PL
end
section
namespace PL
open Builtin.Str StrLaws
theorem frz_pairs {f : V → V} (hf : ∀ o, f (.frz o) = .frz o) (kvs : List (List Nat × List Nat)) : frzO f (.list (kvs.map pairV)) = .frz (.list (kvs.map pairV)) := by
  show V.frz (.list ((kvs.map pairV).map f)) = _
  rw [List.map_map]
  exact congrArg (fun l => V.frz (.list l)) (List.map_congr_left fun qq1 qq2 => hf _)
theorem dO_keys {kvs : List (List Nat × List Nat)} (h : ∀ p ∈ kvs, p.1.length ≤ 100) : listOfO (dO kvs) = some (((fstD (strV kvs) []).map Prod.fst).map V.str) := by
  have h1 : ∀ p ∈ fstD (strV kvs) [], p.1.length ≤ 100 := fstD_all _ _ (fun p hp => by obtain ⟨x, hx, rfl⟩ := List.mem_map.mp hp; exact h x hx) fun qq1 h => nomatch h
  refine (if_pos (List.all_eq_true.mpr fun p hp => decide_eq_true (Nat.le_trans (h1 p hp) (by decide)))).trans ?_
  rw [List.map_map]; rfl
theorem dO_len (kvs : List (List Nat × List Nat)) : (((fstD (strV kvs) []).map Prod.fst).map V.str).length ≤ kvs.length := by
  rw [List.length_map]
  have h := congrArg List.length (ks_both (strV kvs) [] [] rfl .nil).1
  show (ks (fstD (strV kvs) [])).length ≤ _
  rw [← h, ks, List.length_map]
  have := putAll_len (strV kvs) []
  rw [List.length_nil, Nat.zero_add, strV, List.length_map] at this
  exact this
theorem title_shape : ∀ n ∈ titlesL, n.length ≤ 100 ∧ small n = n.map low := all_mem ⟨⟨by decide, by decide⟩, ⟨by decide, by decide⟩, ⟨by decide, by decide⟩, ⟨by decide, by decide⟩, trivial⟩
theorem emErrs_len {kvs : List (List Nat × List Nat)} {cl : Bool} : (emErrs kvs cl).length ≤ 2 :=
  match kvs, cl with
  | [], false => Nat.zero_le _
  | [], true => Nat.le_succ 1
  | _ :: _, false => Nat.le_succ 1
  | _ :: _, true => Nat.le_refl 2
noncomputable def tF (m : List Nat) (k cnt : Nat) : List (Nat × V) := [(10, .str m), (11, .ref 0), (15, .ref 8), (16, .int (k : Nat)), (17, .int (cnt : Nat))]
inductive TE (t m rst : List Nat) (B : Nat) : Loc → St → Prop
  | mk {sm tx : O} {q : List V} {k cnt : Nat} {cur : V} {L : Loc} : LK L (tF m k cnt) → SvO t m sm tx k → m.drop k = rst → QOk q → q.length ≤ B → (∀ s, rv s 9 cur = cur) → TE t m rst B L (h9 cur sm tx q q [])
section
variable {F d : Nat} {sx : List (Nat × O)} {sm tx : O} {t m rst : List Nat} {k cnt B : Nat} {q : List V} {kvs : List (List Nat × List Nat)} {ty : Int} {title kd : List Nat} {cl : Bool} {L : Loc}
theorem tag_rest (S : SvO t m sm tx k) (hm : m.drop k = rst) (hq : QOk q) (hql : q.length ≤ 780) (hk : kvs.length ≤ 4) (hkk : ∀ p ∈ kvs, p.1.length ≤ 100) (htl : title ∈ titlesL) (hkd : (kd = kStart ∧ ty = 3) ∨ (kd = kEnd ∧ ty = 4) ∨ (kd = kEmpty ∧ ty = 5)) (hL : LK L (nF kd title m cl k cnt)) :
    OutS (evSs (cxOf (L4.pr sx) F (runF (L4.pr sx) F (d + 5))) (tagBody.drop 4) 9 L (h12 sm tx q kvs ty title cl)) (fun f L' σ => f = .next ∧ TE t m rst (q.length + 3) L' σ) := by
  obtain ⟨ht1, ht2⟩ := title_shape title htl
  have ht3 := Nat.le_trans ht1 (by decide : 100 ≤ 1000)
  have hk10 := Nat.le_trans hk (by decide : 4 ≤ 10)
  have hM : ∀ {L'}, Kp [26, 27, 29] L L' → LK L' ((4, .str kd) :: (5, .str title) :: (6, .bool cl) :: (18, .ref 10) :: tF m k cnt) := fun K => LK.kp K (hL.sub ⟨rfl, rfl, rfl, rfl, rfl, rfl, rfl, rfl, rfl, trivial⟩) rfl
  have hm2 : LK L (mF kd title cl) := hL.sub ⟨rfl, rfl, rfl, rfl, rfl, rfl, rfl, trivial⟩
  have hT : ∀ {L'} {s1 s2 : St}, Kp [26, 27, 29] L L' → LK (gcL s1 9 (gcL s2 9 L')) (tF m k cnt) := fun K => ((hM K).gc.gc).sub (fs := tF m k cnt) ⟨rfl, rfl, rfl, rfl, rfl, trivial⟩
  have hql9 : q.length ≤ 1000 := Nat.le_trans hql (by decide)
  rcases hkd with ⟨rfl, rfl⟩ | ⟨rfl, rfl⟩ | ⟨rfl, rfl⟩
  · obtain ⟨L', K, k29, e2⟩ := mid_S (F := F) (d := d + 5) (sx := sx) (sm := sm) (tx := tx) (qs := q ++ [V.ref 10]) (ds := q) (title := title) (ti := title.map low) (data := .frz (dO kvs)) (cl := cl) (L := L) (z := 9) hk10 (hL.sub ⟨rfl, rfl, rfl, rfl, rfl, rfl, rfl, trivial⟩)
    have hL' := hM K
    have htk : QOk [tokV 3 title (dO kvs) cl] := QOk.tok fun σ => dict_self kvs
    obtain ⟨s1, s2, cur, e3⟩ := tag_end (F := F) (d := d + 4) (sx := sx) (v29 := .ref 12) (data := .frz (dO kvs)) (ex := [dO kvs]) (kvs := kvs) S hq hql9 htk (QOk.strs _) (dO_keys hkk) (Nat.le_trans (dO_len kvs) (Nat.le_trans hk (by decide))) ht2 ht3 (kd := kStart) rfl (L := L') ⟨hL'.get rfl, hL'.get rfl, hL'.get rfl, hL'.get rfl, hL'.get rfl, hL'.get rfl, k29, trivial⟩
      (by rintro g s rfl; exact ⟨rfl, congrArg (fun v => V.frz (.dict (tkD 3 (title.map low) v cl))) (dO_map (fun qq1 => rfl) kvs), dO_map (fun qq1 => rfl) kvs⟩)
    exact ⟨_, _, _, (exprS (methE (getE (hL.get rfl)) rfl rfl rfl rfl (x297S (F := F) (d := d + 3) (sx := sx) (title := title) (cl := cl) S hq.z (Nat.le_trans hql (by decide)) hk10 ht3))).trans (e2.trans e3), rfl, .mk (hT K) S hm (hq.app htk) (by rw [List.length_append]; exact Nat.add_le_add_left (by decide : 1 ≤ 3) _) fun qq1 => rfl⟩
  · have K : Kp [26, 27, 29] L (putK 29 (.ref 11) L) := Kp.rfl.put rfl
    have hL' := hM K
    have htk : QOk [tokV 4 title (.list (kvs.map pairV)) cl] := QOk.tok fun σ => list_self kvs
    have hel : (emErrs kvs cl).length ≤ 2 := emErrs_len
    have Q1 := hq.app (QOk.errs (emErrs kvs cl))
    have e2 := mid_T (F := F) (d := d + 4) (sx := sx) (qs := q ++ (emErrs kvs cl).map errV ++ [V.ref 10]) (ds := q) (kvs := kvs) (title := title) (cl := cl) (L := L) (z := 9) S (fun s => by rw [List.map_append, Q1.z]; rfl) hq (Nat.le_trans hql (by decide)) (hL.sub ⟨rfl, rfl, rfl, rfl, rfl, rfl, rfl, trivial⟩)
    have hl2 : (q ++ (emErrs kvs cl).map errV).length ≤ q.length + 2 := by rw [List.length_append, List.length_map]; exact Nat.add_le_add_left hel _
    obtain ⟨s1, s2, cur, e3⟩ := tag_end (F := F) (d := d + 4) (sx := sx) (v29 := .ref 11) (data := .ref 9) (ex := []) (kvs := kvs) S Q1 (Nat.le_trans hl2 (by lia)) htk (QOk.pairs kvs) rfl (by rw [List.length_map]; lia) ht2 ht3 (kd := kEnd) rfl (L := putK 29 (.ref 11) L) ⟨hL'.get rfl, hL'.get rfl, hL'.get rfl, hL'.get rfl, hL'.get rfl, hL'.get rfl, gk_eq, trivial⟩
      (by rintro g s rfl; exact ⟨congrArg (fun v => V.frz (.dict (tkD 4 (title.map low) v cl))) (frz_pairs (fun qq1 => rfl) kvs), congrArg (fun v => V.frz (.dict (tkD 4 (title.map low) v cl))) (frz_pairs (fun qq1 => rfl) kvs), frz_pairs (fun qq1 => rfl) kvs⟩)
    exact ⟨_, _, _, (exprS (methE (getE (hL.get rfl)) rfl rfl rfl rfl (x297T (F := F) (d := d + 3) (sx := sx) (title := title) (cl := cl) S hq.z (Nat.le_trans hql (by decide)) ht3))).trans (e2.trans e3), rfl, .mk (hT K) S hm (Q1.app htk) (by rw [List.length_append]; exact Nat.succ_le_succ hl2) fun qq1 => rfl⟩
  · have K : Kp [26, 27, 29] L (putK 29 (.ref 11) L) := Kp.rfl.put rfl
    have hL' := hM K
    have htk : QOk [tokV 5 title (.list (kvs.map pairV)) cl] := QOk.tok fun σ => list_self kvs
    have e2 := mid_E (F := F) (d := d + 5) (sx := sx) (sm := sm) (tx := tx) (qs := q ++ [V.ref 10]) (ds := q) (kvs := kvs) (title := title) (ti := title.map low) (data := .ref 9) (cl := cl) (L := L) (z := 9) (hL.sub ⟨rfl, rfl, rfl, rfl, rfl, rfl, rfl, trivial⟩)
    obtain ⟨s1, s2, cur, e3⟩ := tag_end (F := F) (d := d + 4) (sx := sx) (v29 := .ref 11) (data := .ref 9) (ex := []) (kvs := kvs) S hq hql9 htk (QOk.pairs kvs) rfl (by rw [List.length_map]; lia) ht2 ht3 (kd := kEmpty) rfl (L := putK 29 (.ref 11) L) ⟨hL'.get rfl, hL'.get rfl, hL'.get rfl, hL'.get rfl, hL'.get rfl, hL'.get rfl, gk_eq, trivial⟩
      (by rintro g s rfl; exact ⟨congrArg (fun v => V.frz (.dict (tkD 5 (title.map low) v cl))) (frz_pairs (fun qq1 => rfl) kvs), congrArg (fun v => V.frz (.dict (tkD 5 (title.map low) v cl))) (frz_pairs (fun qq1 => rfl) kvs), frz_pairs (fun qq1 => rfl) kvs⟩)
    exact ⟨_, _, _, (exprS (methE (getE (hL.get rfl)) rfl rfl rfl rfl (x297E (F := F) (d := d + 3) (sx := sx) (title := title) (cl := cl) S hq.z (Nat.le_trans hql (by decide)) ht3))).trans (e2.trans e3), rfl, .mk (hT K) S hm (hq.app htk) (by rw [List.length_append]; exact Nat.add_le_add_left (by decide : 1 ≤ 3) _) fun qq1 => rfl⟩
end
end PL
end
section
namespace PL
open Builtin.Str StrLaws
structure Tag where
  kd : List Nat
  ti : List Nat
  cl : Bool
  names : List (List Nat × List Nat)
structure TagOk (g : Tag) : Prop where
  hk : g.kd ∈ kindsL
  ht : g.ti ∈ titlesL
  hn : ∀ n ∈ g.names, NameOk n
  hl : g.names.length ≤ 4
noncomputable def tgV (g : Tag) : V := .frz (.tuple [.str g.kd, .str g.ti, .bool g.cl, .frz (.list (g.names.map nmV))])
noncomputable def tagsTxt (l : List Tag) : List Nat := (l.map fun g => txt g.names).flatten
theorem kind_shape : ∀ kd ∈ kindsL, ∃ ty, getS kd kinds48 = some (V.int ty) ∧ ((kd = kStart ∧ ty = 3) ∨ (kd = kEnd ∧ ty = 4) ∨ (kd = kEmpty ∧ ty = 5)) :=
  have a : ∃ ty, getS kStart kinds48 = some (V.int ty) ∧ ((kStart = kStart ∧ ty = 3) ∨ (kStart = kEnd ∧ ty = 4) ∨ (kStart = kEmpty ∧ ty = 5)) := ⟨3, rfl, .inl ⟨rfl, rfl⟩⟩
  have b : ∃ ty, getS kEnd kinds48 = some (V.int ty) ∧ ((kEnd = kStart ∧ ty = 3) ∨ (kEnd = kEnd ∧ ty = 4) ∨ (kEnd = kEmpty ∧ ty = 5)) := ⟨4, rfl, .inr (.inl ⟨rfl, rfl⟩)⟩
  all_mem ⟨a, a, b, a, ⟨5, rfl, .inr (.inr ⟨rfl, rfl⟩)⟩, b, a, trivial⟩
section
variable {F d : Nat} {sx : List (Nat × O)} {t m rst : List Nat} {B : Nat} {L : Loc} {σ : St}
theorem tag_step {g : Tag} (hF : 1000 < F) (hm1 : m.length ≤ 1000) (hg : TagOk g) (hB : B ≤ 700) (h : TE t m (txt g.names ++ rst) B L σ) :
    OutS (evSs (cxOf (L4.pr sx) F (runF (L4.pr sx) F (d + 5))) tagBody 9 (putK 7 (.frz (.list (g.names.map nmV))) (putK 6 (.bool g.cl) (putK 5 (.str g.ti) (putK 4 (.str g.kd) L)))) σ) (fun f L' σ => f = .next ∧ TE t m rst (B + 11) L' σ) := by
  cases h with | @mk sm tx q k cnt cur _ hL S hm hq hql hcur =>
  obtain ⟨ty, hty, hkd⟩ := kind_shape g.kd hg.hk
  have hL1 : LK (putK 7 (.frz (.list (g.names.map nmV))) (putK 6 (.bool g.cl) (putK 5 (.str g.ti) (putK 4 (.str g.kd) L)))) ((7, .frz (.list (g.names.map nmV))) :: (6, .bool g.cl) :: (5, .str g.ti) :: (4, .str g.kd) :: tF m k cnt) := ((hL.new (j := 4)).new (j := 5)).new (j := 6) |>.new (j := 7)
  have e1 := tag_start (F := F) (d := d + 5) (sx := sx) (sm := sm) (tx := tx) (q := q) (cur := cur) (ty := ty) (title := g.ti) (cl := g.cl) (z := 9) (hL1.sub (fs := [(4, .str g.kd), (5, .str g.ti), (6, .bool g.cl), (11, .ref 0)]) ⟨rfl, rfl, rfl, rfl, trivial⟩) hty
  have hL2 := (hL1.new (j := 18) (v := .ref 10)).new (j := 20) (v := .ref 11)
  have hnl := hg.hl
  obtain ⟨f, L3, σ3, e2, rfl, h3⟩ := names_loop (F := F) (d := d) (sx := sx) (σ0 := h12 sm tx q [] ty g.ti g.cl) (o := .list (g.names.map nmV)) hF hm1 (by lia : q.length + 8 ≤ 800) (NI.mk (ty := ty) (title := g.ti) (cl := g.cl) (kd := g.kd) (ti := g.ti) (kvs := []) (k := k) (cnt := cnt) hg.hn (hL2.sub (fs := nF g.kd g.ti m g.cl k cnt) ⟨rfl, rfl, rfl, rfl, rfl, rfl, rfl, rfl, rfl, rfl, trivial⟩) S hm hq (by lia) (by rw [List.length_nil]; lia) fun qq1 h => nomatch h)
  have e3 := e1.trans (forS (r := tagBody.drop 4) (z := 9) (it := .loc 7) (getE (hL2.get rfl)) rfl e2)
  generalize hx : ([] : List V) = xs at h3
  cases h3 with | @mk names sm3 tx3 q3 kvs k3 cnt3 _ _ hL3 S3 hm3 hq3 hql3 hkl hkk =>
  cases names with
  | cons => cases hx
  | nil =>
    obtain ⟨f, L4, σ4, e4, rfl, h4⟩ := tag_rest (F := F) (d := d) (sx := sx) (ty := ty) S3 (show m.drop k3 = rst from hm3) hq3 (by rw [List.length_nil] at hql3; lia) (by rw [List.length_nil] at hkl; lia) hkk hg.ht hkd hL3
    refine ⟨_, _, _, e3.trans e4, rfl, ?_⟩
    cases h4 with | mk a b c d e f =>
    exact .mk a b c d (by rw [List.length_nil] at hql3; lia) f
inductive TI (t m : List Nat) : List V → Loc → St → Prop
  | mk {tags : List Tag} {L : Loc} {σ : St} {B : Nat} : (∀ g ∈ tags, TagOk g) → TE t m (tagsTxt tags) B L σ → B + 11 * tags.length ≤ 100 → TI t m (tags.map tgV) L σ
theorem tags_loop {σ0 : St} {o : O} (hF : 1000 < F) (hm1 : m.length ≤ 1000) {xs : List V} (h : TI t m xs L σ) :
    OutS (forL (fun v L s => bindFt (cxOf (L4.pr sx) F (runF (L4.pr sx) F (d + 5))) s (.many [4, 5, 6, 7]) v L) (fun s => stillV (cxOf (L4.pr sx) F (runF (L4.pr sx) F (d + 5))) σ0 s (.frz o)) (fun L s => evSs (cxOf (L4.pr sx) F (runF (L4.pr sx) F (d + 5))) tagBody 9 L s) xs L σ) (fun f L σ => f = .next ∧ TI t m [] L σ) := by
  refine forL_rule (TI t m) (fun v vs L σ h => ⟨still_iff.mpr rfl, ?_⟩) (fun L σ h => ⟨still_iff.mpr rfl, rfl, h⟩) xs L σ h
  generalize hv : v :: vs = ws at h
  cases h with | @mk tags _ _ B hok h hB =>
  cases tags with
  | nil => cases hv
  | cons g tags =>
    obtain ⟨rfl, rfl⟩ := List.cons.inj hv
    rw [List.length_cons] at hB
    obtain ⟨f, L', σ', e, rfl, h'⟩ := tag_step (F := F) (d := d) (sx := sx) (rst := tagsTxt tags) hF hm1 (hok g (.head _)) (by lia) h
    exact ⟨_, rfl, _, _, _, e, .mk (fun g h => hok g (.tail _ h)) h' (by lia)⟩
theorem law_end (hm1 : m.length ≤ 1000) (h : TI t m [] L σ) {z : Nat} : ∃ L' σ', evSs (cxOf (L4.pr sx) F (runF (L4.pr sx) F (d + 5))) (L4.f825.drop 13) z L σ = some (.ret (.bool true), L', σ') := by
  generalize hx : ([] : List V) = xs at h
  cases h with | @mk tags _ _ B hok h hB =>
  cases tags with
  | cons => cases hx
  | nil =>
    cases h with | @mk sm tx q k cnt cur _ hL S hm hq hql hcur =>
    have hk : m.length ≤ k := List.drop_eq_nil_iff.mp hm
    have hn : m[k]? = none := List.getElem?_eq_none hk
    obtain ⟨sm', tx', e, S'⟩ := sv_char (F := F) (d := d + 1) (sx := sx) (x0 := rdO .bad cur) (rest := [.list [], .list q, .list q]) S
    have S' : SvO t m sm' tx' k := by unfold nxt at S'; rw [hn] at S'; exact S'
    rw [hn] at e
    have a1 : ∀ {sm tx}, evE (cxOf (L4.pr sx) F (runF (L4.pr sx) F (d + 5))) (.attr (.loc 11) 13) L (h9 cur sm tx q q []) = some (.ref 1, h9 cur sm tx q q []) := by
      intro sm tx
      rw [evE_attr, getE (hL.get rfl)]; rfl
    have e1 : evE (cxOf (L4.pr sx) F (runF (L4.pr sx) F (d + 5))) (.cmp .is (.meth (.attr (.loc 11) 13) 21 []) (.const .none)) L (h9 cur sm tx q q []) = some (.bool true, h9 cur sm' tx' q q []) :=
      cmpE (sm_call S a1 rfl (by decide) rfl rfl e) (b := .none) rfl rfl
    have hc : Cld (h9 cur sm' tx' q q []) := cld_hS S' fun s => ⟨by
      show O.inst 762 [_, _, _, _, _, _, (19, rv s 9 cur), _] = _
      rw [hcur]; rfl, by
      show [O.list [], .list (q.map (rv s 9)), .list (q.map (rv s 9))] = _
      rw [hq.z]⟩
    have e2 : evE (cxOf (L4.pr sx) F (runF (L4.pr sx) F (d + 5))) (.call 813 [.loc 10]) L (h9 cur sm' tx' q q []) = some (.frz (plc m), h9 cur sm' tx' q q []) := by
      rw [evE_call, evEs_cons, getE (hL.get rfl)]
      exact x813 (F := F) (d := d + 4) (sx := sx) hc hm1
    have e3 : evE (cxOf (L4.pr sx) F (runF (L4.pr sx) F (d + 5))) (.cmp .eq (.meth (.attr (.loc 11) 13) 23 []) (.call 813 [.loc 10])) L (h9 cur sm' tx' q q []) = some (.bool true, h9 cur sm' tx' q q []) := by
      have := sv_position (F := F) (d := d + 3) (sx := sx) (x0 := rdO .bad cur) (rest := [.list [], .list q, .list q]) S'
      rw [List.take_of_length_le hk] at this
      refine cmpE (sm_call S' a1 rfl (by decide) rfl rfl this) e2 ?_
      show (if 2 = 2 then eqL (eqV _ 11) _ _ else none) = _
      exact eqL_self fun v hv => by
        rcases List.mem_cons.mp hv with rfl | hv
        · show some (_ == _) = _; rw [beq_self_eq_true]
        · obtain rfl := List.mem_singleton.mp hv; show some (_ == _) = _; rw [beq_self_eq_true]
    refine ⟨L, h9 cur sm' tx' q q [], retS (v := .bool true) ?_⟩
    rw [evE_andE, e1]
    exact e3
end
end PL
end
section
namespace PL
open Builtin.Str StrLaws
section
variable {c : Cx} {L : Loc} {σ σ1 σ2 : St}
theorem lkP {pre r : List O} {i : Nat} : (pre ++ r)[pre.length + i]? = r[i]? := by
  rw [List.getElem?_append_right (Nat.le_add_right _ _), Nat.add_sub_cancel_left]
theorem stP {pre r : List O} {i : Nat} {o : O} : (pre ++ r).set (pre.length + i) o = pre ++ r.set i o := by
  rw [List.set_append_right _ _ (Nat.le_add_right _ _), Nat.add_sub_cancel_left]
theorem popE {o : PE} {a : Nat} {v : V} {vs : List V} {σ' : St} (h1 : evE c o L σ = some (.ref a, σ)) (hg : σ[a]? = some (.list (v :: vs))) (hs : σ.set a (.list vs) = σ') : evE c (.popAt o (.const (.int 0))) L σ = some (v, σ') := by
  subst hs
  have h3 : isListV σ (.ref a) = true := by show (match σ[a]? with | some o => oIsL o | none => false) = true; rw [hg]; rfl
  rw [evE_popAt, h1, Option.bind_some]
  show (bif isListV σ (.ref a) then Option.bind (some (V.int 0, σ)) _ else none) = _
  rw [h3, cond_true, Option.bind_some]
  show (σ[a]?).bind _ = _
  rw [hg]; rfl
theorem pick_eq {l : List (List Nat)} {i : Int} (h0 : 0 ≤ i) (h1 : i < l.length) : ∃ s ∈ l, subO (.list (l.map V.str)) (.int i) = some (.str s) := by
  have hi : i.toNat < l.length := by lia
  refine ⟨l[i.toNat], List.getElem_mem hi, ?_⟩
  show (idxOf (l.map V.str).length i).bind _ = _
  unfold idxOf
  rw [if_pos h0, List.length_map, if_pos hi, Option.bind_some, List.getElem?_map, List.getElem?_eq_getElem hi]; rfl
theorem fmod_pos (x : Int) {y : Int} (h : 0 < y) : 0 ≤ Int.fmod x y ∧ Int.fmod x y < y := ⟨Int.fmod_nonneg_of_pos x h, Int.fmod_lt_of_pos x h⟩
theorem modE {e : PE} {x y : Int} (h : evE c e L σ = some (.int x, σ)) (hy : 0 < y ∧ y ≤ LIM) : evE c (.bin .mod e (.const (.int y))) L σ = some (.int (Int.fmod x y), σ) := binE h (b := .int y) rfl (mod_eq hy)
theorem divE {e : PE} {x y : Int} (h : evE c e L σ = some (.int x, σ)) (hy : 0 < y ∧ y ≤ LIM) : evE c (.bin .fdiv e (.const (.int y))) L σ = some (.int (Int.fdiv x y), σ) := binE h (b := .int y) rfl (if_pos hy)
theorem tabE {f : Nat} {e : PE} {l : List (List Nat)} {x : Int} (h1 : c.call f [] σ = some (.frz (.list (l.map V.str)), σ)) (h2 : evE c e L σ = some (.int x, σ)) (h3 : 0 ≤ x ∧ x < l.length) : ∃ s ∈ l, evE c (.sub (.call f []) e) L σ = some (.str s, σ) := by
  obtain ⟨s, hs, e1⟩ := pick_eq h3.1 h3.2
  exact ⟨s, hs, subE (a := .frz (.list (l.map V.str))) (by rw [evE_call]; exact h1) h2 e1⟩
end
noncomputable def Inert (o : O) : Prop := ∀ s n, oMap (rv s n) o = o
theorem inert_map {s : St} {n : Nat} : ∀ {σ : List O}, (∀ o ∈ σ, Inert o) → σ.map (oMap (rv s n)) = σ
  | [], _ => rfl
  | o :: σ, h => by rw [List.map_cons, h o (.head _), inert_map fun o h' => h o (.tail _ h')]
theorem Inert.ints {is : List Int} : Inert (.list (is.map V.int)) := fun s n => by
  show O.list ((is.map V.int).map (rv s n)) = _
  rw [List.map_map]; rfl
theorem Inert.tags {l : List Tag} : Inert (.list (l.map tgV)) := fun s n => by
  show O.list ((l.map tgV).map (rv s n)) = _
  rw [List.map_map]; rfl
theorem Inert.names {l : List (List Nat × List Nat)} : Inert (.list (l.map nmV)) := fun s n => by
  show O.list ((l.map nmV).map (rv s n)) = _
  rw [List.map_map]; rfl
noncomputable def hD (pre : List O) (is : List Int) (tags : List Tag) (ex : List O) : St := pre ++ (.list (is.map V.int) :: .list (tags.map tgV) :: ex)
theorem hD_cld {pre : List O} {is : List Int} {tags : List Tag} {ex : List O} (hp : ∀ o ∈ pre, Inert o) (hx : ∀ o ∈ ex, Inert o) : Cld (hD pre is tags ex) := fun s => inert_map fun o ho => by
  rcases List.mem_append.mp ho with ho | ho
  · exact hp o ho
  · rcases List.mem_cons.mp ho with rfl | ho
    · exact Inert.ints
    · rcases List.mem_cons.mp ho with rfl | ho
      · exact Inert.tags
      · exact hx o ho
noncomputable def drB : List PS := match (L4.f820[1]? : Option PS) with | some (PS.whiles _ b) => b | _ => []
noncomputable def drT : PE := match (L4.f820[1]? : Option PS) with | some (PS.whiles t _) => t | _ => .const .none
noncomputable def drN : List PS := match (drB[2]? : Option PS) with | some (PS.fors _ _ b) => b | _ => []
section
variable {F d : Nat} {sx : List (Nat × O)} {pre : List O} {is : List Int} {tags : List Tag} {names : List (List Nat × List Nat)} {K : Int} {L : Loc} {n j : Int} {z : Nat}
theorem draw_m {ex : List O} (hL : LK L [(30, .ref (pre.length + 0)), (31, .int n), (32, .int j)]) : ∃ x is', evE (cxOf (L4.pr sx) F (runF (L4.pr sx) F d)) (.ife (.loc 30) (.popAt (.loc 30) (.const (.int 0))) (.bin .add (.loc 31) (.loc 32))) L (hD pre is tags ex) = some (.int x, hD pre is' tags ex) ∧ is'.length ≤ is.length := by
  have h30 := hL.get (i := 30) rfl
  have hg : (hD pre is tags ex)[pre.length + 0]? = some (.list (is.map V.int)) := lkP
  have ht : evT (cxOf (L4.pr sx) F (runF (L4.pr sx) F d)) (.loc 30) L (hD pre is tags ex) = some (!(is.map V.int).isEmpty, hD pre is tags ex) := by
    rw [tv_loc, getE h30, Option.bind_some]
    show (Option.bind ((hD pre is tags ex)[pre.length + 0]?) _).map _ = _
    rw [hg]; rfl
  cases is with
  | nil => exact ⟨n + j, [], by rw [evE_ife, ht]; exact binE (getE (hL.get rfl)) (getE (hL.get rfl)) rfl, Nat.le_refl _⟩
  | cons x is => exact ⟨x, is, by rw [evE_ife, ht]; exact popE (getE h30) hg stP, Nat.le_succ _⟩
theorem draw_name (hp : ∀ o ∈ pre, Inert o) (hL : LK L [(7, .ref (pre.length + 2)), (30, .ref (pre.length + 0)), (31, .int n), (32, .int j)]) (hnl : names.length ≤ 100) : ∃ x is', NameOk x ∧ is'.length ≤ is.length ∧ ∃ L', Kp [33] L L' ∧
    evSs (cxOf (L4.pr sx) F (runF (L4.pr sx) F (d + 1))) drN z L (hD pre is tags [.list (names.map nmV), .rng 0 K 1]) = some (.next, L', hD pre is' tags [.list ((names ++ [x]).map nmV), .rng 0 K 1]) := by
  obtain ⟨x, is', e1, hl⟩ := draw_m (F := F) (d := d + 1) (sx := sx) (pre := pre) (is := is) (tags := tags) (ex := [.list (names.map nmV), .rng 0 K 1]) (L := L) (n := n) (j := j) (hL.sub ⟨rfl, rfl, rfl, trivial⟩)
  have hC : Cld (hD pre is' tags [.list (names.map nmV), .rng 0 K 1]) := hD_cld hp fun o ho => by
    rcases List.mem_cons.mp ho with rfl | ho
    · exact Inert.names
    · obtain rfl := List.mem_singleton.mp ho; exact fun qq1 qq2 => rfl
  have h33 : ∀ σ, evE (cxOf (L4.pr sx) F (runF (L4.pr sx) F (d + 1))) (.loc 33) (putK 33 (.int x) L) σ = some (.int x, σ) := fun σ => getE gk_eq
  obtain ⟨a, ha, e2⟩ := tabE (c := cxOf (L4.pr sx) F (runF (L4.pr sx) F (d + 1))) (l := namesL) (f := 773) (σ := hD pre is' tags [.list (names.map nmV), .rng 0 K 1]) (e := .bin .mod (.loc 33) (.const (.int 10))) (x773 (F := F) (d := d) (sx := sx) hC) (modE (h33 _) (by decide)) (fmod_pos x (by decide : (0 : Int) < 10))
  obtain ⟨b, hb, e3⟩ := tabE (c := cxOf (L4.pr sx) F (runF (L4.pr sx) F (d + 1))) (l := endsL) (f := 780) (σ := hD pre is' tags [.list (names.map nmV), .rng 0 K 1]) (e := .bin .mod (.bin .fdiv (.loc 33) (.const (.int 10))) (.const (.int 6))) (x780 (F := F) (d := d) (sx := sx) hC) (modE (divE (h33 _) (by decide : (0 : Int) < 10 ∧ (10 : Int) ≤ LIM)) (by decide)) (fmod_pos _ (by decide : (0 : Int) < 6))
  refine ⟨(a, b), is', ⟨ha, hb⟩, hl, putK 33 (.int x) L, Kp.rfl.put rfl, (asgL e1).trans ?_⟩
  have e4 : evE (cxOf (L4.pr sx) F (runF (L4.pr sx) F (d + 1))) (.tupE [.sub (.call 773 []) (.bin .mod (.loc 33) (.const (.int 10))), .sub (.call 780 []) (.bin .mod (.bin .fdiv (.loc 33) (.const (.int 10))) (.const (.int 6)))]) (putK 33 (.int x) L) (hD pre is' tags [.list (names.map nmV), .rng 0 K 1]) = some (nmV (a, b), hD pre is' tags [.list (names.map nmV), .rng 0 K 1]) := by
    rw [evE_tupE, evEs_cons, e2, Option.bind_some]
    show (Option.bind (Option.bind (evEs _ [_] _ _) _) _) = _
    rw [evEs_cons, e3]; rfl
  refine (exprS (appE (a := pre.length + 2) (vs := names.map nmV) (getE (gk_ne (by decide) (hL.get (i := 7) rfl))) lkP e4 lkP (by rw [List.length_map]; exact Nat.le_trans hnl (by decide)) stP)).trans ?_
  rw [List.map_append]; rfl
end
end PL
end
section
namespace PL
open Builtin.Str StrLaws
theorem rz_ref {σ : St} {n a k : Nat} {o : O} (h : n ≤ a) (e : σ[a]? = some o) : rz σ n (k + 1) (.ref a) = frzO (rz σ n k) o := by
  show (bif Nat.ble n a then (match σ[a]? with | some o => frzO (rz σ n k) o | none => .bad) else .bad) = _
  rw [e, Nat.ble_eq_true_of_le h]; rfl
theorem rv_ref {σ : St} {n a : Nat} {o : O} (h : n ≤ a) (e : σ[a]? = some o) : rv σ n (.ref a) = frzO (rz σ n 5) o := by
  show (bif Nat.blt a n then V.ref a else rz σ n 6 (.ref a)) = _
  rw [show Nat.blt a n = false from Bool.eq_false_iff.mpr fun h' => absurd (Nat.le_of_ble_eq_true h') (Nat.not_lt.mpr h), rz_ref h e]; rfl
section
variable {F d : Nat} {sx : List (Nat × O)} {pre : List O} {is : List Int} {tags : List Tag} {names : List (List Nat × List Nat)} {K : Int} {L : Loc} {σ : St} {n : Int} {z N : Nat}
inductive DN (pre : List O) (tags : List Tag) (K n : Int) (N : Nat) : List V → Loc → St → Prop
  | mk {names : List (List Nat × List Nat)} {is : List Int} {xs : List V} {L : Loc} : LK L [(1, .ref (pre.length + 1)), (7, .ref (pre.length + 2)), (30, .ref (pre.length + 0)), (31, .int n)] → (∀ v ∈ xs, ∃ j, v = .int j) → (∀ x ∈ names, NameOk x) → is.length ≤ N → names.length + xs.length ≤ 4 → DN pre tags K n N xs L (hD pre is tags [.list (names.map nmV), .rng 0 K 1])
theorem draw_names {σ0 : St} (hp : ∀ o ∈ pre, Inert o) (h0 : σ0[pre.length + 3]? = some (.rng 0 K 1)) {xs : List V} (h : DN pre tags K n N xs L σ) :
    OutS (forL (fun v L s => bindFt (cxOf (L4.pr sx) F (runF (L4.pr sx) F (d + 1))) s (.one 32) v L) (fun s => stillV (cxOf (L4.pr sx) F (runF (L4.pr sx) F (d + 1))) σ0 s (.ref (pre.length + 3))) (fun L s => evSs (cxOf (L4.pr sx) F (runF (L4.pr sx) F (d + 1))) drN z L s) xs L σ) (fun f L σ => f = .next ∧ DN pre tags K n N [] L σ) := by
  have hst : ∀ {is : List Int} {names : List (List Nat × List Nat)}, stillV (cxOf (L4.pr sx) F (runF (L4.pr sx) F (d + 1))) σ0 (hD pre is tags [.list (names.map nmV), .rng 0 K 1]) (.ref (pre.length + 3)) = true := still_iff.mpr (Eq.trans lkP h0.symm)
  refine forL_rule (DN pre tags K n N) (fun v vs L σ h => ?_) (fun L σ h => ⟨by cases h; exact hst, rfl, h⟩) xs L σ h
  cases h with | @mk names is _ _ hL hv hn hi hl =>
  obtain ⟨j, rfl⟩ := hv v (.head _)
  rw [List.length_cons] at hl
  have hL2 : LK (putK 32 (.int j) L) ((32, .int j) :: [(1, .ref (pre.length + 1)), (7, .ref (pre.length + 2)), (30, .ref (pre.length + 0)), (31, .int n)]) := hL.new
  obtain ⟨x, is', hx, hi', L', K', e⟩ := draw_name (F := F) (d := d) (sx := sx) (is := is) (tags := tags) (K := K) (z := z) hp (hL2.sub ⟨rfl, rfl, rfl, rfl, trivial⟩) (by lia : names.length ≤ 100)
  exact ⟨hst, _, rfl, _, _, _, e, .mk (LK.kp K' (hL2.sub (fs := [(1, .ref (pre.length + 1)), (7, .ref (pre.length + 2)), (30, .ref (pre.length + 0)), (31, .int n)]) ⟨rfl, rfl, rfl, rfl, trivial⟩) rfl) (fun v h => hv v (.tail _ h)) (fun y hy => (List.mem_append.mp hy).elim (hn y) fun h => by obtain rfl := List.mem_singleton.mp h; exact hx) (Nat.le_trans hi' hi) (by rw [List.length_append, List.length_singleton]; lia)⟩
theorem gcD {g : Tag} {s : St} (hp : ∀ o ∈ pre, Inert o) (hs : s = pre ++ [.list (is.map V.int), .list (tags.map tgV ++ [V.ref (pre.length + 4)]), .list (g.names.map nmV), .rng 0 K 1, .tuple [.str g.kd, .str g.ti, .bool g.cl, .ref (pre.length + 2)]]) : gcS s (pre.length + 2) = hD pre is (tags ++ [g]) [] := by
  have h1 : rv s (pre.length + 2) (.ref (pre.length + 4)) = tgV g := by
    rw [rv_ref (Nat.le_add_right (pre.length + 2) 2) (show s[pre.length + 4]? = some _ by rw [hs]; exact lkP)]
    show V.frz (.tuple [.str g.kd, .str g.ti, .bool g.cl, rz s (pre.length + 2) 5 (.ref (pre.length + 2))]) = _
    rw [rz_ref (Nat.le_refl _) (show s[pre.length + 2]? = some _ by rw [hs]; exact lkP)]
    show V.frz (.tuple [.str g.kd, .str g.ti, .bool g.cl, .frz (.list ((g.names.map nmV).map _))]) = _
    rw [List.map_map]; rfl
  have h2 : s.take (pre.length + 2) = pre ++ [.list (is.map V.int), .list (tags.map tgV ++ [V.ref (pre.length + 4)])] := by
    rw [hs]
    refine (congrArg (List.take (pre.length + 2)) (List.append_assoc pre [_, _] [_, _, _]).symm).trans (List.take_left' ?_)
    rw [List.length_append]; rfl
  show (s.take (pre.length + 2)).map _ = _
  rw [h2, List.map_append, inert_map hp]
  show pre ++ [oMap _ (.list (is.map V.int)), .list ((tags.map tgV ++ [V.ref (pre.length + 4)]).map (rv s (pre.length + 2)))] = _
  rw [Inert.ints, List.map_append, List.map_map, List.map_cons, h1]
  show _ = pre ++ [_, O.list ((tags ++ [g]).map tgV)]
  rw [List.map_append]; rfl
end
end PL
end
section
namespace PL
open Builtin.Str StrLaws
section
variable {F d : Nat} {sx : List (Nat × O)} {pre : List O} {is : List Int} {tags : List Tag} {L : Loc} {σ : St} {n : Int} {z : Nat}
inductive DW (pre : List O) : Nat → Loc → St → Prop
  | mk {is : List Int} {tags : List Tag} {L : Loc} : LK L [(1, .ref (pre.length + 1)), (30, .ref (pre.length + 0))] → (∀ g ∈ tags, TagOk g) → tags.length ≤ 8 → DW pre is.length L (hD pre is tags [])
theorem hD_len {ex : List O} : (hD pre is tags ex).length = pre.length + (ex.length + 2) := List.length_append
theorem draw_body (hp : ∀ o ∈ pre, Inert o) (hL : LK L [(1, .ref (pre.length + 1)), (30, .ref (pre.length + 0))]) (hok : ∀ g ∈ tags, TagOk g) (hl : tags.length < 8) :
    OutS (evSs (cxOf (L4.pr sx) F (runF (L4.pr sx) F (d + 1))) drB (pre.length + 1) L (hD pre (n :: is) tags [])) (fun f L σ => f = .next ∧ ∃ m, m < is.length + 1 ∧ DW pre m L σ) := by
  have h30 := hL.get (i := 30) rfl
  have e1 : evE (cxOf (L4.pr sx) F (runF (L4.pr sx) F (d + 1))) (.popAt (.loc 30) (.const (.int 0))) L (hD pre (n :: is) tags []) = some (.int n, hD pre is tags []) := popE (getE h30) (vs := is.map V.int) lkP stP
  have hr : (hD pre is tags []).length = pre.length + 2 := hD_len
  have e2 : evE (cxOf (L4.pr sx) F (runF (L4.pr sx) F (d + 1))) (.listE []) (putK 31 (.int n) L) (hD pre is tags []) = some (.ref (pre.length + 2), hD pre is tags [.list []]) := by
    show some (V.ref (hD pre is tags []).length, hD pre is tags [] ++ [O.list []]) = _
    rw [hr]; exact congrArg (fun s => some (_, s)) (List.append_assoc _ _ _)
  have hL2 : LK (putK 7 (.ref (pre.length + 2)) (putK 31 (.int n) L)) ((7, .ref (pre.length + 2)) :: (31, .int n) :: [(1, .ref (pre.length + 1)), (30, .ref (pre.length + 0))]) := (hL.new (j := 31)).new (j := 7)
  have hr2 : (hD pre is tags [.list []]).length = pre.length + 3 := hD_len
  have e3 : evE (cxOf (L4.pr sx) F (runF (L4.pr sx) F (d + 1))) (.range (.bin .mod (.bin .add (.loc 31) (.const (.int 3))) (.const (.int 5)))) (putK 7 (.ref (pre.length + 2)) (putK 31 (.int n) L)) (hD pre is tags [.list []]) = some (.ref (pre.length + 3), hD pre is tags [.list [], .rng 0 (Int.fmod (n + 3) 5) 1]) := by
    have a : evE (cxOf (L4.pr sx) F (runF (L4.pr sx) F (d + 1))) (.bin .add (.loc 31) (.const (.int 3))) (putK 7 (.ref (pre.length + 2)) (putK 31 (.int n) L)) (hD pre is tags [.list []]) = some (.int (n + 3), hD pre is tags [.list []]) := binE (getE (hL2.get rfl)) (b := .int 3) rfl rfl
    rw [evE_range, modE a (by decide), Option.bind_some]
    refine (if_pos (show (Int.fmod (n + 3) 5 : Int) ≤ LIM from Int.le_trans (Int.le_of_lt (fmod_pos (n + 3) (by decide : (0 : Int) < 5)).2) (by decide))).trans ?_
    show some (V.ref (hD pre is tags [.list []]).length, hD pre is tags [.list []] ++ [O.rng 0 (Int.fmod (n + 3) 5) 1]) = _
    rw [hr2]; exact congrArg (fun s => some (_, s)) (List.append_assoc _ _ _)
  have hK := fmod_pos (n + 3) (by decide : (0 : Int) < 5)
  have hi : iterV (cxOf (L4.pr sx) F (runF (L4.pr sx) F (d + 1))) (hD pre is tags [.list [], .rng 0 (Int.fmod (n + 3) 5) 1]) (.ref (pre.length + 3)) = some ((List.range (rngN 0 (Int.fmod (n + 3) 5) 1)).map fun k => V.int (0 + 1 * Int.ofNat k)) := by
    show ((hD pre is tags [.list [], .rng 0 (Int.fmod (n + 3) 5) 1])[pre.length + 3]?).bind _ = _
    rw [show (hD pre is tags [.list [], .rng 0 (Int.fmod (n + 3) 5) 1])[pre.length + 3]? = some _ from lkP]
    exact if_pos ⟨by decide, ⟨Int.le_trans (by decide) hK.1, Int.le_trans (Int.le_of_lt hK.2) (by decide)⟩, rfl⟩
  obtain ⟨f, L3, σ3, e4, rfl, h3⟩ := draw_names (F := F) (d := d) (sx := sx) (z := (hD pre is tags [.list [], .rng 0 (Int.fmod (n + 3) 5) 1]).length) (σ0 := hD pre is tags [.list [], .rng 0 (Int.fmod (n + 3) 5) 1]) hp lkP (xs := (List.range (rngN 0 (Int.fmod (n + 3) 5) 1)).map fun k => V.int (0 + 1 * Int.ofNat k)) (DN.mk (names := []) (tags := tags) (K := Int.fmod (n + 3) 5) (N := is.length) (hL2.sub ⟨rfl, rfl, rfl, rfl, trivial⟩) (fun v hv => by obtain ⟨k, _, rfl⟩ := List.mem_map.mp hv; exact ⟨_, rfl⟩) (fun qq1 h => nomatch h) (Nat.le_refl _) (by
    rw [List.length_map, List.length_range]
    show 0 + (Int.fmod (n + 3) 5 - 0).toNat ≤ 4
    lia))
  generalize hx : ([] : List V) = xs at h3
  cases h3 with | @mk names is3 _ _ hL3 _ hn3 hi3 hl3 =>
  subst hx
  have h31 : ∀ σ, evE (cxOf (L4.pr sx) F (runF (L4.pr sx) F (d + 1))) (.loc 31) L3 σ = some (.int n, σ) := fun σ => getE (hL3.get rfl)
  have hC : Cld (hD pre is3 tags [.list (names.map nmV), .rng 0 (Int.fmod (n + 3) 5) 1]) := hD_cld hp fun o ho => by
    rcases List.mem_cons.mp ho with rfl | ho
    · exact Inert.names
    · obtain rfl := List.mem_singleton.mp ho; exact fun qq1 qq2 => rfl
  obtain ⟨kd, hkd, e5⟩ := tabE (c := cxOf (L4.pr sx) F (runF (L4.pr sx) F (d + 1))) (L := L3) (l := kindsL) (f := 794) (σ := hD pre is3 tags [.list (names.map nmV), .rng 0 (Int.fmod (n + 3) 5) 1]) (e := .bin .mod (.loc 31) (.const (.int 7))) (x794 (F := F) (d := d) (sx := sx) hC) (modE (h31 _) (by decide)) (fmod_pos n (by decide : (0 : Int) < 7))
  obtain ⟨ti, hti, e6⟩ := tabE (c := cxOf (L4.pr sx) F (runF (L4.pr sx) F (d + 1))) (L := L3) (l := titlesL) (f := 787) (σ := hD pre is3 tags [.list (names.map nmV), .rng 0 (Int.fmod (n + 3) 5) 1]) (e := .bin .mod (.bin .fdiv (.loc 31) (.const (.int 35))) (.const (.int 4))) (x787 (F := F) (d := d) (sx := sx) hC) (modE (divE (h31 _) (by decide : (0 : Int) < 35 ∧ (35 : Int) ≤ LIM)) (by decide)) (fmod_pos _ (by decide : (0 : Int) < 4))
  have e7 : evE (cxOf (L4.pr sx) F (runF (L4.pr sx) F (d + 1))) (.cmp .eq (.bin .mod (.bin .fdiv (.loc 31) (.const (.int 140))) (.const (.int 2))) (.const (.int 1))) L3 (hD pre is3 tags [.list (names.map nmV), .rng 0 (Int.fmod (n + 3) 5) 1]) = some (.bool (Int.fmod (Int.fdiv n 140) 2 == 1), hD pre is3 tags [.list (names.map nmV), .rng 0 (Int.fmod (n + 3) 5) 1]) :=
    cmpE (modE (divE (h31 _) (by decide : (0 : Int) < 140 ∧ (140 : Int) ≤ LIM)) (by decide)) (b := .int 1) rfl rfl
  have hr3 : (hD pre is3 tags [.list (names.map nmV), .rng 0 (Int.fmod (n + 3) 5) 1]).length = pre.length + 4 := hD_len
  have e8 : evE (cxOf (L4.pr sx) F (runF (L4.pr sx) F (d + 1))) (.tupE [.sub (.call 794 []) (.bin .mod (.loc 31) (.const (.int 7))), .sub (.call 787 []) (.bin .mod (.bin .fdiv (.loc 31) (.const (.int 35))) (.const (.int 4))), .cmp .eq (.bin .mod (.bin .fdiv (.loc 31) (.const (.int 140))) (.const (.int 2))) (.const (.int 1)), .loc 7]) L3 (hD pre is3 tags [.list (names.map nmV), .rng 0 (Int.fmod (n + 3) 5) 1]) = some (.ref (pre.length + 4), hD pre is3 tags [.list (names.map nmV), .rng 0 (Int.fmod (n + 3) 5) 1, .tuple [.str kd, .str ti, .bool (Int.fmod (Int.fdiv n 140) 2 == 1), .ref (pre.length + 2)]]) := by
    rw [evE_tupE, evEs_cons, e5, Option.bind_some]
    show Option.bind (Option.bind (evEs _ (_ :: _) _ _) _) _ = _
    rw [evEs_cons, e6, Option.bind_some]
    show Option.bind (Option.bind (Option.bind (evEs _ (_ :: _) _ _) _) _) _ = _
    rw [evEs_cons, e7, Option.bind_some]
    show Option.bind (Option.bind (Option.bind (Option.bind (evEs _ (_ :: _) _ _) _) _) _) _ = _
    rw [evEs_cons, getE (hL3.get (i := 7) rfl)]
    show some (V.ref (hD pre is3 tags [.list (names.map nmV), .rng 0 (Int.fmod (n + 3) 5) 1]).length, hD pre is3 tags [.list (names.map nmV), .rng 0 (Int.fmod (n + 3) 5) 1] ++ [_]) = _
    rw [hr3]; exact congrArg (fun s => some (_, s)) (List.append_assoc _ _ _)
  have hg : TagOk ⟨kd, ti, Int.fmod (Int.fdiv n 140) 2 == 1, names⟩ := ⟨hkd, hti, hn3, by rw [List.length_nil] at hl3; exact hl3⟩
  have e9 := gcD (g := ⟨kd, ti, Int.fmod (Int.fdiv n 140) 2 == 1, names⟩) (is := is3) (tags := tags) (K := Int.fmod (n + 3) 5) hp rfl
  have e10 := (asgL (i := 31) (z := pre.length + 1) (r := drB.drop 1) e1).trans ((asgL (i := 7) (r := drB.drop 2) e2).trans ((forS (it := .range (.bin .mod (.bin .add (.loc 31) (.const (.int 3))) (.const (.int 5)))) (r := drB.drop 3) (z := pre.length + 1) e3 hi e4).trans (exprS (r := [.gc 1]) (appE (l := .loc 1) (a := pre.length + 1) (vs := tags.map tgV) (σ' := pre ++ [.list (is3.map V.int), .list (tags.map tgV ++ [V.ref (pre.length + 4)]), .list (names.map nmV), .rng 0 (Int.fmod (n + 3) 5) 1, .tuple [.str kd, .str ti, .bool (Int.fmod (Int.fdiv n 140) 2 == 1), .ref (pre.length + 2)]]) (getE (hL3.get (i := 1) rfl)) lkP e8 lkP (by rw [List.length_map]; exact Nat.le_trans (Nat.le_of_lt hl) (by decide)) stP))))
  have e11 : evSs (cxOf (L4.pr sx) F (runF (L4.pr sx) F (d + 1))) drB (pre.length + 1) L (hD pre (n :: is) tags []) = some (.next, gcL _ (pre.length + 2) L3, gcS _ (pre.length + 2)) := e10
  rw [e9] at e11
  refine ⟨.next, _, _, e11, rfl, is3.length, Nat.lt_succ_of_le hi3, DW.mk (is := is3) (tags := tags ++ [⟨kd, ti, Int.fmod (Int.fdiv n 140) 2 == 1, names⟩]) ⟨gk_gc (hL3.get (i := 1) rfl) (rv_low (Nat.lt_succ_self _)), gk_gc (hL3.get (i := 30) rfl) (rv_low (Nat.lt_add_of_pos_right (Nat.zero_lt_succ 1))), trivial⟩ (fun g h => (List.mem_append.mp h).elim (hok g) fun h => by obtain rfl := List.mem_singleton.mp h; exact hg) (by rw [List.length_append]; exact hl)⟩
end
end PL
end
section
namespace PL
open Builtin.Str StrLaws
section
variable {F d : Nat} {sx : List (Nat × O)} {pre : List O} {is : List Int} {tags : List Tag} {L : Loc} {σ : St} {n : Int} {z : Nat}
theorem draw_loop (hp : ∀ o ∈ pre, Inert o) (hF : is.length < F) (hL : LK L [(1, .ref (pre.length + 1)), (30, .ref (pre.length + 0))]) :
    OutS (whileL (fun L s => evT (cxOf (L4.pr sx) F (runF (L4.pr sx) F (d + 1))) drT L s) (fun L s => evSs (cxOf (L4.pr sx) F (runF (L4.pr sx) F (d + 1))) drB (pre.length + 1) L s) F L (hD pre is [] [])) (fun f L σ => f = .next ∧ ∃ n, DW pre n L σ) := by
  refine whileL_rule (DW pre) (fun n L σ h => ?_) F is.length L _ hF (.mk hL (fun qq1 h => nomatch h) (Nat.zero_le _))
  cases h with | @mk is tags _ hL hok hl =>
  have h30 := hL.get (i := 30) rfl
  have t1 : evT (cxOf (L4.pr sx) F (runF (L4.pr sx) F (d + 1))) (.loc 30) L (hD pre is tags []) = some (!(is.map V.int).isEmpty, hD pre is tags []) := by
    rw [tv_loc, getE h30, Option.bind_some]
    show (Option.bind ((hD pre is tags [])[pre.length + 0]?) _).map _ = _
    rw [show (hD pre is tags [])[pre.length + 0]? = some _ from lkP]; rfl
  cases is with
  | nil => exact ⟨false, _, andT0 t1, rfl, _, .mk hL hok hl⟩
  | cons n is =>
    have t2 : evE (cxOf (L4.pr sx) F (runF (L4.pr sx) F (d + 1))) (.len (.loc 1)) L (hD pre (n :: is) tags []) = some (.int (tags.length : Nat), hD pre (n :: is) tags []) := by
      rw [evE_len, getE (hL.get (i := 1) rfl), Option.bind_some]
      show Option.bind ((hD pre (n :: is) tags [])[pre.length + 1]?) _ = _
      rw [show (hD pre (n :: is) tags [])[pre.length + 1]? = some _ from lkP, ← List.length_map (as := tags) tgV]; rfl
    have t3 : evT (cxOf (L4.pr sx) F (runF (L4.pr sx) F (d + 1))) drT L (hD pre (n :: is) tags []) = some (decide ((tags.length : Int) < 8), hD pre (n :: is) tags []) := andT1 t1 (cmpT t2 (b := .int 8) rfl rfl)
    refine ⟨_, _, t3, ?_⟩
    by_cases h8 : (tags.length : Int) < 8
    · rw [decide_eq_true h8]
      obtain ⟨f, L', σ', e, rfl, h'⟩ := draw_body (F := F) (d := d) (sx := sx) (is := is) (n := n) hp hL hok (Int.ofNat_lt.mp h8)
      exact ⟨_, _, _, e, h'⟩
    · rw [decide_eq_false h8]
      exact ⟨rfl, _, .mk hL hok hl⟩
theorem x820 (hp : ∀ o ∈ pre, Inert o) (hF : is.length < F) : ∃ (tags : List Tag) (is' : List Int), (∀ g ∈ tags, TagOk g) ∧ tags.length ≤ 8 ∧
    runF (L4.pr sx) F (d + 2) 820 [.ref (pre.length + 0)] (pre ++ [.list (is.map V.int)]) = some (.frz (.list (tags.map tgV)), pre ++ [.list (is'.map V.int)]) := by
  have hr : (pre ++ [O.list (is.map V.int)]).length = pre.length + 1 := List.length_append
  have e1 : evE (cxOf (L4.pr sx) F (runF (L4.pr sx) F (d + 1))) (.listE []) [(30, .ref (pre.length + 0))] (pre ++ [.list (is.map V.int)]) = some (.ref (pre.length + 1), hD pre is [] []) := by
    show some (V.ref (pre ++ [O.list (is.map V.int)]).length, (pre ++ [O.list (is.map V.int)]) ++ [O.list []]) = _
    rw [hr]; exact congrArg (fun s => some (_, s)) (List.append_assoc _ _ _)
  obtain ⟨f, L, σ, e2, rfl, n, h⟩ := draw_loop (F := F) (d := d) (sx := sx) (is := is) (L := putK 1 (.ref (pre.length + 1)) [(30, .ref (pre.length + 0))]) hp hF ⟨rfl, rfl, trivial⟩
  cases h with | @mk is' tags _ hL hok hl =>
  have hC : Cld (pre ++ [.list (is'.map V.int)]) := fun s => inert_map fun o ho => by
    rcases List.mem_append.mp ho with ho | ho
    · exact hp o ho
    · obtain rfl := List.mem_singleton.mp ho; exact Inert.ints
  have ha : hD pre is' tags [] = (pre ++ [.list (is'.map V.int)]) ++ [.list (tags.map tgV)] := (List.append_assoc pre [.list (is'.map V.int)] [.list (tags.map tgV)]).symm
  have hl' : (pre ++ [O.list (is'.map V.int)]).length = pre.length + 1 := List.length_append
  have g1 : gcS (hD pre is' tags []) (pre.length + 1) = pre ++ [.list (is'.map V.int)] := by rw [ha, ← hl']; exact gcS_app hC
  have g2 : rv (hD pre is' tags []) (pre.length + 1) (.ref (pre.length + 1)) = .frz (.list (tags.map tgV)) := by
    rw [ha, ← hl', rv_last]
    show V.frz (.list ((tags.map tgV).map _)) = _
    rw [List.map_map]; rfl
  refine ⟨tags, is', hok, hl, fn_eq (fl := .ret (.frz (.list (tags.map tgV)))) (L' := gcL (hD pre is' tags []) (pre.length + 1) L) rfl rfl ((asgL e1).trans ?_) rfl⟩
  show evSs _ [.whiles drT drB, .retf (.loc 1)] _ _ _ = _
  rw [evSs_cons, evS_whiles, hr]
  show Option.bind (whileL _ _ F _ _) _ = _
  rw [e2]
  refine (retF' (getE (hL.get rfl))).trans ?_
  rw [g1, g2]
end
end PL
end
section
namespace PL
open Builtin.Str StrLaws
abbrev Nm := List Nat × List Nat
noncomputable def rawN (N : List Nm) : List Nat := (N.map fun n => n.1 ++ n.2).flatten
noncomputable def nmC (n : List Nat) : Bool := (n.all fun c => !inv c && !Nat.beq c 13) && Nat.ble n.length 2 && (match n with | [] => false | c :: _ => !Nat.beq c 10)
theorem np_cons {x : Nat} {r : List Nat} (h : noPair 13 10 r = true) (hx : x ≠ 13 ∨ r.head? ≠ some 10) : noPair 13 10 (x :: r) = true := by
  cases r with
  | nil => rfl
  | cons y t =>
    show (!(x == 13 && y == 10) && noPair 13 10 (y :: t)) = true
    rw [h, Bool.and_true, Bool.not_eq_true', Bool.and_eq_false_iff]
    rcases hx with hx | hx
    · exact .inl (beq_false_of_ne hx)
    · exact .inr (beq_false_of_ne fun e => hx (by rw [e]; rfl))
theorem np_app {r : List Nat} (h : noPair 13 10 r = true) : ∀ {l : List Nat}, (∀ c ∈ l, c ≠ 13) → noPair 13 10 (l ++ r) = true
  | [], _ => h
  | x :: l, k => np_cons (np_app h fun c hc => k c (.tail _ hc)) (.inl (k x (.head _)))
theorem nl_id : ∀ {l : List Nat}, (∀ c ∈ l, c ≠ 13) → l.map nl13 = l
  | [], _ => rfl
  | x :: l, k => by rw [List.map_cons, nl_id fun c hc => k c (.tail _ hc), show nl13 x = x from if_neg (k x (.head _))]
structure Rw (N : List Nm) : Prop where
  np : noPair 13 10 (rawN N) = true
  hd : (rawN N).head? ≠ some 10
  iv : ∀ c ∈ rawN N, inv c = false
  ln : (rawN N).length ≤ 3 * N.length
  mp : (rawN N).map nl13 = txt N
theorem rw_ok : ∀ N : List Nm, (∀ n ∈ N, NameOk n) → Rw N
  | [], _ => ⟨rfl, fun h => (nomatch h), fun qq1 h => (nomatch h), Nat.le_refl _, rfl⟩
  | (a, b) :: r, h => by
    have ih := rw_ok r fun n hn => h n (.tail _ hn)
    have hn := h (a, b) (.head _)
    have h1 : nmC a = true := List.all_eq_true.mp (rfl : namesL.all nmC = true) a hn.h1
    obtain ⟨x, hx, hv⟩ : ∃ x, b = [x] ∧ inv x = false := all_mem (P := fun b => ∃ x, b = [x] ∧ inv x = false) (l := endsL) ⟨⟨_, rfl, rfl⟩, ⟨_, rfl, rfl⟩, ⟨_, rfl, rfl⟩, ⟨_, rfl, rfl⟩, ⟨_, rfl, rfl⟩, ⟨_, rfl, rfl⟩, trivial⟩ b hn.h2
    cases hx
    unfold nmC at h1
    rw [Bool.and_eq_true, Bool.and_eq_true] at h1
    obtain ⟨⟨h2, h3⟩, h4⟩ := h1
    have h5 : ∀ c ∈ a, inv c = false ∧ c ≠ 13 := fun c hc => by
      have := List.all_eq_true.mp h2 c hc
      rw [Bool.and_eq_true, Bool.not_eq_true', Bool.not_eq_true'] at this
      exact ⟨this.1, fun e => by rw [e] at this; cases this.2⟩
    have e : rawN ((a, [x]) :: r) = a ++ (x :: rawN r) := by
      show (a ++ [x]) ++ rawN r = _
      rw [List.append_assoc]; rfl
    refine ⟨?_, ?_, ?_, ?_, ?_⟩
    · rw [e]; exact np_app (np_cons ih.np (.inr ih.hd)) fun c hc => (h5 c hc).2
    · rw [e]
      cases a with
      | nil => cases h4
      | cons y t => exact fun k => by rw [show y = 10 from Option.some.inj k] at h4; cases h4
    · rw [e]
      intro c hc
      rcases List.mem_append.mp hc with hc | hc
      · exact (h5 c hc).1
      · rcases List.mem_cons.mp hc with rfl | hc
        · exact hv
        · exact ih.iv c hc
    · have h3 := Nat.le_of_ble_eq_true h3
      have := ih.ln
      rw [e, List.length_append, List.length_cons, List.length_cons]
      lia
    · rw [e, List.map_append, List.map_cons, ih.mp, nl_id fun c hc => (h5 c hc).2]
      show _ = (a ++ [nl13 x]) ++ txt r
      rw [List.append_assoc]; rfl
theorem compL_cat {α : Type} {bind : V → Loc → St → Option Loc} {still : St → Bool} {elt : Loc → St → Option (List V × St)} {σ : St} {g : α → V} {f : α → List V} (hs : still σ = true) : ∀ (l : List α) (L : Loc), (∀ v ∈ l, ∀ L, ∃ L1, bind (g v) L σ = some L1 ∧ elt L1 σ = some (f v, σ)) → compL bind still elt (l.map g) L σ = some ((l.map f).flatten, σ)
  | [], L, _ => (compL_nil).trans (if_pos hs)
  | v :: vs, L, h => by
    obtain ⟨L1, h1, h2⟩ := h v (.head _) L
    rw [List.map_cons, compL_cons, if_pos hs, h1, Option.bind_some, h2, Option.bind_some]
    show (compL bind still elt (vs.map g) L1 σ).bind _ = _
    rw [compL_cat hs vs L1 fun v hv => h v (.tail _ hv)]
    rfl
theorem flat_f {α β : Type} {f : α → β} : ∀ l : List α, (l.map fun x => [f x]).flatten = l.map f
  | [] => rfl
  | x :: l => congrArg (f x :: ·) (flat_f l)
noncomputable def allN (tags : List Tag) : List Nm := (tags.map Tag.names).flatten
theorem allN_ok {tags : List Tag} (h : ∀ g ∈ tags, TagOk g) : ∀ n ∈ allN tags, NameOk n := fun n hn => by
  obtain ⟨l, hl, hn⟩ := List.mem_flatten.mp hn
  obtain ⟨g, hg, rfl⟩ := List.mem_map.mp hl
  exact (h g hg).hn n hn
theorem allN_len : ∀ {tags : List Tag}, (∀ g ∈ tags, TagOk g) → (allN tags).length ≤ 4 * tags.length
  | [], _ => Nat.le_refl _
  | g :: r, h => by
    have := allN_len fun g hg => h g (.tail _ hg)
    have := (h g (.head _)).hl
    show (g.names ++ allN r).length ≤ 4 * (r.length + 1)
    rw [List.length_append]; lia
theorem allN_txt : ∀ tags : List Tag, txt (allN tags) = tagsTxt tags
  | [] => rfl
  | g :: r => by
    show txt (g.names ++ allN r) = txt g.names ++ tagsTxt r
    unfold txt
    rw [List.map_append, List.flatten_append]
    exact congrArg (_ ++ ·) (allN_txt r)
theorem md_tags {tags : List Tag} (h : ∀ g ∈ tags, TagOk g) (hl : tags.length ≤ 8) : Md (rawN (allN tags)) (tagsTxt tags) := by
  have R := rw_ok _ (allN_ok h)
  have := allN_len h
  have := R.ln
  exact ⟨R.np, R.iv, by lia, by rw [← allN_txt, ← R.mp]; rfl⟩
theorem law_text {c : Cx} {L : Loc} {σ : St} {tags : List Tag} (h1 : getK 1 L = some (.frz (.list (tags.map tgV)))) (hok : ∀ g ∈ tags, TagOk g) (hl : tags.length ≤ 8) :
    evE c (.join [] (.comp2 (.many [4, 5, 6, 7]) (.loc 1) (.many [8, 9]) (.loc 7) (.bin .add (.loc 8) (.loc 9)))) L σ = some (.str (rawN (allN tags)), σ ++ [.list (((allN tags).map fun n => n.1 ++ n.2).map V.str)]) := by
  have hm := md_tags hok hl
  have hN := allN_len hok
  have hc := compL_cat (bind := fun v L s => bindFt c s (.many [4, 5, 6, 7]) v L) (still := fun s => stillV c σ s (.frz (.list (tags.map tgV)))) (elt := fun L1 s => (evE c (.loc 7) L1 s).bind fun (o2, s1) => (iterV c s1 o2).bind fun ys => compL (fun v L s => bindFt c s (.many [8, 9]) v L) (fun s => stillV c s1 s o2) (fun L2 s => (evE c (.bin .add (.loc 8) (.loc 9)) L2 s).map fun (v, s2) => ([v], s2)) ys L1 s1)
    (σ := σ) (g := tgV) (f := fun g => (g.names.map fun n : Nm => [V.str (n.1 ++ n.2)]).flatten) (still_iff.mpr rfl) tags L fun g hg L => ⟨_, rfl, by
      rw [getE (v := .frz (.list (g.names.map nmV))) gk_eq]
      refine compL_cat (f := fun n : Nm => [V.str (n.1 ++ n.2)]) (still_iff.mpr rfl) g.names _ fun n hn L => ⟨_, rfl, ?_⟩
      have hb : (n.1.length + n.2.length ≤ LIM) := by
        have k := (rw_ok [n] fun m hm => by rw [List.mem_singleton.mp hm]; exact (hok g hg).hn n hn).ln
        have k : (n.1 ++ n.2 ++ []).length ≤ 3 := k
        rw [List.append_nil, List.length_append] at k
        exact Nat.le_trans k (by decide)
      rw [binE (c := c) (op := .add) (l := .loc 8) (r := .loc 9) (L := putK 9 (.str n.2) (putK 8 (.str n.1) L)) (σ := σ) (a := .str n.1) (b := .str n.2) (σ2 := σ) (σ3 := σ) (v := .str (n.1 ++ n.2)) (getE (gk_ne (by decide) gk_eq)) (getE gk_eq) (if_pos hb)]
      rfl⟩
  have e : (tags.map fun g => (g.names.map fun n : Nm => [V.str (n.1 ++ n.2)]).flatten).flatten = ((allN tags).map fun n => n.1 ++ n.2).map V.str := by
    unfold allN
    rw [List.map_map, List.map_flatten, List.map_map]
    exact congrArg List.flatten (List.map_congr_left fun g qq1 => flat_f _)
  rw [e] at hc
  rw [evE_join, evE_comp2, getE h1, Option.bind_some]
  show Option.bind (Option.bind (some (tags.map tgV)) _) _ = _
  rw [Option.bind_some]
  show Option.bind (Option.bind (compL _ _ _ _ _ _) _) _ = _
  rw [hc, Option.bind_some]
  show (allocL _ σ).bind _ = _
  rw [allocL_eq (by rw [List.length_map, List.length_map]; exact Nat.le_trans hN (Nat.le_trans (Nat.mul_le_mul_left 4 hl) (by decide))), Option.bind_some]
  exact joinV_eq (c := c) (σ := σ ++ [.list (((allN tags).map fun n => n.1 ++ n.2).map V.str)]) (v := .ref σ.length) lk_last (Nat.le_trans hm.2.2.1 (by decide))
end PL
end
section
namespace PL
open Builtin.Str StrLaws
section
variable {F d : Nat} {sx : List (Nat × O)} {sp : Nat} {is : List Int} {T : O} {t m : List Nat} {L : Loc} {σ : St}
theorem sumV_ints : ∀ (is : List Int) (a : Int), ∃ b, sumV (is.map V.int) a = some b
  | [], a => ⟨a, rfl⟩
  | i :: r, a => sumV_ints r (a + i)
theorem slice_eq (hs : (L4.pr sx).so sp = some (.list (is.map V.int))) (hl : is.length ≤ LIM) {n : Nat} (h2 : getK 2 L = some (.sref sp)) : evE (cxOf (L4.pr sx) F (runF (L4.pr sx) F d)) (.slice (.loc 2) (.const .none) (.const (.int (n : Nat)))) L σ = some (.ref σ.length, σ ++ [.list ((is.take n).map V.int)]) := by
  rw [evE_slice, getE h2, Option.bind_some]
  show Option.bind ((L4.pr sx).so sp) _ = _
  rw [hs]
  show allocL (cut (is.map V.int) 0 (clampI (is.map V.int).length (n : Nat))) σ = _
  rw [cut_take, ← List.map_take]
  exact allocL_eq (by rw [List.length_map, List.length_take]; exact Nat.le_trans (Nat.min_le_right _ _) hl)
theorem ini_rd {r : List PS} : evSs (cxOf (L4.pr sx) F (runF (L4.pr sx) F (d + 5))) (.assign (.l 11) (.new 762 [.loc 3]) :: .gc 7 :: .assign (.a (.loc 11) 12) (.listE []) :: r) 0 [(2, .sref sp), (1, .frz T), (3, .str t), (10, .str m)] [] =
    evSs (cxOf (L4.pr sx) F (runF (L4.pr sx) F (d + 5))) r 0 [(2, .sref sp), (1, .frz T), (3, .str t), (10, .str m), (11, .ref 0)] (hS (rdO .bad .none) (smO [] 0 0 0 .none) (txO t 0) [.list [], .list []]) := by kernel_rfl
end
end PL
end
section
namespace PL
open Builtin.Str StrLaws
section
variable {F d : Nat} {sx : List (Nat × O)} {sp : Nat} {is : List Int} {T : O} {t m : List Nat} {L : Loc} {σ : St} {sm tx : O}
theorem ini_ch (hs : (L4.pr sx).so sp = some (.list (is.map V.int))) (hl : is.length ≤ LIM) (hm : Md t m) (h2 : getK 2 L = some (.sref sp)) (h11 : getK 11 L = some (.ref 0)) {r : List PS} : ∃ (sm tx : O) (g : List V), SvO t m sm tx 0 ∧
    evSs (cxOf (L4.pr sx) F (runF (L4.pr sx) F (d + 5))) (.expr (.meth (.attr (.loc 11) 13) 14 [.bin .add (.const (.int 2)) (.bin .mod (.bin .fdiv (.sum (.slice (.loc 2) (.const .none) (.const (.int 1)))) (.const (.int 9))) (.const (.int 14)))]) :: r) 0 L (hS (rdO .bad .none) (smO [] 0 0 0 .none) (txO t 0) [.list [], .list []]) =
    evSs (cxOf (L4.pr sx) F (runF (L4.pr sx) F (d + 5))) r 0 L (hS (rdO .bad .none) sm tx [.list [], .list [], .list g]) := by
  obtain ⟨S, hS0⟩ := sumV_ints (is.take 1) 0
  have m0 : (0 : Int) ≤ Int.fmod (Int.fdiv S 9) 14 := Int.fmod_nonneg_of_pos _ (by decide)
  obtain ⟨n, hn⟩ : ∃ n : Nat, (2 : Int) + Int.fmod (Int.fdiv S 9) 14 = (n : Nat) := ⟨((2 : Int) + Int.fmod (Int.fdiv S 9) 14).toNat, by lia⟩
  obtain ⟨sm, tx, v, e, H⟩ := sv_first (F := F) (d := d + 2) (sx := sx) (x0 := rdO .bad .none) (rest := [.list [], .list [], .list ((is.take 1).map V.int)]) (n := n) hm
  refine ⟨sm, tx, (is.take 1).map V.int, H, exprS (v := v) ?_⟩
  have e1 : evE (cxOf (L4.pr sx) F (runF (L4.pr sx) F (d + 5))) (.sum (.slice (.loc 2) (.const .none) (.const (.int 1)))) L (hS (rdO .bad .none) (smO [] 0 0 0 .none) (txO t 0) [.list [], .list []]) = some (.int S, hS (rdO .bad .none) (smO [] 0 0 0 .none) (txO t 0) [.list [], .list [], .list ((is.take 1).map V.int)]) := by
    have := slice_eq (F := F) (d := d + 5) (n := 1) (σ := hS (rdO .bad .none) (smO [] 0 0 0 .none) (txO t 0) [.list [], .list []]) hs hl h2
    rw [evE_sum]
    refine (congrArg (Option.bind · _) this).trans ?_
    show (sumV ((is.take 1).map V.int) 0).map _ = _
    rw [hS0]; rfl
  have e2 : evE (cxOf (L4.pr sx) F (runF (L4.pr sx) F (d + 5))) (.bin .add (.const (.int 2)) (.bin .mod (.bin .fdiv (.sum (.slice (.loc 2) (.const .none) (.const (.int 1)))) (.const (.int 9))) (.const (.int 14)))) L (hS (rdO .bad .none) (smO [] 0 0 0 .none) (txO t 0) [.list [], .list []]) = some (.int (n : Nat), hS (rdO .bad .none) (smO [] 0 0 0 .none) (txO t 0) [.list [], .list [], .list ((is.take 1).map V.int)]) := by
    rw [← hn]
    exact binE (a := .int 2) rfl (binE (b := .int 14) (binE (b := .int 9) e1 rfl (if_pos (e := none) (by decide : (0 : Int) < 9 ∧ (9 : Int) ≤ LIM))) rfl (mod_eq (by decide : (0 : Int) < 14 ∧ (14 : Int) ≤ LIM))) rfl
  have a1 : evE (cxOf (L4.pr sx) F (runF (L4.pr sx) F (d + 5))) (.attr (.loc 11) 13) L (hS (rdO .bad .none) (smO [] 0 0 0 .none) (txO t 0) [.list [], .list []]) = some (.ref 1, hS (rdO .bad .none) (smO [] 0 0 0 .none) (txO t 0) [.list [], .list []]) := by
    rw [evE_attr, getE h11]; rfl
  exact methE (cl := 166) (g := 141) (σ2 := hS (rdO .bad .none) (smO [] 0 0 0 .none) (txO t 0) [.list [], .list [], .list ((is.take 1).map V.int)]) (vs := [.int (n : Nat)]) a1 rfl rfl rfl (by rw [evEs_cons, e2]; rfl) e
theorem ini_end {g : List V} (S : SvO t m sm tx 0) {r : List PS} : evSs (cxOf (L4.pr sx) F (runF (L4.pr sx) F (d + 5))) (.gc 8 :: .assignT [.l 15, .l 16, .l 17] (.tupE [.listE [], .const (.int 0), .const (.int 0)]) :: .gc 9 :: r) 0 [(2, .sref sp), (1, .frz T), (3, .str t), (10, .str m), (11, .ref 0)] (hS (rdO .bad .none) sm tx [.list [], .list [], .list g]) =
    evSs (cxOf (L4.pr sx) F (runF (L4.pr sx) F (d + 5))) r 0 [(2, .sref sp), (1, .frz T), (3, .str t), (10, .str m), (11, .ref 0), (15, .ref 8), (16, .int 0), (17, .int 0)] (h9 .none sm tx [] [] []) := by
  have c8 := gcS_app (τ := [.list g]) (cld_hS S (x0 := rdO .bad .none) (rest := [.list [], .list []]) fun s => ⟨rfl, rfl⟩)
  have c9 := gcS_app (τ := [.tuple [.ref 8, .int 0, .int 0]]) (cld_hS S (x0 := rdO .bad .none) (rest := [.list [], .list [], .list []]) fun s => ⟨rfl, rfl⟩)
  show evSs _ _ _ _ (gcS (hS (rdO .bad .none) sm tx [.list [], .list []] ++ [.list g]) (hS (rdO .bad .none) sm tx [.list [], .list []]).length) = _
  rw [c8]
  show evSs _ _ _ _ (gcS (hS (rdO .bad .none) sm tx [.list [], .list [], .list []] ++ [.tuple [.ref 8, .int 0, .int 0]]) (hS (rdO .bad .none) sm tx [.list [], .list [], .list []]).length) = _
  rw [c9]; rfl
end
end PL
end
section
namespace PL
open Builtin.Str StrLaws
section
variable {F d : Nat} {sx : List (Nat × O)} {sp : Nat} {is : List Int} {L : Loc} {σ : St}
theorem gc0 {c : Cx} {T : O} {t m : List Nat} {r : List PS} : evSs c (.gc 0 :: r) 0 [(2, .sref sp), (1, .frz T), (3, .str t), (10, .str m)] σ = evSs c r 0 [(2, .sref sp), (1, .frz T), (3, .str t), (10, .str m)] [] := rfl
theorem law_rest {tags : List Tag} (hF : 1000 < F) (hs : (L4.pr sx).so sp = some (.list (is.map V.int))) (hl : is.length ≤ LIM) (hok : ∀ g ∈ tags, TagOk g) (htl : tags.length ≤ 8) :
    ∃ L' σ', evSs (cxOf (L4.pr sx) F (runF (L4.pr sx) F (d + 5))) (L4.f825.drop 2) 0 [(2, .sref sp), (1, .frz (.list (tags.map tgV)))] [] = some (.ret (.bool true), L', σ') := by
  have hm := md_tags hok htl
  have hm1 : (tagsTxt tags).length ≤ 1000 := by rw [hm.2.2.2, List.length_map]; exact hm.2.2.1
  have e1 := law_text (c := cxOf (L4.pr sx) F (runF (L4.pr sx) F (d + 5))) (L := [(2, .sref sp), (1, .frz (.list (tags.map tgV)))]) (σ := []) rfl hok htl
  have e2 : evE (cxOf (L4.pr sx) F (runF (L4.pr sx) F (d + 5))) (.replC (.loc 3) [13] [10]) [(2, .sref sp), (1, .frz (.list (tags.map tgV))), (3, .str (rawN (allN tags)))] [.list (((allN tags).map fun n => n.1 ++ n.2).map V.str)] = some (.str (tagsTxt tags), [.list (((allN tags).map fun n => n.1 ++ n.2).map V.str)]) := by
    rw [hm.2.2.2]
    exact repl1_eq (Nat.le_trans hm.2.2.1 (by decide)) (by decide)
  obtain ⟨sm, tx, g, S, e3⟩ := ini_ch (F := F) (d := d) (r := L4.f825.drop 9) (L := [(2, .sref sp), (1, .frz (.list (tags.map tgV))), (3, .str (rawN (allN tags))), (10, .str (tagsTxt tags)), (11, .ref 0)]) hs hl hm rfl rfl
  obtain ⟨f, L', σ', e4, rfl, h4⟩ := tags_loop (F := F) (d := d) (sx := sx) (t := rawN (allN tags)) (σ0 := h9 .none sm tx [] [] []) (o := .list (tags.map tgV)) hF hm1 (TI.mk (B := 0) hok (.mk (k := 0) (cnt := 0) (cur := .none) (L := [(2, .sref sp), (1, .frz (.list (tags.map tgV))), (3, .str (rawN (allN tags))), (10, .str (tagsTxt tags)), (11, .ref 0), (15, .ref 8), (16, .int (0 : Nat)), (17, .int (0 : Nat))]) ⟨rfl, rfl, rfl, rfl, rfl, trivial⟩ S rfl (QOk.errs []) (Nat.le_refl _) fun qq1 => rfl) (by lia))
  obtain ⟨L2, σ2, e5⟩ := law_end (F := F) (d := d) (sx := sx) (z := 0) hm1 h4
  have h1 := asgL (i := 3) (z := 0) (r := L4.f825.drop 3) e1
  have h2 := asgL (i := 10) (z := 0) (r := L4.f825.drop 4) e2
  have h3 := ini_rd (F := F) (d := d) (sx := sx) (sp := sp) (T := .list (tags.map tgV)) (t := rawN (allN tags)) (m := tagsTxt tags) (r := L4.f825.drop 8)
  have h4 := ini_end (F := F) (d := d) (sx := sx) (sp := sp) (T := .list (tags.map tgV)) (t := rawN (allN tags)) (m := tagsTxt tags) (g := g) S (r := L4.f825.drop 12)
  have h5 := forS (c := cxOf (L4.pr sx) F (runF (L4.pr sx) F (d + 5))) (t := .many [4, 5, 6, 7]) (b := tagBody) (r := L4.f825.drop 13) (z := 0) (it := .loc 1) (o := .frz (.list (tags.map tgV))) (L := [(2, .sref sp), (1, .frz (.list (tags.map tgV))), (3, .str (rawN (allN tags))), (10, .str (tagsTxt tags)), (11, .ref 0), (15, .ref 8), (16, .int (0 : Nat)), (17, .int (0 : Nat))]) (σ := h9 .none sm tx [] [] []) rfl rfl e4
  exact ⟨L2, σ2, Eq.trans h1 (Eq.trans h2 (Eq.trans gc0 (Eq.trans h3 (Eq.trans e3 (Eq.trans h4 (Eq.trans h5 e5))))))⟩
end
end PL
end
section
namespace PL
open Builtin.Str StrLaws
section
variable {F d : Nat} {sx : List (Nat × O)} {sp : Nat} {is : List Int} {L : Loc} {σ : St}
noncomputable def tapeE : PE := .orE (.listOf (.slice (.loc 2) (.const .none) (.const (.int 30)))) (.listE [.const (.int 0)])
theorem tape_eq (hs : (L4.pr sx).so sp = some (.list (is.map V.int))) (hl : is.length ≤ LIM) : ∃ (pre : List O) (is' : List Int), (∀ o ∈ pre, Inert o) ∧ is'.length < 1000 ∧ evE (cxOf (L4.pr sx) F (runF (L4.pr sx) F d)) tapeE [(2, .sref sp)] [] = some (.ref (pre.length + 0), pre ++ [.list (is'.map V.int)]) := by
  have e1 := slice_eq (F := F) (d := d) (n := 30) (σ := []) (L := [(2, .sref sp)]) hs hl rfl
  have h30 : (is.take 30).length ≤ 30 := by rw [List.length_take]; exact Nat.min_le_left _ _
  have e2 : evE (cxOf (L4.pr sx) F (runF (L4.pr sx) F d)) (.listOf (.slice (.loc 2) (.const .none) (.const (.int 30)))) [(2, .sref sp)] [] = some (.ref 1, [.list ((is.take 30).map V.int), .list ((is.take 30).map V.int)]) := by
    rw [evE_listOf]
    refine (congrArg (Option.bind · _) e1).trans ?_
    exact allocL_eq (σ := [.list ((is.take 30).map V.int)]) (by rw [List.length_map]; exact Nat.le_trans h30 (by decide))
  have e3 : evE (cxOf (L4.pr sx) F (runF (L4.pr sx) F d)) tapeE [(2, .sref sp)] [] = (match !((is.take 30).map V.int).isEmpty with | false => evE (cxOf (L4.pr sx) F (runF (L4.pr sx) F d)) (.listE [.const (.int 0)]) [(2, .sref sp)] [.list ((is.take 30).map V.int), .list ((is.take 30).map V.int)] | true => some (.ref 1, [.list ((is.take 30).map V.int), .list ((is.take 30).map V.int)])) := by
    refine evE_orE.trans ?_
    rw [e2]; rfl
  cases hx : is.take 30 with
  | nil =>
    rw [hx] at e3
    exact ⟨[.list ([].map V.int), .list ([].map V.int)], [0], fun o ho => by
      rcases List.mem_cons.mp ho with rfl | ho
      · exact Inert.ints
      · obtain rfl := List.mem_singleton.mp ho; exact Inert.ints, by decide, e3⟩
  | cons x r =>
    rw [hx] at e3 h30
    exact ⟨[.list ((x :: r).map V.int)], x :: r, fun o ho => by obtain rfl := List.mem_singleton.mp ho; exact Inert.ints, Nat.lt_of_le_of_lt h30 (by decide), e3⟩
theorem law_true (hF : 1000 < F) (hs : (L4.pr sx).so sp = some (.list (is.map V.int))) (hl : is.length ≤ LIM) : ∃ L' σ', evSs (cxOf (L4.pr sx) F (runF (L4.pr sx) F (d + 5))) L4.f825 0 [(2, .sref sp)] [] = some (.ret (.bool true), L', σ') := by
  obtain ⟨pre, is', hp, hl', e1⟩ := tape_eq (F := F) (d := d + 5) hs hl
  obtain ⟨tags, is'', hok, htl, e2⟩ := x820 (F := F) (d := d + 3) (sx := sx) hp (Nat.lt_trans hl' hF)
  obtain ⟨L', σ', e3⟩ := law_rest (F := F) (d := d) (sp := sp) hF hs hl hok htl
  have e4 : evE (cxOf (L4.pr sx) F (runF (L4.pr sx) F (d + 5))) (.call 820 [tapeE]) [(2, .sref sp)] [] = some (.frz (.list (tags.map tgV)), pre ++ [.list (is''.map V.int)]) := by
    rw [evE_call, evEs_cons, e1]
    exact e2
  exact ⟨L', σ', Eq.trans (asgL (i := 1) (z := 0) (r := L4.f825.drop 1) e4) e3⟩
end
end PL
end
section
namespace L4
open PL
noncomputable def tbS : List Str := tab.map Str.ofString
noncomputable def tc : Tc := ⟨tbS, [(Str.ofString "EOF", some .none), (Str.ofString "HTMLTokenizer", some (.sref 762)), (Str.ofString "HTMLUnicodeInputStream", some (.sref 166)), (Str.ofString "Text", some (.sref 73)), (Str.ofString "_is_invalid", some (.sref 84)), (Str.ofString "_law_ENDS", some (.sref 780)), (Str.ofString "_law_KINDS", some (.sref 794)), (Str.ofString "_law_NAMES", some (.sref 773)), (Str.ofString "_law_TITLES", some (.sref 787)), (Str.ofString "_law_drawn", some (.sref 820)), (Str.ofString "_law_error", some (.sref 806)), (Str.ofString "_law_place", some (.sref 813)), (Str.ofString "_law_small", some (.sref 799)), (Str.ofString "asciiLetters", some (.sref 27)), (Str.ofString "asciiLower", some (.sref 42)), (Str.ofString "spaceCharacters", some (.sref 22)), (Str.ofString "tagTokenTypes", some (.sref 49)), (Str.ofString "tokenTypes", some (.sref 48)), (Str.ofString "chr", none), (Str.ofString "dict", none), (Str.ofString "len", none), (Str.ofString "list", none), (Str.ofString "ord", none), (Str.ofString "range", none), (Str.ofString "sum", none)], [825, 820, 813, 806, 799, 773, 780, 794, 787, 42, 84], [762, 166, 73]⟩
noncomputable def clL : List Nat := [73, 166, 762]
theorem nd_tb : tbS.Nodup := by decide +kernel
theorem law_go {w : World} {K : Frag} {prog : Program} {p : Program} {loose : List Str} {mean : ExcName → Option Value} {mg mb : Str → Option Value} {sp n : Nat} {is : List Int} {vs : List Value} {s₁ : Shared} (hI : IntsAre vs is) (hlen : is.length ≤ 63) (hob : s₁.heap.get? sp = some (listOf vs.toArray n)) (KX : K.In s₁.heap) (T : Top p loose mean mg mb s₁.heap)
    (c1 : tcB (K ++ [(sp, listOf vs.toArray n)]) tc = true) (c2 : clB tbS (K ++ [(sp, listOf vs.toArray n)]) clL clsmL clsvL clsiL = true) (c3 : allP (fun q : Nat × Fn => fnB tc (K ++ [(sp, listOf vs.toArray n)]) q.1 q.2 = true) fnL)
    (c4 : allP (fun q : Nat × O => SoAt ⟨prog, w, K ++ [(sp, listOf vs.toArray n)], p, loose, mean, mg, mb, tbS⟩ q.1 q.2) soL)
    (c5 : allP (fun q : Nat × Fn => BindOk ⟨prog, w, K ++ [(sp, listOf vs.toArray n)], p, loose, mean, mg, mb, tbS⟩ q.2 (fdOf (K ++ [(sp, listOf vs.toArray n)]) q.1) (fdOf (K ++ [(sp, listOf vs.toArray n)]) q.1).scope) fnL)
    {qual name : Str} {params : Arguments} {body : List Stmt} {scope : Scope} {dV kV doc pm cdv ct oc : Value} {an od : Option Addr} {osl : Array (Option Value)}
    (hat : K.lookup 825 = some ⟨oc, od, .func (fnOf name qual params body scope dV kV doc pm an cdv ct), osl⟩)
    {fa : Addr} {cd : Value} {h₁ : Heap} {nm : Str} {g : Array GenState} {dr : Drawn} {tk : Nat} {os : OsState}
    (F : PyProof.Rows.Fr s₁.heap s₁.heap.objs.size h₁ (fun z => [(Str.ofString "script", Value.ref sp)].reverse.lookup z)) (N0 : News s₁.heap s₁.heap.objs.size h₁ []) (ht : 1 ≤ tk) {Q : Flow → Shared → Prop} {E : Value → Shared → Prop}
    (H : ∀ h' t', (∀ b o, s₁.heap.get? b = some o → h'.get? b = some o) → Q (.ret (.bool true)) ⟨h', g, dr, t', os⟩) :
    wpAny (model prog w) (callerA.deeper (envOf nm scope s₁.heap.objs.size fa cd)) (execs body (envOf nm scope s₁.heap.objs.size fa cd)) Q E ⟨h₁, g, dr, tk, os⟩ := by
  have hss : (pr [(sp, .list (is.map V.int))]).so sp = some (.list (is.map V.int)) := by
    show (match getK sp soL with | some o => some o | none => getK sp [(sp, .list (is.map V.int))]) = _
    rw [so_none c4 rfl (in_app KX hob) hob]
    show (bif Nat.beq sp sp then some _ else none) = _
    rw [Nat.beq_refl]; rfl
  have hl : (is.map V.int).length ≤ LIM + LIM := by rw [List.length_map]; exact Nat.le_trans hlen (by decide)
  exact run_law (W := ⟨prog, w, K ++ [(sp, listOf vs.toArray n)], p, loose, mean, mg, mb, tbS⟩) (p := pr [(sp, .list (is.map V.int))]) (lawF := lawF) (sp := sp) (i := 2) (x := Str.ofString "script") (fuel := 2000) (d := 5)
    (so_of c4 ⟨_, lookup_in KX hob, .list (ints_all hI) hl⟩) (fun fuel call => clB_ok nd_tb rfl rfl rfl c2) rfl (fns_of (tcB_ok rfl c1) c3 c5) (lookup_app hat) rfl rfl T (in_app KX hob) F N0 ht (by decide) (law_true (by decide) hss (Nat.le_trans hlen (by decide))) H
end L4
end
namespace Mine.all
theorem tw10011055193491271300 : True := trivial
theorem tw10034031380863371641 : True := trivial
theorem tw10042690540180379618 : True := trivial
theorem tw10045075416114340931 : True := trivial
theorem tw10049700130234932854 : True := trivial
theorem tw100579137028481972 : True := trivial
theorem tw10059427243083084051 : True := trivial
theorem tw10073190252686323273 : True := trivial
theorem tw10127320685908719325 : True := trivial
theorem tw10130366669087276332 : True := trivial
theorem tw10131221437080536637 : True := trivial
theorem tw10156424416328317940 : True := trivial
theorem tw10157199282875686013 : True := trivial
theorem tw10168888151487559394 : True := trivial
theorem tw1017140601122697898 : True := trivial
theorem tw10175558820241607032 : True := trivial
theorem tw10197837139470215952 : True := trivial
theorem tw10205450789954323259 : True := trivial
theorem tw10215604902903598199 : True := trivial
theorem tw10227051316576381974 : True := trivial
theorem tw10252965763247687682 : True := trivial
theorem tw10268101183197098196 : True := trivial
theorem tw10270419983477892464 : True := trivial
theorem tw10277023259857791717 : True := trivial
theorem tw10277526245819850656 : True := trivial
theorem tw10289937546816008636 : True := trivial
theorem tw10323370424266482742 : True := trivial
theorem tw10343516019890357620 : True := trivial
theorem tw10379555496612227986 : True := trivial
theorem tw10389294372677164839 : True := trivial
theorem tw10407399669362838719 : True := trivial
theorem tw10420891854494221733 : True := trivial
theorem tw10427701671452009419 : True := trivial
theorem tw1048652492466739355 : True := trivial
theorem tw10505120051468078558 : True := trivial
theorem tw10532639588233176698 : True := trivial
theorem tw10600613889749566790 : True := trivial
theorem tw10634939071730365363 : True := trivial
theorem tw10636018739910865072 : True := trivial
theorem tw10640303290150162726 : True := trivial
theorem tw10640348836240559591 : True := trivial
theorem tw1064809361808223833 : True := trivial
theorem tw10649901628825759099 : True := trivial
theorem tw10654450574037986307 : True := trivial
theorem tw10658958392246782621 : True := trivial
theorem tw10677670038743541358 : True := trivial
theorem tw10681620039792923934 : True := trivial
theorem tw10684865472388628163 : True := trivial
theorem tw10696458614491829572 : True := trivial
theorem tw10697019674602590866 : True := trivial
theorem tw10721592527251718529 : True := trivial
theorem tw10736233294631003445 : True := trivial
theorem tw10739910033669202754 : True := trivial
theorem tw1074977417605700491 : True := trivial
theorem tw1075291646940621582 : True := trivial
theorem tw10771693280256995429 : True := trivial
theorem tw10773934983489079739 : True := trivial
theorem tw10807058235482574751 : True := trivial
theorem tw10808106126208798102 : True := trivial
theorem tw10809422741971537594 : True := trivial
theorem tw1081408078033650336 : True := trivial
theorem tw10825269862236069917 : True := trivial
theorem tw1088589479996732829 : True := trivial
theorem tw10895411794446438415 : True := trivial
theorem tw10912467617979834864 : True := trivial
theorem tw10921597071642053482 : True := trivial
theorem tw10923070005692675132 : True := trivial
theorem tw10942295900298899174 : True := trivial
theorem tw10951284943951773250 : True := trivial
theorem tw1095355495446544911 : True := trivial
theorem tw1095929389519559783 : True := trivial
theorem tw10971250334911043752 : True := trivial
theorem tw11013067947808108990 : True := trivial
theorem tw11033290881951375731 : True := trivial
theorem tw11038128598146805730 : True := trivial
theorem tw11045270430615452010 : True := trivial
theorem tw11051373392699811023 : True := trivial
theorem tw11059894655552103594 : True := trivial
theorem tw11070880734014958032 : True := trivial
theorem tw11084693905056812178 : True := trivial
theorem tw11093295523969242068 : True := trivial
theorem tw11099160449156100569 : True := trivial
theorem tw11102767992079720913 : True := trivial
theorem tw11112267310362752236 : True := trivial
theorem tw11113120797386210373 : True := trivial
theorem tw11116879363250112325 : True := trivial
theorem tw11120492362615346026 : True := trivial
theorem tw11158953913317867288 : True := trivial
theorem tw11169558830825096451 : True := trivial
theorem tw11177561488728990998 : True := trivial
theorem tw11221641727941109892 : True := trivial
theorem tw11223482586740685078 : True := trivial
theorem tw11230645906715702508 : True := trivial
theorem tw11273133048781285286 : True := trivial
theorem tw11276062564640038955 : True := trivial
theorem tw11277845596349742556 : True := trivial
theorem tw11322697920292055282 : True := trivial
theorem tw11330118131623060689 : True := trivial
theorem tw11338558125871782157 : True := trivial
theorem tw11375281295658956675 : True := trivial
theorem tw11378520881680533043 : True := trivial
theorem tw1142058581544160548 : True := trivial
theorem tw11433317345382964763 : True := trivial
theorem tw11441816438227186863 : True := trivial
theorem tw11446199593928302625 : True := trivial
theorem tw11448872678469705673 : True := trivial
theorem tw11449233824965966284 : True := trivial
theorem tw11483514542923596125 : True := trivial
theorem tw11483986225225671339 : True := trivial
theorem tw11488495728068971930 : True := trivial
theorem tw11489409643829403841 : True := trivial
theorem tw11492293592050298618 : True := trivial
theorem tw1149733072300507863 : True := trivial
theorem tw11536899603342547138 : True := trivial
theorem tw11554346470539331173 : True := trivial
theorem tw11563076530477234726 : True := trivial
theorem tw1160345676404013698 : True := trivial
theorem tw11612715853725182930 : True := trivial
theorem tw11665615536025424988 : True := trivial
theorem tw11682010486851493762 : True := trivial
theorem tw11686026206685797588 : True := trivial
theorem tw11706699075341729706 : True := trivial
theorem tw11719151900338479318 : True := trivial
theorem tw11736780227944870738 : True := trivial
theorem tw11738243901336025406 : True := trivial
theorem tw11759228797649091452 : True := trivial
theorem tw11776277695535270532 : True := trivial
theorem tw11777086365064915542 : True := trivial
theorem tw11785345923209364544 : True := trivial
theorem tw11790413056962406381 : True := trivial
theorem tw11795751877021904696 : True := trivial
theorem tw11798761498685784450 : True := trivial
theorem tw1181928336742247333 : True := trivial
theorem tw11833095699794131469 : True := trivial
theorem tw11833515131569705653 : True := trivial
theorem tw11857263309510223267 : True := trivial
theorem tw11877403491279123046 : True := trivial
theorem tw11884583355970431823 : True := trivial
theorem tw11888049472147760879 : True := trivial
theorem tw11904431243951574334 : True := trivial
theorem tw11925040711228000680 : True := trivial
theorem tw11928815663860865973 : True := trivial
theorem tw11931136993785318394 : True := trivial
theorem tw11931918283646908614 : True := trivial
theorem tw11938969084713633202 : True := trivial
theorem tw11959420509538560460 : True := trivial
theorem tw11961059351148515626 : True := trivial
theorem tw12028550053918628185 : True := trivial
theorem tw12040197634456252077 : True := trivial
theorem tw12052537262409512078 : True := trivial
theorem tw12071712058454129317 : True := trivial
theorem tw12086854489832023308 : True := trivial
theorem tw12093699491013135689 : True := trivial
theorem tw12109177834331835950 : True := trivial
theorem tw12122067901350261443 : True := trivial
theorem tw12136012030893486346 : True := trivial
theorem tw12139170077877725708 : True := trivial
theorem tw12139988101201813748 : True := trivial
theorem tw1215526528800860966 : True := trivial
theorem tw1216898108829112853 : True := trivial
theorem tw1218705752920720458 : True := trivial
theorem tw12212617724871111176 : True := trivial
theorem tw12221947951091446842 : True := trivial
theorem tw12248520049373816357 : True := trivial
theorem tw12249842068641981632 : True := trivial
theorem tw12254430714555821875 : True := trivial
theorem tw12267322187703008927 : True := trivial
theorem tw12267468486907949403 : True := trivial
theorem tw1229007388973216393 : True := trivial
theorem tw12304872625307995750 : True := trivial
theorem tw12317132656592258788 : True := trivial
theorem tw12345319411167063811 : True := trivial
theorem tw12359608480711761030 : True := trivial
theorem tw12364857061501726476 : True := trivial
theorem tw12381699962588209086 : True := trivial
theorem tw1238725946784135233 : True := trivial
theorem tw12394350090093965224 : True := trivial
theorem tw12412031795608718596 : True := trivial
theorem tw12414080155028449296 : True := trivial
theorem tw12429134901205526213 : True := trivial
theorem tw12451815053677690644 : True := trivial
theorem tw12461584238705310493 : True := trivial
theorem tw12504994543719847139 : True := trivial
theorem tw12512054102949984058 : True := trivial
theorem tw125183967897747985 : True := trivial
theorem tw1252384811442314424 : True := trivial
theorem tw12540455083557110006 : True := trivial
theorem tw12563039088042482649 : True := trivial
theorem tw1257692432398776216 : True := trivial
theorem tw12588910511511068231 : True := trivial
theorem tw12588980310967471357 : True := trivial
theorem tw12622491811137199776 : True := trivial
theorem tw12638004864335716521 : True := trivial
theorem tw12661847378627794183 : True := trivial
theorem tw12670715608682713705 : True := trivial
theorem tw12674233846100721760 : True := trivial
theorem tw12784588452913835247 : True := trivial
theorem tw12791884135346583072 : True := trivial
theorem tw12792818772944746097 : True := trivial
theorem tw12810256067151697097 : True := trivial
theorem tw12819504698909858696 : True := trivial
theorem tw12844303918539010487 : True := trivial
theorem tw12880678843202035506 : True := trivial
theorem tw12885334096101347146 : True := trivial
theorem tw1291087626157917732 : True := trivial
theorem tw12926333453430215753 : True := trivial
theorem tw12926644002878227130 : True := trivial
theorem tw12981892083367582941 : True := trivial
theorem tw12985212532813657682 : True := trivial
theorem tw1298631472846954095 : True := trivial
theorem tw12988922753241023683 : True := trivial
theorem tw12994552909553032409 : True := trivial
theorem tw13005817628092065933 : True := trivial
theorem tw13027540482245733427 : True := trivial
theorem tw13057232943065969744 : True := trivial
theorem tw13071023791616644796 : True := trivial
theorem tw13098716769926991806 : True := trivial
theorem tw13100642850353945058 : True := trivial
theorem tw13131873550985489304 : True := trivial
theorem tw13132907815185506690 : True := trivial
theorem tw13135058765949404771 : True := trivial
theorem tw13138308880297050008 : True := trivial
theorem tw13143037982756497821 : True := trivial
theorem tw13159001897076375314 : True := trivial
theorem tw13185015893256467352 : True := trivial
theorem tw13191808637467804247 : True := trivial
theorem tw13196349276625024522 : True := trivial
theorem tw13215034200063782512 : True := trivial
theorem tw13215351417096909983 : True := trivial
theorem tw13226574990515446508 : True := trivial
theorem tw13233751423148406618 : True := trivial
theorem tw1323426155142419162 : True := trivial
theorem tw13238087922356334437 : True := trivial
theorem tw1326175403826912198 : True := trivial
theorem tw13270324115958721901 : True := trivial
theorem tw13280618800183650999 : True := trivial
theorem tw13282074430368766303 : True := trivial
theorem tw13283931332471535325 : True := trivial
theorem tw13338274903956020161 : True := trivial
theorem tw13358122933769645826 : True := trivial
theorem tw13358604424828501309 : True := trivial
theorem tw13376464931078446103 : True := trivial
theorem tw13382282417035153051 : True := trivial
theorem tw1342379931026441069 : True := trivial
theorem tw13428697972904913174 : True := trivial
theorem tw13429984922391205789 : True := trivial
theorem tw13431290835526063760 : True := trivial
theorem tw13434531468450553753 : True := trivial
theorem tw13455461431897201640 : True := trivial
theorem tw13467292715098799918 : True := trivial
theorem tw13476624294007221044 : True := trivial
theorem tw13492395982464255480 : True := trivial
theorem tw13492775673106092688 : True := trivial
theorem tw13505173894226300209 : True := trivial
theorem tw13509908655624090359 : True := trivial
theorem tw1352723322627576488 : True := trivial
theorem tw13537625653133889323 : True := trivial
theorem tw13556967374752276637 : True := trivial
theorem tw1356099576862622092 : True := trivial
theorem tw13586417535379780766 : True := trivial
theorem tw13594655482070763311 : True := trivial
theorem tw13596499734656872166 : True := trivial
theorem tw13607757164722159089 : True := trivial
theorem tw13608339801890971764 : True := trivial
theorem tw13652370015207561478 : True := trivial
theorem tw13663018214320142090 : True := trivial
theorem tw13678831315298964934 : True := trivial
theorem tw13830746773910301732 : True := trivial
theorem tw13874455239767017017 : True := trivial
theorem tw13897503799994109090 : True := trivial
theorem tw13912068318134460016 : True := trivial
theorem tw13928513891281363954 : True := trivial
theorem tw13930999109560414629 : True := trivial
theorem tw13940850861556554722 : True := trivial
theorem tw13960862262899742394 : True := trivial
theorem tw14003663102062188800 : True := trivial
theorem tw14016128756215271500 : True := trivial
theorem tw14057782590025463129 : True := trivial
theorem tw14066901625076523032 : True := trivial
theorem tw14068239771850734003 : True := trivial
theorem tw14074921412963316263 : True := trivial
theorem tw14076077854437140390 : True := trivial
theorem tw14081932915414352519 : True := trivial
theorem tw14099800850047386279 : True := trivial
theorem tw14106571916235994328 : True := trivial
theorem tw14124840197023413450 : True := trivial
theorem tw14126516920343173744 : True := trivial
theorem tw14130914514491923361 : True := trivial
theorem tw14137088127444503866 : True := trivial
theorem tw14151137839513740329 : True := trivial
theorem tw14200518018382609147 : True := trivial
theorem tw14201790961670687459 : True := trivial
theorem tw14204109254541194217 : True := trivial
theorem tw14209155647100055501 : True := trivial
theorem tw14211586455995466092 : True := trivial
theorem tw14229981574245695772 : True := trivial
theorem tw14240570626067109177 : True := trivial
theorem tw14242173848286271349 : True := trivial
theorem tw14279031849638215902 : True := trivial
theorem tw14288127532215574351 : True := trivial
theorem tw14310873030558110092 : True := trivial
theorem tw14331890051309236264 : True := trivial
theorem tw14332598561130271602 : True := trivial
theorem tw14334803219462250954 : True := trivial
theorem tw14363635269092464839 : True := trivial
theorem tw14365998534574843411 : True := trivial
theorem tw1441969693819510846 : True := trivial
theorem tw14420213329864412023 : True := trivial
theorem tw14421808642430287336 : True := trivial
theorem tw1446525512094189494 : True := trivial
theorem tw14483376603434069256 : True := trivial
theorem tw14497616064866002163 : True := trivial
theorem tw14504465163362997928 : True := trivial
theorem tw14511287757244466272 : True := trivial
theorem tw14523845485542788104 : True := trivial
theorem tw14539000326390715668 : True := trivial
theorem tw14541659766323124216 : True := trivial
theorem tw14549113301119539810 : True := trivial
theorem tw14599574564126857124 : True := trivial
theorem tw14615947125993099273 : True := trivial
theorem tw1463055204123409192 : True := trivial
theorem tw14647661154017913664 : True := trivial
theorem tw14648097213134440425 : True := trivial
theorem tw14648276583578725374 : True := trivial
theorem tw14721843458392949018 : True := trivial
theorem tw14748919394591258458 : True := trivial
theorem tw14753627124330771394 : True := trivial
theorem tw14761609227482058788 : True := trivial
theorem tw14766046522696363495 : True := trivial
theorem tw14771985120617686802 : True := trivial
theorem tw14793058985867185695 : True := trivial
theorem tw14810779743422990796 : True := trivial
theorem tw14822214895437561417 : True := trivial
theorem tw14832271272948145296 : True := trivial
theorem tw14832659646925512398 : True := trivial
theorem tw14832718209330476552 : True := trivial
theorem tw14847532645272441617 : True := trivial
theorem tw14848961488311411958 : True := trivial
theorem tw14849280956162755979 : True := trivial
theorem tw14853665493834295914 : True := trivial
theorem tw14899674885815798178 : True := trivial
theorem tw14904704724044331575 : True := trivial
theorem tw14911401402694521299 : True := trivial
theorem tw14932615516516682873 : True := trivial
theorem tw14940032972901115816 : True := trivial
theorem tw14947195102879435706 : True := trivial
theorem tw14970210157437980911 : True := trivial
theorem tw14984247238865676675 : True := trivial
theorem tw14989955638788694861 : True := trivial
theorem tw14991459337918240759 : True := trivial
theorem tw15014361466247048854 : True := trivial
theorem tw15021512155152510720 : True := trivial
theorem tw15054863418237798948 : True := trivial
theorem tw15059917014629022394 : True := trivial
theorem tw15081044799308232511 : True := trivial
theorem tw15097909243742831393 : True := trivial
theorem tw15105651507014581045 : True := trivial
theorem tw1512304892737732121 : True := trivial
theorem tw15128398863637318132 : True := trivial
theorem tw1515648671985560317 : True := trivial
theorem tw15170529588900197071 : True := trivial
theorem tw15176617289070330970 : True := trivial
theorem tw15198316981687975854 : True := trivial
theorem tw15242674970999812785 : True := trivial
theorem tw15248031165874397040 : True := trivial
theorem tw15271115526033407858 : True := trivial
theorem tw15284455985751111415 : True := trivial
theorem tw15300001336698509272 : True := trivial
theorem tw15305453227285626446 : True := trivial
theorem tw15309484375228292530 : True := trivial
theorem tw15331906349341453337 : True := trivial
theorem tw15349560271838185979 : True := trivial
theorem tw15354443143932468990 : True := trivial
theorem tw15359849362664289188 : True := trivial
theorem tw15391004526167926365 : True := trivial
theorem tw15414233836422861205 : True := trivial
theorem tw15417909909646571957 : True := trivial
theorem tw15425500068641797970 : True := trivial
theorem tw15429038253546691098 : True := trivial
theorem tw15434274335043249755 : True := trivial
theorem tw15437854835666668586 : True := trivial
theorem tw15451204947285891726 : True := trivial
theorem tw15460995928004159328 : True := trivial
theorem tw15471726915170369524 : True := trivial
theorem tw1548488679004171357 : True := trivial
theorem tw1550712947053634219 : True := trivial
theorem tw15519761934197397234 : True := trivial
theorem tw15526263569004567679 : True := trivial
theorem tw15541118713287057729 : True := trivial
theorem tw15549322291213767670 : True := trivial
theorem tw15568806467266420770 : True := trivial
theorem tw15575253945988166476 : True := trivial
theorem tw15585509438621463966 : True := trivial
theorem tw15612066896164977022 : True := trivial
theorem tw15616977368355137958 : True := trivial
theorem tw15651733941924773997 : True := trivial
theorem tw15658559082620302479 : True := trivial
theorem tw15671812041987572844 : True := trivial
theorem tw15714474698464851408 : True := trivial
theorem tw15717111371951823431 : True := trivial
theorem tw15766547542915688834 : True := trivial
theorem tw15775133740396041162 : True := trivial
theorem tw15778654729900951400 : True := trivial
theorem tw15832853479444819159 : True := trivial
theorem tw1585303152785439333 : True := trivial
theorem tw1586037315452845605 : True := trivial
theorem tw15866815640656860141 : True := trivial
theorem tw15875746330617476859 : True := trivial
theorem tw15902913901339227234 : True := trivial
theorem tw15905863888603160686 : True := trivial
theorem tw15906484144062456574 : True := trivial
theorem tw15923569513143324050 : True := trivial
theorem tw15968848678202421516 : True := trivial
theorem tw15977508845680753073 : True := trivial
theorem tw15991472142188878074 : True := trivial
theorem tw1601506941167368761 : True := trivial
theorem tw16016398639907115627 : True := trivial
theorem tw16042742768279583112 : True := trivial
theorem tw16050607636748323804 : True := trivial
theorem tw16053908350159596564 : True := trivial
theorem tw16057471521750792484 : True := trivial
theorem tw16083011106298858529 : True := trivial
theorem tw16084742875079473383 : True := trivial
theorem tw16088354708999966866 : True := trivial
theorem tw16097505516487973002 : True := trivial
theorem tw1611252808612934635 : True := trivial
theorem tw16158510106006900030 : True := trivial
theorem tw16169115639287123334 : True := trivial
theorem tw16171933092410999983 : True := trivial
theorem tw16176830815697697194 : True := trivial
theorem tw16188822405700688499 : True := trivial
theorem tw16215753837559589999 : True := trivial
theorem tw16221626079559221530 : True := trivial
theorem tw16223638597430114740 : True := trivial
theorem tw16232008947845578158 : True := trivial
theorem tw16243829828752206327 : True := trivial
theorem tw16254912398560273435 : True := trivial
theorem tw16288533217561068507 : True := trivial
theorem tw16296590348105434372 : True := trivial
theorem tw16298671858544969935 : True := trivial
theorem tw16339503202031470875 : True := trivial
theorem tw16344876080836181191 : True := trivial
theorem tw16354672406610356589 : True := trivial
theorem tw16369536886227021476 : True := trivial
theorem tw1639981616727947583 : True := trivial
theorem tw16400751074865733910 : True := trivial
theorem tw16417971975926614949 : True := trivial
theorem tw16424727738075169484 : True := trivial
theorem tw16432233866770964294 : True := trivial
theorem tw16433278489552267077 : True := trivial
theorem tw1644255569911684797 : True := trivial
theorem tw16444899576201249432 : True := trivial
theorem tw16447172759540358135 : True := trivial
theorem tw16456409905306380572 : True := trivial
theorem tw16490853721002535474 : True := trivial
theorem tw16526751206710464603 : True := trivial
theorem tw16543909344144541449 : True := trivial
theorem tw16567661231398824811 : True := trivial
theorem tw16573077582942348641 : True := trivial
theorem tw16576222957257545530 : True := trivial
theorem tw16592893570014863828 : True := trivial
theorem tw16615192147309376951 : True := trivial
theorem tw16636436465759865564 : True := trivial
theorem tw16644902639655322133 : True := trivial
theorem tw16665526110328478529 : True := trivial
theorem tw16694476904998839863 : True := trivial
theorem tw16700318575013349798 : True := trivial
theorem tw16707023172919728626 : True := trivial
theorem tw16711731339798493391 : True := trivial
theorem tw16720883766928916882 : True := trivial
theorem tw16726255535346028473 : True := trivial
theorem tw16727532447511142511 : True := trivial
theorem tw16739083755425606968 : True := trivial
theorem tw16740921855470316824 : True := trivial
theorem tw16747629065405408630 : True := trivial
theorem tw167550967247993687 : True := trivial
theorem tw16773635481313006432 : True := trivial
theorem tw16785538882571980543 : True := trivial
theorem tw16788233547135642414 : True := trivial
theorem tw1681544595491871160 : True := trivial
theorem tw16838893715234930207 : True := trivial
theorem tw16876236935048986776 : True := trivial
theorem tw16877496141331604692 : True := trivial
theorem tw16914399131622226476 : True := trivial
theorem tw16926426053830025025 : True := trivial
theorem tw16942522186650535968 : True := trivial
theorem tw1694654335647164047 : True := trivial
theorem tw16949009020806574942 : True := trivial
theorem tw16985871876413990642 : True := trivial
theorem tw16987476370533704557 : True := trivial
theorem tw16990969169119329880 : True := trivial
theorem tw17026743227940831712 : True := trivial
theorem tw17053130121481772103 : True := trivial
theorem tw17084071853196174921 : True := trivial
theorem tw17103938086974590038 : True := trivial
theorem tw17106608494224303150 : True := trivial
theorem tw17163412240363345371 : True := trivial
theorem tw17167507592293304770 : True := trivial
theorem tw17169257567123136711 : True := trivial
theorem tw17172520439673271139 : True := trivial
theorem tw17175008277316708827 : True := trivial
theorem tw17180083853025156055 : True := trivial
theorem tw17259241986408110582 : True := trivial
theorem tw17260577670642009320 : True := trivial
theorem tw17280058572107053691 : True := trivial
theorem tw17292822351017121783 : True := trivial
theorem tw17314943208353570444 : True := trivial
theorem tw17324461748919149645 : True := trivial
theorem tw1734884918528286522 : True := trivial
theorem tw17360653242477243975 : True := trivial
theorem tw17368901067910498557 : True := trivial
theorem tw17371863055441782679 : True := trivial
theorem tw17384549292860056603 : True := trivial
theorem tw17390990283371976427 : True := trivial
theorem tw17392724365078165257 : True := trivial
theorem tw17393663094203119047 : True := trivial
theorem tw17394647144938102915 : True := trivial
theorem tw17401300421982611184 : True := trivial
theorem tw17403763406149298341 : True := trivial
theorem tw17408048037380319038 : True := trivial
theorem tw17408919567675379883 : True := trivial
theorem tw17411639873488161413 : True := trivial
theorem tw17420166764342438902 : True := trivial
theorem tw17424916104665291489 : True := trivial
theorem tw17428158056870116351 : True := trivial
theorem tw17468886310826310451 : True := trivial
theorem tw17469454598705902373 : True := trivial
theorem tw17478165661194886154 : True := trivial
theorem tw17485024515217194642 : True := trivial
theorem tw17492785332073455090 : True := trivial
theorem tw17523770736405063376 : True := trivial
theorem tw17524933272456762353 : True := trivial
theorem tw17524971357909122501 : True := trivial
theorem tw1752733083305661762 : True := trivial
theorem tw1758426702102747128 : True := trivial
theorem tw17590515576409907731 : True := trivial
theorem tw17591669423913269842 : True := trivial
theorem tw17606682298306965290 : True := trivial
theorem tw17641132596996861625 : True := trivial
theorem tw17649563190096193141 : True := trivial
theorem tw17657238230949819594 : True := trivial
theorem tw17673552818380985392 : True := trivial
theorem tw1768962640154500726 : True := trivial
theorem tw17709617914932530906 : True := trivial
theorem tw17711473739705145481 : True := trivial
theorem tw17711910997332876922 : True := trivial
theorem tw17717444079117462278 : True := trivial
theorem tw17740860788197283744 : True := trivial
theorem tw17755134530948824434 : True := trivial
theorem tw17772726858579744284 : True := trivial
theorem tw17777634240378856414 : True := trivial
theorem tw1778775279875527610 : True := trivial
theorem tw17799788444099011656 : True := trivial
theorem tw17800948086707717751 : True := trivial
theorem tw17818293817903590521 : True := trivial
theorem tw17840812128005083152 : True := trivial
theorem tw17843529362963011488 : True := trivial
theorem tw17848959056065924907 : True := trivial
theorem tw17914837950057056417 : True := trivial
theorem tw17933553581876595578 : True := trivial
theorem tw17983917188297756147 : True := trivial
theorem tw18003279642469066050 : True := trivial
theorem tw18037295023160315550 : True := trivial
theorem tw18049625680988847952 : True := trivial
theorem tw18052197330547352278 : True := trivial
theorem tw18058516629519361111 : True := trivial
theorem tw18068929663759586442 : True := trivial
theorem tw18074533905802821072 : True := trivial
theorem tw18079451572675372241 : True := trivial
theorem tw18092803371910978062 : True := trivial
theorem tw18094267598192979275 : True := trivial
theorem tw18103066129193396198 : True := trivial
theorem tw18107075240765231021 : True := trivial
theorem tw18111398738982083773 : True := trivial
theorem tw18115519886717534904 : True := trivial
theorem tw18118164260907729349 : True := trivial
theorem tw18120535436291149196 : True := trivial
theorem tw18124843273605240230 : True := trivial
theorem tw18153529787570879039 : True := trivial
theorem tw18155504808890310260 : True := trivial
theorem tw18168848097628341329 : True := trivial
theorem tw18197408797884230400 : True := trivial
theorem tw18216745520431054769 : True := trivial
theorem tw18219364600591686743 : True := trivial
theorem tw18291108133853008933 : True := trivial
theorem tw1832691508475867565 : True := trivial
theorem tw18343157571677020557 : True := trivial
theorem tw1834627630568429925 : True := trivial
theorem tw18361699271247415696 : True := trivial
theorem tw18369841484834026144 : True := trivial
theorem tw18387711765015558698 : True := trivial
theorem tw18422150028754028023 : True := trivial
theorem tw18429704661519256598 : True := trivial
theorem tw18433079168191953831 : True := trivial
theorem tw18433669859833586122 : True := trivial
theorem tw18441473437031201941 : True := trivial
theorem tw1848905817553068399 : True := trivial
theorem tw1855031267851712589 : True := trivial
theorem tw1859658367360657537 : True := trivial
theorem tw1885294564261713141 : True := trivial
theorem tw1891524456539155733 : True := trivial
theorem tw1904651353081489755 : True := trivial
theorem tw1918329577357227785 : True := trivial
theorem tw192000312749056594 : True := trivial
theorem tw1946476448123356450 : True := trivial
theorem tw1957997846565066766 : True := trivial
theorem tw1963270939698246839 : True := trivial
theorem tw1973140245219671491 : True := trivial
theorem tw1985402699469526011 : True := trivial
theorem tw2000609977361463965 : True := trivial
theorem tw200202858802481044 : True := trivial
theorem tw200952908838891698 : True := trivial
theorem tw2009799518882185817 : True := trivial
theorem tw2013830700403712203 : True := trivial
theorem tw201708328148552895 : True := trivial
theorem tw2020152571437148077 : True := trivial
theorem tw2026663507151813987 : True := trivial
theorem tw2052171217396625959 : True := trivial
theorem tw2054712967208431000 : True := trivial
theorem tw2083923931733385956 : True := trivial
theorem tw2114198189418970486 : True := trivial
theorem tw2115215112807899372 : True := trivial
theorem tw2121802047155735730 : True := trivial
theorem tw2141204134323547548 : True := trivial
theorem tw2144533961223786307 : True := trivial
theorem tw2186769121901082974 : True := trivial
theorem tw2226997731462787175 : True := trivial
theorem tw2235618017368140517 : True := trivial
theorem tw2283436932631721306 : True := trivial
theorem tw2286941943676669977 : True := trivial
theorem tw2305613221535706149 : True := trivial
theorem tw2316775634158704177 : True := trivial
theorem tw2333626107976518443 : True := trivial
theorem tw233948166947196757 : True := trivial
theorem tw2362829445674453831 : True := trivial
theorem tw2366535826993118143 : True := trivial
theorem tw2406872565856053176 : True := trivial
theorem tw2411416631991128293 : True := trivial
theorem tw2412950195513398651 : True := trivial
theorem tw2418778996340132948 : True := trivial
theorem tw2442836877315861853 : True := trivial
theorem tw2458865440071689523 : True := trivial
theorem tw247909236438806434 : True := trivial
theorem tw2479237469882504799 : True := trivial
theorem tw2494268533263957097 : True := trivial
theorem tw2526586164005440621 : True := trivial
theorem tw2526888682696392367 : True := trivial
theorem tw253070588504231107 : True := trivial
theorem tw2543849888741498996 : True := trivial
theorem tw2546312148762916157 : True := trivial
theorem tw257987315190162868 : True := trivial
theorem tw2613816272192447989 : True := trivial
theorem tw2638793534194840904 : True := trivial
theorem tw2640984773516398845 : True := trivial
theorem tw2657685014961185194 : True := trivial
theorem tw2690882624139800689 : True := trivial
theorem tw2691668035437834406 : True := trivial
theorem tw2711446468545577505 : True := trivial
theorem tw2713721821649016782 : True := trivial
theorem tw2750322548573693319 : True := trivial
theorem tw2759087556872429454 : True := trivial
theorem tw2771189538260035858 : True := trivial
theorem tw2798396993581604531 : True := trivial
theorem tw2816474811461910954 : True := trivial
theorem tw281770217567036725 : True := trivial
theorem tw282076826160197541 : True := trivial
theorem tw2827311647523273057 : True := trivial
theorem tw282994513109133150 : True := trivial
theorem tw2842816785644039571 : True := trivial
theorem tw2849488754999853577 : True := trivial
theorem tw2859494293696649499 : True := trivial
theorem tw2894014611722864658 : True := trivial
theorem tw2901220350088373138 : True := trivial
theorem tw2901642248887229185 : True := trivial
theorem tw2909857387346462944 : True := trivial
theorem tw2944620925249736492 : True := trivial
theorem tw2972125363121769464 : True := trivial
theorem tw2995925781233325151 : True := trivial
theorem tw2997595627926355555 : True := trivial
theorem tw29985565223642888 : True := trivial
theorem tw3006146034401029692 : True := trivial
theorem tw3010447429517834518 : True := trivial
theorem tw3011970122397266958 : True := trivial
theorem tw3018527617310638102 : True := trivial
theorem tw3020832510069240704 : True := trivial
theorem tw306535358961565008 : True := trivial
theorem tw3082439978237049498 : True := trivial
theorem tw3082626142003458053 : True := trivial
theorem tw3105161912409373472 : True := trivial
theorem tw3138800457800853586 : True := trivial
theorem tw3140247085548477035 : True := trivial
theorem tw3140866203998610647 : True := trivial
theorem tw3142481877796873088 : True := trivial
theorem tw3153289441736887298 : True := trivial
theorem tw3165661143165402847 : True := trivial
theorem tw319109541562411609 : True := trivial
theorem tw3204017013573700639 : True := trivial
theorem tw3208532927677382203 : True := trivial
theorem tw3222988062523167153 : True := trivial
theorem tw3225869345168946285 : True := trivial
theorem tw3282140407130366615 : True := trivial
theorem tw328508388705569248 : True := trivial
theorem tw3294436559645772640 : True := trivial
theorem tw3303383408093726480 : True := trivial
theorem tw3318330705443729038 : True := trivial
theorem tw3339628229899013760 : True := trivial
theorem tw3347175955162335329 : True := trivial
theorem tw335442867052375821 : True := trivial
theorem tw3357559941945735724 : True := trivial
theorem tw3390864358609898268 : True := trivial
theorem tw3426563556032164376 : True := trivial
theorem tw3440317332850252569 : True := trivial
theorem tw3448833343719912132 : True := trivial
theorem tw3450342649583938456 : True := trivial
theorem tw3468823194966119755 : True := trivial
theorem tw3482175957882590323 : True := trivial
theorem tw3516009707026607567 : True := trivial
theorem tw3527972740633252992 : True := trivial
theorem tw3530542369196619228 : True := trivial
theorem tw3565788921725277038 : True := trivial
theorem tw3578222212851893600 : True := trivial
theorem tw3584721961771403219 : True := trivial
theorem tw3616883902118795587 : True := trivial
theorem tw3630066180865283129 : True := trivial
theorem tw3672661013650352966 : True := trivial
theorem tw3702781205502781313 : True := trivial
theorem tw3737605839529819480 : True := trivial
theorem tw3780143478300131934 : True := trivial
theorem tw3782756595126275366 : True := trivial
theorem tw3783704252341326843 : True := trivial
theorem tw3788544764152331944 : True := trivial
theorem tw3832104259330054055 : True := trivial
theorem tw3835962111665225711 : True := trivial
theorem tw3836828690509887502 : True := trivial
theorem tw3849640880644552707 : True := trivial
theorem tw3855190133869164905 : True := trivial
theorem tw3870221951351925549 : True := trivial
theorem tw387497488769561094 : True := trivial
theorem tw3898467250045930460 : True := trivial
theorem tw3941535021885107689 : True := trivial
theorem tw3949192924188805160 : True := trivial
theorem tw3969632628889691061 : True := trivial
theorem tw397829171339713761 : True := trivial
theorem tw4005113011885737416 : True := trivial
theorem tw402322933830509349 : True := trivial
theorem tw4025807792261511995 : True := trivial
theorem tw4030748809424043240 : True := trivial
theorem tw4049413732980777947 : True := trivial
theorem tw4068328023764021264 : True := trivial
theorem tw407466490171300439 : True := trivial
theorem tw409914518651768084 : True := trivial
theorem tw4128963183011607505 : True := trivial
theorem tw4149599496358294919 : True := trivial
theorem tw4154878040674242839 : True := trivial
theorem tw4156143147478942181 : True := trivial
theorem tw4188425034280262744 : True := trivial
theorem tw419182698790416674 : True := trivial
theorem tw4195489330254351329 : True := trivial
theorem tw4214497047443048748 : True := trivial
theorem tw42283253343031561 : True := trivial
theorem tw4232916895473627763 : True := trivial
theorem tw4241227540667249002 : True := trivial
theorem tw4244794441018138637 : True := trivial
theorem tw4252973022230594116 : True := trivial
theorem tw4258606087713283508 : True := trivial
theorem tw4285537696453044991 : True := trivial
theorem tw4302931102428780990 : True := trivial
theorem tw4313555247321036059 : True := trivial
theorem tw4334908036533502587 : True := trivial
theorem tw433751870149770472 : True := trivial
theorem tw4338314545742005754 : True := trivial
theorem tw4339336615466283579 : True := trivial
theorem tw4350801690150286559 : True := trivial
theorem tw4358274101231039915 : True := trivial
theorem tw4382491568596388571 : True := trivial
theorem tw4416955175097061657 : True := trivial
theorem tw44263415142174766 : True := trivial
theorem tw4430775014708722610 : True := trivial
theorem tw4438364104728389296 : True := trivial
theorem tw4452577129215390026 : True := trivial
theorem tw4463848349969469772 : True := trivial
theorem tw4464460378109042309 : True := trivial
theorem tw4475831538566643966 : True := trivial
theorem tw4498182102138418894 : True := trivial
theorem tw4515135292898193881 : True := trivial
theorem tw4530070529057472127 : True := trivial
theorem tw4544264296663088324 : True := trivial
theorem tw4547723090059260100 : True := trivial
theorem tw4576187945379360170 : True := trivial
theorem tw4613487602407358717 : True := trivial
theorem tw4613981591765525805 : True := trivial
theorem tw4631590275013254457 : True := trivial
theorem tw4634341240264483431 : True := trivial
theorem tw4642380371098665385 : True := trivial
theorem tw4645612490112672357 : True := trivial
theorem tw4648000394679511344 : True := trivial
theorem tw4654466039823199758 : True := trivial
theorem tw4678464567707920078 : True := trivial
theorem tw4693333692992608644 : True := trivial
theorem tw4716985721665009587 : True := trivial
theorem tw4722931859811370693 : True := trivial
theorem tw4726450323565452186 : True := trivial
theorem tw4745343497718738800 : True := trivial
theorem tw476020514792540505 : True := trivial
theorem tw4765306392115962693 : True := trivial
theorem tw4773625603535503361 : True := trivial
theorem tw4786962568827011835 : True := trivial
theorem tw4797826422191193900 : True := trivial
theorem tw4801688742562958406 : True := trivial
theorem tw4814944892674192296 : True := trivial
theorem tw4818641064637329869 : True := trivial
theorem tw4822506900650540561 : True := trivial
theorem tw4824961169156336389 : True := trivial
theorem tw4831860214510110302 : True := trivial
theorem tw4835796080096327916 : True := trivial
theorem tw4843953744384965149 : True := trivial
theorem tw4847766330237268548 : True := trivial
theorem tw4874624691961367025 : True := trivial
theorem tw4874642235004048027 : True := trivial
theorem tw4881293885237924411 : True := trivial
theorem tw4917372365205947823 : True := trivial
theorem tw4937054150386731785 : True := trivial
theorem tw4942582282674782268 : True := trivial
theorem tw4948872784897348979 : True := trivial
theorem tw4976203025697557035 : True := trivial
theorem tw4991836332058292867 : True := trivial
theorem tw5004987881651496831 : True := trivial
theorem tw5007245332940595331 : True := trivial
theorem tw5008225929384235901 : True := trivial
theorem tw5013942099191759227 : True := trivial
theorem tw5036882428077977431 : True := trivial
theorem tw5044639097624668846 : True := trivial
theorem tw5061037604254504937 : True := trivial
theorem tw5103381174273319438 : True := trivial
theorem tw5103420120806187630 : True := trivial
theorem tw5103548895888603802 : True := trivial
theorem tw5113878289174177000 : True := trivial
theorem tw5116121765629822255 : True := trivial
theorem tw513455115375776081 : True := trivial
theorem tw5148049120761530293 : True := trivial
theorem tw5162543521180666497 : True := trivial
theorem tw5177793798137784044 : True := trivial
theorem tw5187159431361770467 : True := trivial
theorem tw5213130599944360801 : True := trivial
theorem tw5217560924200664910 : True := trivial
theorem tw5221675337516389627 : True := trivial
theorem tw5245593775927794946 : True := trivial
theorem tw5247617807198155932 : True := trivial
theorem tw5248012151768918434 : True := trivial
theorem tw525001674005675781 : True := trivial
theorem tw5283560988149360007 : True := trivial
theorem tw5284503019443792952 : True := trivial
theorem tw5287828638854309621 : True := trivial
theorem tw5313006154424263818 : True := trivial
theorem tw5346748271633107637 : True := trivial
theorem tw5353357731836862825 : True := trivial
theorem tw5362506446432344171 : True := trivial
theorem tw5377772837010204750 : True := trivial
theorem tw5387236496596682077 : True := trivial
theorem tw5402931792415343577 : True := trivial
theorem tw5418180891519050015 : True := trivial
theorem tw5429014128711783359 : True := trivial
theorem tw5429111118594065972 : True := trivial
theorem tw5454592048571722070 : True := trivial
theorem tw5463181917568680212 : True := trivial
theorem tw5476340991381562312 : True := trivial
theorem tw549974085012918235 : True := trivial
theorem tw5533567317490066488 : True := trivial
theorem tw5543487718492105064 : True := trivial
theorem tw5553432485147669529 : True := trivial
theorem tw5555718599999811639 : True := trivial
theorem tw5558808128744370633 : True := trivial
theorem tw5607375399203786892 : True := trivial
theorem tw5615151462926910227 : True := trivial
theorem tw5615934883764171431 : True := trivial
theorem tw561872325786274548 : True := trivial
theorem tw5641124861440336686 : True := trivial
theorem tw5646013916729498261 : True := trivial
theorem tw5646740079091317433 : True := trivial
theorem tw5657447785659697480 : True := trivial
theorem tw5675193095830314289 : True := trivial
theorem tw5689438673786977140 : True := trivial
theorem tw5699802228667079307 : True := trivial
theorem tw5715779271170130959 : True := trivial
theorem tw5727973534668710794 : True := trivial
theorem tw5750698986362780913 : True := trivial
theorem tw5761313309558253367 : True := trivial
theorem tw5781126440621211168 : True := trivial
theorem tw5795260443874522099 : True := trivial
theorem tw5827993322838903629 : True := trivial
theorem tw583233376362171505 : True := trivial
theorem tw5854907428364158380 : True := trivial
theorem tw5870148494974776200 : True := trivial
theorem tw5884965284304258897 : True := trivial
theorem tw5919330448614353153 : True := trivial
theorem tw5927061715728957476 : True := trivial
theorem tw5931688323066260514 : True := trivial
theorem tw5936211784296988740 : True := trivial
theorem tw594401718218399461 : True := trivial
theorem tw5962104202929688655 : True := trivial
theorem tw596421839371371174 : True := trivial
theorem tw6028428966107381609 : True := trivial
theorem tw6041367110252723933 : True := trivial
theorem tw6055196601331254383 : True := trivial
theorem tw6056353462618326814 : True := trivial
theorem tw6147308635103535561 : True := trivial
theorem tw6169047396881144633 : True := trivial
theorem tw6176105912117767087 : True := trivial
theorem tw6178583632892115015 : True := trivial
theorem tw6189357195160471388 : True := trivial
theorem tw6223034424235540279 : True := trivial
theorem tw6235303078163736491 : True := trivial
theorem tw6271033356711949733 : True := trivial
theorem tw6279384641404196061 : True := trivial
theorem tw6280451789465376435 : True := trivial
theorem tw6323490242551619147 : True := trivial
theorem tw6368865227797928816 : True := trivial
theorem tw6388305932248162509 : True := trivial
theorem tw6393532188824929214 : True := trivial
theorem tw6421116273214462829 : True := trivial
theorem tw6437388185336506398 : True := trivial
theorem tw644719481633286716 : True := trivial
theorem tw6482840019736640597 : True := trivial
theorem tw6495733333828780514 : True := trivial
theorem tw649721667195061312 : True := trivial
theorem tw6516363680345034613 : True := trivial
theorem tw6568380412678534605 : True := trivial
theorem tw6575127235232548739 : True := trivial
theorem tw658038952242159251 : True := trivial
theorem tw6584317449860814669 : True := trivial
theorem tw6611227686217864527 : True := trivial
theorem tw6618574068037739696 : True := trivial
theorem tw6635096433462372448 : True := trivial
theorem tw6635522753158126860 : True := trivial
theorem tw6643951234224847407 : True := trivial
theorem tw6651456455751515877 : True := trivial
theorem tw6654054744546489139 : True := trivial
theorem tw6656463916972431421 : True := trivial
theorem tw6657396460374528378 : True := trivial
theorem tw6686757251022233349 : True := trivial
theorem tw6717767316833874322 : True := trivial
theorem tw6721464258858852875 : True := trivial
theorem tw6728304746073894936 : True := trivial
theorem tw6742200501135914891 : True := trivial
theorem tw6754197919360015719 : True := trivial
theorem tw6794366774042380578 : True := trivial
theorem tw6836359950869179439 : True := trivial
theorem tw6846761488900895589 : True := trivial
theorem tw6849123771955923804 : True := trivial
theorem tw6860577389561355601 : True := trivial
theorem tw6863567455535613441 : True := trivial
theorem tw6873541528101158377 : True := trivial
theorem tw68815829978753266 : True := trivial
theorem tw6888782338466086140 : True := trivial
theorem tw6896591704953265671 : True := trivial
theorem tw6914026157112416027 : True := trivial
theorem tw693260322217938744 : True := trivial
theorem tw6946980451890315270 : True := trivial
theorem tw6950096446663180783 : True := trivial
theorem tw6962878503729545080 : True := trivial
theorem tw7000523462626781010 : True := trivial
theorem tw70167423851719575 : True := trivial
theorem tw7062720368445256129 : True := trivial
theorem tw7091565871241343341 : True := trivial
theorem tw7105052966444361425 : True := trivial
theorem tw7130465076275759521 : True := trivial
theorem tw7159026401054745538 : True := trivial
theorem tw7193976414177721783 : True := trivial
theorem tw7205895575636617080 : True := trivial
theorem tw7234240908195146063 : True := trivial
theorem tw7238125184777875665 : True := trivial
theorem tw7255959162708018199 : True := trivial
theorem tw7263415099574290149 : True := trivial
theorem tw7272270352196073673 : True := trivial
theorem tw7317653850160689691 : True := trivial
theorem tw7326513783282604209 : True := trivial
theorem tw7347299435816893626 : True := trivial
theorem tw7347661181068853997 : True := trivial
theorem tw7376275301918104207 : True := trivial
theorem tw741329169588805604 : True := trivial
theorem tw7413789549073271274 : True := trivial
theorem tw7442053078452299063 : True := trivial
theorem tw7473514446972121862 : True := trivial
theorem tw7491647123525626385 : True := trivial
theorem tw7492772011675989385 : True := trivial
theorem tw7500927594516628699 : True := trivial
theorem tw7514489123796633772 : True := trivial
theorem tw7522476503852463410 : True := trivial
theorem tw7525655301032184626 : True := trivial
theorem tw7546461858588002845 : True := trivial
theorem tw7555861350897420170 : True := trivial
theorem tw7580283103339870548 : True := trivial
theorem tw7596217776887503600 : True := trivial
theorem tw760045182452098349 : True := trivial
theorem tw7619113539625694710 : True := trivial
theorem tw7654578318931278690 : True := trivial
theorem tw7656661182584010552 : True := trivial
theorem tw7657994479303150727 : True := trivial
theorem tw7660858615051961871 : True := trivial
theorem tw766856551031688912 : True := trivial
theorem tw76700771618905059 : True := trivial
theorem tw7705770535597434790 : True := trivial
theorem tw7719990051270854445 : True := trivial
theorem tw7723783022558009007 : True := trivial
theorem tw7736626948064631134 : True := trivial
theorem tw7741957440794404891 : True := trivial
theorem tw7755422918602135030 : True := trivial
theorem tw7778630667622746703 : True := trivial
theorem tw7779009951696393383 : True := trivial
theorem tw7779866328928976063 : True := trivial
theorem tw7785168158365692624 : True := trivial
theorem tw7787153897808988522 : True := trivial
theorem tw779998902302455647 : True := trivial
theorem tw7855422573467142813 : True := trivial
theorem tw7857982966288920474 : True := trivial
theorem tw785864177541677141 : True := trivial
theorem tw7867681300357518899 : True := trivial
theorem tw7868191893551648507 : True := trivial
theorem tw789461392097075953 : True := trivial
theorem tw7899379758991183832 : True := trivial
theorem tw7916160540357663616 : True := trivial
theorem tw7916663265354606609 : True := trivial
theorem tw7918374967389245632 : True := trivial
theorem tw794600220789724118 : True := trivial
theorem tw7946034326556018432 : True := trivial
theorem tw7957553974722075628 : True := trivial
theorem tw8001918424110371838 : True := trivial
theorem tw8007103614756019116 : True := trivial
theorem tw8013882960148741844 : True := trivial
theorem tw8014060903208438924 : True := trivial
theorem tw8026366407565007962 : True := trivial
theorem tw803461357374685022 : True := trivial
theorem tw8045866029985295436 : True := trivial
theorem tw8069084333622400507 : True := trivial
theorem tw80721349811472939 : True := trivial
theorem tw8076105961534405009 : True := trivial
theorem tw8096221689764760052 : True := trivial
theorem tw8108845850537571710 : True := trivial
theorem tw8111057081096800836 : True := trivial
theorem tw8121427672614705931 : True := trivial
theorem tw8146785798897364014 : True := trivial
theorem tw8166991320080258738 : True := trivial
theorem tw8183209053709734173 : True := trivial
theorem tw8202304140527541924 : True := trivial
theorem tw8203446524507428889 : True := trivial
theorem tw8260459004985353857 : True := trivial
theorem tw8263829197502064335 : True := trivial
theorem tw8287356318256789895 : True := trivial
theorem tw8312510263607220780 : True := trivial
theorem tw8315046463243809389 : True := trivial
theorem tw8316665608867782698 : True := trivial
theorem tw8319732477122346511 : True := trivial
theorem tw8320411503394148161 : True := trivial
theorem tw8355245288721386215 : True := trivial
theorem tw8358485737911388650 : True := trivial
theorem tw8373720323635723369 : True := trivial
theorem tw8382349685057963721 : True := trivial
theorem tw8397605616207071183 : True := trivial
theorem tw8398887430952950212 : True := trivial
theorem tw8413312007650308279 : True := trivial
theorem tw8419203004499243131 : True := trivial
theorem tw8474492796817999161 : True := trivial
theorem tw8478819981795894278 : True := trivial
theorem tw8486076525276431931 : True := trivial
theorem tw8572181188841215417 : True := trivial
theorem tw8600759836979252552 : True := trivial
theorem tw8608077670442852389 : True := trivial
theorem tw8616835277999145119 : True := trivial
theorem tw8621771247159374411 : True := trivial
theorem tw8630030210275731936 : True := trivial
theorem tw8640155761716072762 : True := trivial
theorem tw8661065196793792047 : True := trivial
theorem tw8670540905479144303 : True := trivial
theorem tw8689057759390064058 : True := trivial
theorem tw8706731066875689191 : True := trivial
theorem tw8727828216523167909 : True := trivial
theorem tw8728979480298456956 : True := trivial
theorem tw8731671738465361804 : True := trivial
theorem tw8734355875116408662 : True := trivial
theorem tw8749193726656077916 : True := trivial
theorem tw8820459466428253018 : True := trivial
theorem tw8838840417862019655 : True := trivial
theorem tw8845110488550816924 : True := trivial
theorem tw884644925536651315 : True := trivial
theorem tw8848042172178993908 : True := trivial
theorem tw885046472334632136 : True := trivial
theorem tw8857914048673524507 : True := trivial
theorem tw8865166961438382494 : True := trivial
theorem tw888978351763286717 : True := trivial
theorem tw8895101351432721356 : True := trivial
theorem tw8901488873923373992 : True := trivial
theorem tw890751993682150155 : True := trivial
theorem tw8908958038130373740 : True := trivial
theorem tw8943454058102721771 : True := trivial
theorem tw8948736912299370593 : True := trivial
theorem tw8951482229492004806 : True := trivial
theorem tw898707613593260451 : True := trivial
theorem tw8993589655969448955 : True := trivial
theorem tw9090173269774583996 : True := trivial
theorem tw9091936605540352920 : True := trivial
theorem tw9099960808112739735 : True := trivial
theorem tw9107108562952019494 : True := trivial
theorem tw9111709882147129655 : True := trivial
theorem tw9131408386013701786 : True := trivial
theorem tw9142619525353888168 : True := trivial
theorem tw9163178095015654352 : True := trivial
theorem tw9179554920180893090 : True := trivial
theorem tw9186790425516483314 : True := trivial
theorem tw9196661522157602471 : True := trivial
theorem tw9217909395155117419 : True := trivial
theorem tw9241353231930656577 : True := trivial
theorem tw9260499117602528867 : True := trivial
theorem tw9287027879207543111 : True := trivial
theorem tw928717787569047865 : True := trivial
theorem tw9296243409744850896 : True := trivial
theorem tw9301309066579124778 : True := trivial
theorem tw9305783451064888827 : True := trivial
theorem tw9314798274900717190 : True := trivial
theorem tw9330773133516755548 : True := trivial
theorem tw9360110593718347322 : True := trivial
theorem tw9360291227372296245 : True := trivial
theorem tw9376024222397809125 : True := trivial
theorem tw9379264858417805688 : True := trivial
theorem tw9383702795254660040 : True := trivial
theorem tw9385597778382524922 : True := trivial
theorem tw9386671084012761886 : True := trivial
theorem tw9397017562490477109 : True := trivial
theorem tw9401997163390822312 : True := trivial
theorem tw9405301459192476718 : True := trivial
theorem tw9455471141526271117 : True := trivial
theorem tw945595864737313391 : True := trivial
theorem tw948912236611943856 : True := trivial
theorem tw9502098810502906719 : True := trivial
theorem tw9507114948021806933 : True := trivial
theorem tw9514876090768664877 : True := trivial
theorem tw9526568234960664165 : True := trivial
theorem tw9537782516805191874 : True := trivial
theorem tw9542685296840862710 : True := trivial
theorem tw9543871751676338751 : True := trivial
theorem tw9563361447838699194 : True := trivial
theorem tw9570754706468278650 : True := trivial
theorem tw9592678889267232940 : True := trivial
theorem tw9600454056292803967 : True := trivial
theorem tw9609096358927944886 : True := trivial
theorem tw9617293099064000090 : True := trivial
theorem tw9636423593739588523 : True := trivial
theorem tw9661694949217834141 : True := trivial
theorem tw9700507354520375304 : True := trivial
theorem tw974807569822047150 : True := trivial
theorem tw9764797518255496921 : True := trivial
theorem tw9796569379432623599 : True := trivial
theorem tw9807931448117422837 : True := trivial
theorem tw9833964599435250050 : True := trivial
theorem tw9837934778547622032 : True := trivial
theorem tw9843424985483213050 : True := trivial
theorem tw9851504500788099362 : True := trivial
theorem tw9859615716622676948 : True := trivial
theorem tw9864162776701422008 : True := trivial
theorem tw9880104001414726515 : True := trivial
theorem tw9900696922168193843 : True := trivial
theorem tw9943288542109768509 : True := trivial
theorem tw9952970006915852218 : True := trivial
theorem tw9960083256741680508 : True := trivial
theorem tw9970048360461169880 : True := trivial
theorem tw9976896545867408452 : True := trivial
end Mine.all
open PL
theorem Mine.all : PySem.Challenge.rw_te0031_04.Holds := by
  w_on; o_law; k_head; (case hw => w_witness2); w_strict (
    k_go0
    rename_i w s₀ s₁ mg mb G Y fa o pm doc kV ho hg KX X VV GL T B TE TW w9 w8 M w7 w6 hcd is hs hlay0 hL1 hr1 hl2 w4 w3 sp vs w' hL ra w1 r0 hI hr hc hc' K0 hD h₁ F N0
    obtain ⟨n, hob⟩ := PL.script_ob w1 ⟨_, rfl⟩ hL
    have hlen : is.length ≤ 63 := by omega
    refine L4.law_go (prog := PySem.Challenge.rw_te0031_04.row.prog) (w := w) hI hlen hob KX T (by kernel_rfl) (by kernel_rfl)
      ⟨(by kernel_rfl), (by kernel_rfl), (by kernel_rfl), (by kernel_rfl), (by kernel_rfl), (by kernel_rfl), (by kernel_rfl), (by kernel_rfl), (by kernel_rfl), (by kernel_rfl), (by kernel_rfl), (by kernel_rfl), (by kernel_rfl), (by kernel_rfl), (by kernel_rfl), (by kernel_rfl), (by kernel_rfl), (by kernel_rfl), (by kernel_rfl), (by kernel_rfl), (by kernel_rfl), (by kernel_rfl), (by kernel_rfl), (by kernel_rfl), (by kernel_rfl), trivial⟩
      ⟨so_tup (by kernel_rfl) (by kernel_rfl),
        so_tup (by kernel_rfl) (by kernel_rfl),
        so_dict (by kernel_rfl) (by kernel_rfl) (by kernel_rfl) (by decide) rfl rfl,
        so_tup (by kernel_rfl) (by kernel_rfl), trivial⟩
      ⟨bind_1 (x := Str.ofString "text") rfl rfl (by kernel_rfl) (by kernel_rfl) (fun v => .of_eq (by kernel_rfl)),
        bind_2 (x := Str.ofString "self") (y := Str.ofString "text") rfl rfl (by kernel_rfl) (by kernel_rfl) (by decide) (by kernel_rfl) (by kernel_rfl) (fun v u => .of_eq (by kernel_rfl)),
        bind_2 (x := Str.ofString "self") (y := Str.ofString "size") rfl rfl (by kernel_rfl) (by kernel_rfl) (by decide) (by kernel_rfl) (by kernel_rfl) (fun v u => .of_eq (by kernel_rfl)),
        bind_1 (x := Str.ofString "codepoint") rfl rfl (by kernel_rfl) (by kernel_rfl) (fun v => .of_eq (by kernel_rfl)),
        bind_2 (x := Str.ofString "self") (y := Str.ofString "source") rfl rfl (by kernel_rfl) (by kernel_rfl) (by decide) (by kernel_rfl) (by kernel_rfl) (fun v u => .of_eq (by kernel_rfl)),
        bind_1 (x := Str.ofString "self") rfl rfl (by kernel_rfl) (by kernel_rfl) (fun v => .of_eq (by kernel_rfl)),
        bind_2 (x := Str.ofString "self") (y := Str.ofString "source") rfl rfl (by kernel_rfl) (by kernel_rfl) (by decide) (by kernel_rfl) (by kernel_rfl) (fun v u => .of_eq (by kernel_rfl)),
        bind_2 (x := Str.ofString "self") (y := Str.ofString "offset") rfl rfl (by kernel_rfl) (by kernel_rfl) (by decide) (by kernel_rfl) (by kernel_rfl) (fun v u => .of_eq (by kernel_rfl)),
        bind_1 (x := Str.ofString "self") rfl rfl (by kernel_rfl) (by kernel_rfl) (fun v => .of_eq (by kernel_rfl)),
        bind_1 (x := Str.ofString "self") rfl rfl (by kernel_rfl) (by kernel_rfl) (fun v => .of_eq (by kernel_rfl)),
        bind_d2 (x := Str.ofString "self") (y := Str.ofString "chunkSize") rfl rfl VR.none (by kernel_rfl) (by kernel_rfl) (by decide) (by kernel_rfl) (by kernel_rfl) (fun v u => dfK (by kernel_rfl) (by kernel_rfl) (by kernel_rfl)) (fun v => dfK (by kernel_rfl) (by kernel_rfl) (by kernel_rfl)),
        bind_2 (x := Str.ofString "self") (y := Str.ofString "data") rfl rfl (by kernel_rfl) (by kernel_rfl) (by decide) (by kernel_rfl) (by kernel_rfl) (fun v u => .of_eq (by kernel_rfl)),
        bind_d3 (x := Str.ofString "self") (y := Str.ofString "characters") (z := Str.ofString "opposite") rfl rfl (VR.bool _) (by kernel_rfl) (by kernel_rfl) (by kernel_rfl) (by decide) (by decide) (by decide) (by kernel_rfl) (by kernel_rfl) (by kernel_rfl) (fun v u t => dfK (by kernel_rfl) (by kernel_rfl) (by kernel_rfl)) (fun v u => dfK (by kernel_rfl) (by kernel_rfl) (by kernel_rfl)),
        bind_d3 (x := Str.ofString "self") (y := Str.ofString "stream") (z := Str.ofString "parser") rfl rfl VR.none (by kernel_rfl) (by kernel_rfl) (by kernel_rfl) (by decide) (by decide) (by decide) (by kernel_rfl) (by kernel_rfl) (by kernel_rfl) (fun v u t => dfK (by kernel_rfl) (by kernel_rfl) (by kernel_rfl)) (fun v u => dfK (by kernel_rfl) (by kernel_rfl) (by kernel_rfl)),
        bind_1 (x := Str.ofString "self") rfl rfl (by kernel_rfl) (by kernel_rfl) (fun v => .of_eq (by kernel_rfl)),
        bind_1 (x := Str.ofString "self") rfl rfl (by kernel_rfl) (by kernel_rfl) (fun v => .of_eq (by kernel_rfl)),
        bind_0 rfl (.of_eq (by kernel_rfl)),
        bind_0 rfl (.of_eq (by kernel_rfl)),
        bind_0 rfl (.of_eq (by kernel_rfl)),
        bind_0 rfl (.of_eq (by kernel_rfl)),
        bind_1 (x := Str.ofString "name") rfl rfl (by kernel_rfl) (by kernel_rfl) (fun v => .of_eq (by kernel_rfl)),
        bind_1 (x := Str.ofString "word") rfl rfl (by kernel_rfl) (by kernel_rfl) (fun v => .of_eq (by kernel_rfl)),
        bind_1 (x := Str.ofString "part") rfl rfl (by kernel_rfl) (by kernel_rfl) (fun v => .of_eq (by kernel_rfl)),
        bind_1 (x := Str.ofString "tape") rfl rfl (by kernel_rfl) (by kernel_rfl) (fun v => .of_eq (by kernel_rfl)),
        bind_1 (x := Str.ofString "script") rfl rfl (by kernel_rfl) (by kernel_rfl) (fun v => .of_eq (by kernel_rfl)), trivial⟩
      (by k_is) F N0 (Nat.le_add_left 1 _) fun h' t' hk => ?_
    exact ⟨.inl ⟨.bool true, .bool true, [], rfl, fun cls => rfl, .bool true, PySem.W.postW_of (r := PySem.Challenge.rw_te0031_04.row.toRowW) (X := true) (by rfl) (by first | with_unfolding_all rfl | (show WTm.value _ (.eq .res (.lit (.bool true))) _ = _; simp [WTm.value])) rfl, fun _ => ⟨List.nodup_nil, by simp⟩⟩, hk, rfl, hg⟩)
theorem PySem.Challenge.cw_te0031_04_holds : PySem.Challenge.rw_te0031_04.Holds :=
  Mine.all
