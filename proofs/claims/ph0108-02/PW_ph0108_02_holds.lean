import PyProof.Rows.All
import Wide.All
import OpenK.AllK
import Wide.FinOn
import Lean
import PySem.Challenge.RW_ph0108_02
set_option Elab.async false
set_option linter.unusedVariables false
set_option linter.unusedSimpArgs false
section
set_option maxRecDepth 100000
set_option genSizeOf false
namespace Mine
open PySem
abbrev K := Int
inductive V where
  | none
  | bool (b : Bool)
  | int (i : Int)
  | tup (vs : List V)
  | list (vs : List V)
  | dict (g : Nat) (es : List (K × V))
  | rng (lo hi : Int)
  deriving Inhabited
set_option genInjectivity false
inductive Tg where
  | one (i : Nat)
  | many (is : List Nat)
mutual
inductive E where
  | bad
  | cst (v : V)
  | var (i : Nat)
  | p1 (f : V → Option V) (e : E)
  | pv (f : V → Option V) (i : Nat)
  | p2 (f : V → V → Option V) (a b : E)
  | pe (f : V → V → Option V) (i : Nat) (b : E)
  | pn (f : List V → Option V) (es : Es)
  | dct (ks vs : Es)
  | ite (t a b : E)
  | or (a b : E)
  | call (f : Nat) (es : Es)
  | clo (x f : Nat) (es : Es) (cap : List (Nat × Nat)) (n : Nat)
  | lcomp (elt : E) (gs : Gs) (cap : List (Nat × Nat)) (n : Nat)
  | dcomp (k v : E) (gs : Gs) (cap : List (Nat × Nat)) (n : Nat)
inductive Es where
  | nil
  | cons (e : E) (es : Es)
inductive It where
  | one (f : V → Option (List V)) (e : E)
  | two (f : V → V → Option (List V)) (a b : E)
inductive Gs where
  | nil
  | cons (t : Tg) (it : It) (ifs : Es) (rest : Gs)
end
inductive Mk where
  | v | o
mutual
inductive S where
  | bad
  | asg (k : Mk) (x : Nat) (e : E)
  | asgT (xs : List Nat) (e : E)
  | asgS (x : Nat) (i e : E)
  | append (x : Nat) (e : E)
  | reverse (x : Nat)
  | cloS (x f : Nat) (es : Es) (cap : List (Nat × Nat)) (n : Nat)
  | for (t : Tg) (it : It) (body : Ss)
  | ite (t : E) (a b : Ss)
  | ret (e : E)
  | retN
  | defn (x : Nat) (f : Nat)
inductive Ss where
  | nil
  | cons (s : S) (r : Ss)
end
inductive Slot where
  | v (x : V)
  | ol (xs : List V)
  | od (g : Nat) (es : List (K × V))
  | clo (f : Nat)
abbrev Fr := List (Option Slot)
noncomputable def Slot.view : Slot → Option V
  | .v x => some x
  | .ol xs => some (.list xs)
  | .od g es => some (.dict g es)
  | .clo _ => none
noncomputable def Slot.freeze : Slot → Slot
  | .ol xs => .v (.list xs)
  | .od g es => .v (.dict g es)
  | s => s
noncomputable def Slot.isOwn : Slot → Bool
  | .ol _ | .od _ _ => true
  | _ => false
noncomputable def big : Nat := 2 ^ 23
noncomputable def V.ob : V → Option Bool
  | .bool b => some b
  | _ => Option.none
noncomputable def V.oi : V → Option Int
  | .int i => some i
  | _ => Option.none
noncomputable def V.ol : V → Option (List V)
  | .list xs => some xs
  | _ => Option.none
noncomputable def V.ot : V → Option (List V)
  | .tup xs => some xs
  | _ => Option.none
noncomputable def V.os : V → Option (List V)
  | .list xs => some xs
  | .tup xs => some xs
  | _ => Option.none
noncomputable def V.od : V → Option (List (K × V))
  | .dict _ es => some es
  | _ => Option.none
noncomputable def keyV : V → Option K := V.oi
noncomputable def vKey (k : K) : V := .int k
noncomputable def dget (k : K) : List (K × V) → Option V
  | [] => none
  | (k', v) :: r => if k = k' then some v else dget k r
noncomputable def dset (k : K) (v : V) : List (K × V) → List (K × V)
  | [] => [(k, v)]
  | (k', v') :: r => if k = k' then (k', v) :: r else (k', v') :: dset k v r
noncomputable def eqL (f : V → V → Option Bool) : List V → List V → Option Bool
  | [], ys => match ys with
    | [] => some true
    | _ => none
  | x :: xs, ys => match ys with
    | [] => none
    | y :: ys => (f x y).bind fun a => (eqL f xs ys).map (a && ·)
noncomputable def eqD (f : V → V → Option Bool) (fs : List (K × V)) : List (K × V) → Option Bool
  | [] => some true
  | (k, v) :: r => match dget k fs with
    | none => some false
    | some u => (f v u).bind fun a => (eqD f fs r).map (a && ·)
noncomputable def eqN : Nat → V → V → Option Bool
  | 0, _, _ => none
  | n + 1, a, b => match a with
    | .int x => b.oi.map (x == ·)
    | .tup xs => b.ot.bind (eqL (eqN n) xs)
    | .list xs => b.ol.bind fun ys => bif xs.length == ys.length then eqL (eqN n) xs ys else some false
    | .dict _ es => b.od.bind fun fs => bif es.length == fs.length then eqD (eqN n) fs es else some false
    | _ => none
noncomputable def bits (a : Int) : Nat := if a = 0 then 0 else Nat.log2 a.natAbs + 1
noncomputable def binI (op : Operator) (a b : Int) : Option V :=
  match op with
  | .Add => some (.int (a + b))
  | .Sub => some (.int (a - b))
  | .Mult => if bits a + bits b ≤ big then some (.int (a * b)) else none
  | .FloorDiv => if b = 0 ∨ 1073741824 ≤ b.natAbs then none else some (.int (a.fdiv b))
  | .Mod => if b = 0 then none else some (.int (a.fmod b))
  | .Pow => if 0 ≤ b ∧ (bits a : Int) * b ≤ big then some (.int (a ^ b.toNat)) else none
  | .LShift => if 0 ≤ b ∧ (bits a : Int) + b ≤ big then some (.int (a * 2 ^ b.toNat)) else none
  | .RShift => if 0 ≤ b then some (.int (a.fdiv (2 ^ b.toNat))) else none
  | .BitXor => some (.int (Builtin.bitXor a b))
  | _ => none
noncomputable def catS (xs ys : List V) : Option (List V) := if xs.length + ys.length ≤ big then some (xs ++ ys) else none
noncomputable def repS (xs : List V) (n : Int) : Option (List V) := match xs with
  | [x] => if n ≤ big ∧ -big ≤ n then some (List.replicate n.toNat x) else none
  | _ => none
noncomputable def binV (op : Operator) (a b : V) : Option V :=
  match a with
  | .int x => b.oi.bind (binI op x)
  | .list xs => match op with
    | .Add => b.ol.bind fun ys => (catS xs ys).map .list
    | .Mult => b.oi.bind fun n => (repS xs n).map .list
    | _ => none
  | .tup xs => match op with
    | .Add => b.ot.bind fun ys => (catS xs ys).map .tup
    | _ => none
  | _ => none
noncomputable def addI (a b : V) : Option V := a.oi.bind fun x => b.oi.map fun y => .int (x + y)
noncomputable def inV (d k : V) : Option V := d.od.bind fun es => (keyV k).map fun q => .bool (dget q es).isSome
noncomputable def cmpI (op : CmpOp) (a b : Int) : Option Bool := match op with
  | .Lt => some (decide (a < b))
  | .LtE => some (decide (a ≤ b))
  | .Gt => some (decide (b < a))
  | .GtE => some (decide (b ≤ a))
  | _ => none
noncomputable def cmpV (op : CmpOp) (a b : V) : Option V := match op with
  | .Eq => (eqN 16 a b).map .bool
  | .NotEq => (eqN 16 a b).map fun c => .bool (!c)
  | op => a.oi.bind fun x => b.oi.bind fun y => (cmpI op x y).map .bool
noncomputable def truth : V → Option Bool
  | .bool b => some b
  | .int i => some (i != 0)
  | .list xs => some (!xs.isEmpty)
  | _ => none
noncomputable def notV (a : V) : Option V := (truth a).map fun b => .bool (!b)
noncomputable def negV (a : V) : Option V := a.oi.map fun i => .int (-i)
noncomputable def invV (a : V) : Option V := a.oi.map fun i => .int (-i - 1)
noncomputable def item (xs : List V) (i : Int) : Option V := if 0 ≤ i then xs[i.toNat]? else none
noncomputable def subV (v k : V) : Option V := match v with
  | .dict _ es => (keyV k).bind fun q => dget q es
  | v => v.os.bind fun xs => k.oi.bind (item xs)
noncomputable def cutTo (v j : V) : Option V := match v with
  | .list xs => j.oi.bind fun j => if 0 ≤ j then some (.list (xs.take j.toNat)) else none
  | .tup xs => j.oi.bind fun j => if 0 ≤ j then some (.tup (xs.take j.toNat)) else none
  | _ => none
noncomputable def cutFrom (v j : V) : Option V := match v with
  | .list xs => j.oi.bind fun j => if 0 ≤ j then some (.list (xs.drop j.toNat)) else none
  | .tup xs => j.oi.bind fun j => if 0 ≤ j then some (.tup (xs.drop j.toNat)) else none
  | _ => none
noncomputable def lenV (v : V) : Option V := v.os.map fun xs => .int xs.length
noncomputable def intsOf : List V → Option (List Int)
  | [] => some []
  | v :: r => v.oi.bind fun i => (intsOf r).map (i :: ·)
noncomputable def sumV (v : V) : Option V := v.ol.bind fun xs => (intsOf xs).map fun ns => .int ns.sum
noncomputable def tupV (v : V) : Option V := v.ol.map .tup
noncomputable def isTupV : V → Option V
  | .tup _ => some (.bool true)
  | .int _ => some (.bool false)
  | _ => none
noncomputable def divmV (a b : V) : Option V := a.oi.bind fun x => b.oi.bind fun y => if y = 0 ∨ 1073741824 ≤ y.natAbs then none else some (.tup [.int (x.fdiv y), .int (x.fmod y)])
noncomputable def bitlenV (a : V) : Option V := a.oi.map fun i => .int (bits i)
noncomputable def rngV (a b : V) : Option V := a.oi.bind fun x => b.oi.map fun y => .rng x y
noncomputable def countV (l x : V) : Option V := l.ol.bind fun xs => x.oi.bind fun i => (intsOf xs).map fun ns => .int (ns.countP (· == i) : Nat)
noncomputable def listItems (d : V) : Option V := d.od.map fun es => .list (es.map fun p => .tup [vKey p.1, p.2])
noncomputable def addL : List V → List V → Option (List V)
  | [], _ => some []
  | x :: xs, ys => match ys with
    | [] => some []
    | y :: ys => x.oi.bind fun a => y.oi.bind fun b => (addL xs ys).map (.int (a + b) :: ·)
noncomputable def addT (a b : V) : Option V := a.ot.bind fun xs => b.ot.bind fun ys => (addL xs ys).map .tup
noncomputable def rngList (lo hi : Int) : List V := (List.range (hi - lo).toNat).map fun (k : Nat) => V.int (lo + (k : Int))
noncomputable def itemsOf : V → Option (List V)
  | .list xs => some xs
  | .tup xs => some xs
  | .dict _ es => some (es.map fun p => vKey p.1)
  | .rng lo hi => if hi - lo ≤ big ∧ lo.natAbs ≤ big ∧ hi.natAbs ≤ big then some (rngList lo hi) else none
  | _ => none
noncomputable def pairsV (d : V) : Option (List V) := d.od.map fun es => es.map fun p => .tup [vKey p.1, p.2]
noncomputable def valuesV (d : V) : Option (List V) := d.od.map fun es => es.map (·.2)
noncomputable def revV (l : V) : Option (List V) := l.ol.map List.reverse
noncomputable def zipL : List V → List V → List V
  | [], _ => []
  | x :: xs, ys => match ys with
    | [] => []
    | y :: ys => .tup [x, y] :: zipL xs ys
noncomputable def zipV (a b : V) : Option (List V) := a.ol.bind fun xs => b.ol.map fun ys => zipL xs ys
noncomputable def tupN (vs : List V) : Option V := some (.tup vs)
noncomputable def lstN (vs : List V) : Option V := some (.list vs)
noncomputable def keysOf : List V → Option (List K)
  | [] => some []
  | v :: r => (keyV v).bind fun k => (keysOf r).map (k :: ·)
noncomputable def dsets (ks : List K) (vs : List V) : List (K × V) := (ks.zip vs).foldl (fun d p => dset p.1 p.2 d) []
noncomputable def fm (f : V → Option (List V)) : List V → Option (List V)
  | [] => some []
  | x :: r => (f x).bind fun a => (fm f r).map (a ++ ·)
noncomputable def bindAll (m : Fr) (is : List Nat) (vs : List V) : Fr := (is.zip vs).foldl (fun m p => m.set p.1 (some (.v p.2))) m
noncomputable def Fr.bind (m : Fr) : Tg → V → Option Fr
  | .one i, v => some (m.set i (some (.v v)))
  | .many is, v => v.ot.bind fun vs => if is.length = vs.length then some (bindAll m is vs) else none
noncomputable def Tg.ids : Tg → List Nat
  | .one i => [i]
  | .many is => is
noncomputable def Fr.at (m : Fr) (i : Nat) : Option Slot := (m[i]?).join
noncomputable def Fr.bindN (m : Fr) (t : Tg) (v : V) : Option Fr := bif t.ids.all fun i => (m.at i).isNone then m.bind t v else none
noncomputable def capIn (g : Nat → Bool) : Option Slot → Option Slot
  | none => none
  | some s => match s with
    | .clo f => bif g f then some (.clo f) else none
    | s => some s
noncomputable def Fr.capture (m : Fr) (g : Nat → Bool) (cap : List (Nat × Nat)) (n : Nat) : Fr := cap.foldl (fun f p => f.set p.1 (capIn g (m.at p.2))) (List.replicate n none)
noncomputable def noF : Nat → Bool := fun _ => false
noncomputable def backIn (m' : Fr) (q : Fr) (p : Nat × Nat) : Option Slot → Option Fr
  | some (.ol _) => match m'.at p.1 with
    | some (.ol xs) => some (q.set p.2 (some (.ol xs)))
    | _ => none
  | some (.od _ _) => none
  | _ => some q
noncomputable def capBack (m' m : Fr) : List (Nat × Nat) → Option Fr
  | [] => some m
  | p :: r => (capBack m' m r).bind fun q => backIn m' q p (m.at p.2)
noncomputable def pairOf : V → Option (K × V)
  | .tup [k, v] => (keyV k).map fun q => (q, v)
  | _ => none
noncomputable def pairsOf : List V → Option (List (K × V))
  | [] => some []
  | p :: r => (pairOf p).bind fun q => (pairsOf r).map (q :: ·)
noncomputable def foldD (ps : List (K × V)) : List (K × V) := ps.foldl (fun d p => dset p.1 p.2 d) []
structure Cx where
  gen : Nat
  call : Nat → List V → Option V
  clo : Nat → List V → Fr → Option (V × Fr)
noncomputable def isClo (f : Nat) : Slot → Bool
  | .clo f' => f' == f
  | _ => false
mutual
noncomputable def ev (c : Cx) (m : Fr) : E → Option V
  | .bad => none
  | .cst v => some v
  | .var i => (m.at i).bind Slot.view
  | .p1 f e => (ev c m e).bind f
  | .pv f i => ((m.at i).bind Slot.view).bind f
  | .p2 f a b => (ev c m a).bind fun x => (ev c m b).bind (f x)
  | .pe f i b => ((m.at i).bind Slot.view).bind fun x => (ev c m b).bind (f x)
  | .pn f es => (evs c m es).bind f
  | .dct ks vs => (evs c m ks).bind fun kv => (evs c m vs).bind fun vv => (keysOf kv).map fun ks => .dict c.gen (dsets ks vv)
  | .ite t a b => (ev c m t).bind fun v => (truth v).bind fun z => bif z then ev c m a else ev c m b
  | .or a b => (ev c m a).bind fun v => (truth v).bind fun z => bif z then some (.bool true) else (ev c m b).bind fun u => (truth u).map .bool
  | .call f es => (evs c m es).bind (c.call f)
  | .clo x f es cap n => (m.at x).bind fun sl => bif isClo f sl then (evs c m es).bind fun vs => (c.clo f vs (m.capture (· == f) cap n)).map (·.1) else none
  | .lcomp elt gs cap n => (evG1 c m (m.capture noF cap n) gs fun m' => (ev c m' elt).map fun v => [v]).bind fun xs => if xs.length ≤ big then some (.list xs) else none
  | .dcomp k v gs cap n => (evG1 c m (m.capture noF cap n) gs fun m' => (ev c m' k).bind fun kk => (keyV kk).bind fun _ => (ev c m' v).map fun vv => [.tup [kk, vv]]).bind fun ps => if ps.length ≤ big then (pairsOf ps).map fun kps => .dict c.gen (foldD kps) else none
noncomputable def evs (c : Cx) (m : Fr) : Es → Option (List V)
  | .nil => some []
  | .cons e r => (ev c m e).bind fun v => (evs c m r).map (v :: ·)
noncomputable def evAnd (c : Cx) (m : Fr) : Es → Option Bool
  | .nil => some true
  | .cons e r => (ev c m e).bind fun v => (truth v).bind fun z => bif z then evAnd c m r else some false
noncomputable def evIt (c : Cx) (m : Fr) : It → Option (List V)
  | .one f e => (ev c m e).bind f
  | .two f a b => (ev c m a).bind fun x => (ev c m b).bind (f x)
noncomputable def evG1 (c : Cx) (mo mi : Fr) : Gs → (Fr → Option (List V)) → Option (List V)
  | .nil, _ => none
  | .cons t it ifs rest, k => (evIt c mo it).bind fun xs => fm (fun x => (mi.bindN t x).bind fun m => (evAnd c m ifs).bind fun z => bif z then evGs c m rest k else some []) xs
noncomputable def evGs (c : Cx) (m : Fr) : Gs → (Fr → Option (List V)) → Option (List V)
  | .nil, k => k m
  | .cons t it ifs rest, k => (evIt c m it).bind fun xs => fm (fun x => (m.bindN t x).bind fun m => (evAnd c m ifs).bind fun z => bif z then evGs c m rest k else some []) xs
end
mutual
noncomputable def esc : E → List Nat
  | .bad => []
  | .cst _ => []
  | .var i => [i]
  | .p1 _ e => esc e
  | .pv _ _ => []
  | .p2 _ a b => esc a ++ esc b
  | .pe _ _ b => esc b
  | .pn _ es => escs es
  | .dct ks vs => escs ks ++ escs vs
  | .ite t a b => esc t ++ (esc a ++ esc b)
  | .or a b => esc a ++ esc b
  | .call _ es => escs es
  | .clo _ _ es cap _ => escs es ++ cap.map (·.2)
  | .lcomp _ gs cap _ => escG gs ++ cap.map (·.2)
  | .dcomp _ _ gs cap _ => escG gs ++ cap.map (·.2)
noncomputable def escs : Es → List Nat
  | .nil => []
  | .cons e r => esc e ++ escs r
noncomputable def escIt : It → List Nat
  | .one _ e => esc e
  | .two _ a b => esc a ++ esc b
noncomputable def escG : Gs → List Nat
  | .nil => []
  | .cons _ it _ _ => escIt it
end
noncomputable def Slot.frzB (b : Bool) : Slot → Slot
  | .ol xs => bif b then .v (.list xs) else .ol xs
  | .od g es => bif b then .v (.dict g es) else .od g es
  | s => s
noncomputable def frzAt (a : List Nat) : Nat → Fr → Fr
  | _, [] => []
  | i, s :: r => (match s with
    | none => none
    | some s => some (s.frzB (a.contains i))) :: frzAt a (i + 1) r
noncomputable def Fr.frz (m : Fr) (e : E) : Fr := frzAt (esc e) 0 m
noncomputable def Fr.frzs (m : Fr) (e : Es) : Fr := frzAt (escs e) 0 m
noncomputable def Fr.frzIt (m : Fr) (e : It) : Fr := frzAt (escIt e) 0 m
noncomputable def slotOf : Mk → V → Slot
  | .v, v => .v v
  | .o, v => match v with
    | .list xs => .ol xs
    | .dict g es => .od g es
    | v => .v v
inductive Fl where
  | next
  | ret (v : V)
noncomputable def flK (f : Fr → Option (Fl × Fr)) (q : Fl × Fr) : Option (Fl × Fr) := match q.1 with
  | .next => f q.2
  | .ret v => some (.ret v, q.2)
noncomputable def forL (f : V → Fr → Option (Fl × Fr)) : List V → Fr → Option (Fl × Fr)
  | [], m => some (.next, m)
  | x :: r, m => (f x m).bind (flK (forL f r))
noncomputable def setItem (xs : List V) (i : Int) (v : V) : Option (List V) := if 0 ≤ i ∧ i < xs.length then some (xs.set i.toNat v) else none
noncomputable def storeS (i v : V) : Slot → Option Slot
  | .ol xs => i.oi.bind fun k => (setItem xs k v).map .ol
  | .od g es => if es.length + 1 ≤ big then (keyV i).map fun q => .od g (dset q v es) else none
  | _ => none
noncomputable def storeAt (m : Fr) (x : Nat) (i v : V) : Option Fr := (m.at x).bind fun s => (storeS i v s).map fun s => m.set x (some s)
noncomputable def pushS (v : V) : Slot → Option Slot
  | .ol xs => if xs.length + 1 ≤ big then some (.ol (xs ++ [v])) else none
  | _ => none
noncomputable def revS : Slot → Option Slot
  | .ol xs => some (.ol xs.reverse)
  | _ => none
mutual
noncomputable def ex (c : Cx) : S → Fr → Option (Fl × Fr)
  | .bad, _ => none
  | .asg k x e, m => (ev c (m.frz e) e).map fun v => (.next, (m.frz e).set x (some (slotOf k v)))
  | .asgT xs e, m => (ev c (m.frz e) e).bind fun v => ((m.frz e).bind (.many xs) v).map fun q => (.next, q)
  | .asgS x i e, m => (ev c ((m.frz e).frz i) e).bind fun v => (ev c ((m.frz e).frz i) i).bind fun k => (storeAt ((m.frz e).frz i) x k v).map fun q => (.next, q)
  | .append x e, m => (ev c (m.frz e) e).bind fun v => ((m.frz e).at x).bind fun s => (pushS v s).map fun s => (.next, (m.frz e).set x (some s))
  | .reverse x, m => (m.at x).bind fun s => (revS s).map fun s => (.next, m.set x (some s))
  | .cloS x f es cap n, m => ((m.frzs es).at x).bind fun sl => bif isClo f sl then (evs c (m.frzs es) es).bind fun vs => (c.clo f vs ((m.frzs es).capture (· == f) cap n)).bind fun r => (capBack r.2 (m.frzs es) cap).map fun q => (.next, q) else none
  | .for t it body, m => (evIt c (m.frzIt it) it).bind fun xs => forL (fun v m => (m.bind t v).bind (exs c body)) xs (m.frzIt it)
  | .ite t a b, m => (ev c (m.frz t) t).bind fun v => (truth v).bind fun z => bif z then exs c a (m.frz t) else exs c b (m.frz t)
  | .ret e, m => (ev c (m.frz e) e).map fun v => (.ret v, m.frz e)
  | .retN, m => some (.ret .none, m)
  | .defn x f, m => some (.next, m.set x (some (.clo f)))
noncomputable def exs (c : Cx) : Ss → Fr → Option (Fl × Fr)
  | .nil, m => some (.next, m)
  | .cons s r, m => (ex c s m).bind (flK (exs c r))
end
structure Fn where
  params : List Nat
  n : Nat
  body : Ss
structure Prog where
  fns : List Fn
  nested : List Fn
noncomputable def Fl.val : Fl → V
  | .next => .none
  | .ret v => v
noncomputable def Fr.args (m : Fr) (ps : List Nat) (vs : List V) : Option Fr := if ps.length = vs.length then some (bindAll m ps vs) else none
noncomputable def run (p : Prog) (g : Nat) : Nat → Cx
  | 0 => ⟨g, fun _ _ => none, fun _ _ _ => none⟩
  | k + 1 => ⟨g, fun f vs => (p.fns[f]?).bind fun fn => (Fr.args (List.replicate fn.n none) fn.params vs).bind fun m => (exs (run p g k) fn.body m).map fun r => r.1.val,
    fun f vs m => (p.nested[f]?).bind fun fn => (Fr.args m fn.params vs).bind fun m => (exs (run p g k) fn.body m).map fun r => (r.1.val, r.2)⟩
structure Tx where
  gl : List Str
  gc : List (Str × Int)
  sg : List (Str × Bool)
  cf : List Str
  ow : List Str
  cd : Bool
  nst : List (Str × Nat × List (Str × Bool) × List Str)
noncomputable def isVarKind : NameKind → Bool
  | .local | .cell | .free => true
  | _ => false
noncomputable def sig (sc : Scope) : List (Str × Bool) := sc.names.map fun p => (p.1, isVarKind p.2)
noncomputable def idxOf (sg : List (Str × Bool)) (x : Str) : Nat := sg.findIdx (·.1 == x)
noncomputable def isVar (sg : List (Str × Bool)) (x : Str) : Bool := (sg.lookup x).getD false
noncomputable def freeIn (sc : Scope) : List Str := (sc.names.filter (·.2 == .free)).map (·.1)
noncomputable def cellKind : NameKind → Bool
  | .cell | .free => true
  | _ => false
noncomputable def cfOf (sc : Scope) : List Str := (sc.names.filter fun p => cellKind p.2).map (·.1)
noncomputable def ownKind : NameKind → Bool
  | .local | .cell => true
  | _ => false
noncomputable def owOf (sc : Scope) : List Str := (sc.names.filter fun p => ownKind p.2).map (·.1)
noncomputable def scOk (cf : List Str) (sc : Scope) : Bool :=
  sc.kind == .function && !sc.isGenerator && !sc.isCoroutine && decide (sc.names.map (·.1)).Nodup && (freeIn sc).all (cf.contains ·) && sc.names.all (·.2 != .globalExplicit)
noncomputable def capOf (inner outer : List (Str × Bool)) (free : List Str) : List (Nat × Nat) := free.map fun x => (idxOf inner x, idxOf outer x)
noncomputable def okArg (sc : Scope) (x : Arg) : Bool := x.annotation.isNone && (owOf sc).contains x.arg
noncomputable def argOk (a : Arguments) (sc : Scope) : Bool :=
  a.posonlyargs.isEmpty && a.vararg.isNone && a.kwonlyargs.isEmpty && a.kwarg.isNone && a.defaults.isEmpty && a.kw_defaults.isEmpty && a.args.all (okArg sc) && decide (a.args.map (·.arg)).Nodup
end Mine
end
section
set_option maxRecDepth 100000
set_option genSizeOf false
set_option genInjectivity false
namespace Mine
open PySem PyProof.Rows
theorem nos {α : Type} {x : α} {C : Prop} (h : none = some x) : C := by cases h
inductive All2 {α β : Type} (r : α → β → Prop) : List α → List β → Prop
  | nil : All2 r [] []
  | cons {a : α} {b : β} {as : List α} {bs : List β} : r a b → All2 r as bs → All2 r (a :: as) (b :: bs)
noncomputable def Pw {α β : Type} (r : α → β → Prop) (as : List α) (bs : List β) : Prop := ∀ (i : Nat) a b, as[i]? = some a → bs[i]? = some b → r a b
inductive Kv {α β : Type} (r : α → β → Prop) : K × α → K × β → Prop
  | mk {k : K} {a : α} {b : β} : r a b → Kv r (k, a) (k, b)
section
variable {α β : Type} {r r' : α → β → Prop} {as : List α} {bs : List β}
theorem All2.length (h : All2 r as bs) : as.length = bs.length := by
  induction h with
  | nil => rfl
  | cons _ _ ih => exact congrArg (· + 1) ih
theorem All2.imp (f : ∀ a b, r a b → r' a b) (h : All2 r as bs) : All2 r' as bs := by
  induction h with
  | nil => exact .nil
  | cons x _ ih => exact .cons (f _ _ x) ih
theorem All2.get (h : All2 r as bs) : ∀ {i : Nat} {a : α} {C : Prop}, as[i]? = some a → (∀ b, bs[i]? = some b → r a b → C) → C := by
  induction h with
  | nil => intro i a C e; exact nos e
  | cons x _ ih =>
    intro i a C
    induction i with
    | zero => exact fun e k => k _ rfl (Option.some.inj e ▸ x)
    | succ i => exact ih (i := i)
theorem All2.getB (h : All2 r as bs) : ∀ {i : Nat} {b : β} {C : Prop}, bs[i]? = some b → (∀ a, as[i]? = some a → r a b → C) → C := by
  induction h with
  | nil => intro i a C e; exact nos e
  | cons x _ ih =>
    intro i b C
    induction i with
    | zero => exact fun e k => k _ rfl (Option.some.inj e ▸ x)
    | succ i => exact ih (i := i)
theorem All2.at (h : All2 r as bs) {i : Nat} {a : α} {b : β} (e : as[i]? = some a) (e' : bs[i]? = some b) : r a b :=
  h.get e fun _ h1 h2 => Option.some.inj (h1.symm.trans e') ▸ h2
theorem All2.of : ∀ {as : List α} {bs : List β}, as.length = bs.length → (∀ (i : Nat) a b, as[i]? = some a → bs[i]? = some b → r a b) → All2 r as bs := by
  intro as
  induction as with
  | nil =>
    intro bs
    induction bs with
    | nil => exact fun _ _ => .nil
    | cons => exact fun hl _ => Nat.noConfusion hl
  | cons a as ih =>
    intro bs
    induction bs with
    | nil => exact fun hl _ => Nat.noConfusion hl
    | cons b bs => exact fun hl h => .cons (h 0 a b rfl rfl) (ih (Nat.succ.inj hl) fun i => h (i + 1))
theorem All2.append (h : All2 r as bs) {as' : List α} {bs' : List β} (h' : All2 r as' bs') : All2 r (as ++ as') (bs ++ bs') := by
  induction h with
  | nil => exact h'
  | cons x _ ih => exact .cons x ih
theorem All2.take (h : All2 r as bs) : ∀ n, All2 r (as.take n) (bs.take n) := by
  induction h with
  | nil => intro n; cases n <;> exact .nil
  | cons x _ ih => intro n; induction n with | zero => exact .nil | succ n => exact .cons x (ih n)
theorem All2.drop (h : All2 r as bs) : ∀ n, All2 r (as.drop n) (bs.drop n) := by
  induction h with
  | nil => intro n; cases n <;> exact .nil
  | cons x y ih => intro n; induction n with | zero => exact .cons x y | succ n => exact ih n
theorem All2.set {a : α} {b : β} (x : r a b) (h : All2 r as bs) : ∀ i, All2 r (as.set i a) (bs.set i b) := by
  induction h with
  | nil => intro n; exact .nil
  | cons y z ih => intro n; induction n with | zero => exact .cons x z | succ n => exact .cons y (ih n)
theorem All2.reverse (h : All2 r as bs) : All2 r as.reverse bs.reverse := by
  induction h with
  | nil => exact .nil
  | cons x _ ih => rw [List.reverse_cons, List.reverse_cons]; exact ih.append (.cons x .nil)
theorem All2.replicate {a : α} {b : β} (x : r a b) (n : Nat) : All2 r (List.replicate n a) (List.replicate n b) := by
  induction n with
  | zero => exact .nil
  | succ n ih => exact .cons x ih
theorem All2.snd {as : List (K × α)} {bs : List (K × β)} (h : All2 (Kv r) as bs) : All2 r (as.map (·.2)) (bs.map (·.2)) := by
  induction h with
  | nil => exact .nil
  | cons x _ ih => induction x with | mk x => exact .cons x ih
end
theorem obind {α β : Type} {o : Option α} {f : α → Option β} {b : β} {C : Prop} : o.bind f = some b → (∀ a, o = some a → f a = some b → C) → C := by
  induction o with
  | none => exact fun h _ => nos h
  | some a => exact fun h k => k a rfl h
theorem omap {α β : Type} {o : Option α} {f : α → β} {b : β} {C : β → Prop} : o.map f = some b → (∀ a, o = some a → C (f a)) → C b := by
  induction o with
  | none => exact fun h _ => nos h
  | some a => exact fun h k => Option.some.inj h ▸ k a rfl
theorem sos {α : Type} {a b : α} {C : α → Prop} (h : some a = some b) (k : C a) : C b := Option.some.inj h ▸ k
theorem ss2 {α : Type} {o : Option α} {a b : α} {C : α → Prop} (h : o = some a) (h' : o = some b) (k : C a) : C b := Option.some.inj (h.symm.trans h') ▸ k
structure Nest where
  params : Arguments
  body : List Stmt
  scope : Scope
structure Gd where
  prog : Program
  w : World
  gen : Nat
  h₀ : Heap
  os₀ : OsState
  mg : Str → Option Value
  mb : Str → Option Value
  Own : Addr → Addr → Prop
  nest : Nat → Option Nest
noncomputable def Gd.Tab (G : Gd) (P : Addr) : Prop := ∃ c, G.Own c P
section
variable (r : V → Value → Prop) (h : Heap) (a : Addr) (vs : List V)
inductive LstA : Prop
  | mk {ws : List Value} {n : Nat} (e : IsL h a ws.toArray n) (l : ws.length ≤ big) (rel : All2 r vs ws)
inductive TupA : Prop
  | mk {ws : List Value} {n : Nat} (e : IsT h a ws.toArray n) (l : ws.length ≤ big) (rel : All2 r vs ws)
inductive DctA (G : Gd) (es : List (K × V)) : Prop
  | mk {kvs : List (K × Value)} (ns : (a == sysModules) = false) (of : h.DictOf (intKind G.prog G.w) a kvs) (l : kvs.length ≤ big) (rel : All2 (Kv r) es kvs)
end
inductive VR (G : Gd) (O : Addr → Prop) (h : Heap) : V → Value → Prop
  | none : VR G O h .none .none
  | bool (b : Bool) : VR G O h (.bool b) (.bool b)
  | int (i : Int) (t : Tok) : VR G O h (.int i) (.int i t)
  | tup {vs : List V} {ws : List Value} {a : Addr} {n : Nat} : ¬ O a → IsT h a ws.toArray n → ws.length ≤ big → vs.length = ws.length → Pw (VR G O h) vs ws → VR G O h (.tup vs) (.ref a)
  | list {vs : List V} {ws : List Value} {a : Addr} {n : Nat} : ¬ O a → IsL h a ws.toArray n → ws.length ≤ big → vs.length = ws.length → Pw (VR G O h) vs ws → VR G O h (.list vs) (.ref a)
  | dict {g : Nat} {es : List (K × V)} {kvs : List (K × Value)} {a : Addr} : ¬ O a → (a == sysModules) = false → h.DictOf (intKind G.prog G.w) a kvs → kvs.length ≤ big → es.length = kvs.length → (∀ (i : Nat) p q, es[i]? = some p → kvs[i]? = some q → p.1 = q.1) →
      (∀ (i : Nat) p q, es[i]? = some p → kvs[i]? = some q → VR G O h p.2 q.2) → VR G O h (.dict g es) (.ref a)
  | rng {lo hi : Int} {a : Addr} {t u x : Tok} : ¬ O a → h.get? a = some { cls := .type "range", data := .fields #[.int lo t, .int hi u, .int 1 x] } → VR G O h (.rng lo hi) (.ref a)
abbrev VRs (G : Gd) (O : Addr → Prop) (h : Heap) : List V → List Value → Prop := All2 (VR G O h)
inductive VW (G : Gd) (O : Addr → Prop) (h : Heap) : V → Value → Prop
  | none : VW G O h .none .none
  | bool (b : Bool) : VW G O h (.bool b) (.bool b)
  | int (i : Int) (t : Tok) : VW G O h (.int i) (.int i t)
  | tup {vs : List V} {a : Addr} : TupA (VR G O h) h a vs → VW G O h (.tup vs) (.ref a)
  | list {vs : List V} {a : Addr} : LstA (VR G O h) h a vs → VW G O h (.list vs) (.ref a)
  | dict {g : Nat} {es : List (K × V)} {a : Addr} : DctA (VR G O h) h a G es → VW G O h (.dict g es) (.ref a)
  | rng {lo hi : Int} {a : Addr} {t u x : Tok} : h.get? a = some { cls := .type "range", data := .fields #[.int lo t, .int hi u, .int 1 x] } → VW G O h (.rng lo hi) (.ref a)
section
variable {G : Gd} {O O' : Addr → Prop} {h h' : Heap} {v : V} {x : Value} {a : Addr}
theorem DctA.obj {r : V → Value → Prop} {es : List (K × V)} (d : DctA r h a G es) {C : Prop} (k : ∀ o, h.get? a = some o → o.cls = .type "dict" → C) : C := by
  induction d with
  | mk ns of l rel =>
    obtain ⟨o, es, ep, ho, hc, r⟩ := of
    exact k o ho hc.1
theorem VR.mkL {vs : List V} (no : ¬ O a) (r : LstA (VR G O h) h a vs) : VR G O h (.list vs) (.ref a) := by
  induction r with | mk e l rel => exact .list no e l rel.length fun i v w => rel.at
theorem VR.mkT {vs : List V} (no : ¬ O a) (r : TupA (VR G O h) h a vs) : VR G O h (.tup vs) (.ref a) := by
  induction r with | mk e l rel => exact .tup no e l rel.length fun i v w => rel.at
theorem kv_fst {p : K × V} {q : K × Value} (h : Kv (VR G O h') p q) : p.1 = q.1 := by induction h with | mk _ => rfl
theorem kv_snd {r : V → Value → Prop} {p : K × V} {q : K × Value} (h : Kv r p q) : r p.2 q.2 := by induction h with | mk x => exact x
theorem kv_of {r : V → Value → Prop} {p : K × V} {q : K × Value} (e : p.1 = q.1) (x : r p.2 q.2) : Kv r p q := (show (p.1, q.2) = q from e ▸ rfl) ▸ Kv.mk x
theorem VR.mkD {g : Nat} {es : List (K × V)} (no : ¬ O a) (r : DctA (VR G O h) h a G es) : VR G O h (.dict g es) (.ref a) := by
  induction r with | mk ns of l rel => exact .dict no ns of l rel.length (fun i p q e e' => kv_fst (rel.at e e')) fun i p q e e' => kv_snd (rel.at e e')
theorem VR.w (r : VR G O h v x) : VW G O h v x := by
  induction r with
  | none => exact .none
  | bool b => exact .bool b
  | int i t => exact .int i t
  | tup no e l hl r => exact .tup ⟨e, l, .of hl r⟩
  | list no e l hl r => exact .list ⟨e, l, .of hl r⟩
  | dict no ns d l hl hk r => exact .dict ⟨ns, d, l, .of hl fun i p q e e' => kv_of (hk i p q e e') (r i p q e e')⟩
  | rng no e => exact .rng e
theorem VR.no' (r : VR G O h v x) : ∀ a, x = .ref a → ¬ O a := by
  induction r with
  | none => exact fun a e => Value.noConfusion e
  | bool b => exact fun a e => Value.noConfusion e
  | int i t => exact fun a e => Value.noConfusion e
  | tup no => exact fun a e => Value.ref.inj e ▸ no
  | list no => exact fun a e => Value.ref.inj e ▸ no
  | dict no => exact fun a e => Value.ref.inj e ▸ no
  | rng no => exact fun a e => Value.ref.inj e ▸ no
theorem VR.no (r : VR G O h v (.ref a)) : ¬ O a := r.no' a rfl
theorem type_ne {t : String} : Value.type t ≠ .none := fun h => Value.noConfusion h
noncomputable def KeepA (a : Addr) (h h' : Heap) : Prop := ∀ o, h.get? a = some o → o.cls ≠ .none → h'.get? a = some o
noncomputable def Keep (O O' : Addr → Prop) (h h' : Heap) : Prop := ∀ a o, h.get? a = some o → o.cls ≠ .none → ¬ O a → ¬ O' a ∧ h'.get? a = some o
theorem VR.mono (k : Keep O O' h h') (r : VR G O h v x) : VR G O' h' v x := by
  induction r with
  | none => exact .none
  | bool b => exact .bool b
  | int i t => exact .int i t
  | tup no e l hl _ ih => exact .tup (k _ _ e type_ne no).1 (k _ _ e type_ne no).2 l hl ih
  | list no e l hl _ ih => exact .list (k _ _ e type_ne no).1 (k _ _ e type_ne no).2 l hl ih
  | dict no ns d l hl hk _ ih =>
    obtain ⟨o, es, ep, ho, hc, r⟩ := d
    have q := k _ o ho (hc.1 ▸ type_ne) no
    exact .dict q.1 ns ⟨o, es, ep, q.2, hc, r⟩ l hl hk ih
  | rng no e => exact .rng (k _ _ e type_ne no).1 (k _ _ e type_ne no).2
theorem VRs.mono (k : Keep O O' h h') {vs : List V} {xs : List Value} (r : VRs G O h vs xs) : VRs G O' h' vs xs := r.imp fun _ _ => VR.mono k
theorem LstA.mono (k : Keep O O' h h') (ka : KeepA a h h') {vs : List V} (r : LstA (VR G O h) h a vs) : LstA (VR G O' h') h' a vs := by
  induction r with | mk e l rel => exact ⟨ka _ e type_ne, l, VRs.mono k rel⟩
theorem TupA.mono (k : Keep O O' h h') (ka : KeepA a h h') {vs : List V} (r : TupA (VR G O h) h a vs) : TupA (VR G O' h') h' a vs := by
  induction r with | mk e l rel => exact ⟨ka _ e type_ne, l, VRs.mono k rel⟩
theorem kv_mono (k : Keep O O' h h') {p : K × V} {q : K × Value} (r : Kv (VR G O h) p q) : Kv (VR G O' h') p q := by
  induction r with | mk r => exact .mk (r.mono k)
theorem DctA.mono (k : Keep O O' h h') (ka : KeepA a h h') {es : List (K × V)} (r : DctA (VR G O h) h a G es) : DctA (VR G O' h') h' a G es := by
  induction r with
  | mk ns of l rel =>
    obtain ⟨o, es, ep, ho, hc, r⟩ := of
    exact ⟨ns, ⟨o, es, ep, ka o ho (hc.1 ▸ type_ne), hc, r⟩, l, rel.imp fun _ _ => kv_mono k⟩
end
inductive Entry (h : Heap) (P : Addr) (pos : Pos) (v : Value) : Prop
  | mk {ps : Array Value} (e : h.get? P = some { cls := .none, data := .fields ps }) (hv : codeAmong pos ps.toList = some v)
inductive CodeV (h : Heap) : Value → Prop
  | mk {d : Addr} {o : Obj} {q : Str} (e : h.get? d = some o) (c : o.cls = .type "code") (r : h.CodeRec (.ref d) q) : CodeV h (.ref d)
inductive TabOk (h : Heap) (c P : Addr) : Prop
  | mk {ps : Array Value} (e : h.IsCode c P ps) (t : h.TableAt c P ps) (k : ∀ pos v, codeAmong pos ps.toList = some v → CodeV h v)
structure Gok (G : Gd) : Prop where
  tab0 : ∀ c a, G.Own c a → ∃ ps, G.h₀.TableAt c a ps
  nt : ¬ G.Tab mainGlobals ∧ ¬ G.Tab builtinsNs ∧ ¬ G.Tab cStatics
  lo : (∃ o, G.h₀.get? mainGlobals = some o) ∧ (∃ o, G.h₀.get? builtinsNs = some o) ∧ ∃ o, G.h₀.get? cStatics = some o
structure Inv (G : Gd) (s : Shared) : Prop where
  gk : Gok G
  old : OldK G.h₀ s.heap
  glob : s.heap.Ns mainGlobals G.mg
  bts : s.heap.Ns builtinsNs G.mb
  nolim : s.heap.NoLimit
  bare : AllBare s.gens
  os : s.os = G.os₀
  tab : ∀ c a, G.Own c a → TabOk s.heap c a
structure St (G : Gd) (s s' : Shared) : Prop where
  inv : Inv G s'
  kp : ∀ b o, ¬ G.Tab b → s.heap.get? b = some o → s'.heap.get? b = some o
  tb : ∀ P pos v, G.Tab P → Entry s.heap P pos v → Entry s'.heap P pos v
section
variable {G : Gd} {s s' s'' : Shared}
theorem St.trans (x : St G s s') (y : St G s' s'') : St G s s'' := ⟨y.inv, fun b o t e => y.kp b o t (x.kp b o t e), fun P pos v hP e => y.tb P pos v hP (x.tb P pos v hP e)⟩
theorem St.refl (x : Inv G s) : St G s s := ⟨x, fun _ _ _ e => e, fun _ _ _ _ e => e⟩
theorem St.toks (x : Inv G s) (n : Nat) : St G s { s with toks := n } := ⟨⟨x.gk, x.old, x.glob, x.bts, x.nolim, x.bare, x.os, x.tab⟩, fun _ _ _ e => e, fun _ _ _ _ e => e⟩
noncomputable def Rec (o : Obj) : Prop := o.cls = .type "code" ∧ ∃ vs, o.data = .fields vs
theorem CodeV.keeps {h h' : Heap} (k : ∀ b o, h.get? b = some o → Rec o → h'.get? b = some o) {v : Value} (x : CodeV h v) : CodeV h' v := by
  induction x with
  | mk e c r =>
    obtain ⟨d', o', vs, t, e1, e2, e3, e4⟩ := r
    have e5 := Value.ref.inj e1
    subst e5
    have e6 := Option.some.inj (e.symm.trans e2)
    subst e6
    exact ⟨k _ _ e ⟨c, vs, e3⟩, c, _, _, vs, t, rfl, k _ _ e ⟨c, vs, e3⟩, e3, e4⟩
theorem St.keeps (x : Inv G s) {h' : Heap} (k : ∀ b o, s.heap.get? b = some o → h'.get? b = some o) (tk : Nat) : St G s { s with heap := h', toks := tk } where
  inv := {
    gk := x.gk
    old := x.old.step_keeps k
    glob := x.glob.keeps k
    bts := x.bts.keeps k
    nolim := by obtain ⟨mc, hn, e⟩ := x.nolim; exact ⟨mc, hn.keeps k, e⟩
    bare := x.bare
    os := x.os
    tab := fun c a ha => by
      cases x.tab c a ha with | mk e t kk => exact ⟨e.keeps k, t.keeps k, fun pos v hv => (kk pos v hv).keeps fun b o e _ => k b o e⟩ }
  kp := fun b o _ e => k b o e
  tb := fun P pos v _ en => by induction en with | mk e hv => exact ⟨k _ _ e, hv⟩
theorem St.push (x : Inv G s) (o : Obj) (tk : Nat) : St G s { s with heap := s.heap.push o, toks := tk } := St.keeps x (fun _ _ e => Heap.get?_push_of_some _ e) tk
theorem Inv.new (x : Inv G s) {a : Addr} (h : s.heap.get? a = none) : G.h₀.get? a = none := by
  cases e : G.h₀.get? a with
  | none => rfl
  | some o => obtain ⟨o', e'⟩ := x.old.there a o e; exact nos (h.symm.trans e')
theorem Inv.tabObj (x : Inv G s) {a : Addr} (ha : G.Tab a) : ∃ ps, s.heap.get? a = some { cls := .none, data := .fields ps } := by
  obtain ⟨c, ha⟩ := ha
  cases x.tab c a ha with | mk e t k => exact ⟨_, t.2⟩
theorem Inv.notTab (x : Inv G s) {a : Addr} {o : Obj} (e : s.heap.get? a = some o) (hc : o.cls ≠ .none) : ¬ G.Tab a := fun ha => by
  obtain ⟨ps, e'⟩ := x.tabObj ha
  exact hc (congrArg Obj.cls (Option.some.inj (e.symm.trans e')))
theorem Inv.freshNotTab (x : Inv G s) {a : Addr} (e : s.heap.get? a = none) : ¬ G.Tab a := fun ha => by
  obtain ⟨ps, e'⟩ := x.tabObj ha
  exact nos (e.symm.trans e')
theorem get_size (h : Heap) : h.get? h.objs.size = none := by
  cases e : h.get? h.objs.size with
  | none => rfl
  | some o => exact absurd (Heap.lt_size e) (Nat.lt_irrefl _)
theorem St.vk {O : Addr → Prop} (i : Inv G s) (k : St G s s') : Keep O O s.heap s'.heap := fun a o e c no => ⟨no, k.kp a o (i.notTab e c) e⟩
theorem VR.step {O : Addr → Prop} (i : Inv G s) (k : St G s s') {v : V} {x : Value} (r : VR G O s.heap v x) : VR G O s'.heap v x := r.mono (k.vk i)
theorem VRs.step {O : Addr → Prop} (i : Inv G s) (k : St G s s') {v : List V} {x : List Value} (r : VRs G O s.heap v x) : VRs G O s'.heap v x := VRs.mono (k.vk i) r
theorem LstA.step {O : Addr → Prop} (i : Inv G s) (k : St G s s') {a : Addr} {v : List V} (r : LstA (VR G O s.heap) s.heap a v) : LstA (VR G O s'.heap) s'.heap a v := r.mono (k.vk i) fun o e c => k.kp a o (i.notTab e c) e
theorem TupA.step {O : Addr → Prop} (i : Inv G s) (k : St G s s') {a : Addr} {v : List V} (r : TupA (VR G O s.heap) s.heap a v) : TupA (VR G O s'.heap) s'.heap a v := r.mono (k.vk i) fun o e c => k.kp a o (i.notTab e c) e
theorem DctA.step {O : Addr → Prop} (i : Inv G s) (k : St G s s') {a : Addr} {v : List (K × V)} (r : DctA (VR G O s.heap) s.heap a G v) : DctA (VR G O s'.heap) s'.heap a G v := r.mono (k.vk i) fun o e c => k.kp a o (i.notTab e c) e
theorem VW.step {O : Addr → Prop} (i : Inv G s) (k : St G s s') {v : V} {x : Value} (r : VW G O s.heap v x) : VW G O s'.heap v x := by
  induction r with
  | none => exact .none
  | bool b => exact .bool b
  | int j t => exact .int j t
  | tup r => exact .tup (r.step i k)
  | list r => exact .list (r.step i k)
  | dict r => exact .dict (r.step i k)
  | rng e => exact .rng (k.kp _ _ (i.notTab e nofun) e)
theorem old_but {h₀ h h' : Heap} (K : OldK h₀ h) (k : ∀ b o, (∃ o, h₀.get? b = some o) → h.get? b = some o → h'.get? b = some o) : OldK h₀ h' := by
  refine ⟨fun b o e => ?_, fun b o e => ?_⟩
  · rcases K.old b o e with x | ⟨t, hc, vs, more, hv, x⟩ | ⟨rfl, hc, ⟨o', es, n, ho', r⟩, z⟩
    · exact .inl (k b _ ⟨o, e⟩ x)
    · exact .inr (.inl ⟨t, hc, vs, more, hv, k b _ ⟨o, e⟩ x⟩)
    · have q := k _ _ ⟨o, e⟩ ho'
      exact .inr (.inr ⟨rfl, hc, ⟨o', es, n, q, r⟩, fun key => by rw [OldK.staticOf_congr (q.trans ho'.symm) key]; exact z key⟩)
  · obtain ⟨o', ho'⟩ := K.there b o e
    exact ⟨o', k b _ ⟨o, e⟩ ho'⟩
theorem ns_kp {h h' : Heap} {a : Addr} {m : Str → Option Value} (x : h.Ns a m) (k : ∀ o, h.get? a = some o → h'.get? a = some o) : h'.Ns a m := by
  obtain ⟨o, es, ep, ho, r⟩ := x
  exact ⟨o, es, ep, k o ho, r⟩
theorem Inv.but (x : Inv G s) {W : Addr → Prop} {h' : Heap} (h0 : ∀ b, W b → G.h₀.get? b = none) (nt : ∀ b, W b → ¬ G.Tab b) (hc : ∀ b, W b → ∀ o, s.heap.get? b = some o → ¬ Rec o)
    (k : ∀ b o, ¬ W b → s.heap.get? b = some o → h'.get? b = some o) (tk : Nat) : Inv G { s with heap := h', toks := tk } := by
  have old : ∀ b, (∃ o, G.h₀.get? b = some o) → ¬ W b := fun b h hb => by obtain ⟨o, e⟩ := h; exact nos ((h0 b hb).symm.trans e)
  exact {
    gk := x.gk
    old := old_but x.old fun b o h e => k b o (old b h) e
    glob := ns_kp x.glob fun o => k _ o (old _ x.gk.lo.1)
    bts := ns_kp x.bts fun o => k _ o (old _ x.gk.lo.2.1)
    nolim := by obtain ⟨mc, hn, e⟩ := x.nolim; exact ⟨mc, ns_kp hn fun o => k _ o (old _ x.gk.lo.2.2), e⟩
    bare := x.bare
    os := x.os
    tab := fun c P hb => by
      cases x.tab c P hb with
      | mk e t kk =>
        obtain ⟨ps0, ⟨o0, vs0, g0, _⟩, t0⟩ := x.gk.tab0 c P hb
        have hcw := old c ⟨_, g0⟩
        have hPw := old P ⟨_, t0⟩
        refine ⟨?_, ?_, fun pos v hv => (kk pos v hv).keeps fun b o e c => k b o (fun hw => hc b hw o e c) e⟩
        · obtain ⟨o, vs, file, tf, flags, tg, inF, text, tt, op, a, r1, r2, r3, r4, r5, r6, b, r⟩ := e
          exact ⟨o, vs, file, tf, flags, tg, inF, text, tt, op, k _ _ hcw a, r1, r2, r3, r4, r5, r6, k _ _ hPw b, r⟩
        · obtain ⟨⟨o, vs, a, r⟩, t⟩ := t
          exact ⟨⟨o, vs, k _ _ hcw a, r⟩, k _ _ hPw t⟩ }
end
structure Room (A : Around) (k : Nat) : Prop where
  depth : A.depth + k < recursionLimit
  units : A.units + 10 * k + 1000 < cLine
  handled : A.handled = none
theorem sig_lookup (sc : Scope) (x : Str) : (sig sc).lookup x = (sc.names.lookup x).map isVarKind := by
  unfold sig
  induction sc.names with
  | nil => rfl
  | cons p r ih =>
    rw [List.map_cons, List.lookup_cons, List.lookup_cons]
    cases x == p.1 with
    | true => rfl
    | false => exact ih
theorem notVar_kind {env : Env} {x : Str} (h : ((sig env.scope).lookup x == some false) = true) : env.kindOf x = some .globalImplicit ∨ env.kindOf x = some .globalExplicit := by
  rw [sig_lookup] at h
  unfold Env.kindOf
  cases e : env.scope.names.lookup x with
  | none => rw [e] at h; exact Bool.noConfusion h
  | some k => rw [e] at h; revert h; cases k <;> first | exact fun h => Bool.noConfusion h | exact fun _ => .inl rfl | exact fun _ => .inr rfl
inductive VarIs (G : Gd) (h : Heap) (env : Env) (x : Str) (y : Value) : Prop
  | loc {m : Str → Option Value} (hk : env.kindOf x = some .local) (hn : h.Ns env.locals m) (e : m x = some y)
  | cel {c : Addr} (hk : env.kindOf x = some .cell ∨ env.kindOf x = some .free) (hc : env.cells.lookup x = some c) (nt : ¬ G.Tab c) (hv : h.IsCell c (some y))
inductive CelA (G : Gd) (h : Heap) (env : Env) (x : Str) : Prop
  | mk {c : Addr} {v : Option Value} (hc : env.cells.lookup x = some c) (nt : ¬ G.Tab c) (hv : h.IsCell c v)
structure CloIs (G : Gd) (h : Heap) (env : Env) (f : Nat) (a : Addr) (o : Obj) (fd : FuncData) (N : Nest) : Prop where
  get : h.get? a = some o
  cls : o.cls ≠ .none
  data : o.data = .func fd
  nest : G.nest f = some N
  params : fd.params = N.params
  body : fd.body = .stmts N.body
  scope : fd.scope = N.scope
  globals : fd.globals = mainGlobals
  builtins : fd.builtins = builtinsNs
  defaults : fd.defaults = .none
  code : ∃ c P pos, G.Own c P ∧ Entry h P pos fd.code
  free : ∀ z ∈ freeIn N.scope, (env.kindOf z = some .cell ∨ env.kindOf z = some .free) ∧ fd.closure.lookup z = env.cells.lookup z
inductive CloA (G : Gd) (O : Addr → Prop) (h : Heap) (env : Env) (f : Nat) : Value → Prop
  | mk {a : Addr} {o : Obj} {fd : FuncData} {N : Nest} (no : ¬ O a) (c : CloIs G h env f a o fd N) : CloA G O h env f (.ref a)
inductive SR (G : Gd) (O : Addr → Prop) (h : Heap) (env : Env) : Slot → Value → Prop
  | v {x : V} {y : Value} (r : VR G O h x y) : SR G O h env (.v x) y
  | ol {xs : List V} {a : Addr} (r : LstA (VR G O h) h a xs) : SR G O h env (.ol xs) (.ref a)
  | od {g : Nat} {es : List (K × V)} {a : Addr} (r : DctA (VR G O h) h a G es) : SR G O h env (.od g es) (.ref a)
  | clo {f : Nat} {y : Value} (r : CloA G O h env f y) : SR G O h env (.clo f) y
structure EnvOk (G : Gd) (T : Tx) (env : Env) : Prop where
  kind : env.scope.kind = .function
  sg : sig env.scope = T.sg
  glob : env.globals = mainGlobals
  bts : env.builtins = builtinsNs
  cf : ∀ x, x ∈ T.cf → env.kindOf x = some .cell ∨ env.kindOf x = some .free
  nx : ∀ x, env.kindOf x ≠ some .globalExplicit
  code : T.cd = true → ∃ c P, env.code = .ref c ∧ G.Own c P
  bnd : ∀ x, x ∈ T.ow → env.kindOf x = some .local ∨ env.kindOf x = some .cell
noncomputable def OX (G : Gd) (O : Addr → Prop) (h : Heap) : Prop := ∀ a, O a → ¬ G.Tab a ∧ ∃ o, h.get? a = some o
structure ER (G : Gd) (O : Addr → Prop) (h : Heap) (env : Env) (m : Fr) : Prop where
  loc : ¬ G.Tab env.locals
  ox : OX G O h
  cel : ∀ x, env.kindOf x = some .cell ∨ env.kindOf x = some .free → CelA G h env x
  var : ∀ x sl, isVar (sig env.scope) x = true → m.at (idxOf (sig env.scope) x) = some sl → ∃ y, VarIs G h env x y ∧ SR G O h env sl y
noncomputable def NE (m : Fr) (l : List Nat) : Prop := ∀ i ∈ l, ∀ sl, m.at i = some sl → sl.isOwn = false
theorem NE.l {m : Fr} {a b : List Nat} (h : NE m (a ++ b)) : NE m a := fun i hi => h i (List.mem_append_left _ hi)
theorem NE.r {m : Fr} {a b : List Nat} (h : NE m (a ++ b)) : NE m b := fun i hi => h i (List.mem_append_right _ hi)
section
variable {G : Gd} {O : Addr → Prop} {s s' : Shared} {env : Env}
theorem OX.step (k : St G s s') (r : OX G O s.heap) : OX G O s'.heap := fun a ha => by
  obtain ⟨t, o, e⟩ := r a ha
  exact ⟨t, o, k.kp _ _ t e⟩
theorem OX.fresh {h : Heap} (r : OX G O h) : ¬ O h.objs.size := fun ha => by
  obtain ⟨_, o, e⟩ := r _ ha
  exact nos ((get_size h).symm.trans e)
theorem OX.new {h : Heap} (r : OX G O h) {a : Addr} (e : h.get? a = none) : ¬ O a := fun ha => by
  obtain ⟨_, o, e'⟩ := r _ ha
  exact nos (e.symm.trans e')
theorem cell_kp {h h' : Heap} {c : Addr} {v : Option Value} (x : h.IsCell c v) (k : ∀ o, h.get? c = some o → h'.get? c = some o) : h'.IsCell c v := by
  obtain ⟨o, e, d⟩ := x
  exact ⟨o, k o e, d⟩
theorem VarIs.kp {h h' : Heap} {x : Str} {y : Value} (v : VarIs G h env x y) (kl : ∀ o, h.get? env.locals = some o → h'.get? env.locals = some o) (kc : ∀ c o, env.cells.lookup x = some c → ¬ G.Tab c → h.get? c = some o → h'.get? c = some o) : VarIs G h' env x y := by
  induction v with
  | loc hk hn e => exact .loc hk (ns_kp hn kl) e
  | cel hk hc nt hv => exact .cel hk hc nt (cell_kp hv fun o => kc _ o hc nt)
theorem VarIs.step (hl : ¬ G.Tab env.locals) (k : St G s s') {x : Str} {y : Value} (v : VarIs G s.heap env x y) : VarIs G s'.heap env x y :=
  v.kp (fun o => k.kp _ o hl) fun c o _ nt => k.kp c o nt
theorem CelA.step (k : St G s s') {x : Str} (v : CelA G s.heap env x) : CelA G s'.heap env x := by
  induction v with | mk hc nt hv => exact ⟨hc, nt, cell_kp hv fun o => k.kp _ o nt⟩
theorem CloIs.kp {h h' : Heap} {f : Nat} {a : Addr} {o : Obj} {fd : FuncData} {N : Nest} (r : CloIs G h env f a o fd N) (kp : h'.get? a = some o) (tb : ∀ P pos v, G.Tab P → Entry h P pos v → Entry h' P pos v) : CloIs G h' env f a o fd N := by
  obtain ⟨c, P, pos, w, q⟩ := r.code
  exact ⟨kp, r.cls, r.data, r.nest, r.params, r.body, r.scope, r.globals, r.builtins, r.defaults, ⟨c, P, pos, w, tb P pos _ ⟨c, w⟩ q⟩, r.free⟩
theorem SR.map {O' : Addr → Prop} {h h' : Heap} {sl : Slot} {y : Value} (k : Keep O O' h h') (ky : ∀ a o, y = .ref a → sl.isOwn = true → h.get? a = some o → o.cls ≠ .none → h'.get? a = some o) (tb : ∀ P pos v, G.Tab P → Entry h P pos v → Entry h' P pos v) (r : SR G O h env sl y) : SR G O' h' env sl y := by
  induction r with
  | v r => exact .v (r.mono k)
  | ol r => exact .ol (r.mono k fun o => ky _ o rfl rfl)
  | od r => exact .od (r.mono k fun o => ky _ o rfl rfl)
  | clo r => induction r with | mk no c => exact .clo (.mk (k _ _ c.get c.cls no).1 (c.kp (k _ _ c.get c.cls no).2 tb))
theorem SR.step (i : Inv G s) (k : St G s s') {sl : Slot} {y : Value} (r : SR G O s.heap env sl y) : SR G O s'.heap env sl y := r.map (k.vk i) (fun a o _ _ e hc => k.kp a o (i.notTab e hc) e) k.tb
theorem ER.step {m : Fr} (i : Inv G s) (k : St G s s') (r : ER G O s.heap env m) : ER G O s'.heap env m :=
  ⟨r.loc, r.ox.step k, fun x hx => (r.cel x hx).step k, fun x sl hx hm => by obtain ⟨y, v, q⟩ := r.var x sl hx hm; exact ⟨y, v.step r.loc k, q.step i k⟩⟩
theorem SR.view {h : Heap} {sl : Slot} {v : V} {y : Value} (r : SR G O h env sl y) : sl.view = some v → VW G O h v y := by
  induction r with
  | v r => exact fun hv => Option.some.inj hv ▸ r.w
  | ol r => exact fun hv => Option.some.inj hv ▸ .list r
  | od r => exact fun hv => Option.some.inj hv ▸ .dict r
  | clo r => exact fun hv => nos hv
theorem SR.fro {h : Heap} {sl : Slot} {v : V} {y : Value} (r : SR G O h env sl y) : sl.view = some v → sl.isOwn = false → VR G O h v y := by
  induction r with
  | v r => exact fun hv _ => Option.some.inj hv ▸ r
  | ol r => exact fun _ hn => Bool.noConfusion hn
  | od r => exact fun _ hn => Bool.noConfusion hn
  | clo r => exact fun hv => nos hv
end
theorem old_func {h₀ h : Heap} (K : OldK h₀ h) {b : Addr} {o : Obj} {fd : FuncData} (e : h₀.get? b = some o) (hd : o.data = .func fd) (hs : b ≠ cStatics) : h.get? b = some o := by
  rcases K.old b o e with q | ⟨_, _, vs, _, hv, _⟩ | ⟨q, _⟩
  · exact q
  · exact Data.noConfusion (hd.symm.trans hv)
  · exact absurd q hs
structure FnAt (G : Gd) (name : Str) (fa : Addr) : Prop where
  glob : G.mg name = some (.ref fa)
  obj : ∃ o fd, G.h₀.get? fa = some o ∧ fa ≠ cStatics ∧ o.data = .func fd
noncomputable def CallOk (G : Gd) (c : Cx) (k : Nat) (gl : List Str) : Prop :=
  ∀ f vs v name, c.call f vs = some v → gl[f]? = some name → ∃ fa, FnAt G name fa ∧
    ∀ {A s O xs} {R : Result → Shared → Prop}, Room A k → Inv G s → OX G O s.heap → VRs G O s.heap vs xs → (∀ y s', St G s s' → VR G O s'.heap v y → R (.ok (.ret y)) s') → codeAny (model G.prog G.w) A (.call (.ref fa) ⟨xs, []⟩) R s
noncomputable def biNames : List (Str × Value) := [("len", .builtin "len"), ("sum", .builtin "sum"), ("list", .type "list"), ("tuple", .type "tuple"), ("isinstance", .builtin "isinstance"), ("divmod", .builtin "divmod"), ("range", .type "range"), ("zip", .type "zip"), ("reversed", .type "reversed")]
structure Bs (G : Gd) (c : Cx) (k : Nat) (T : Tx) : Prop where
  gen : c.gen = G.gen
  call : CallOk G c k T.gl
  consts : ∀ x i, T.gc.lookup x = some i → ∃ t, G.mg x = some (.int i t)
  bv : ∀ p ∈ biNames, G.mg p.1 = none ∧ G.mb p.1 = some p.2
structure At (G : Gd) (k : Nat) (T : Tx) (A : Around) (env : Env) (m : Fr) (O : Addr → Prop) (s : Shared) : Prop where
  room : Room A k
  inv : Inv G s
  eo : EnvOk G T env
  er : ER G O s.heap env m
theorem At.step {G : Gd} {k : Nat} {T : Tx} {A : Around} {env : Env} {m : Fr} {O : Addr → Prop} {s s' : Shared} (a : At G k T A env m O s) (st : St G s s') : At G k T A env m O s' := ⟨a.room, st.inv, a.eo, a.er.step a.inv st⟩
noncomputable def KV (G : Gd) (O : Addr → Prop) (s : Shared) (v : V) (Q : Value → Shared → Prop) : Prop := ∀ y s', St G s s' → VR G O s'.heap v y → Q y s'
section
variable (G : Gd) (c : Cx) (k : Nat) (T : Tx)
noncomputable def SE (e : Expr) (t : E) : Prop :=
  ∀ {A : Around} {env : Env} {m : Fr} {s : Shared} {O : Addr → Prop} {v : V} {Q : Value → Shared → Prop} {X : Value → Shared → Prop}, At G k T A env m O s → NE m (esc t) → ev c m t = some v → KV G O s v Q → wpAny (model G.prog G.w) A (eval e env) Q X s
noncomputable def SB (e : Expr) (t : E) : Prop :=
  ∀ {A : Around} {env : Env} {m : Fr} {s : Shared} {O : Addr → Prop} {v : V} {b : Bool} {Q : Bool → Shared → Prop} {X : Value → Shared → Prop}, At G k T A env m O s → NE m (esc t) → ev c m t = some v → truth v = some b →
    (∀ s', St G s s' → Q b s') → wpAny (model G.prog G.w) A (isTrue e env (eval e env)) Q X s
noncomputable def Ns (e : Expr) : Prop := ∀ pos es env, backTo pos (starEach (e :: es) env) = (false, eval e env) :: backTo pos (starEach es env)
inductive SEs : List Expr → Es → Prop
  | nil : SEs [] .nil
  | cons {e : Expr} {es : List Expr} {t : E} {ts : Es} (n : Ns e) (h : SE G c k T e t) (r : SEs es ts) : SEs (e :: es) (.cons t ts)
end
section
variable {G : Gd} {c : Cx} {k : Nat} {T : Tx} {X : Value → Shared → Prop}
theorem ev_cst {m : Fr} {a v : V} (h : ev c m (.cst a) = some v) : a = v := Option.some.inj h
theorem se_bad {e : Expr} : SE G c k T e .bad := fun _ _ h _ => nos h
theorem se_int (i : Int) (n : Nat) (p : Pos) : SE G c k T (.Constant (.int i) n p) (.cst (.int i)) := fun a _ h hQ => wpAny_Constant_int (hQ _ _ (St.toks a.inv _) (ev_cst h ▸ .int _ _))
theorem se_bool (b : Bool) (n : Nat) (p : Pos) : SE G c k T (.Constant (.bool b) n p) (.cst (.bool b)) := fun a _ h hQ => wpAny_Constant_bool (hQ _ _ (St.refl a.inv) (ev_cst h ▸ .bool _))
theorem load_var {A : Around} {env : Env} {s : Shared} {x : Str} {y : Value} (hk : env.scope.kind = .function) (v : VarIs G s.heap env x y) (hcd : (x == ("__classdict__" : Str)) = false)
    {Q : Value → Shared → Prop} (h : Q y s) : wpAny (model G.prog G.w) A (loadName env x) Q X s := by
  induction v with
  | loc e hn hx => exact wpAny_loadName_local hk e hn hx h
  | cel hq hc nt hv =>
    rcases hq with e | e
    · exact wpAny_loadName_cell hk e hc hv h
    · exact wpAny_loadName_free hk e hc hv h hcd
structure NmOk (T : Tx) (x : Str) (i : Nat) : Prop where
  v : isVar T.sg x = true
  i : idxOf T.sg x = i
  d : (x == ("__debug__" : Str)) = false
  cd : (x == ("__classdict__" : Str)) = false
theorem name_any {A : Around} {env : Env} {m : Fr} {O : Addr → Prop} {s : Shared} (a : At G k T A env m O s) {x : Str} {i : Nat} (n : NmOk T x i) {p : Pos} {sl : Slot} (hm : m.at i = some sl) {Q : Value → Shared → Prop}
    (h : ∀ y, VarIs G s.heap env x y → SR G O s.heap env sl y → Q y s) : wpAny (model G.prog G.w) A (eval (.Name x p) env) Q X s := by
  obtain ⟨y, v, r⟩ := a.er.var x sl (a.eo.sg ▸ n.v) (a.eo.sg ▸ n.i ▸ hm)
  exact wpAny_Name (load_var a.eo.kind v n.cd (h y v r)) n.d
theorem se_var {x : Str} {i : Nat} (p : Pos) (n : NmOk T x i) : SE G c k T (.Name x p) (.var i) := fun a ne hv hQ =>
  obind hv fun sl hm hv => name_any a n hm fun y _ r => hQ y _ (St.refl a.inv) (r.fro hv (ne i (List.mem_singleton.mpr rfl) sl hm))
structure GnOk (T : Tx) (x : Str) : Prop where
  g : (T.sg.lookup x == some false) = true
  d : (x == ("__debug__" : Str)) = false
theorem name_global {A : Around} {env : Env} {m : Fr} {O : Addr → Prop} {s : Shared} (a : At G k T A env m O s) {x : Str} (n : GnOk T x) {p : Pos} {Q : Value → Shared → Prop} (h : wpAny (model G.prog G.w) A (loadGlobal env x) Q X s) : wpAny (model G.prog G.w) A (eval (.Name x p) env) Q X s := by
  rcases notVar_kind (env := env) (x := x) (a.eo.sg.symm ▸ n.g) with q | q
  · exact Calls.Name_function_global a.eo.kind q h n.d
  · exact absurd q (a.eo.nx x)
theorem se_gc {x : Str} {i : Int} (p : Pos) (bs : Bs G c k T) (n : GnOk T x) (hc : T.gc.lookup x = some i) : SE G c k T (.Name x p) (.cst (.int i)) := fun a _ hv hQ => by
  obtain ⟨t, ht⟩ := bs.consts x i hc
  exact name_global a n (Calls.loadGlobal_global (mg := G.mg) (a.eo.glob ▸ a.inv.glob) ht (hQ _ _ (.refl a.inv) (ev_cst hv ▸ .int _ _)))
theorem lookup_mem {β : Type} {x : Str} {b : β} {l : List (Str × β)} (h : l.lookup x = some b) : (x, b) ∈ l := by
  induction l with
  | nil => exact nos h
  | cons p r ih =>
    rw [List.lookup_cons] at h
    cases e : x == p.1 with
    | true => rw [e] at h; exact List.mem_cons.mpr (.inl (Prod.ext (eq_of_beq e) (Option.some.inj h).symm))
    | false => rw [e] at h; exact List.mem_cons_of_mem _ (ih h)
structure BN (T : Tx) (x : Str) (b : Value) : Prop extends GnOk T x where
  v : biNames.lookup x = some b
theorem name_bi {A : Around} {env : Env} {m : Fr} {O : Addr → Prop} {s : Shared} (bs : Bs G c k T) (a : At G k T A env m O s) {x : Str} {b : Value} (n : BN T x b) {p : Pos} {Q : Value → Shared → Prop} (h : Q b s) : wpAny (model G.prog G.w) A (eval (.Name x p) env) Q X s :=
  name_global a n.toGnOk (Calls.loadGlobal_builtin (mg := G.mg) (mb := G.mb) (a.eo.glob ▸ a.inv.glob) (bs.bv _ (lookup_mem n.v)).1 (a.eo.bts ▸ a.inv.bts) (bs.bv _ (lookup_mem n.v)).2 h)
end
end Mine
end
section
set_option maxRecDepth 100000
set_option genSizeOf false
set_option genInjectivity false
namespace Mine
open PySem PyProof.Rows SeqAt
theorem oif {α : Type} {c : Prop} [Decidable c] {a b : α} {C : α → Prop} (h : (if c then some a else none) = some b) (k : c → C a) : C b :=
  if q : c then Option.some.inj ((if_pos q).symm.trans h) ▸ k q else nos ((if_neg q).symm.trans h)
theorem oifn {α : Type} {c : Prop} [Decidable c] {a b : α} {C : α → Prop} (h : (if c then none else some a) = some b) (k : ¬ c → C a) : C b :=
  if q : c then nos ((if_pos q).symm.trans h) else Option.some.inj ((if_neg q).symm.trans h) ▸ k q
theorem big_le : big ≤ sizeLine := by decide
theorem big_eq : big = 8388608 := rfl
theorem bits_eq (a : Int) : bits a = Builtin.Int.intBits a := by
  unfold bits Builtin.Int.intBits
  by_cases h : a = 0 <;> simp [h]
theorem fits {ws : List Value} (h : ws.length ≤ big) : ws.toArray.size ≤ sizeLine := Nat.le_trans (Nat.le_of_eq (List.size_toArray ..)) (Nat.le_trans h big_le)
theorem fit63 {ws : List Value} (h : ws.length ≤ big) : (ws.toArray.size : Int) < 2 ^ 63 := by rw [List.size_toArray]; have := big_eq; omega
inductive Iv (i : Int) : Value → Prop
  | mk (t : Tok) : Iv i (.int i t)
inductive Bv (b : Bool) : Value → Prop
  | mk : Bv b (.bool b)
section
variable (r : V → Value → Prop) (h : Heap) (xs : List V)
inductive Lv : Value → Prop
  | mk {a : Addr} (l : LstA r h a xs) : Lv (.ref a)
inductive Tv : Value → Prop
  | mk {a : Addr} (l : TupA r h a xs) : Tv (.ref a)
inductive Dv (G : Gd) (es : List (K × V)) : Value → Prop
  | mk {a : Addr} (l : DctA r h a G es) : Dv G es (.ref a)
end
section
variable {G : Gd} {O : Addr → Prop} {h : Heap} {v : V} {x : Value}
theorem VW.oi (r : VW G O h v x) {i : Int} : v.oi = some i → Iv i x := by
  induction r with
  | int j t => exact fun e => Option.some.inj e ▸ .mk t
  | _ => exact nos
theorem VW.ob (r : VW G O h v x) {b : Bool} : v.ob = some b → Bv b x := by
  induction r with
  | bool j => exact fun e => Option.some.inj e ▸ .mk
  | _ => exact nos
theorem VW.ol (r : VW G O h v x) {xs : List V} : v.ol = some xs → Lv (VR G O h) h xs x := by
  induction r with
  | list l => exact fun e => Option.some.inj e ▸ .mk l
  | _ => exact nos
theorem VW.ot (r : VW G O h v x) {xs : List V} : v.ot = some xs → Tv (VR G O h) h xs x := by
  induction r with
  | tup l => exact fun e => Option.some.inj e ▸ .mk l
  | _ => exact nos
theorem VW.od (r : VW G O h v x) {es : List (K × V)} : v.od = some es → Dv (VR G O h) h G es x := by
  induction r with
  | dict l => exact fun e => Option.some.inj e ▸ .mk l
  | _ => exact nos
theorem VW.key (r : VW G O h v x) {k : K} (e : keyV v = some k) : (intKind G.prog G.w).is k x = true := by
  cases r.oi e with | mk t => exact beq_self_eq_true k
end
inductive Own (G : Gd) (O : Addr → Prop) (s s' : Shared) : V → Value → Prop
  | v {v : V} {y : Value} (nl : slotOf .o v = .v v) (r : VR G O s'.heap v y) : Own G O s s' v y
  | l {xs : List V} {a : Addr} (f : s.heap.get? a = none) (r : LstA (VR G (fun b => O b ∨ b = a) s'.heap) s'.heap a xs) : Own G O s s' (.list xs) (.ref a)
  | d {es : List (K × V)} {a : Addr} (f : s.heap.get? a = none) (r : DctA (VR G (fun b => O b ∨ b = a) s'.heap) s'.heap a G es) : Own G O s s' (.dict G.gen es) (.ref a)
noncomputable def KO (G : Gd) (O : Addr → Prop) (s : Shared) (v : V) (Q : Value → Shared → Prop) : Prop := ∀ y s', St G s s' → Own G O s s' v y → Q y s'
section
variable {G : Gd} {O : Addr → Prop} {A : Around} {s s' s'' : Shared} {X : Value → Shared → Prop} {Q : Value → Shared → Prop}
theorem St.fresh (i : Inv G s') (st : St G s s') {a : Addr} (h : s'.heap.get? a = none) : s.heap.get? a = none := by
  cases e : s.heap.get? a with
  | none => rfl
  | some o => cases h.symm.trans (st.kp _ _ (i.freshNotTab h) e)
theorem VR.less {O' : Addr → Prop} {h : Heap} {v : V} {x : Value} (hO : ∀ a, O a → O' a) (r : VR G O' h v x) : VR G O h v x := r.mono fun a o e _ no => ⟨fun q => no (hO a q), e⟩
theorem LstA.less {O' : Addr → Prop} {h : Heap} {a : Addr} {v : List V} (hO : ∀ a, O a → O' a) (r : LstA (VR G O' h) h a v) : LstA (VR G O h) h a v := r.mono (fun a o e _ no => ⟨fun q => no (hO a q), e⟩) fun _ e _ => e
theorem DctA.less {O' : Addr → Prop} {h : Heap} {a : Addr} {v : List (K × V)} (hO : ∀ a, O a → O' a) (r : DctA (VR G O' h) h a G v) : DctA (VR G O h) h a G v := r.mono (fun a o e _ no => ⟨fun q => no (hO a q), e⟩) fun _ e _ => e
theorem Own.vr (ox : OX G O s.heap) {v : V} {y : Value} (r : Own G O s s' v y) : VR G O s'.heap v y := by
  induction r with
  | v _ r => exact r
  | l f r => exact .mkL (ox.new f) (r.less fun _ => .inl)
  | d f r => exact .mkD (ox.new f) (r.less fun _ => .inl)
theorem Own.back (i : Inv G s') (st : St G s s') {v : V} {y : Value} (r : Own G O s' s'' v y) : Own G O s s'' v y := by
  induction r with
  | v nl r => exact .v nl r
  | l f r => exact .l (st.fresh i f) r
  | d f r => exact .d (st.fresh i f) r
theorem St.vkM {F : Addr → Prop} (i : Inv G s) (k : St G s s') (hF : ∀ a, F a → s.heap.get? a = none) : Keep O (fun a => O a ∨ F a) s.heap s'.heap := fun a o e c no =>
  ⟨fun h => h.elim no fun hf => nos ((hF a hf).symm.trans e), k.kp a o (i.notTab e c) e⟩
theorem one_fresh (h : Heap) : ∀ a, a = h.objs.size → h.get? a = none := fun a e => e ▸ get_size h
theorem newL (i : Inv G s) {vs : List V} {ws : List Value} (r : VRs G O s.heap vs ws) (hl : ws.length ≤ big) {tk : Nat} (hQ : KO G O s (.list vs) Q) :
    Q (.ref s.heap.objs.size) { s with heap := s.heap.push { cls := .type "list", data := .seq ws.toArray }, toks := tk } :=
  hQ _ _ (St.push i _ _) (.l (get_size _) ⟨Heap.get?_push_size _ rfl, hl, VRs.mono (St.vkM (s' := { s with heap := s.heap.push { cls := .type "list", data := .seq ws.toArray }, toks := tk }) i (St.push i _ _) (one_fresh _)) r⟩)
theorem newT (i : Inv G s) (ox : OX G O s.heap) {vs : List V} {ws : List Value} (r : VRs G O s.heap vs ws) (hl : ws.length ≤ big) {tk : Nat} (hQ : KV G O s (.tup vs) Q) :
    Q (.ref s.heap.objs.size) { s with heap := s.heap.push { cls := .type "tuple", data := .seq ws.toArray }, toks := tk } :=
  hQ _ _ (St.push i _ _) (.mkT ox.fresh ⟨Heap.get?_push_size _ rfl, hl, VRs.mono ((St.push i _ tk).vk i) r⟩)
theorem ok_newList (i : Inv G s) {vs : List V} {ws : List Value} (r : VRs G O s.heap vs ws) (hl : ws.length ≤ big) (hQ : KO G O s (.list vs) Q) : wpAny (model G.prog G.w) A (newList ws) Q X s :=
  wpAny_newObj_type (newL i r hl hQ) (fits hl)
theorem ok_newTuple (i : Inv G s) (ox : OX G O s.heap) {vs : List V} {ws : List Value} (r : VRs G O s.heap vs ws) (hl : ws.length ≤ big) (hQ : KV G O s (.tup vs) Q) : wpAny (model G.prog G.w) A (newTuple ws) Q X s :=
  wpAny_newObj_type (newT i ox r hl hQ) (fits hl)
theorem mulOk {a b : Int} (h : bits a + bits b ≤ big) : IntMulOk a b := by
  unfold IntMulOk Builtin.Int.intTooBig bitsLine
  rw [← bits_eq, ← bits_eq]
  unfold big at h
  simp only [Bool.and_eq_true, decide_eq_true_eq]
  intro q
  have := q.2
  omega
theorem powOk {a b : Int} (h : (bits a : Int) * b ≤ big) : (Builtin.Int.intBits a : Int) * b ≤ 2 ^ 27 := by
  rw [← bits_eq]; unfold big at h; omega
theorem shlOk {a b : Int} (h : (bits a : Int) + b ≤ big) : (Builtin.Int.intBits a : Int) + b ≤ 2 ^ 27 := by
  rw [← bits_eq]; unfold big at h; omega
theorem int_own {i : Int} {t : Tok} : Own G O s s' (.int i) (.int i t) := .v rfl (.int i t)
theorem ok_binI (i : Inv G s) {op : Operator} {a b : Int} {t u : Tok} {v : V} (h : binI op a b = some v) (hQ : KO G O s v Q) : wpAny (model G.prog G.w) A (binaryOp op (.int a t) (.int b u)) Q X s := by
  revert h
  have hQ' : ∀ j, v = .int j → ∀ n t, Q (.int j t) { s with toks := n } := fun j e n t => hQ _ _ (St.toks i n) (e ▸ int_own)
  have C : ∀ {p : Prop} [Decidable p] {j : Int} {R : Prop}, (if p then some (V.int j) else none) = some v → (p → (∀ n t, Q (.int j t) { s with toks := n }) → R) → R := fun h k => oif (C := fun v' => v' = v → _) h (fun q e => k q (hQ' _ e.symm)) rfl
  have D : ∀ {p : Prop} [Decidable p] {j : Int} {R : Prop}, (if p then none else some (V.int j)) = some v → (¬ p → (∀ n t, Q (.int j t) { s with toks := n }) → R) → R := fun h k => oifn (C := fun v' => v' = v → _) h (fun q e => k q (hQ' _ e.symm)) rfl
  induction op with
  | Add => exact fun h => P.add_int (hQ' _ (Option.some.inj h.symm) _ _)
  | Sub => exact fun h => P.sub_int (hQ' _ (Option.some.inj h.symm) _ _)
  | Mult => exact fun h => C h fun q hQ => P.mul_int (hQ _ _) (mulOk q)
  | FloorDiv => exact fun h => D h fun q hQ => floordiv_int (fun e => q (.inl e)) (hQ _ _) (.inl (PyProof.noPylong_small (Nat.lt_of_not_le fun e => q (.inr e))))
  | Mod => exact fun h => D h fun q hQ => mod_int' q (hQ _ _)
  | Pow => exact fun h => C h fun q hQ => pow_int q.1 (powOk q.2) (hQ _ _)
  | LShift => exact fun h => C h fun q hQ => lshift_int q.1 (shlOk q.2) (hQ _ _)
  | RShift => exact fun h => C h fun q hQ => rshift_int q (hQ _ _)
  | BitXor => exact fun h => xor_int (hQ' _ (Option.some.inj h.symm) _ _)
  | _ => exact nos
theorem ok_addL (i : Inv G s) {a b : Addr} {xs ys zs : List V} (rx : LstA (VR G O s.heap) s.heap a xs) (ry : LstA (VR G O s.heap) s.heap b ys) (h : catS xs ys = some zs) (hQ : KO G O s (.list zs) Q) :
    wpAny (model G.prog G.w) A (binaryOp .Add (.ref a) (.ref b)) Q X s := by
  revert hQ
  refine oif (C := fun zs => KO G O s (.list zs) Q → _) h fun hl hQ => ?_
  induction rx with | @mk ws _ ea _ rx =>
  induction ry with | @mk us _ eb _ ry =>
  have hl' : (ws ++ us).length ≤ big := by rw [List.length_append, ← rx.length, ← ry.length]; exact hl
  refine P.add_list ea eb ?_ (by have := fits hl'; simpa using this)
  rw [List.append_toArray]
  exact newL i (rx.append ry) hl' hQ
theorem emp_iff {ws : List Value} (h : ws.toArray.isEmpty = true) : ws = [] := by induction ws with | nil => rfl | cons => cases h
theorem ok_addT (i : Inv G s) (ox : OX G O s.heap) {a b : Addr} {xs ys zs : List V} (na : ¬ O a) (nb : ¬ O b) (rx : TupA (VR G O s.heap) s.heap a xs) (ry : TupA (VR G O s.heap) s.heap b ys) (h : catS xs ys = some zs) (hQ : KV G O s (.tup zs) Q) :
    wpAny (model G.prog G.w) A (binaryOp .Add (.ref a) (.ref b)) Q X s := by
  revert hQ
  refine oif (C := fun zs => KV G O s (.tup zs) Q → _) h fun hl hQ => ?_
  have rx' := rx
  have ry' := ry
  induction rx with | @mk ws n ea la rx =>
  induction ry with | @mk us n' eb lb ry =>
  by_cases e1 : ws.toArray.isEmpty = true
  · refine concat_meets ⟨_, ea, rfl⟩ ⟨_, eb, rfl⟩ noFill_tuple_add seq_tuple_add F.slot_tuple_add F.entry_tuple_add (F.args_tuple_add_2 _ _) (AutoSeq1.tuple___add___tuple_tuple_0 a _ n b _ n' e1) ⟨ea, eb, hQ _ _ (St.refl i) ?_⟩
    cases emp_iff e1
    cases rx
    exact .mkT nb ry'
  · by_cases e2 : us.toArray.isEmpty = true
    · refine concat_meets ⟨_, ea, rfl⟩ ⟨_, eb, rfl⟩ noFill_tuple_add seq_tuple_add F.slot_tuple_add F.entry_tuple_add (F.args_tuple_add_2 _ _) (AutoSeq1.tuple___add___tuple_tuple_1 a _ n b _ n' e1 e2) ⟨ea, eb, hQ _ _ (St.refl i) ?_⟩
      cases emp_iff e2
      cases ry
      rw [List.append_nil]
      exact .mkT na rx'
    · have hl' : (ws ++ us).length ≤ big := by rw [List.length_append, ← rx.length, ← ry.length]; exact hl
      refine P.add_tuple ea eb e1 e2 ?_ (by have := fits hl'; simpa using this)
      rw [List.append_toArray]
      exact newT i ox (rx.append ry) hl' hQ
theorem foldl_rep (x : Value) (n : Nat) : ∀ acc : List Value, List.foldl (fun (x1 x2 : Array Value) => x1 ++ x2) acc.toArray (List.replicate n #[x]) = (acc ++ List.replicate n x).toArray := by
  induction n with
  | zero => intro acc; rw [List.replicate_zero, List.replicate_zero, List.append_nil]; rfl
  | succ n ih =>
    intro acc
    rw [List.replicate_succ, List.foldl_cons, List.append_toArray acc [x], ih, List.append_assoc, List.replicate_succ]
    rfl
theorem ok_mulL (i : Inv G s) {a : Addr} {xs zs : List V} {k : Int} {u : Tok} (rx : LstA (VR G O s.heap) s.heap a xs) (h : repS xs k = some zs) (hQ : KO G O s (.list zs) Q) :
    wpAny (model G.prog G.w) A (binaryOp .Mult (.ref a) (.int k u)) Q X s := by
  induction rx with | @mk ws n ha _ rx =>
  induction rx with
  | nil => cases h
  | @cons x y as bs rx rr =>
  induction rr with
  | cons => cases h
  | nil =>
  revert hQ
  refine oif (C := fun zs => KO G O s (.list zs) Q → _) h fun hb hQ => ?_
  have hbb := big_eq
  refine wpAny_binaryOp_repeat_ref (T := "list") (U := "int") (by decide) ⟨_, ha, rfl⟩ (fun s' => typeIs_int s' k u) noFill_list_mul F.fills_int_mul F.slot_int_rmul repeat_list F.slot_int_index.lookup
    (call_meets F.slot_int_rmul (typeIs_int s k u) F.entry_int_rmul (F.args_int_rmul_2 _ _) (int___rmul___int_list k u a #[y] n)
      ⟨ha, rfl, ⟨_, ha, rfl⟩, call_meets F.slot_list_mul ⟨_, ha, rfl⟩ F.entry_list_mul (F.args_list_mul_2 _ _)
        (AutoListH.list___mul___list_int_3 a #[y] n k u (by simp [Builtin.List.listFitsIndex]; omega) (by simp; omega) (by simp [Builtin.List.listTooLong, sizeLine]; omega))
        ⟨ha, ?_⟩⟩)
  have e : List.foldl (fun (x1 x2 : Array Value) => x1 ++ x2) #[] (List.replicate (if (#[y] : Array Value).isEmpty = true then 0 else k.toNat) #[y]) = (List.replicate k.toNat y).toArray := foldl_rep y k.toNat []
  rw [e]
  exact newL i (All2.replicate rx _) (by rw [List.length_replicate]; omega) hQ
theorem ok_bin (i : Inv G s) (ox : OX G O s.heap) {op : Operator} {a b v : V} {x y : Value} (ra : VR G O s.heap a x) (rb : VR G O s.heap b y) (h : binV op a b = some v) (hQ : KO G O s v Q) : wpAny (model G.prog G.w) A (binaryOp op x y) Q X s := by
  have rw := ra.w
  induction rw with
  | int j t => exact obind h fun j hj h => by cases rb.w.oi hj; exact ok_binI i h hQ
  | list rl =>
    induction op with
    | Add => exact obind h fun ys hy h => by cases rb.w.ol hy with | mk l => exact omap (C := fun v => KO G O s v Q → _) h (fun zs hz hQ => ok_addL i rl l hz hQ) hQ
    | Mult => exact obind h fun n hn h => by cases rb.w.oi hn; exact omap (C := fun v => KO G O s v Q → _) h (fun zs hz hQ => ok_mulL i rl hz hQ) hQ
    | _ => cases h
  | tup rt =>
    induction op with
    | Add => exact obind h fun ys hy h => by cases rb.w.ot hy with | mk l => exact omap (C := fun v => KO G O s v Q → _) h (fun zs hz hQ => ok_addT i ox ra.no rb.no rt l hz fun y s' st r => hQ y s' st (.v rfl r)) hQ
    | _ => cases h
  | _ => cases h
end
theorem get_lt {α : Type} {xs : List α} {n : Nat} {v : α} (h : xs[n]? = some v) : n < xs.length := (List.getElem?_eq_some_iff.mp h).1
theorem item_nn {xs : List V} {k : Int} {v : V} {C : Prop} (h : item xs k = some v) (K : ∀ n : Nat, k = n → xs[n]? = some v → C) : C := by
  by_cases q : 0 ≤ k
  · exact K k.toNat (Int.toNat_of_nonneg q).symm ((if_pos q).symm.trans h)
  · exact nos ((if_neg q).symm.trans h)
theorem seqI {j n : Nat} (h : j < n) : seqIndex? (j : Int) n = some j := by
  unfold seqIndex?
  have e : ¬ (j : Int) < 0 := Int.not_lt.mpr (Int.natCast_nonneg j)
  simp [e, h]
theorem big63 {n : Nat} (h : n ≤ big) : (n : Int) < 2 ^ 63 := by have := big_eq; omega
theorem lo63 (n : Nat) : (-2 ^ 63 : Int) ≤ (n : Int) := by omega
theorem seq_get {ws : List Value} {j : Nat} {y : Value} (h : ws[j]? = some y) : ws.toArray[j]? = some y := List.getElem?_toArray.trans h
inductive Opt2 (r : V → Value → Prop) : Option V → Option Value → Prop
  | none : Opt2 r none none
  | some {v : V} {y : Value} : r v y → Opt2 r (some v) (some y)
theorem va_hit {k : K} {y : Value} {kvs : List (K × Value)} : valueAt ((k, y) :: kvs) k = some y := by
  unfold valueAt; rw [List.find?_cons_of_pos (p := fun kv : K × Value => decide (kv.1 = k)) (decide_eq_true (Eq.refl k))]; rfl
theorem va_miss {k k₁ : K} {y : Value} {kvs : List (K × Value)} (h : ¬ k₁ = k) : valueAt ((k₁, y) :: kvs) k = valueAt kvs k := by
  unfold valueAt; rw [List.find?_cons_of_neg (p := fun kv : K × Value => decide (kv.1 = k)) (a := (k₁, y)) (fun e => h (of_decide_eq_true e))]
section
variable {r : V → Value → Prop} {es : List (K × V)} {kvs : List (K × Value)}
theorem dget_rel (h : All2 (Kv r) es kvs) (k : K) : Opt2 r (dget k es) (valueAt kvs k) := by
  induction h with
  | nil => exact .none
  | cons x _ ih =>
    induction x with | @mk k₁ a b x =>
    unfold dget
    by_cases q : k = k₁
    · rw [← q, va_hit, if_pos rfl]; exact .some x
    · rw [va_miss (fun e => q e.symm), if_neg q]; exact ih
theorem Opt2.get {o : Option V} {p : Option Value} (h : Opt2 r o p) {v : V} {C : Prop} : o = Option.some v → (∀ y, p = Option.some y → r v y → C) → C := by
  induction h with
  | none => exact fun e _ => nos e
  | some x => exact fun e k => k _ rfl (Option.some.inj e ▸ x)
theorem Opt2.isSome {o : Option V} {p : Option Value} (h : Opt2 r o p) : p.isSome = o.isSome := by
  induction h with
  | none => rfl
  | some x => rfl
end
section
variable {G : Gd} {O : Addr → Prop} {A : Around} {s s' s'' : Shared} {X : Value → Shared → Prop} {Q : Value → Shared → Prop}
theorem ok_itemL (i : Inv G s) {a : Addr} {xs : List V} (r : LstA (VR G O s.heap) s.heap a xs) {k : Int} {t : Tok} {v : V} (h : item xs k = some v) (hQ : KV G O s v Q) : wpAny (model G.prog G.w) A (getItem (.ref a) (.int k t)) Q X s := by
  induction r with | @mk ws n e l r =>
  refine item_nn h fun j ej hj => r.get hj fun y hy ry => ?_
  subst ej
  exact wpAny_getItem_list ⟨_, e, rfl, _, rfl⟩ (Int.natCast_nonneg j) (big63 (Nat.le_trans (Nat.le_of_lt (get_lt hy)) l)) (seq_get hy) (hQ _ _ (.refl i) ry)
theorem ok_itemT (i : Inv G s) {a : Addr} {xs : List V} (r : TupA (VR G O s.heap) s.heap a xs) {k : Int} {t : Tok} {v : V} (h : item xs k = some v) (hQ : KV G O s v Q) : wpAny (model G.prog G.w) A (getItem (.ref a) (.int k t)) Q X s := by
  induction r with | @mk ws n e l r =>
  refine item_nn h fun j ej hj => r.get hj fun y hy ry => ?_
  subst ej
  exact P.getItem_tuple e (lo63 j) (big63 (Nat.le_trans (Nat.le_of_lt (get_lt hy)) l)) (seqI (Nat.lt_of_lt_of_eq (get_lt hy) (List.size_toArray ..).symm)) (seq_get hy) (hQ _ _ (.refl i) ry)
theorem ok_itemD (i : Inv G s) {a : Addr} {es : List (K × V)} (r : DctA (VR G O s.heap) s.heap a G es) {k : K} {x : Value} {v : V} (hk : (intKind G.prog G.w).is k x = true) (h : dget k es = some v) (hQ : KV G O s v Q) : wpAny (model G.prog G.w) A (getItem (.ref a) x) Q X s := by
  induction r with | mk ns of l r => exact (dget_rel r k).get h fun y hy ry => wpAny_getItem_of hk of.mapOf hy (hQ _ _ (.toks i _) ry)
theorem ok_sub (i : Inv G s) {v u ku : V} {x y : Value} (rv : VW G O s.heap v x) (rk : VW G O s.heap ku y) (h : subV v ku = some u) (hQ : KV G O s u Q) : wpAny (model G.prog G.w) A (getItem x y) Q X s := by
  induction rv with
  | list r => exact obind (o := ku.oi) h fun j hj h => by induction rk.oi hj with | mk t => exact ok_itemL i r h hQ
  | tup r => exact obind (o := ku.oi) h fun j hj h => by induction rk.oi hj with | mk t => exact ok_itemT i r h hQ
  | dict r => exact obind (o := keyV ku) h fun q hq h => ok_itemD i r (rk.key hq) h hQ
  | _ => exact nos h
inductive HasItem (s : Shared) (x : Value) : Prop
  | mk {TT : String} {id : String} (h1 : s.TypeIs x TT) (h2 : typeLookup (.type TT) "__getitem__" = pure (some (.builtin id)))
theorem lst_type {a : Addr} {xs : List V} (r : LstA (VR G O s.heap) s.heap a xs) : s.TypeIs (.ref a) "list" := by induction r with | mk e => exact ⟨_, e, rfl⟩
theorem tup_type {a : Addr} {xs : List V} (r : TupA (VR G O s.heap) s.heap a xs) : s.TypeIs (.ref a) "tuple" := by induction r with | mk e => exact ⟨_, e, rfl⟩
theorem dct_type {a : Addr} {xs : List (K × V)} (r : DctA (VR G O s.heap) s.heap a G xs) : s.TypeIs (.ref a) "dict" := by induction r with | mk _ of => exact of.typeIs
theorem sub_type {v ku u : V} {x : Value} (rv : VW G O s.heap v x) (h : subV v ku = some u) : HasItem s x := by
  induction rv with
  | list r => exact ⟨lst_type r, slot_list_getitem.lookup⟩
  | tup r => exact ⟨tup_type r, F.slot_tuple_getitem.lookup⟩
  | dict r => exact ⟨dct_type r, slot_dict_getitem.lookup⟩
  | _ => exact nos h
noncomputable def KB (G : Gd) (s : Shared) (v : V) (Q : Bool → Shared → Prop) : Prop := ∀ b s', St G s s' → v = .bool b → Q b s'
theorem ok_in (i : Inv G s) {d k v : V} {x y : Value} (rd : VW G O s.heap d x) (rk : VW G O s.heap k y) (h : inV d k = some v) (hQ : KB G s v fun b => Q (.bool b)) : wpAny (model G.prog G.w) A (compareOp .In y x) Q X s := by
  refine obind h fun es he h => ?_
  induction rd.od he with | mk l =>
  refine omap (C := fun v => KB G s v (fun b => Q (.bool b)) → _) h (fun q hq hQ => ?_) hQ
  induction l with | mk ns of l r => exact wpAny_in_of (rk.key hq) ns of.mapOf ((dget_rel r q).isSome ▸ hQ _ _ (.toks i _) rfl)
theorem ok_notin (i : Inv G s) {d k v : V} {x y : Value} (rd : VW G O s.heap d x) (rk : VW G O s.heap k y) (h : inV d k = some v) (hQ : KB G s v fun b => Q (.bool !b)) : wpAny (model G.prog G.w) A (compareOp .NotIn y x) Q X s := by
  refine obind h fun es he h => ?_
  induction rd.od he with | mk l =>
  refine omap (C := fun v => KB G s v (fun b => Q (.bool !b)) → _) h (fun q hq hQ => ?_) hQ
  induction l with | mk ns of l r => exact wpAny_notIn_of (rk.key hq) ns of.mapOf ((dget_rel r q).isSome ▸ hQ _ _ (.toks i _) rfl)
theorem emp_rel {vs : List V} {ws : List Value} (r : All2 (VR G O s.heap) vs ws) : ws.toArray.isEmpty = vs.isEmpty := by
  induction r with
  | nil => rfl
  | cons => rfl
theorem size_rel {r : V → Value → Prop} {vs : List V} {ws : List Value} (h : All2 r vs ws) : (ws.toArray.size : Int) = (vs.length : Int) := congrArg Int.ofNat ((List.size_toArray ..).trans h.length.symm)
theorem ok_truth (i : Inv G s) {v : V} {b : Bool} {x : Value} (rv : VW G O s.heap v x) (h : truth v = some b) {Q : Bool → Shared → Prop} (hQ : ∀ s', St G s s' → Q b s') : wpAny (model G.prog G.w) A (truthy x) Q X s := by
  induction rv with
  | bool c => exact wpAny_truthy_bool (Option.some.inj h ▸ hQ _ (.refl i))
  | int c t => exact P.truthy_int (Option.some.inj h ▸ hQ _ (.refl i))
  | list r => induction r with | mk e l r => exact wpAny_truthy_list ⟨_, e, rfl, _, rfl⟩ (fit63 l) (emp_rel r ▸ Option.some.inj h ▸ hQ _ (.toks i _))
  | _ => exact nos h
theorem ok_len (i : Inv G s) {v u : V} {x : Value} (rv : VW G O s.heap v x) (h : lenV v = some u) (hQ : KV G O s u Q) : wpAny (model G.prog G.w) A (call (.builtin "len") [x]) Q X s := by
  induction rv with
  | list r => induction r with | mk e l r => exact len_list ⟨_, e, rfl, _, rfl⟩ (fit63 l) (hQ _ _ (.toks i _) (Option.some.inj h ▸ size_rel r ▸ .int _ _))
  | tup r => induction r with | mk e l r => exact P.len_tuple e (Int.not_le.mpr (fit63 l)) (hQ _ _ (.toks i _) (Option.some.inj h ▸ size_rel r ▸ .int _ _))
  | _ => exact nos h
noncomputable def IntsAt (ns : List Int) (ws : List Value) : Prop := ns.length = ws.length ∧ ∀ (i : Nat) v, ws[i]? = some v → ∃ t, v = Value.int (ns.getD i 0) t
theorem ints_at {xs : List V} {ws : List Value} (r : All2 (VR G O s.heap) xs ws) : ∀ {ns : List Int}, intsOf xs = some ns → IntsAt ns ws := by
  induction r with
  | nil => exact fun h => Option.some.inj h ▸ ⟨rfl, fun i v e => nos e⟩
  | cons x _ ih =>
    exact fun h => obind h fun n hn h => omap (C := fun ns => IntsAt ns _) h fun ms hm => by
      obtain ⟨h1, h2⟩ := ih hm
      induction x.w.oi hn with | mk t =>
      exact ⟨congrArg (· + 1) h1, fun i => by induction i with | zero => exact fun v e => ⟨t, (Option.some.inj e).symm⟩ | succ i => exact h2 i⟩
theorem preSum_sum (ns : List Int) : ∀ j, preSum (fun i => ns.getD i 0) j = (ns.take j).sum := by
  intro j
  induction j with
  | zero => rfl
  | succ j ih =>
    rw [preSum, ih]
    rcases Nat.lt_or_ge j ns.length with q | q
    · rw [List.take_add_one, List.sum_append]; simp [q]
    · rw [List.take_of_length_le q, List.take_of_length_le (Nat.le_succ_of_le q)]; simp [List.getElem?_eq_none q]
theorem ok_sum {k : Nat} (hr : Room A k) (i : Inv G s) {v u : V} {x : Value} (rv : VW G O s.heap v x) (h : sumV v = some u) (hQ : KV G O s u Q) : wpAny (model G.prog G.w) A (call (.builtin "sum") [x]) Q X s := by
  refine obind h fun xs hx h => ?_
  induction rv.ol hx with | @mk a l =>
  refine omap (C := fun u => KV G O s u Q → _) h (fun ns hn hQ => ?_) hQ
  induction l with | @mk ws n e l r =>
  obtain ⟨hl, hg⟩ := ints_at r hn
  have hlt := Heap.lt_size e
  have hne : a ≠ s.heap.objs.size := Nat.ne_of_lt hlt
  refine call_sum_walkG (wpAny_pyIter_list ⟨_, e, rfl, _, rfl⟩ ⟨s.heap.objs.size, [s.heap.objs.size, a], [s.heap.objs.size], _, _, _, fun i => ns.getD i 0, rfl,
    Walks.list (A := A.in1) hr.handled s.heap.objs.size a hne ws.toArray, ⟨⟨_, Heap.get?_push_size _ rfl, rfl, rfl⟩, ⟨_, Heap.get?_push_of_some _ e, rfl, _, rfl⟩⟩, fun b hb => ?_, fun j v hv => hg j v (List.getElem?_toArray.symm.trans hv), fun h' tk t' hk => ?_⟩)
  · rw [Heap.size_push]
    rcases List.mem_cons.mp hb with rfl | hb
    · exact Nat.lt_succ_self _
    · exact List.mem_singleton.mp hb ▸ Nat.lt_succ_of_lt hlt
  · refine hQ _ _ (St.keeps i (fun b o' eb => hk b o' (fun hm => Nat.ne_of_lt (Heap.lt_size eb) (List.mem_singleton.mp hm)) (Heap.get?_push_of_some _ eb)) tk) ?_
    rw [preSum_sum, List.take_of_length_le (by rw [hl, List.size_toArray]; exact Nat.le_refl _)]
    exact .int _ _
theorem ok_tup (i : Inv G s) (ox : OX G O s.heap) {v u : V} {x : Value} (rv : VW G O s.heap v x) (h : tupV v = some u) (hQ : KV G O s u Q) : wpAny (model G.prog G.w) A (call (.type "tuple") [x]) Q X s := by
  refine omap (C := fun u => KV G O s u Q → _) h (fun xs hx hQ => ?_) hQ
  induction rv.ol hx with | @mk a l =>
  induction l with | @mk ws n e l r =>
  exact call_tuple_list ⟨_, e, rfl, _, rfl⟩ (fun h' hk => newT (s := { s with heap := h' }) (tk := s.toks) (St.keeps i hk s.toks).inv (ox.step (St.keeps i hk s.toks)) (VRs.step i (St.keeps i hk s.toks) r) l fun y s' st => hQ y s' ((St.keeps i hk s.toks).trans st)) (fits l)
theorem ok_divm (i : Inv G s) (ox : OX G O s.heap) {a b u : V} {x y : Value} (ra : VW G O s.heap a x) (rb : VW G O s.heap b y) (h : divmV a b = some u) (hQ : KV G O s u Q) : wpAny (model G.prog G.w) A (call (.builtin "divmod") [x, y]) Q X s := by
  refine obind h fun j hj h => obind h fun k hk h => ?_
  induction ra.oi hj with | mk t =>
  induction rb.oi hk with | mk t' =>
  refine oifn (C := fun u => KV G O s u Q → _) h (fun q hQ => ?_) hQ
  exact divmod_int (fun e => q (.inl e)) (newT (ws := [_, _]) i ox (.cons (.int _ _) (.cons (.int _ _) .nil)) (show 2 ≤ big by decide) hQ) (.inl (PyProof.noPylong_small (Nat.lt_of_not_le fun e => q (.inr e))))
theorem ok_range1 (i : Inv G s) (ox : OX G O s.heap) {b u : V} {y : Value} (rb : VW G O s.heap b y) (h : rngV (.int 0) b = some u) (hQ : KV G O s u Q) : wpAny (model G.prog G.w) A (call (.type "range") [y]) Q X s := by
  refine omap (C := fun u => KV G O s u Q → _) (o := b.oi) h (fun j hj hQ => ?_) hQ
  induction rb.oi hj with | mk t => exact call_range_1 (hQ _ _ (St.push i _ _) (.rng ox.fresh (IsRange.new ..)))
theorem ok_range2 (i : Inv G s) (ox : OX G O s.heap) {a b u : V} {x y : Value} (ra : VW G O s.heap a x) (rb : VW G O s.heap b y) (h : rngV a b = some u) (hQ : KV G O s u Q) : wpAny (model G.prog G.w) A (call (.type "range") [x, y]) Q X s := by
  refine obind h fun j hj h => omap (C := fun u => KV G O s u Q → _) h (fun k hk hQ => ?_) hQ
  induction ra.oi hj with | mk t =>
  induction rb.oi hk with | mk t' => exact call_range_2 (hQ _ _ (St.push i _ _) (.rng ox.fresh (IsRange.new ..)))
theorem ok_isTup (i : Inv G s) {v u : V} {x : Value} (rv : VW G O s.heap v x) (h : isTupV v = some u) (hQ : KV G O s u Q) : wpAny (model G.prog G.w) A (call (.builtin "isinstance") [x, .type "tuple"]) Q X s := by
  induction rv with
  | int j t => exact IsiPair.int_tuple (hQ _ _ (.toks i _) (Option.some.inj h ▸ .bool _))
  | tup r => exact call_isinstance (isinstance_true (Tx := "tuple") (show typeOf (.type "tuple") = pure (.type "type") by kernel_rfl) isSubtype_tuple_tuple) ⟨tup_type r, hQ _ _ (.refl i) (Option.some.inj h ▸ .bool _)⟩
  | _ => exact nos h
theorem ok_neg (i : Inv G s) {v u : V} {x : Value} (rv : VW G O s.heap v x) (h : negV v = some u) (hQ : KV G O s u Q) : wpAny (model G.prog G.w) A (unaryOp .USub x) Q X s := by
  refine omap (C := fun u => KV G O s u Q → _) h (fun j hj hQ => ?_) hQ
  induction rv.oi hj with | mk t => exact P.neg_int (hQ _ _ (.toks i _) (.int _ _))
theorem bitNot_eq (i : Int) : Builtin.bitNot i = -i - 1 := by
  first | rfl | (unfold Builtin.bitNot; omega) | (cases i <;> simp [Builtin.bitNot] <;> omega)
theorem ok_inv (i : Inv G s) {v u : V} {x : Value} (rv : VW G O s.heap v x) (h : invV v = some u) (hQ : KV G O s u Q) : wpAny (model G.prog G.w) A (unaryOp .Invert x) Q X s := by
  refine omap (C := fun u => KV G O s u Q → _) h (fun j hj hQ => ?_) hQ
  induction rv.oi hj with | mk t => exact invert_int (hQ _ _ (.toks i _) (bitNot_eq j ▸ .int _ _))
end
section
variable {prog : Program} {w : World} {A : Around} {E : Value → Shared → Prop} {s : Shared}
theorem part_any {v : Value} {k : Option Int} {Q : Option Int → Shared → Prop} (hv : IsPart v k) (h : Q k s) : wpAny (model prog w) A (Builtin.Slice.slicePartIndex v) Q E s := by
  cases hv with
  | none => exact slicePart_none h
  | int i t => exact slicePart_int h
theorem sliceApplied_parts {sl : Addr} {n : Nat} {vl vu : Value} {lo hi : Option Int} {Q : Int × Int × Nat → Shared → Prop} (hs : s.heap.IsSliceOf sl vl vu .none) (pl : IsPart vl lo) (pu : IsPart vu hi)
    (h : Q ((Builtin.Slice.sliceAdjust lo hi 1 (n : Int)).1, 1, Builtin.Slice.slicePlaces (Builtin.Slice.sliceAdjust lo hi 1 (n : Int)).1 (Builtin.Slice.sliceAdjust lo hi 1 (n : Int)).2 1) s) :
    wpAny (model prog w) A (Builtin.Slice.sliceApplied (.ref sl) (pure (n : Int))) Q E s := by
  obtain ⟨os, hos, hcs, hds⟩ := id hs
  unfold Builtin.Slice.sliceApplied Builtin.Slice.sliceFields
  refine wpAny_bind (wpAny_bind (wpAny_field hos hds (x := vl) rfl (wpAny_bind (wpAny_field hos hds (x := vu) rfl (wpAny_bind (wpAny_field hos hds (x := .none) rfl (wpAny_pure ?_)))))))
  refine wpAny_bind (slicePart_none ?_)
  show wpAny _ _ (if ((1 : Int) == 0) = true then _ else _) _ _ s
  rw [if_neg (by decide)]
  refine wpAny_bind (part_any pl (wpAny_bind (part_any pu (wpAny_bind (wpAny_pure ?_)))))
  exact wpAny_pure h
theorem pick_run' (xs : Array Value) (a k : Nat) : ((List.range k).filterMap fun (j : Nat) => xs[((a : Int) + (j : Int) * 1).toNat]?).toArray = ((xs.toList.drop a).take k).toArray := by
  have e : (fun (k : Nat) => xs[((a : Int) + (k : Int) * 1).toNat]?) = fun k => xs[a + k]? := by
    funext k
    have : ((a : Int) + (k : Int) * 1).toNat = a + k := by omega
    rw [this]
  rw [e]
  have := pick_run xs a k
  rw [List.filterMap_map] at this
  have e2 : ((fun x => xs[x]?) ∘ fun x => a + x) = fun k => xs[a + k]? := rfl
  rw [e2] at this
  rw [this]
theorem getItem_tuple_cut {t sl : Addr} {items : Array Value} {n a k : Nat} {vl vu : Value} {lo hi : Option Int} {Q : Value → Shared → Prop} (ht : IsT s.heap t items n) (hs : s.heap.IsSliceOf sl vl vu .none) (pl : IsPart vl lo) (pu : IsPart vu hi)
    (ha : (Builtin.Slice.sliceAdjust lo hi 1 (items.size : Int)).1 = (a : Int)) (hk : Builtin.Slice.slicePlaces (Builtin.Slice.sliceAdjust lo hi 1 (items.size : Int)).1 (Builtin.Slice.sliceAdjust lo hi 1 (items.size : Int)).2 1 = k)
    (h1 : a = 0 → k = items.size → Q (.ref t) s)
    (h2 : Q (.ref s.heap.objs.size) { s with heap := s.heap.push { cls := .type "tuple", data := .seq ((items.toList.drop a).take k).toArray } })
    (hsz : items.size ≤ sizeLine := by size_fits) : wpAny (model prog w) A (getItem (.ref t) (.ref sl)) Q E s := by
  have ht' : IsTup s.heap t items := ⟨_, ht, rfl, _, rfl⟩
  have hdrop : sizeOk (.seq ((items.toList.drop a).take k).toArray) := by
    show ((items.toList.drop a).take k).toArray.size ≤ sizeLine
    rw [List.size_toArray, List.length_take, List.length_drop, Array.length_toList]
    omega
  obtain ⟨os, hos, hcs, hds⟩ := id hs
  have hTs : s.TypeIs (.ref sl) "slice" := ⟨os, hos, hcs⟩
  unfold getItem
  try with_reducible refine wpAny_holding ?_
  first | refine wpAny_bind (wpAny_pure ?_) | skip
  refine wpAny_bind (wpAny_sequenceKey ht'.typeIs (by decide) ?_)
  refine wpAny_bind (wpAny_callSpecial?_slot (name := Str.ofString "__getitem__") ht'.typeIs slot_tuple_getitem
    (wpAny_call_entry slot_tuple_getitem ht'.typeIs entry_tuple_getitem ?_ (args_tuple_getitem _ _)))
  show wpAny _ _ (Builtin.Tuple.tupleItemsOf (.ref t) >>= _) _ _ s
  refine wpAny_bind (tupleItemsOf_ ht' ?_)
  refine wpAny_bind (wpAny_typeOf hTs ?_)
  rw [if_pos (by decide)]
  refine wpAny_bind (sliceApplied_parts hs pl pu ?_)
  rw [hk, ha]
  show wpAny _ _ (if ((a : Int) == 0 && (1 : Int) == 1 && k == items.size) = true then _ else _) _ _ s
  by_cases q : ((a : Int) == 0 && (1 : Int) == 1 && k == items.size) = true
  · rw [if_pos q]
    simp at q
    unfold Builtin.Tuple.tupleIsExact
    refine wpAny_bind (wpAny_bind (wpAny_typeOf ht'.typeIs (wpAny_pure ?_)))
    first
      | exact wpAny_bind (wpAny_rule (wpAny_bind (wpAny_pure (wpAny_pure ⟨_, rfl, wpAny_pure (h1 q.1 q.2)⟩))))
      | exact wpAny_bind (wpAny_rule (wpAny_pure ⟨_, rfl, wpAny_pure (h1 q.1 q.2)⟩))
      | (rw [if_pos (by decide)]; exact wpAny_bind (wpAny_rule (wpAny_bind (wpAny_pure (wpAny_pure ⟨_, rfl, wpAny_pure (h1 q.1 q.2)⟩)))))
      | (rw [if_pos (by decide)]; exact wpAny_bind (wpAny_rule (wpAny_pure ⟨_, rfl, wpAny_pure (h1 q.1 q.2)⟩)))
      | skip
  · rw [if_neg q, pick_run' items a k]
    first
      | exact wpAny_bind (m := Builtin.Tuple.tupleExact _) (wpAny_newObj_type (wpAny_pure ⟨_, rfl, wpAny_pure h2⟩) hdrop)
      | exact wpAny_bind (m := Builtin.Tuple.tupleExact _) (wpAny_newObj_type (wpAny_bind (wpAny_pure (wpAny_pure ⟨_, rfl, wpAny_pure h2⟩))) hdrop)
      | exact wpAny_bind (wpAny_bind (m := Builtin.Tuple.tupleExact _) (wpAny_newObj_type (wpAny_pure (wpAny_pure ⟨_, rfl, wpAny_pure h2⟩)) hdrop))
      | exact wpAny_bind (wpAny_bind (m := Builtin.Tuple.tupleExact _) (wpAny_newObj_type (wpAny_pure ⟨_, rfl, wpAny_pure h2⟩) hdrop))
end
section
variable {G : Gd} {O : Addr → Prop} {A : Around} {s s' s'' : Shared} {X : Value → Shared → Prop} {Q : Value → Shared → Prop}
theorem oif0 {α : Type} {j : Int} {a b : α} {C : Prop} (h : (if 0 ≤ j then some a else none) = some b) (K : ∀ n : Nat, j = n → some a = some b → C) : C := by
  by_cases q : 0 ≤ j
  · exact K j.toNat (Int.toNat_of_nonneg q).symm ((if_pos q).symm.trans h)
  · exact nos ((if_neg q).symm.trans h)
theorem adjTo (k n : Nat) : Builtin.Slice.sliceAdjust none (some (k : Int)) 1 (n : Int) = (((0 : Nat) : Int), ((min k n : Nat) : Int)) := by
  unfold Builtin.Slice.sliceAdjust
  have h2 : ¬ ((k : Int) < 0) := by omega
  simp [h2]; omega
theorem adjFrom (k n : Nat) : Builtin.Slice.sliceAdjust (some (k : Int)) none 1 (n : Int) = (((min k n : Nat) : Int), (n : Int)) := by
  unfold Builtin.Slice.sliceAdjust
  have h2 : ¬ ((k : Int) < 0) := by omega
  simp [h2]; omega
theorem places1 {a b n : Nat} (h : a + n = b) : Builtin.Slice.slicePlaces (a : Int) (b : Int) 1 = n := by
  unfold Builtin.Slice.slicePlaces
  simp only [show (1 : Int) > 0 from by omega, if_true, Int.ediv_one]
  split <;> omega
theorem drop_nought {xs : List V} {n k : Nat} (hl : xs.length = n) (h : min k n = 0) : xs.drop k = xs := by
  induction k with
  | zero => rfl
  | succ k => induction xs with | nil => rfl | cons => subst hl; exact absurd h (by simp only [List.length_cons]; omega)
theorem drop_rest (ws : List Value) (k : Nat) : (ws.drop (min k ws.length)).take (ws.length - min k ws.length) = ws.drop k := by
  rw [List.take_of_length_le (Nat.le_of_eq List.length_drop)]
  rcases Nat.le_total k ws.length with q | q
  · rw [Nat.min_eq_left q]
  · rw [Nat.min_eq_right q, List.drop_length, List.drop_eq_nil_of_le q]
theorem take_rest (ws : List Value) (k : Nat) : ws.take (min k ws.length) = ws.take k := by
  rcases Nat.le_total k ws.length with q | q
  · rw [Nat.min_eq_left q]
  · rw [Nat.min_eq_right q, List.take_length, List.take_of_length_le q]
theorem take_le {ws : List Value} {k : Nat} (h : ws.length ≤ big) : (ws.take k).length ≤ big := Nat.le_trans (List.length_take_le' ..) h
theorem drop_le {ws : List Value} {k : Nat} (h : ws.length ≤ big) : (ws.drop k).length ≤ big := Nat.le_trans (Nat.le_trans (Nat.le_of_eq List.length_drop) (Nat.sub_le ..)) h
theorem ok_cutTo (i : Inv G s) (ox : OX G O s.heap) {v j u : V} {x y : Value} {sl : Addr} (rv : VR G O s.heap v x) (rj : VW G O s.heap j y) (hs : s.heap.IsSliceOf sl .none y .none) (h : cutTo v j = some u) (hQ : KV G O s u Q) : wpAny (model G.prog G.w) A (getItem x (.ref sl)) Q X s := by
  have rw := rv.w
  induction rw with
  | list r =>
    refine obind (o := j.oi) h fun j hj h => oif0 h fun k ek h => ?_
    subst ek
    induction rj.oi hj with | mk t =>
    induction r with | mk e l r =>
    refine wpAny_getItem_list_slice ⟨_, e, rfl, _, rfl⟩ hs .none (.int _ t) .none nofun ?_ (fits l)
    rw [slicePick_upto']
    exact newL (tk := s.toks) i (r.take k) (take_le l) fun y s' st r => hQ y s' st (Option.some.inj h ▸ r.vr ox)
  | tup r =>
    refine obind (o := j.oi) h fun j hj h => oif0 h fun k ek h => ?_
    subst ek
    induction rj.oi hj with | mk t =>
    induction r with | @mk ws n e l r =>
    have hz : ws.toArray.size = ws.length := List.size_toArray ..
    refine getItem_tuple_cut (a := 0) (k := min k ws.length) e hs .none (.int _ t) (by rw [hz, adjTo]) (by rw [hz, adjTo]; exact places1 (Nat.zero_add _)) (fun _ hk => hQ _ _ (.refl i) ?_) ?_ (fits l)
    · have q : ws.length ≤ k := Nat.le_trans (Nat.le_of_eq (hk.trans hz).symm) (Nat.min_le_left ..)
      rw [Int.toNat_natCast, List.take_of_length_le (Nat.le_trans (Nat.le_of_eq r.length) q)] at h
      exact Option.some.inj h ▸ rv
    · have e2 : ((ws.toArray.toList.drop 0).take (min k ws.length)).toArray = (ws.take k).toArray := congrArg List.toArray (take_rest ws k)
      rw [e2]
      exact newT (tk := s.toks) i ox (r.take k) (take_le l) (Option.some.inj h ▸ hQ)
  | _ => exact nos h
theorem ok_cutFrom (i : Inv G s) (ox : OX G O s.heap) {v j u : V} {x y : Value} {sl : Addr} (rv : VR G O s.heap v x) (rj : VW G O s.heap j y) (hs : s.heap.IsSliceOf sl y .none .none) (h : cutFrom v j = some u) (hQ : KV G O s u Q) : wpAny (model G.prog G.w) A (getItem x (.ref sl)) Q X s := by
  have rw := rv.w
  induction rw with
  | list r =>
    refine obind (o := j.oi) h fun j hj h => oif0 h fun k ek h => ?_
    subst ek
    induction rj.oi hj with | mk t =>
    induction r with | mk e l r =>
    refine wpAny_getItem_list_slice ⟨_, e, rfl, _, rfl⟩ hs (.int _ t) .none .none nofun ?_ (fits l)
    rw [slicePick_from']
    exact newL (tk := s.toks) i (r.drop k) (drop_le l) fun y s' st r => hQ y s' st (Option.some.inj h ▸ r.vr ox)
  | tup r =>
    refine obind (o := j.oi) h fun j hj h => oif0 h fun k ek h => ?_
    subst ek
    induction rj.oi hj with | mk t =>
    induction r with | @mk ws n e l r =>
    have hz : ws.toArray.size = ws.length := List.size_toArray ..
    refine getItem_tuple_cut (a := min k ws.length) (k := ws.length - min k ws.length) e hs (.int _ t) .none (by rw [hz, adjFrom]) (by rw [hz, adjFrom]; exact places1 (Nat.add_sub_of_le (Nat.min_le_right ..))) (fun h0 _ => hQ _ _ (.refl i) ?_) ?_ (fits l)
    · have q : List.drop k _ = _ := drop_nought r.length h0
      rw [Int.toNat_natCast, q] at h
      exact Option.some.inj h ▸ rv
    · have e2 : ((ws.toArray.toList.drop (min k ws.length)).take (ws.length - min k ws.length)).toArray = (ws.drop k).toArray := congrArg List.toArray (drop_rest ws k)
      rw [e2]
      exact newT (tk := s.toks) i ox (r.drop k) (drop_le l) (Option.some.inj h ▸ hQ)
  | _ => exact nos h
end
theorem all_succ (n : Nat) (e : Nat → Bool) : (List.range (n + 1)).all e = (e 0 && (List.range n).all fun j => e (j + 1)) := by
  rw [List.range_succ_eq_map, List.all_cons, List.all_map]
  rfl
theorem Opt2.elim {r : V → Value → Prop} {o : Option V} {p : Option Value} (h : Opt2 r o p) {C : Prop} : (o = Option.none → p = Option.none → C) → (∀ v y, o = Option.some v → p = Option.some y → r v y → C) → C := by
  induction h with
  | none => exact fun k _ => k rfl rfl
  | some x => exact fun _ k => k _ _ rfl rfl x
theorem pairs_fun {prog : Program} {w : World} {l : List DictEntry} {k1 : List (K × Value)} (h : Pairs (intKind prog w) l k1) : ∀ {k2}, Pairs (intKind prog w) l k2 → k1 = k2 := by
  induction h with
  | nil => intro k2 h; cases h; rfl
  | @cons e kv es kvs i1 v1 r1 ih =>
    intro k2 h
    cases h with | @cons _ kv' _ _ i2 v2 r2 =>
    have e1 : kv = kv' := Prod.ext ((intKind prog w).inj _ _ _ i1 i2) (v1.symm.trans v2)
    rw [e1, ih r2]
theorem pairs_any {prog prog' : Program} {w w' : World} {l : List DictEntry} {k : List (K × Value)} (h : Pairs (intKind prog w) l k) : Pairs (intKind prog' w') l k := by
  induction h with
  | nil => exact .nil
  | cons i v _ ih => exact .cons i v ih
theorem dictOf_any {prog prog' : Program} {w w' : World} {h : Heap} {a : Addr} {k : List (K × Value)} (x : h.DictOf (intKind prog w) a k) : h.DictOf (intKind prog' w') a k := by
  obtain ⟨o, es, ep, ho, hc, hd, hk, hp, hn⟩ := x
  exact ⟨o, es, ep, ho, hc, hd, hk, pairs_any hp, hn⟩
section
variable {prog : Program} {w : World} {h : Heap} {a : Addr} {k1 k2 : List (K × Value)}
theorem dictOf_fun (x : h.DictOf (intKind prog w) a k1) (y : h.DictOf (intKind prog w) a k2) : k1 = k2 := by
  obtain ⟨o, es, ep, ho, _, hd, _, hp, _⟩ := x
  obtain ⟨o', es', ep', ho', _, hd', _, hp', _⟩ := y
  have e := Option.some.inj (ho.symm.trans ho')
  subst e
  have e := hd.symm.trans hd'
  injection e with e _
  subst e
  exact pairs_fun hp hp'
theorem dictOf_nodup (x : h.DictOf (intKind prog w) a k1) : (k1.map (·.1)).Nodup := by
  obtain ⟨o, es, ep, ho, _, hd, _, hp, hn⟩ := x
  exact hn
theorem seq_fun {c c' : Value} {ws us : List Value} {n n' : Nat} (x : h.get? a = some { cls := c, data := .seq ws.toArray n }) (y : h.get? a = some { cls := c', data := .seq us.toArray n' }) : us = ws := by
  have e := congrArg Obj.data (Option.some.inj (x.symm.trans y))
  injection e with e _
  exact (congrArg Array.toList e).symm
end
theorem va_mem {kvs : List (K × Value)} : (kvs.map (·.1)).Nodup → ∀ p ∈ kvs, valueAt kvs p.1 = some p.2 := by
  induction kvs with
  | nil => exact fun _ p hp => nomatch hp
  | cons q r ih =>
    intro hn p hp
    have hn := List.nodup_cons.mp hn
    rcases List.mem_cons.mp hp with e | hp
    · exact e ▸ va_hit
    · exact (va_miss (k₁ := q.1) (k := p.1) (y := q.2) fun e => hn.1 (show q.1 ∈ _ from e ▸ List.mem_map_of_mem (f := fun x : K × Value => x.1) hp)).trans (ih hn.2 p hp)
section
variable {G : Gd} {O : Addr → Prop} {s : Shared}
noncomputable def Same (G : Gd) (O : Addr → Prop) (h : Heap) (f : V → V → Option Bool) : Prop := ∀ {v u y b}, VR G O h v y → VR G O h u y → f v u = some b → b = true
theorem eqL_same {f : V → V → Option Bool} (hf : Same G O s.heap f) {xs : List V} {ws : List Value} (r : VRs G O s.heap xs ws) : ∀ {ys : List V} {b : Bool}, VRs G O s.heap ys ws → eqL f xs ys = some b → b = true := by
  induction r with
  | nil => intro ys b q; cases q; exact fun h => (Option.some.inj h).symm
  | cons x _ ih =>
    intro ys b q
    cases q with | cons y q =>
    exact fun h => obind h fun c hc h => omap (C := fun b => b = true) h fun d hd => by rw [hf x y hc, ih q hd]; rfl
theorem eqD_same {f : V → V → Option Bool} (hf : Same G O s.heap f) {fs : List (K × V)} {kvs : List (K × Value)} (rf : All2 (Kv (VR G O s.heap)) fs kvs) {es : List (K × V)} {kvs' : List (K × Value)} (r : All2 (Kv (VR G O s.heap)) es kvs') :
    (∀ p ∈ kvs', valueAt kvs p.1 = some p.2) → ∀ {b : Bool}, eqD f fs es = some b → b = true := by
  induction r with
  | nil => exact fun _ _ h => (Option.some.inj h).symm
  | cons x _ ih =>
    intro hm b
    induction x with | @mk k v y x =>
    have hv := hm _ (List.mem_cons_self ..)
    unfold eqD
    refine (dget_rel rf k).elim (fun _ e => nos (e.symm.trans hv)) fun u y' e1 e2 ru => ?_
    have ey : y' = y := Option.some.inj (e2.symm.trans hv)
    subst ey
    rw [e1]
    exact fun h => obind h fun c hc h => omap (C := fun b => b = true) h fun d hd => by rw [hf x ru hc, ih (fun p hp => hm p (List.mem_cons_of_mem _ hp)) hd]; rfl
theorem eq_same (n : Nat) : Same G O s.heap (eqN n) := by
  induction n with
  | zero => exact fun _ _ h => nos h
  | succ n ih =>
    intro v u y b rv
    have rw := rv.w
    induction rw with
    | int j t => exact fun ru h => omap (C := fun b => b = true) h fun k hk => by cases ru.w.oi hk; exact beq_self_eq_true j
    | tup r =>
      refine fun ru h => obind h fun ys hy h => ?_
      cases ru.w.ot hy with | mk r' =>
      cases r with | mk e _ r =>
      cases r' with | mk e' _ r' =>
      cases seq_fun e e'
      exact eqL_same ih r r' h
    | list r =>
      refine fun ru h => obind h fun ys hy h => ?_
      cases ru.w.ol hy with | mk r' =>
      cases r with | mk e _ r =>
      cases r' with | mk e' _ r' =>
      cases seq_fun e e'
      rw [r.length, r'.length, beq_self_eq_true] at h
      exact eqL_same ih r r' h
    | dict r =>
      refine fun ru h => obind h fun ys hy h => ?_
      cases ru.w.od hy with | mk r' =>
      cases r with | mk _ e _ r =>
      cases r' with | mk _ e' _ r' =>
      cases dictOf_fun e e'
      rw [r.length, r'.length, beq_self_eq_true] at h
      exact eqD_same ih r' r (va_mem (dictOf_nodup e)) h
    | _ => exact fun _ h => nos h
noncomputable def EqF (G : Gd) (O : Addr → Prop) (A : Around) (s : Shared) (f : V → V → Option Bool) : Prop := ∀ {v u x y b}, VR G O s.heap v x → VR G O s.heap u y → f v u = some b → EqAt A s x y b
inductive EqItems (A : Around) (s : Shared) (ws us : List Value) (b : Bool) : Prop
  | mk (e : Nat → Bool) (h : ∀ (j : Nat) x y, ws[j]? = some x → us[j]? = some y → EqAt A s x y (e j)) (hl : ws.length = us.length) (hb : (List.range ws.length).all e = b)
theorem eqL_at {A : Around} {f : V → V → Option Bool} (hf : EqF G O A s f) {xs : List V} {ws : List Value} (r : VRs G O s.heap xs ws) : ∀ {ys : List V} {us : List Value} {b : Bool}, VRs G O s.heap ys us → eqL f xs ys = some b → EqItems A s ws us b := by
  induction r with
  | nil =>
    intro ys us b q
    induction q with
    | nil => exact fun h => ⟨fun _ => true, fun j x y e => nos e, rfl, Option.some.inj h⟩
    | cons => exact fun h => nos h
  | cons x _ ih =>
    intro ys us b q
    induction q with
    | nil => exact fun h => nos h
    | cons y q =>
      exact fun h => obind h fun c hc h => omap (C := fun b => EqItems A s _ _ b) h fun d hd => by
        induction ih q hd with | mk e h hl hb =>
        exact ⟨fun j => j.rec c fun j _ => e j, fun j => j.rec (fun x' y' h1 h2 => Option.some.inj h1 ▸ Option.some.inj h2 ▸ hf x y hc) fun j _ => h j, congrArg (· + 1) hl, (all_succ _ _).trans (congrArg (c && ·) hb)⟩
theorem EqItems.arr {A : Around} {ws us : List Value} {e : Nat → Bool} (h : ∀ (j : Nat) x y, ws[j]? = some x → us[j]? = some y → EqAt A s x y (e j)) : ∀ (j : Nat) (h1 : j < ws.toArray.size) (h2 : j < us.toArray.size), EqAt A s ws.toArray[j] us.toArray[j] (e j) :=
  fun j h1 h2 => h j _ _ (List.getElem?_toArray.symm.trans (Array.getElem?_eq_getElem h1)) (List.getElem?_toArray.symm.trans (Array.getElem?_eq_getElem h2))
theorem eqD_at {A : Around} {f : V → V → Option Bool} (hf : EqF G O A s f) {fs : List (K × V)} {kb : List (K × Value)} (rf : All2 (Kv (VR G O s.heap)) fs kb) {es : List (K × V)} {ka : List (K × Value)} (r : All2 (Kv (VR G O s.heap)) es ka) :
    ∀ {b : Bool}, eqD f fs es = some b → W.KeqHits A s kb ka b := by
  induction r with
  | nil => exact fun h => Option.some.inj h ▸ .nil
  | cons x _ ih =>
    intro b
    induction x with | @mk k v y x =>
    unfold eqD
    refine (dget_rel rf k).elim (fun e1 e2 => ?_) fun u y' e1 e2 ru => ?_
    · rw [e1]; exact fun h => Option.some.inj h ▸ .miss e2
    · rw [e1]; exact fun h => obind h fun c hc h => omap (C := fun b => W.KeqHits A s kb _ b) h fun d hd => .hit e2 (hf x ru hc) (ih hd)
structure Rc (A : Around) (s : Shared) (x y : Value) (b : Bool) : Prop where
  eq : RcAt A s x y b
  ne : RcNeAt A s x y !b
  val : EqAt A s x y b
theorem Rc.refs {A : Around} {n : Nat} {v u : V} {a a' : Addr} {b : Bool} (rv : VR G O s.heap v (.ref a)) (ru : VR G O s.heap u (.ref a')) (h : eqN n v u = some b) (x : RcAt A s (.ref a) (.ref a') b) (y : RcNeAt A s (.ref a) (.ref a') !b) : Rc A s (.ref a) (.ref a') b :=
  ⟨x, y, by
    by_cases q : a = a'
    · subst q; rw [eq_same n rv ru h]; exact EqAt.same _
    · exact EqAt.of_refs q x⟩
theorem szb {ws us : List Value} (h : ws.length = us.length) : ws.toArray.size = us.toArray.size := (List.size_toArray ..).trans (h.trans (List.size_toArray ..).symm)
theorem szn {ws us : List Value} (h : (ws.length == us.length) = false) : (ws.toArray.size != us.toArray.size) = true := by
  rw [List.size_toArray, List.size_toArray]; unfold bne; rw [h]; rfl
theorem eq_all (n : Nat) : ∀ {A : Around} {v u : V} {x y : Value} {b : Bool}, A.units + n < cLine → VR G O s.heap v x → VR G O s.heap u y → eqN n v u = some b → Rc A s x y b := by
  induction n with
  | zero => exact fun _ _ _ h => nos h
  | succ n ih =>
    intro A v u x y b hu rv ru h
    have hu0 : A.units < cLine := Nat.lt_of_le_of_lt (Nat.le_add_right ..) hu
    have deep : EqF G O A.in1 s (eqN n) := fun r q h => (ih (Nat.lt_of_le_of_lt (Nat.le_of_eq (by rw [Around.in1_units]; omega)) hu) r q h).val
    have h' := h
    have rw := rv.w
    revert h
    induction rw with
    | int j t => exact fun h => omap (C := fun b => Rc A s _ _ b) h fun k hk => by cases ru.w.oi hk; exact ⟨RcAt.int_int _ _ _ _, RcNeAt.int_int _ _ _ _, EqAt.int_int _ _ _ _⟩
    | tup r =>
      refine fun h => obind h fun ys hy h => ?_
      cases ru.w.ot hy with | mk r' =>
      cases r with | @mk ws _ e _ r =>
      cases r' with | @mk us _ e' _ r' =>
      cases eqL_at deep r r' h with | mk f hf hl hb =>
      have q : ((List.range (min ws.toArray.size us.toArray.size)).all f && ws.toArray.size == us.toArray.size) = b := by rw [szb hl, Nat.min_self, beq_self_eq_true, Bool.and_true, ← szb hl, List.size_toArray]; exact hb
      exact Rc.refs rv ru h' (q ▸ RcAt.tuples ⟨_, e, rfl, _, rfl⟩ ⟨_, e', rfl, _, rfl⟩ hu0 (EqItems.arr hf)) (q ▸ RcNeAt.tuples ⟨_, e, rfl, _, rfl⟩ ⟨_, e', rfl, _, rfl⟩ hu0 (EqItems.arr hf))
    | list r =>
      refine fun h => obind h fun ys hy h => ?_
      cases ru.w.ol hy with | mk r' =>
      cases r with | @mk ws _ e _ r =>
      cases r' with | @mk us _ e' _ r' =>
      rw [r.length, r'.length] at h
      cases q : ws.length == us.length with
      | true =>
        rw [q] at h
        cases eqL_at deep r r' h with | mk f hf hl hb =>
        have q : (List.range ws.toArray.size).all f = b := by rw [List.size_toArray]; exact hb
        exact Rc.refs rv ru h' (q ▸ RcAt.lists ⟨_, e, rfl, _, rfl⟩ ⟨_, e', rfl, _, rfl⟩ (szb hl) hu0 (EqItems.arr hf)) (q ▸ RcNeAt.lists ⟨_, e, rfl, _, rfl⟩ ⟨_, e', rfl, _, rfl⟩ (szb hl) hu0 (EqItems.arr hf))
      | false =>
        rw [q] at h
        have eb : false = b := Option.some.inj h
        subst eb
        exact Rc.refs rv ru h' (RcAt.lists_lengths ⟨_, e, rfl, _, rfl⟩ ⟨_, e', rfl, _, rfl⟩ (szn q) hu0) (RcNeAt.lists_lengths ⟨_, e, rfl, _, rfl⟩ ⟨_, e', rfl, _, rfl⟩ (szn q) hu0)
    | dict r =>
      refine fun h => obind h fun ys hy h => ?_
      cases ru.w.od hy with | mk r' =>
      cases r with | @mk ka ns e _ r =>
      cases r' with | @mk kb ns' e' _ r' =>
      rw [r.length, r'.length] at h
      have key : ∀ {c}, (ka.length = kb.length → W.KeqHits A.in1 s kb ka c) → (ka.length == kb.length && c) = b → Rc A s _ _ b := fun hits q =>
        Rc.refs rv ru h' (fun prog w E Q hq => W.keq_eq (knd := intKind prog w) ns ns' (dictOf_any e) (dictOf_any e') hu0 hits (q ▸ hq)) (fun prog w E Q hq => W.keq_ne (knd := intKind prog w) ns ns' (dictOf_any e) (dictOf_any e') hu0 hits (q ▸ hq))
      cases q : ka.length == kb.length with
      | true => rw [q] at h key; exact key (fun _ => eqD_at deep r' r h) rfl
      | false => rw [q] at h key; exact key (c := false) (fun h => absurd (beq_iff_eq.mpr h) (by rw [q]; exact Bool.noConfusion)) (Option.some.inj h)
    | _ => exact fun h => nos h
end
section
variable {G : Gd} {O : Addr → Prop} {A : Around} {s s' s'' : Shared} {X : Value → Shared → Prop} {Q : Value → Shared → Prop}
theorem ok_cmp {k : Nat} (hr : Room A k) (i : Inv G s) {op : CmpOp} {a b v : V} {x y : Value} (ra : VR G O s.heap a x) (rb : VR G O s.heap b y) (h : cmpV op a b = some v) (hQ : KB G s v fun b => Q (.bool b)) : wpAny (model G.prog G.w) A (compareOp op x y) Q X s := by
  have hu : A.units + 16 < cLine := Nat.lt_of_le_of_lt (by omega) hr.units
  induction op with
  | Eq => exact omap (C := fun v => KB G s v (fun b => Q (.bool b)) → _) h (fun c hc hQ => (eq_all 16 hu ra rb hc).eq G.prog G.w _ _ (hQ _ _ (.refl i) rfl)) hQ
  | NotEq => exact omap (C := fun v => KB G s v (fun b => Q (.bool b)) → _) h (fun c hc hQ => (eq_all 16 hu ra rb hc).ne G.prog G.w _ _ (hQ _ _ (.refl i) rfl)) hQ
  | Lt => exact obind h fun j hj h => obind h fun k hk h => by cases ra.w.oi hj; cases rb.w.oi hk; exact P.lt_int (hQ _ _ (.refl i) (Option.some.inj h).symm)
  | LtE => exact obind h fun j hj h => obind h fun k hk h => by cases ra.w.oi hj; cases rb.w.oi hk; exact P.le_int (hQ _ _ (.refl i) (Option.some.inj h).symm)
  | Gt => exact obind h fun j hj h => obind h fun k hk h => by cases ra.w.oi hj; cases rb.w.oi hk; exact P.gt_int (hQ _ _ (.refl i) (Option.some.inj h).symm)
  | GtE => exact obind h fun j hj h => obind h fun k hk h => by cases ra.w.oi hj; cases rb.w.oi hk; exact P.ge_int (hQ _ _ (.refl i) (Option.some.inj h).symm)
  | _ => exact obind h fun j hj h => obind h fun k hk h => nos h
noncomputable def isI (i : Int) : Value → Bool
  | .int j _ => j == i
  | _ => false
theorem count_at {i : Int} {t : Tok} {xs : List V} {ws : List Value} (r : VRs G O s.heap xs ws) : ∀ {ns : List Int}, intsOf xs = some ns → (∀ y ∈ ws, EqAt A s y (.int i t) (isI i y)) ∧ ws.countP (isI i) = ns.countP (· == i) := by
  induction r with
  | nil => exact fun h => Option.some.inj h ▸ ⟨fun y hy => absurd hy List.not_mem_nil, rfl⟩
  | cons x _ ih =>
    refine fun h => obind h fun n hn h => omap (C := fun ns => (∀ y ∈ _, EqAt A s y (.int i t) (isI i y)) ∧ List.countP (isI i) _ = ns.countP (· == i)) h fun ms hm => ?_
    obtain ⟨h1, h2⟩ := ih hm
    cases x.w.oi hn with | mk t' =>
    refine ⟨fun y hy => (List.mem_cons.mp hy).elim (fun e => e ▸ EqAt.int_int _ _ _ _) (h1 y), ?_⟩
    rw [List.countP_cons, List.countP_cons, h2]
    rfl
theorem ok_count (i : Inv G s) {l v u : V} {x z : Value} (rl : VW G O s.heap l x) (rv : VW G O s.heap v z) (h : countV l v = some u) (hQ : KV G O s u Q) : wpAny (model G.prog G.w) A (call (.builtin "list.count") [x, z]) Q X s := by
  refine obind h fun xs hx h => obind h fun j hj h => omap (C := fun u => KV G O s u Q → _) h (fun ns hn hQ => ?_) hQ
  cases rl.ol hx with | mk r =>
  cases rv.oi hj with | mk t =>
  cases r with | @mk ws n e _ r =>
  obtain ⟨h1, h2⟩ := count_at (A := A.in1) (t := t) (i := j) r hn
  exact call_meets F.slot_list_count ⟨_, e, rfl⟩ F.entry_list_count (F.args_list_count_2 _ _) (list_countAt _ ws.toArray n none #[] (.int j t) (isI j)) ⟨e, fun y hy => h1 y (List.mem_toArray.mp hy), hQ _ _ (.toks i _) (h2 ▸ .int _ _)⟩
end
theorem stored_eq {k : K} {y y₂ : Value} {kvs : List (K × Value)} (hn : k ∉ kvs.map (·.1)) : stored ((k, y₂) :: kvs) k y = (k, y) :: kvs := by
  have e : (kvs.map fun kv => if kv.1 = k then (kv.1, y) else kv) = kvs := by
    clear y₂
    induction kvs with
    | nil => rfl
    | cons p r ih => rw [List.map_cons, ih fun h => hn (List.mem_cons_of_mem _ h), if_neg fun e => hn (List.mem_cons.mpr (.inl e.symm))]
  unfold stored
  rw [List.any_cons, decide_eq_true rfl, Bool.true_or, if_pos rfl, List.map_cons, e, if_pos rfl]
theorem stored_ne {k k₁ : K} {y y₂ : Value} {kvs : List (K × Value)} (q : ¬ k₁ = k) : stored ((k₁, y₂) :: kvs) k y = (k₁, y₂) :: stored kvs k y := by
  unfold stored
  rw [List.any_cons, decide_eq_false q, Bool.false_or, List.map_cons, if_neg q]
  split <;> rfl
theorem stored_keys {k x : K} {y : Value} {kvs : List (K × Value)} (hx : x ≠ k) : x ∉ kvs.map (·.1) → x ∉ (stored kvs k y).map (·.1) := by
  induction kvs with
  | nil => exact fun _ h => hx (List.mem_singleton.mp h)
  | cons p r ih =>
    intro h
    by_cases q : p.1 = k
    · unfold stored
      rw [List.any_cons, decide_eq_true q, Bool.true_or, if_pos rfl, List.map_map]
      have e : ((fun x : K × Value => x.1) ∘ fun kv : K × Value => if kv.1 = k then (kv.1, y) else kv) = fun x => x.1 := by funext z; show (if z.1 = k then (z.1, y) else z).1 = z.1; split <;> rfl
      rw [e]; exact h
    · rw [show p :: r = (p.1, p.2) :: r from rfl, stored_ne q, List.map_cons]
      exact fun m => (List.mem_cons.mp m).elim (fun e => h (List.mem_cons.mpr (.inl e))) (ih fun m => h (List.mem_cons_of_mem _ m))
theorem stored_nodup {k : K} {y : Value} {kvs : List (K × Value)} : (kvs.map (·.1)).Nodup → ((stored kvs k y).map (·.1)).Nodup := by
  induction kvs with
  | nil => exact fun _ => List.nodup_cons.mpr ⟨List.not_mem_nil, .nil⟩
  | cons p r ih =>
    intro h
    have hn := List.nodup_cons.mp h
    by_cases q : p.1 = k
    · subst q; rw [show p :: r = (p.1, p.2) :: r from rfl, stored_eq hn.1]; exact h
    · rw [show p :: r = (p.1, p.2) :: r from rfl, stored_ne q]; exact List.nodup_cons.mpr ⟨stored_keys q hn.1, ih hn.2⟩
theorem dset_at {r : V → Value → Prop} {k : K} {v : V} {y : Value} (x : r v y) {es : List (K × V)} {kvs : List (K × Value)} (h : All2 (Kv r) es kvs) : (kvs.map (·.1)).Nodup → All2 (Kv r) (dset k v es) (stored kvs k y) := by
  induction h with
  | nil => exact fun _ => .cons (.mk x) .nil
  | cons z zs ih =>
    intro hn
    have hn := List.nodup_cons.mp hn
    induction z with | @mk k₁ a b z =>
    unfold dset
    by_cases q : k = k₁
    · subst q; rw [stored_eq hn.1, if_pos rfl]; exact .cons (.mk x) zs
    · rw [stored_ne fun e => q e.symm, if_neg q]; exact .cons (.mk z) (ih hn.2)
theorem stored_length (k : K) (y : Value) (kvs : List (K × Value)) : (stored kvs k y).length ≤ kvs.length + 1 := by
  unfold stored
  split
  · rw [List.length_map]; exact Nat.le_succ _
  · rw [List.length_append]; exact Nat.le_refl _
theorem KV.tr {G : Gd} {O : Addr → Prop} {s s' : Shared} {v : V} {Q : Value → Shared → Prop} (hQ : KV G O s v Q) (st : St G s s') : KV G O s' v Q := fun y s'' st' r => hQ y s'' (st.trans st') r
theorem KO.tr {G : Gd} {O : Addr → Prop} {s s' : Shared} {v : V} {Q : Value → Shared → Prop} (hQ : KO G O s v Q) (st : St G s s') : KO G O s' v Q := fun y s'' st' r => hQ y s'' (st.trans st') (r.back st.inv st)
theorem KV.b {G : Gd} {O : Addr → Prop} {s s' : Shared} {v : V} {Q : Value → Shared → Prop} (hQ : KV G O s v Q) (st : St G s s') : KB G s' v fun b => Q (.bool b) := fun b s'' st' e => hQ _ s'' (st.trans st') (e ▸ .bool b)
section
variable (G : Gd) (c : Cx) (k : Nat) (T : Tx)
noncomputable def KW (G : Gd) (O : Addr → Prop) (s : Shared) (f : V → Option V) (v : V) (Q : Value → Shared → Prop) : Prop := ∀ u y s', St G s s' → VW G O s'.heap u y → f u = some v → Q y s'
noncomputable def KW2 (G : Gd) (O : Addr → Prop) (s : Shared) (f : V → V → Option V) (v : V) (Q : Value → Value → Shared → Prop) : Prop := ∀ u w x y s', St G s s' → VW G O s'.heap u x → VW G O s'.heap w y → f u w = some v → Q x y s'
noncomputable def KR2 (G : Gd) (O : Addr → Prop) (s : Shared) (f : V → V → Option V) (v : V) (Q : Value → Value → Shared → Prop) : Prop := ∀ u w x y s', St G s s' → VR G O s'.heap u x → VR G O s'.heap w y → f u w = some v → Q x y s'
noncomputable def SEo (e : Expr) (t : E) : Prop :=
  ∀ {A : Around} {env : Env} {m : Fr} {s : Shared} {O : Addr → Prop} {v : V} {Q : Value → Shared → Prop} {X : Value → Shared → Prop}, At G k T A env m O s → NE m (esc t) → ev c m t = some v → KO G O s v Q → wpAny (model G.prog G.w) A (eval e env) Q X s
noncomputable def SA (e : Expr) (f : V → Option V) (t : E) : Prop :=
  ∀ {A : Around} {env : Env} {m : Fr} {s : Shared} {O : Addr → Prop} {v : V} {Q : Value → Shared → Prop} {X : Value → Shared → Prop}, At G k T A env m O s → NE m (esc t) → ev c m t = some v → KW G O s f v Q → wpAny (model G.prog G.w) A (eval e env) Q X s
noncomputable def SA2 (e e' : Expr) (f : V → V → Option V) (t : E) : Prop :=
  ∀ {A : Around} {env : Env} {m : Fr} {s : Shared} {O : Addr → Prop} {v : V} {Q : Value → Value → Shared → Prop} {X : Value → Shared → Prop}, At G k T A env m O s → NE m (esc t) → ev c m t = some v → KW2 G O s f v Q → wpAny (model G.prog G.w) A (eval e env) (fun x s₁ => wpAny (model G.prog G.w) A (eval e' env) (fun y s₂ => Q x y s₂) X s₁) X s
noncomputable def SR2 (e e' : Expr) (f : V → V → Option V) (t : E) : Prop :=
  ∀ {A : Around} {env : Env} {m : Fr} {s : Shared} {O : Addr → Prop} {v : V} {Q : Value → Value → Shared → Prop} {X : Value → Shared → Prop}, At G k T A env m O s → NE m (esc t) → ev c m t = some v → KR2 G O s f v Q → wpAny (model G.prog G.w) A (eval e env) (fun x s₁ => wpAny (model G.prog G.w) A (eval e' env) (fun y s₂ => Q x y s₂) X s₁) X s
noncomputable def SIn (e e' : Expr) (t : E) : Prop :=
  ∀ {A : Around} {env : Env} {m : Fr} {s : Shared} {O : Addr → Prop} {v : V} {Q : Value → Value → Shared → Prop} {X : Value → Shared → Prop}, At G k T A env m O s → NE m (esc t) → ev c m t = some v → KW2 G O s inV v (fun d q => Q q d) → wpAny (model G.prog G.w) A (eval e env) (fun x s₁ => wpAny (model G.prog G.w) A (eval e' env) (fun y s₂ => Q x y s₂) X s₁) X s
end
section
variable {G : Gd} {c : Cx} {k : Nat} {T : Tx} {e e' e₁ e₂ : Expr} {t t' t₁ t₂ ta tb : E} {f : V → Option V} {g : V → V → Option V}
theorem SEo.se (h : SEo G c k T e t) : SE G c k T e t := fun a ne hv hQ => h a ne hv fun y s' st r => hQ y s' st (r.vr a.er.ox)
theorem sa_of (h : SE G c k T e t) : SA G c k T e f (.p1 f t) := fun a ne hv hQ => obind hv fun u hu hv => h a ne hu fun y s' st r => hQ u y s' st r.w hv
theorem sa_var {x : Str} {i : Nat} {p : Pos} (n : NmOk T x i) : SA G c k T (.Name x p) f (.pv f i) := fun a ne hv hQ => obind hv fun u hu hv => obind hu fun sl hm hu => name_any a n hm fun y _ r => hQ u y _ (.refl a.inv) (r.view hu) hv
theorem sr2 (ha : SE G c k T e ta) (hb : SE G c k T e' tb) : SR2 G c k T e e' g (.p2 g ta tb) := fun a ne hv hQ => obind hv fun u hu hv => obind hv fun w hw hv =>
  ha a ne.l hu fun x s₁ st rx => hb (a.step st) ne.r hw fun y s₂ st' ry => hQ u w x y s₂ (st.trans st') (rx.step st.inv st') ry hv
theorem sa2_of (h : SR2 G c k T e e' g t) : SA2 G c k T e e' g t := fun a ne hv hQ => h a ne hv fun u w x y s' st rx ry h => hQ u w x y s' st rx.w ry.w h
theorem sa2_var {x : Str} {i : Nat} {p : Pos} (n : NmOk T x i) (hb : SE G c k T e' tb) : SA2 G c k T (.Name x p) e' g (.pe g i tb) := fun a ne hv hQ => obind hv fun u hu hv => obind hu fun sl hm hu => obind hv fun w hw hv =>
  name_any a n hm fun x _ rx => hb a ne hw fun y s₂ st' ry => hQ u w x y s₂ st' ((rx.view hu).step a.inv st') ry.w hv
theorem sin_of (ha : SE G c k T e ta) (hb : SE G c k T e' tb) : SIn G c k T e' e (.p2 inV ta tb) := fun a ne hv hQ => obind hv fun u hu hv => obind hv fun w hw hv =>
  hb a ne.r hw fun y s₁ st ry => ha (a.step st) ne.l hu fun x s₂ st' rx => hQ u w x y s₂ (st.trans st') rx.w (ry.step st.inv st').w hv
theorem sin_var {x : Str} {i : Nat} {p : Pos} (n : NmOk T x i) (hb : SE G c k T e' tb) : SIn G c k T e' (.Name x p) (.pe inV i tb) := fun a ne hv hQ => obind hv fun u hu hv => obind hu fun sl hm hu => obind hv fun w hw hv =>
  hb a ne hw fun y s₁ st ry => name_any (a.step st) n hm fun x _ rx => hQ u w x y s₁ st (rx.view hu) ry.w hv
theorem seo_bin {op : Operator} {p : Pos} (h : SR2 G c k T e e' (binV op) t) : SEo G c k T (.BinOp e op e' p) t := fun a ne hv hQ => wpAny_BinOp (h a ne hv fun u w x y s' st rx ry h => ok_bin st.inv (a.step st).er.ox rx ry h (hQ.tr st))
theorem se_neg {p : Pos} (h : SA G c k T e negV t) : SE G c k T (.UnaryOp .USub e p) t := fun a ne hv hQ => wpAny_UnaryOp (h a ne hv fun u y s' st r h => ok_neg st.inv r h (hQ.tr st))
theorem se_inv {p : Pos} (h : SA G c k T e invV t) : SE G c k T (.UnaryOp .Invert e p) t := fun a ne hv hQ => wpAny_UnaryOp (h a ne hv fun u y s' st r h => ok_inv st.inv r h (hQ.tr st))
theorem se_cmp {op : CmpOp} {p : Pos} (hm : behindInMarks op e' = false) (h : SR2 G c k T e e' (cmpV op) t) : SE G c k T (.Compare e [op] [e'] p) t := fun a ne hv hQ => wpAny_Compare1 (h a ne hv fun u w x y s' st rx ry h => ok_cmp a.room st.inv rx ry h (hQ.b st)) hm
theorem tr_bool {v : V} {b d : Bool} (h : truth v = some b) (e : v = .bool d) : d = b := Option.some.inj (show truth (.bool d) = some b from e ▸ h)
theorem sb_cmp {op : CmpOp} {p : Pos} (hm : behindInMarks op e' = false) (h : SR2 G c k T e e' (cmpV op) t) : SB G c k T (.Compare e [op] [e'] p) t := fun a ne hv ht hQ => wpAny_isTrue_Compare1 (h a ne hv fun u w x y s' st rx ry h => ok_cmp a.room st.inv rx ry h fun d s'' st' e => wpAny_truthy_bool (tr_bool ht e ▸ hQ s'' (st.trans st'))) hm
theorem sb_in {p : Pos} (hm : behindInMarks .In e' = false) (h : SIn G c k T e e' t) : SB G c k T (.Compare e [.In] [e'] p) t := fun a ne hv ht hQ => wpAny_isTrue_Compare1 (h a ne hv fun u w x y s' st rx ry h => ok_in st.inv rx ry h fun d s'' st' e => wpAny_truthy_bool (tr_bool ht e ▸ hQ s'' (st.trans st'))) hm
theorem sb_value (he : ∀ env whole, isTrue e env whole = (do let v ← whole; standAt e.pos; holding [v] (truthy v))) (h : SE G c k T e t) : SB G c k T e t := fun a ne hv ht hQ => wpAny_isTrue_value (h a ne hv fun y s' st r => ok_truth st.inv r.w ht fun s'' st' => hQ s'' (st.trans st')) (he _ _)
theorem sb_not {p : Pos} (h : SB G c k T e t) : SB G c k T (.UnaryOp .Not e p) (.p1 notV t) := fun {A env m s O v b Q X} a ne hv ht hQ => obind hv fun u hu hv => omap (C := fun v => truth v = some b → _) hv (fun z hz ht => wpAny_isTrue_Not (h a ne hu hz fun s' st => Option.some.inj ht ▸ hQ s' st)) ht
theorem sb_or {p : Pos} (h : SB G c k T e t) (h' : SB G c k T e' t') : SB G c k T (.BoolOp .Or [e, e'] p) (.or t t') := fun {A env m s O v b Q X} a ne hv ht hQ => obind hv fun u hu hv => obind hv fun z hz hv => by
  refine wpAny_isTrue_BoolOp (wpAny_allTrue_Or_cons (h a ne.l hu hz fun s' st => ?_))
  induction z with
  | true => exact (show Q true s' from Option.some.inj ((congrArg truth (Option.some.inj hv)).trans ht) ▸ hQ s' st)
  | false =>
    refine obind hv fun w hw hv => omap (C := fun v => truth v = some b → _) hv (fun d hd ht => ?_) ht
    refine wpAny_allTrue_Or_cons (h' (a.step st) ne.r hw hd fun s'' st' => ?_)
    have e := Option.some.inj ht
    subst e
    induction d with
    | true => exact hQ s'' (st.trans st')
    | false => exact wpAny_allTrue_Or_nil (hQ s'' (st.trans st'))
theorem se_ite {p : Pos} (h : SB G c k T e t) (h1 : SE G c k T e₁ t₁) (h2 : SE G c k T e₂ t₂) : SE G c k T (.IfExp e e₁ e₂ p) (.ite t t₁ t₂) := fun a ne hv hQ => obind hv fun u hu hv => obind hv fun z hz hv => by
  refine wpAny_IfExp (h a ne.l hu hz fun s' st => ?_)
  induction z with
  | true => exact h1 (a.step st) ne.r.l hv (hQ.tr st)
  | false => exact h2 (a.step st) ne.r.r hv (hQ.tr st)
theorem SEs.run {es : List Expr} {ts : Es} (h : SEs G c k T es ts) : ∀ {pos : Pos} {A : Around} {env : Env} {m : Fr} {s : Shared} {O : Addr → Prop} {vs : List V} {Q : List Value → Shared → Prop} {X : Value → Shared → Prop}, At G k T A env m O s → NE m (escs ts) → evs c m ts = some vs →
    (∀ ys s', St G s s' → ys.length = es.length → VRs G O s'.heap vs ys → Q ys s') → wpAny (model G.prog G.w) A (spliced (backTo pos (starEach es env))) Q X s := by
  induction h with
  | nil => exact fun a _ hv hQ => Calls.spliced_nil (hQ [] _ (.refl a.inv) rfl (Option.some.inj hv ▸ .nil))
  | cons n h _ ih =>
    intro pos A env m s O vs Q X a ne hv hQ
    refine obind hv fun v hv1 hv => omap (C := fun vs => (∀ ys s', St G s s' → ys.length = _ → VRs G O s'.heap vs ys → Q ys s') → _) hv (fun ws hw hQ => ?_) hQ
    rw [n]
    exact Calls.spliced_cons (h a ne.l hv1 fun y s₁ st ry => ih (a.step st) ne.r hw fun ys s₂ st' l rys => hQ _ s₂ (st.trans st') (congrArg (· + 1) l) (.cons (ry.step st.inv st') rys))
inductive Plain : List Expr → Prop
  | nil : Plain []
  | cons {e : Expr} {es : List Expr} (n : Ns e) (r : Plain es) : Plain (e :: es)
theorem SEs.plain {es : List Expr} {ts : Es} (h : SEs G c k T es ts) : Plain es := by
  induction h with
  | nil => exact .nil
  | cons n _ _ ih => exact .cons n ih
theorem few {es : List Expr} {ys : List Value} (hl : decide (es.length ≤ 1000) = true) (h : ys.length = es.length) : ys.length ≤ big := h ▸ Nat.le_trans (of_decide_eq_true hl) (by decide)
theorem se_tup {es : List Expr} {ts : Es} {n : Nat} {p : Pos} (hl : decide (es.length ≤ 1000) = true) (h : SEs G c k T es ts) : SE G c k T (.Tuple es n p) (.pn tupN ts) := fun a ne hv hQ => obind hv fun vs hvs hv =>
  Tuple_ (h.run a ne hvs fun ys s' st l r => ok_newTuple st.inv (a.step st).er.ox r (few hl l) (Option.some.inj hv ▸ hQ.tr st))
theorem seo_lst {es : List Expr} {ts : Es} {p : Pos} (hl : decide (es.length ≤ 1000) = true) (h : SEs G c k T es ts) : SEo G c k T (.List es p) (.pn lstN ts) := fun a ne hv hQ => obind hv fun vs hvs hv =>
  List_ (h.run a ne hvs fun ys s' st l r => ok_newList st.inv r (few hl l) (Option.some.inj hv ▸ hQ.tr st))
noncomputable def Sbs (sl : Expr) : Prop := ∀ o i, ∃ ops, subscripted sl false o i = operate ops (getItem o i)
theorem sub_tail {A : Around} {value slice : Expr} {s : Shared} {x y : Value} {Q X : Value → Shared → Prop} (hs : Sbs slice) (h : HasItem s x) (hg : wpAny (model G.prog G.w) A (getItem x y) Q X s) : wpAny (model G.prog G.w) A (subscriptTail value slice x y) Q X s := by
  obtain ⟨ops, ho⟩ := hs x y
  induction h with | mk h1 h2 => exact tail_any h1 h2 hg ho
theorem se_sub {p : Pos} (hs : Sbs e') (h : SA2 G c k T e e' subV t) : SE G c k T (.Subscript e e' p) t := fun a ne hv hQ => Subscript_ (h a ne hv fun u w x y s' st rx ry h => sub_tail hs (sub_type rx h) (ok_sub st.inv rx ry h (hQ.tr st)))
theorem cutTo_type {s : Shared} {O : Addr → Prop} {v j u : V} {x : Value} (r : VW G O s.heap v x) (h : cutTo v j = some u) : HasItem s x := by
  induction r with
  | list r => exact ⟨lst_type r, slot_list_getitem.lookup⟩
  | tup r => exact ⟨tup_type r, F.slot_tuple_getitem.lookup⟩
  | _ => exact nos h
theorem cutFrom_type {s : Shared} {O : Addr → Prop} {v j u : V} {x : Value} (r : VW G O s.heap v x) (h : cutFrom v j = some u) : HasItem s x := by
  induction r with
  | list r => exact ⟨lst_type r, slot_list_getitem.lookup⟩
  | tup r => exact ⟨tup_type r, F.slot_tuple_getitem.lookup⟩
  | _ => exact nos h
theorem se_cutTo {ps p : Pos} (hs : Sbs (.Slice none (some e') none ps)) (ha : SE G c k T e ta) (hb : SE G c k T e' tb) : SE G c k T (.Subscript e (.Slice none (some e') none ps) p) (.p2 cutTo ta tb) := fun a ne hv hQ => obind hv fun u hu hv => obind hv fun w hw hv =>
  Subscript_ (ha a ne.l hu fun x s₁ st rx => wpAny_Slice (wpAny_evalPart_none (wpAny_evalPart_some (hb (a.step st) ne.r hw fun y s₂ st' ry => wpAny_evalPart_none
    (have st'' := St.push st'.inv { cls := .type "slice", data := .fields #[.none, y, .none] } s₂.toks
     have rx' := rx.step st.inv (st'.trans st'')
     sub_tail hs (cutTo_type rx'.w hv) (ok_cutTo st''.inv (((a.step st).step st').step st'').er.ox rx' (ry.step st'.inv st'').w (Heap.IsSliceOf.new ..) hv (hQ.tr ((st.trans st').trans st''))))))))
theorem se_cutFrom {ps p : Pos} (hs : Sbs (.Slice (some e') none none ps)) (ha : SE G c k T e ta) (hb : SE G c k T e' tb) : SE G c k T (.Subscript e (.Slice (some e') none none ps) p) (.p2 cutFrom ta tb) := fun a ne hv hQ => obind hv fun u hu hv => obind hv fun w hw hv =>
  Subscript_ (ha a ne.l hu fun x s₁ st rx => wpAny_Slice (wpAny_evalPart_some (hb (a.step st) ne.r hw fun y s₂ st' ry => wpAny_evalPart_none (wpAny_evalPart_none
    (have st'' := St.push st'.inv { cls := .type "slice", data := .fields #[y, .none, .none] } s₂.toks
     have rx' := rx.step st.inv (st'.trans st'')
     sub_tail hs (cutFrom_type rx'.w hv) (ok_cutFrom st''.inv (((a.step st).step st').step st'').er.ox rx' (ry.step st'.inv st'').w (Heap.IsSliceOf.new ..) hv (hQ.tr ((st.trans st').trans st''))))))))
theorem evalArgs_any {M : Model} {A : Around} {X : Value → Shared → Prop} {s : Shared} {env : Env} {pos : Pos} {f : Value} {es : List Expr} (pl : Plain es) {Q : Args → Shared → Prop} (h : wpAny M A (spliced (backTo pos (starEach es env))) (fun vs s' => Q ⟨vs, []⟩ s') X s) :
    wpAny M A (evalArgs f true (backTo pos (starEach es env)) []) Q X s := by
  induction pl with
  | nil =>
    unfold evalArgs
    show wpAny M A (spliced [] >>= _) Q X s
    exact wpAny_bind (wpAny_mono h (fun vs s' h' => wpAny_holding (wpAny_bind (wpAny_pure (wpAny_bind (wpAny_pure (wpAny_pure h')))))) fun _ _ x => x)
  | cons n _ => rw [n] at h ⊢; exact Calls.evalArgs_plain h
theorem plain_trees {pos : Pos} {env : Env} {es : List Expr} (pl : Plain es) : (backTo pos (starEach es env)).any (·.1) = false := by
  induction pl with
  | nil => rfl
  | cons n _ ih => rw [n, List.any_cons, ih]; rfl
theorem few_trees {pos : Pos} {env : Env} {es : List Expr} (pl : Plain es) : (backTo pos (starEach es env)).all (fun x => !x.1) = true := by
  induction pl with
  | nil => rfl
  | cons n _ ih => rw [n, List.all_cons, ih]; rfl
theorem se_call {f : Str} {pf p : Pos} {es : List Expr} {ts : Es} {n : Nat} (bs : Bs G c k T) (gn : GnOk T f) (hn : T.gl[n]? = some f) (h : SEs G c k T es ts) : SE G c k T (.Call (.Name f pf) es [] p) (.call n ts) := fun {A env m s O v Q X} a ne hv hQ => obind hv fun vs hvs hv => by
  obtain ⟨fa, hf, hcall⟩ := bs.call n vs v f hv hn
  obtain ⟨o, fd, e0, hc, hd⟩ := hf.obj
  exact wpAny_Call_ofName (name_global a gn (Calls.loadGlobal_global (mg := G.mg) (a.eo.glob ▸ a.inv.glob) hf.glob (Calls.callWith_function (o := o) (fd := fd) (evalArgs_any h.plain (h.run a ne hvs fun ys s₁ st _ rys =>
    ⟨⟨old_func st.inv.old e0 hd hc, hd⟩, wpAny_call (hcall a.room st.inv (a.step st).er.ox rys fun y s' st' r => hQ y s' (st.trans st') r)⟩)))))
inductive Bi : Value → Prop
  | b (id : String) : Bi (.builtin id)
  | t (n : String) : Bi (.type n)
theorem bi_any {A : Around} {env : Env} {m : Fr} {O : Addr → Prop} {s : Shared} {Q X : Value → Shared → Prop} (bs : Bs G c k T) (a : At G k T A env m O s) {f : Str} {b : Value} (n : BN T f b) (hb : Bi b) {pf p : Pos} {es : List Expr} (pl : Plain es)
    (h : wpAny (model G.prog G.w) A (spliced (backTo p (starEach es env))) (fun vs s₁ => wpAny (model G.prog G.w) A (call b vs []) Q X s₁) X s) : wpAny (model G.prog G.w) A (eval (.Call (.Name f pf) es [] p) env) Q X s := by
  refine wpAny_Call_ofName (name_bi bs a n ?_)
  induction hb with
  | b id => exact Calls.callWith_builtin (plain_trees pl) (evalArgs_any pl h)
  | t id => exact PyProof.Rows.callWith_type (plain_trees pl) (evalArgs_any pl h)
theorem spl1 {M : Model} {A : Around} {X : Value → Shared → Prop} {s : Shared} {env : Env} {pos : Pos} (n : Ns e) {Q : List Value → Shared → Prop} (h : wpAny M A (eval e env) (fun v s₁ => Q [v] s₁) X s) : wpAny M A (spliced (backTo pos (starEach [e] env))) Q X s := by
  rw [n]; exact Calls.spliced_cons (wpAny_mono h (fun v s₁ h₁ => Calls.spliced_nil h₁) fun _ _ x => x)
theorem spl2 {M : Model} {A : Around} {X : Value → Shared → Prop} {s : Shared} {env : Env} {pos : Pos} (n : Ns e) (n' : Ns e') {Q : List Value → Shared → Prop} (h : wpAny M A (eval e env) (fun v s₁ => wpAny M A (eval e' env) (fun u s₂ => Q [v, u] s₂) X s₁) X s) : wpAny M A (spliced (backTo pos (starEach [e, e'] env))) Q X s := by
  rw [n]; exact Calls.spliced_cons (wpAny_mono h (fun v s₁ h₁ => spl1 n' h₁) fun _ _ x => x)
noncomputable def Ok1 (G : Gd) (k : Nat) (b : Value) (f : V → Option V) : Prop := ∀ {A O s u y v Q} {X : Value → Shared → Prop}, Room A k → Inv G s → OX G O s.heap → VW G O s.heap u y → f u = some v → KV G O s v Q → wpAny (model G.prog G.w) A (call b [y] []) Q X s
noncomputable def Ok2 (G : Gd) (k : Nat) (b : Value) (f : V → V → Option V) : Prop := ∀ {A O s u w x y v Q} {X : Value → Shared → Prop}, Room A k → Inv G s → OX G O s.heap → VW G O s.heap u x → VW G O s.heap w y → f u w = some v → KV G O s v Q → wpAny (model G.prog G.w) A (call b [x, y] []) Q X s
theorem ok1_len : Ok1 G k (.builtin "len") lenV := fun _ i _ r h hQ => ok_len i r h hQ
theorem ok1_sum : Ok1 G k (.builtin "sum") sumV := fun hr i _ r h hQ => ok_sum hr i r h hQ
theorem ok1_tup : Ok1 G k (.type "tuple") tupV := fun _ i ox r h hQ => ok_tup i ox r h hQ
theorem ok1_range : Ok1 G k (.type "range") (rngV (.int 0)) := fun _ i ox r h hQ => ok_range1 i ox r h hQ
theorem ok2_divmod : Ok2 G k (.builtin "divmod") divmV := fun _ i ox r q h hQ => ok_divm i ox r q h hQ
theorem ok2_range : Ok2 G k (.type "range") rngV := fun _ i ox r q h hQ => ok_range2 i ox r q h hQ
theorem se_bi1 {x : Str} {b : Value} {pf p : Pos} (bs : Bs G c k T) (hb : Bi b) (ok : Ok1 G k b f) (n : BN T x b) (ns : Ns e) (h : SA G c k T e f t) : SE G c k T (.Call (.Name x pf) [e] [] p) t := fun a ne hv hQ =>
  bi_any bs a n hb (.cons ns .nil) (spl1 ns (h a ne hv fun u y s' st r h => ok a.room st.inv (a.step st).er.ox r h (hQ.tr st)))
theorem se_bi2 {x : Str} {b : Value} {pf p : Pos} (bs : Bs G c k T) (hb : Bi b) (ok : Ok2 G k b g) (n : BN T x b) (ns : Ns e) (ns' : Ns e') (h : SA2 G c k T e e' g t) : SE G c k T (.Call (.Name x pf) [e, e'] [] p) t := fun a ne hv hQ =>
  bi_any bs a n hb (.cons ns (.cons ns' .nil)) (spl2 ns ns' (h a ne hv fun u w y z s' st r q h => ok a.room st.inv (a.step st).er.ox r q h (hQ.tr st)))
theorem se_isTup {x y : Str} {pf p pt : Pos} (bs : Bs G c k T) (n : BN T x (.builtin "isinstance")) (n' : BN T y (.type "tuple")) (ns : Ns e) (ns' : Ns (.Name y pt)) (h : SA G c k T e isTupV t) : SE G c k T (.Call (.Name x pf) [e, .Name y pt] [] p) t := fun a ne hv hQ =>
  bi_any bs a n (.b _) (.cons ns (.cons ns' .nil)) (spl2 ns ns' (h a ne hv fun u y s' st r h => name_bi bs (a.step st) n' (ok_isTup st.inv r h (hQ.tr st))))
noncomputable def Nc (o : Expr) : Prop := ∀ (name : Str) env, attributeBase o name env (eval o env) = eval o env
inductive Mth (s : Shared) (name : Str) (x : Value) (id : String) : Prop
  | mk {TT : String} (pa : PlainAttrs TT) (sl : PySem.Slot TT name id) (ty : typeOf (.builtin id) = pure (.type "method_descriptor")) (hT : s.TypeIs x TT) (hd : ∀ a, x = .ref a → ∃ ob, s.heap.get? a = some ob ∧ ob.dict = none)
theorem method_any {A : Around} {env : Env} {s : Shared} {o : Expr} {name : Str} {ap p : Pos} {es : List Expr} {Q X : Value → Shared → Prop} (hl : (ap.endLine == p.line) = true) (hc : Nc o) (pl : Plain es) (hlen : decide (es.length + 0 + 0 < 30) = true)
    (h : wpAny (model G.prog G.w) A (eval o env) (fun x s₁ => ∃ id, Mth s₁ name x id ∧ wpAny (model G.prog G.w) A (spliced (backTo p (starEach es env))) (fun vs s₂ => wpAny (model G.prog G.w) A (call (.builtin id) (x :: vs) []) Q X s₂) X s₁) X s) :
    wpAny (model G.prog G.w) A (eval (.Call (.Attribute o name ap) es [] p) env) Q X s := by
  refine wpAny_Call_method_late (hc name env) ?_ hl rfl (wpAny_mono h (fun x s₁ h₁ => ?_) fun _ _ x => x)
  · rw [few_trees pl]; exact hlen
  · obtain ⟨id, m, hh⟩ := h₁
    induction m with | mk pa sl ty hT hd => exact ⟨_, id, pa, sl, ty, hT, hd, Calls.callWith_builtin (plain_trees pl) (evalArgs_any pl hh)⟩
theorem se_bitlen {o : Expr} {ap p : Pos} (hl : (ap.endLine == p.line) = true) (hc : Nc o) (h : SA G c k T o bitlenV t) : SE G c k T (.Call (.Attribute o "bit_length" ap) [] [] p) t := fun {A env m s O v Q X} a ne hv hQ =>
  method_any hl hc .nil rfl (h a ne hv fun u y s' st r h => omap (C := fun v => KV G O s v Q → _) h (fun j hj hQ => by
    cases r.oi hj with | mk t =>
    exact ⟨_, ⟨F.plainAttrs_int, F.slot_int_bit_length, F.type_int_bit_length, typeIs_int _ _ _, fun _ e => Value.noConfusion e⟩, Calls.spliced_nil (call_int_bit_length (hQ _ _ (st.trans (.toks st.inv _)) (bits_eq j ▸ .int _ _)))⟩) hQ)
theorem lst_mth {s : Shared} {O : Addr → Prop} {a : Addr} {xs : List V} (r : LstA (VR G O s.heap) s.heap a xs) : ∀ b, Value.ref a = .ref b → ∃ ob, s.heap.get? b = some ob ∧ ob.dict = none := by
  induction r with | mk e => exact fun b q => Value.ref.inj q ▸ ⟨_, e, rfl⟩
theorem se_count {o x : Expr} {ap p : Pos} (hl : (ap.endLine == p.line) = true) (hc : Nc o) (n : Ns x) (ha : SE G c k T o ta) (hb : SE G c k T x tb) : SE G c k T (.Call (.Attribute o "count" ap) [x] [] p) (.p2 countV ta tb) := fun {A env m s O v Q X} a ne hv hQ => obind hv fun u hu hv => obind hv fun w hw hv =>
  method_any hl hc (.cons n .nil) rfl (ha a ne.l hu fun y s' st r => obind hv fun xs hx _ => by
    cases r.w.ol hx with | mk rl =>
    exact ⟨_, ⟨F.plainAttrs_list, F.slot_list_count, F.type_list_count, lst_type rl, lst_mth rl⟩, spl1 n (hb (a.step st) ne.r hw fun z s'' st' q => ok_count st'.inv (r.step st.inv st').w q.w hv (hQ.tr (st.trans st')))⟩)
end
theorem dct_kp {prog : Program} {w : World} {h h' : Heap} {a : Addr} {kvs : List (K × Value)} (x : h.DictOf (intKind prog w) a kvs) (k : ∀ o, h.get? a = some o → h'.get? a = some o) : h'.DictOf (intKind prog w) a kvs := by
  obtain ⟨o, es, ep, ho, r⟩ := x
  exact ⟨o, es, ep, k o ho, r⟩
section
variable {G : Gd} {O : Addr → Prop} {s s' s'' : Shared}
theorem notSys (i : Inv G s) : (s.heap.objs.size == sysModules) = false := by
  obtain ⟨mc, hn, _⟩ := i.nolim
  exact beq_false_of_ne (Nat.ne_of_gt (Nat.lt_trans (by decide) hn.lt))
theorem St.butNew (st : St G s s') (i : Inv G s) {W : Addr → Prop} {h' : Heap} (hW : ∀ b, W b → s.heap.get? b = none) (hc : ∀ b, W b → ∀ o, s'.heap.get? b = some o → ¬ Rec o)
    (k : ∀ b o, ¬ W b → s'.heap.get? b = some o → h'.get? b = some o) (tk : Nat) : St G s { s' with heap := h', toks := tk } :=
  have old : ∀ b o, s.heap.get? b = some o → ¬ W b := fun b o e w => nos ((hW b w).symm.trans e)
  ⟨st.inv.but (fun b w => i.new (hW b w)) (fun b w => i.freshNotTab (hW b w)) hc k tk, fun b o nt e => k b o (old b o e) (st.kp b o nt e), fun P pos v hP en => by
    have hw : ¬ W P := by induction en with | mk e _ => exact old P _ e
    induction st.tb P pos v hP en with | mk e hv => exact ⟨k P _ hw e, hv⟩⟩
theorem ER.more {F : Addr → Prop} {env : Env} {m : Fr} (i : Inv G s) (k : St G s s') (hF : ∀ a, F a → s.heap.get? a = none) (hx : ∀ a, F a → ∃ o, s'.heap.get? a = some o) (r : ER G O s.heap env m) : ER G (fun a => O a ∨ F a) s'.heap env m :=
  ⟨r.loc, fun a ha => ha.elim (r.ox.step k a) fun h => ⟨i.freshNotTab (hF a h), hx a h⟩, fun x hx => (r.cel x hx).step k, fun x sl h1 h2 => by
    obtain ⟨y, v, q⟩ := r.var x sl h1 h2
    exact ⟨y, v.step r.loc k, q.map (k.vkM i hF) (fun a o _ _ e hc => k.kp a o (i.notTab e hc) e) k.tb⟩⟩
theorem At.more {F : Addr → Prop} {k : Nat} {T : Tx} {A : Around} {env : Env} {m : Fr} (a : At G k T A env m O s) (st : St G s s') (hF : ∀ a, F a → s.heap.get? a = none) (hx : ∀ a, F a → ∃ o, s'.heap.get? a = some o) : At G k T A env m (fun a => O a ∨ F a) s' :=
  ⟨a.room, st.inv, a.eo, a.er.more a.inv st hF hx⟩
theorem one_there (h : Heap) {o : Obj} (hf : o.isFreed = false) : ∀ a, a = h.objs.size → ∃ o', (h.push o).get? a = some o' := fun a e => e ▸ ⟨o, Heap.get?_push_size _ hf⟩
end
section
variable {G : Gd} {c : Cx} {k : Nat} {T : Tx} {ke ve : Expr} {tk tv : E}
theorem seo_dct0 {p : Pos} (bs : Bs G c k T) : SEo G c k T (.Dict [] [] p) (.dct .nil .nil) := fun a ne hv hQ =>
  wpAny_Dict_empty (hQ _ _ (St.push a.inv _ _) (Option.some.inj hv ▸ bs.gen ▸ .d (get_size _) ⟨notSys a.inv, Heap.DictOf.new _, Nat.zero_le _, .nil⟩))
theorem seo_dct1 {p : Pos} (bs : Bs G c k T) (hk : SE G c k T ke tk) (hv : SE G c k T ve tv) : SEo G c k T (.Dict [some ke] [ve] p) (.dct (.cons tk .nil) (.cons tv .nil)) := fun {A env m s O v Q X} a ne he hQ => by
  refine obind he fun kv h1 he => obind h1 fun k0 e1 h1 => obind he fun vv h2 he => obind h2 fun v0 e2 h2 => ?_
  cases Option.some.inj h1
  cases Option.some.inj h2
  refine omap (C := fun v => KO G O s v Q → _) he (fun ks hks hQ => ?_) hQ
  refine obind hks fun q hq hks => ?_
  cases Option.some.inj hks
  have st0 := St.push a.inv { cls := .type "dict", data := .dict #[] } s.toks
  have a' := a.more (F := fun b => b = s.heap.objs.size) st0 (one_fresh _) (one_there _ rfl)
  refine wpAny_Dict_pairs (knd := intKind G.prog G.w) (pairs := [(eval ke env, do let x ← eval ve env; standAt p; pure x)]) rfl (fun h => List.noConfusion rfl (heq_of_eq h)) (show 1 ≤ 15 by decide) ?_
  unfold evalPairs
  refine wpAny_bind (hk a' ne.l.l e1 fun x s₁ st1 rx => wpAny_bind (wpAny_holding (wpAny_bind (hv (a'.step st1) ne.r.l e2 fun y s₂ st2 ry => wpAny_bind (wpAny_standAt (wpAny_pure ?_))))))
  refine wpAny_bind (wpAny_holding ?_)
  unfold evalPairs
  refine wpAny_pure (wpAny_pure ⟨[(q, y)], ⟨(rx.w.key hq), rfl, trivial⟩, ?_, fun h' hd hs => ?_⟩)
  · exact dct_kp (Heap.DictOf.new s.heap) fun o e => (st1.trans st2).kp _ o (a.inv.freshNotTab (get_size _)) e
  · have st3 := ((st0.trans st1).trans st2).butNew (W := fun b => b = s.heap.objs.size) (h' := h') a.inv (one_fresh _) (fun b hb o e => by
        subst hb
        have e' := Option.some.inj (e.symm.trans ((st1.trans st2).kp _ _ (a.inv.freshNotTab (get_size _)) (Heap.get?_push_size _ rfl)))
        subst e'
        exact fun h => by obtain ⟨h, _⟩ := h; injection h with h; exact absurd h (by decide)) (fun b o hb e => hs.extBut b o hb e)
    exact hQ _ _ (st3 _) (bs.gen ▸ .d (get_size _) ⟨notSys a.inv, hd, Nat.le_trans (show 1 ≤ 1 from Nat.le_refl _) (by decide), .cons (.mk (ry.mono fun b o e _ no => ⟨no, hs.extBut b o (fun h => no (.inr h)) e⟩)) .nil⟩)
end
theorem map_get {α β : Type} {f : α → β} {l : List α} {i : Nat} {b : β} {C : β → Prop} (h : (l.map f)[i]? = some b) (k : ∀ a, l[i]? = some a → C (f a)) : C b := omap (List.getElem?_map.symm.trans h) k
theorem kv_at {r : V → Value → Prop} {es : List (K × V)} {kvs : List (K × Value)} (h : All2 (Kv r) es kvs) {i : Nat} {p : K × V} {q : K × Value} (e : es[i]? = some p) (e' : kvs[i]? = some q) : p.1 = q.1 ∧ r p.2 q.2 := by
  have x := h.at e e'
  induction x with | mk x => exact ⟨rfl, x⟩
section
variable {G : Gd} {c : Cx} {k : Nat} {T : Tx} {O : Addr → Prop} {s s' : Shared}
theorem vkey_vr {h : Heap} {q : K} {v : Value} (e : (intKind G.prog G.w).is q v = true) : VR G O h (vKey q) v := by
  cases v with
  | int i t => exact (show i = q from eq_of_beq e) ▸ .int i t
  | _ => exact Bool.noConfusion e
theorem dct_mth {a : Addr} {es : List (K × V)} (r : DctA (VR G O s.heap) s.heap a G es) : ∀ b, Value.ref a = .ref b → ∃ ob, s.heap.get? b = some ob ∧ ob.dict = none := by
  induction r with | mk ns of =>
  obtain ⟨o, des, ep, ho, hc, _⟩ := of
  exact fun b q => Value.ref.inj q ▸ ⟨o, ho, hc.2.1⟩
theorem fresh_ge (ox : OX G O s.heap) {b : Addr} (h : s.heap.objs.size ≤ b) : ¬ O b := ox.new (Heap.get?_none_of_le h)
theorem dictAt_of {prog : Program} {w : World} {h : Heap} {a : Addr} {kvs : List (K × Value)} {C : Prop} (x : h.DictOf (intKind prog w) a kvs) (k : ∀ ep o, h.get? a = some o → o.cls = .type "dict" → h.DictAt (intKind prog w) a kvs ep → C) : C := by
  obtain ⟨o, es, ep, ho, hc, r⟩ := x
  exact k ep o ho hc.1 ⟨o, es, ho, hc, r⟩
theorem se_listI {f : Str} {pf p ap pc : Pos} {o : Expr} {t : E} (bs : Bs G c k T) (n : BN T f (.type "list")) (hl : (ap.endLine == pc.line) = true) (hc : Nc o) (ns : Ns (.Call (.Attribute o "items" ap) [] [] pc)) (h : SE G c k T o t) :
    SE G c k T (.Call (.Name f pf) [.Call (.Attribute o "items" ap) [] [] pc] [] p) (.p1 listItems t) := fun {A env m s O v Q X} a ne hv hQ => obind hv fun u hu hv => by
  refine bi_any bs a n (.t _) (.cons ns .nil) (spl1 ns (method_any hl hc .nil rfl (h a ne hu fun x s₁ st rx => ?_)))
  refine omap (C := fun v => KV G O s v Q → _) hv (fun es he hQ => ?_) hQ
  cases rx.w.od he with | @mk b rd =>
  refine ⟨_, ⟨F.plainAttrs_dict, F.slot_dict_items, F.type_dict_items, dct_type rd, dct_mth rd⟩, Calls.spliced_nil ?_⟩
  have hT := dct_type rd
  cases rd with | @mk kvs ns of l rel =>
  refine call_meetsIn F.slot_dict_items hT F.entry_dict_items (F.args_dict_items_1 _) (meets_dict_items (intKind G.prog G.w) _ ns) ⟨⟨_, of⟩, ?_⟩
  have st2 := St.push st.inv { cls := .type "dict_items", data := .fields #[.ref b] } s₁.toks
  refine dictAt_of of fun ep o ho hc hat => ?_
  refine W.kdx_call (s := { s₁ with heap := s₁.heap.push { cls := .type "dict_items", data := .fields #[.ref b] } }) a.room.handled ⟨_, Heap.get?_push_size _ rfl, rfl, rfl⟩ (hat.push _) (Nat.le_trans l big_le) fun h' tk acc c' as keep hg hlen hG hacc => ?_
  have st3 := St.keeps st2.inv keep tk
  have st23 := st2.trans st3
  have ox2 := (a.step (st.trans st2)).er.ox
  have rel' := All2.imp (fun _ _ => kv_mono (st23.vk st.inv)) rel
  have al : acc.toList.length = kvs.length := by rw [hacc, List.length_map, hlen]
  refine hQ _ _ (st.trans st23) (.mkL (fresh_ge ox2 (Nat.le_refl _)) ⟨hg, al ▸ l, .of ((List.length_map ..).trans (rel.length.trans al.symm)) fun i v w ev ew => ?_⟩)
  rw [hacc] at ew
  refine map_get (C := fun v => VR G O h' v w) ev fun q eq => map_get (C := fun w => VR G O h' _ w) ew fun ta et => ?_
  obtain ⟨key, kx, x, e6, e7, e8⟩ := hG.pairs i ta et
  obtain ⟨e9, rx'⟩ := kv_at rel' eq e6
  exact .mkT (fresh_ge ox2 (Nat.le_of_lt (hG.above ta (List.mem_of_getElem? et)))) (.mk (ws := [key, x]) e8 (show 2 ≤ big by decide) (.cons (e9 ▸ vkey_vr e7) (.cons rx' .nil)))
end
inductive Tgt : Expr → Prop
  | name {x : Str} {p : Pos} : Tgt (.Name x p)
  | tup {es : List Expr} {k : Nat} {p : Pos} : Tgt (.Tuple es k p)
inductive TgT : Expr → Prop
  | tup {es : List Expr} {k : Nat} {p : Pos} : TgT (.Tuple es k p)
noncomputable def ownedNames : List String := ["enumerate", "zip", "dict_itemiterator", "dict_reverseitemiterator", "odict_iterator", "itertools.zip_longest", "itertools.pairwise"]
theorem letGo_plain {prog : Program} {w : World} {A : Around} {X : Value → Shared → Prop} {s : Shared} {target : Expr} {I : Addr} {o : Obj} {nm : String} {v : Value} {Q : Unit → Shared → Prop} (ht : Tgt target)
    (ho : s.heap.get? I = some o) (hc : o.cls = .type nm) (hn : ownedNames.contains nm = false) (h : Q () s) : wpAny (model prog w) A (letOwnedTupleGo target (.ref I) v) Q X s := by
  induction ht with
  | name => exact wpAny_pure h
  | tup =>
    induction v with
    | ref a =>
      refine wpAny_bind (wpAny_load ho ?_)
      rw [hc]
      cases o.data with
      | fields vs =>
        show wpAny _ _ (if (ownedNames.contains nm && _) = true then _ else _) _ _ _
        rw [hn]
        exact wpAny_pure h
      | _ => exact wpAny_pure h
    | _ => exact wpAny_pure h
noncomputable def Dn (G : Gd) (O₀ : Addr → Prop) (s : Shared) (b : Addr) : Prop := ¬ O₀ b ∧ ¬ G.Tab b ∧ ∃ o, s.heap.get? b = some o
noncomputable def Kw (wr : List Addr) (h h' : Heap) : Prop := ∀ b o, b ∉ wr → h.get? b = some o → h'.get? b = some o
noncomputable def Kd (D : Addr → Prop) (h h' : Heap) : Prop := ∀ b o, D b → h.get? b = some o → h'.get? b = some o
noncomputable def Src (D : Addr → Prop) (wr : List Addr) : Addr → Prop := fun a => ¬ (D a ∧ a ∉ wr)
noncomputable def KT (G : Gd) (O : Addr → Prop) (St : Nat → Heap → Prop) (wr : List Addr) (s : Shared) (i : Nat) (x : V) (Q : Value → Shared → Prop) : Prop := ∀ y h' tk, St (i + 1) h' → Kw wr s.heap h' → VR G O h' x y → Q y { s with heap := h', toks := tk }
structure Tn (G : Gd) (A : Around) (O : Addr → Prop) (target : Expr) (I : Addr) (wr : List Addr) (xs : List V) (St : Nat → Heap → Prop) : Prop where
  turn : ∀ {i : Nat} {x : V} {s : Shared} {Q : Value → Shared → Prop} {X : Value → Shared → Prop}, xs[i]? = some x → St i s.heap → OX G O s.heap →
    KT G O St wr s i x Q →
    wpAny (model G.prog G.w) A (pyNext (.ref I)) (fun r s₁ => ∃ y, r = some y ∧ wpAny (model G.prog G.w) A (letOwnedTupleGo target (.ref I) y) (fun _ s₂ => Q y s₂) X s₁) X s
  done : ∀ {s : Shared} {Q : Option Value → Shared → Prop} {X : Value → Shared → Prop}, St xs.length s.heap → (∀ h' tk, Kw wr s.heap h' → Q none { s with heap := h', toks := tk }) → wpAny (model G.prog G.w) A (pyNext (.ref I)) Q X s
  self : ∀ {i : Nat} {s : Shared} {Q : Value → Shared → Prop} {X : Value → Shared → Prop}, St i s.heap → Q (.ref I) s → wpAny (model G.prog G.w) A (pyIter (.ref I)) Q X s
inductive HasIt (G : Gd) (O₀ : Addr → Prop) (tp : Expr → Prop) (s₀ s₂ : Shared) (xs : List V) : Value → Prop
  | mk {I : Addr} {wr : List Addr} {St : Nat → Heap → Prop} (new : ∀ b ∈ wr, s₀.heap.get? b = none ∧ ∃ o, s₂.heap.get? b = some o) (st0 : St 0 s₂.heap)
    (frame : ∀ i h h', St i h → Kd (Dn G O₀ s₂) h h' → St i h') (cls : ∀ i h, St i h → ∀ b ∈ wr, ∃ o, h.get? b = some o ∧ o.cls ≠ .type "code")
    (tn : ∀ {A O target}, A.handled = none → tp target → (∀ a, Dn G O₀ s₂ a → a ∉ wr → ¬ O a) → Tn G A O target I wr xs St) : HasIt G O₀ tp s₀ s₂ xs (.ref I)
section
variable {G : Gd} {A : Around} {D O O₀ : Addr → Prop} {wr : List Addr} {s₀ s s₂ : Shared}
theorem Kd.src {h h' : Heap} (k : Kd D h h') : Keep (Src D wr) (Src D wr) h h' := fun a o e _ no => ⟨no, k a o (Classical.not_not.mp no).1 e⟩
theorem Kw.src {h h' : Heap} (k : Kw wr h h') : Keep (Src D wr) (Src D wr) h h' := fun a o e _ no => ⟨no, k a o (Classical.not_not.mp no).2 e⟩
theorem VR.out {h : Heap} {v : V} {x : Value} (hD : ∀ a, D a → a ∉ wr → ¬ O a) (r : VR G (Src D wr) h v x) : VR G O h v x := VR.less (O' := Src D wr) (fun a ha (q : D a ∧ a ∉ wr) => hD a q.1 q.2 ha) r
theorem vrs_in (i : Inv G s) (st : St G s s₂) {vs : List V} {ws : List Value} (r : VRs G O₀ s.heap vs ws) (hw : ∀ b ∈ wr, s.heap.get? b = none) : VRs G (Src (Dn G O₀ s₂) wr) s₂.heap vs ws :=
  VRs.mono (fun a o e c no => have q := st.kp a o (i.notTab e c) e; ⟨not_not_intro ⟨⟨no, i.notTab e c, o, q⟩, fun hm => nos ((hw a hm).symm.trans e)⟩, q⟩) r
theorem code_ne {nm : String} (h : (nm == "code") = false) : Value.type nm ≠ .type "code" := fun e => by
  injection e with e; rw [e] at h; exact Bool.noConfusion h
theorem it_walks {A₀ : Around} (h₀ : A₀.handled = none) (i : Inv G s) (st₀ : St G s₀ s) (ox : OX G O₀ s.heap) {o : Obj} (hf : o.isFreed = false) {nm : String} (hn0 : o.cls ≠ .none) (hnm : ownedNames.contains nm = false) (hcd : (nm == "code") = false) {fp : List Addr} {n : Nat} {P : Nat → Value → Prop} {St0 : Nat → Heap → Prop} {xs ys : List V} {ws : List Value}
    (W : ∀ A : Around, A.handled = none → Walks G.prog G.w A s.heap.objs.size fp [s.heap.objs.size] n P St0) (hn : n = xs.length) (st0 : St0 0 (s.heap.push o)) (hfp : ∀ b ∈ fp, b = s.heap.objs.size ∨ Dn G O₀ s b) (hcls : ∀ i h, St0 i h → ∃ o, h.get? s.heap.objs.size = some o ∧ o.cls = .type nm)
    (r : VRs G O₀ s.heap ys ws) (hP : ∀ {S : Addr → Prop} i v h x, P i v → VRs G S h ys ws → xs[i]? = some x → VR G S h x v) : HasIt G O₀ Tgt s₀ { s with heap := s.heap.push o } xs (.ref s.heap.objs.size) := by
  have st := St.push i o s.toks
  have hI : ∀ b ∈ [s.heap.objs.size], s.heap.get? b = none := fun b hb => List.mem_singleton.mp hb ▸ get_size _
  have hD : ∀ b ∈ fp, Dn G O₀ { s with heap := s.heap.push o } b := fun b hb => (hfp b hb).elim (fun e => e ▸ ⟨ox.fresh, i.freshNotTab (get_size _), o, Heap.get?_push_size _ hf⟩) fun q => by
    obtain ⟨no, nt, o', e⟩ := q
    exact ⟨no, nt, o', Heap.get?_push_of_some _ e⟩
  exact .mk (wr := [s.heap.objs.size]) (St := fun i h => St0 i h ∧ VRs G (Src (Dn G O₀ { s with heap := s.heap.push o }) [s.heap.objs.size]) h ys ws) (fun b hb => ⟨st₀.fresh i (hI b hb), List.mem_singleton.mp hb ▸ ⟨o, Heap.get?_push_size _ hf⟩⟩)
    ⟨st0, vrs_in i st r hI⟩ (fun i h h' st k => ⟨(W A₀ h₀).frame i h h' st.1 fun b hb o e => k b o (hD b hb) e, VRs.mono k.src st.2⟩) (fun i h st b hb => by
      obtain ⟨o', e, c⟩ := hcls i h st.1
      exact ⟨o', List.mem_singleton.mp hb ▸ e, c ▸ code_ne hcd⟩)
    fun {A O target} hh tp hO => {
      turn := fun {j x s' Q X} hx st ox hQ => (W A hh).item j s' _ X (hn ▸ get_lt hx) st.1 fun v h' tk hP' st' k => ⟨v, rfl, by
        obtain ⟨o', e, c⟩ := hcls _ _ st'
        have r' := VRs.mono (Kw.src (wr := [s.heap.objs.size]) k) st.2
        exact letGo_plain tp e c hnm (hQ v h' tk ⟨st', r'⟩ k (VR.out hO (hP j v h' x hP' r' hx)))⟩
      done := fun {s' Q X} st hQ => (W A hh).done s' Q X (hn ▸ st.1) hQ
      self := fun {j s' Q X} st hQ => (W A hh).self j s' Q X st.1 hQ }
end
noncomputable def KI (G : Gd) (O : Addr → Prop) (tp : Expr → Prop) (s₀ s : Shared) (xs : List V) (Q : Value → Shared → Prop) : Prop := ∀ it s₂, St G s s₂ → HasIt G O tp s₀ s₂ xs it → Q it s₂
theorem fp2 {I a b : Addr} {C : Prop} (hb : b ∈ [I, a]) (h : b = I → C) (h' : b = a → C) : C := (List.mem_cons.mp hb).elim h fun q => h' (List.mem_singleton.mp q)
section
variable {G : Gd} {A : Around} {O : Addr → Prop} {k : Nat} {s₀ s : Shared} {X Q : Value → Shared → Prop}
theorem Dn.of (i : Inv G s) {a : Addr} {o : Obj} (no : ¬ O a) (e : s.heap.get? a = some o) (hc : o.cls ≠ .none) : Dn G O s a := ⟨no, i.notTab e hc, o, e⟩
theorem fps (i : Inv G s) {a : Addr} {o : Obj} (no : ¬ O a) (e : s.heap.get? a = some o) (hc : o.cls ≠ .none) : ∀ b ∈ [s.heap.objs.size, a], b = s.heap.objs.size ∨ Dn G O s b := fun b hb => fp2 hb .inl fun h => .inr (h ▸ .of i no e hc)
theorem lt_ne {a : Addr} {o : Obj} (e : s.heap.get? a = some o) : a ≠ s.heap.objs.size := Nat.ne_of_lt (Heap.lt_size e)
theorem it_list (hh : A.handled = none) (i : Inv G s) (st₀ : St G s₀ s) (ox : OX G O s.heap) {a : Addr} {xs : List V} (no : ¬ O a) (r : LstA (VR G O s.heap) s.heap a xs) (hQ : KI G O Tgt s₀ s xs Q) : wpAny (model G.prog G.w) A (pyIter (.ref a)) Q X s := by
  cases r with | @mk ws n e l r =>
  exact wpAny_pyIter_list ⟨_, e, rfl, _, rfl⟩ (hQ _ _ (St.push i _ _) (it_walks (nm := "list_iterator") hh i st₀ ox rfl type_ne rfl rfl (fun A hh => Walks.list hh _ a (lt_ne e) ws.toArray) ((List.size_toArray ..).trans r.length.symm)
    ⟨⟨_, Heap.get?_push_size _ rfl, rfl, rfl⟩, ⟨_, Heap.get?_push_of_some _ e, rfl, _, rfl⟩⟩ (fps i no e type_ne) (fun j h st => by obtain ⟨⟨o, e, c, _⟩, _⟩ := st; exact ⟨o, e, c⟩) r fun j v h x hv r hx => r.at hx (List.getElem?_toArray.symm.trans hv)))
theorem it_tup (hh : A.handled = none) (i : Inv G s) (st₀ : St G s₀ s) (ox : OX G O s.heap) {a : Addr} {xs : List V} (no : ¬ O a) (r : TupA (VR G O s.heap) s.heap a xs) (hQ : KI G O Tgt s₀ s xs Q) : wpAny (model G.prog G.w) A (pyIter (.ref a)) Q X s := by
  cases r with | @mk ws n e l r =>
  exact wpAny_pyIter_tuple ⟨_, e, rfl, _, rfl⟩ (hQ _ _ (St.push i _ _) (it_walks (nm := "tuple_iterator") hh i st₀ ox rfl type_ne rfl rfl (fun A hh => Walks.tuple hh _ a (lt_ne e) ws.toArray) ((List.size_toArray ..).trans r.length.symm)
    ⟨⟨_, Heap.get?_push_size _ rfl, rfl, rfl⟩, ⟨_, Heap.get?_push_of_some _ e, rfl, _, rfl⟩⟩ (fps i no e type_ne) (fun j h st => by obtain ⟨⟨o, e, c, _⟩, _⟩ := st; exact ⟨o, e, c⟩) r fun j v h x hv r hx => r.at hx (List.getElem?_toArray.symm.trans hv)))
theorem it_dict (hh : A.handled = none) (i : Inv G s) (st₀ : St G s₀ s) (ox : OX G O s.heap) {a : Addr} {es : List (K × V)} (no : ¬ O a) (r : DctA (VR G O s.heap) s.heap a G es) (hQ : KI G O Tgt s₀ s (es.map fun p => vKey p.1) Q) : wpAny (model G.prog G.w) A (pyIter (.ref a)) Q X s := by
  cases r with | @mk kvs ns of l r =>
  refine dictAt_of of fun ep o e hc hat => ?_
  have hl : kvs.map (·.1) = es.map (·.1) := by
    clear hat of l hQ
    induction r with
    | nil => rfl
    | cons x _ ih => induction x with | mk => exact congrArg (_ :: ·) ih
  exact wpAny_pyIter_dict ns hat (hQ _ _ (St.push i _ _) (it_walks (nm := "dict_keyiterator") (ys := []) (ws := []) hh i st₀ ox rfl type_ne rfl rfl (fun A hh => Walks.dictKeys hh _ a (lt_ne e) kvs ep) (r.length.symm.trans (List.length_map ..).symm)
    ⟨⟨_, Heap.get?_push_size _ rfl, rfl, rfl⟩, hat.push _⟩ (fps i no e (hc ▸ type_ne)) (fun j h st => by obtain ⟨⟨o, e, c, _⟩, _⟩ := st; exact ⟨o, e, c⟩) .nil fun j v h x hv _ hx => by
      obtain ⟨q, y, e1, e2⟩ := hv
      refine map_get (C := fun x => VR G _ h x v) hx fun p hp => ?_
      have e3 : (kvs.map (·.1))[j]? = some q := List.getElem?_map.trans (congrArg (Option.map (·.1)) e1)
      rw [hl] at e3
      exact map_get (C := fun q => (intKind G.prog G.w).is q v = true → VR G _ h (vKey p.1) v) e3 (fun p' hp' hq => vkey_vr (Option.some.inj (hp'.symm.trans hp) ▸ hq)) e2))
theorem it_values (hh : A.handled = none) (i : Inv G s) (st₀ : St G s₀ s) (ox : OX G O s.heap) {a v : Addr} {es : List (K × V)} (no : ¬ O a) (r : DctA (VR G O s.heap) s.heap a G es) (hv : s.heap.IsValuesView v a) (hQ : KI G O Tgt s₀ s (es.map (·.2)) Q) : wpAny (model G.prog G.w) A (pyIter (.ref v)) Q X s := by
  cases r with | @mk kvs ns of l r =>
  refine dictAt_of of fun ep o e hc hat => ?_
  exact wpAny_pyIter_values hv hat (hQ _ _ (St.push i _ _) (it_walks (nm := "dict_valueiterator") hh i st₀ ox rfl type_ne rfl rfl (fun A hh => Walks.dictValues hh _ a (lt_ne e) kvs ep) (r.length.symm.trans (List.length_map ..).symm)
    ⟨⟨_, Heap.get?_push_size _ rfl, rfl, rfl⟩, hat.push _⟩ (fps i no e (hc ▸ type_ne)) (fun j h st => by obtain ⟨⟨o, e, c, _⟩, _⟩ := st; exact ⟨o, e, c⟩) r.snd fun j v h x hv r hx => by
      obtain ⟨q, e1⟩ := hv
      exact r.at hx (List.getElem?_map.trans (congrArg (Option.map (·.2)) e1))))
theorem r62 {a : Int} (h : a.natAbs ≤ big) : -2 ^ 62 ≤ a ∧ a < 2 ^ 62 := by have := big_eq; omega
theorem rng_small {lo hi : Int} (h : hi - lo ≤ big ∧ lo.natAbs ≤ big ∧ hi.natAbs ≤ big) : Builtin.Range.small lo hi 1 = true := small_one (r62 h.2.1).1 (r62 h.2.1).2 (r62 h.2.2).1 (r62 h.2.2).2
theorem it_rng (hh : A.handled = none) (i : Inv G s) (st₀ : St G s₀ s) (ox : OX G O s.heap) {a : Addr} {lo hi : Int} {t u x : Tok} (e : s.heap.get? a = some { cls := .type "range", data := .fields #[.int lo t, .int hi u, .int 1 x] }) (hb : hi - lo ≤ big ∧ lo.natAbs ≤ big ∧ hi.natAbs ≤ big) (hQ : KI G O Tgt s₀ s (rngList lo hi) Q) : wpAny (model G.prog G.w) A (pyIter (.ref a)) Q X s := by
  refine wpAny_pyIter_range e (rng_small hb) ?_
  rw [rangeSize_nat]
  exact hQ _ _ (St.push i _ _) (it_walks (nm := "range_iterator") (ys := []) (ws := []) hh i st₀ ox rfl type_ne rfl rfl (fun A hh => Walks.range hh _ lo 1 (hi - lo).toNat) ((List.length_map ..).trans List.length_range).symm
    (show IsRangeIter _ _ (lo + ((0 : Nat) : Int) * 1) (((hi - lo).toNat : Int) - ((0 : Nat) : Int)) 1 by rw [Int.natCast_zero, Int.zero_mul, Int.add_zero, Int.sub_zero]; exact Heap.get?_push_size _ rfl) (fun b hb => .inl (List.mem_singleton.mp hb)) (fun j h st => ⟨_, st, rfl⟩) .nil fun j v h x hv _ hx => by
      obtain ⟨t, rfl⟩ := hv
      refine map_get (C := fun x => VR G _ h x _) hx fun p hp => ?_
      rw [List.getElem?_range (Nat.lt_of_lt_of_eq (get_lt hp) List.length_range)] at hp
      rw [Int.mul_one, Option.some.inj hp]
      exact .int _ _)
theorem ok_iter (hh : A.handled = none) (i : Inv G s) (st₀ : St G s₀ s) (ox : OX G O s.heap) {v : V} {x : Value} {xs : List V} (rv : VR G O s.heap v x) (h : itemsOf v = some xs) (hQ : KI G O Tgt s₀ s xs Q) : wpAny (model G.prog G.w) A (pyIter x) Q X s := by
  have rw := rv.w
  induction rw with
  | list r => exact it_list hh i st₀ ox rv.no r (Option.some.inj h ▸ hQ)
  | tup r => exact it_tup hh i st₀ ox rv.no r (Option.some.inj h ▸ hQ)
  | dict r => exact it_dict hh i st₀ ox rv.no r (Option.some.inj h ▸ hQ)
  | rng e => exact oif (C := fun xs => KI G O Tgt s₀ s xs Q → _) h (fun hb hQ => it_rng hh i st₀ ox e hb hQ) hQ
  | _ => exact nos h
end
theorem entry_itemiter : entryFor table "dict_itemiterator.__iter__" = some Builtin.«dict_keyiterator.__iter__» :=
  entryFor_alias (id' := "dict_keyiterator.__iter__") (by kernel_rfl) (by first | rfl | decide +kernel) (by decide +kernel) (by kernel_rfl)
theorem code_cls {t : String} (h : (t == "code") = false) {o : Obj} (e : o.cls = .type t) : o.cls ≠ .type "code" := e ▸ code_ne h
section
variable {G : Gd} {A : Around} {O : Addr → Prop} {k : Nat} {s₀ s : Shared} {X Q : Value → Shared → Prop}
theorem vr_pair {h : Heap} {T : Addr} {x y : Value} {v u : V} {n : Nat} (no : ¬ O T) (e : h.get? T = some { cls := .type "tuple", data := .seq #[x, y] n }) (r1 : VR G O h v x) (r2 : VR G O h u y) : VR G O h (.tup [v, u]) (.ref T) :=
  .mkT no (.mk (ws := [x, y]) e (show 2 ≤ big by decide) (.cons r1 (.cons r2 .nil)))
noncomputable def ItS (G : Gd) (S : Addr → Prop) (es : List (K × V)) (kvs : List (K × Value)) (I d : Addr) (ep i : Nat) (h : Heap) : Prop := (∃ ok ov, IsItemIter h I d i kvs.length ep ok ov) ∧ h.DictAt (intKind G.prog G.w) d kvs ep ∧ All2 (Kv (VR G S h)) es kvs
theorem tn_items (hh : A.handled = none) {D : Addr → Prop} {I d : Addr} {es : List (K × V)} {kvs : List (K × Value)} {ep : Nat} {target : Expr} (tp : TgT target) (hne : d ≠ I) (hD : ∀ a, D a → a ∉ [I] → ¬ O a) :
    Tn G A O target I [I] (es.map fun p => .tup [vKey p.1, p.2]) (ItS G (Src D [I]) es kvs I d ep) where
  turn := fun {i x s Q X} hx st ox hQ => by
    obtain ⟨⟨ok, ov, hit⟩, hm, r⟩ := st
    induction tp with | tup =>
    refine map_get (C := fun x => KT G O _ [I] s i x Q → _) hx (fun p hp hQ => r.get hp fun q hq rq => ?_) hQ
    induction rq with | @mk kx a z rz =>
    refine wpAny_pyNext_items_item hit hm hq fun key h' hkey ho hT hsz hk' => ⟨_, rfl, wpAny_letOwnedTupleGo_items ho fun h'' hit'' hs'' => ?_⟩
    have kb : Kw [I] s.heap h'' := fun b o hb e => hs''.extBut b o (fun h => hb (List.mem_singleton.mpr h)) (hk' b o (fun h => hb (List.mem_singleton.mpr h)) e)
    exact hQ _ _ _ ⟨⟨_, _, hit''⟩, hm.at' fun o e => kb _ o (fun h => hne (List.mem_singleton.mp h)) e, r.imp fun _ _ => kv_mono kb.src⟩ kb
      (vr_pair ox.fresh (hs''.extBut _ _ (Nat.ne_of_gt (Heap.lt_size hit)) hT) (vkey_vr hkey) ((rz.mono kb.src).out hD))
  done := fun {s Q X} st hQ => by
    obtain ⟨⟨ok, ov, hit⟩, hm, r⟩ := st
    exact wpAny_pyNext_items_end hh hit hm (List.getElem?_eq_none (by rw [List.length_map, r.length]; exact Nat.le_refl _)) fun h' he => hQ h' s.toks fun b o hb e => he b o (fun h => hb (List.mem_singleton.mpr h)) e
  self := fun {i s Q X} st hQ => by
    obtain ⟨⟨ok, ov, hit⟩, hm, r⟩ := st
    have hT : s.TypeIs (.ref I) "dict_itemiterator" := ⟨_, hit, rfl⟩
    refine wpAny_pyIter_slot hT F.slot_dict_itemiterator_iter (wpAny_call_entry F.slot_dict_itemiterator_iter hT entry_itemiter ?_ (F.args_dict_itemiterator_iter_1 _))
    show wpAny _ _ (ret (.ref I)) _ _ s
    exact wpAny_pure ⟨_, rfl, "dict_itemiterator", _, hT, F.slot_dict_itemiterator_next.lookup, hQ⟩
theorem it_items (i : Inv G s) (st₀ : St G s₀ s) (ox : OX G O s.heap) {a v : Addr} {es : List (K × V)} (no : ¬ O a) (r : DctA (VR G O s.heap) s.heap a G es) (hv : s.heap.IsItemsView v a) (hQ : KI G O TgT s₀ s (es.map fun p => .tup [vKey p.1, p.2]) Q) : wpAny (model G.prog G.w) A (pyIter (.ref v)) Q X s := by
  cases r with | @mk kvs ns of l r =>
  refine dictAt_of of fun ep o e hc hat => ?_
  have hI : ∀ b ∈ [s.heap.objs.size], s.heap.get? b = none := fun b hb => List.mem_singleton.mp hb ▸ get_size _
  refine wpAny_pyIter_items hv hat ?_
  generalize ho : ({ cls := Value.type "dict_itemiterator", data := Data.fields #[Value.none, Value.bool false, Value.ref a, Value.int 0 0, Value.int kvs.length 0, Value.int ep 0, Value.none, Value.none] } : Obj) = ob
  have hf : ob.isFreed = false := ho ▸ rfl
  have st := St.push i ob s.toks
  have hs : Dn G O { s with heap := s.heap.push ob } s.heap.objs.size := ⟨ox.fresh, i.freshNotTab (get_size _), ob, Heap.get?_push_size _ hf⟩
  have hd : Dn G O { s with heap := s.heap.push ob } a := .of st.inv no (Heap.get?_push_of_some _ e) (hc ▸ type_ne)
  refine hQ _ _ st (.mk (wr := [s.heap.objs.size]) (St := ItS G (Src (Dn G O { s with heap := s.heap.push ob }) [s.heap.objs.size]) es kvs s.heap.objs.size a ep) (fun b hb => ⟨st₀.fresh i (hI b hb), List.mem_singleton.mp hb ▸ ⟨ob, Heap.get?_push_size _ hf⟩⟩)
    ⟨⟨_, _, (Heap.get?_push_size _ hf).trans (congrArg some ho.symm)⟩, hat.push _, ?_⟩ (fun i h h' st k => ?_) (fun i h st b hb => ?_) fun hh tp hO => tn_items hh tp (lt_ne e) hO)
  · exact r.imp fun _ _ => kv_mono fun b o e c no => have q := st.kp b o (i.notTab e c) e; ⟨not_not_intro ⟨⟨no, i.notTab e c, o, q⟩, fun hm => nos ((hI b hm).symm.trans e)⟩, q⟩
  · obtain ⟨⟨ok, ov, hit⟩, hm, r⟩ := st
    exact ⟨⟨ok, ov, k _ _ hs hit⟩, hm.at' fun o e => k _ o hd e, r.imp fun _ _ => kv_mono k.src⟩
  · obtain ⟨⟨ok, ov, hit⟩, _⟩ := st
    exact ⟨_, List.mem_singleton.mp hb ▸ hit, code_ne rfl⟩
end
noncomputable def SI (G : Gd) (c : Cx) (k : Nat) (T : Tx) (tp : Expr → Prop) (e : Expr) (t : It) : Prop :=
  ∀ {A : Around} {env : Env} {m : Fr} {s : Shared} {O : Addr → Prop} {xs : List V} {Q : Value → Shared → Prop} {X : Value → Shared → Prop}, At G k T A env m O s → NE m (escIt t) → evIt c m t = some xs →
    (∀ it s₁ s₂, St G s s₁ → St G s₁ s₂ → HasIt G O tp s s₂ xs it → Q it s₂) → wpAny (model G.prog G.w) A (eval e env) (fun x s₁ => wpAny (model G.prog G.w) A (pyIter x) Q X s₁) X s
section
variable {G : Gd} {c : Cx} {k : Nat} {T : Tx} {e : Expr} {t : E}
theorem si_plain (h : SE G c k T e t) : SI G c k T Tgt e (.one itemsOf t) := fun a ne hv hQ => obind hv fun v hv h1 =>
  h a ne hv fun y s₁ st r => ok_iter a.room.handled st.inv st (a.step st).er.ox r h1 fun it s₂ st2 q => hQ it s₁ s₂ st st2 q
theorem si_items {ap p : Pos} (hl : (ap.endLine == p.line) = true) (hc : Nc e) (h : SE G c k T e t) : SI G c k T TgT (.Call (.Attribute e "items" ap) [] [] p) (.one pairsV t) := fun {A env m s O xs Q X} a ne hv hQ => obind hv fun v hv h1 =>
  method_any hl hc .nil rfl (h a ne hv fun y s₁ st r => by
    refine omap (C := fun xs => (∀ it s₁ s₂, St G s s₁ → St G s₁ s₂ → HasIt G O TgT s s₂ xs it → Q it s₂) → _) h1 (fun es he hQ => ?_) hQ
    cases r.w.od he with | @mk b rd =>
    refine ⟨_, ⟨F.plainAttrs_dict, F.slot_dict_items, F.type_dict_items, dct_type rd, dct_mth rd⟩, Calls.spliced_nil ?_⟩
    have hT := dct_type rd
    have rd' := rd
    cases rd with | @mk kvs ns of l rel =>
    refine call_meetsIn F.slot_dict_items hT F.entry_dict_items (F.args_dict_items_1 _) (meets_dict_items (intKind G.prog G.w) _ ns) ⟨⟨_, of⟩, ?_⟩
    have st2 := St.push st.inv { cls := .type "dict_items", data := .fields #[.ref b] } s₁.toks
    exact it_items st2.inv (st.trans st2) ((a.step st).er.ox.step st2) r.no (rd'.step st.inv st2) ⟨_, Heap.get?_push_size _ rfl, rfl, rfl⟩ fun it s₂ st3 q => hQ it _ s₂ (st.trans st2) st3 q)
theorem si_values {ap p : Pos} (hl : (ap.endLine == p.line) = true) (hc : Nc e) (h : SE G c k T e t) : SI G c k T Tgt (.Call (.Attribute e "values" ap) [] [] p) (.one valuesV t) := fun {A env m s O xs Q X} a ne hv hQ => obind hv fun v hv h1 =>
  method_any hl hc .nil rfl (h a ne hv fun y s₁ st r => by
    refine omap (C := fun xs => (∀ it s₁ s₂, St G s s₁ → St G s₁ s₂ → HasIt G O Tgt s s₂ xs it → Q it s₂) → _) h1 (fun es he hQ => ?_) hQ
    cases r.w.od he with | @mk b rd =>
    refine ⟨_, ⟨F.plainAttrs_dict, F.slot_dict_values, F.type_dict_values, dct_type rd, dct_mth rd⟩, Calls.spliced_nil ?_⟩
    have hT := dct_type rd
    have rd' := rd
    cases rd with | @mk kvs ns of l rel =>
    refine call_meetsIn F.slot_dict_values hT F.entry_dict_values (F.args_dict_values_1 _) (meets_dict_values (intKind G.prog G.w) _ ns) ⟨⟨_, of⟩, ?_⟩
    have st2 := St.push st.inv { cls := .type "dict_values", data := .fields #[.ref b] } s₁.toks
    exact it_values a.room.handled st2.inv (st.trans st2) ((a.step st).er.ox.step st2) r.no (rd'.step st.inv st2) ⟨_, Heap.get?_push_size _ rfl, rfl, rfl⟩ fun it s₂ st3 q => hQ it _ s₂ (st.trans st2) st3 q)
theorem rev_get {xs : List V} {j : Nat} {x : V} (h : xs.reverse[j]? = some x) : xs[xs.length - 1 - j]? = some x := (List.getElem?_reverse (Nat.lt_of_lt_of_eq (get_lt h) List.length_reverse)).symm.trans h
theorem si_rev {x : Str} {pf p : Pos} (bs : Bs G c k T) (n : BN T x (.type "reversed")) (ns : Ns e) (h : SE G c k T e t) : SI G c k T Tgt (.Call (.Name x pf) [e] [] p) (.one revV t) := fun {A env m s O xs Q X} a ne hv hQ => obind hv fun v hv h1 =>
  bi_any bs a n (.t _) (.cons ns .nil) (spl1 ns (h a ne hv fun y s₁ st r => by
    refine omap (C := fun xs => (∀ it s₁ s₂, St G s s₁ → St G s₁ s₂ → HasIt G O Tgt s s₂ xs it → Q it s₂) → _) h1 (fun ys he hQ => ?_) hQ
    cases r.w.ol he with | @mk b rd =>
    have no := r.no
    cases rd with | @mk ws nn e l r =>
    refine call_reversed_list ⟨_, e, rfl, _, rfl⟩ (wpAny_pyIter_revIter ⟨_, Heap.get?_push_size _ rfl, rfl, rfl⟩ ?_)
    have hz : ws.toArray.size = ys.length := (List.size_toArray ..).trans r.length.symm
    exact hQ _ s₁ _ st (St.push st.inv _ _) (it_walks (nm := "list_reverseiterator") a.room.handled st.inv st (a.step st).er.ox rfl type_ne rfl rfl (fun A hh => PySem.Walks.listRev hh _ b (lt_ne e) ws.toArray) (hz.trans List.length_reverse.symm)
      ⟨Nat.zero_le _, ⟨_, Heap.get?_push_size _ rfl, rfl, by rw [Int.natCast_zero, Int.sub_zero]; rfl⟩, ⟨_, Heap.get?_push_of_some _ e, rfl, _, rfl⟩⟩ (fps st.inv no e type_ne) (fun j h st => by obtain ⟨_, ⟨o, e, c, _⟩, _⟩ := st; exact ⟨o, e, c⟩) r fun j v h x hv r hx => r.at (rev_get hx) (hz ▸ List.getElem?_toArray.symm.trans hv))))
end
theorem zipL_at {xs : List V} : ∀ {ys : List V} {i : Nat} {x : V} {C : V → Prop}, (zipL xs ys)[i]? = some x → (∀ u v, xs[i]? = some u → ys[i]? = some v → C (.tup [u, v])) → C x := by
  induction xs with
  | nil => exact fun h _ => nos h
  | cons a xs ih =>
    intro ys
    induction ys with
    | nil => exact fun h _ => nos h
    | cons b ys _ =>
      intro i
      induction i with
      | zero => exact fun h k => Option.some.inj h ▸ k a b rfl rfl
      | succ i => exact fun h k => ih (i := i) h k
theorem zipL_length {xs : List V} : ∀ {ys : List V}, (zipL xs ys).length = min xs.length ys.length := by
  induction xs with
  | nil => exact (Nat.zero_min _).symm
  | cons a xs ih =>
    intro ys
    induction ys with
    | nil => exact (Nat.min_zero _).symm
    | cons b ys _ => exact (congrArg (· + 1) ih).trans (Nat.succ_min_succ ..).symm
noncomputable def ZS (z TI TO i1 i2 l1 l2 : Addr) (xs ys : Array Value) (i : Nat) (h : Heap) : Prop :=
  IsZip h z TI TO .none ∧ IsPair h TI (.ref i1) (.ref i2) ∧ (∃ a b, IsPair h TO a b) ∧ h.IsListIter i1 l1 i ∧ h.IsListIter i2 l2 i ∧ h.IsList l1 xs ∧ h.IsList l2 ys
noncomputable def ZV (G : Gd) (S : Addr → Prop) (z TI TO i1 i2 l1 l2 : Addr) (xs ys : List V) (ws us : List Value) (i : Nat) (h : Heap) : Prop := ZS z TI TO i1 i2 l1 l2 ws.toArray us.toArray i h ∧ VRs G S h xs ws ∧ VRs G S h ys us
theorem in4 {z TO i1 i2 b : Addr} {C : Prop} (h : b ∈ [z, TO, i1, i2]) (h1 : b = z → C) (h2 : b = TO → C) (h3 : b = i1 → C) (h4 : b = i2 → C) : C :=
  (List.mem_cons.mp h).elim h1 fun h => (List.mem_cons.mp h).elim h2 fun h => fp2 h h3 h4
section
variable {G : Gd} {A : Around} {O : Addr → Prop} {k : Nat} {s₀ s : Shared} {X Q : Value → Shared → Prop}
theorem tn_zip (hh : A.handled = none) {D : Addr → Prop} {z TI TO i1 i2 l1 l2 : Addr} (Z : ZipApart z TI TO i1 i2 l1 l2) {xs ys : List V} {ws us : List Value} {target : Expr} (tp : TgT target) (l1e : xs.length = ws.length) (l2e : ys.length = us.length) (hD : ∀ a, D a → a ∉ [z, TO, i1, i2] → ¬ O a) :
    Tn G A O target z [z, TO, i1, i2] (zipL xs ys) (ZV G (Src D [z, TO, i1, i2]) z TI TO i1 i2 l1 l2 xs ys ws us) where
  turn := fun {i x s Q X} hx st ox hQ => by
    obtain ⟨⟨hz, hTI, ⟨a, b, hTO⟩, h1, h2, hl1, hl2⟩, r1, r2⟩ := st
    induction tp with | tup =>
    refine zipL_at (C := fun x => KT G O _ _ s i x Q → _) hx (fun u v hu hv hQ => r1.get hu fun x hx rx => r2.get hv fun y hy ry => ?_) hQ
    refine wpAny_pyNext_zip_item Z hz hTI hTO h1 h2 hl1 hl2 (seq_get hx) (seq_get hy) fun h' a1 a2 a3 a4 a5 a6 hk => ⟨_, rfl, ?_⟩
    refine wpAny_letOwnedTupleGo_zip a1 fun h'' hz'' hs'' => ?_
    have kb : Kw [z, TO, i1, i2] s.heap h'' := fun c o hc e => hs''.extBut c o (fun h => hc (h ▸ List.mem_cons_self ..)) (hk c o (fun h => hc (h ▸ List.mem_cons_self ..)) (fun h => hc (h ▸ .tail _ (.head _))) (fun h => hc (h ▸ .tail _ (.tail _ (.head _)))) (fun h => hc (h ▸ .tail _ (.tail _ (.tail _ (.head _))))) e)
    have up : ∀ c o, c ≠ z → c ≠ TO → c ≠ i1 → c ≠ i2 → s.heap.get? c = some o → h''.get? c = some o := fun c o c1 c2 c3 c4 e => hs''.extBut c o c1 (hk c o c1 c2 c3 c4 e)
    exact hQ _ _ _ ⟨⟨hz'', up _ _ Z.TIz Z.TITO Z.TIi1 Z.TIi2 hTI, ⟨_, _, hs''.extBut _ _ Z.TOz a2⟩, a3.extBut hs''.extBut Z.i1z, a4.extBut hs''.extBut Z.i2z, hl1.at fun o => up _ o Z.l1z Z.l1TO Z.l1i1 Z.l1i2, hl2.at fun o => up _ o Z.l2z Z.l2TO Z.l2i1 Z.l2i2⟩,
      VRs.mono kb.src r1, VRs.mono kb.src r2⟩ kb (vr_pair ox.fresh (hs''.extBut _ _ (Nat.ne_of_gt (Heap.lt_size hz)) a5) ((rx.mono kb.src).out hD) ((ry.mono kb.src).out hD))
  done := fun {s Q X} st hQ => (WalksT.zip2 hh z TI TO i1 i2 l1 l2 Z ws.toArray us.toArray).done s Q X (by rw [List.size_toArray, List.size_toArray, ← l1e, ← l2e, ← zipL_length]; exact st.1) hQ
  self := fun {i s Q X} st hQ => (WalksT.zip2 hh z TI TO i1 i2 l1 l2 Z ws.toArray us.toArray).self i s Q X st.1 hQ
end
section
variable {G : Gd} {c : Cx} {k : Nat} {T : Tx} {e₁ e₂ : Expr} {t₁ t₂ : E}
theorem si_zip {x : Str} {pf p : Pos} (bs : Bs G c k T) (n : BN T x (.type "zip")) (ns₁ : Ns e₁) (ns₂ : Ns e₂) (h₁ : SE G c k T e₁ t₁) (h₂ : SE G c k T e₂ t₂) : SI G c k T TgT (.Call (.Name x pf) [e₁, e₂] [] p) (.two zipV t₁ t₂) := fun {A env m s O xs Q X} a ne hv hQ => obind hv fun v1 hv1 hv => obind hv fun v2 hv2 hv => by
  refine bi_any bs a n (.t _) (.cons ns₁ (.cons ns₂ .nil)) (spl2 ns₁ ns₂ (h₁ a ne.l hv1 fun y s₁ st r => h₂ (a.step st) ne.r hv2 fun y' s₂ st' r' => ?_))
  refine obind hv fun zs hz hv => omap (C := fun xs => (∀ it s₁ s₂, St G s s₁ → St G s₁ s₂ → HasIt G O TgT s s₂ xs it → Q it s₂) → _) hv (fun us hu hQ => ?_) hQ
  have r := r.step st.inv st'
  have st2 := st.trans st'
  have i := st'.inv
  have ox := ((a.step st).step st').er.ox
  cases r.w.ol hz with | @mk l1 rl =>
  cases r'.w.ol hu with | @mk l2 rl' =>
  have no1 := r.no
  have no2 := r'.no
  cases rl with | @mk ws m1 e1 le1 r1 =>
  cases rl' with | @mk us' m2 e2 le2 r2 =>
  have lt1 := Heap.lt_size e1
  have lt2 := Heap.lt_size e2
  refine PySem.call_zip_2 ⟨_, e1, rfl, _, rfl⟩ ⟨_, e2, rfl, _, rfl⟩ fun h' hz hTI hTO h1 h2 hsz hk => ?_
  have st3 := St.keeps i hk s₂.toks
  have gn : ∀ j, s₂.heap.get? (s₂.heap.objs.size + j) = none := fun j => Heap.get?_none_of_le (Nat.le_add_right _ _)
  refine PySem.wpAny_pyIter_zip hz (hQ _ s₂ _ st2 st3 (.mk (wr := [s₂.heap.objs.size + 4, s₂.heap.objs.size + 3, s₂.heap.objs.size, s₂.heap.objs.size + 1]) (St := ZV G (Src (Dn G O { s₂ with heap := h' }) [s₂.heap.objs.size + 4, s₂.heap.objs.size + 3, s₂.heap.objs.size, s₂.heap.objs.size + 1]) _ (s₂.heap.objs.size + 2) (s₂.heap.objs.size + 3) s₂.heap.objs.size (s₂.heap.objs.size + 1) l1 l2 zs us ws us')
    (fun b hb => ⟨st2.fresh i (in4 hb (fun e => e ▸ gn 4) (fun e => e ▸ gn 3) (fun e => e ▸ gn 0) (fun e => e ▸ gn 1)), ?_⟩) ⟨⟨hz, hTI, ⟨_, _, hTO⟩, h1, h2, ⟨_, hk _ _ e1, rfl, _, rfl⟩, ⟨_, hk _ _ e2, rfl, _, rfl⟩⟩, vrs_in i st3 r1 ?_, vrs_in i st3 r2 ?_⟩ (fun j g g' st k => ?_) (fun j h st b hb => ?_)
      fun hh tp hO => tn_zip hh (zipApart_new lt1 lt2) tp r1.length r2.length hO))
  · exact in4 hb (fun e => e ▸ ⟨_, hz⟩) (fun e => e ▸ ⟨_, hTO⟩) (fun e => by obtain ⟨o, q, _⟩ := h1; exact e ▸ ⟨o, q⟩) (fun e => by obtain ⟨o, q, _⟩ := h2; exact e ▸ ⟨o, q⟩)
  · exact fun b hb => in4 hb (fun e => e ▸ gn 4) (fun e => e ▸ gn 3) (fun e => e ▸ gn 0) (fun e => e ▸ gn 1)
  · exact fun b hb => in4 hb (fun e => e ▸ gn 4) (fun e => e ▸ gn 3) (fun e => e ▸ gn 0) (fun e => e ▸ gn 1)
  · have dn : ∀ j o, h'.get? (s₂.heap.objs.size + j) = some o → Dn G O { s₂ with heap := h' } (s₂.heap.objs.size + j) := fun j o e => ⟨fresh_ge ox (Nat.le_add_right _ _), i.freshNotTab (gn j), o, e⟩
    exact ⟨(WalksT.zip2 (prog := G.prog) (w := G.w) a.room.handled _ _ _ _ _ _ _ (zipApart_new lt1 lt2) ws.toArray us'.toArray).frame j _ _ st.1 fun b hb o e => k b o ((List.mem_cons.mp hb).elim (fun q => q ▸ dn 4 _ hz) fun hb => (List.mem_cons.mp hb).elim (fun q => q ▸ dn 2 _ hTI) fun hb => (List.mem_cons.mp hb).elim (fun q => q ▸ dn 3 _ hTO) fun hb =>
      (List.mem_cons.mp hb).elim (fun q => by obtain ⟨o, q', _⟩ := h1; exact q ▸ dn 0 _ q') fun hb => (List.mem_cons.mp hb).elim (fun q => by obtain ⟨o, q', _⟩ := h2; exact q ▸ dn 1 _ q') fun hb => fp2 hb (fun q => q ▸ .of st3.inv no1 (hk _ _ e1) type_ne) fun q => q ▸ .of st3.inv no2 (hk _ _ e2) type_ne) e, VRs.mono k.src st.2.1, VRs.mono k.src st.2.2⟩
  · obtain ⟨⟨hz, hTI, ⟨_, _, hTO⟩, ⟨o1, q1, c1, _⟩, ⟨o2, q2, c2, _⟩, _⟩, _⟩ := st
    exact in4 hb (fun e => e ▸ ⟨_, hz, code_ne rfl⟩) (fun e => e ▸ ⟨_, hTO, code_ne rfl⟩) (fun e => e ▸ ⟨o1, q1, code_cls rfl c1⟩) (fun e => e ▸ ⟨o2, q2, code_cls rfl c2⟩)
end
end Mine
end
section
set_option maxRecDepth 100000
set_option genSizeOf false
set_option genInjectivity false
namespace Mine
open PySem PyProof.Rows SeqAt
open Builtin
section
variable {prog : Program} {w : World} {A : Around} {E : Value → Shared → Prop} {s : Shared}
theorem nextOf_tuple_item {it t : Addr} {i : Nat} {items : Array Value} {x : Value} {Q : Value → Shared → Prop} (hit : s.heap.IsTupleIter it t i) (ht : s.heap.IsTuple t items) (hx : items[i]? = some x)
    (hQ : ∀ h', h'.IsTupleIter it t (i + 1) → Heap.SameBut it s.heap h' → Q x { s with heap := h' }) : wpAny (model prog w) A (Builtin.SmallTypes.nextOf (.ref it)) Q E s := by
  obtain ⟨o, ho, hc, hd⟩ := id hit
  obtain ⟨ol, hol, _, nl, hdl⟩ := ht
  unfold Builtin.SmallTypes.nextOf
  refine wpAny_bind (wpAny_callSpecial?_slot (name := Str.ofString "__next__") hit.typeIs F.slot_tuple_iterator_next
    (wpAny_call_entry F.slot_tuple_iterator_next hit.typeIs F.entry_tuple_iterator_next ?_ (F.args_tuple_iterator_next_1 _)))
  show wpAny _ _ (field (.ref it) 0 >>= _) _ _ s
  refine wpAny_bind (wpAny_field ho hd (x := .ref t) rfl ?_)
  show wpAny _ _ (if (Value.ref t == Value.none) = true then _ else _) _ _ s
  rw [if_neg (show ¬ ((Value.ref t == Value.none) = true) from Bool.false_ne_true)]
  show wpAny _ _ (field (.ref it) 1 >>= _) _ _ s
  refine wpAny_bind (wpAny_field ho hd (x := .int i 0) rfl ?_)
  show wpAny _ _ (seqItems? (.ref t) >>= _) _ _ s
  refine wpAny_bind (wpAny_seqItems hol hdl ?_)
  simp only [Int.toNat_natCast, hx]
  refine wpAny_bind (wpAny_setField ho hd (by simp) (wpAny_pure ⟨_, rfl, wpAny_pure (hQ _ ?_ (Heap.SameBut.update ..))⟩))
  exact ⟨_, Heap.get?_update_self _ ho (Obj.isFreed_of_fields (Obj.data_mapFields hd _)), (Obj.cls_mapFields ..).trans hc, by rw [Obj.data_mapFields hd]; simp [rawInt]⟩
theorem nextOf_tuple_end {it t : Addr} {i : Nat} {items : Array Value} {Q : Value → Shared → Prop} (hh : A.handled = none) (hit : s.heap.IsTupleIter it t i) (ht : s.heap.IsTuple t items) (hx : items[i]? = none)
    (hE : ∀ h' e, Heap.ExtBut it s.heap h' → (∃ o, h'.get? e = some o ∧ o.cls = .type "StopIteration") → E (.ref e) { s with heap := h' }) : wpAny (model prog w) A (Builtin.SmallTypes.nextOf (.ref it)) Q E s := by
  obtain ⟨o, ho, hc, hd⟩ := id hit
  obtain ⟨ol, hol, _, nl, hdl⟩ := ht
  unfold Builtin.SmallTypes.nextOf
  refine wpAny_bind (wpAny_callSpecial?_slot (name := Str.ofString "__next__") hit.typeIs F.slot_tuple_iterator_next
    (wpAny_call_entry F.slot_tuple_iterator_next hit.typeIs F.entry_tuple_iterator_next ?_ (F.args_tuple_iterator_next_1 _)))
  show wpAny _ _ (field (.ref it) 0 >>= _) _ _ s
  refine wpAny_bind (wpAny_field ho hd (x := .ref t) rfl ?_)
  show wpAny _ _ (if (Value.ref t == Value.none) = true then _ else _) _ _ s
  rw [if_neg (show ¬ ((Value.ref t == Value.none) = true) from Bool.false_ne_true)]
  show wpAny _ _ (field (.ref it) 1 >>= _) _ _ s
  refine wpAny_bind (wpAny_field ho hd (x := .int i 0) rfl ?_)
  show wpAny _ _ (seqItems? (.ref t) >>= _) _ _ s
  refine wpAny_bind (wpAny_seqItems hol hdl ?_)
  simp only [Int.toNat_natCast, hx]
  refine wpAny_bind (wpAny_rule (wpAny_bind (wpAny_setField ho hd (by simp) ?_)))
  show wpAny _ _ (newExc (.type "StopIteration") [] >>= _) _ _ _
  refine wpAny_bind ?_
  simp only [newExc, newTuple]
  refine wpAny_bind (wpAny_newObj_type ?_ (by size_fits))
  refine wpAny_bind (m := firstArgMember _ _) (wpAny_of_eq (a := Value.none) (by first | rfl | (simp only [firstArgMember]; rfl)) ?_)
  refine wpAny_newObj_type ?_ (by size_fits)
  simp only [raiseNew]
  refine wpAny_bind (wpAny_handled ?_)
  first | rw [show A.in1.handled = none from hh] | rw [hh]
  refine wpAny_bind (wpAny_pure (wpAny_throw ?_))
  exact hE _ _ (((Heap.SameBut.update ..).extBut.push _).push _) ⟨_, Heap.get?_push_size _ rfl, rfl⟩
end
theorem drawsTuple {prog : Program} {w : World} {A : Around} (hh : A.handled = none) (it l : Addr) (hne : l ≠ it) (items : Array Value) :
    Draws prog w A it [it, l] items.size (fun i v => items[i]? = some v) (fun i h => h.IsTupleIter it l i ∧ h.IsTuple l items) where
  live := fun _ _ st => let ⟨o, ho, _⟩ := st.1; ⟨o, ho⟩
  frame := fun _ _ _ st hk => ⟨let ⟨o, ho, r⟩ := st.1; ⟨o, hk it (by simp) o ho, r⟩, let ⟨o, ho, r⟩ := st.2; ⟨o, hk l (by simp) o ho, r⟩⟩
  item := fun i s Q E hi st hQ => by
    refine nextOf_tuple_item st.1 st.2 (x := items[i]) (by simp [hi]) fun h' hit' hs' => ?_
    exact hQ _ h' s.toks (by simp [hi]) ⟨hit', st.2.extBut hs'.extBut hne⟩ hs'
  done := fun s Q E st hE => nextOf_tuple_end hh st.1 st.2 (by simp) hE
structure ZA (z TI TO i1 i2 l1 l2 : Addr) : Prop where
  ap : ZipApart z TI TO i1 i2 l1 l2
section
variable {prog : Program} {w : World} {A : Around} {E : Value → Shared → Prop} {s : Shared} {z TI TO i1 i2 l1 l2 : Addr} {n1 n2 : Nat} {P1 P2 : Nat → Value → Prop} {S1 S2 : Nat → Heap → Prop}
theorem keep2 {a : Addr} {h h' : Heap} {S : Nat → Heap → Prop} {it l : Addr} {n : Nat} {P : Nat → Value → Prop} {k : Nat} (D : Draws prog w A it [it, l] n P S) (hs : Heap.SameBut a h h') (h1 : it ≠ a) (h2 : l ≠ a) (x : S k h) : S k h' :=
  D.frame _ _ _ x fun b hb o e => by simp at hb; rcases hb with rfl | rfl; exact hs.extBut _ _ h1 e; exact hs.extBut _ _ h2 e
theorem zip_item {k : Nat} {Q : Value → Shared → Prop} (D : ZipApart z TI TO i1 i2 l1 l2) (D1 : Draws prog w A i1 [i1, l1] n1 P1 S1) (D2 : Draws prog w A i2 [i2, l2] n2 P2 S2) {a b : Value}
    (hz : IsZip s.heap z TI TO .none) (hTI : IsPair s.heap TI (.ref i1) (.ref i2)) (hTO : IsPair s.heap TO a b) (h1 : S1 k s.heap) (h2 : S2 k s.heap) (hk1 : k < n1) (hk2 : k < n2)
    (hQ : ∀ (h' : Heap) (tk : Nat) (T : Addr) (x y : Value), P1 k x → P2 k y → IsZip h' z TI TO (rawInt T) → IsPair h' TO x y → S1 (k + 1) h' → S2 (k + 1) h' → IsPair h' T x y → T = s.heap.objs.size →
      (∀ c o, c ≠ z → c ≠ TO → c ≠ i1 → c ≠ i2 → s.heap.get? c = some o → h'.get? c = some o) → Q (.ref T) { s with heap := h', toks := tk }) :
    wpAny (model prog w) A (Builtin.«zip.__next__» ⟨[.ref z], []⟩) (fun fin s' => ∃ v, fin = .done (.ret v) ∧ Q v s') E s := by
  show wpAny _ _ (field (.ref z) 2 >>= _) _ _ _
  refine wpAny_bind (wpAny_field hz rfl (x := .bool false) rfl ?_)
  show wpAny _ _ (field (.ref z) 3 >>= _) _ _ _
  refine wpAny_bind (wpAny_field hz rfl (x := .ref TI) rfl ?_)
  refine wpAny_bind (wpAny_seqItems hTI rfl ?_)
  show wpAny _ _ (Builtin.SmallTypes.ownedTupleIsFree (.ref z) >>= _) _ _ _
  refine wpAny_bind ?_
  unfold Builtin.SmallTypes.ownedTupleIsFree
  refine wpAny_bind (wpAny_field hz rfl (x := .none) rfl (wpAny_pure ?_))
  simp only [if_true]
  refine wpAny_bind (wpAny_rule ?_)
  refine wpAny_bind (wpAny_field hz rfl (x := .ref TO) rfl ?_)
  refine wpAny_bind (wpAny_setField_rec hz (by simp) fun g₁ hz₁ hs₁ => ?_)
  replace hz₁ : IsZip g₁ z TI TO .ellipsis := hz₁
  refine wpAny_bind ?_
  simp only [List.zipIdx_cons, List.zipIdx_nil, List.forIn_cons, List.forIn_nil]
  refine wpAny_bind (wpAny_bind (wpAny_onRaise ?_))
  show wpAny _ _ (Builtin.SmallTypes.nextOf (.ref i1) >>= _) _ _ _
  refine wpAny_bind (D1.item k { s with heap := g₁ } _ _ hk1 (keep2 D1 hs₁ D.i1z D.l1z h1) fun x g₂ tk₂ hx h1₂ hs₂ => wpAny_pure ?_)
  replace hs₂ : Heap.SameBut i1 g₁ g₂ := hs₂
  have hTO₂ : IsPair g₂ TO a b := hs₂.extBut _ _ D.TOi1 (hs₁.extBut _ _ D.TOz hTO)
  refine wpAny_bind (wpAny_seqItems hTO₂ rfl ?_)
  refine wpAny_bind (wpAny_updateSeq_pair hTO₂ fun g₃ hTO₃ hs₃ => ?_)
  replace hTO₃ : IsPair g₃ TO x b := hTO₃
  replace hs₃ : Heap.SameBut TO g₂ g₃ := hs₃
  refine wpAny_bind (wpAny_letGo (wpAny_pure ?_))
  refine wpAny_bind (wpAny_bind (wpAny_onRaise ?_))
  show wpAny _ _ (Builtin.SmallTypes.nextOf (.ref i2) >>= _) _ _ _
  refine wpAny_bind (D2.item k _ _ _ hk2 (keep2 D2 hs₃ D.TOi2.symm D.l2TO (keep2 D2 hs₂ D.i12.symm D.l2i1 (keep2 D2 hs₁ D.i2z D.l2z h2))) fun y g₄ tk₄ hy h2₄ hs₄ => wpAny_pure ?_)
  replace hs₄ : Heap.SameBut i2 g₃ g₄ := hs₄
  have hTO₄ : IsPair g₄ TO x b := hs₄.extBut _ _ D.TOi2 hTO₃
  refine wpAny_bind (wpAny_seqItems hTO₄ rfl ?_)
  refine wpAny_bind (wpAny_updateSeq_pair hTO₄ fun g₅ hTO₅ hs₅ => ?_)
  replace hTO₅ : IsPair g₅ TO x y := hTO₅
  replace hs₅ : Heap.SameBut TO g₄ g₅ := hs₅
  refine wpAny_bind (wpAny_letGo (wpAny_pure (wpAny_pure ?_)))
  refine wpAny_bind (wpAny_seqItems hTO₅ rfl ?_)
  refine wpAny_bind (wpAny_newTuple ?_)
  have hz₅ : IsZip g₅ z TI TO .ellipsis := hs₅.extBut _ _ D.TOz.symm (hs₄.extBut _ _ D.i2z.symm (hs₃.extBut _ _ D.TOz.symm (hs₂.extBut _ _ D.i1z.symm hz₁)))
  have hk₅ : ∀ c o, c ≠ z → c ≠ TO → c ≠ i1 → c ≠ i2 → s.heap.get? c = some o → g₅.get? c = some o := fun c o c1 c2 c3 c4 e =>
    hs₅.extBut _ _ c2 (hs₄.extBut _ _ c4 (hs₃.extBut _ _ c2 (hs₂.extBut _ _ c3 (hs₁.extBut _ _ c1 e))))
  have h1₅ : S1 (k + 1) g₅ := keep2 D1 hs₅ D.TOi1.symm D.l1TO (keep2 D1 hs₄ D.i12 D.l1i2 (keep2 D1 hs₃ D.TOi1.symm D.l1TO h1₂))
  have h2₅ : S2 (k + 1) g₅ := keep2 D2 hs₅ D.TOi2.symm D.l2TO h2₄
  have hsz : g₅.objs.size = s.heap.objs.size := by rw [hs₅.1, hs₄.1, hs₃.1, hs₂.1, hs₁.1]
  have hzlt : z < g₅.objs.size := Heap.lt_size hz₅
  show wpAny _ _ (Builtin.SmallTypes.ownedTupleHandOut (.ref z) (.ref g₅.objs.size) >>= _) _ _ _
  refine wpAny_bind ?_
  unfold Builtin.SmallTypes.ownedTupleHandOut
  have hz₆ : IsZip (g₅.push { cls := .type "tuple", data := .seq #[x, y] }) z TI TO .ellipsis := Heap.get?_push_of_some _ hz₅
  refine wpAny_bind (wpAny_setField_rec hz₆ (by simp) fun g₇ hz₇ hs₇ => ?_)
  replace hz₇ : IsZip g₇ z TI TO (rawInt g₅.objs.size) := hz₇
  refine wpAny_setField_rec hz₇ (by simp) fun g₈ hz₈ hs₈ => ?_
  replace hz₈ : IsZip g₈ z TI TO (rawInt g₅.objs.size) := hz₈
  have up : ∀ c o, c ≠ z → g₅.get? c = some o → g₈.get? c = some o := fun c o c1 e => hs₈.extBut _ _ c1 (hs₇.extBut _ _ c1 (Heap.get?_push_of_some _ e))
  have up1 : S1 (k + 1) g₈ := D1.frame _ _ _ h1₅ fun b hb o e => up b o (by simp at hb; rcases hb with rfl | rfl; exact D.i1z; exact D.l1z) e
  have up2 : S2 (k + 1) g₈ := D2.frame _ _ _ h2₅ fun b hb o e => up b o (by simp at hb; rcases hb with rfl | rfl; exact D.i2z; exact D.l2z) e
  have hT₈ : IsPair g₈ g₅.objs.size x y := hs₈.extBut _ _ (Nat.ne_of_gt hzlt) (hs₇.extBut _ _ (Nat.ne_of_gt hzlt) (Heap.get?_push_size _ rfl))
  refine wpAny_pure ⟨_, rfl, ?_⟩
  exact hQ g₈ _ _ x y hx hy hz₈ (up _ _ D.TOz hTO₅) up1 up2 hT₈ hsz fun c o c1 c2 c3 c4 e => up c o c1 (hk₅ c o c1 c2 c3 c4 e)
theorem zip_done {k : Nat} {Q : Fin → Shared → Prop} (hh : A.handled = none) (D : ZipApart z TI TO i1 i2 l1 l2) (D1 : Draws prog w A i1 [i1, l1] n1 P1 S1) (D2 : Draws prog w A i2 [i2, l2] n2 P2 S2) {a b : Value}
    (hz : IsZip s.heap z TI TO .none) (hTI : IsPair s.heap TI (.ref i1) (.ref i2)) (hTO : IsPair s.heap TO a b) (h1 : S1 k s.heap) (h2 : S2 k s.heap) (hend : k = n1 ∨ (k < n1 ∧ k = n2))
    (hE : ∀ h' tk e, (∀ c o, c ≠ z → c ≠ TO → c ≠ i1 → c ≠ i2 → s.heap.get? c = some o → h'.get? c = some o) → (∃ o, h'.get? e = some o ∧ o.cls = .type "StopIteration") → E (.ref e) { s with heap := h', toks := tk }) :
    wpAny (model prog w) A (Builtin.«zip.__next__» ⟨[.ref z], []⟩) Q E s := by
  show wpAny _ _ (field (.ref z) 2 >>= _) _ _ _
  refine wpAny_bind (wpAny_field hz rfl (x := .bool false) rfl ?_)
  show wpAny _ _ (field (.ref z) 3 >>= _) _ _ _
  refine wpAny_bind (wpAny_field hz rfl (x := .ref TI) rfl ?_)
  refine wpAny_bind (wpAny_seqItems hTI rfl ?_)
  show wpAny _ _ (Builtin.SmallTypes.ownedTupleIsFree (.ref z) >>= _) _ _ _
  refine wpAny_bind ?_
  unfold Builtin.SmallTypes.ownedTupleIsFree
  refine wpAny_bind (wpAny_field hz rfl (x := .none) rfl (wpAny_pure ?_))
  simp only [if_true]
  refine wpAny_bind (wpAny_rule ?_)
  refine wpAny_bind (wpAny_field hz rfl (x := .ref TO) rfl ?_)
  refine wpAny_bind (wpAny_setField_rec hz (by simp) fun g₁ hz₁ hs₁ => ?_)
  replace hz₁ : IsZip g₁ z TI TO .ellipsis := hz₁
  refine wpAny_bind ?_
  simp only [List.zipIdx_cons, List.zipIdx_nil, List.forIn_cons, List.forIn_nil]
  refine wpAny_bind (wpAny_bind (wpAny_onRaise ?_))
  show wpAny _ _ (Builtin.SmallTypes.nextOf (.ref i1) >>= _) _ _ _
  have h1' := keep2 D1 hs₁ D.i1z D.l1z h1
  rcases hend with rfl | ⟨hk1, rfl⟩
  · refine wpAny_bind (D1.done { s with heap := g₁ } _ _ h1' fun g₂ e hs₂ he => ?_)
    replace hs₂ : Heap.ExtBut i1 g₁ g₂ := hs₂
    obtain ⟨oe, hoe, hce⟩ := he
    have hz₂ : IsZip g₂ z TI TO .ellipsis := hs₂ _ _ D.i1z.symm hz₁
    have hez : e ≠ z := fun x => by subst x; rw [hz₂] at hoe; cases hoe; simp at hce
    refine wpAny_setField_rec hz₂ (by simp) fun g₃ _ hs₃ => hE g₃ _ e (fun c o c1 _ c3 _ x => hs₃.extBut _ _ c1 (hs₂ _ _ c3 (hs₁.extBut _ _ c1 x))) ⟨oe, hs₃.extBut _ _ hez hoe, hce⟩
  · refine wpAny_bind (D1.item k { s with heap := g₁ } _ _ hk1 h1' fun x g₂ tk₂ hx h1₂ hs₂ => wpAny_pure ?_)
    replace hs₂ : Heap.SameBut i1 g₁ g₂ := hs₂
    have hTO₂ : IsPair g₂ TO a b := hs₂.extBut _ _ D.TOi1 (hs₁.extBut _ _ D.TOz hTO)
    refine wpAny_bind (wpAny_seqItems hTO₂ rfl ?_)
    refine wpAny_bind (wpAny_updateSeq_pair hTO₂ fun g₃ hTO₃ hs₃ => ?_)
    replace hs₃ : Heap.SameBut TO g₂ g₃ := hs₃
    refine wpAny_bind (wpAny_letGo (wpAny_pure ?_))
    refine wpAny_bind (wpAny_bind (wpAny_onRaise ?_))
    show wpAny _ _ (Builtin.SmallTypes.nextOf (.ref i2) >>= _) _ _ _
    refine wpAny_bind (D2.done _ _ _ (keep2 D2 hs₃ D.TOi2.symm D.l2TO (keep2 D2 hs₂ D.i12.symm D.l2i1 (keep2 D2 hs₁ D.i2z D.l2z h2))) fun g₄ e hs₄ he => ?_)
    replace hs₄ : Heap.ExtBut i2 g₃ g₄ := hs₄
    obtain ⟨oe, hoe, hce⟩ := he
    have hz₄ : IsZip g₄ z TI TO .ellipsis := hs₄ _ _ D.i2z.symm (hs₃.extBut _ _ D.TOz.symm (hs₂.extBut _ _ D.i1z.symm hz₁))
    have hez : e ≠ z := fun x => by subst x; rw [hz₄] at hoe; cases hoe; simp at hce
    refine wpAny_setField_rec hz₄ (by simp) fun g₅ _ hs₅ => hE g₅ _ e (fun c o c1 c2 c3 c4 x => hs₅.extBut _ _ c1 (hs₄ _ _ c4 (hs₃.extBut _ _ c2 (hs₂.extBut _ _ c3 (hs₁.extBut _ _ c1 x))))) ⟨oe, hs₅.extBut _ _ hez hoe, hce⟩
end
theorem walksZ {prog : Program} {w : World} {A : Around} (hh : A.handled = none) (z TI TO i1 i2 l1 l2 : Addr) (D : ZipApart z TI TO i1 i2 l1 l2) {n1 n2 : Nat} {P1 P2 : Nat → Value → Prop} {S1 S2 : Nat → Heap → Prop}
    (D1 : Draws prog w A.in1 i1 [i1, l1] n1 P1 S1) (D2 : Draws prog w A.in1 i2 [i2, l2] n2 P2 S2) :
    WalksT prog w A z [z, TI, TO, i1, i2, l1, l2] [z, TO, i1, i2] (min n1 n2)
      (fun i vals => ∃ x y, P1 i x ∧ P2 i y ∧ vals = #[x, y])
      (fun i h => IsZip h z TI TO .none ∧ IsPair h TI (.ref i1) (.ref i2) ∧ (∃ a b, IsPair h TO a b) ∧ S1 i h ∧ S2 i h)
      (fun i T h => IsZip h z TI TO (rawInt T) ∧ IsPair h TI (.ref i1) (.ref i2) ∧ (∃ a b, IsPair h TO a b) ∧ S1 (i + 1) h ∧ S2 (i + 1) h ∧ T ≠ z ∧ T ≠ TO ∧ T ≠ i1 ∧ T ≠ i2) where
  sub := fun c hc => by simp at hc ⊢; rcases hc with rfl | rfl | rfl | rfl <;> simp
  frame := fun i h h' hst hk => by
    obtain ⟨hz, hTI, ⟨a, b, hTO⟩, h1, h2⟩ := hst
    exact ⟨hk z (by simp) _ hz, hk TI (by simp) _ hTI, ⟨a, b, hk TO (by simp) _ hTO⟩, D1.frame _ _ _ h1 fun b hb o e => hk b (by simp at hb; rcases hb with rfl | rfl <;> simp) o e,
      D2.frame _ _ _ h2 fun b hb o e => hk b (by simp at hb; rcases hb with rfl | rfl <;> simp) o e⟩
  item := fun i s Q E hi hst hQ => by
    obtain ⟨hz, hTI, ⟨a, b, hTO⟩, h1, h2⟩ := hst
    have hTy : s.TypeIs (.ref z) "zip" := ⟨_, hz, rfl⟩
    unfold pyNext
    refine wpAny_bind (wpAny_attempt (wpAny_callSpecial?_slot (name := Str.ofString "__next__") hTy F.slot_zip_next
      (wpAny_call_entry F.slot_zip_next hTy F.entry_zip_next
        (zip_item D D1 D2 hz hTI hTO h1 h2 (by omega) (by omega) fun h' tk T x y hx hy a1 a2 a3 a4 a5 hT hk => wpAny_pure ?_) (F.args_zip_next_1 _))))
    have lt : ∀ {c o}, s.heap.get? c = some o → T ≠ c := fun e q => by subst q; rw [hT, get_size] at e; cases e
    refine hQ T #[x, y] h' tk ⟨_, _, hx, hy, rfl⟩ (Nat.le_of_eq hT.symm) ⟨_, a5, rfl, _, rfl⟩ ⟨a1, hk _ _ D.TIz D.TITO D.TIi1 D.TIi2 hTI, ⟨_, _, a2⟩, a3, a4, lt hz, lt hTO, ?_, ?_⟩
      fun c o hc e => hk c o (fun x => hc (by simp [x])) (fun x => hc (by simp [x])) (fun x => hc (by simp [x])) (fun x => hc (by simp [x])) e
    · obtain ⟨o, e⟩ := D1.live _ _ h1; exact lt e
    · obtain ⟨o, e⟩ := D2.live _ _ h2; exact lt e
  go := fun elts k pos i T s Q E hm hQ => by
    obtain ⟨hz, hTI, ⟨a, b, hTO⟩, h1, h2, _⟩ := hm
    refine wpAny_letOwnedTupleGo_zip hz fun h' hz' hs' => hQ h' ⟨hz', hs'.extBut _ _ D.TIz hTI, ⟨a, b, hs'.extBut _ _ D.TOz hTO⟩, keep2 D1 hs' D.i1z D.l1z h1, keep2 D2 hs' D.i2z D.l2z h2⟩
      fun c o hc e => hs'.extBut _ _ (fun x => hc (by simp [x])) e
  apart := fun i T h hm hT => by
    obtain ⟨_, _, _, _, _, t1, t2, t3, t4⟩ := hm
    simp at hT
    rcases hT with rfl | rfl | rfl | rfl
    · exact t1 rfl
    · exact t2 rfl
    · exact t3 rfl
    · exact t4 rfl
  done := fun s Q E hst hQ => by
    obtain ⟨hz, hTI, ⟨a, b, hTO⟩, h1, h2⟩ := hst
    have hTy : s.TypeIs (.ref z) "zip" := ⟨_, hz, rfl⟩
    unfold pyNext
    refine wpAny_bind (wpAny_attempt (wpAny_callSpecial?_slot (name := Str.ofString "__next__") hTy F.slot_zip_next
      (wpAny_call_entry F.slot_zip_next hTy F.entry_zip_next (zip_done hh D D1 D2 hz hTI hTO h1 h2 (by omega) fun h' tk e hk he => ?_) (F.args_zip_next_1 _))))
    obtain ⟨o, ho, hc⟩ := he
    refine wpAny_bind (wpAny_isInstance (T := "StopIteration") (b := true) ⟨o, ho, hc⟩ isSubtype_stop ?_)
    exact wpAny_pure (hQ _ _ fun c o hc e => hk c o (fun x => hc (by simp [x])) (fun x => hc (by simp [x])) (fun x => hc (by simp [x])) (fun x => hc (by simp [x])) e)
  self := fun i s Q E hst hQ => wpAny_pyIter_zip hst.1 hQ
end Mine
end
section
set_option maxRecDepth 100000
set_option genSizeOf false
set_option genInjectivity false
namespace Mine
open PySem PyProof.Rows SeqAt
theorem codeAmong_more {pos : Pos} {v : Value} (l r : List Value) (h : TriplesOk l) (hn : codeAmong pos l = some v) : codeAmong pos (l ++ r) = some v := by
  fun_induction TriplesOk l with
  | case1 => simp [codeAmong] at hn
  | case2 a t b u x rest ih =>
    simp only [List.cons_append, codeAmong] at hn ⊢
    split at hn
    · rename_i q; rw [if_pos q]; exact hn
    · rename_i q; rw [if_neg q]; exact ih h hn
  | case3 l h1 h2 => exact h.elim
theorem codeAmong_back {pos : Pos} {v : Value} {a b : Int} {c : Value} (l : List Value) (h : TriplesOk l) (hn : codeAmong pos (l ++ [rawInt a, rawInt b, c]) = some v) : codeAmong pos l = some v ∨ v = c := by
  fun_induction TriplesOk l with
  | case1 =>
    simp only [List.nil_append, rawInt, codeAmong] at hn
    split at hn
    · cases hn; exact .inr rfl
    · cases hn
  | case2 a t b u x rest ih =>
    simp only [List.cons_append, codeAmong] at hn ⊢
    split at hn
    · rename_i q; rw [if_pos q]; exact .inl hn
    · rename_i q; rw [if_neg q]; exact ih h hn
  | case3 l h1 h2 => exact h.elim
section
variable {G : Gd}
theorem code_tr {h : Heap} {c P : Addr} {ps : Array Value} (e : h.IsCode c P ps) : TriplesOk ps.toList := by
  obtain ⟨_, _, _, _, _, _, _, _, _, _, _, _, _, _, _, _, _, _, _, htr, _⟩ := e
  exact htr
theorem tab_fun {h : Heap} {P : Addr} {ps ps' : Array Value} (e : h.get? P = some { cls := .none, data := .fields ps }) (e' : h.get? P = some { cls := .none, data := .fields ps' }) : ps' = ps := by
  have q := congrArg Obj.data (Option.some.inj (e.symm.trans e'))
  injection q with q
  exact q.symm
theorem St.table {s : Shared} (i : Inv G s) {c P : Addr} (hO : G.Own c P) {ps : Array Value} (ht : s.heap.TableAt c P ps) (htr : TriplesOk ps.toList) {pos : Pos} (hnf : codeAmong pos ps.toList = none) {h' : Heap} (hx : Heap.ExtBut P s.heap h') {c' P' : Addr} {q : Str}
    (ht' : h'.TableAt c P (ps ++ #[rawInt pos.line, rawInt pos.col, .ref c'])) (hcd : h'.TableAt c' P' #[]) (hrec : h'.CodeRec (.ref c') q) (tk : Nat) : St G s { s with heap := h', toks := tk } ∧ Entry h' P pos (.ref c') := by
  have hT : G.Tab P := ⟨c, hO⟩
  have ne : ∀ b, ¬ G.Tab b → b ≠ P := fun b h e => h (e ▸ hT)
  have el : (ps ++ #[rawInt pos.line, rawInt pos.col, Value.ref c']).toList = ps.toList ++ [rawInt pos.line, rawInt pos.col, .ref c'] := Array.toList_append
  have keepCls : ∀ b o, s.heap.get? b = some o → o.cls ≠ .none → h'.get? b = some o := fun b o e hc => hx b o (ne b (i.notTab e hc)) e
  refine ⟨⟨{ gk := i.gk, old := ?_, glob := i.glob.extBut hx (ne _ i.gk.nt.1), bts := i.bts.extBut hx (ne _ i.gk.nt.2.1), nolim := ?_, bare := i.bare, os := i.os, tab := fun c2 P2 hb => ?_ }, fun b o nt e => hx b o (ne b nt) e, fun P2 pos2 v hP2 en => ?_⟩, ⟨ht'.2, by rw [el]; exact codeAmong_snoc _ htr hnf⟩⟩
  · obtain ⟨ps0, t0⟩ := i.gk.tab0 c P hO
    exact i.old.step_table t0 ht ht' hx (fun e => i.gk.nt.2.2 (e ▸ hT))
  · obtain ⟨mc, hn, e⟩ := i.nolim
    exact ⟨mc, hn.extBut hx (ne _ i.gk.nt.2.2), e⟩
  · cases i.tab c2 P2 hb with | @mk ps2 e e2 hcc =>
    have hd' : W.CodeHd h' c2 P2 := by
      obtain ⟨o, vs, file, tf, flags, tg, inF, text, tt, a1, a2, r⟩ := W.CodeHd.of e e2
      exact ⟨o, vs, file, tf, flags, tg, inF, text, tt, keepCls _ _ a1 (a2 ▸ type_ne), a2, r⟩
    have old : ∀ pos2 v, codeAmong pos2 ps2.toList = some v → CodeV h' v := fun pos2 v hv => (hcc pos2 v hv).keeps fun b o e c => keepCls b o e (c.1 ▸ type_ne)
    by_cases hP : P2 = P
    · subst hP
      have hq := tab_fun ht.2 e2.2
      subst hq
      refine ⟨hd'.code ht'.2 (by rw [el]; exact TriplesOk_snoc _ _ _ _ htr), hd'.tab ht'.2, fun pos2 v hv => ?_⟩
      rw [el] at hv
      rcases codeAmong_back _ htr hv with hv | hv
      · exact old pos2 v hv
      · obtain ⟨⟨o, vs, a1, a2, _⟩, _⟩ := hcd
        exact hv ▸ ⟨a1, a2, hrec⟩
    · have g2 := hx _ _ hP e2.2
      exact ⟨hd'.code g2 (code_tr e), hd'.tab g2, old⟩
  · cases en with | mk e hv =>
    by_cases hP : P2 = P
    · subst hP
      have hq := tab_fun ht.2 e
      subst hq
      exact ⟨ht'.2, by rw [el]; exact codeAmong_more _ _ htr hv⟩
    · exact ⟨hx _ _ hP e, hv⟩
theorem fn_code {A : Around} {X : Value → Shared → Prop} {s : Shared} (i : Inv G s) {env : Env} {c P : Addr} (hc : env.code = .ref c) (hO : G.Own c P) {pos : Pos} {firstLine : Nat} {name qualname : Str} {p : Arguments} {scope : Scope} {body : FuncBody} {Q : Value → Shared → Prop}
    (h : ∀ v s', St G s s' → Entry s'.heap P pos v → Q v s') : wpAny (model G.prog G.w) A (functionCode env pos firstLine name qualname p scope body) Q X s := by
  cases i.tab c P hO with | @mk ps e e2 hcc =>
  cases hf : codeAmong pos ps.toList with
  | some v => exact wpAny_functionCode_hit hc e hf (h v s (.refl i) ⟨e2.2, hf⟩)
  | none =>
    refine wpAny_functionCodeX hc e e2 hf fun c' h' tk hx hge hlt hok' hrec htb htc => ?_
    obtain ⟨P', _, _, ht⟩ := htc
    obtain ⟨st, en⟩ := St.table i hO e2 (code_tr e) hf hx htb ht hrec tk
    exact h _ _ st en
theorem gen_code {A : Around} {X : Value → Shared → Prop} {s : Shared} (i : Inv G s) {env : Env} {c P : Addr} (hc : env.code = .ref c) (hO : G.Own c P) {pos : Pos} {qualname : Str} {scope : Scope} {Q : Value → Shared → Prop}
    (h : ∀ v s', St G s s' → Q v s') : wpAny (model G.prog G.w) A (genexprCode env pos qualname scope) Q X s := by
  cases i.tab c P hO with | @mk ps e e2 hcc =>
  cases hf : codeAmong pos ps.toList with
  | some v => exact wpAny_genexprCode_hit hc e hf (h v s (.refl i))
  | none =>
    refine wpAny_genexprCodeX hc e e2 hf fun c' h' tk hx hge hlt hok' hrec htb htc => ?_
    obtain ⟨P', _, _, ht⟩ := htc
    exact h _ _ (St.table i hO e2 (code_tr e) hf hx htb ht hrec tk).1
end
theorem beq_no {α : Type} [BEq α] [LawfulBEq α] {a b : α} (h : a ≠ b) : (a == b) = false := beq_eq_false_iff_ne.mpr h
section
variable {β : Type} {x : Str} {k : β} {l : List (Str × β)}
theorem mem_name (h : (x, k) ∈ l) : x ∈ l.map (·.1) := List.mem_map_of_mem (f := fun p : Str × β => p.1) h
theorem lookup_of (hn : (l.map (·.1)).Nodup) (h : (x, k) ∈ l) : l.lookup x = some k := by
  induction l with
  | nil => exact absurd h List.not_mem_nil
  | cons p r ih =>
    have hn := List.nodup_cons.mp hn
    rw [List.lookup_cons]
    rcases List.mem_cons.mp h with e | h
    · subst e; rw [beq_self_eq_true]
    · have hne : x ≠ p.1 := fun e => hn.1 (show p.1 ∈ _ from e ▸ mem_name h)
      rw [beq_no hne]; exact ih hn.2 h
theorem lookup_name (h : l.lookup x = some k) : x ∈ l.map (·.1) := mem_name (lookup_mem h)
end
theorem lk_hit {β : Type} {x : Str} {k : β} {r : List (Str × β)} : ((x, k) :: r).lookup x = some k := by rw [List.lookup_cons, beq_self_eq_true]
theorem lk_miss {β : Type} {x y : Str} {k : β} {r : List (Str × β)} (h : x ≠ y) : ((y, k) :: r).lookup x = r.lookup x := by rw [List.lookup_cons, beq_no h]
theorem idx_inj {sg : List (Str × Bool)} {x y : Str} (hx : x ∈ sg.map (·.1)) (h : idxOf sg x = idxOf sg y) : x = y := by
  unfold idxOf at h
  induction sg with
  | nil => exact absurd hx List.not_mem_nil
  | cons p r ih =>
    rw [List.findIdx_cons, List.findIdx_cons] at h
    cases q : p.1 == x with
    | true =>
      cases q' : p.1 == y with
      | true => exact (eq_of_beq q).symm.trans (eq_of_beq q')
      | false => rw [q, q'] at h; exact Nat.noConfusion h
    | false =>
      cases q' : p.1 == y with
      | true => rw [q, q'] at h; exact Nat.noConfusion h
      | false =>
        rw [q, q'] at h
        rcases List.mem_cons.mp hx with e | hx
        · rw [e, beq_self_eq_true] at q; exact Bool.noConfusion q
        · exact ih hx (Nat.succ.inj h)
theorem isVar_mem {sg : List (Str × Bool)} {x : Str} (h : isVar sg x = true) : x ∈ sg.map (·.1) := by
  unfold isVar at h
  cases e : sg.lookup x with
  | none => rw [e] at h; exact Bool.noConfusion h
  | some b => exact lookup_name e
theorem idx_lt {sg : List (Str × Bool)} {x : Str} (h : x ∈ sg.map (·.1)) : idxOf sg x < sg.length := by
  obtain ⟨p, hp, e⟩ := List.mem_map.mp h
  exact List.findIdx_lt_length.mpr ⟨p, hp, e ▸ beq_self_eq_true _⟩
theorem sig_names (sc : Scope) : (sig sc).map (·.1) = sc.names.map (·.1) := List.map_map
theorem kind_isVar {env : Env} {x : Str} {k : NameKind} (h : env.kindOf x = some k) (hk : isVarKind k = true) : isVar (sig env.scope) x = true := by
  unfold isVar
  rw [sig_lookup]
  unfold Env.kindOf at h
  rw [h]
  exact hk
theorem mem_kind {f : NameKind → Bool} {ns : List (Str × NameKind)} {x : Str} : x ∈ (ns.filter fun p => f p.2).map (·.1) ↔ ∃ k, (x, k) ∈ ns ∧ f k = true :=
  ⟨fun h => by
    obtain ⟨p, hp, e⟩ := List.mem_map.mp h
    have q := List.mem_filter.mp hp
    exact ⟨p.2, e ▸ q.1, q.2⟩, fun h => by
    obtain ⟨k, hk, q⟩ := h
    exact List.mem_map.mpr ⟨(x, k), List.mem_filter.mpr ⟨hk, q⟩, rfl⟩⟩
theorem mem_freeIn {sc : Scope} {x : Str} : x ∈ freeIn sc ↔ (x, NameKind.free) ∈ sc.names :=
  (mem_kind (f := (· == NameKind.free))).trans ⟨fun h => by obtain ⟨k, hk, q⟩ := h; exact eq_of_beq q ▸ hk, fun h => ⟨_, h, rfl⟩⟩
theorem ownKind_cases {k : NameKind} (h : ownKind k = true) : k = .local ∨ k = .cell := by
  cases k with
  | «local» => exact .inl rfl
  | cell => exact .inr rfl
  | _ => exact Bool.noConfusion h
theorem cellKind_cases {k : NameKind} (h : cellKind k = true) : k = .cell ∨ k = .free := by
  cases k with
  | cell => exact .inl rfl
  | free => exact .inr rfl
  | _ => exact Bool.noConfusion h
structure ScOk (cf : List Str) (sc : Scope) : Prop where
  kind : sc.kind = .function
  gen : sc.isGenerator = false
  co : sc.isCoroutine = false
  nd : (sc.names.map (·.1)).Nodup
  free : ∀ x ∈ freeIn sc, x ∈ cf
  nx : ∀ p ∈ sc.names, p.2 ≠ .globalExplicit
theorem scOk_of {cf : List Str} {sc : Scope} (h : scOk cf sc = true) : ScOk cf sc := by
  unfold scOk at h
  obtain ⟨h, h6⟩ := Bool.and_eq_true_iff.mp h
  obtain ⟨h, h5⟩ := Bool.and_eq_true_iff.mp h
  obtain ⟨h, h4⟩ := Bool.and_eq_true_iff.mp h
  obtain ⟨h, h3⟩ := Bool.and_eq_true_iff.mp h
  obtain ⟨h1, h2⟩ := Bool.and_eq_true_iff.mp h
  exact ⟨eq_of_beq h1, Bool.not_eq_true' _ ▸ h2, Bool.not_eq_true' _ ▸ h3, of_decide_eq_true h4, fun x hx => List.contains_iff_mem.mp (List.all_eq_true.mp h5 x hx), fun p hp => bne_iff_ne.mp (List.all_eq_true.mp h6 p hp)⟩
theorem cells_old {x : Str} {names : List (Str × NameKind)} : (x, NameKind.cell) ∉ names → ∀ (n : Nat) (acc : List (Str × Addr)), (cellsFrom n names acc).lookup x = acc.lookup x := by
  induction names with
  | nil => exact fun _ _ _ => rfl
  | cons p r ih =>
    intro h n acc
    have hr : (x, NameKind.cell) ∉ r := fun q => h (List.mem_cons_of_mem _ q)
    unfold cellsFrom
    by_cases hk : (p.2 == NameKind.cell) = true
    · rw [if_pos hk, ih hr]; exact lk_miss fun e => h (List.mem_cons.mpr (.inl (Prod.ext e (eq_of_beq hk).symm)))
    · rw [if_neg hk]; exact ih hr n acc
structure NewCells (h : Heap) (names : List (Str × NameKind)) (cells : List (Str × Addr)) (h' : Heap) : Prop where
  new : ∀ x, (x, NameKind.cell) ∈ names → ∃ c, cells.lookup x = some c ∧ h.objs.size ≤ c ∧ h'.IsCell c none
  inj : ∀ x y c, (x, NameKind.cell) ∈ names → (y, NameKind.cell) ∈ names → cells.lookup x = some c → cells.lookup y = some c → x = y
theorem cells_new {names : List (Str × NameKind)} : (names.map (·.1)).Nodup → ∀ (h : Heap) (acc : List (Str × Addr)), NewCells h names (cellsFrom h.objs.size names acc) (pushCells h names) := by
  induction names with
  | nil => exact fun _ _ _ => ⟨fun x hx => absurd hx List.not_mem_nil, fun x y c hx => absurd hx List.not_mem_nil⟩
  | cons p r ih =>
    intro hn h acc
    have hn := List.nodup_cons.mp hn
    unfold cellsFrom pushCells
    by_cases hk : (p.2 == NameKind.cell) = true
    · rw [if_pos hk, if_pos hk]
      have q := ih hn.2 (h.push { cls := .type "cell", data := .cell none }) ((p.1, h.objs.size) :: acc)
      rw [Heap.size_push] at q
      have ha : (cellsFrom (h.objs.size + 1) r ((p.1, h.objs.size) :: acc)).lookup p.1 = some h.objs.size := (cells_old (fun m => hn.1 (mem_name m)) _ _).trans lk_hit
      have far : ∀ y c, (y, NameKind.cell) ∈ r → (cellsFrom (h.objs.size + 1) r ((p.1, h.objs.size) :: acc)).lookup y = some c → c ≠ h.objs.size := fun y c hy ey e => by
        obtain ⟨c', e', l, _⟩ := q.new y hy
        rw [Heap.size_push] at l
        exact absurd (Option.some.inj (ey.symm.trans e') ▸ l) (e ▸ Nat.not_succ_le_self _)
      refine ⟨fun x hx => ?_, fun x y c hx hy ex ey => ?_⟩
      · rcases List.mem_cons.mp hx with e | hx
        · exact ⟨_, (congrArg Prod.fst e : x = p.1) ▸ ha, Nat.le_refl _, ⟨_, pushCells_keeps r _ _ _ (Heap.get?_push_size _ rfl), rfl⟩⟩
        · obtain ⟨c, e, l, w⟩ := q.new x hx
          rw [Heap.size_push] at l
          exact ⟨c, e, Nat.le_of_succ_le l, w⟩
      · rcases List.mem_cons.mp hx with e1 | hx <;> rcases List.mem_cons.mp hy with e2 | hy
        · exact (congrArg Prod.fst e1 : x = p.1).trans (congrArg Prod.fst e2 : y = p.1).symm
        · have e1 : x = p.1 := congrArg Prod.fst e1
          exact absurd (Option.some.inj (ex.symm.trans (e1 ▸ ha))) (far y c hy ey)
        · have e2 : y = p.1 := congrArg Prod.fst e2
          exact absurd (Option.some.inj (ey.symm.trans (e2 ▸ ha))) (far x c hx ex)
        · exact q.inj x y c hx hy ex ey
    · rw [if_neg hk, if_neg hk]
      have strip : ∀ x, (x, NameKind.cell) ∈ p :: r → (x, NameKind.cell) ∈ r := fun x hx => (List.mem_cons.mp hx).elim (fun e => absurd (show (p.2 == NameKind.cell) = true from (congrArg Prod.snd e : NameKind.cell = p.2) ▸ rfl) hk) id
      have q := ih hn.2 h acc
      exact ⟨fun x hx => q.new x (strip x hx), fun x y c hx hy => q.inj x y c (strip x hx) (strip y hy)⟩
noncomputable def clFrom (env : Env) : List (Str × NameKind) → List (Str × Addr) → List (Str × Addr)
  | [], acc => acc
  | p :: r, acc => bif p.2 == .free then clFrom env r ((p.1, (env.cells.lookup p.1).getD 0) :: acc) else clFrom env r acc
theorem closureFor_eq {scope : Scope} {env : Env} (h : ∀ x ∈ freeIn scope, ∃ c, env.cells.lookup x = some c) : closureFor scope env = pure (clFrom env scope.names []) := by
  have key : ∀ (names : List (Str × NameKind)), (∀ x, (x, NameKind.free) ∈ names → ∃ c, env.cells.lookup x = some c) → ∀ acc : List (Str × Addr),
      (forIn names acc fun (p : Str × NameKind) (cs : List (Str × Addr)) => (match p with | (name, kind) => if (kind == NameKind.free) = true then (do let a ← cellOf env name; pure (ForInStep.yield ((name, a) :: cs)) : Sem _) else pure (ForInStep.yield cs))) = pure (clFrom env names acc) := by
    intro names
    induction names with
    | nil => exact fun _ acc => rfl
    | cons p r ih =>
      intro hp acc
      have ih := ih fun x hx => hp x (List.mem_cons_of_mem _ hx)
      obtain ⟨nm, kd⟩ := p
      rw [List.forIn_cons]
      unfold clFrom
      cases hk : kd == NameKind.free with
      | true =>
        obtain ⟨c, e⟩ := hp nm (List.mem_cons.mpr (.inl (Prod.ext rfl (eq_of_beq hk).symm)))
        have e1 : cellOf env nm = pure c := by unfold cellOf; rw [e]
        show ((if (kd == NameKind.free) = true then _ else _) >>= _) = _
        rw [if_pos hk, e1, e]
        exact ih _
      | false =>
        show ((if (kd == NameKind.free) = true then _ else _) >>= _) = _
        rw [if_neg fun q => Bool.noConfusion (hk.symm.trans q)]
        exact ih _
  have := key scope.names (fun x hx => h x (mem_freeIn.mpr hx)) []
  unfold closureFor
  exact (congrArg (· >>= pure) this).trans rfl
theorem cl_lookup {env : Env} {x : Str} {c : Addr} (e : env.cells.lookup x = some c) {names : List (Str × NameKind)} : ∀ {acc : List (Str × Addr)}, ((x, NameKind.free) ∈ names ∧ (acc.lookup x = none ∨ acc.lookup x = some c)) ∨ acc.lookup x = some c → (clFrom env names acc).lookup x = some c := by
  induction names with
  | nil => exact fun h => h.elim (fun h => absurd h.1 List.not_mem_nil) id
  | cons p r ih =>
    intro acc h
    unfold clFrom
    cases hk : p.2 == NameKind.free with
    | true =>
      by_cases q : x = p.1
      · subst q; exact ih (.inr (lk_hit.trans (congrArg some (by rw [e]; rfl))))
      · have l : ((p.1, (env.cells.lookup p.1).getD 0) :: acc).lookup x = acc.lookup x := lk_miss q
        refine ih ?_
        rw [l]
        exact h.imp_left fun h => ⟨(List.mem_cons.mp h.1).elim (fun e => absurd (congrArg Prod.fst e) q) id, h.2⟩
    | false => exact ih (h.imp_left fun h => ⟨(List.mem_cons.mp h.1).elim (fun e => by rw [← e] at hk; exact Bool.noConfusion hk) id, h.2⟩)
theorem cl_free {env : Env} {sc : Scope} {x : Str} (hx : x ∈ freeIn sc) {c : Addr} (e : env.cells.lookup x = some c) : (clFrom env sc.names []).lookup x = some c := cl_lookup e (.inl ⟨mem_freeIn.mp hx, .inl rfl⟩)
inductive Owner where
  | out | loc | cell (i : Nat) | slot (i : Nat) | it
abbrev Th := Addr → Option Owner
noncomputable def Th.dom (Θ : Th) (a : Addr) : Prop := ∃ w, Θ a = some w
noncomputable def Th.mine (Θ : Th) (a : Addr) : Prop := ∃ w, Θ a = some w ∧ w ≠ .out
inductive Fixed : Owner → Prop
  | loc : Fixed .loc
  | cell {i : Nat} : Fixed (.cell i)
theorem Fixed.ni {w : Owner} (h : Fixed w) : w ≠ .it := fun e => by
  induction h with
  | loc => exact Owner.noConfusion e
  | cell => exact Owner.noConfusion e
theorem Fixed.no {w : Owner} (h : Fixed w) : w ≠ .out := fun e => by
  induction h with
  | loc => exact Owner.noConfusion e
  | cell => exact Owner.noConfusion e
theorem th_ne {Θ : Th} {a : Addr} {w w' : Owner} (h : Θ a = some w) (h' : Θ a = some w') : w = w' := Option.some.inj (h.symm.trans h')
structure SF (G : Gd) (Θ : Th) (h : Heap) (env : Env) (i : Nat) (sl : Slot) (y : Value) : Prop where
  sr : SR G Θ.dom h env sl y
  own : sl.isOwn = true → ∀ a, y = .ref a → Θ a = some (.slot i)
structure FR (G : Gd) (ow : List Str) (Θ : Th) (h : Heap) (env : Env) (m : Fr) : Prop where
  loc : Θ env.locals = some .loc
  ns : ∃ mm, h.Ns env.locals mm
  ox : OX G Θ.dom h
  new : ∀ a, Θ.mine a → G.h₀.get? a = none
  cel : ∀ x c, x ∈ ow → env.kindOf x = some .cell ∨ env.kindOf x = some .free → env.cells.lookup x = some c → Θ c = some (.cell (idxOf (sig env.scope) x))
  fre : ∀ x c, x ∉ ow → env.kindOf x = some .cell ∨ env.kindOf x = some .free → env.cells.lookup x = some c → ¬ Θ.mine c
  cells : ∀ x, env.kindOf x = some .cell ∨ env.kindOf x = some .free → CelA G h env x
  var : ∀ x sl, isVar (sig env.scope) x = true → m.at (idxOf (sig env.scope) x) = some sl → ∃ y, VarIs G h env x y ∧ SF G Θ h env (idxOf (sig env.scope) x) sl y
structure Ex (G : Gd) (Θ : Th) (h : Heap) (Θ' : Th) (h' : Heap) : Prop where
  kp : ∀ b o, ¬ G.Tab b → ¬ Θ.mine b → h.get? b = some o → h'.get? b = some o
  pr : ∀ a w, Θ a = some w → w ≠ .it → Θ' a = some w ∧ ∀ o, h.get? a = some o → h'.get? a = some o
  out : ∀ a, Θ' a = some .out → Θ a = some .out
  new : ∀ a, Θ'.mine a → Θ.mine a ∨ (h.get? a = none ∧ G.h₀.get? a = none)
  tb : ∀ P pos v, G.Tab P → Entry h P pos v → Entry h' P pos v
structure Sk (G : Gd) (Θ : Th) (s : Shared) (Θ' : Th) (s' : Shared) : Prop where
  inv : Inv G s'
  kp : ∀ b o, ¬ G.Tab b → ¬ Θ.mine b → s.heap.get? b = some o → s'.heap.get? b = some o
  out : ∀ a, Θ a = some .out ↔ Θ' a = some .out
  new : ∀ a, Θ'.dom a → Θ.dom a ∨ s.heap.get? a = none
  liv : ∀ a, Θ.mine a → ∃ o, s'.heap.get? a = some o
  tb : ∀ P pos v, G.Tab P → Entry s.heap P pos v → Entry s'.heap P pos v
  itk : ∀ b, Θ b = some .it → Θ' b = some .it ∧ ∀ o, s.heap.get? b = some o → s'.heap.get? b = some o
noncomputable def Sl (Θ : Th) (h : Heap) (Θ' : Th) (h' : Heap) : Prop := ∀ a i, Θ a = some (.slot i) → Θ' a = some (.slot i) ∧ ∀ o, h.get? a = some o → h'.get? a = some o
section
variable {G : Gd} {ow : List Str} {Θ Θ' Θ'' : Th} {h h' : Heap} {env : Env} {m m' : Fr} {s s' s'' : Shared}
theorem th_mine {a : Addr} {w : Owner} (t : Θ a = some w) (n : w ≠ .out) : Θ.mine a := ⟨w, t, n⟩
theorem mine_dom {a : Addr} (x : Θ.mine a) : Θ.dom a := by obtain ⟨w, e, _⟩ := x; exact ⟨w, e⟩
theorem dom_cases {a : Addr} (x : Θ.dom a) : Θ a = some .out ∨ Θ.mine a := by
  obtain ⟨w, e⟩ := x
  induction w with
  | out => exact .inl e
  | _ => exact .inr ⟨_, e, fun q => Owner.noConfusion q⟩
theorem not_mine {a : Addr} (t : Θ a = some .out) : ¬ Θ.mine a := fun x => by obtain ⟨w, e, n⟩ := x; exact n (th_ne e t)
theorem FR.there (r : FR G ow Θ h env m) {a : Addr} {w : Owner} (t : Θ a = some w) : ¬ G.Tab a ∧ ∃ o, h.get? a = some o := r.ox a ⟨w, t⟩
theorem FR.er (r : FR G ow Θ h env m) : ER G Θ.dom h env m := ⟨(r.there r.loc).1, r.ox, r.cells, fun x sl hx hm => by
  obtain ⟨y, v, q⟩ := r.var x sl hx hm
  exact ⟨y, v, q.sr⟩⟩
theorem FR.map (r : FR G ow Θ h env m) (hl : ∀ a w, Θ a = some w → Fixed w → Θ' a = some w ∧ ∀ o, h.get? a = some o → h'.get? a = some o) (hf : ∀ a o, ¬ G.Tab a → ¬ Θ.mine a → h.get? a = some o → ¬ Θ'.mine a ∧ h'.get? a = some o)
    (ox : OX G Θ'.dom h') (new : ∀ a, Θ'.mine a → G.h₀.get? a = none) (sf : ∀ x sl, isVar (sig env.scope) x = true → m'.at (idxOf (sig env.scope) x) = some sl → ∃ sl0, m.at (idxOf (sig env.scope) x) = some sl0 ∧
      ∀ y, VarIs G h env x y → SF G Θ h env (idxOf (sig env.scope) x) sl0 y → SF G Θ' h' env (idxOf (sig env.scope) x) sl y) : FR G ow Θ' h' env m' := by
  have kc : ∀ x c o, env.kindOf x = some .cell ∨ env.kindOf x = some .free → env.cells.lookup x = some c → ¬ G.Tab c → h.get? c = some o → h'.get? c = some o := fun x c o hk e nt g => by
    by_cases ho : x ∈ ow
    · exact (hl c _ (r.cel x c ho hk e) .cell).2 o g
    · exact (hf c o nt (r.fre x c ho hk e) g).2
  have cells : ∀ x, env.kindOf x = some .cell ∨ env.kindOf x = some .free → CelA G h' env x := fun x hx => by
    cases r.cells x hx with | mk e nt hv => exact ⟨e, nt, cell_kp hv fun o => kc x _ o hx e nt⟩
  have kl := (hl _ _ r.loc .loc).2
  refine ⟨(hl _ _ r.loc .loc).1, ?_, ox, new, fun x c ho hk e => (hl c _ (r.cel x c ho hk e) .cell).1, fun x c ho hk e => ?_, cells, fun x sl hx hm => ?_⟩
  · obtain ⟨mm, q⟩ := r.ns
    exact ⟨mm, ns_kp q kl⟩
  · cases r.cells x hk with | mk e' nt hv =>
    cases Option.some.inj (e.symm.trans e')
    obtain ⟨o, g, _⟩ := hv
    exact (hf c o nt (r.fre x c ho hk e) g).1
  · obtain ⟨sl0, e0, f⟩ := sf x sl hx hm
    obtain ⟨y, v, q⟩ := r.var x sl0 hx e0
    refine ⟨y, ?_, f y v q⟩
    induction v with
    | loc hk hn e => exact .loc hk (ns_kp hn kl) e
    | cel hk hc nt hv => exact .cel hk hc nt (cell_kp hv fun o => kc x _ o hk hc nt)
theorem Ex.dom (x : Ex G Θ h Θ' h') {a : Addr} {o : Obj} (e : h.get? a = some o) (hd : Θ'.dom a) : Θ.dom a :=
  (dom_cases hd).elim (fun t => ⟨_, x.out a t⟩) fun m => (x.new a m).elim mine_dom fun q => nos (q.1.symm.trans e)
theorem Ex.keep (nt : ∀ a o, h.get? a = some o → o.cls ≠ .none → ¬ G.Tab a) (x : Ex G Θ h Θ' h') : Keep Θ.dom Θ'.dom h h' := fun a o e c no => ⟨fun hd => no (x.dom e hd), x.kp a o (nt a o e c) (fun q => no (mine_dom q)) e⟩
theorem Ex.slots (x : Ex G Θ h Θ' h') : Sl Θ h Θ' h' := fun a i t => x.pr a _ t fun e => Owner.noConfusion e
theorem SF.map {i : Nat} {sl : Slot} {y : Value} (k : Keep Θ.dom Θ'.dom h h') (ks : ∀ a, Θ a = some (.slot i) → Θ' a = some (.slot i) ∧ ∀ o, h.get? a = some o → h'.get? a = some o) (tb : ∀ P pos v, G.Tab P → Entry h P pos v → Entry h' P pos v) (r : SF G Θ h env i sl y) : SF G Θ' h' env i sl y :=
  ⟨r.sr.map k (fun a o e ho g _ => (ks a (r.own ho a e)).2 o g) tb, fun ho a e => (ks a (r.own ho a e)).1⟩
theorem FR.ex (i : Inv G s) (x : Ex G Θ s.heap Θ' h') (ox : OX G Θ'.dom h') (r : FR G ow Θ s.heap env m) : FR G ow Θ' h' env m :=
  r.map (fun a w t f => x.pr a w t f.ni) (fun a o nt n e => ⟨fun q => (x.new a q).elim n fun q => nos (q.1.symm.trans e), x.kp a o nt n e⟩) ox (fun a q => (x.new a q).elim (r.new a) fun q => q.2)
    fun z sl _ hm => ⟨sl, hm, fun y _ q => q.map (x.keep fun a o e c => i.notTab e c) (fun a => x.slots a _) x.tb⟩
theorem Ex.of (ox : OX G Θ.dom s.heap) (st : St G s s') : Ex G Θ s.heap Θ s'.heap :=
  ⟨fun b o nt _ e => st.kp b o nt e, fun a w t _ => ⟨t, fun o e => st.kp a o (ox a ⟨w, t⟩).1 e⟩, fun _ t => t, fun _ q => .inl q, st.tb⟩
theorem FR.step (i : Inv G s) (st : St G s s') (r : FR G ow Θ s.heap env m) : FR G ow Θ s'.heap env m := r.ex i (Ex.of r.ox st) (r.ox.step st)
theorem Sk.of (st : St G s s') (ox : OX G Θ.dom s.heap) : Sk G Θ s Θ s' := ⟨st.inv, fun b o nt _ e => st.kp b o nt e, fun _ => Iff.rfl, fun _ h => .inl h, fun a q => by
    obtain ⟨nt, o, e⟩ := ox a (mine_dom q)
    exact ⟨o, st.kp _ _ nt e⟩, st.tb, fun b t => ⟨t, fun o e => st.kp b o (ox b ⟨_, t⟩).1 e⟩⟩
theorem Sk.keep (i : Inv G s) (x : Sk G Θ s Θ' s') : Keep Θ.dom Θ'.dom s.heap s'.heap := fun a o e c no => ⟨fun q => (x.new a q).elim no fun q => nos (q.symm.trans e), x.kp a o (i.notTab e c) (fun q => no (mine_dom q)) e⟩
theorem Sk.back (x : Sk G Θ s Θ' s') {a : Addr} (nt : ¬ G.Tab a) (e' : s'.heap.get? a = none) : s.heap.get? a = none := by
  cases e : s.heap.get? a with
  | none => rfl
  | some o =>
    by_cases hm : Θ.mine a
    · obtain ⟨o', e''⟩ := x.liv a hm; exact nos (e'.symm.trans e'')
    · exact nos (e'.symm.trans (x.kp a o nt hm e))
theorem Sk.mine (x : Sk G Θ s Θ' s') {a : Addr} (q : Θ'.mine a) : Θ.mine a ∨ s.heap.get? a = none := (x.new a (mine_dom q)).imp_left fun d => (dom_cases d).elim (fun t => absurd q (not_mine ((x.out a).mp t))) id
theorem Sk.trans (x : Sk G Θ s Θ' s') (y : Sk G Θ' s' Θ'' s'') (ox : OX G Θ''.dom s''.heap) : Sk G Θ s Θ'' s'' where
  inv := y.inv
  kp := fun b o nt n e => y.kp b o nt (fun q => (x.mine q).elim n fun q => nos (q.symm.trans e)) (x.kp b o nt n e)
  out := fun a => (x.out a).trans (y.out a)
  new := fun a q => (y.new a q).elim (x.new a) fun e => .inr (x.back (ox a q).1 e)
  liv := fun a q => by
    obtain ⟨o, e⟩ := x.liv a q
    by_cases hm : Θ'.mine a
    · exact y.liv a hm
    · by_cases nt : G.Tab a
      · obtain ⟨ps, e'⟩ := y.inv.tabObj nt; exact ⟨_, e'⟩
      · exact ⟨o, y.kp a o nt hm e⟩
  tb := fun P pos v hP e => y.tb P pos v hP (x.tb P pos v hP e)
  itk := fun b t => ⟨(y.itk b (x.itk b t).1).1, fun o e => (y.itk b (x.itk b t).1).2 o ((x.itk b t).2 o e)⟩
noncomputable def Th.drop (Θ : Th) (p : Nat → Bool) : Th := fun a => (Θ a).bind fun w => match w with
  | .slot i => bif p i then none else some (.slot i)
  | w => some w
theorem drop_of {p : Nat → Bool} {a : Addr} {w : Owner} (t : Θ a = some w) (n : ∀ i, w = .slot i → p i = false) : Θ.drop p a = some w := by
  unfold Th.drop
  rw [t]
  induction w with
  | slot i => exact (congrArg (fun b => bif b then none else some (Owner.slot i)) (n i rfl))
  | _ => rfl
theorem drop_gone {p : Nat → Bool} {a : Addr} {i : Nat} (t : Θ a = some (.slot i)) (n : p i = true) : ¬ (Θ.drop p).dom a := fun d => by
  obtain ⟨w, d⟩ := d
  unfold Th.drop at d
  rw [t] at d
  exact nos ((congrArg (fun b => bif b then none else some (Owner.slot i)) n).symm.trans d)
theorem drop_some {p : Nat → Bool} {a : Addr} {w : Owner} : Θ.drop p a = some w → Θ a = some w := by
  unfold Th.drop
  refine fun q => obind q fun v e q => e.trans (congrArg some ?_)
  induction v with
  | slot i =>
    cases hp : p i with
    | true => exact nos ((congrArg (fun b => bif b then none else some (Owner.slot i)) hp).symm.trans q)
    | false => exact Option.some.inj ((congrArg (fun b => bif b then none else some (Owner.slot i)) hp).symm.trans q)
  | _ => exact Option.some.inj q
theorem drop_mine {p : Nat → Bool} {a : Addr} (q : (Θ.drop p).mine a) : Θ.mine a := by obtain ⟨w, e, n⟩ := q; exact ⟨w, drop_some e, n⟩
theorem drop_dom {p : Nat → Bool} {a : Addr} (q : (Θ.drop p).dom a) : Θ.dom a := by obtain ⟨w, e⟩ := q; exact ⟨w, drop_some e⟩
theorem drop_keep {p : Nat → Bool} : Keep Θ.dom (Θ.drop p).dom h h := fun a o e _ no => ⟨fun q => no (drop_dom q), e⟩
theorem SF.drop {p : Nat → Bool} {i : Nat} {sl : Slot} {y : Value} (r : SF G Θ h env i sl y) : SF G (Θ.drop p) h env i (bif p i then sl.freeze else sl) y := by
  cases hp : p i with
  | true =>
    obtain ⟨sr, own⟩ := r
    induction sr with
    | v r => exact ⟨.v (r.mono drop_keep), fun e => Bool.noConfusion e⟩
    | ol r => exact ⟨.v (.mkL (drop_gone (own rfl _ rfl) hp) (r.mono drop_keep fun o e _ => e)), fun e => Bool.noConfusion e⟩
    | od r => exact ⟨.v (.mkD (drop_gone (own rfl _ rfl) hp) (r.mono drop_keep fun o e _ => e)), fun e => Bool.noConfusion e⟩
    | clo r => induction r with | mk no c => exact ⟨.clo (.mk (fun q => no (drop_dom q)) c), fun e => Bool.noConfusion e⟩
  | false => exact r.map drop_keep (fun a t => ⟨drop_of t fun j e => (by injection e with e; exact e ▸ hp), fun o e => e⟩) fun _ _ _ _ e => e
theorem frzB_eq (b : Bool) (s : Slot) : s.frzB b = bif b then s.freeze else s := by
  cases s with
  | v => cases b <;> rfl
  | clo => cases b <;> rfl
  | _ => rfl
theorem frzAt_get {l : List Nat} {m : Fr} : ∀ {i j : Nat}, (frzAt l i m)[j]? = (m[j]?).map (Option.map fun s => bif l.contains (i + j) then s.freeze else s) := by
  induction m with
  | nil => intro i j; rfl
  | cons x r ih =>
    intro i j
    induction j with
    | zero =>
      cases x with
      | none => rfl
      | some s => exact congrArg (fun s => some (some s)) (frzB_eq ..)
    | succ j => exact (ih (i := i + 1) (j := j)).trans (by rw [Nat.succ_add_eq_add_succ]; rfl)
theorem frz_at {l : List Nat} {j : Nat} {sl' : Slot} {C : Prop} (e : Fr.at (frzAt l 0 m) j = some sl') (k : ∀ sl, m.at j = some sl → sl' = (bif l.contains j then sl.freeze else sl) → C) : C := by
  unfold Fr.at at e k
  rw [frzAt_get, Nat.zero_add] at e
  cases q : m[j]? with
  | none => rw [q] at e; exact nos e
  | some o =>
    rw [q] at e
    cases o with
    | none => exact nos e
    | some sl => exact k sl (by rw [q]; rfl) (Option.some.inj e).symm
theorem freeze_own (sl : Slot) : sl.freeze.isOwn = false := by cases sl <;> rfl
theorem ne_frz (l : List Nat) (m : Fr) : NE (frzAt l 0 m) l := fun i hi sl e => frz_at e fun sl0 _ q => by
  rw [q, List.contains_iff_mem.mpr hi]; exact freeze_own sl0
theorem NE.frz {l l' : List Nat} (ne : NE m l) : NE (frzAt l' 0 m) l := fun i hi sl e => frz_at e fun sl0 e0 q => by
  rw [q]
  cases l'.contains i with
  | true => exact freeze_own sl0
  | false => exact ne i hi sl0 e0
theorem FR.frz (l : List Nat) (r : FR G ow Θ h env m) : FR G ow (Θ.drop l.contains) h env (frzAt l 0 m) :=
  r.map (fun a w t f => ⟨drop_of t fun i e => (by subst e; cases f), fun o e => e⟩) (fun a o _ n e => ⟨fun q => n (drop_mine q), e⟩) (fun a q => r.ox a (drop_dom q)) (fun a q => r.new a (drop_mine q))
    fun x sl hx e => frz_at e fun sl0 e0 q => ⟨sl0, e0, fun y _ w => q ▸ w.drop⟩
theorem Sk.drop {p : Nat → Bool} (i : Inv G s) (ox : OX G Θ.dom s.heap) : Sk G Θ s (Θ.drop p) s :=
  ⟨i, fun _ _ _ _ e => e, fun _ => ⟨fun t => drop_of t fun i e => Owner.noConfusion e, drop_some⟩, fun _ q => .inl (drop_dom q), fun a q => (ox a (mine_dom q)).2, fun _ _ _ _ e => e, fun b t => ⟨drop_of t fun i e => Owner.noConfusion e, fun _ e => e⟩⟩
end
theorem at_set {m : Fr} {i j : Nat} {s : Option Slot} {sl : Slot} {C : Prop} (h : Fr.at (m.set i s) j = some sl) (h1 : j = i → s = some sl → C) (h2 : j ≠ i → m.at j = some sl → C) : C := by
  have h : ((List.set m i s)[j]?).join = some sl := h
  by_cases e : j = i
  · subst e
    rw [List.getElem?_set_self'] at h
    cases q : m[j]? with
    | none => rw [q] at h; exact nos h
    | some z => rw [q] at h; exact h1 rfl h
  · rw [List.getElem?_set_ne (Ne.symm e)] at h
    exact h2 e h
section
variable {G : Gd} {ow : List Str} {Θ Θ' M : Th} {h h' : Heap} {env : Env} {m m' : Fr} {s s' : Shared} {a : Addr} {w : Owner}
theorem keep_wr (t : Θ a = some w) (hs : Heap.SameBut a h h') : Keep Θ.dom Θ.dom h h' := fun b o e _ no => ⟨no, hs.extBut b o (fun q => no ⟨w, q ▸ t⟩) e⟩
theorem tb_wr (nt : ¬ G.Tab a) (hs : Heap.SameBut a h h') : ∀ P pos v, G.Tab P → Entry h P pos v → Entry h' P pos v := fun P pos v hP en => by
  induction en with | mk e hv => exact ⟨hs.extBut _ _ (fun q => nt (q ▸ hP)) e, hv⟩
theorem SF.wr {i : Nat} {sl : Slot} {y : Value} (t : Θ a = some w) (n : w ≠ .slot i) (nt : ¬ G.Tab a) (hs : Heap.SameBut a h h') (r : SF G Θ h env i sl y) : SF G Θ h' env i sl y :=
  r.map (keep_wr t hs) (fun b tb => ⟨tb, fun o e => hs.extBut b o (fun q => n (th_ne t (q ▸ tb))) e⟩) (tb_wr nt hs)
theorem ox_wr (ox : OX G Θ.dom h) (hs : Heap.SameBut a h h') (he : ∃ o, h'.get? a = some o) : OX G Θ.dom h' := fun b hb => by
  obtain ⟨nt, o, e⟩ := ox b hb
  by_cases q : b = a
  · subst q; exact ⟨nt, he⟩
  · exact ⟨nt, o, hs.extBut _ _ q e⟩
theorem sk_wr {tk : Nat} (i : Inv G s) (ox : OX G Θ.dom s.heap) (t : Θ a = some w) (n : w ≠ .out) (ni : w ≠ .it) (h0 : G.h₀.get? a = none) (hc : ∀ o, s.heap.get? a = some o → ¬ Rec o) (hs : Heap.SameBut a s.heap h') (he : ∃ o, h'.get? a = some o) : Sk G Θ s Θ { s with heap := h', toks := tk } where
  inv := i.but (W := fun b => b = a) (fun b e => e ▸ h0) (fun b e => e ▸ (ox a ⟨w, t⟩).1) (fun b e => e ▸ hc) (fun b o n e => hs.extBut b o n e) tk
  kp := fun b o nt nm e => hs.extBut b o (fun q => nm (q ▸ th_mine t n)) e
  out := fun _ => Iff.rfl
  new := fun _ h => .inl h
  liv := fun b hb => (ox_wr ox hs he b (mine_dom hb)).2
  tb := tb_wr (ox a ⟨w, t⟩).1 hs
  itk := fun b tb => ⟨tb, fun o e => hs.extBut b o (fun q => ni (th_ne t (q ▸ tb))) e⟩
theorem FR.cne (r : FR G ow Θ h env m) {x : Str} {c : Addr} (hk : env.kindOf x = some .cell ∨ env.kindOf x = some .free) (e : env.cells.lookup x = some c) (t : Θ a = some w) (n : w ≠ .out) (nc : w ≠ .cell (idxOf (sig env.scope) x)) : c ≠ a := fun q => by
  by_cases ho : x ∈ ow
  · exact nc (th_ne t (q ▸ r.cel x c ho hk e))
  · exact r.fre x c ho hk e (q ▸ th_mine t n)
theorem data_rec {o : Obj} {es : Array DictEntry} {ep : Nat} (h : o.data = .dict es ep) : ¬ Rec o := fun q => by
  obtain ⟨_, vs, e⟩ := q
  exact Data.noConfusion (h.symm.trans e)
theorem ns_rec {mm : Str → Option Value} (x : h.Ns a mm) : ∀ o, h.get? a = some o → ¬ Rec o := fun o e => by
  obtain ⟨o', es, ep, ho, hd, _⟩ := x
  cases Option.some.inj (e.symm.trans ho)
  exact data_rec hd
theorem cell_rec {v : Option Value} (x : h.IsCell a v) : ∀ o, h.get? a = some o → ¬ Rec o := fun o e q => by
  obtain ⟨o', ho, hd⟩ := x
  cases Option.some.inj (e.symm.trans ho)
  obtain ⟨_, vs, e⟩ := q
  exact Data.noConfusion (hd.symm.trans e)
theorem ns_fun {mm mm' : Str → Option Value} (x : h.Ns a mm) (y : h.Ns a mm') : mm = mm' := by
  obtain ⟨o, es, ep, ho, hd, _, hm⟩ := x
  obtain ⟨o', es', ep', ho', hd', _, hm'⟩ := y
  cases Option.some.inj (ho.symm.trans ho')
  have e := hd.symm.trans hd'
  injection e with e _
  subst e
  exact funext fun z => (hm z).symm.trans (hm' z)
theorem ns_get {mm : Str → Option Value} (x : h.Ns a mm) : ∃ o, h.get? a = some o := by obtain ⟨o, _, _, ho, _⟩ := x; exact ⟨o, ho⟩
theorem cell_get {v : Option Value} (x : h.IsCell a v) : ∃ o, h.get? a = some o := by obtain ⟨o, ho, _⟩ := x; exact ⟨o, ho⟩
theorem sl_wr (t : Θ a = some w) (n : ∀ i, w ≠ .slot i) (hs : Heap.SameBut a h h') : Sl Θ h Θ h' := fun b i tb => ⟨tb, fun o e => hs.extBut b o (fun q => n i (th_ne t (q ▸ tb))) e⟩
theorem store_any {A : Around} {X : Value → Shared → Prop} (i : Inv G s) (hk : env.scope.kind = .function) (r : FR G ow Θ s.heap env m) {x : Str} (ho : x ∈ ow) (hb : env.kindOf x = some .local ∨ env.kindOf x = some .cell) {sl : Slot} {y : Value} (hs : SF G Θ s.heap env (idxOf (sig env.scope) x) sl y)
    {Q : Unit → Shared → Prop} (h : ∀ h' tk, FR G ow Θ h' env (m.set (idxOf (sig env.scope) x) (some sl)) → Sk G Θ s Θ { s with heap := h', toks := tk } → Sl Θ s.heap Θ h' → Q () { s with heap := h', toks := tk }) :
    wpAny (model G.prog G.w) A (storeName env x y) Q X s := by
  rcases hb with hl | hc
  · have hmem : x ∈ (sig env.scope).map (·.1) := isVar_mem (kind_isVar hl rfl)
    obtain ⟨mm, hn⟩ := r.ns
    have nt := (r.there r.loc).1
    have lo : Owner.loc ≠ .out := fun e => Owner.noConfusion e
    refine wpAny_storeName_local hl hn (fun h' hn' hsb => ?_) (hk ▸ rfl)
    have he := ns_get hn'
    have cn : ∀ {z c o}, env.kindOf z = some .cell ∨ env.kindOf z = some .free → env.cells.lookup z = some c → s.heap.get? c = some o → h'.get? c = some o := fun hz ez => hsb.extBut _ _ (r.cne hz ez r.loc lo fun e => Owner.noConfusion e)
    refine h h' _ ⟨r.loc, ⟨_, hn'⟩, ox_wr r.ox hsb he, r.new, r.cel, r.fre, fun z hz => ?_, fun z slz hz hm => at_set hm (fun q e => ?_) fun q e => ?_⟩ (sk_wr i r.ox r.loc lo (fun e => Owner.noConfusion e) (r.new _ (th_mine r.loc lo)) (ns_rec hn) hsb he) (sl_wr r.loc (fun _ e => Owner.noConfusion e) hsb)
    · cases r.cells z hz with | mk e nt hv => exact ⟨e, nt, cell_kp hv fun o => cn hz e⟩
    · cases e
      have hzx := idx_inj hmem q.symm
      subst hzx
      exact ⟨y, .loc hl hn' (if_pos rfl), hs.wr r.loc (fun e => Owner.noConfusion e) nt hsb⟩
    · obtain ⟨y', v, sf⟩ := r.var z slz hz e
      refine ⟨y', ?_, sf.wr r.loc (fun e => Owner.noConfusion e) nt hsb⟩
      induction v with
      | loc hk' hn2 e2 => exact .loc hk' hn' ((if_neg fun (h : z = x) => q (h ▸ rfl)).trans (ns_fun hn2 hn ▸ e2))
      | cel hk' hc nt hv => exact .cel hk' hc nt (cell_kp hv fun o => cn hk' hc)
  · have hmem : x ∈ (sig env.scope).map (·.1) := isVar_mem (kind_isVar hc rfl)
    cases r.cells x (.inl hc) with | @mk c _ e1 ntc hv0 =>
    have t := r.cel x c ho (.inl hc) e1
    have nt := (r.there t).1
    have no : Owner.cell (idxOf (sig env.scope) x) ≠ .out := fun e => Owner.noConfusion e
    refine wpAny_storeName_cell hk hc e1 hv0 fun h' hc' hsb => ?_
    have he := cell_get hc'
    have kl : ∀ o, s.heap.get? env.locals = some o → h'.get? env.locals = some o := fun o => hsb.extBut _ o fun q => Owner.noConfusion (th_ne t (q ▸ r.loc))
    have cn : ∀ {z c' o}, env.kindOf z = some .cell ∨ env.kindOf z = some .free → idxOf (sig env.scope) z ≠ idxOf (sig env.scope) x → env.cells.lookup z = some c' → s.heap.get? c' = some o → h'.get? c' = some o := fun hz ne ez => hsb.extBut _ _ (r.cne hz ez t no fun e => ne (by injection e with e; exact e.symm))
    refine h h' _ ⟨r.loc, ?_, ox_wr r.ox hsb he, r.new, r.cel, r.fre, fun z hz => ?_, fun z slz hz hm => at_set hm (fun q e => ?_) fun q e => ?_⟩ (sk_wr i r.ox t no (fun e => Owner.noConfusion e) (r.new _ (th_mine t no)) (cell_rec hv0) hsb he) (sl_wr t (fun _ e => Owner.noConfusion e) hsb)
    · obtain ⟨mm, hn⟩ := r.ns
      exact ⟨mm, ns_kp hn kl⟩
    · cases r.cells z hz with | @mk c' _ e nt hv =>
      by_cases q : c' = c
      · subst q; exact ⟨e, nt, hc'⟩
      · exact ⟨e, nt, cell_kp hv fun o => hsb.extBut _ o q⟩
    · cases e
      have hzx := idx_inj hmem q.symm
      subst hzx
      exact ⟨y, .cel (.inl hc) e1 ntc hc', hs.wr t (fun e => Owner.noConfusion e) nt hsb⟩
    · obtain ⟨y', v, sf⟩ := r.var z slz hz e
      refine ⟨y', ?_, sf.wr t (fun e => Owner.noConfusion e) nt hsb⟩
      induction v with
      | loc hk' hn2 e2 => exact .loc hk' (ns_kp hn2 kl) e2
      | cel hk' hc nt hv => exact .cel hk' hc nt (cell_kp hv fun o => cn hk' q hc)
theorem FR.wrS {j : Nat} (r : FR G ow Θ h env m) (t : Θ a = some (.slot j)) (hs : Heap.SameBut a h h') (he : ∃ o, h'.get? a = some o)
    (sf : ∀ x sl, isVar (sig env.scope) x = true → m'.at (idxOf (sig env.scope) x) = some sl → (idxOf (sig env.scope) x = j → ∃ sl0, m.at (idxOf (sig env.scope) x) = some sl0 ∧ ∀ y, VarIs G h env x y → SF G Θ h env (idxOf (sig env.scope) x) sl0 y → SF G Θ h' env (idxOf (sig env.scope) x) sl y) ∧
      (idxOf (sig env.scope) x ≠ j → m.at (idxOf (sig env.scope) x) = some sl)) : FR G ow Θ h' env m' := by
  refine r.map (fun b w tb f => ⟨tb, fun o => hs.extBut b o fun q => ?_⟩) (fun b o nt n e => ⟨n, hs.extBut b o (fun q => n (q ▸ th_mine t fun e => Owner.noConfusion e)) e⟩) (ox_wr r.ox hs he) r.new fun x sl hx hm => ?_
  · have e := th_ne t (q ▸ tb)
    subst e
    cases f
  · by_cases q : idxOf (sig env.scope) x = j
    · exact (sf x sl hx hm).1 q
    · exact ⟨sl, (sf x sl hx hm).2 q, fun y _ w => w.wr t (fun e => q (by injection e with e; exact e.symm)) (r.there t).1 hs⟩
noncomputable def Th.addM (Θ M : Th) : Th := fun a => (M a).or (Θ a)
structure NewTh (s s' : Shared) (M : Th) : Prop where
  fresh : ∀ a w, M a = some w → s.heap.get? a = none ∧ ∃ o, s'.heap.get? a = some o
  out : ∀ a, M a ≠ some .out
theorem addM_new {a : Addr} {w : Owner} (t : M a = some w) : Θ.addM M a = some w := by unfold Th.addM; rw [t]; rfl
theorem NewTh.old (n : NewTh s s' M) {a : Addr} {o : Obj} (e : s.heap.get? a = some o) : Θ.addM M a = Θ a := by
  unfold Th.addM
  cases q : M a with
  | none => rfl
  | some w => exact nos ((n.fresh a w q).1.symm.trans e)
theorem addM_cases {a : Addr} {w : Owner} {C : Prop} (t : Θ.addM M a = some w) (h1 : M a = some w → C) (h2 : Θ a = some w → C) : C := by
  unfold Th.addM at t
  cases q : M a with
  | none => rw [q] at t; exact h2 t
  | some v => rw [q] at t; exact h1 (q.trans t)
theorem NewTh.ex (n : NewTh s s' M) (i : Inv G s) (st : St G s s') (ox : OX G Θ.dom s.heap) : Ex G Θ s.heap (Θ.addM M) s'.heap :=
  ⟨fun b o nt _ e => st.kp b o nt e, fun a w t _ => by
    obtain ⟨nt, o, e⟩ := ox a ⟨w, t⟩
    exact ⟨(n.old e).trans t, fun o e => st.kp a o nt e⟩, fun a t => addM_cases t (fun q => absurd q (n.out a)) id, fun a q => by
    obtain ⟨w, t, nw⟩ := q
    exact addM_cases t (fun q => .inr ⟨(n.fresh a w q).1, i.new (n.fresh a w q).1⟩) fun q => .inl ⟨w, q, nw⟩, st.tb⟩
theorem NewTh.ox (n : NewTh s s' M) (i : Inv G s) (st : St G s s') (ox : OX G Θ.dom s.heap) : OX G (Θ.addM M).dom s'.heap := fun a q => by
  obtain ⟨w, t⟩ := q
  exact addM_cases t (fun q => ⟨i.freshNotTab (n.fresh a w q).1, (n.fresh a w q).2⟩) fun q => ox.step st a ⟨w, q⟩
theorem FR.addM (n : NewTh s s' M) (i : Inv G s) (st : St G s s') (r : FR G ow Θ s.heap env m) : FR G ow (Θ.addM M) s'.heap env m := r.ex i (n.ex i st r.ox) (n.ox i st r.ox)
theorem NewTh.sk (n : NewTh s s' M) (st : St G s s') (ox : OX G Θ.dom s.heap) : Sk G Θ s (Θ.addM M) s' where
  inv := st.inv
  kp := fun b o nt _ e => st.kp b o nt e
  out := fun a => ⟨fun t => by
    obtain ⟨_, o, e⟩ := ox a ⟨_, t⟩
    exact (n.old e).trans t, fun t => addM_cases t (fun q => absurd q (n.out a)) id⟩
  new := fun a q => by
    obtain ⟨w, t⟩ := q
    exact addM_cases t (fun q => .inr (n.fresh a w q).1) fun q => .inl ⟨w, q⟩
  liv := fun a q => by
    obtain ⟨nt, o, e⟩ := ox a (mine_dom q)
    exact ⟨o, st.kp _ _ nt e⟩
  tb := st.tb
  itk := fun b t => by
    obtain ⟨nt, o, e⟩ := ox b ⟨_, t⟩
    exact ⟨(n.old e).trans t, fun o e => st.kp b o nt e⟩
end
structure FA (G : Gd) (k : Nat) (T : Tx) (A : Around) (env : Env) (m : Fr) (Θ : Th) (s : Shared) : Prop where
  room : Room A k
  inv : Inv G s
  eo : EnvOk G T env
  fr : FR G T.ow Θ s.heap env m
structure Bd (G : Gd) (k : Nat) (T : Tx) (A : Around) (env : Env) (Θ : Th) (s : Shared) (m' : Fr) (s' : Shared) : Prop where
  fa : FA G k T A env m' Θ s'
  sk : Sk G Θ s Θ s'
  sl : Sl Θ s.heap Θ s'.heap
inductive Nms (T : Tx) : List Expr → List Nat → Prop
  | nil : Nms T [] []
  | cons {x : Str} {p : Pos} {i : Nat} {es : List Expr} {is : List Nat} (ho : x ∈ T.ow) (hi : idxOf T.sg x = i) (r : Nms T es is) : Nms T (.Name x p :: es) (i :: is)
inductive TgOk (T : Tx) : Expr → Tg → Prop
  | one {x : Str} {p : Pos} {i : Nat} (ho : x ∈ T.ow) (hi : idxOf T.sg x = i) : TgOk T (.Name x p) (.one i)
  | many {es : List Expr} {is : List Nat} {k : Nat} {p : Pos} (h : Nms T es is) : TgOk T (.Tuple es k p) (.many is)
section
variable {G : Gd} {k : Nat} {T : Tx} {A : Around} {env : Env} {m m' : Fr} {Θ Θ' Θ₀ : Th} {s s' s'' s₀ : Shared} {X : Value → Shared → Prop}
theorem FA.at (a : FA G k T A env m Θ s) : At G k T A env m Θ.dom s := ⟨a.room, a.inv, a.eo, a.fr.er⟩
theorem FA.step (a : FA G k T A env m Θ s) (st : St G s s') : FA G k T A env m Θ s' := ⟨a.room, st.inv, a.eo, a.fr.step a.inv st⟩
theorem FA.frz (a : FA G k T A env m Θ s) (l : List Nat) : FA G k T A env (frzAt l 0 m) (Θ.drop l.contains) s := ⟨a.room, a.inv, a.eo, a.fr.frz l⟩
theorem FA.dropSk (a : FA G k T A env m Θ s) (l : List Nat) : Sk G Θ s (Θ.drop l.contains) s := .drop a.inv a.fr.ox
theorem Sl.of (ox : OX G Θ.dom s.heap) (st : St G s s') : Sl Θ s.heap Θ s'.heap := (Ex.of ox st).slots
theorem Sl.trans {h h' h'' : Heap} {Θ'' : Th} (x : Sl Θ h Θ' h') (y : Sl Θ' h' Θ'' h'') : Sl Θ h Θ'' h'' := fun a i t => ⟨(y a i (x a i t).1).1, fun o e => (y a i (x a i t).1).2 o ((x a i t).2 o e)⟩
theorem Bd.st (a : FA G k T A env m Θ s) (st : St G s s') : Bd G k T A env Θ s m s' := ⟨a.step st, .of st a.fr.ox, .of a.fr.ox st⟩
theorem Bd.trans (x : Bd G k T A env Θ s m s') (y : Bd G k T A env Θ s' m' s'') : Bd G k T A env Θ s m' s'' := ⟨y.fa, x.sk.trans y.sk y.fa.fr.ox, x.sl.trans y.sl⟩
theorem storeF (a : FA G k T A env m Θ s) {x : Str} {i : Nat} (ho : x ∈ T.ow) (hi : idxOf T.sg x = i) {sl : Slot} {y : Value} (sf : SF G Θ s.heap env i sl y) {Q : Unit → Shared → Prop} (h : ∀ s', Bd G k T A env Θ s (m.set i (some sl)) s' → Q () s') :
    wpAny (model G.prog G.w) A (storeName env x y) Q X s := by
  subst hi
  rw [← a.eo.sg] at sf h
  exact store_any a.inv a.eo.kind a.fr ho (a.eo.bnd x ho) sf fun h' tk fr sk sl => h _ ⟨⟨a.room, sk.inv, a.eo, fr⟩, sk, sl⟩
theorem sf_v {env : Env} {h : Heap} {i : Nat} {v : V} {y : Value} (r : VR G Θ.dom h v y) : SF G Θ h env i (.v v) y := ⟨.v r, fun e => Bool.noConfusion e⟩
theorem each_len {es : List Expr} {is : List Nat} (h : Nms T es is) : (assignEach es env).length = is.length ∧ (assignEach es env).findIdx? (·.1) = none := by
  induction h with
  | nil => exact ⟨rfl, rfl⟩
  | @cons x p i es is ho hi _ ih => exact ⟨congrArg (· + 1) ih.1, (List.findIdx?_cons (xs := assignEach es env) (p := (·.1)) (x := (false, assign (.Name x p) env))).trans (congrArg (Option.map (· + 1)) ih.2)⟩
theorem assign_names {es : List Expr} {is : List Nat} (h : Nms T es is) : ∀ {vs : List V} {ys : List Value} {m : Fr} {s : Shared} {Q : Unit → Shared → Prop}, FA G k T A env m Θ s → is.length = vs.length → VRs G Θ.dom s.heap vs ys →
    (∀ s', Bd G k T A env Θ s (bindAll m is vs) s' → Q () s') → wpAny (model G.prog G.w) A (assignInOrder ((assignEach es env).map (·.2)) ys) Q X s := by
  induction h with
  | nil =>
    intro vs ys m s Q a hl hv hQ
    induction hv with
    | nil => exact wpAny_assignInOrder_none (hQ s (.st a (.refl a.inv)))
    | cons => exact Nat.noConfusion hl
  | @cons x p i es is ho hi _ ih =>
    intro vs ys m s Q a hl hv hQ
    induction hv with
    | nil => exact Nat.noConfusion hl
    | cons r rs => exact wpAny_assignInOrder_more (wpAny_assign_Name (storeF a ho hi (sf_v r) fun s' b => ih b.fa (Nat.succ.inj hl) (VRs.mono (b.sk.keep a.inv) rs) fun s'' b' => hQ s'' (b.trans b')))
theorem assign_any {e : Expr} {t : Tg} (h : TgOk T e t) (a : FA G k T A env m Θ s) {v : V} {y : Value} (r : VR G Θ.dom s.heap v y) (hb : m.bind t v = some m') {Q : Unit → Shared → Prop} (hQ : ∀ s', Bd G k T A env Θ s m' s' → Q () s') : wpAny (model G.prog G.w) A (assign e env y) Q X s := by
  induction h with
  | one ho hi => exact wpAny_assign_Name (storeF a ho hi (sf_v r) (Option.some.inj hb ▸ hQ))
  | many h =>
    refine obind hb fun vs hvs hb => oif (C := fun m' => (∀ s', Bd G k T A env Θ s m' s' → Q () s') → _) hb (fun hl hQ => ?_) hQ
    cases r.w.ot hvs with | mk rt =>
    cases rt with | @mk ws n e l rv =>
    refine wpAny_assign_Tuple a.room.handled ⟨_, e, rfl, _, rfl⟩ ((each_len h).1.trans (hl.trans (rv.length.trans (List.size_toArray ..).symm))) (each_len h).2 fun h' hx => ?_
    have st : St G s { s with heap := h' } := St.keeps a.inv (fun b o e => hx b o (Nat.ne_of_lt (Heap.lt_size e)) e) s.toks
    exact assign_names h (a.step st) hl (VRs.mono (st.vk a.inv) rv) fun s'' b => hQ s'' ((Bd.st a st).trans b)
structure Lp (G : Gd) (Θ₀ : Th) (s₀ : Shared) (wr : List Addr) (D : Addr → Prop) (Θ : Th) (s : Shared) : Prop where
  sk : Sk G Θ₀ s₀ Θ s
  it : ∀ b ∈ wr, Θ b = some .it
  dd : ∀ a, D a → a ∉ wr → ¬ Θ.dom a
  de : ∀ a, D a → ¬ G.Tab a ∧ ∃ o, s.heap.get? a = some o
  fresh : ∀ b ∈ wr, s₀.heap.get? b = none
noncomputable def Th.rem (Θ : Th) (wr : List Addr) : Th := fun a => bif wr.contains a then none else Θ a
section
variable {wr : List Addr} {D : Addr → Prop}
theorem rem_not {a : Addr} (h : a ∉ wr) : Θ.rem wr a = Θ a := by
  unfold Th.rem
  cases q : wr.contains a with
  | true => exact absurd (List.contains_iff_mem.mp q) h
  | false => rfl
theorem rem_some {a : Addr} {w : Owner} (t : Θ.rem wr a = some w) : a ∉ wr ∧ Θ a = some w := by
  unfold Th.rem at t
  cases q : wr.contains a with
  | true => rw [q] at t; exact nos t
  | false => rw [q] at t; exact ⟨fun h => Bool.noConfusion (q.symm.trans (List.contains_iff_mem.mpr h)), t⟩
theorem Lp.step (x : Lp G Θ₀ s₀ wr D Θ s) (y : Sk G Θ s Θ' s') (ox : OX G Θ'.dom s'.heap) : Lp G Θ₀ s₀ wr D Θ' s' where
  sk := x.sk.trans y ox
  it := fun b hb => (y.itk b (x.it b hb)).1
  dd := fun a ha hw hd => (y.new a hd).elim (x.dd a ha hw) fun q => by
    obtain ⟨_, o, e⟩ := x.de a ha
    exact nos (q.symm.trans e)
  de := fun a ha => by
    obtain ⟨nt, o, e⟩ := x.de a ha
    by_cases hw : a ∈ wr
    · exact ⟨nt, o, (y.itk a (x.it a hw)).2 o e⟩
    · exact ⟨nt, o, y.kp a o nt (fun q => x.dd a ha hw (mine_dom q)) e⟩
  fresh := x.fresh
theorem Lp.kd (x : Lp G Θ₀ s₀ wr D Θ s) (y : Sk G Θ s Θ' s') : Kd D s.heap s'.heap := fun b o hb e => by
  by_cases hw : b ∈ wr
  · exact (y.itk b (x.it b hw)).2 o e
  · exact y.kp b o (x.de b hb).1 (fun q => x.dd b hb hw (mine_dom q)) e
structure Turned (G : Gd) (wr : List Addr) (s : Shared) (h' : Heap) : Prop where
  k : Kw wr s.heap h'
  was : ∀ b ∈ wr, ∃ o, s.heap.get? b = some o ∧ o.cls ≠ .type "code"
theorem Lp.nt (i₀ : Inv G s₀) (x : Lp G Θ₀ s₀ wr D Θ s) : ∀ b ∈ wr, ¬ G.Tab b := fun b hb => i₀.freshNotTab (x.fresh b hb)
theorem Lp.inv (i₀ : Inv G s₀) (x : Lp G Θ₀ s₀ wr D Θ s) {h' : Heap} (t : Turned G wr s h') (tk : Nat) : Inv G { s with heap := h', toks := tk } :=
  x.sk.inv.but (W := fun b => b ∈ wr) (fun b hb => i₀.new (x.fresh b hb)) (x.nt i₀) (fun b hb o e q => by
    obtain ⟨o', e', n⟩ := t.was b hb
    cases Option.some.inj (e.symm.trans e')
    exact n q.1) t.k tk
theorem wr_not (hw : ∀ b ∈ wr, Θ b = some .it) {a : Addr} {w : Owner} (t : Θ a = some w) (n : w ≠ .it) : a ∉ wr := fun q => n (th_ne t (hw a q))
theorem Lp.tb (i₀ : Inv G s₀) (x : Lp G Θ₀ s₀ wr D Θ s) {h' : Heap} (k : Kw wr s.heap h') : ∀ P pos v, G.Tab P → Entry s.heap P pos v → Entry h' P pos v := fun P pos v hP en => by
  induction en with | mk e hv => exact ⟨k P _ (fun q => x.nt i₀ P q hP) e, hv⟩
theorem Lp.exT (i₀ : Inv G s₀) (x : Lp G Θ₀ s₀ wr D Θ s) {h' : Heap} (k : Kw wr s.heap h') : Ex G Θ s.heap Θ h' :=
  ⟨fun b o nt n e => k b o (fun q => n (th_mine (x.it b q) fun e => Owner.noConfusion e)) e, fun a w t n => ⟨t, fun o => k a o (wr_not x.it t n)⟩, fun _ t => t, fun _ => .inl, x.tb i₀ k⟩
theorem Lp.exR (i₀ : Inv G s₀) (x : Lp G Θ₀ s₀ wr D Θ s) {h' : Heap} (k : Kw wr s.heap h') : Ex G Θ s.heap (Θ.rem wr) h' :=
  ⟨fun b o nt n e => k b o (fun q => n (th_mine (x.it b q) fun e => Owner.noConfusion e)) e, fun a w t n => ⟨(rem_not (wr_not x.it t n)).trans t, fun o => k a o (wr_not x.it t n)⟩, fun _ t => (rem_some t).2, fun _ q => by
    obtain ⟨w, t, n⟩ := q
    exact .inl ⟨w, (rem_some t).2, n⟩, x.tb i₀ k⟩
theorem Lp.turn (i₀ : Inv G s₀) (x : Lp G Θ₀ s₀ wr D Θ s) (a : FA G k T A env m Θ s) {h' : Heap} (t : Turned G wr s h') (liv : ∀ b ∈ wr, ∃ o, h'.get? b = some o) (tk : Nat) : Lp G Θ₀ s₀ wr D Θ { s with heap := h', toks := tk } ∧ FA G k T A env m Θ { s with heap := h', toks := tk } := by
  have live : ∀ b, (∃ o, s.heap.get? b = some o) → ∃ o, h'.get? b = some o := fun b q => by
    by_cases hw : b ∈ wr
    · exact liv b hw
    · obtain ⟨o, e⟩ := q; exact ⟨o, t.k b o hw e⟩
  have nf : ∀ b o, s₀.heap.get? b = some o → b ∉ wr := fun b o e q => nos ((x.fresh b q).symm.trans e)
  exact ⟨⟨⟨x.inv i₀ t tk, fun b o nt n e => t.k b o (nf b o e) (x.sk.kp b o nt n e), x.sk.out, x.sk.new, fun b q => live b (x.sk.liv b q), fun P pos v hP e => x.tb i₀ t.k P pos v hP (x.sk.tb P pos v hP e), fun b q => ⟨(x.sk.itk b q).1, fun o e => t.k b o (nf b o e) ((x.sk.itk b q).2 o e)⟩⟩,
    x.it, x.dd, fun b q => ⟨(x.de b q).1, live b (x.de b q).2⟩, x.fresh⟩, ⟨a.room, x.inv i₀ t tk, a.eo, a.fr.ex a.inv (x.exT i₀ t.k) fun b q => ⟨(a.fr.ox b q).1, live b (a.fr.ox b q).2⟩⟩⟩
theorem Lp.leave (i₀ : Inv G s₀) (ox₀ : OX G Θ₀.dom s₀.heap) (x : Lp G Θ₀ s₀ wr D Θ s) (a : FA G k T A env m Θ s) {h' : Heap} (t : Kw wr s.heap h') {tk : Nat} (i' : Inv G { s with heap := h', toks := tk }) : Sk G Θ₀ s₀ (Θ.rem wr) { s with heap := h', toks := tk } ∧ FA G k T A env m (Θ.rem wr) { s with heap := h', toks := tk } := by
  have nf : ∀ b o, s₀.heap.get? b = some o → b ∉ wr := fun b o e q => nos ((x.fresh b q).symm.trans e)
  have no : ∀ b w, Θ₀ b = some w → b ∉ wr := fun b w q => by obtain ⟨_, o, e⟩ := ox₀ b ⟨w, q⟩; exact nf b o e
  refine ⟨⟨i', fun b o nt n e => t b o (nf b o e) (x.sk.kp b o nt n e), fun b => ⟨fun q => (rem_not (no b _ q)).trans ((x.sk.out b).mp q), fun q => (x.sk.out b).mpr (rem_some q).2⟩, fun b q => ?_, fun b q => ?_, fun P pos v hP e => x.tb i₀ t P pos v hP (x.sk.tb P pos v hP e), fun b q => ⟨(rem_not (no b _ q)).trans (x.sk.itk b q).1, fun o e => t b o (nf b o e) ((x.sk.itk b q).2 o e)⟩⟩,
    ⟨a.room, i', a.eo, a.fr.ex a.inv (x.exR i₀ t) fun b q => ?_⟩⟩
  · obtain ⟨w, q⟩ := q
    exact x.sk.new b ⟨w, (rem_some q).2⟩
  · obtain ⟨w, q', _⟩ := id q
    obtain ⟨o, e⟩ := x.sk.liv b q
    exact ⟨o, t b o (no b w q') e⟩
  · obtain ⟨w, q⟩ := q
    obtain ⟨nt, o, e⟩ := a.fr.ox b ⟨w, (rem_some q).2⟩
    exact ⟨nt, o, t b o (rem_some q).1 e⟩
noncomputable def itTh (wr : List Addr) : Th := fun b => bif wr.contains b then some .it else none
theorem itTh_in {b : Addr} (h : b ∈ wr) : itTh wr b = some .it := congrArg (fun c => bif c then some Owner.it else none) (List.contains_iff_mem.mpr h)
theorem itTh_some {b : Addr} {w : Owner} (h : itTh wr b = some w) : b ∈ wr ∧ w = .it := by
  unfold itTh at h
  cases q : wr.contains b with
  | true => rw [q] at h; exact ⟨List.contains_iff_mem.mp q, (Option.some.inj h).symm⟩
  | false => rw [q] at h; exact nos h
theorem itTh_new (new : ∀ b ∈ wr, s.heap.get? b = none ∧ ∃ o, s'.heap.get? b = some o) : NewTh s s' (itTh wr) := ⟨fun b w q => new b (itTh_some q).1, fun b q => Owner.noConfusion (itTh_some q).2⟩
theorem itTh_rem (h : ∀ a w, Θ a = some w → a ∉ wr) : (Θ.addM (itTh wr)).rem wr = Θ := funext fun a => by
  by_cases q : a ∈ wr
  · have e : (Θ.addM (itTh wr)).rem wr a = none := congrArg (fun c => bif c then none else Θ.addM (itTh wr) a) (List.contains_iff_mem.mpr q)
    rw [e]
    cases e : Θ a with
    | none => rfl
    | some w => exact absurd q (h a w e)
  · rw [rem_not q]
    unfold Th.addM
    cases e : itTh wr a with
    | none => rfl
    | some w => exact absurd (itTh_some e).1 q
theorem Lp.start {O₀ : Addr → Prop} (a : FA G k T A env m Θ s) (st : St G s s') (hO : O₀ = Θ.dom) (new : ∀ b ∈ wr, s.heap.get? b = none ∧ ∃ o, s'.heap.get? b = some o) : Lp G Θ s wr (Dn G O₀ s') (Θ.addM (itTh wr)) s' ∧ FA G k T A env m (Θ.addM (itTh wr)) s' :=
  have n := itTh_new new
  ⟨⟨n.sk st a.fr.ox, fun b hb => addM_new (itTh_in hb), fun b q hw d => by
    obtain ⟨w, t⟩ := d
    exact addM_cases t (fun q => hw (itTh_some q).1) fun t => q.1 (hO ▸ ⟨w, t⟩), fun b q => q.2, fun b hb => (new b hb).1⟩, ⟨a.room, st.inv, a.eo, a.fr.addM n a.inv st⟩⟩
end
end
noncomputable def cellAt (cells : List (Str × Addr)) (b : Addr) (p : Str × NameKind) : Bool := p.2 == .cell && cells.lookup p.1 == some b
theorem cellAt_of {cells : List (Str × Addr)} {b : Addr} {ns : List (Str × NameKind)} {p : Str × NameKind} (h : ns.find? (cellAt cells b) = some p) : (p.1, NameKind.cell) ∈ ns ∧ cells.lookup p.1 = some b := by
  have q : cellAt cells b p = true := List.find?_some h
  obtain ⟨q1, q2⟩ := Bool.and_eq_true_iff.mp q
  have e : (p.1, NameKind.cell) = p := Prod.ext rfl (eq_of_beq q1).symm
  exact ⟨e.symm ▸ List.mem_of_find?_eq_some h, eq_of_beq q2⟩
noncomputable def Th.new (B : Th) (L : Addr) (names : List (Str × NameKind)) (sg : List (Str × Bool)) (cells : List (Str × Addr)) : Th := fun b =>
  (B b).or (bif b == L then some .loc else (names.find? (cellAt cells b)).map fun p => .cell (idxOf sg p.1))
theorem mem_owOf {sc : Scope} {x : Str} : x ∈ owOf sc ↔ (x, NameKind.local) ∈ sc.names ∨ (x, NameKind.cell) ∈ sc.names :=
  (mem_kind (f := ownKind)).trans ⟨fun h => by
    obtain ⟨k, hk, q⟩ := h
    exact (ownKind_cases q).imp (fun e => by subst e; exact hk) fun e => by subst e; exact hk, fun h => h.elim (fun h => ⟨_, h, rfl⟩) fun h => ⟨_, h, rfl⟩⟩
theorem mem_cfOf {sc : Scope} {x : Str} : x ∈ cfOf sc ↔ (x, NameKind.cell) ∈ sc.names ∨ (x, NameKind.free) ∈ sc.names :=
  (mem_kind (f := cellKind)).trans ⟨fun h => by
    obtain ⟨k, hk, q⟩ := h
    exact (cellKind_cases q).imp (fun e => by subst e; exact hk) fun e => by subst e; exact hk, fun h => h.elim (fun h => ⟨_, h, rfl⟩) fun h => ⟨_, h, rfl⟩⟩
theorem one_kind {ns : List (Str × NameKind)} (nd : (ns.map (·.1)).Nodup) {x : Str} {k k' : NameKind} (h : (x, k) ∈ ns) (h' : (x, k') ∈ ns) : k = k' := Option.some.inj ((lookup_of nd h).symm.trans (lookup_of nd h'))
structure NewF (G : Gd) (sc : Scope) (B : Th) (s : Shared) (Θ : Th) (env : Env) (m : Fr) (h' : Heap) : Prop where
  fr : FR G (owOf sc) Θ h' env m
  dom : ∀ b, Θ.dom b → B.dom b ∨ s.heap.get? b = none
  bb : ∀ b w, B b = some w → Θ b = some w
  out : ∀ b, Θ b = some .out → B b = some .out
section
variable {G : Gd} {s : Shared} {sc : Scope} {cl : List (Str × Addr)} {B : Th} {o : Obj} {mm : Str → Option Value} {env : Env} {m : Fr}
theorem new_frame (i : Inv G s) (nd : (sc.names.map (·.1)).Nodup) (ox : OX G B.dom s.heap) (bn : ∀ a, B.mine a → G.h₀.get? a = none) (hf : o.isFreed = false) (hns : (s.heap.push o).Ns s.heap.objs.size mm)
    (hcl : ∀ x ∈ freeIn sc, ∃ c v, cl.lookup x = some c ∧ ¬ G.Tab c ∧ ¬ B.mine c ∧ s.heap.IsCell c v) (hl : env.locals = s.heap.objs.size) (hc : env.cells = cellsFrom (s.heap.push o).objs.size sc.names cl) (hsg : sig env.scope = sig sc)
    (hk : ∀ x, env.kindOf x = some .cell ∨ env.kindOf x = some .free → (x, NameKind.cell) ∈ sc.names ∨ x ∈ freeIn sc) (hkf : ∀ x ∈ freeIn sc, env.kindOf x = some .cell ∨ env.kindOf x = some .free)
    (hm : ∀ j sl, m.at j = some sl → ∃ x ∈ freeIn sc, idxOf (sig sc) x = j ∧ ∃ c y, cl.lookup x = some c ∧ s.heap.IsCell c (some y) ∧ SF G B s.heap env j sl y) :
    NewF G sc B s (B.new s.heap.objs.size sc.names (sig sc) env.cells) env m (pushCells (s.heap.push o) sc.names) := by
  have nc := cells_new nd (s.heap.push o) cl
  rw [← hc] at nc
  have keep : ∀ b o', s.heap.get? b = some o' → (pushCells (s.heap.push o) sc.names).get? b = some o' := fun b o' e => pushCells_keeps _ _ b o' (Heap.get?_push_of_some _ e)
  have hL0 : s.heap.get? s.heap.objs.size = none := get_size _
  have fr0 : ∀ b, s.heap.get? b = none → B b = none := fun b e => by
    cases q : B b with
    | none => rfl
    | some w => obtain ⟨_, o, g⟩ := ox b ⟨w, q⟩; exact nos (e.symm.trans g)
  have cnew : ∀ x c, (x, NameKind.cell) ∈ sc.names → env.cells.lookup x = some c → s.heap.get? c = none ∧ c ≠ s.heap.objs.size ∧ (pushCells (s.heap.push o) sc.names).IsCell c none := fun x c hx e => by
    obtain ⟨c', e', l, q⟩ := nc.new x hx
    cases Option.some.inj (e.symm.trans e')
    rw [Heap.size_push] at l
    exact ⟨Heap.get?_none_of_le (Nat.le_of_succ_le l), fun e => Nat.not_succ_le_self _ (e ▸ l), q⟩
  have cold : ∀ x ∈ freeIn sc, env.cells.lookup x = cl.lookup x := fun x hx => hc ▸ cells_old (fun h => NameKind.noConfusion (one_kind nd h (mem_freeIn.mp hx))) _ _
  have tB : ∀ b w, B b = some w → B.new s.heap.objs.size sc.names (sig sc) env.cells b = some w := fun b w q => by unfold Th.new; rw [q]; rfl
  have tL : B.new s.heap.objs.size sc.names (sig sc) env.cells s.heap.objs.size = some .loc := by unfold Th.new; rw [fr0 _ hL0, beq_self_eq_true]; rfl
  have tC : ∀ x c, (x, NameKind.cell) ∈ sc.names → env.cells.lookup x = some c → B.new s.heap.objs.size sc.names (sig sc) env.cells c = some (.cell (idxOf (sig sc) x)) := fun x c hx e => by
    obtain ⟨h0, hL, _⟩ := cnew x c hx e
    unfold Th.new
    rw [fr0 _ h0, beq_no hL]
    cases q : sc.names.find? (cellAt env.cells c) with
    | none => exact absurd (show cellAt env.cells c (x, .cell) = true by unfold cellAt; rw [e, beq_self_eq_true, beq_self_eq_true]; rfl) (List.find?_eq_none.mp q _ hx)
    | some p => exact congrArg (fun z => some (Owner.cell (idxOf (sig sc) z))) (nc.inj p.1 x c (cellAt_of q).1 hx (cellAt_of q).2 e)
  have cases3 : ∀ {b w} {C : Prop}, B.new s.heap.objs.size sc.names (sig sc) env.cells b = some w → (B b = some w → C) → (w ≠ .out → s.heap.get? b = none → (∃ o', (pushCells (s.heap.push o) sc.names).get? b = some o') → C) → C := fun {b w C} t h1 h2 => by
    unfold Th.new at t
    cases q : B b with
    | some v => rw [q] at t; exact h1 (q.trans t)
    | none =>
      rw [q] at t
      cases q' : b == s.heap.objs.size with
      | true =>
        rw [q'] at t
        have e := eq_of_beq q'
        exact h2 (fun e => Owner.noConfusion ((Option.some.inj t).trans e)) (e ▸ hL0) ⟨o, e ▸ pushCells_keeps _ _ _ _ (Heap.get?_push_size _ hf)⟩
      | false =>
        rw [q'] at t
        exact omap (C := fun w => (w ≠ .out → s.heap.get? b = none → _ → C) → C) (o := sc.names.find? _) t (fun p hp h2 => by
          obtain ⟨h0, _, hv⟩ := cnew p.1 b (cellAt_of hp).1 (cellAt_of hp).2
          exact h2 (fun e => Owner.noConfusion e) h0 (cell_get hv)) h2
  have dom : ∀ b, (B.new s.heap.objs.size sc.names (sig sc) env.cells).dom b → B.dom b ∨ s.heap.get? b = none := fun b q => by
    obtain ⟨w, t⟩ := q
    exact cases3 t (fun q => .inl ⟨w, q⟩) fun _ q _ => .inr q
  have kp : Keep B.dom (B.new s.heap.objs.size sc.names (sig sc) env.cells).dom s.heap (pushCells (s.heap.push o) sc.names) := fun a o' e _ no => ⟨fun q => (dom a q).elim no fun q => nos (q.symm.trans e), keep a o' e⟩
  have frm : ∀ x c, x ∈ freeIn sc → env.cells.lookup x = some c → ¬ G.Tab c ∧ ¬ (B.new s.heap.objs.size sc.names (sig sc) env.cells).mine c ∧ ∃ v, s.heap.IsCell c v := fun x c hx e => by
    obtain ⟨c', v, e', nt, nm, hv⟩ := hcl x hx
    cases Option.some.inj ((e.symm.trans (cold x hx)).trans e')
    obtain ⟨o', g⟩ := cell_get hv
    exact ⟨nt, fun q => by
      obtain ⟨w, t, n⟩ := q
      exact cases3 t (fun q => nm ⟨w, q, n⟩) fun _ q _ => nos (q.symm.trans g), v, hv⟩
  refine ⟨⟨hl ▸ tL, ⟨mm, hl ▸ hns.keeps fun b o' => pushCells_keeps _ _ b o'⟩, fun b q => ?_, fun b q => ?_, fun x c ho hx e => ?_, fun x c ho hx e => ?_, fun x hx => ?_, fun x sl hx hs => ?_⟩, dom, tB, fun b t => cases3 t id fun n _ _ => absurd rfl n⟩
  · obtain ⟨w, t⟩ := q
    refine cases3 t (fun q => ?_) fun _ q e => ⟨i.freshNotTab q, e⟩
    obtain ⟨nt, o', e⟩ := ox b ⟨w, q⟩
    exact ⟨nt, o', keep _ _ e⟩
  · obtain ⟨w, t, n⟩ := q
    exact cases3 t (fun q => bn b ⟨w, q, n⟩) fun _ q _ => i.new q
  · rw [hsg]
    refine tC x c ((hk x hx).elim id fun hf => ?_) e
    exact (mem_owOf.mp ho).elim (fun q => NameKind.noConfusion (one_kind nd q (mem_freeIn.mp hf))) id
  · exact (frm x c ((hk x hx).elim (fun q => absurd (mem_owOf.mpr (.inr q)) ho) id) e).2.1
  · rcases hk x hx with q | q
    · obtain ⟨c, e, _⟩ := nc.new x q
      exact ⟨e, i.freshNotTab (cnew x c q e).1, (cnew x c q e).2.2⟩
    · obtain ⟨c, v, e, nt, _, hv⟩ := hcl x q
      exact ⟨(cold x q).trans e, nt, hv.keeps keep⟩
  · rw [hsg] at hx hs
    obtain ⟨z, hz, e1, c, y, e2, hv, sf⟩ := hm _ sl hs
    have q : z = x := idx_inj (isVar_mem (by unfold isVar; rw [sig_lookup, lookup_of nd (mem_freeIn.mp hz)]; rfl)) e1
    subst q
    obtain ⟨c', v', e3, nt, _, _⟩ := hcl z hz
    cases Option.some.inj (e2.symm.trans e3)
    rw [hsg]
    exact ⟨y, .cel (hkf z hz) ((cold z hz).trans e2) nt (hv.keeps keep), sf.map kp (fun a t => ⟨tB a _ t, keep a⟩) fun P pos v _ en => by induction en with | mk e hv => exact ⟨keep _ _ e, hv⟩⟩
end
inductive NextG (gens : List Comprehension) (d : Nat) : Prop
  | none (h : gens[d]? = none)
  | some {t it : Expr} {ifs : List Expr} (h : gens[d]? = some ⟨t, it, ifs, 0⟩) (hfs : ∀ env x, foldedSetIterable it env x = pure x)
structure Inner (M : Model) (A : Around) (e : Expr) (gens : List Comprehension) (emit : Sem Unit) (d : Nat) (D : Addr) (env : Env) (Q : Unit → Shared → Prop) (X : Value → Shared → Prop) (s : Shared) : Prop where
  none : gens[d]? = none → wpAny M A emit Q X s
  some : ∀ t it ifs, gens[d]? = some ⟨t, it, ifs, 0⟩ → wpAny M A (eval it env) (fun x s₁ => wpAny M A (pyIter x) (fun l s₂ => wpAny M A (runOwn (.compStart e d l (.ref D) env) env) (fun _ s₃ => Q () s₃) X s₂) X s₁) X s
structure CompE (e : Expr) (gens : List Comprehension) (emit : Addr → Env → Sem Unit) : Prop where
  clauses : clausesOf e = gens
  quiet : ∀ d it acc env, Code.quiet (.compLoop e d it acc env) = true
  loop : ∀ {prog w d it acc env}, (model prog w).den (.compLoop e d it acc env) = (compTurn e d it acc env).onRaise (fun x => do noteFrame x env; theTreesLotGoes x)
  start : ∀ {prog w d it acc env}, (model prog w).den (.compStart e d it acc env) = (compStart e d it acc env).onRaise (fun x => do noteFrame x env; standAt theWindowsPlace)
  underL : ∀ {A d it acc env}, Around.under A (.compLoop e d it acc env) = A
  underS : ∀ {A d it acc env}, Around.under A (.compStart e d it acc env) = A
  turn : ∀ {M A Q X s d D it env t iter ifs}, gens[d]? = some ⟨t, iter, ifs, 0⟩ → NextG gens (d + 1) →
    wpAny M A (pyNext it) (fun r s₁ => (r = none → Q (.done .next) s₁) ∧ ∀ y, r = some y → wpAny M A (letOwnedTupleGo t it y) (fun _ s₂ => wpAny M A (assign t env y) (fun _ s₃ =>
      wpAny M A (forIn ifs true fun c r => if r = true then do let ok ← isTrue c env (eval c env); pure (ForInStep.yield ok) else pure (ForInStep.yield r)) (fun ok s₄ =>
        (ok = false → Q (.again (.compLoop e d it (.ref D) env)) s₄) ∧ (ok = true → Inner M A e gens (emit D env) (d + 1) D env (fun _ s₅ => Q (.again (.compLoop e d it (.ref D) env)) s₅) X s₄)) X s₃) X s₂) X s₁) X s →
    wpAny M A (compTurn e d it (.ref D) env) Q X s
noncomputable def emitL (elt : Expr) (D : Addr) (env : Env) : Sem Unit := eval elt env >>= fun x => call (.builtin "list.append") [.ref D, x] >>= fun _ => pure ()
noncomputable def emitD (k v : Expr) (D : Addr) (env : Env) : Sem Unit := eval k env >>= fun kv => holding [kv] (eval v env) >>= fun vv => standAt { k.pos with endLine := v.pos.endLine, endCol := v.pos.endCol } >>= fun _ => holding [kv, vv] (dictSet D kv vv)
theorem compE_list {elt : Expr} {gens : List Comprehension} {sc : Scope} {pos : Pos} : CompE (.ListComp elt gens sc pos) gens (emitL elt) where
  clauses := rfl
  quiet := fun _ _ _ _ => rfl
  loop := rfl
  start := rfl
  underL := rfl
  underS := rfl
  turn := fun {M A Q X s d D it env t iter ifs} hg hn h => by
    unfold compTurn
    dsimp only
    rw [hg]
    refine wpAny_bind (wpAny_standAt (wpAny_bind (wpAny_mono h (fun r s₁ h₁ => ?_) fun _ _ x => x)))
    cases r with
    | none => exact wpAny_pure (h₁.1 rfl)
    | some y =>
      refine wpAny_bind (wpAny_mono (h₁.2 y rfl) (fun _ s₂ h₂ => wpAny_bind (wpAny_mono h₂ (fun _ s₃ h₃ => wpAny_bind (wpAny_mono h₃ (fun ok s₄ h₄ => ?_) fun _ _ x => x)) fun _ _ x => x)) fun _ _ x => x)
      cases ok with
      | false => exact wpAny_pure (h₄.1 rfl)
      | true =>
        cases hn with
        | none hn =>
          rw [hn]
          exact wpAny_bind (wpAny_mono ((h₄.2 rfl).none hn) (fun _ s₅ h₅ => wpAny_pure h₅) fun _ _ x => x)
        | some hn hfs =>
          rw [hn]
          exact wpAny_bind (wpAny_mono ((h₄.2 rfl).some _ _ _ hn) (fun x s₅ h₅ => wpAny_bind (wpAny_standAt (wpAny_bind (wpAny_of_eq (hfs env x) (wpAny_bind (wpAny_holding (wpAny_mono h₅ (fun l s₆ h₆ => wpAny_bind (wpAny_mono h₆ (fun _ s₇ h₇ => wpAny_pure h₇) fun _ _ x => x)) fun _ _ x => x))))))) fun _ _ x => x)
theorem compE_dict {ke ve : Expr} {gens : List Comprehension} {sc : Scope} {pos : Pos} : CompE (.DictComp ke ve gens sc pos) gens (emitD ke ve) where
  clauses := rfl
  quiet := fun _ _ _ _ => rfl
  loop := rfl
  start := rfl
  underL := rfl
  underS := rfl
  turn := fun {M A Q X s d D it env t iter ifs} hg hn h => by
    unfold compTurn
    dsimp only
    rw [hg]
    refine wpAny_bind (wpAny_standAt (wpAny_bind (wpAny_mono h (fun r s₁ h₁ => ?_) fun _ _ x => x)))
    cases r with
    | none => exact wpAny_pure (h₁.1 rfl)
    | some y =>
      refine wpAny_bind (wpAny_mono (h₁.2 y rfl) (fun _ s₂ h₂ => wpAny_bind (wpAny_mono h₂ (fun _ s₃ h₃ => wpAny_bind (wpAny_mono h₃ (fun ok s₄ h₄ => ?_) fun _ _ x => x)) fun _ _ x => x)) fun _ _ x => x)
      cases ok with
      | false => exact wpAny_pure (h₄.1 rfl)
      | true =>
        cases hn with
        | none hn =>
          rw [hn]
          exact wpAny_bind (wpAny_mono ((h₄.2 rfl).none hn) (fun _ s₅ h₅ => wpAny_pure h₅) fun _ _ x => x)
        | some hn hfs =>
          rw [hn]
          exact wpAny_bind (wpAny_mono ((h₄.2 rfl).some _ _ _ hn) (fun x s₅ h₅ => wpAny_bind (wpAny_standAt (wpAny_bind (wpAny_of_eq (hfs env x) (wpAny_bind (wpAny_holding (wpAny_mono h₅ (fun l s₆ h₆ => wpAny_bind (wpAny_mono h₆ (fun _ s₇ h₇ => wpAny_pure h₇) fun _ _ x => x)) fun _ _ x => x))))))) fun _ _ x => x)
noncomputable def reK (env : Env) (x : Str) (k : NameKind) : NameKind := bif k == .free && env.scope.kind == .function && env.kindOf x == some .cell then .cell else k
theorem re_pair (env : Env) (p : Str × NameKind) : (match p with | (n, k) => if (k == NameKind.free && env.scope.kind == ScopeKind.function && env.kindOf n == some NameKind.cell) = true then (n, NameKind.cell) else (n, k)) = (p.1, reK env p.1 p.2) := by
  obtain ⟨n, k⟩ := p
  unfold reK
  cases q : k == NameKind.free && env.scope.kind == ScopeKind.function && env.kindOf n == some NameKind.cell with
  | true => exact if_pos q
  | false => exact if_neg fun h => Bool.noConfusion (q.symm.trans h)
theorem relabel_names (sc : Scope) (env : Env) : (relabel sc env).names = sc.names.map fun p => (p.1, reK env p.1 p.2) := List.map_congr_left fun p _ => re_pair env p
theorem relabel_lookup (sc : Scope) (env : Env) (x : Str) : (relabel sc env).names.lookup x = (sc.names.lookup x).map (reK env x) := by
  rw [relabel_names]
  induction sc.names with
  | nil => rfl
  | cons p r ih =>
    rw [List.map_cons, List.lookup_cons, List.lookup_cons]
    cases q : x == p.1 with
    | true => cases eq_of_beq q; rfl
    | false => exact ih
theorem reK_free {env : Env} {x : Str} {k : NameKind} (h : reK env x k ≠ k) : k = .free ∧ reK env x k = .cell := by
  unfold reK at h ⊢
  cases q : k == NameKind.free && env.scope.kind == ScopeKind.function && env.kindOf x == some NameKind.cell with
  | true => exact ⟨eq_of_beq (Bool.and_eq_true_iff.mp (Bool.and_eq_true_iff.mp q).1).1, rfl⟩
  | false => rw [q] at h; exact absurd rfl h
theorem reK_cases (env : Env) (x : Str) (k : NameKind) : reK env x k = k ∨ (k = .free ∧ reK env x k = .cell) := by
  by_cases h : reK env x k = k
  · exact .inl h
  · exact .inr (reK_free h)
theorem relabel_sig (sc : Scope) (env : Env) : sig (relabel sc env) = sig sc := by
  unfold sig
  rw [relabel_names, List.map_map]
  refine List.map_congr_left fun p _ => Prod.ext rfl ?_
  show isVarKind (reK env p.1 p.2) = isVarKind p.2
  rcases reK_cases env p.1 p.2 with e | ⟨e, e'⟩
  · rw [e]
  · rw [e', e]; rfl
theorem capture_at {m : Fr} {g : Nat → Bool} {inner outer : List (Str × Bool)} {fr : List Str} : ∀ {f : Fr} {j : Nat} {sl : Slot}, Fr.at ((capOf inner outer fr).foldl (fun f p => f.set p.1 (capIn g (m.at p.2))) f) j = some sl →
    (∃ x ∈ fr, idxOf inner x = j ∧ capIn g (m.at (idxOf outer x)) = some sl) ∨ Fr.at f j = some sl := by
  induction fr with
  | nil => exact fun h => .inr h
  | cons x r ih =>
    intro f j sl h
    rcases ih h with ⟨y, hy, q⟩ | q
    · exact .inl ⟨y, List.mem_cons_of_mem _ hy, q⟩
    · exact at_set q (fun e q => .inl ⟨x, List.mem_cons_self .., e.symm, q⟩) fun _ q => .inr q
theorem at_none {n j : Nat} {sl : Slot} {C : Prop} (h : Fr.at (List.replicate n none) j = some sl) : C := by
  unfold Fr.at at h
  rw [List.getElem?_replicate] at h
  by_cases q : j < n
  · rw [if_pos q] at h; exact nos h
  · rw [if_neg q] at h; exact nos h
theorem capIn_some {g : Nat → Bool} {o : Option Slot} {sl : Slot} : capIn g o = some sl → o = some sl ∧ ∀ f, sl = .clo f → g f = true := by
  cases o with
  | none => exact nos
  | some s =>
    cases s with
    | clo f =>
      intro h
      have h : (bif g f then some (Slot.clo f) else none) = some sl := h
      cases q : g f with
      | true => rw [q] at h; exact ⟨h, fun f' e => by rw [e] at h; injection (Option.some.inj h) with h; exact h ▸ q⟩
      | false => rw [q] at h; exact nos h
    | _ => exact fun h => ⟨h, fun f e => by rw [e] at h; cases h⟩
theorem captured {m : Fr} {g : Nat → Bool} {inner outer : List (Str × Bool)} {fr : List Str} {n j : Nat} {sl : Slot} {C : Prop} (h : (m.capture g (capOf inner outer fr) n).at j = some sl) (k : ∀ x ∈ fr, idxOf inner x = j → m.at (idxOf outer x) = some sl → (∀ f, sl = .clo f → g f = true) → C) : C := by
  rcases capture_at h with ⟨x, hx, e, q⟩ | q
  · exact k x hx e (capIn_some q).1 (capIn_some q).2
  · exact at_none q
theorem cap_ne {m : Fr} {inner outer : List (Str × Bool)} {fr : List Str} (ne : NE m ((capOf inner outer fr).map (·.2))) {x : Str} (hx : x ∈ fr) {sl : Slot} (e : m.at (idxOf outer x) = some sl) : sl.isOwn = false :=
  ne _ (List.mem_map.mpr ⟨_, List.mem_map.mpr ⟨x, hx, rfl⟩, rfl⟩) sl e
noncomputable def AllV (m : Fr) : Prop := ∀ i sl, m.at i = some sl → sl.isOwn = false
theorem AllV.ne {m : Fr} (h : AllV m) (l : List Nat) : NE m l := fun i _ => h i
theorem AllV.set {m : Fr} (h : AllV m) {i : Nat} {v : V} : AllV (m.set i (some (.v v))) := fun j sl e => at_set e (fun _ q => by cases q; rfl) fun _ q => h j sl q
theorem AllV.all {is : List Nat} : ∀ {vs : List V} {m : Fr}, AllV m → AllV (bindAll m is vs) := by
  induction is with
  | nil => exact fun h => h
  | cons i is ih =>
    intro vs m h
    cases vs with
    | nil => exact h
    | cons v vs => exact ih (vs := vs) (h.set (i := i) (v := v))
theorem AllV.bind {m m' : Fr} {t : Tg} {v : V} (h : AllV m) (e : m.bind t v = some m') : AllV m' := by
  induction t with
  | one i => exact Option.some.inj e ▸ h.set
  | many is => exact obind e fun vs _ e => oif (C := AllV) e fun _ => h.all
inductive SBl (G : Gd) (c : Cx) (k : Nat) (T : Tx) : List Expr → Es → Prop
  | nil : SBl G c k T [] .nil
  | cons {e : Expr} {es : List Expr} {t : E} {ts : Es} (h : SB G c k T e t) (r : SBl G c k T es ts) : SBl G c k T (e :: es) (.cons t ts)
section
variable {G : Gd} {c : Cx} {k : Nat} {T : Tx} {A : Around} {env : Env} {m : Fr} {O : Addr → Prop} {X : Value → Shared → Prop} {s : Shared}
theorem tests_false {es : List Expr} {Q : Bool → Shared → Prop} (h : Q false s) : wpAny (model G.prog G.w) A (forIn es false fun c r => if r = true then do let ok ← isTrue c env (eval c env); pure (ForInStep.yield ok) else pure (ForInStep.yield r)) Q X s := by
  induction es with
  | nil => exact wpAny_pure h
  | cons e es ih =>
    rw [List.forIn_cons, if_neg Bool.false_ne_true]
    exact wpAny_bind (wpAny_pure ih)
theorem tests_any (hv : AllV m) {es : List Expr} {ts : Es} (h : SBl G c k T es ts) : ∀ {s : Shared} {b : Bool} {Q : Bool → Shared → Prop}, At G k T A env m O s → evAnd c m ts = some b → (∀ s', St G s s' → Q b s') →
    wpAny (model G.prog G.w) A (forIn es true fun c r => if r = true then do let ok ← isTrue c env (eval c env); pure (ForInStep.yield ok) else pure (ForInStep.yield r)) Q X s := by
  induction h with
  | nil => exact fun a hb hQ => wpAny_pure (Option.some.inj hb ▸ hQ _ (.refl a.inv))
  | cons h _ ih =>
    intro s b Q a hb hQ
    rw [List.forIn_cons, if_pos rfl]
    refine obind hb fun v hv1 hb => obind hb fun z hz hb => wpAny_bind (wpAny_bind (h a (hv.ne _) hv1 hz fun s' st => wpAny_pure ?_))
    cases z with
    | true => exact ih (a.step st) hb fun s'' st' => hQ s'' (st.trans st')
    | false => exact tests_false (Option.some.inj hb ▸ hQ s' st)
end
inductive Ac (G : Gd) (O : Addr → Prop) (h : Heap) (D : Addr) : Bool → List V → Prop
  | list {xs : List V} (r : LstA (VR G O h) h D xs) : Ac G O h D false xs
  | dict {ps : List V} {kps : List (K × V)} (e : pairsOf ps = some kps) (l : kps.length = ps.length) (r : DctA (VR G O h) h D G (foldD kps)) : Ac G O h D true ps
theorem Ac.map {G : Gd} {O O' : Addr → Prop} {h h' : Heap} {D : Addr} {b : Bool} {xs : List V} (k : Keep O O' h h') (kd : ∀ o, h.get? D = some o → h'.get? D = some o) (x : Ac G O h D b xs) : Ac G O' h' D b xs := by
  induction x with
  | list r => exact .list (r.mono k fun o e _ => kd o e)
  | dict e l r => exact .dict e l (r.mono k fun o e _ => kd o e)
structure CI (G : Gd) (k : Nat) (T : Tx) (A : Around) (env : Env) (D : Addr) (b : Bool) (Θ : Th) (s : Shared) (m : Fr) (xs : List V) : Prop where
  fa : FA G k T A env m Θ s
  av : AllV m
  acc : Θ D = some (.slot (sig env.scope).length)
  ac : Ac G Θ.dom s.heap D b xs
section
variable {G : Gd} {k : Nat} {T : Tx} {A : Around} {env : Env} {D : Addr} {b : Bool} {Θ Θ' : Th} {s s' : Shared} {m m' : Fr} {xs : List V} {X : Value → Shared → Prop}
theorem CI.at (x : CI G k T A env D b Θ s m xs) : At G k T A env m Θ.dom s := x.fa.at
theorem CI.bd (x : CI G k T A env D b Θ s m xs) (y : Bd G k T A env Θ s m' s') (av : AllV m') : CI G k T A env D b Θ s' m' xs := ⟨y.fa, av, x.acc, x.ac.map (y.sk.keep x.fa.inv) (y.sl D _ x.acc).2⟩
theorem CI.st (x : CI G k T A env D b Θ s m xs) (st : St G s s') : CI G k T A env D b Θ s' m xs := x.bd (.st x.fa st) x.av
theorem CI.ex (x : CI G k T A env D b Θ s m xs) (e : Ex G Θ s.heap Θ' s'.heap) (fa : FA G k T A env m Θ' s') : CI G k T A env D b Θ' s' m xs := ⟨fa, x.av, (e.slots D _ x.acc).1, x.ac.map (e.keep fun a o e c => x.fa.inv.notTab e c) (e.slots D _ x.acc).2⟩
theorem FA.wrD (a : FA G k T A env m Θ s) (t : Θ D = some (.slot (sig env.scope).length)) {h' : Heap} {tk : Nat} (hc : ∀ o, s.heap.get? D = some o → ¬ Rec o) (hs : Heap.SameBut D s.heap h') (he : ∃ o, h'.get? D = some o) : Sk G Θ s Θ { s with heap := h', toks := tk } ∧ FA G k T A env m Θ { s with heap := h', toks := tk } := by
  have sk := sk_wr (tk := tk) a.inv a.fr.ox t (fun e => Owner.noConfusion e) (fun e => Owner.noConfusion e) (a.fr.new D (th_mine t fun e => Owner.noConfusion e)) hc hs he
  exact ⟨sk, a.room, sk.inv, a.eo, a.fr.wrS t hs he fun x sl hx hm => ⟨fun q => absurd q (Nat.ne_of_lt (idx_lt (isVar_mem hx))), fun _ => hm⟩⟩
theorem cls_rec {h : Heap} {a : Addr} {o : Obj} {t : String} (e : h.get? a = some o) (c : o.cls = .type t) (n : (t == "code") = false) : ∀ o, h.get? a = some o → ¬ Rec o := fun o' e' q => by
  cases Option.some.inj (e.symm.trans e')
  exact code_cls n c q.1
noncomputable def EmOk (G : Gd) (k : Nat) (T : Tx) (b : Bool) (emit : Addr → Env → Sem Unit) (kf : Fr → Option (List V)) : Prop := ∀ {A : Around} {env : Env} {D : Addr} {Θ : Th} {s : Shared} {m : Fr} {xs ys : List V} {Q : Unit → Shared → Prop} {X : Value → Shared → Prop},
  CI G k T A env D b Θ s m xs → kf m = some ys → xs.length + ys.length ≤ big → (∀ s', CI G k T A env D b Θ s' m (xs ++ ys) → Sk G Θ s Θ s' → Q () s') → wpAny (model G.prog G.w) A (emit D env) Q X s
theorem push_app (ws : List Value) (y : Value) : ws.toArray.push y = (ws ++ [y]).toArray := List.push_toArray ws y
theorem em_list {c : Cx} {elt : Expr} {te : E} (h : SE G c k T elt te) : EmOk G k T false (emitL elt) fun m => (ev c m te).map fun v => [v] := fun {A env D Θ s m xs ys Q X} x hv hl hQ => by
  refine omap (C := fun ys => xs.length + ys.length ≤ big → (∀ s', CI G k T A env D false Θ s' m (xs ++ ys) → Sk G Θ s Θ s' → Q () s') → _) hv (fun v hv hl hQ => ?_) hl hQ
  refine wpAny_bind (h x.at (x.av.ne _) hv fun y s₁ st r => ?_)
  have x₁ := x.st st
  cases x₁.ac with | list rl =>
  cases rl with | @mk ws n e l rs =>
  refine wpAny_bind (wpAny_list_append_plain ⟨n, e⟩ (fun h' hp hs => ?_) (fits l))
  obtain ⟨n', e'⟩ := hp
  rw [push_app] at e'
  obtain ⟨sk, fa⟩ := x₁.fa.wrD (tk := s₁.toks) x.acc (cls_rec e rfl rfl) hs ⟨_, e'⟩
  have kw := keep_wr x.acc hs
  refine wpAny_pure (hQ _ ⟨fa, x.av, x.acc, .list ⟨e', ?_, (VRs.mono kw rs).append (.cons (r.mono kw) .nil)⟩⟩ ((Sk.of st x.fa.fr.ox).trans sk fa.fr.ox))
  rw [List.length_append, ← rs.length]; exact hl
theorem pairs_snoc {q : K} {u v : V} (hk : keyV u = some q) {ps : List V} : ∀ {kps : List (K × V)}, pairsOf ps = some kps → pairsOf (ps ++ [.tup [u, v]]) = some (kps ++ [(q, v)]) := by
  induction ps with
  | nil =>
    intro kps h
    cases Option.some.inj h
    show ((keyV u).map fun q => (q, v)).bind _ = _
    rw [hk]; rfl
  | cons p r ih =>
    intro kps h
    refine obind h fun q' hq h => omap (C := fun kps => pairsOf (p :: r ++ [.tup [u, v]]) = some (kps ++ [(q, v)])) h fun ks hks => ?_
    show (pairOf p).bind _ = _
    rw [hq]
    show (pairsOf (r ++ [.tup [u, v]])).map _ = _
    rw [ih hks]; rfl
theorem dset_length (q : K) (v : V) (es : List (K × V)) : (dset q v es).length ≤ es.length + 1 := by
  induction es with
  | nil => exact Nat.le_refl _
  | cons p r ih =>
    unfold dset
    by_cases h : q = p.1
    · rw [if_pos h]; exact Nat.le_succ _
    · rw [if_neg h]; exact Nat.succ_le_succ ih
theorem foldD_length (kps : List (K × V)) : (foldD kps).length ≤ kps.length := by
  have key : ∀ (l d : List (K × V)), (l.foldl (fun d p => dset p.1 p.2 d) d).length ≤ d.length + l.length := by
    intro l
    induction l with
    | nil => exact fun d => Nat.le_refl _
    | cons p r ih => exact fun d => Nat.le_trans (ih _) (Nat.le_trans (Nat.add_le_add_right (dset_length p.1 p.2 d) r.length) (Nat.le_of_eq (Nat.succ_add_eq_add_succ d.length r.length)))
  exact Nat.le_trans (key kps []) (Nat.le_of_eq (Nat.zero_add _))
theorem em_dict {c : Cx} {ke ve : Expr} {tk tv : E} (h : SE G c k T ke tk) (h' : SE G c k T ve tv) : EmOk G k T true (emitD ke ve) fun m => (ev c m tk).bind fun kk => (keyV kk).bind fun _ => (ev c m tv).map fun vv => [.tup [kk, vv]] := fun {A env D Θ s m xs ys Q X} x hv hl hQ => by
  refine obind hv fun u hu hv => obind hv fun q hq hv => omap (C := fun ys => xs.length + ys.length ≤ big → (∀ s', CI G k T A env D true Θ s' m (xs ++ ys) → Sk G Θ s Θ s' → Q () s') → _) hv (fun v hv hl hQ => ?_) hl hQ
  refine wpAny_bind (h x.at (x.av.ne _) hu fun y s₁ st ry => wpAny_bind (wpAny_holding (h' (x.st st).at (x.av.ne _) hv fun z s₂ st' rz => wpAny_bind (wpAny_standAt (wpAny_holding ?_)))))
  have x₂ := (x.st st).st st'
  have ry := ry.step st.inv st'
  cases hac : x₂.ac with | @dict ps kps ep lp rd =>
  cases rd with | @mk kvs ns of l rel =>
  have hlk : kvs.length ≤ xs.length := by rw [← rel.length, ← lp]; exact foldD_length kps
  refine wpAny_dictSet_pairs (knd := intKind G.prog G.w) (ry.w.key hq) of (fun g hd hs => ?_) (Nat.le_trans l big_le)
  have hg : ∃ o, g.get? D = some o := by obtain ⟨o, _, _, e, _⟩ := hd; exact ⟨o, e⟩
  obtain ⟨sk, fa⟩ := x₂.fa.wrD (tk := s₂.toks + 1) x.acc (by obtain ⟨o, es, ep, e, hc, _⟩ := of; exact cls_rec e hc.1 rfl) hs hg
  have kw := keep_wr x.acc hs
  have e2 : foldD (kps ++ [(q, v)]) = dset q v (foldD kps) := List.foldl_append
  exact hQ _ ⟨fa, x.av, x.acc, .dict (pairs_snoc hq ep) (by rw [List.length_append, List.length_append, lp]; rfl) (e2 ▸ ⟨ns, hd, Nat.le_trans (stored_length q z kvs) (Nat.le_trans (Nat.succ_le_succ hlk) hl), dset_at (rz.mono kw) (rel.imp fun _ _ => kv_mono kw) (dictOf_nodup of)⟩)⟩ ((Sk.of (st.trans st') x.fa.fr.ox).trans sk fa.fr.ox)
end
noncomputable def turnF (c : Cx) (m : Fr) (tg : Tg) (tifs : Es) (gs : Gs) (kf : Fr → Option (List V)) (x : V) : Option (List V) := (m.bindN tg x).bind fun m' => (evAnd c m' tifs).bind fun z => bif z then evGs c m' gs kf else some []
inductive SGs (G : Gd) (c : Cx) (k : Nat) (T : Tx) : List Comprehension → Gs → Prop
  | nil : SGs G c k T [] .nil
  | cons {t it : Expr} {ifs : List Expr} {r : List Comprehension} {tg : Tg} {ti : It} {tifs : Es} {gr : Gs} {tp : Expr → Prop} (ht : TgOk T t tg) (htp : tp t) (hi : SI G c k T tp it ti) (hfs : ∀ env x, foldedSetIterable it env x = pure x) (hif : SBl G c k T ifs tifs) (hr : SGs G c k T r gr) : SGs G c k T (⟨t, it, ifs, 0⟩ :: r) (.cons tg ti tifs gr)
theorem SGs.next {G : Gd} {c : Cx} {k : Nat} {T : Tx} {gens r : List Comprehension} {gs : Gs} {d : Nat} (h : SGs G c k T r gs) (e : gens.drop d = r) : NextG gens d := by
  have q : gens[d]? = r[0]? := by rw [← e, List.getElem?_drop]; rfl
  induction h with
  | nil => exact .none q
  | cons _ _ _ hfs => exact .some q hfs
theorem all_at {j : Nat} {sl : Slot} {is : List Nat} : ∀ {vs : List V} {m : Fr}, (∀ i ∈ is, i ≠ j) → m.at j = some sl → (bindAll m is vs).at j = some sl := by
  induction is with
  | nil => exact fun _ h => h
  | cons i is ih =>
    intro vs m hj h
    cases vs with
    | nil => exact h
    | cons v vs =>
      refine ih (vs := vs) (fun i hi => hj i (List.mem_cons_of_mem _ hi)) ?_
      show ((List.set m i _)[j]?).join = some sl
      rw [List.getElem?_set_ne (hj i (List.mem_cons_self ..))]
      exact h
theorem bindN_of {m m' : Fr} {t : Tg} {v : V} {C : Prop} (h : m.bindN t v = some m') (k : m.bind t v = some m' → (∀ j sl, m.at j = some sl → m'.at j = some sl) → C) : C := by
  unfold Fr.bindN at h
  cases q : t.ids.all fun i => (m.at i).isNone with
  | false => rw [q] at h; exact nos h
  | true =>
    rw [q] at h
    have h : m.bind t v = some m' := h
    have hn : ∀ j sl, m.at j = some sl → ∀ i ∈ t.ids, i ≠ j := fun j sl e i hi q' => by
      have := List.all_eq_true.mp q i hi
      rw [q', e] at this
      exact Bool.noConfusion this
    refine k h fun j sl e => ?_
    induction t with
    | one i => exact Option.some.inj h ▸ all_at (is := [i]) (vs := [v]) (hn j sl e) e
    | many is => exact obind h fun vs _ h => oif (C := fun m' => Fr.at m' j = some sl) h fun _ => all_at (hn j sl e) e
theorem FR.weak {G : Gd} {ow : List Str} {Θ : Th} {h : Heap} {env : Env} {m m' : Fr} (r : FR G ow Θ h env m') (hm : ∀ j sl, m.at j = some sl → m'.at j = some sl) : FR G ow Θ h env m :=
  ⟨r.loc, r.ns, r.ox, r.new, r.cel, r.fre, r.cells, fun x sl hx e => r.var x sl hx (hm _ _ e)⟩
structure ItC (G : Gd) (Ds : Addr → Prop) (wr : List Addr) (St : Nat → Heap → Prop) (t : Expr) (I : Addr) (items : List V) : Prop where
  frame : ∀ i h h', St i h → Kd Ds h h' → St i h'
  cls : ∀ i h, St i h → ∀ b ∈ wr, ∃ o, h.get? b = some o ∧ o.cls ≠ .type "code"
  tn : ∀ {A O}, A.handled = none → (∀ a, Ds a → a ∉ wr → ¬ O a) → Tn G A O t I wr items St
theorem ItC.liv {G : Gd} {Ds : Addr → Prop} {wr : List Addr} {St : Nat → Heap → Prop} {t : Expr} {I : Addr} {items : List V} (x : ItC G Ds wr St t I items) {i : Nat} {h : Heap} (st : St i h) : ∀ b ∈ wr, ∃ o, h.get? b = some o := fun b hb => by
  obtain ⟨o, e, _⟩ := x.cls i h st b hb
  exact ⟨o, e⟩
section
variable {G : Gd} {c : Cx} {k : Nat} {T : Tx} {A : Around} {env : Env} {D : Addr} {b : Bool} {Θ Θ' Θ₀ : Th} {s s' s₀ : Shared} {m m' : Fr} {xs ys : List V} {X : Value → Shared → Prop}
  {e : Expr} {gens : List Comprehension} {emit : Addr → Env → Sem Unit} {kf : Fr → Option (List V)}
noncomputable def ActOk (G : Gd) (c : Cx) (k : Nat) (T : Tx) (e : Expr) (gens : List Comprehension) (emit : Addr → Env → Sem Unit) (b : Bool) (kf : Fr → Option (List V)) (gs : Gs) (d : Nat) : Prop := ∀ {A : Around} {env : Env} {D : Addr} {Θ : Th} {s : Shared} {m : Fr} {xs ys : List V} {Q : Unit → Shared → Prop} {X : Value → Shared → Prop},
  CI G k T A env D b Θ s m xs → evGs c m gs kf = some ys → xs.length + ys.length ≤ big → (∀ s', CI G k T A env D b Θ s' m (xs ++ ys) → Sk G Θ s Θ s' → Q () s') → Inner (model G.prog G.w) A e gens (emit D env) d D env Q X s
theorem CI.weak (x : CI G k T A env D b Θ s m' xs) (av : AllV m) (hm : ∀ j sl, m.at j = some sl → m'.at j = some sl) : CI G k T A env D b Θ s m xs := ⟨⟨x.fa.room, x.fa.inv, x.fa.eo, x.fa.fr.weak hm⟩, av, x.acc, x.ac⟩
theorem drop_at {i : Nat} {x : V} (h : xs[i]? = some x) : xs.drop i = x :: xs.drop (i + 1) := by
  rw [List.drop_eq_getElem_cons (get_lt h)]
  exact congrArg (· :: _) (Option.some.inj ((List.getElem?_eq_getElem (get_lt h)).symm.trans h))
inductive Tw (G : Gd) (c : Cx) (k : Nat) (T : Tx) (A : Around) (env : Env) (D : Addr) (b : Bool) (Θ₀ : Th) (s₀ : Shared) (wr : List Addr) (Ds : Addr → Prop) (St : Nat → Heap → Prop) (items : List V) (m : Fr) (f : V → Option (List V)) (zs : List V) (Θ : Th) (n : Nat) (s : Shared) : Prop
  | mk {i : Nat} {ac ys : List V} (hn : n = items.length - i) (hle : i ≤ items.length) (lp : Lp G Θ₀ s₀ wr Ds Θ s) (ci : CI G k T A env D b Θ s m ac) (hst : St i s.heap) (hf : fm f (items.drop i) = some ys) (hy : ac ++ ys = zs)
theorem comp_loop (he : CompE e gens emit) {d : Nat} {t iter : Expr} {ifs : List Expr} (hg : gens[d]? = some ⟨t, iter, ifs, 0⟩) (hn : NextG gens (d + 1)) {tg : Tg} (ht : TgOk T t tg) {tifs : Es} (hif : SBl G c k T ifs tifs) {gs : Gs} (act : ActOk G c k T e gens emit b kf gs (d + 1))
    {I : Addr} {wr : List Addr} {Ds : Addr → Prop} {items : List V} {St : Nat → Heap → Prop} (N : ItC G Ds wr St t I items) (i₀ : Inv G s₀) (ox₀ : OX G Θ₀.dom s₀.heap) (lp : Lp G Θ₀ s₀ wr Ds Θ s) (ci : CI G k T A env D b Θ s m xs) (hst : St 0 s.heap)
    (hf : fm (turnF c m tg tifs gs kf) items = some ys) (hl : xs.length + ys.length ≤ big) {R : Result → Shared → Prop} (hR : ∀ s', CI G k T A env D b (Θ.rem wr) s' m (xs ++ ys) → Sk G Θ₀ s₀ (Θ.rem wr) s' → R (.ok .next) s') :
    codeAny (model G.prog G.w) A (.compLoop e d (.ref I) (.ref D) env) R s := by
  refine codeAny_loop (he.quiet ..) (Tw G c k T A env D b Θ₀ s₀ wr Ds St items m (turnF c m tg tifs gs kf) (xs ++ ys) Θ) ?_ (items.length - 0)
    (.mk rfl (Nat.zero_le _) lp ci hst hf rfl)
  intro n s I
  cases I with | @mk i ac ys' hnn hle lp ci hst hf' hy =>
  subst hnn
  rw [he.underL, he.loop]
  refine wpAny_noted (he.turn hg hn ?_)
  have hh := ci.fa.room.handled
  cases hx : items[i]? with
  | none =>
    have hi : i = items.length := Nat.le_antisymm hle (List.getElem?_eq_none_iff.mp hx)
    rw [hi, List.drop_length] at hf'
    cases Option.some.inj hf'
    refine (N.tn hh lp.dd).done (hi ▸ hst) fun h' tk kw => ⟨fun _ => ?_, fun y e => nos e⟩
    obtain ⟨sk, fa⟩ := lp.leave i₀ ox₀ ci.fa kw (lp.inv i₀ ⟨kw, N.cls i _ hst⟩ tk)
    rw [List.append_nil] at hy
    exact hR _ (hy ▸ ci.ex (lp.exR i₀ kw) fa) sk
  | some x =>
    rw [drop_at hx] at hf'
    refine obind hf' fun zs hz hf' => omap (C := fun ys' => ac ++ ys' = xs ++ ys → _) hf' (fun ys'' hf'' hy => ?_) hy
    refine wpAny_mono ((N.tn hh lp.dd).turn hx hst ci.fa.fr.ox fun y h' tk st' kw vr => ?_) (fun r s₁ h => by obtain ⟨y, e, h⟩ := h; exact ⟨fun e' => nos (e'.symm.trans e), fun y' e' => Option.some.inj (e.symm.trans e') ▸ h⟩) fun _ _ x => x
    obtain ⟨lp₂, fa₂⟩ := lp.turn i₀ ci.fa ⟨kw, N.cls i _ hst⟩ (N.liv st') tk
    have ci₂ := ci.ex (s' := { s with heap := h', toks := tk }) (lp.exT i₀ kw) fa₂
    refine obind (o := m.bindN tg x) hz fun m' hb hz => obind hz fun z hz0 hz => bindN_of hb fun hb hm => ?_
    refine assign_any ht fa₂ vr hb fun s₃ bd => ?_
    have ci₃ := ci₂.bd bd (ci.av.bind hb)
    have lp₃ := lp₂.step bd.sk bd.fa.fr.ox
    have st₃ := N.frame _ _ _ st' (lp₂.kd bd.sk)
    refine tests_any ci₃.av hif ci₃.at hz0 fun s₄ st => ?_
    have ci₄ := ci₃.st st
    have sk₄ := Sk.of st ci₃.fa.fr.ox
    have lp₄ := lp₃.step sk₄ ci₄.fa.fr.ox
    have st₄ := N.frame _ _ _ st₃ (lp₃.kd sk₄)
    have back : ∀ s', CI G k T A env D b Θ s' m' (ac ++ zs) → Sk G Θ s₄ Θ s' → Tw G c k T A env D b Θ₀ s₀ wr Ds St items m (turnF c m tg tifs gs kf) (xs ++ ys) Θ (items.length - (i + 1)) s' := fun s' q1 q2 =>
      .mk rfl (get_lt hx) (lp₄.step q2 q1.fa.fr.ox) (q1.weak ci.av hm) (N.frame _ _ _ st₄ (lp₄.kd q2)) hf'' ((List.append_assoc ..).trans hy)
    have lt : items.length - (i + 1) < items.length - i := Nat.sub_lt_sub_left (get_lt hx) (Nat.lt_succ_self i)
    refine ⟨fun hz' => ?_, fun hz' => ?_⟩
    · subst hz'
      cases Option.some.inj hz
      exact ⟨rfl, _, lt, back s₄ ((List.append_nil ac).symm ▸ ci₄) (Sk.of (.refl ci₄.fa.inv) ci₄.fa.fr.ox)⟩
    · subst hz'
      exact act ci₄ hz (by have := congrArg List.length hy; rw [List.length_append, List.length_append, List.length_append] at this; omega) fun s' q1 q2 => ⟨rfl, _, lt, back s' q1 q2⟩
theorem comp_start (he : CompE e gens emit) {d : Nat} {t iter : Expr} {ifs : List Expr} (hg : gens[d]? = some ⟨t, iter, ifs, 0⟩) {it acc : Value} {R : Result → Shared → Prop} (h0 : codeAny (model G.prog G.w) A (.compLoop e d it acc env) R s)
    (hi : ∀ {Q E : Value → Shared → Prop}, Q it s → wpAny (model G.prog G.w) A (pyIter it) Q E s) : codeAny (model G.prog G.w) A (.compStart e d it acc env) R s := by
  refine codeAny_of_tree ?_
  have hq := he.quiet d it acc env
  rw [he.underS, he.start]
  refine wpAny_notedAt ?_
  unfold compStart
  rw [he.clauses, hg]
  show wpAny _ _ (ask >>= _) _ _ s
  refine wpAny_bind (wpAny_askSetting (wpAny_ite ?_))
  split
  · exact wpAny_bind (wpAny_pure (wpAny_pure (And.intro hq h0)))
  · exact wpAny_bind (wpAny_rule (wpAny_bind (wpAny_standAt (wpAny_bind (hi (wpAny_pure (And.intro hq h0)))))))
end
theorem mark_room {A : Around} {k : Nat} (h : Room A k) : Room (A.mark none) k := ⟨h.depth, h.units, by show (none : Option Value).or A.handled = none; rw [h.handled]; rfl⟩
theorem HasIt.itc {G : Gd} {O₀ : Addr → Prop} {tp : Expr → Prop} {s₀ s₂ : Shared} {xs : List V} {it : Value} (x : HasIt G O₀ tp s₀ s₂ xs it) {t : Expr} (ht : tp t) {C : Prop}
    (k : ∀ (I : Addr) (wr : List Addr) (St : Nat → Heap → Prop), it = .ref I → (∀ b ∈ wr, s₀.heap.get? b = none ∧ ∃ o, s₂.heap.get? b = some o) → St 0 s₂.heap → ItC G (Dn G O₀ s₂) wr St t I xs → C) : C := by
  induction x with | mk new st0 fr cls tn => exact k _ _ _ rfl new st0 ⟨fr, cls, fun hh hD => tn hh ht hD⟩
section
variable {G : Gd} {c : Cx} {k : Nat} {T : Tx} {A : Around} {env : Env} {D : Addr} {b : Bool} {Θ : Th} {s s' : Shared} {m : Fr} {xs : List V}
  {e : Expr} {gens : List Comprehension} {emit : Addr → Env → Sem Unit} {kf : Fr → Option (List V)}
theorem act_emit (em : EmOk G k T b emit kf) {d : Nat} (hd : gens[d]? = none) : ActOk G c k T e gens emit b kf .nil d := fun ci hv hl hQ => ⟨fun _ => em ci hv hl hQ, fun _ _ _ h => nos (hd.symm.trans h)⟩
theorem act_iter (he : CompE e gens emit) {d : Nat} {t iter : Expr} {ifs : List Expr} (hg : gens[d]? = some ⟨t, iter, ifs, 0⟩) (hn : NextG gens (d + 1)) {tg : Tg} (ht : TgOk T t tg) {tp : Expr → Prop} (htp : tp t) {ti : It} (hi : SI G c k T tp iter ti) {tifs : Es} (hif : SBl G c k T ifs tifs) {gs : Gs} (act : ActOk G c k T e gens emit b kf gs (d + 1)) :
    ActOk G c k T e gens emit b kf (.cons tg ti tifs gs) d := fun {A env D Θ s m xs ys Q X} ci hv hl hQ => by
  refine ⟨fun h => nos (h.symm.trans hg), fun t' it' ifs' h => ?_⟩
  cases Option.some.inj (hg.symm.trans h)
  refine obind hv fun items hit hv => hi ci.at (ci.av.ne _) hit fun it s₁ s₂ st1 st2 hh => hh.itc htp fun I wr St eI new st0 N => ?_
  subst eI
  have st := st1.trans st2
  obtain ⟨lp, fa⟩ := Lp.start ci.fa st rfl new
  have nw : ∀ a w, Θ a = some w → a ∉ wr := fun a w t q => by
    obtain ⟨_, o, e⟩ := ci.fa.fr.ox a ⟨w, t⟩
    exact nos ((new a q).1.symm.trans e)
  have n := itTh_new new
  have ci₂ := ci.ex (n.ex ci.fa.inv st ci.fa.fr.ox) fa
  have ci₃ : CI G k T (A.mark none) env D b _ s₂ m xs := ⟨⟨mark_room fa.room, fa.inv, fa.eo, fa.fr⟩, ci₂.av, ci₂.acc, ci₂.ac⟩
  refine wpAny_runOwn (comp_start he hg (comp_loop he hg hn ht hif act N ci.fa.inv ci.fa.fr.ox lp ci₃ st0 hv hl fun s' q1 q2 => ?_) fun hQ => (N.tn ci₃.fa.room.handled lp.dd).self st0 hQ)
  rw [itTh_rem nw] at q1 q2
  exact hQ s' ⟨⟨ci.fa.room, q1.fa.inv, q1.fa.eo, q1.fa.fr⟩, q1.av, q1.acc, q1.ac⟩ q2
theorem act_all (he : CompE e gens emit) (em : EmOk G k T b emit kf) {r : List Comprehension} {gs : Gs} (h : SGs G c k T r gs) : ∀ {d : Nat}, gens.drop d = r → ActOk G c k T e gens emit b kf gs d := by
  induction h with
  | nil => exact fun hd => act_emit em (List.getElem?_eq_none (List.drop_eq_nil_iff.mp hd))
  | @cons t it ifs r tg ti tifs gr tp ht htp hi hfs hif hr ih =>
    intro d hd
    have q : gens[d]? = some ⟨t, it, ifs, 0⟩ := by
      have := congrArg (·[0]?) hd
      rw [List.getElem?_drop] at this
      exact this
    have hd' : gens.drop (d + 1) = r := by rw [← List.tail_drop, hd]; rfl
    intro A env D Θ s m xs ys Q X
    exact act_iter he q (hr.next hd') ht htp hi hif (ih hd')
end
noncomputable def Tx.inner (T : Tx) (sc : Scope) : Tx := { T with sg := sig sc, cf := cfOf sc, ow := owOf sc }
noncomputable def compB (O : Addr → Prop) (D : Addr) (N : Nat) (wr : List Addr) : Th := open Classical in fun b => if O b then some .out else bif b == D then some (.slot N) else bif wr.contains b then some .it else none
theorem compB_cases {O : Addr → Prop} {D : Addr} {N : Nat} {wr : List Addr} {b : Addr} {w : Owner} {C : Prop} (t : compB O D N wr b = some w) (h1 : O b → w = .out → C) (h2 : b = D → w = .slot N → C) (h3 : b ∈ wr → w = .it → C) : C := by
  unfold compB at t
  by_cases h : O b
  · rw [if_pos h] at t; exact h1 h (Option.some.inj t).symm
  · rw [if_neg h] at t
    cases q : b == D with
    | true => rw [q] at t; exact h2 (eq_of_beq q) (Option.some.inj t).symm
    | false =>
      rw [q] at t
      cases q' : wr.contains b with
      | true => rw [q'] at t; exact h3 (List.contains_iff_mem.mp q') (Option.some.inj t).symm
      | false => rw [q'] at t; exact nos t
theorem new_env_comp {M : Model} {A : Around} {X : Value → Shared → Prop} {s : Shared} {sc : Scope} {cl : List (Str × Addr)} {env : Env} {Q : Env → Shared → Prop}
    (h : Q ⟨sc, s.heap.objs.size, env.globals, cellsFrom (s.heap.push { cls := .type "dict", data := .dict #[] }).objs.size sc.names cl, env.qual, none, env.code, env.frame, env.builtins⟩ { s with heap := pushCells (s.heap.push { cls := .type "dict", data := .dict #[] }) sc.names }) :
    wpAny M A (newFunctionEnv sc env.globals cl [] env.qual none .none (some env)) Q X s := by
  unfold newFunctionEnv
  refine wpAny_bind (wpAny_alloc (wpAny_bind (wpAny_layCells _ (fun name kind cells => rfl) _ _ _ _ (wpAny_bind ?_))))
  rw [List.forIn_nil]
  exact wpAny_pure (wpAny_pure h)
section
variable {G : Gd} {k : Nat} {T : Tx} {A : Around} {env cenv : Env} {D : Addr} {s s₃ : Shared} {m : Fr} {O : Addr → Prop} {sc : Scope} {wr : List Addr}
theorem comp_eo (a : At G k T A env m O s) (S : ScOk T.cf sc) (hsc : cenv.scope = relabel sc env) (h1 : cenv.globals = env.globals) (h2 : cenv.builtins = env.builtins) (h3 : cenv.code = env.code) : EnvOk G (T.inner sc) cenv := by
  have lk : ∀ x, cenv.kindOf x = (sc.names.lookup x).map (reK env x) := fun x => by unfold Env.kindOf; rw [hsc]; exact relabel_lookup sc env x
  have kin : ∀ x k0, (x, k0) ∈ sc.names → cenv.kindOf x = some (reK env x k0) := fun x k0 h => (lk x).trans (by rw [lookup_of S.nd h]; rfl)
  refine ⟨hsc ▸ S.kind, hsc ▸ relabel_sig sc env, h1.trans a.eo.glob, h2.trans a.eo.bts, fun x hx => ?_, fun x h => ?_, fun h => h3 ▸ a.eo.code h, fun x ho => ?_⟩
  · rcases mem_cfOf.mp hx with q | q
    · exact .inl (kin x _ q)
    · rw [kin x _ q]
      exact (reK_cases env x .free).elim (fun e => .inr (congrArg some e)) fun e => .inl (congrArg some e.2)
  · refine omap (C := fun k => k = NameKind.globalExplicit → False) ((lk x).symm.trans h) (fun k0 hk0 e => ?_) rfl
    have hm := lookup_mem hk0
    rcases reK_cases env x k0 with q | q
    · exact S.nx _ hm (q.symm.trans e)
    · exact NameKind.noConfusion (q.2.symm.trans e)
  · rcases mem_owOf.mp ho with q | q
    · exact .inl (kin x _ q)
    · exact .inr (kin x _ q)
theorem comp_frame (a : At G k T A env m O s) (st : St G s s₃) (S : ScOk T.cf sc) (ne : NE m ((capOf (sig sc) T.sg (freeIn sc)).map (·.2))) (hw : ∀ b ∈ wr, s.heap.get? b = none ∧ ∃ o, s₃.heap.get? b = some o) (hD : s.heap.get? D = none ∧ ∃ o, s₃.heap.get? D = some o)
    (hsc : cenv.scope = relabel sc env) (hl : cenv.locals = s₃.heap.objs.size) (hc : cenv.cells = cellsFrom (s₃.heap.push { cls := .type "dict", data := .dict #[] }).objs.size sc.names (clFrom env sc.names [])) :
    NewF G sc (compB O D sc.names.length wr) s₃ ((compB O D sc.names.length wr).new s₃.heap.objs.size sc.names (sig sc) cenv.cells) cenv (m.capture noF (capOf (sig sc) T.sg (freeIn sc)) sc.names.length) (pushCells (s₃.heap.push { cls := .type "dict", data := .dict #[] }) sc.names) := by
  have lk : ∀ x, cenv.kindOf x = (sc.names.lookup x).map (reK env x) := fun x => by unfold Env.kindOf; rw [hsc]; exact relabel_lookup sc env x
  have ox := a.er.ox.step st
  have B0 : ∀ b o, s.heap.get? b = some o → (compB O D sc.names.length wr).dom b → O b := fun b o e d => by
    obtain ⟨w, t⟩ := d
    exact compB_cases t (fun q _ => q) (fun q _ => nos ((q ▸ hD.1).symm.trans e)) fun q _ => nos ((hw b q).1.symm.trans e)
  have kp : Keep O (compB O D sc.names.length wr).dom s.heap s₃.heap := fun b o e c no => ⟨fun d => no (B0 b o e d), st.kp b o (a.inv.notTab e c) e⟩
  refine new_frame st.inv S.nd (fun b d => ?_) (fun b q => ?_) rfl (Heap.Ns.new s₃.heap (.type "dict")) (fun x hx => ?_) hl hc (hsc ▸ relabel_sig sc env) (fun x hx => ?_) (fun x hx => ?_) fun j sl hj => ?_
  · obtain ⟨w, t⟩ := d
    exact compB_cases t (fun q _ => ox b q) (fun q _ => q ▸ ⟨a.inv.freshNotTab hD.1, hD.2⟩) fun q _ => ⟨a.inv.freshNotTab (hw b q).1, (hw b q).2⟩
  · obtain ⟨w, t, n⟩ := q
    exact compB_cases t (fun _ q => absurd q n) (fun q _ => a.inv.new (q ▸ hD.1)) fun q _ => a.inv.new (hw b q).1
  · have hk := a.eo.cf x (S.free x hx)
    cases a.er.cel x hk with | @mk c v e nt hv =>
    obtain ⟨o, g, _⟩ := id hv
    refine ⟨c, v, cl_free hx e, nt, fun q => ?_, cell_kp hv fun o => st.kp c o nt⟩
    obtain ⟨w, t, n⟩ := q
    exact compB_cases t (fun _ q => n q) (fun q _ => nos ((q ▸ hD.1).symm.trans g)) fun q _ => nos ((hw c q).1.symm.trans g)
  · have key : ∀ k', cenv.kindOf x = some k' → k' = .cell ∨ k' = .free → (x, NameKind.cell) ∈ sc.names ∨ x ∈ freeIn sc := fun k' h hk' => omap (C := fun (k' : NameKind) => k' = .cell ∨ k' = .free → (x, NameKind.cell) ∈ sc.names ∨ x ∈ freeIn sc) ((lk x).symm.trans h) (fun k0 hk0 hk' => by
      have hm := lookup_mem hk0
      rcases reK_cases env x k0 with q | q
      · rw [q] at hk'
        exact hk'.imp (fun (e : k0 = .cell) => e ▸ hm) fun (e : k0 = .free) => mem_freeIn.mpr (e ▸ hm)
      · exact .inr (mem_freeIn.mpr (q.1 ▸ hm))) hk'
    exact hx.elim (fun h => key _ h (.inl rfl)) fun h => key _ h (.inr rfl)
  · have q : cenv.kindOf x = some (reK env x .free) := (lk x).trans (by rw [lookup_of S.nd (mem_freeIn.mp hx)]; rfl)
    rw [q]
    exact (reK_cases env x .free).elim (fun e => .inr (congrArg some e)) fun e => .inl (congrArg some e.2)
  · refine captured hj fun x hx e1 e2 hcl => ⟨x, hx, e1, ?_⟩
    have hk := a.eo.cf x (S.free x hx)
    have hno := cap_ne ne hx e2
    rw [← a.eo.sg] at e2
    obtain ⟨y, vi, sr⟩ := a.er.var x sl (hk.elim (fun h => kind_isVar h rfl) fun h => kind_isVar h rfl) e2
    have vc : ∃ c, env.cells.lookup x = some c ∧ ¬ G.Tab c ∧ s.heap.IsCell c (some y) := by
      cases vi with
      | loc h => exact hk.elim (fun h' => NameKind.noConfusion (Option.some.inj (h.symm.trans h'))) fun h' => NameKind.noConfusion (Option.some.inj (h.symm.trans h'))
      | cel _ hc nt hv => exact ⟨_, hc, nt, hv⟩
    obtain ⟨c, ec, nt, hv⟩ := vc
    refine ⟨c, y, cl_free hx ec, cell_kp hv fun o => st.kp c o nt, ?_⟩
    cases sr with
    | v r => exact ⟨.v (r.mono kp), fun e => Bool.noConfusion e⟩
    | ol => exact Bool.noConfusion hno
    | od => exact Bool.noConfusion hno
    | clo => exact Bool.noConfusion (hcl _ rfl)
end
noncomputable def outs (O : Addr → Prop) : Th := open Classical in fun a => if O a then some .out else none
theorem outs_of {O : Addr → Prop} {a : Addr} (h : O a) : outs O a = some .out := if_pos h
theorem outs_some {O : Addr → Prop} {a : Addr} {w : Owner} (t : outs O a = some w) : O a ∧ w = .out := by
  unfold outs at t
  by_cases h : O a
  · rw [if_pos h] at t; exact ⟨h, (Option.some.inj t).symm⟩
  · rw [if_neg h] at t; exact nos t
theorem outs_mine {O : Addr → Prop} {a : Addr} : ¬ (outs O).mine a := fun q => by obtain ⟨w, t, n⟩ := q; exact n (outs_some t).2
theorem outs_dom {O : Addr → Prop} {a : Addr} (h : (outs O).dom a) : O a := by obtain ⟨w, t⟩ := h; exact (outs_some t).1
structure CDone (G : Gd) (O : Addr → Prop) (s : Shared) (C D : Addr) (b : Bool) (xs : List V) (s' : Shared) : Prop where
  st : St G s s'
  ns : ∃ mm, s'.heap.Ns C mm
  nC : s.heap.get? C = none
  nD : s.heap.get? D = none
  ne : D ≠ C
  ac : Ac G (fun a => O a ∨ a = D ∨ a = C) s'.heap D b xs
noncomputable def NewAc (G : Gd) (b : Bool) (newAcc : Sem Value) : Prop := ∀ {A : Around} {s : Shared} {Q X : Value → Shared → Prop}, Inv G s → (∀ o, o.isFreed = false → (∀ O, Ac G O (s.heap.push o) s.heap.objs.size b []) → Q (.ref s.heap.objs.size) { s with heap := s.heap.push o }) → wpAny (model G.prog G.w) A newAcc Q X s
theorem newAc_list {G : Gd} : NewAc G false (newList []) := fun i h => wpAny_newObj_type (h _ rfl fun O => .list ⟨Heap.get?_push_size _ rfl, Nat.zero_le _, .nil⟩) (fits (ws := []) (Nat.zero_le _))
theorem newAc_dict {G : Gd} : NewAc G true newDict := fun i h => by
  unfold newDict newObj
  exact wpAny_bind (wpAny_alloc (wpAny_pure (h _ rfl fun O => .dict rfl rfl ⟨notSys i, Heap.DictOf.new _, Nat.zero_le _, .nil⟩)))
section
variable {G : Gd} {c : Cx} {k : Nat} {T : Tx} {A : Around} {env : Env} {D : Addr} {b : Bool} {s : Shared} {m : Fr} {O : Addr → Prop} {sc : Scope} {xs : List V}
  {e : Expr} {emit : Addr → Env → Sem Unit} {kf : Fr → Option (List V)} {t it : Expr} {ifs : List Expr} {r : List Comprehension} {tg : Tg} {ti : It} {tifs : Es} {gs : Gs} {tp : Expr → Prop}
structure GsOk (G : Gd) (c : Cx) (k : Nat) (T : Tx) (sc : Scope) (t it : Expr) (ifs : List Expr) (r : List Comprehension) (tg : Tg) (ti : It) (tifs : Es) (gs : Gs) (tp : Expr → Prop) : Prop where
  ok : scOk T.cf sc = true
  ht : TgOk (T.inner sc) t tg
  htp : tp t
  hi : SI G c k T tp it ti
  fs : ∀ env x, foldedSetIterable it env x = pure x
  hif : SBl G c k (T.inner sc) ifs tifs
  hr : SGs G c k (T.inner sc) r gs
theorem comp_any (he : CompE e (⟨t, it, ifs, 0⟩ :: r) emit) (g : GsOk G c k T sc t it ifs r tg ti tifs gs tp) (em : EmOk G k (T.inner sc) b emit kf) {newAcc : Sem Value} (ha : NewAc G b newAcc) {pos : Pos} (a : At G k T A env m O s) (n1 : NE m (escIt ti)) (n2 : NE m ((capOf (sig sc) T.sg (freeIn sc)).map (·.2)))
    (hx : evG1 c m (m.capture noF (capOf (sig sc) T.sg (freeIn sc)) sc.names.length) (.cons tg ti tifs gs) kf = some xs) (hl : xs.length ≤ big) {use : Option (Value → Sem Unit)} {Q X : Value → Shared → Prop}
    (fin : ∀ C D s', CDone G O s C D b xs s' → compPost (model G.prog G.w) A X use Q (.ref D) C (.ok .next) s') : wpAny (model G.prog G.w) A (comprehension e sc env pos newAcc false (eval it env) use) Q X s := by
  have S := scOk_of g.ok
  have hclos := closureFor_eq (scope := sc) (env := env) fun x hx => by
    cases a.er.cel x (a.eo.cf x (S.free x hx)) with | mk e => exact ⟨_, e⟩
  refine obind hx fun items hit hx => wpAny_comprehension_free he.clauses (g.fs env) hclos S.kind (fun x hx hk => lookup_of S.nd (show (x.1, NameKind.local) ∈ sc.names from hk ▸ hx)) (g.hi a n1 hit fun it s₁ s₂ st1 st2 hh => hh.itc g.htp fun I wr Si eI new st0 N => ?_)
  subst eI
  have st := st1.trans st2
  refine ha st.inv fun o hf hac => new_env_comp ?_
  have st3 := St.push st.inv o s₂.toks
  have st13 := st.trans st3
  have hD0 : s₂.heap.get? s₂.heap.objs.size = none := get_size _
  have hD := st.fresh st.inv hD0
  generalize hs3 : ({ s₂ with heap := s₂.heap.push o } : Shared) = s₃
  have e3 : s₃.heap = s₂.heap.push o := hs3 ▸ rfl
  have st3 : St G s₂ s₃ := hs3 ▸ st3
  have st13 := st.trans st3
  have keep4 : ∀ b o', s₃.heap.get? b = some o' → (pushCells (s₃.heap.push { cls := .type "dict", data := .dict #[] }) sc.names).get? b = some o' := fun b o' e => pushCells_keeps _ _ b o' (Heap.get?_push_of_some _ e)
  have st4 := St.keeps st3.inv keep4 s₃.toks
  have hD3 : s₃.heap.get? s₂.heap.objs.size = some o := e3 ▸ Heap.get?_push_size _ hf
  have nf := comp_frame (cenv := ⟨relabel sc env, s₃.heap.objs.size, env.globals, cellsFrom (s₃.heap.push { cls := .type "dict", data := .dict #[] }).objs.size sc.names (clFrom env sc.names []), env.qual, none, env.code, env.frame, env.builtins⟩) (D := s₂.heap.objs.size) (wr := wr) a st13 S n2
    (fun b hb => ⟨(new b hb).1, by obtain ⟨o', e⟩ := (new b hb).2; exact ⟨o', st3.kp b o' (a.inv.freshNotTab (new b hb).1) e⟩⟩) ⟨hD, o, hD3⟩ rfl rfl rfl
  have eo := comp_eo (cenv := ⟨relabel sc env, s₃.heap.objs.size, env.globals, cellsFrom (s₃.heap.push { cls := .type "dict", data := .dict #[] }).objs.size sc.names (clFrom env sc.names []), env.qual, none, env.code, env.frame, env.builtins⟩) a S rfl rfl rfl rfl
  have hsig : (sig (relabel sc env)).length = sc.names.length := by rw [relabel_sig]; exact List.length_map ..
  have noD : ¬ O s₂.heap.objs.size := a.er.ox.new hD
  have noW : ∀ b ∈ wr, ¬ O b := fun b hb => a.er.ox.new (new b hb).1
  have neW : ∀ b ∈ wr, (b == s₂.heap.objs.size) = false := fun b hb => beq_no fun q => by obtain ⟨o', e⟩ := (new b hb).2; exact nos ((hD0.symm.trans (q ▸ e)))
  have bD : compB O s₂.heap.objs.size sc.names.length wr s₂.heap.objs.size = some (.slot sc.names.length) := by unfold compB; rw [if_neg noD, beq_self_eq_true]; rfl
  have bW : ∀ b ∈ wr, compB O s₂.heap.objs.size sc.names.length wr b = some .it := fun b hb => by unfold compB; rw [if_neg (noW b hb), neW b hb, List.contains_iff_mem.mpr hb]; rfl
  have bO : ∀ b, O b → compB O s₂.heap.objs.size sc.names.length wr b = some .out := fun b hb => if_pos hb
  generalize (compB O s₂.heap.objs.size sc.names.length wr).new s₃.heap.objs.size sc.names (sig sc) _ = Θ at nf
  have tD := nf.bb _ _ bD
  have nsW : ∀ b, s.heap.get? b = none → s.heap.get? b = none := fun _ h => h
  have Bc : ∀ {b} {C : Prop}, Θ.dom b → (O b → C) → (b = s₂.heap.objs.size → C) → (b ∈ wr → C) → (s₃.heap.get? b = none → C) → C := fun d h1 h2 h3 h4 => (nf.dom _ d).elim (fun d => by obtain ⟨w, t⟩ := d; exact compB_cases t (fun q _ => h1 q) (fun q _ => h2 q) fun q _ => h3 q) h4
  have ci : CI G k (T.inner sc) A _ s₂.heap.objs.size b Θ { s₃ with heap := pushCells (s₃.heap.push { cls := .type "dict", data := .dict #[] }) sc.names } _ [] :=
    ⟨⟨a.room, st4.inv, eo, nf.fr⟩, fun j sl hj => captured hj fun x hx _ e2 _ => cap_ne n2 hx e2, tD.trans (congrArg (fun n => some (Owner.slot n)) hsig.symm), (e3 ▸ hac Θ.dom : Ac G Θ.dom s₃.heap s₂.heap.objs.size b []).map (st4.vk st3.inv) fun o' => keep4 _ o'⟩
  have lp : Lp G (outs O) s wr (Dn G O s₂) Θ { s₃ with heap := pushCells (s₃.heap.push { cls := .type "dict", data := .dict #[] }) sc.names } :=
    ⟨⟨st4.inv, fun b o nt _ e => (st13.trans st4).kp b o nt e, fun b => ⟨fun t => nf.bb _ _ (bO b (outs_some t).1), fun t => outs_of (compB_cases (nf.out b t) (fun q _ => q) (fun _ q => Owner.noConfusion q) fun _ q => Owner.noConfusion q)⟩,
      fun b d => Bc d (fun q => .inl ⟨_, outs_of q⟩) (fun q => .inr (q ▸ hD)) (fun q => .inr (new b q).1) fun q => .inr (st13.fresh st13.inv q), fun b q => absurd q outs_mine, (st13.trans st4).tb, fun b t => Owner.noConfusion (outs_some t).2⟩,
      fun b hb => nf.bb _ _ (bW b hb), fun b q hw d => by
        obtain ⟨q1, q2, o', e⟩ := q
        exact Bc d q1 (fun q => nos (hD0.symm.trans (q ▸ e))) hw fun q => nos (q.symm.trans (st3.kp b o' q2 e)), fun b q => by
        obtain ⟨_, q2, o', e⟩ := q
        exact ⟨q2, o', keep4 _ _ (st3.kp b o' q2 e)⟩, fun b hb => (new b hb).1⟩
  have st04 := N.frame 0 _ (pushCells (s₃.heap.push { cls := .type "dict", data := .dict #[] }) sc.names) st0 fun b o' q e => keep4 _ _ (st3.kp b o' q.2.1 e)
  refine comp_start he rfl (comp_loop (Θ₀ := outs O) he (d := 0) rfl (g.hr.next rfl) g.ht g.hif (act_all he em g.hr rfl) N a.inv (fun b d => a.er.ox b (outs_dom d)) lp ci st04 hx (Nat.le_trans (Nat.le_of_eq (Nat.zero_add _)) hl) fun s' q1 q2 => ?_) fun hQ => (N.tn a.room.handled lp.dd).self st04 hQ
  have tL := q1.fa.fr.loc
  refine fin _ _ s' ⟨⟨q2.inv, fun b o nt e => q2.kp b o nt outs_mine e, q2.tb⟩, q1.fa.fr.ns, st13.fresh st13.inv (get_size _), hD, Nat.ne_of_lt (Heap.lt_size hD3), q1.ac.map (fun a o _ _ no => ⟨fun h => no ?_, ‹_›⟩) fun _ e => e⟩
  rcases h with h | h | h
  · exact ⟨_, (q2.out a).mp (outs_of h)⟩
  · exact ⟨_, h ▸ q1.acc⟩
  · exact ⟨_, h ▸ tL⟩
inductive AcV (G : Gd) : Bool → List V → V → Prop
  | list {xs : List V} : AcV G false xs (.list xs)
  | dict {ps : List V} {kps : List (K × V)} (e : pairsOf ps = some kps) : AcV G true ps (.dict G.gen (foldD kps))
theorem Ac.own {O' : Addr → Prop} {h : Heap} {b : Bool} {v : V} (x : Ac G O' h D b xs) (k : Keep O' (fun a => O a ∨ a = D) h h) (hv : AcV G b xs v) {s s' : Shared} (hs : s'.heap = h) (f : s.heap.get? D = none) : Own G O s s' v (.ref D) := by
  subst hs
  induction hv with
  | list => cases x with | list r => exact .l f (r.mono k fun o e _ => e)
  | dict e => cases x with | dict e' _ r => cases Option.some.inj (e.symm.trans e'); exact .d f (r.mono k fun o e _ => e)
theorem CDone.own {C : Addr} {s s' : Shared} (i : Inv G s) (x : CDone G O s C D b xs s') {v : V} (hv : AcV G b xs v) {h' : Heap} (hs : Heap.SameBut C s'.heap h') : St G s { s' with heap := h' } ∧ Own G O s { s' with heap := h' } v (.ref D) := by
  obtain ⟨mm, ns⟩ := x.ns
  refine ⟨x.st.butNew (W := fun b => b = C) i (fun b e => e ▸ x.nC) (fun b e => e ▸ ns_rec ns) (fun b o n e => hs.extBut b o n e) s'.toks, ?_⟩
  exact (x.ac.map (O' := fun a => O a ∨ a = D ∨ a = C) (fun a o e _ no => ⟨no, hs.extBut a o (fun q => no (.inr (.inr q))) e⟩) fun o e => hs.extBut _ o x.ne e).own (fun a o e _ no => ⟨fun h => no (h.imp_right .inl), e⟩) hv rfl x.nD
theorem seo_lcomp {elt : Expr} {te : E} {pos : Pos} {cap : List (Nat × Nat)} {n : Nat} (hc : capOf (sig sc) T.sg (freeIn sc) = cap) (hn : sc.names.length = n) (g : GsOk G c k T sc t it ifs r tg ti tifs gs tp) (h : SE G c k (T.inner sc) elt te) :
    SEo G c k T (.ListComp elt (⟨t, it, ifs, 0⟩ :: r) sc pos) (.lcomp te (.cons tg ti tifs gs) cap n) := fun {A env m s O v Q X} a ne hv hQ => by
  subst hc hn
  refine obind hv fun xs hx hv => oif (C := fun v => KO G O s v Q → _) hv (fun hl hQ => ?_) hQ
  refine comp_any compE_list g (em_list h) newAc_list a ne.l ne.r hx hl fun C D s' cd => ?_
  obtain ⟨mm, ns⟩ := cd.ns
  exact ⟨mm, ns, fun h' hs => hQ _ _ (cd.own a.inv .list hs).1 (cd.own a.inv .list hs).2⟩
theorem seo_dcomp {ke ve : Expr} {tk tv : E} {pos : Pos} {cap : List (Nat × Nat)} {n : Nat} (bs : Bs G c k T) (hc : capOf (sig sc) T.sg (freeIn sc) = cap) (hn : sc.names.length = n) (g : GsOk G c k T sc t it ifs r tg ti tifs gs tp) (h : SE G c k (T.inner sc) ke tk) (h' : SE G c k (T.inner sc) ve tv) :
    SEo G c k T (.DictComp ke ve (⟨t, it, ifs, 0⟩ :: r) sc pos) (.dcomp tk tv (.cons tg ti tifs gs) cap n) := fun {A env m s O v Q X} a ne hv hQ => by
  subst hc hn
  refine obind hv fun xs hx hv => ?_
  by_cases hl : xs.length ≤ big
  · rw [if_pos hl] at hv
    refine omap (C := fun v => KO G O s v Q → _) hv (fun kps hk hQ => ?_) hQ
    refine comp_any compE_dict g (em_dict h h') newAc_dict a ne.l ne.r hx hl fun C D s' cd => ?_
    obtain ⟨mm, ns⟩ := cd.ns
    rw [bs.gen] at hQ
    exact ⟨mm, ns, fun h' hs => hQ _ _ (cd.own a.inv (.dict hk) hs).1 (cd.own a.inv (.dict hk) hs).2⟩
  · rw [if_neg hl] at hv; exact nos hv
end
inductive FlR (G : Gd) (O : Addr → Prop) (h : Heap) : Fl → Flow → Prop
  | next : FlR G O h .next .next
  | ret {v : V} {y : Value} (r : VR G O h v y) : FlR G O h (.ret v) (.ret y)
noncomputable def KS (G : Gd) (k : Nat) (T : Tx) (A : Around) (env : Env) (Θ : Th) (s : Shared) (m' : Fr) (fl : Fl) (Q : Flow → Shared → Prop) : Prop := ∀ Θ' s' f, FA G k T A env m' Θ' s' → Sk G Θ s Θ' s' → FlR G Θ'.dom s'.heap fl f → Q f s'
noncomputable def SS (G : Gd) (c : Cx) (k : Nat) (T : Tx) (st : Stmt) (t : S) : Prop :=
  ∀ {A : Around} {env : Env} {m : Fr} {Θ : Th} {s : Shared} {fl : Fl} {m' : Fr} {Q : Flow → Shared → Prop} {X : Value → Shared → Prop}, FA G k T A env m Θ s → ex c t m = some (fl, m') → KS G k T A env Θ s m' fl Q → wpAny (model G.prog G.w) A (exec st env) Q X s
noncomputable def SSs (G : Gd) (c : Cx) (k : Nat) (T : Tx) (st : List Stmt) (t : Ss) : Prop :=
  ∀ {A : Around} {env : Env} {m : Fr} {Θ : Th} {s : Shared} {fl : Fl} {m' : Fr} {Q : Flow → Shared → Prop} {X : Value → Shared → Prop}, FA G k T A env m Θ s → exs c t m = some (fl, m') → KS G k T A env Θ s m' fl Q → wpAny (model G.prog G.w) A (execs st env) Q X s
section
variable {G : Gd} {c : Cx} {k : Nat} {T : Tx} {A : Around} {env : Env} {m m' : Fr} {Θ Θ' : Th} {s s' : Shared} {fl : Fl} {X : Value → Shared → Prop} {Q : Flow → Shared → Prop}
theorem KS.tr (h : KS G k T A env Θ s m' fl Q) (x : Sk G Θ s Θ' s') : KS G k T A env Θ' s' m' fl Q := fun Θ'' s'' f a y r => h Θ'' s'' f a (x.trans y a.fr.ox) r
theorem KS.nx (h : KS G k T A env Θ s m' .next Q) (a : FA G k T A env m' Θ' s') (x : Sk G Θ s Θ' s') : Q .next s' := h _ _ _ a x .next
theorem KS.bd (h : KS G k T A env Θ s m' .next Q) (x : Bd G k T A env Θ s m' s') : Q .next s' := h.nx x.fa x.sk
theorem pair_eq {α β : Type} {p : α × β} {a : α} {b : β} (h : some p = some (a, b)) : p.1 = a ∧ p.2 = b := Option.some.inj h ▸ ⟨rfl, rfl⟩
theorem ss_bad {st : Stmt} : SS G c k T st .bad := fun _ h _ => nos h
theorem sss_nil : SSs G c k T [] .nil := fun a h hQ => by
  cases Option.some.inj h
  exact wpAny_execs_nil (hQ.nx a (.of (.refl a.inv) a.fr.ox))
theorem sss_cons {st : Stmt} {r : List Stmt} {t : S} {tr : Ss} (h : SS G c k T st t) (hr : SSs G c k T r tr) : SSs G c k T (st :: r) (.cons t tr) := fun a he hQ => obind he fun p e1 he => wpAny_execs_cons (h a e1 fun Θ₁ s₁ f a₁ k₁ hf => by
  obtain ⟨f1, m1⟩ := p
  cases hf with
  | next => exact hr a₁ he (hQ.tr k₁)
  | ret r =>
    cases Option.some.inj he
    exact hQ _ _ _ a₁ k₁ (.ret r))
theorem ss_ret {e : Expr} {t : E} {p : Pos} (h : SE G c k T e t) : SS G c k T (.Return (some e) p) (.ret t) := fun {A env m Θ s fl m' Q X} a he hQ => by
  refine omap (C := fun p => p = (fl, m') → _) (b := (fl, m')) he (fun v hv e => ?_) rfl
  cases e
  have a₁ := a.frz (esc t)
  exact wpAny_Return_some (h a₁.at (ne_frz _ _) hv fun y s₁ st r => hQ _ _ _ (a₁.step st) ((a.dropSk _).trans (.of st a₁.fr.ox) (a₁.step st).fr.ox) (.ret r))
theorem ss_retN {p : Pos} : SS G c k T (.Return none p) .retN := fun a he hQ => by
  cases Option.some.inj he
  exact wpAny_Return_none (hQ _ _ _ a (.of (.refl a.inv) a.fr.ox) (.ret .none))
theorem ss_ite {e : Expr} {t : E} {x y : List Stmt} {tx ty : Ss} {p : Pos} (h : SB G c k T e t) (hx : SSs G c k T x tx) (hy : SSs G c k T y ty) : SS G c k T (.If e x y p) (.ite t tx ty) := fun {A env m Θ s fl m' Q X} a he hQ => obind he fun v hv he => obind he fun z hz he => by
  have a₁ := a.frz (esc t)
  refine wpAny_If (h a₁.at (ne_frz _ _) hv hz fun s₁ st => ?_)
  have a₂ := a₁.step st
  have hQ := hQ.tr ((a.dropSk _).trans (.of st a₁.fr.ox) a₂.fr.ox)
  cases z with
  | true => exact hx a₂ he hQ
  | false => exact hy a₂ he hQ
noncomputable def oneTh (b : Addr) (w : Owner) : Th := fun a => bif a == b then some w else none
theorem oneTh_at {b : Addr} {w : Owner} : oneTh b w b = some w := congrArg (fun c => bif c then some w else none) (beq_self_eq_true b)
theorem oneTh_some {a b : Addr} {w w' : Owner} (h : oneTh b w a = some w') : a = b ∧ w' = w := by
  unfold oneTh at h
  cases q : a == b with
  | true => rw [q] at h; exact ⟨eq_of_beq q, (Option.some.inj h).symm⟩
  | false => rw [q] at h; exact nos h
theorem oneTh_new {b : Addr} {i : Nat} (f : s.heap.get? b = none) (e : ∃ o, s'.heap.get? b = some o) : NewTh s s' (oneTh b (.slot i)) := ⟨fun a w q => (oneTh_some q).1 ▸ ⟨f, e⟩, fun a q => Owner.noConfusion (oneTh_some q).2⟩
theorem one_keep {b : Addr} {w : Owner} {h : Heap} : Keep (fun a => Θ.dom a ∨ a = b) (Θ.addM (oneTh b w)).dom h h := fun a o e _ no => ⟨fun d => by
  obtain ⟨w', t⟩ := d
  exact addM_cases t (fun q => no (.inr (oneTh_some q).1)) fun q => no (.inl ⟨w', q⟩), e⟩
theorem lst_get {O : Addr → Prop} {a : Addr} {xs : List V} {h : Heap} (r : LstA (VR G O h) h a xs) : ∃ o, h.get? a = some o := by cases r with | mk e => exact ⟨_, e⟩
theorem dct_get {O : Addr → Prop} {a : Addr} {xs : List (K × V)} {h : Heap} (r : DctA (VR G O h) h a G xs) : ∃ o, h.get? a = some o := r.obj fun o e _ => ⟨o, e⟩
theorem storeO (a : FA G k T A env m Θ s) (st : St G s s') {x : Str} {i : Nat} (ho : x ∈ T.ow) (hi : idxOf T.sg x = i) {v : V} {y : Value} (r : Own G Θ.dom s s' v y) {Q : Unit → Shared → Prop}
    (h : ∀ Θ' s'', FA G k T A env (m.set i (some (slotOf .o v))) Θ' s'' → Sk G Θ s Θ' s'' → Q () s'') : wpAny (model G.prog G.w) A (storeName env x y) Q X s' := by
  induction r with
  | v nl r => exact storeF (a.step st) ho hi (sf_v r) fun s'' b => h Θ s'' (nl ▸ b.fa) ((Sk.of st a.fr.ox).trans b.sk b.fa.fr.ox)
  | l f r =>
    have n := oneTh_new (i := i) f (lst_get r)
    exact storeF (sl := .ol _) ⟨a.room, st.inv, a.eo, a.fr.addM n a.inv st⟩ ho hi ⟨.ol (r.mono one_keep fun o e _ => e), fun _ a e => Value.ref.inj e ▸ addM_new oneTh_at⟩ fun s'' b => h _ s'' b.fa ((n.sk st a.fr.ox).trans b.sk b.fa.fr.ox)
  | d f r =>
    have n := oneTh_new (i := i) f (dct_get r)
    exact storeF (sl := .od _ _) ⟨a.room, st.inv, a.eo, a.fr.addM n a.inv st⟩ ho hi ⟨.od (r.mono one_keep fun o e _ => e), fun _ a e => Value.ref.inj e ▸ addM_new oneTh_at⟩ fun s'' b => h _ s'' b.fa ((n.sk st a.fr.ox).trans b.sk b.fa.fr.ox)
noncomputable def NoSwap (e : Expr) (x : Str) (px p : Pos) : Prop := ∀ env, swapsWith e (some (.Name x px)) p.line env = pure false
theorem ss_asg {e : Expr} {t : E} {x : Str} {px p : Pos} {i : Nat} (ho : x ∈ T.ow) (hi : idxOf T.sg x = i) (hs : NoSwap e x px p) (h : SE G c k T e t) : SS G c k T (.Assign [.Name x px] e p) (.asg .v i t) := fun {A env m Θ s fl m' Q X} a he hQ => by
  refine omap (C := fun p => p = (fl, m') → _) (b := (fl, m')) he (fun v hv e => ?_) rfl
  cases e
  have a₁ := a.frz (esc t)
  exact wpAny_Assign_Name (h a₁.at (ne_frz _ _) hv fun y s₁ st r => storeF (a₁.step st) ho hi (sf_v r) fun s₂ b => hQ.nx b.fa ((a.dropSk _).trans ((Sk.of st a₁.fr.ox).trans b.sk b.fa.fr.ox) b.fa.fr.ox)) (hs env)
theorem ss_asgO {e : Expr} {t : E} {x : Str} {px p : Pos} {i : Nat} (ho : x ∈ T.ow) (hi : idxOf T.sg x = i) (hs : NoSwap e x px p) (h : SEo G c k T e t) : SS G c k T (.Assign [.Name x px] e p) (.asg .o i t) := fun {A env m Θ s fl m' Q X} a he hQ => by
  refine omap (C := fun p => p = (fl, m') → _) (b := (fl, m')) he (fun v hv e => ?_) rfl
  cases e
  have a₁ := a.frz (esc t)
  exact wpAny_Assign_Name (h a₁.at (ne_frz _ _) hv fun y s₁ st r => storeO a₁ st ho hi r fun Θ' s₂ b sk => hQ.nx b ((a.dropSk _).trans sk b.fr.ox)) (hs env)
theorem ss_asgT {e : Expr} {t : E} {es : List Expr} {kk : Nat} {px p : Pos} {is : List Nat} (hn : Nms T es is) (h1 : ∀ env, swapsWithSole [.Tuple es kk px] e p.line env = pure false) (h2 : ∀ env, swappedStores [.Tuple es kk px] e env = pure none) (h : SE G c k T e t) : SS G c k T (.Assign [.Tuple es kk px] e p) (.asgT is t) := fun {A env m Θ s fl m' Q X} a he hQ => obind he fun v hv he => by
  refine omap (C := fun p => p = (fl, m') → _) (b := (fl, m')) he (fun q hb e => ?_) rfl
  cases e
  have a₁ := a.frz (esc t)
  exact Assign_Tuple (h a₁.at (ne_frz _ _) hv fun y s₁ st r => assign_any (.many hn) (a₁.step st) r hb fun s₂ b => hQ.nx b.fa ((a.dropSk _).trans ((Sk.of st a₁.fr.ox).trans b.sk b.fa.fr.ox) b.fa.fr.ox)) (h1 env) (h2 env)
theorem varIs_fun {h : Heap} {x : Str} {y z : Value} (a : VarIs G h env x y) (b : VarIs G h env x z) : y = z := by
  cases a with
  | loc k1 n1 e1 =>
    cases b with
    | loc k2 n2 e2 => exact Option.some.inj (e1.symm.trans (ns_fun n2 n1 ▸ e2))
    | cel k2 => exact k2.elim (fun h => NameKind.noConfusion (Option.some.inj (k1.symm.trans h))) fun h => NameKind.noConfusion (Option.some.inj (k1.symm.trans h))
  | cel k1 c1 _ v1 =>
    cases b with
    | loc k2 => exact k1.elim (fun h => NameKind.noConfusion (Option.some.inj (k2.symm.trans h))) fun h => NameKind.noConfusion (Option.some.inj (k2.symm.trans h))
    | cel k2 c2 _ v2 =>
      cases Option.some.inj (c1.symm.trans c2)
      obtain ⟨o, g, d⟩ := v1
      obtain ⟨o', g', d'⟩ := v2
      cases Option.some.inj (g.symm.trans g')
      have e := d.symm.trans d'
      injection e with e
      exact Option.some.inj e
theorem FA.wr (a : FA G k T A env m Θ s) {x : Str} {i : Nat} (n : NmOk T x i) {b : Addr} {sl sl' : Slot} (hm : m.at i = some sl) (vi : VarIs G s.heap env x (.ref b)) (t : Θ b = some (.slot i)) {h' : Heap} {tk : Nat} (hc : ∀ o, s.heap.get? b = some o → ¬ Rec o) (hs : Heap.SameBut b s.heap h') (he : ∃ o, h'.get? b = some o) (sr : SR G Θ.dom h' env sl' (.ref b)) :
    FA G k T A env (m.set i (some sl')) Θ { s with heap := h', toks := tk } ∧ Sk G Θ s Θ { s with heap := h', toks := tk } := by
  have sk := sk_wr (tk := tk) a.inv a.fr.ox t (fun e => Owner.noConfusion e) (fun e => Owner.noConfusion e) (a.fr.new b (th_mine t fun e => Owner.noConfusion e)) hc hs he
  have hi : idxOf (sig env.scope) x = i := a.eo.sg ▸ n.i
  refine ⟨⟨a.room, sk.inv, a.eo, a.fr.wrS t hs he fun x' sl0 hx' e => at_set e (fun q e => ⟨fun _ => ?_, fun q' => absurd q q'⟩) fun q e => ⟨fun q' => absurd q' q, fun _ => e⟩⟩, sk⟩
  cases e
  have e : x' = x := idx_inj (isVar_mem hx') (q.trans hi.symm)
  subst e
  rw [hi]
  exact ⟨sl, hm, fun y v _ => varIs_fun vi v ▸ ⟨sr, fun _ a e => Value.ref.inj e ▸ t⟩⟩
theorem nameF (a : FA G k T A env m Θ s) {x : Str} {i : Nat} (n : NmOk T x i) {p : Pos} {sl : Slot} (hm : m.at i = some sl) {Q : Value → Shared → Prop} (h : ∀ y, VarIs G s.heap env x y → SF G Θ s.heap env i sl y → Q y s) : wpAny (model G.prog G.w) A (eval (.Name x p) env) Q X s := by
  have hi : idxOf (sig env.scope) x = i := a.eo.sg ▸ n.i
  obtain ⟨y, v, r⟩ := a.fr.var x sl (a.eo.sg ▸ n.v) (hi ▸ hm)
  exact wpAny_Name (load_var a.eo.kind v n.cd (h y v (hi ▸ r))) n.d
theorem inter (a : FA G k T A env m Θ s) : interactive env = false := by unfold interactive; rw [a.eo.kind]; rfl
theorem ss_append {x : Str} {px ap p pp : Pos} {e : Expr} {te : E} {i : Nat} (n : NmOk T x i) (hl : (ap.endLine == p.line) = true) (hc : Nc (.Name x px)) (ns : Ns e) (h : SE G c k T e te) : SS G c k T (.Expr (.Call (.Attribute (.Name x px) "append" ap) [e] [] p) pp) (.append i te) := fun {A env m Θ s fl m' Q X} a he hQ => obind he fun v hv he => obind he fun sl hsl he => by
  refine omap (C := fun p => p = (fl, m') → _) (b := (fl, m')) he (fun sl' hp e => ?_) rfl
  cases e
  have a₁ := a.frz (esc te)
  refine wpAny_Expr_any (method_any hl hc (.cons ns .nil) rfl (nameF a₁ n hsl fun y vi sf => ?_)) (inter a) rfl
  obtain ⟨sr, own⟩ := sf
  cases sr with
  | @ol xs b rl =>
    refine oif (C := fun sl' => KS G k T A env Θ s (((m.frz te)).set i (some sl')) .next Q → _) hp (fun hle hQ => ?_) hQ
    have t := own rfl b rfl
    refine ⟨_, ⟨F.plainAttrs_list, F.slot_list_append, F.type_list_append, lst_type rl, lst_mth rl⟩, spl1 ns (h a₁.at (ne_frz _ _) hv fun y s₁ st ry => ?_)⟩
    have a₂ := a₁.step st
    have vi := vi.step a₁.fr.er.loc st
    have rl := rl.step a₁.inv st
    cases rl with | @mk ws n0 e l rs =>
    refine wpAny_list_append_plain ⟨n0, e⟩ (fun h' hp hs => ?_) (fits l)
    obtain ⟨n', e'⟩ := hp
    rw [push_app] at e'
    have kw := keep_wr t hs
    obtain ⟨fa, sk⟩ := a₂.wr (tk := s₁.toks) (sl' := .ol (xs ++ [v])) n hsl vi t (cls_rec e rfl rfl) hs ⟨_, e'⟩ (.ol ⟨e', by rw [List.length_append, ← rs.length]; exact hle, (VRs.mono kw rs).append (.cons (ry.mono kw) .nil)⟩)
    exact hQ.nx fa ((a.dropSk _).trans ((Sk.of st a₁.fr.ox).trans sk fa.fr.ox) fa.fr.ox)
  | _ => exact nos hp
theorem ss_reverse {x : Str} {px ap p pp : Pos} {i : Nat} (n : NmOk T x i) (hl : (ap.endLine == p.line) = true) (hc : Nc (.Name x px)) : SS G c k T (.Expr (.Call (.Attribute (.Name x px) "reverse" ap) [] [] p) pp) (.reverse i) := fun {A env m Θ s fl m' Q X} a he hQ => obind he fun sl hsl he => by
  refine omap (C := fun p => p = (fl, m') → _) (b := (fl, m')) he (fun sl' hp e => ?_) rfl
  cases e
  refine wpAny_Expr_any (method_any hl hc .nil rfl (nameF a n hsl fun y vi sf => ?_)) (inter a) rfl
  obtain ⟨sr, own⟩ := sf
  cases sr with
  | @ol xs b rl =>
    have hQ : KS G k T A env Θ s (m.set i (some (.ol xs.reverse))) .next Q := Option.some.inj hp ▸ hQ
    have t := own rfl b rfl
    refine ⟨_, ⟨F.plainAttrs_list, F.slot_list_reverse, F.type_list_reverse, lst_type rl, lst_mth rl⟩, Calls.spliced_nil ?_⟩
    cases rl with | @mk ws n0 e l rs =>
    refine call_meets F.slot_list_reverse ⟨_, e, rfl⟩ F.entry_list_reverse (F.args_list_reverse_1 _) (AutoListH.list_reverse_list_0 b ws.toArray n0 (fits l)) ⟨e, ?_⟩
    have hm : ∃ n', Obj.mapSeq (fun x => x.reverse) { cls := .type "list", data := .seq ws.toArray n0 } = { cls := .type "list", data := .seq ws.reverse.toArray n' } := by
      simp [Obj.mapSeq]
    obtain ⟨n', hm⟩ := hm
    have e' : (s.heap.update b (Obj.mapSeq fun x => x.reverse)).get? b = some { cls := .type "list", data := .seq ws.reverse.toArray n' } := by
      rw [Heap.get?_update_self _ e (by rw [hm]; rfl), hm]
    have hs : Heap.SameBut b s.heap (s.heap.update b (Obj.mapSeq fun x => x.reverse)) := Heap.SameBut.update ..
    have kw := keep_wr t hs
    obtain ⟨fa, sk⟩ := a.wr (tk := s.toks) (sl' := .ol xs.reverse) n hsl vi t (cls_rec e rfl rfl) hs ⟨_, e'⟩ (.ol ⟨e', List.length_reverse.symm ▸ l, (VRs.mono kw rs).reverse⟩)
    exact hQ.nx fa sk
  | _ => exact nos hp
end
theorem setItem_plain {prog : Program} {w : World} {A : Around} {E : Value → Shared → Prop} {s : Shared} {l : Addr} {items : Array Value} {n : Nat} {k : Int} {t : Tok} {v : Value} {Q : Unit → Shared → Prop} (hl : IsL s.heap l items n)
    (h0 : 0 ≤ k) (hfit : k < 2 ^ 63) (hn : k < items.size)
    (hQ : ∀ h' n', IsL h' l (items.setIfInBounds k.toNat v) n' → Heap.SameBut l s.heap h' → Q () { s with heap := h' }) :
    wpAny (model prog w) A (PySem.setItem (.ref l) (.int k t) v) Q E s := by
  have hL : s.heap.IsList l items := ⟨_, hl, rfl, _, rfl⟩
  unfold PySem.setItem
  try with_reducible refine wpAny_holding ?_
  first | refine wpAny_bind (wpAny_pure ?_) | skip
  refine wpAny_bind (wpAny_sequenceKey hL.typeIs (by decide) ?_)
  refine wpAny_bind (wpAny_callSpecial?_slot (name := Str.ofString "__setitem__") hL.typeIs slot_list_setitem
    (wpAny_call_entry slot_list_setitem hL.typeIs entry_list_setitem ?_ (args_list_setitem _ _ _)))
  show wpAny _ _ (Builtin.List.listSubscript? (.int k t) >>= _) _ _ s
  refine wpAny_bind (wpAny_listSubscript_int (fitsIndex_of h0 hfit) ?_)
  clear hfit
  obtain ⟨j, rfl⟩ := Int.eq_ofNat_of_zero_le h0
  have hj : j < items.size := by omega
  have hx' : items[j]? = some items[j] := Array.getElem?_eq_getElem hj
  show wpAny _ _ ((seqItemAt l j >>= fun r => pure (r.map (j, ·))) >>= _) _ _ s
  refine wpAny_bind (wpAny_bind (wpAny_seqItemAt hl rfl (wpAny_pure ?_)))
  rw [hx']
  show wpAny _ _ (setSeqItemAt l j v >>= _) _ _ s
  have hm : ∃ n', Obj.mapSeq (·.setIfInBounds j v) { cls := .type "list", data := .seq items n } = { cls := .type "list", data := .seq (items.setIfInBounds j v) n' } := by
    simp [Obj.mapSeq]
  obtain ⟨n', hm⟩ := hm
  have hfin : IsL (s.heap.update l (Obj.mapSeq (·.setIfInBounds j v))) l (items.setIfInBounds j v) n' := by
    show (s.heap.update l _).get? l = _
    rw [Heap.get?_update_self _ hl (by rw [hm]; rfl), hm]
  refine wpAny_bind (wpAny_setSeqItemAt hl rfl ?_)
  first
    | exact wpAny_bind (wpAny_pure (wpAny_pure ⟨.none, rfl, wpAny_pure (hQ _ _ hfin (Heap.SameBut.update ..))⟩))
    | exact wpAny_pure ⟨.none, rfl, wpAny_pure (hQ _ _ hfin (Heap.SameBut.update ..))⟩
theorem oif1 {α : Type} {c : Prop} [Decidable c] {o : Option α} {b : α} {C : α → Prop} (h : (if c then o else none) = some b) (k : c → o = some b → C b) : C b :=
  if q : c then k q ((if_pos q).symm.trans h) else nos ((if_neg q).symm.trans h)
section
variable {G : Gd} {c : Cx} {k : Nat} {T : Tx} {A : Around} {env : Env} {m m' : Fr} {Θ Θ' : Th} {s s' : Shared} {fl : Fl} {X : Value → Shared → Prop}
theorem set_rel {r : V → Value → Prop} {xs : List V} {ws : List Value} (h : All2 r xs ws) {v : V} {y : Value} (x : r v y) (j : Nat) : All2 r (xs.set j v) (ws.toArray.setIfInBounds j y).toList := by
  rw [Array.toList_setIfInBounds]
  exact h.set x j
theorem ok_set (a : FA G k T A env m Θ s) {x : Str} {j : Nat} (n : NmOk T x j) {sl sl' : Slot} {u v : V} {y w z : Value} (hm : m.at j = some sl) (hp : storeS u v sl = some sl') (vi : VarIs G s.heap env x y) (sf : SF G Θ s.heap env j sl y) (ru : VW G Θ.dom s.heap u w) (rv : VR G Θ.dom s.heap v z) {Q : Unit → Shared → Prop}
    (hQ : ∀ s', FA G k T A env (m.set j (some sl')) Θ s' → Sk G Θ s Θ s' → Q () s') : wpAny (model G.prog G.w) A (PySem.setItem y w z) Q X s := by
  obtain ⟨sr, own⟩ := sf
  cases sr with
  | @ol xs b rl =>
    have t := own rfl b rfl
    refine obind hp fun q hq hp => omap (C := fun sl' => (∀ s', FA G k T A env (m.set j (some sl')) Θ s' → Sk G Θ s Θ s' → Q () s') → _) hp (fun ys hy hQ => ?_) hQ
    refine oif (C := fun ys => (∀ s', FA G k T A env (m.set j (some (.ol ys))) Θ s' → Sk G Θ s Θ s' → Q () s') → _) hy (fun hb hQ => ?_) hQ
    cases ru.oi hq with | mk tk =>
    cases rl with | @mk ws n0 e l rs =>
    have hz : (ws.toArray.size : Int) = xs.length := size_rel rs
    refine setItem_plain e hb.1 (Int.lt_trans hb.2 (hz ▸ fit63 l)) (hz ▸ hb.2) fun h' n' e' hs => ?_
    have kw := keep_wr t hs
    have hl : (ws.toArray.setIfInBounds q.toNat z).toList.length ≤ big := by rw [Array.toList_setIfInBounds, List.length_set]; exact l
    obtain ⟨fa, sk⟩ := a.wr (tk := s.toks) (sl' := .ol (xs.set q.toNat v)) n hm vi t (cls_rec e rfl rfl) hs ⟨_, e'⟩ (.ol (.mk (ws := (ws.toArray.setIfInBounds q.toNat z).toList) e' hl (set_rel (VRs.mono kw rs) (rv.mono kw) _)))
    exact hQ _ fa sk
  | @od g es b rd =>
    have t := own rfl b rfl
    refine oif1 (C := fun sl' => (∀ s', FA G k T A env (m.set j (some sl')) Θ s' → Sk G Θ s Θ s' → Q () s') → _) hp (fun hb hp => omap (C := fun sl' => (∀ s', FA G k T A env (m.set j (some sl')) Θ s' → Sk G Θ s Θ s' → Q () s') → _) hp fun q hq hQ => ?_) hQ
    cases rd with | @mk kvs ns of l rel =>
    refine wpAny_setItem_pairs (knd := intKind G.prog G.w) (ru.key hq) of (fun h' hd hs => ?_) (Nat.le_trans l big_le)
    have hg : ∃ o, h'.get? b = some o := by obtain ⟨o, _, _, e, _⟩ := hd; exact ⟨o, e⟩
    have kw := keep_wr t hs
    obtain ⟨fa, sk⟩ := a.wr (tk := s.toks + 1) (sl' := .od g (dset q v es)) n hm vi t (by obtain ⟨o, es, ep, e, hc, _⟩ := of; exact cls_rec e hc.1 rfl) hs hg (.od ⟨ns, hd, Nat.le_trans (stored_length q z kvs) (rel.length ▸ hb), dset_at (rv.mono kw) (rel.imp fun _ _ => kv_mono kw) (dictOf_nodup of)⟩)
    exact hQ _ fa sk
  | _ => exact nos hp
theorem frz2 (a : FA G k T A env m Θ s) (l l' : List Nat) : FA G k T A env (frzAt l' 0 (frzAt l 0 m)) ((Θ.drop l.contains).drop l'.contains) s ∧ Sk G Θ s ((Θ.drop l.contains).drop l'.contains) s :=
  ⟨(a.frz l).frz l', (a.dropSk l).trans ((a.frz l).dropSk l') ((a.frz l).frz l').fr.ox⟩
theorem ss_asgS {x : Str} {px pp p : Pos} {i e : Expr} {ti te : E} {j : Nat} (n : NmOk T x j) (hsw : ∀ env, swapsWith e (some (.Subscript (.Name x px) i pp)) p.line env = pure false) (hi : SE G c k T i ti) (h : SE G c k T e te) :
    SS G c k T (.Assign [.Subscript (.Name x px) i pp] e p) (.asgS j ti te) := fun {A env m Θ s fl m' Q X} a he hQ => obind he fun v hv he => obind he fun u hu he => by
  refine omap (C := fun p => p = (fl, m') → _) (b := (fl, m')) he (fun q hst e => ?_) rfl
  cases e
  refine obind hst fun sl hsl hst => omap (C := fun m' => KS G k T A env Θ s m' .next Q → _) hst (fun sl' hp hQ => ?_) hQ
  obtain ⟨a₂, k₂⟩ := frz2 a (esc te) (esc ti)
  refine wpAny_Assign_Subscript (h a₂.at (ne_frz (esc te) m).frz hv fun y s₁ st1 ry => nameF (a₂.step st1) n hsl fun z vi sf => hi (a₂.step st1).at (ne_frz _ _) hu fun w s₂ st2 rw => ?_) (hsw env)
  have a₃ := a₂.step st1
  exact ok_set (a₃.step st2) n hsl hp (vi.step a₃.fr.er.loc st2) (sf.map (st2.vk a₃.inv) (fun b t => ⟨t, fun o => st2.kp b o (a₃.fr.there t).1⟩) st2.tb) rw.w (ry.step a₃.inv st2) fun s' fa sk => hQ.nx fa (k₂.trans ((Sk.of (st1.trans st2) a₂.fr.ox).trans sk fa.fr.ox) fa.fr.ox)
theorem ok_iadd (i : Inv G s) {O : Addr → Prop} {u v w : V} {x y : Value} (ru : VW G O s.heap u x) (rv : VW G O s.heap v y) (h : addI u v = some w) {Q : Value → Shared → Prop} (hQ : KV G O s w Q) : wpAny (model G.prog G.w) A (inplaceOp .Add x y) Q X s := by
  refine obind h fun a ha h => omap (C := fun w => KV G O s w Q → _) h (fun b hb hQ => ?_) hQ
  cases ru.oi ha with | mk t =>
  cases rv.oi hb with | mk t' => exact AutoIntOps.iadd_0 (hQ _ _ (.toks i _) (.int _ _))
theorem ss_aug {x : Str} {px p : Pos} {e : Expr} {te : E} {i : Nat} (n : NmOk T x i) (ho : x ∈ T.ow) (h : SE G c k T e te) : SS G c k T (.AugAssign (.Name x px) .Add e p) (.asg .v i (.p2 addI (.var i) te)) := fun {A env m Θ s fl m' Q X} a he hQ => by
  refine omap (C := fun p => p = (fl, m') → _) (b := (fl, m')) he (fun v hv e => ?_) rfl
  cases e
  have a₁ := a.frz (esc (.p2 addI (.var i) te))
  have ne := ne_frz (esc (.p2 addI (.var i) te)) m
  refine obind hv fun u hu hv => obind hu fun sl hsl hu => obind hv fun w hw hv => ?_
  have hi : idxOf (sig env.scope) x = i := a.eo.sg ▸ n.i
  obtain ⟨y, vi, sf⟩ := a₁.fr.var x sl (a.eo.sg ▸ n.v) (hi ▸ hsl)
  exact wpAny_AugAssign_Name (load_var a.eo.kind vi n.cd (h a₁.at ne.r hw fun z s₁ st rz => ok_iadd st.inv ((sf.sr.view hu).step a₁.inv st) rz.w hv fun r s₂ st2 rr =>
    storeF (a₁.step (st.trans st2)) ho n.i (sf_v rr) fun s₃ b => hQ.nx b.fa ((a.dropSk _).trans ((Sk.of (st.trans st2) a₁.fr.ox).trans b.sk b.fa.fr.ox) b.fa.fr.ox)))
theorem ss_augS {x y : Str} {px py pp p : Pos} {e : Expr} {te : E} {i j : Nat} (n : NmOk T x i) (n' : NmOk T y j) (h : SE G c k T e te) : SS G c k T (.AugAssign (.Subscript (.Name x px) (.Name y py) pp) .Add e p) (.asgS i (.var j) (.p2 addI (.pe subV i (.var j)) te)) := fun {A env m Θ s fl m' Q X} a he hQ => obind he fun v hv he => obind he fun u hu he => by
  refine omap (C := fun p => p = (fl, m') → _) (b := (fl, m')) he (fun q hst e => ?_) rfl
  cases e
  refine obind hst fun sl hsl hst => omap (C := fun m' => KS G k T A env Θ s m' .next Q → _) hst (fun sl' hp hQ => ?_) hQ
  obtain ⟨a₂, k₂⟩ := frz2 a (esc (.p2 addI (.pe subV i (.var j)) te)) (esc (.var j))
  have ne := (ne_frz (esc (.p2 addI (.pe subV i (.var j)) te)) m).frz (l' := esc (.var j))
  refine obind hv fun old hold hv => obind hold fun d hd hold => obind hd fun sld hsld hd => obind hold fun u' hu' hold => obind hv fun v2 hv2 hv => ?_
  cases Option.some.inj (hsl.symm.trans hsld)
  cases Option.some.inj (hu.symm.trans hu')
  refine obind hu fun sly hsly hu => ?_
  refine wpAny_AugAssign_Subscript (nameF a₂ n hsl fun z vi sf => nameF a₂ n' hsly fun w _ sfy => ?_)
  have ry := sfy.sr.fro hu (ne_frz _ _ j (List.mem_singleton.mpr rfl) sly hsly)
  refine ok_sub (O := (Θ.drop _).drop _ |>.dom) a₂.inv (sf.sr.view hd) ry.w hold fun z2 s₂ st2 rold => h (a₂.step st2).at ne.r hv2 fun z3 s₃ st3 rz => ok_iadd st3.inv (rold.step st2.inv st3).w rz.w hv fun z4 s₄ st4 r4 => ?_
  have st := (st2.trans st3).trans st4
  have a₃ := a₂.step st
  exact ok_set a₃ n hsl hp (vi.step a₂.fr.er.loc st) (sf.map (st.vk a₂.inv) (fun b t => ⟨t, fun o => st.kp b o (a₂.fr.there t).1⟩) st.tb) (ry.step a₂.inv st).w r4 fun s' fa sk => hQ.nx fa (k₂.trans ((Sk.of st a₂.fr.ox).trans sk fa.fr.ox) fa.fr.ox)
end
inductive FI (G : Gd) (k : Nat) (T : Tx) (A : Around) (env : Env) (Θ₀ : Th) (s₀ : Shared) (wr : List Addr) (Ds : Addr → Prop) (St : Nat → Heap → Prop) (items : List V) (f : V → Fr → Option (Fl × Fr)) (r : Fl × Fr) (n : Nat) (s : Shared) : Prop
  | mk {i : Nat} {Θ : Th} {m : Fr} (hn : n = items.length - i) (hle : i ≤ items.length) (lp : Lp G Θ₀ s₀ wr Ds Θ s) (fa : FA G k T A env m Θ s) (hst : St i s.heap) (hf : forL f (items.drop i) m = some r)
section
variable {G : Gd} {c : Cx} {k : Nat} {T : Tx}
theorem ss_for {t it : Expr} {body : List Stmt} {tg : Tg} {ti : It} {tb : Ss} {p : Pos} {tp : Expr → Prop} (ht : TgOk T t tg) (htp : tp t) (hi : SI G c k T tp it ti) (hfs : ∀ env x, foldedSetIterable it env x = pure x) (hb : SSs G c k T body tb) :
    SS G c k T (.For t it body [] p) (.for tg ti tb) := fun {A env m Θ s fl m' Q X} a he hQ => obind he fun items hit he => by
  have a₁ := a.frz (escIt ti)
  have k₁ := a.dropSk (escIt ti)
  refine wpAny_For (hi a₁.at (ne_frz _ _) hit fun it s₁ s₂ st1 st2 hh => hh.itc htp fun I wr Si eI new st0 N => ?_) (hfs env)
  subst eI
  have st := st1.trans st2
  obtain ⟨lp, fa⟩ := Lp.start a₁ st rfl new
  refine codeAny_forLoop_any (FI G k T A env _ s wr (Dn G _ s₂) Si items (fun v m => (m.bind tg v).bind (exs c tb)) (fl, m')) (fun n s' x => ?_) (items.length - 0) (.mk rfl (Nat.zero_le _) lp fa st0 he)
  cases x with | @mk i Θ' m1 hn hle lp fa hst hf =>
  subst hn
  have hh := a.room.handled
  cases hx : items[i]? with
  | none =>
    have hi : i = items.length := Nat.le_antisymm hle (List.getElem?_eq_none_iff.mp hx)
    rw [hi, List.drop_length] at hf
    obtain ⟨e1, e2⟩ := pair_eq hf
    subst e1; subst e2
    refine (N.tn hh lp.dd).done (hi ▸ hst) fun h' tk kw => wpAny_execs_nil ?_
    obtain ⟨sk, fa⟩ := lp.leave a.inv a₁.fr.ox fa kw (lp.inv a.inv ⟨kw, N.cls i _ hst⟩ tk)
    exact hQ.nx fa (k₁.trans sk fa.fr.ox)
  | some x =>
    rw [drop_at hx] at hf
    refine obind hf fun r hr hf => obind hr fun mb hmb hr => ?_
    refine wpAny_mono ((N.tn hh lp.dd).turn hx hst fa.fr.ox fun y h' tk st' kw vr => ?_) (fun r s₁ h => by obtain ⟨y, e, h⟩ := h; exact e ▸ h) fun _ _ x => x
    obtain ⟨lp₂, fa₂⟩ := lp.turn a.inv fa ⟨kw, N.cls i _ hst⟩ (N.liv st') tk
    refine assign_any ht fa₂ vr hmb fun s₃ bd => ?_
    have lp₃ := lp₂.step bd.sk bd.fa.fr.ox
    have st₃ := N.frame _ _ _ st' (lp₂.kd bd.sk)
    refine hb bd.fa hr fun Θ₄ s₄ f fa₄ sk₄ hfl => ?_
    have lp₄ := lp₃.step sk₄ fa₄.fr.ox
    obtain ⟨f1, m2⟩ := r
    cases hfl with
    | next => exact ⟨_, Nat.sub_lt_sub_left (get_lt hx) (Nat.lt_succ_self i), .mk rfl (get_lt hx) lp₄ fa₄ (N.frame _ _ _ st₃ (lp₃.kd sk₄)) hf⟩
    | ret r =>
      cases Option.some.inj hf
      have kw : Kw wr s₄.heap s₄.heap := fun _ _ _ e => e
      obtain ⟨sk, fa⟩ := lp₄.leave a.inv a₁.fr.ox fa₄ kw (tk := s₄.toks) fa₄.inv
      exact hQ _ _ _ fa (k₁.trans sk fa.fr.ox) (.ret (r.mono ((lp₄.exR a.inv kw).keep fun a o e c => fa₄.inv.notTab e c)))
theorem storeC {A : Around} {env : Env} {m : Fr} {Θ : Th} {s s₁ : Shared} {X : Value → Shared → Prop} {Q : Value → Shared → Prop} (a : FA G k T A env m Θ s) {x : Str} {px : Pos} {i : Nat} (ho : x ∈ T.ow) (hi : idxOf T.sg x = i) {C D : Addr} {xs : List V} (cd : CDone G Θ.dom s C D false xs s₁)
    (h : ∀ Θ' s', FA G k T A env (m.set i (some (.ol xs))) Θ' s' → Sk G Θ s Θ' s' → Q .none s') : wpAny (model G.prog G.w) A (assign (.Name x px) env (.ref D)) (fun _ s'' => ∃ mm, s''.heap.Ns C mm ∧ ∀ h', Heap.SameBut C s''.heap h' → Q .none { s'' with heap := h' }) X s₁ := by
  obtain ⟨mm, ns⟩ := cd.ns
  have hac := cd.ac
  cases hac with | list rl =>
  have nDC : oneTh C .it D = none := congrArg (fun c => bif c then some Owner.it else none) (beq_no cd.ne)
  have n : NewTh s s₁ ((oneTh D (.slot i)).addM (oneTh C .it)) := ⟨fun a w q => addM_cases q (fun q => (oneTh_some q).1 ▸ ⟨cd.nC, ns_get ns⟩) fun q => (oneTh_some q).1 ▸ ⟨cd.nD, lst_get rl⟩, fun a q => addM_cases q (fun q => Owner.noConfusion (oneTh_some q).2) fun q => Owner.noConfusion (oneTh_some q).2⟩
  have tD : (Θ.addM ((oneTh D (.slot i)).addM (oneTh C .it))) D = some (.slot i) := addM_new (by unfold Th.addM; rw [nDC]; exact oneTh_at)
  have tC : (Θ.addM ((oneTh D (.slot i)).addM (oneTh C .it))) C = some .it := addM_new (addM_new oneTh_at)
  have kp : Keep (fun a => Θ.dom a ∨ a = D ∨ a = C) (Θ.addM ((oneTh D (.slot i)).addM (oneTh C .it))).dom s₁.heap s₁.heap := fun a o e _ no => ⟨fun d => by
    obtain ⟨w, t⟩ := d
    exact addM_cases t (fun q => addM_cases q (fun q => no (.inr (.inr (oneTh_some q).1))) fun q => no (.inr (.inl (oneTh_some q).1))) fun q => no (.inl ⟨w, q⟩), e⟩
  have sk0 := n.sk cd.st a.fr.ox
  refine wpAny_assign_Name (storeF (sl := .ol xs) ⟨a.room, cd.st.inv, a.eo, a.fr.addM n a.inv cd.st⟩ ho hi ⟨.ol (rl.mono kp fun o e _ => e), fun _ a e => Value.ref.inj e ▸ tD⟩ fun s' b => ?_)
  have ns' : s'.heap.Ns C mm := ns_kp ns fun o => (b.sk.itk C tC).2 o
  refine ⟨mm, ns', fun h' hs => ?_⟩
  have sk1 := sk0.trans b.sk b.fa.fr.ox
  have lp : Lp G Θ s [C] (fun _ => False) _ s' := ⟨sk1, fun z hz => List.mem_singleton.mp hz ▸ tC, fun _ h => h.elim, fun _ h => h.elim, fun z hz => List.mem_singleton.mp hz ▸ cd.nC⟩
  have inv' : Inv G { s' with heap := h', toks := s'.toks } := b.fa.inv.but (W := fun z => z = C) (fun z e => e ▸ a.inv.new cd.nC) (fun z e => e ▸ a.inv.freshNotTab cd.nC) (fun z e => e ▸ ns_rec ns') (fun z o n e => hs.extBut z o n e) s'.toks
  obtain ⟨sk, fa⟩ := lp.leave a.inv a.fr.ox b.fa (h' := h') (tk := s'.toks) (fun z o hz e => hs.extBut z o (fun q => hz (List.mem_singleton.mpr q)) e) inv'
  exact h _ _ fa sk
theorem ss_asgC {elt t it : Expr} {ifs : List Expr} {r : List Comprehension} {sc : Scope} {pos : Pos} {tg : Tg} {ti : It} {tifs : Es} {gs : Gs} {te : E} {cap : List (Nat × Nat)} {n : Nat} {tp : Expr → Prop} {x : Str} {px p : Pos} {i : Nat} (ho : x ∈ T.ow) (hi : idxOf T.sg x = i) (hc : capOf (sig sc) T.sg (freeIn sc) = cap) (hn : sc.names.length = n)
    (g : GsOk G c k T sc t it ifs r tg ti tifs gs tp) (h : SE G c k (T.inner sc) elt te) : SS G c k T (.Assign [.Name x px] (.ListComp elt (⟨t, it, ifs, 0⟩ :: r) sc pos) p) (.asg .o i (.lcomp te (.cons tg ti tifs gs) cap n)) := fun {A env m Θ s fl m' Q X} a he hQ => by
  have hb : ∃ b, swapsWith (.ListComp elt (⟨t, it, ifs, 0⟩ :: r) sc pos) (some (.Name x px)) p.line env = pure b := ⟨_, rfl⟩
  obtain ⟨b, hb⟩ := hb
  refine omap (C := fun p => p = (fl, m') → _) (b := (fl, m')) he (fun v hv e => ?_) rfl
  cases e
  have a₁ := a.frz (esc (.lcomp te (.cons tg ti tifs gs) cap n))
  have ne := ne_frz (esc (.lcomp te (.cons tg ti tifs gs) cap n)) m
  cases b with
  | false => exact wpAny_Assign_Name (seo_lcomp hc hn g h a₁.at ne hv fun y s₁ st r => storeO a₁ st ho hi r fun Θ' s₂ b sk => hQ.nx b ((a.dropSk _).trans sk b.fr.ox)) hb
  | true =>
    subst hc hn
    rw [exec_Assign_Name_used _ _ _ _ hb]
    refine wpAny_bind (wpAny_standAt (wpAny_bind ?_))
    show wpAny _ A (do let _ ← comprehension (.ListComp elt (⟨t, it, ifs, 0⟩ :: r) sc pos) sc env _ (newList []) false (eval it env) (some (assign (.Name x px) env))) _ _ s
    refine obind hv fun xs hx hv => oif (C := fun v => KS G k T A env Θ s (((m.frz _)).set i (some (slotOf .o v))) .next Q → _) hv (fun hl hQ => ?_) hQ
    have key : ∀ {pos' : Pos} {Q' : Value → Shared → Prop}, (∀ s', Q .next s' → Q' .none s') → wpAny (model G.prog G.w) A (comprehension (.ListComp elt (⟨t, it, ifs, 0⟩ :: r) sc pos) sc env pos' (newList []) false (eval it env) (some (assign (.Name x px) env))) Q' X s := fun {pos' Q'} hq =>
      comp_any (pos := pos') (use := some (assign (.Name x px) env)) (Q := Q') compE_list g (em_list h) newAc_list a₁.at ne.l ne.r hx hl fun C D s' cd => storeC (px := px) (Q := Q') a₁ ho hi cd fun Θ' s'' fa sk => hq _ (hQ.nx fa ((a.dropSk _).trans sk fa.fr.ox))
    exact wpAny_bind (key fun s' h => wpAny_pure (wpAny_pure h))
end
end Mine
end
section
set_option maxRecDepth 100000
set_option genSizeOf false
set_option genInjectivity false
namespace Mine
open PySem PyProof.Rows SeqAt
open Builtin
section
variable {prog : Program} {w : World} {A : Around} {E : Value → Shared → Prop} {s : Shared}
abbrev zt1 (h : Heap) (l1 : Addr) : Heap := h.push { cls := .type "tuple_iterator", data := .fields #[.ref l1, .int 0 0] }
abbrev zt2 (h : Heap) (l1 l2 : Addr) : Heap := (zt1 h l1).push { cls := .type "tuple_iterator", data := .fields #[.ref l2, .int 0 0] }
abbrev zt3 (h : Heap) (l1 l2 : Addr) : Heap := (zt2 h l1 l2).push { cls := .type "tuple", data := .seq #[.ref h.objs.size, .ref (zt1 h l1).objs.size] }
abbrev zt4 (h : Heap) (l1 l2 : Addr) : Heap := (zt3 h l1 l2).push { cls := .type "tuple", data := .seq #[.none, .none] }
abbrev zt5 (h : Heap) (l1 l2 : Addr) : Heap := (zt4 h l1 l2).push { cls := .type "zip", data := .fields #[.none, .bool false, .bool false, .ref (zt2 h l1 l2).objs.size, .ref (zt3 h l1 l2).objs.size] }
theorem meets_zip_newT (l1 l2 : Addr) (xs ys : Array Value) :
    Meets (Builtin.«zip.__new__» ⟨[.type "zip", .ref l1, .ref l2], []⟩) (fun _ R s => s.heap.IsTuple l1 xs ∧ s.heap.IsTuple l2 ys ∧
      R (.ok (.ret (.ref (zt4 s.heap l1 l2).objs.size))) { s with heap := zt5 s.heap l1 l2 }) :=
  .of_wp fun prog w A R s h => by
    obtain ⟨hp, g, d, tk, os⟩ := s; obtain ⟨hl1, hl2, h⟩ := h
    have hsub := sub_zip
    have hL1 : Heap.IsTuple (Shared.heap ⟨hp, g, d, tk, os⟩) l1 xs := hl1
    have hL2 : Heap.IsTuple (Shared.heap ⟨hp.push { cls := .type "tuple_iterator", data := .fields #[.ref l1, .int 0 0] }, g, d, tk, os⟩) l2 ys := hl2.push _
    wp_walk using wpAny_pyIter_tuple hL1, wpAny_pyIter_tuple hL2
    exact ⟨_, rfl, h⟩
theorem call_zipT {l1 l2 : Addr} {xs ys : Array Value} {Q : Value → Shared → Prop} (hl1 : s.heap.IsTuple l1 xs) (hl2 : s.heap.IsTuple l2 ys)
    (h : ∀ h', IsZip h' (s.heap.objs.size + 4) (s.heap.objs.size + 2) (s.heap.objs.size + 3) .none → IsPair h' (s.heap.objs.size + 2) (.ref s.heap.objs.size) (.ref (s.heap.objs.size + 1)) →
      IsPair h' (s.heap.objs.size + 3) .none .none → h'.IsTupleIter s.heap.objs.size l1 0 → h'.IsTupleIter (s.heap.objs.size + 1) l2 0 → h'.objs.size = s.heap.objs.size + 5 →
      (∀ c o, s.heap.get? c = some o → h'.get? c = some o) → Q (.ref (s.heap.objs.size + 4)) { s with heap := h' }) :
    wpAny (model prog w) A (call (.type "zip") [.ref l1, .ref l2]) Q E s := by
  refine callType_new F.called_zip (by decide) (F.typeCall_zip_2 _ _) (F.newCall_zip_2 _ _) (fun obj => F.args_object_init_3 obj _ _) F.entry_zip_new
    (meets_zip_newT l1 l2 xs ys) ⟨hl1, hl2, ?_⟩
  have z1 : (zt1 s.heap l1).objs.size = s.heap.objs.size + 1 := Heap.size_push ..
  have z2 : (zt2 s.heap l1 l2).objs.size = s.heap.objs.size + 2 := by rw [Heap.size_push, z1]
  have z3 : (zt3 s.heap l1 l2).objs.size = s.heap.objs.size + 3 := by rw [Heap.size_push, z2]
  have z4 : (zt4 s.heap l1 l2).objs.size = s.heap.objs.size + 4 := by rw [Heap.size_push, z3]
  have z5 : (zt5 s.heap l1 l2).objs.size = s.heap.objs.size + 5 := by rw [Heap.size_push, z4]
  have g5 : (zt5 s.heap l1 l2).get? (zt4 s.heap l1 l2).objs.size = some _ := Heap.get?_push_size _ rfl
  have g4 : (zt5 s.heap l1 l2).get? (zt3 s.heap l1 l2).objs.size = some _ := Heap.get?_push_of_some _ (Heap.get?_push_size _ rfl)
  have g3 : (zt5 s.heap l1 l2).get? (zt2 s.heap l1 l2).objs.size = some _ := Heap.get?_push_of_some _ (Heap.get?_push_of_some _ (Heap.get?_push_size _ rfl))
  have g2 : (zt5 s.heap l1 l2).get? (zt1 s.heap l1).objs.size = some _ := Heap.get?_push_of_some _ (Heap.get?_push_of_some _ (Heap.get?_push_of_some _ (Heap.get?_push_size _ rfl)))
  have g1 : (zt5 s.heap l1 l2).get? s.heap.objs.size = some _ := Heap.get?_push_of_some _ (Heap.get?_push_of_some _ (Heap.get?_push_of_some _ (Heap.get?_push_of_some _ (Heap.get?_push_size _ rfl))))
  show _ ∧ _
  rw [z2, z3, z4] at g5
  rw [z1, z2] at g3
  rw [z3] at g4
  rw [z1] at g2
  rw [z4]
  exact ⟨⟨_, g5, rfl⟩, h _ g5 g3 g4 ⟨_, g1, rfl, rfl⟩ ⟨_, g2, rfl, rfl⟩ z5 fun c o x =>
    Heap.get?_push_of_some _ (Heap.get?_push_of_some _ (Heap.get?_push_of_some _ (Heap.get?_push_of_some _ (Heap.get?_push_of_some _ x))))⟩
end
noncomputable def BmOk (G : Gd) : Prop := ∃ bm o, G.mg "__builtins__" = some (.ref bm) ∧ bm ≠ builtinsNs ∧ G.h₀.get? bm = some o ∧ o.cls = .type "module" ∧ o.dict = some builtinsNs ∧ o.data = .plain
theorem bm_for {G : Gd} (bm : BmOk G) {A : Around} {s : Shared} {X : Value → Shared → Prop} (i : Inv G s) {g r : Addr} (hg : g = mainGlobals) {Q : Addr → Shared → Prop} (h : Q builtinsNs s) : wpAny (model G.prog G.w) A (builtinsFor g r) Q X s := by
  obtain ⟨bm, ob, e1, e2, e3, e4, e5, e6⟩ := bm
  subst hg
  exact wpAny_builtinsFor i.glob e1 e2 (i.old.get_of_cls e3 (e4 ▸ type_ne)) e4 e5 e6 h
noncomputable def genNames (x y : Str) : List (Str × NameKind) := [(Str.ofString ".0", NameKind.local), (x, NameKind.local), (y, NameKind.local)]
theorem passing_all (n : Nat) : passing (fun _ => true) n 0 = List.range n := by unfold passing; simp
noncomputable def AddAt (zs : List V) (ws us : List Value) : Prop := zs.length = min ws.length us.length ∧ ∀ (i : Nat) va vb, ws[i]? = some va → us[i]? = some vb → ∃ a b t u, va = Value.int a t ∧ vb = Value.int b u ∧ zs[i]? = some (V.int (a + b))
theorem addL_at {G : Gd} {O : Addr → Prop} {h : Heap} {xs : List V} {ws : List Value} (r : VRs G O h xs ws) : ∀ {ys : List V} {us : List Value} {zs : List V}, VRs G O h ys us → addL xs ys = some zs → AddAt zs ws us := by
  induction r with
  | nil => exact fun _ h => Option.some.inj h ▸ ⟨(Nat.zero_min _).symm, fun i va vb e => nos e⟩
  | cons x _ ih =>
    intro ys us zs q
    induction q with
    | nil => exact fun h => Option.some.inj h ▸ ⟨(Nat.min_zero _).symm, fun i va vb _ e => nos e⟩
    | cons y q _ =>
      refine fun h => obind h fun a ha h => obind h fun b hb h => omap (C := fun zs => AddAt zs _ _) h fun zs hz => ?_
      obtain ⟨h1, h2⟩ := ih q hz
      refine ⟨(congrArg (· + 1) h1).trans (Nat.succ_min_succ ..).symm, fun i => ?_⟩
      cases i with
      | zero =>
        intro va vb ea eb
        cases Option.some.inj ea
        cases Option.some.inj eb
        cases x.w.oi ha with | mk t =>
        cases y.w.oi hb with | mk u => exact ⟨a, b, t, u, rfl, rfl, rfl⟩
      | succ i => exact h2 i
theorem in7 {a b c d e f g x : Addr} {C : Prop} (h : x ∈ [a, b, c, d, e, f, g]) (h1 : x = a → C) (h2 : x = b → C) (h3 : x = c → C) (h4 : x = d → C) (h5 : x = e → C) (h6 : x = f → C) (h7 : x = g → C) : C :=
  (List.mem_cons.mp h).elim h1 fun h => (List.mem_cons.mp h).elim h2 fun h => (List.mem_cons.mp h).elim h3 fun h => in4 h h4 h5 h6 h7
section
variable {G : Gd} {c : Cx} {k : Nat} {T : Tx}
theorem se_tzip {f z x y : Str} {pf pz p gp p1 p2 p3 p4 p5 p6 p7 : Pos} {kt : Nat} {a b : Expr} {sc : Scope} {ta tb : E} (bs : Bs G c k T) (bm : BmOk G) (bf : BN T f (.type "tuple")) (bz : BN T z (.type "zip")) (hcd : T.cd = true) (hxy : (x == y) = false) (hxd : (x == ("__debug__" : Str)) = false) (hyd : (y == ("__debug__" : Str)) = false)
    (hk : sc.kind = .function) (hco : sc.isCoroutine = false) (hnm : sc.names = genNames x y) (hlx : sc.names.lookup x = some .local) (hly : sc.names.lookup y = some .local) (nsg : Ns (.GeneratorExp (.BinOp (.Name x p1) .Add (.Name y p2) p3) [⟨.Tuple [.Name x p4, .Name y p5] kt p6, .Call (.Name z pz) [a, b] [] p7, [], 0⟩] sc gp)) (nsa : Ns a) (nsb : Ns b) (ha : SE G c k T a ta) (hb : SE G c k T b tb) :
    SE G c k T (.Call (.Name f pf) [.GeneratorExp (.BinOp (.Name x p1) .Add (.Name y p2) p3) [⟨.Tuple [.Name x p4, .Name y p5] kt p6, .Call (.Name z pz) [a, b] [] p7, [], 0⟩] sc gp] [] p) (.p2 addT ta tb) := fun {A env m s O v Q X} at0 ne hv hQ => obind hv fun v1 e1 hv => obind hv fun v2 e2 hv => by
  obtain ⟨cc, Pt, hcode, hOwn⟩ := at0.eo.code hcd
  have nf : ∀ q ∈ sc.names, q.2 = .local := fun q hq => by
    rw [hnm] at hq
    exact (List.mem_cons.mp hq).elim (fun e => e ▸ rfl) fun hq => (List.mem_cons.mp hq).elim (fun e => e ▸ rfl) fun hq => (List.mem_singleton.mp hq) ▸ rfl
  have hcl : closureFor sc env = pure (clFrom env sc.names []) := closureFor_eq fun p hp => NameKind.noConfusion (nf _ (mem_freeIn.mp hp))
  refine bi_any bs at0 bf (.t _) (.cons nsg .nil) (spl1 nsg ?_)
  refine wpAny_GeneratorExp_walksQT (A := A) at0.room.handled hco hcl (fun y hy e => NameKind.noConfusion ((nf y hy).symm.trans e)) (by rw [hnm]; rfl) hlx hly (beq_eq_false_iff_ne.mp hxy) hk (Nat.lt_of_le_of_lt (Nat.le_add_right _ _) at0.room.depth) ?_ (fun _ => rfl)
  refine bi_any bs at0 bz (.t _) (.cons nsa (.cons nsb .nil)) (spl2 nsa nsb (ha at0 ne.l e1 fun w1 s₁ st₁ r1 => hb (at0.step st₁) ne.r e2 fun w2 s₂ st₂ r2 => ?_))
  refine obind hv fun xs hxs hv => obind hv fun ys hys hv => omap (C := fun v => KV G O s v Q → _) hv (fun zs hz hQ => ?_) hQ
  cases (r1.step st₁.inv st₂).w.ot hxs with | @mk l1 q1 =>
  cases r2.w.ot hys with | @mk l2 q2 =>
  cases q1 with | @mk ws1 n1 g1 hl1 q1 =>
  cases q2 with | @mk ws2 n2 g2 hl2 q2 =>
  obtain ⟨hlen, hint⟩ := addL_at q1 q2 hz
  have lt1 := Heap.lt_size g1
  have lt2 := Heap.lt_size g2
  have st02 := st₁.trans st₂
  refine call_zipT ⟨_, g1, rfl, _, rfl⟩ ⟨_, g2, rfl, _, rfl⟩ fun h' hz' hTI hTO h1 h2 hsz hk' => ?_
  have st₃ : St G s₂ { s₂ with heap := h' } := St.keeps st₂.inv hk' s₂.toks
  have n : ∀ j, s₂.heap.get? (s₂.heap.objs.size + j) = none := fun j => Heap.get?_none_of_le (Nat.le_add_right _ _)
  have nT : ∀ j, ¬ G.Tab (s₂.heap.objs.size + j) := fun j => st₂.inv.freshNotTab (n j)
  refine wpAny_pyIter_zip hz' ⟨st₃.inv.nolim, ?_⟩
  refine gen_code st₃.inv hcode hOwn fun cv s₄ st₄ => ?_
  have st24 := st₃.trans st₄
  refine bm_for bm st₄.inv at0.eo.glob ?_
  have up : ∀ b o, ¬ G.Tab b → h'.get? b = some o → s₄.heap.get? b = some o := fun b o nt e => st₄.kp b o nt e
  have hz4 := up _ _ (nT 4) hz'
  have hTI4 := up _ _ (nT 2) hTI
  have hTO4 := up _ _ (nT 3) hTO
  have g14 := up _ _ (st₂.inv.notTab g1 type_ne) (hk' _ _ g1)
  have g24 := up _ _ (st₂.inv.notTab g2 type_ne) (hk' _ _ g2)
  obtain ⟨o1, i1, c1, d1⟩ := h1
  obtain ⟨o2, i2, c2, d2⟩ := h2
  have i14 := up _ _ (nT 0) i1
  have i24 := up _ _ (nT 1) i2
  have W0 := fun (A' : Around) (hh : A'.handled = none) => (walksZ (prog := G.prog) (w := G.w) (A := A') hh _ _ _ _ _ _ _ (zipApart_new lt1 lt2) (drawsTuple (prog := G.prog) (w := G.w) (A := A'.in1) hh s₂.heap.objs.size l1 (Nat.ne_of_lt lt1) ws1.toArray)
    (drawsTuple (prog := G.prog) (w := G.w) (A := A'.in1) hh (s₂.heap.objs.size + 1) l2 (Nat.ne_of_lt (Nat.lt_succ_of_lt lt2)) ws2.toArray)).toU
  refine ⟨s₂.heap.objs.size + 4, [s₂.heap.objs.size + 4, s₂.heap.objs.size + 2, s₂.heap.objs.size + 3, s₂.heap.objs.size, s₂.heap.objs.size + 1, l1, l2], [s₂.heap.objs.size + 4, s₂.heap.objs.size + 3, s₂.heap.objs.size, s₂.heap.objs.size + 1],
    min ws1.toArray.size ws2.toArray.size, _, _, _, fun _ => true, fun i v => ∃ a t, v = Value.int a t ∧ zs[i]? = some (V.int a), rfl,
    W0, fun i vals q => ?_, ⟨hz4, hTI4, ⟨_, _, hTO4⟩, ⟨⟨o1, i14, c1, d1⟩, ⟨_, g14, rfl, _, rfl⟩⟩, ⟨⟨o2, i24, c2, d2⟩, ⟨_, g24, rfl, _, rfl⟩⟩⟩, fun b hb => ?_, st₄.inv.nolim, fun hb => ?_, fun href hkr => ?_, ?_⟩
  · obtain ⟨xa, xb, _, _, e⟩ := q
    exact ⟨xa, xb, e⟩
  · exact in7 hb (fun e => e ▸ Heap.lt_size hz4) (fun e => e ▸ Heap.lt_size hTI4) (fun e => e ▸ Heap.lt_size hTO4) (fun e => e ▸ Heap.lt_size i14) (fun e => e ▸ Heap.lt_size i24) (fun e => e ▸ Heap.lt_size g14) fun e => e ▸ Heap.lt_size g24
  · obtain ⟨o, e⟩ := at0.inv.gk.lo.2.2
    obtain ⟨o, e⟩ := st₂.inv.old.there _ _ e
    exact in4 hb (fun q => nos ((n 4).symm.trans (q ▸ e))) (fun q => nos ((n 3).symm.trans (q ▸ e))) (fun q => nos ((n 0).symm.trans (q ▸ e))) fun q => nos ((n 1).symm.trans (q ▸ e))
  · refine ⟨fun A' E' i va vb s2 m2 hh hP hn ex ey _ => wpAny_pure ⟨rfl, _, _, rfl, fun _ _ e => e⟩, fun A' E' i va vb s2 m2 hh hP _ hn ex ey _ => ?_⟩
    obtain ⟨x', y', ex', ey', e⟩ := hP
    have e := congrArg Array.toList e
    injection e with e1 e
    injection e with e2 _
    subst e1; subst e2
    obtain ⟨a', b', t, u, e3, e4, ez⟩ := hint i _ _ (List.getElem?_toArray.symm.trans ex') (List.getElem?_toArray.symm.trans ey')
    subst e3; subst e4
    exact wpAny_BinOp (wpAny_Name (wpAny_loadName_local hk hlx hn ex (wpAny_Name (wpAny_loadName_local hk hly hn ey (P.add_int ⟨⟨_, _, rfl, ez⟩, _, _, rfl, fun _ _ e => e⟩)) hyd)) hxd)
  · intro ga h₅ tk gs hbare hga hsz5 hk5 W hst
    rw [passing_all, List.length_range] at W
    have hmin : min ws1.toArray.size ws2.toArray.size = zs.length := by rw [List.size_toArray, List.size_toArray]; exact hlen.symm
    have hbig : zs.length ≤ big := Nat.le_trans (Nat.le_of_eq hlen) (Nat.le_trans (Nat.min_le_left ..) hl1)
    refine call_tuple_gen (hsz := Nat.le_trans (Nat.le_of_eq hmin) (Nat.le_trans hbig big_le)) W.in4_3 (fun i s st => ?_) hst (fun b hb => ?_) (List.mem_cons_self ..) fun s' acc hm hacc => ?_
    · obtain ⟨⟨o, _, _, e, c, _⟩, _⟩ := st
      exact ⟨o, e, c⟩
    · rw [hsz5]
      exact (List.mem_cons.mp hb).elim (fun e => e ▸ Nat.lt_succ_self _) fun hb => (List.mem_cons.mp hb).elim (fun e => e ▸ Nat.lt_succ_of_lt hga) fun hb => Nat.lt_succ_of_lt (Nat.lt_trans (List.mem_range.mp hb) hga)
    · have kp4 : ∀ b o, b ∉ [s₂.heap.objs.size + 4, s₂.heap.objs.size + 3, s₂.heap.objs.size, s₂.heap.objs.size + 1] → s₄.heap.get? b = some o → s'.heap.get? b = some o := fun b o hb e => hm.heap b o (fun hb' => (List.mem_cons.mp hb').elim (fun q => nos ((get_size _).symm.trans (q ▸ e))) hb) (hk5 b o e)
      have fj : ∀ b ∈ [s₂.heap.objs.size + 4, s₂.heap.objs.size + 3, s₂.heap.objs.size, s₂.heap.objs.size + 1], ∃ j, b = s₂.heap.objs.size + j := fun b hb => in4 hb (fun e => ⟨_, e⟩) (fun e => ⟨_, e⟩) (fun e => ⟨0, e⟩) fun e => ⟨_, e⟩
      have stA := (st02.trans st24).butNew (W := fun b => b ∈ [s₂.heap.objs.size + 4, s₂.heap.objs.size + 3, s₂.heap.objs.size, s₂.heap.objs.size + 1]) (h' := s'.heap) at0.inv (fun b hb => by obtain ⟨j, e⟩ := fj b hb; exact e ▸ st02.fresh st₂.inv (n j))
        (fun b hb => in4 hb (fun e => e ▸ cls_rec hz4 rfl rfl) (fun e => e ▸ cls_rec hTO4 rfl rfl) (fun e => e ▸ cls_rec i14 c1 rfl) fun e => e ▸ cls_rec i24 c2 rfl) kp4 s'.toks
      have bare' : AllBare s'.gens := GenOnlyQ.bare hm.gens fun y hy => (AllBare.push st₄.inv.bare hbare) y hy
      have inv2 : Inv G s' := ⟨stA.inv.gk, stA.inv.old, stA.inv.glob, stA.inv.bts, stA.inv.nolim, bare', hm.os.trans st₄.inv.os, stA.inv.tab⟩
      have stF : St G s s' := ⟨inv2, stA.kp, stA.tb⟩
      have hal : zs.length = acc.toList.length := hmin.symm.trans (hacc.1.symm.trans Array.length_toList.symm)
      have gq : (s'.heap.push { cls := .type "tuple", data := .seq acc }).get? s'.heap.objs.size = some { cls := .type "tuple", data := .seq acc.toList.toArray 0 } := Heap.get?_push_size _ rfl
      refine hQ _ _ (stF.trans (St.push inv2 _ s'.toks)) (.mkT (at0.er.ox.step stF).fresh ⟨gq, hal ▸ hbig, .of hal fun i v w hv hw => ?_⟩)
      obtain ⟨i', e1, a', t, e2, e3⟩ := hacc.2 i w (Array.getElem?_toList.symm.trans hw)
      have hi := get_lt e1
      rw [List.getElem?_range (Nat.lt_of_lt_of_eq hi List.length_range)] at e1
      cases Option.some.inj e1
      cases Option.some.inj (hv.symm.trans e3)
      exact e2 ▸ .int _ _
end
end Mine
end
section
set_option maxRecDepth 100000
set_option genSizeOf false
set_option genInjectivity false
namespace Mine
open PySem PyProof.Rows SeqAt
structure ClB (G : Gd) (B : Th) (s : Shared) (mi : Fr) (sc : Scope) (cl : List (Str × Addr)) : Prop where
  ox : OX G B.dom s.heap
  bn : ∀ a, B.mine a → G.h₀.get? a = none
  hcl : ∀ x ∈ freeIn sc, ∃ c v, cl.lookup x = some c ∧ ¬ G.Tab c ∧ ¬ B.mine c ∧ s.heap.IsCell c v
  hm : ∀ j sl, mi.at j = some sl → ∃ x ∈ freeIn sc, idxOf (sig sc) x = j ∧ ∃ c y, cl.lookup x = some c ∧ s.heap.IsCell c (some y) ∧
      ∀ env' : Env, env'.scope = sc → (∀ z ∈ freeIn sc, env'.kindOf z = some .free ∧ env'.cells.lookup z = cl.lookup z) → SF G B s.heap env' j sl y
noncomputable def Back (G : Gd) (Θ' : Th) (h : Heap) (m' : Fr) (sc : Scope) (cl : List (Str × Addr)) : Prop := ∀ x ∈ freeIn sc, ∀ xs, m'.at (idxOf (sig sc) x) = some (.ol xs) → ∃ c b, cl.lookup x = some c ∧ h.IsCell c (some (.ref b)) ∧ Θ' b = some (.slot (idxOf (sig sc) x)) ∧ LstA (VR G Θ'.dom h) h b xs
noncomputable def CloOk (G : Gd) (c : Cx) (k : Nat) : Prop := ∀ {f vs mi v m'}, c.clo f vs mi = some (v, m') → ∀ {N}, G.nest f = some N → ∀ {A s B env a o fd ys} {R : Result → Shared → Prop}, Room A k → Inv G s → CloIs G s.heap env f a o fd N →
  ClB G B s mi N.scope fd.closure → VRs G B.dom s.heap vs ys → (∀ y Θ' s', Sk G B s Θ' s' → VR G Θ'.dom s'.heap v y → Back G Θ' s'.heap m' N.scope fd.closure → R (.ok (.ret y)) s') → codeAny (model G.prog G.w) A (.call (.ref a) ⟨ys, []⟩) R s
noncomputable def NstOk (G : Gd) (T : Tx) : Prop := ∀ x f sg fr, T.nst.lookup x = some (f, sg, fr) → ∃ N, G.nest f = some N ∧ sg = sig N.scope ∧ fr = freeIn N.scope
structure Bz (G : Gd) (c : Cx) (k : Nat) (T : Tx) : Prop extends Bs G c k T where
  clo : CloOk G c k
  nst : NstOk G T
theorem cell_fun {h : Heap} {c : Addr} {v w : Option Value} (x : h.IsCell c v) (y : h.IsCell c w) : v = w := by
  obtain ⟨o, e, d⟩ := x
  obtain ⟨o', e', d'⟩ := y
  cases Option.some.inj (e.symm.trans e')
  have q := d.symm.trans d'
  injection q
theorem isClo_of {f : Nat} {sl : Slot} (h : isClo f sl = true) : sl = .clo f := by
  cases sl with
  | clo g => exact congrArg Slot.clo (eq_of_beq h)
  | _ => exact Bool.noConfusion h
section
variable {G : Gd} {c : Cx} {k : Nat} {T : Tx}
theorem VarIs.cell {h : Heap} {env : Env} {x : Str} {y : Value} (v : VarIs G h env x y) (hk : env.kindOf x = some .cell ∨ env.kindOf x = some .free) : ∃ c, env.cells.lookup x = some c ∧ ¬ G.Tab c ∧ h.IsCell c (some y) := by
  cases v with
  | loc h => exact hk.elim (fun h' => NameKind.noConfusion (Option.some.inj (h.symm.trans h'))) fun h' => NameKind.noConfusion (Option.some.inj (h.symm.trans h'))
  | cel _ hc nt hv => exact ⟨_, hc, nt, hv⟩
theorem CloA.inner {O O' : Addr → Prop} {h : Heap} {env env' : Env} {f : Nat} {y : Value} {N : Nest} {cl : List (Str × Addr)} (hN : G.nest f = some N) (r : CloA G O h env f y) (hO : ∀ a, O' a → O a) (hcl : ∀ z ∈ freeIn N.scope, cl.lookup z = env.cells.lookup z)
    (hz : ∀ z ∈ freeIn N.scope, env'.kindOf z = some .free ∧ env'.cells.lookup z = cl.lookup z) : CloA G O' h env' f y := by
  cases r with | @mk a o fd N' no r =>
  cases Option.some.inj (hN.symm.trans r.nest)
  exact .mk (fun q => no (hO _ q)) ⟨r.get, r.cls, r.data, r.nest, r.params, r.body, r.scope, r.globals, r.builtins, r.defaults, r.code, fun z q => ⟨.inr (hz z q).1, (r.free z q).2.trans ((hcl z q).symm.trans (hz z q).2.symm)⟩⟩
theorem outs_keep {O : Addr → Prop} {h : Heap} : Keep O (outs O).dom h h := fun a o e _ no => ⟨fun d => no (outs_dom d), e⟩
theorem vrs_outs {O : Addr → Prop} {h : Heap} {vs : List V} {ys : List Value} (r : VRs G O h vs ys) : VRs G (outs O).dom h vs ys := VRs.mono outs_keep r
theorem se_clo {f : Str} {pf p : Pos} {es : List Expr} {ts : Es} {kf i n : Nat} {sg : List (Str × Bool)} {fr : List Str} {cap : List (Nat × Nat)} (bs : Bz G c k T) (hn : T.nst.lookup f = some (kf, sg, fr)) (nm : NmOk T f i) (hc : capOf sg T.sg fr = cap) (hl : sg.length = n) (h : SEs G c k T es ts) :
    SE G c k T (.Call (.Name f pf) es [] p) (.clo i kf ts cap n) := fun {A env m s O v Q X} a ne hv hQ => obind hv fun sl hsl hv => by
  subst hc hl
  obtain ⟨N, hN, e1, e2⟩ := bs.nst _ _ _ _ hn
  subst e1 e2
  cases hq : isClo kf sl with
  | false => rw [hq] at hv; exact nos hv
  | true =>
  rw [hq] at hv
  cases isClo_of hq
  refine obind (o := evs c m ts) hv fun vs hvs hv => omap (C := fun v => KV G O s v Q → _) hv (fun r hr hQ => ?_) hQ
  obtain ⟨v, m'⟩ := r
  refine wpAny_Call_ofName (name_any a nm hsl fun y vi sr => ?_)
  cases sr with | clo r =>
  cases r with | @mk fa o fd N' nO ci =>
  cases Option.some.inj (hN.symm.trans ci.nest)
  refine Calls.callWith_function (o := o) (fd := fd) (evalArgs_any h.plain (h.run a ne.l hvs fun xs s₁ st _ rxs => ?_))
  have a₁ := a.step st
  have ci₁ := ci.kp (st.kp _ _ (a.inv.notTab ci.get ci.cls) ci.get) st.tb
  refine ⟨⟨ci₁.get, ci.data⟩, wpAny_call (bs.clo hr hN a.room st.inv ci₁ (B := outs O) ⟨fun b d => a₁.er.ox b (outs_dom d), fun b q => absurd q outs_mine, fun x hx => ?_, fun j sl hj => captured hj fun x hx e1 e2 hg => ⟨x, hx, e1, ?_⟩⟩ (vrs_outs rxs) fun y Θ' s' sk r _ => ?_)⟩
  · obtain ⟨hk, e⟩ := ci.free x hx
    cases a₁.er.cel x hk with | mk e' nt hv => exact ⟨_, _, e.trans e', nt, outs_mine, hv⟩
  · obtain ⟨hk, e⟩ := ci.free x hx
    have hno := cap_ne ne.r hx e2
    rw [← a.eo.sg] at e2
    obtain ⟨y, vi, sr⟩ := a₁.er.var x sl (hk.elim (fun h => kind_isVar h rfl) fun h => kind_isVar h rfl) e2
    obtain ⟨cc, ec, nt, hcell⟩ := vi.cell hk
    refine ⟨cc, y, e.trans ec, hcell, fun env' he hz => ?_⟩
    cases sr with
    | v r => exact ⟨.v (r.mono outs_keep), fun e => Bool.noConfusion e⟩
    | clo r =>
      cases eq_of_beq (hg _ rfl)
      exact ⟨.clo (r.inner hN (fun b d => outs_dom d) (fun z hz => (ci.free z hz).2) hz), fun e => Bool.noConfusion e⟩
    | _ => exact Bool.noConfusion hno
  · exact hQ y s' (st.trans ⟨sk.inv, fun b o' nt e => sk.kp b o' nt outs_mine e, sk.tb⟩) (r.mono fun b o' e _ no => ⟨fun d => no ⟨_, (sk.out b).mp (outs_of d)⟩, e⟩)
end
inductive BackI (m' q : Fr) (p : Nat × Nat) : Option Slot → Fr → Prop
  | ol {xs xs' : List V} (e : m'.at p.1 = some (.ol xs')) : BackI m' q p (some (.ol xs)) (q.set p.2 (some (.ol xs')))
  | no {o : Option Slot} (h1 : ∀ xs, o ≠ some (.ol xs)) (h2 : ∀ g es, o ≠ some (.od g es)) : BackI m' q p o q
theorem backIn_of {m' q r : Fr} {p : Nat × Nat} {o : Option Slot} : backIn m' q p o = some r → BackI m' q p o r := by
  cases o with
  | none => exact fun h => Option.some.inj h ▸ .no (fun _ e => nos e) fun _ _ e => nos e
  | some s =>
    cases s with
    | ol xs =>
      unfold backIn
      cases e : m'.at p.1 with
      | none => exact nos
      | some s' =>
        cases s' with
        | ol xs' => exact fun h => Option.some.inj h ▸ .ol e
        | _ => exact nos
    | od => exact nos
    | v => exact fun h => Option.some.inj h ▸ .no (fun _ e => by cases e) fun _ _ e => by cases e
    | clo => exact fun h => Option.some.inj h ▸ .no (fun _ e => by cases e) fun _ _ e => by cases e
structure CapB (m' m : Fr) (cap : List (Nat × Nat)) (q : Fr) : Prop where
  od : ∀ p ∈ cap, ∀ g es, m.at p.2 ≠ some (.od g es)
  ol : ∀ p ∈ cap, ∀ xs, m.at p.2 = some (.ol xs) → ∃ xs', m'.at p.1 = some (.ol xs')
  val : ∀ j sl, q.at j = some sl → (m.at j = some sl ∧ ∀ p ∈ cap, p.2 = j → ∀ xs, sl ≠ .ol xs) ∨ ∃ p ∈ cap, p.2 = j ∧ ∃ xs xs', m.at j = some (.ol xs) ∧ m'.at p.1 = some (.ol xs') ∧ sl = .ol xs'
theorem capBack_of {m' m : Fr} {cap : List (Nat × Nat)} : ∀ {q : Fr}, capBack m' m cap = some q → CapB m' m cap q := by
  induction cap with
  | nil => exact fun h => Option.some.inj h ▸ ⟨fun p hp => absurd hp List.not_mem_nil, fun p hp => absurd hp List.not_mem_nil, fun j sl e => .inl ⟨e, fun p hp => absurd hp List.not_mem_nil⟩⟩
  | cons p r ih =>
    intro q h
    refine obind h fun q0 h0 h => ?_
    obtain ⟨i1, i2, i3⟩ := ih h0
    have hb := backIn_of h
    generalize ho : m.at p.2 = o at hb
    cases hb with
    | @ol xs xs' e =>
      refine ⟨fun p' hp => (List.mem_cons.mp hp).elim (fun e' g es => by rw [e', ho]; exact fun e => by cases e) (i1 p'), fun p' hp => (List.mem_cons.mp hp).elim (fun e' _ _ => ⟨xs', e' ▸ e⟩) (i2 p'), fun j sl ej => at_set ej (fun jq es => ?_) fun nj ej => ?_⟩
      · cases es; exact .inr ⟨p, List.mem_cons_self .., jq.symm, xs, xs', jq ▸ ho, e, rfl⟩
      · rcases i3 j sl ej with ⟨a, b⟩ | ⟨p', hp', r'⟩
        · exact .inl ⟨a, fun p' hp => (List.mem_cons.mp hp).elim (fun e hj => absurd (e ▸ hj : p.2 = j).symm nj) (b p')⟩
        · exact .inr ⟨p', List.mem_cons_of_mem _ hp', r'⟩
    | no h1 h2 =>
      refine ⟨fun p' hp => (List.mem_cons.mp hp).elim (fun e' g es => by rw [e', ho]; exact h2 g es) (i1 p'), fun p' hp => (List.mem_cons.mp hp).elim (fun e' xs e => absurd ((e' ▸ ho).symm.trans e) (h1 xs)) (i2 p'), fun j sl ej => ?_⟩
      rcases i3 j sl ej with ⟨a, b⟩ | ⟨p', hp', r'⟩
      · exact .inl ⟨a, fun p' hp => (List.mem_cons.mp hp).elim (fun e hj xs es => h1 xs (ho.symm.trans ((e ▸ hj : p.2 = j) ▸ a |>.trans (congrArg some es)))) (b p')⟩
      · exact .inr ⟨p', List.mem_cons_of_mem _ hp', r'⟩
noncomputable def cloTh (Θ : Th) (P : Nat → Addr → Prop) : Th := open Classical in fun b => if Θ.dom b then (if h : ∃ j, P j b then some (.slot (Classical.choose h)) else some .out) else none
section
variable {G : Gd} {c : Cx} {k : Nat} {T : Tx} {A : Around} {env : Env} {m m' q : Fr} {Θ Θ' : Th} {s s' : Shared} {P : Nat → Addr → Prop}
theorem cloTh_at (hu : ∀ {i j b}, P i b → P j b → i = j) {b : Addr} {j : Nat} (d : Θ.dom b) (p : P j b) : cloTh Θ P b = some (.slot j) :=
  (if_pos d).trans ((dif_pos ⟨j, p⟩).trans (congrArg (fun i => some (Owner.slot i)) (hu (Classical.choose_spec (p := fun j => P j b) ⟨j, p⟩) p)))
theorem cloTh_dom {b : Addr} (d : (cloTh Θ P).dom b) : Θ.dom b := by
  obtain ⟨w, e⟩ := d
  by_cases h : Θ.dom b
  · exact h
  · exact nos ((if_neg h).symm.trans e)
theorem cloTh_mine {b : Addr} (x : (cloTh Θ P).mine b) : ∃ j, P j b := by
  have d := cloTh_dom (mine_dom x)
  by_cases h : ∃ j, P j b
  · exact h
  · exact absurd x (not_mine ((if_pos d).trans (dif_neg h)))
theorem cloTh_cases {b : Addr} (d : Θ.dom b) : (cloTh Θ P).mine b ∨ cloTh Θ P b = some .out := by
  by_cases h : ∃ j, P j b
  · exact .inl ⟨_, (if_pos d).trans (dif_pos h), fun e => Owner.noConfusion e⟩
  · exact .inr ((if_pos d).trans (dif_neg h))
theorem cloSk (hP : ∀ {j b}, P j b → ∃ i, Θ b = some (.slot i)) (ox : OX G Θ.dom s.heap) (x : Sk G (cloTh Θ P) s Θ' s') : Sk G Θ s Θ s' := by
  have hm : ∀ b, (cloTh Θ P).mine b → Θ.mine b := fun b q => (cloTh_mine q).elim fun j p => (hP p).elim fun i t => th_mine t fun e => Owner.noConfusion e
  exact ⟨x.inv, fun b o nt n e => x.kp b o nt (fun q => n (hm b q)) e, fun _ => Iff.rfl, fun _ d => .inl d, fun b q => by
    by_cases n : (cloTh Θ P).mine b
    · exact x.liv b n
    · obtain ⟨nt, o, e⟩ := ox b (mine_dom q)
      exact ⟨o, x.kp b o nt n e⟩, x.tb, fun b t => ⟨t, fun o e => x.kp b o (ox b ⟨_, t⟩).1 (fun q => (cloTh_mine q).elim fun j p => (hP p).elim fun i t' => Owner.noConfusion (th_ne t t')) e⟩⟩
inductive CloP (Θ : Th) (m : Fr) (inner outer : List (Str × Bool)) (fr : List Str) (cl : List (Str × Addr)) (h : Heap) (j : Nat) (b : Addr) : Prop
  | mk {x : Str} {xs : List V} {cc : Addr} (hx : x ∈ fr) (hj : idxOf inner x = j) (hm : m.at (idxOf outer x) = some (.ol xs)) (t : Θ b = some (.slot (idxOf outer x))) (hc : cl.lookup x = some cc) (hv : h.IsCell cc (some (.ref b)))
variable {inner : List (Str × Bool)} {fr : List Str} {cl : List (Str × Addr)}
theorem CloP.t {outer : List (Str × Bool)} {h : Heap} {j : Nat} {b : Addr} (p : CloP Θ m inner outer fr cl h j b) : ∃ i, Θ b = some (.slot i) := by cases p with | mk _ _ _ t => exact ⟨_, t⟩
theorem slot_inj {i j : Nat} {b : Addr} (t : Θ b = some (.slot i)) (t' : Θ b = some (.slot j)) : i = j := by
  have e := th_ne t t'
  injection e
theorem CloP.fun {outer : List (Str × Bool)} {h : Heap} (ho : ∀ x ∈ fr, x ∈ outer.map (·.1)) {i j : Nat} {b : Addr} (p : CloP Θ m inner outer fr cl h i b) (q : CloP Θ m inner outer fr cl h j b) : i = j := by
  induction p with | mk hx hj _ t =>
  cases q with | mk hx' hj' _ t' =>
  cases idx_inj (ho _ hx) (slot_inj t t')
  exact hj.symm.trans hj'
theorem ref_inj {b b' : Addr} (e : some (some (Value.ref b)) = some (some (Value.ref b'))) : b = b' := Value.ref.inj (Option.some.inj (Option.some.inj e))
theorem cloFr (a : FA G k T A env m Θ s) (ho : ∀ x ∈ fr, x ∈ T.sg.map (·.1)) (hfr : ∀ x ∈ fr, (env.kindOf x = some .cell ∨ env.kindOf x = some .free) ∧ cl.lookup x = env.cells.lookup x) (x : Sk G (cloTh Θ (CloP Θ m inner T.sg fr cl s.heap)) s Θ' s')
    (cb : CapB m' m (capOf inner T.sg fr) q) (bk : ∀ x ∈ fr, ∀ xs, m'.at (idxOf inner x) = some (.ol xs) → ∃ c b, cl.lookup x = some c ∧ s'.heap.IsCell c (some (.ref b)) ∧ Θ' b = some (.slot (idxOf inner x)) ∧ LstA (VR G Θ'.dom s'.heap) s'.heap b xs) : FA G k T A env q Θ s' := by
  have sk := cloSk CloP.t a.fr.ox x
  have cnm : ∀ z c, env.kindOf z = some .cell ∨ env.kindOf z = some .free → env.cells.lookup z = some c → ∀ v, s.heap.IsCell c v → ¬ G.Tab c → s'.heap.IsCell c v := fun z c hk e v hv nt => cell_kp hv fun o g => by
    by_cases hw : z ∈ T.ow
    · have t := a.fr.cel z c hw hk e
      exact x.kp c o nt (fun q => (cloTh_mine q).elim fun j p => p.t.elim fun i t' => Owner.noConfusion (th_ne t t')) g
    · exact sk.kp c o nt (a.fr.fre z c hw hk e) g
  have back : ∀ {z xs b}, z ∈ fr → m.at (idxOf T.sg z) = some (.ol xs) → VarIs G s.heap env z (.ref b) → ∃ xs', m'.at (idxOf inner z) = some (.ol xs') ∧ (∃ i, Θ' b = some (.slot i)) ∧ LstA (VR G Θ'.dom s'.heap) s'.heap b xs' := fun {z xs b} hz hm v => by
    obtain ⟨hk, ek⟩ := hfr z hz
    obtain ⟨xs', e'⟩ := cb.ol _ (List.mem_map_of_mem hz) xs hm
    obtain ⟨c', b', e3, e4, e5, l⟩ := bk z hz xs' e'
    obtain ⟨cc, ec, nt, hv⟩ := v.cell hk
    have ec' := ek.symm.trans e3
    have eb := Value.ref.inj (Option.some.inj (cell_fun (cnm z c' hk ec' _ (Option.some.inj (ec.symm.trans ec') ▸ hv) (Option.some.inj (ec.symm.trans ec') ▸ nt)) e4))
    subst eb
    exact ⟨xs', e', ⟨_, e5⟩, l⟩
  have tdom : ∀ b, Θ.dom b → Θ'.dom b := fun b hb => by
    rcases cloTh_cases (P := CloP Θ m inner T.sg fr cl s.heap) hb with n | t
    · obtain ⟨j, p⟩ := cloTh_mine n
      cases p with | @mk z xs cc hz hj hm t hc hv =>
      obtain ⟨hk, ek⟩ := hfr z hz
      cases a.fr.cells z hk with | mk e' nt hv' =>
      obtain ⟨_, _, ⟨i, t⟩, _⟩ := back hz hm (.cel hk (ek.symm.trans hc) (Option.some.inj (e'.symm.trans (ek.symm.trans hc)) ▸ nt) hv)
      exact ⟨_, t⟩
    · exact ⟨_, (x.out b).mp t⟩
  refine ⟨a.room, x.inv, a.eo, a.fr.map (fun b w t f => ⟨t, fun o e => x.kp b o (a.fr.there t).1 (fun q => (cloTh_mine q).elim fun j p => p.t.elim fun i t' => by
    cases th_ne t t'; cases f) e⟩) (fun b o nt n e => ⟨n, sk.kp b o nt n e⟩) (fun b d => ⟨(a.fr.ox b d).1, ?_⟩) a.fr.new fun z sl hz hm => ?_⟩
  · rcases dom_cases d with t | n
    · obtain ⟨nt, o, e⟩ := a.fr.ox b d
      exact ⟨o, sk.kp b o nt (not_mine t) e⟩
    · exact sk.liv b n
  · rw [a.eo.sg] at hm hz ⊢
    rcases cb.val _ sl hm with ⟨e, nc⟩ | ⟨p, hp, ej, xs0, xs', e1, e2, es⟩
    · refine ⟨sl, e, fun y _ r => r.map (sk.keep a.inv) (fun b t => ⟨t, fun o g => x.kp b o (a.fr.there t).1 (fun q => ?_) g⟩) sk.tb⟩
      obtain ⟨j, p⟩ := cloTh_mine q
      cases p with | @mk z' xs cc hz' hj hm' t' =>
      have ei := slot_inj t' t
      exact nc _ (List.mem_map_of_mem hz') ei xs (Option.some.inj (e.symm.trans (ei ▸ hm')))
    · obtain ⟨z', hz', ep⟩ := List.mem_map.mp hp
      subst ep es
      cases idx_inj (ho z' hz') ej
      refine ⟨.ol xs0, e1, fun y v r => ?_⟩
      obtain ⟨sr, own⟩ := r
      cases sr with | ol r =>
      obtain ⟨xs'', e3, _, l⟩ := back hz' e1 v
      cases e2.symm.trans e3
      exact ⟨.ol (l.mono (fun b o e _ n => ⟨fun d => n (tdom b d), e⟩) fun o e _ => e), own⟩
theorem ss_cloS {f : Str} {pf p pp : Pos} {es : List Expr} {ts : Es} {kf i n : Nat} {sg : List (Str × Bool)} {fr : List Str} {cap : List (Nat × Nat)} (bs : Bz G c k T) (hn : T.nst.lookup f = some (kf, sg, fr)) (nm : NmOk T f i) (hc : capOf sg T.sg fr = cap) (hl : sg.length = n) (h : SEs G c k T es ts) :
    SS G c k T (.Expr (.Call (.Name f pf) es [] p) pp) (.cloS i kf ts cap n) := fun {A env m Θ s fl m' Q X} a he hQ => obind he fun sl hsl he => by
  subst hc hl
  obtain ⟨N, hN, e1, e2⟩ := bs.nst _ _ _ _ hn
  subst e1 e2
  cases hq : isClo kf sl with
  | false => rw [hq] at he; exact nos he
  | true =>
  rw [hq] at he
  cases isClo_of hq
  refine obind (o := evs c (m.frzs ts) ts) he fun vs hvs he => obind he fun r hr he => ?_
  refine omap (C := fun p => p = (fl, m') → _) (b := (fl, m')) he (fun q hcb e => ?_) rfl
  cases e
  have cb := capBack_of hcb
  have a₁ := a.frz (escs ts)
  refine wpAny_Expr_any (wpAny_Call_ofName (nameF a₁ nm hsl fun y vi sf => ?_)) (inter a) rfl
  obtain ⟨sr, _⟩ := sf
  cases sr with | clo r =>
  cases r with | @mk fa o fd N' nO ci =>
  cases Option.some.inj (hN.symm.trans ci.nest)
  refine Calls.callWith_function (o := o) (fd := fd) (evalArgs_any h.plain (h.run a₁.at (ne_frz _ _) hvs fun xs s₁ st _ rxs => ?_))
  have a₂ := a₁.step st
  have ci₁ := ci.kp (st.kp _ _ (a.inv.notTab ci.get ci.cls) ci.get) st.tb
  have ho : ∀ x ∈ freeIn N.scope, x ∈ T.sg.map (·.1) := fun x hx => isVar_mem (a.eo.sg ▸ (ci.free x hx).1.elim (fun h => kind_isVar h rfl) fun h => kind_isVar h rfl)
  have hfr := ci.free
  refine ⟨⟨ci₁.get, ci.data⟩, wpAny_call (bs.clo hr hN a.room st.inv ci₁ (B := cloTh (Θ.drop (escs ts).contains) (CloP (Θ.drop (escs ts).contains) (frzAt (escs ts) 0 m) (sig N.scope) T.sg (freeIn N.scope) fd.closure s₁.heap)) ⟨fun b d => a₂.fr.ox b (cloTh_dom d), fun b q => ?_, fun x hx => ?_, fun j sl hj => captured hj fun x hx e1 e2 hg => ?_⟩ (VRs.mono (fun b o e _ n => ⟨fun d => n (cloTh_dom d), e⟩) rxs) fun y Θ' s' sk r bk => ?_)⟩
  · obtain ⟨j, p⟩ := cloTh_mine q
    obtain ⟨i, t⟩ := p.t
    exact a₂.fr.new b (th_mine t fun e => Owner.noConfusion e)
  · obtain ⟨hk, e⟩ := hfr x hx
    cases a₂.fr.cells x hk with | @mk cc v e' nt hv =>
    refine ⟨cc, _, e.trans e', nt, fun q => ?_, hv⟩
    obtain ⟨j, p⟩ := cloTh_mine q
    obtain ⟨i, t⟩ := p.t
    by_cases hw : x ∈ T.ow
    · exact Owner.noConfusion (th_ne (a₂.fr.cel x cc hw hk e') t)
    · exact a₂.fr.fre x cc hw hk e' (th_mine t fun e => Owner.noConfusion e)
  · obtain ⟨hk, e⟩ := hfr x hx
    have e2' := e2
    rw [← a.eo.sg] at e2
    obtain ⟨y, vi, sf⟩ := a₂.fr.var x sl (hk.elim (fun h => kind_isVar h rfl) fun h => kind_isVar h rfl) e2
    obtain ⟨cc, ec, nt, hcell⟩ := vi.cell hk
    refine ⟨x, hx, e1, cc, y, e.trans ec, hcell, fun env' he hz => ?_⟩
    obtain ⟨sr, own⟩ := sf
    have kp : Keep (Th.dom (Θ.drop (escs ts).contains)) (cloTh (Θ.drop (escs ts).contains) (CloP (Θ.drop (escs ts).contains) (frzAt (escs ts) 0 m) (sig N.scope) T.sg (freeIn N.scope) fd.closure s₁.heap)).dom s₁.heap s₁.heap := fun b o e _ n => ⟨fun d => n (cloTh_dom d), e⟩
    cases sr with
    | v r => exact ⟨.v (r.mono kp), fun e => Bool.noConfusion e⟩
    | clo r =>
      cases eq_of_beq (hg _ rfl)
      exact ⟨.clo (r.inner hN (fun b d => cloTh_dom d) (fun z hz => (hfr z hz).2) hz), fun e => Bool.noConfusion e⟩
    | ol r =>
      refine ⟨.ol (r.mono kp fun o e _ => e), fun _ b' e' => ?_⟩
      have t := own rfl _ e'
      cases Value.ref.inj e'
      exact cloTh_at (CloP.fun ho) ⟨_, t⟩ (e1 ▸ .mk hx rfl e2' (a.eo.sg ▸ t) (e.trans ec) hcell)
    | od r => exact absurd e2' (cb.od _ (List.mem_map_of_mem hx) _ _)
  · have fa := cloFr a₂ ho hfr sk cb bk
    exact hQ.nx fa ((a.dropSk _).trans ((Sk.of st a₁.fr.ox).trans (cloSk CloP.t a₂.fr.ox sk) fa.fr.ox) fa.fr.ox)
end
structure ArgOk (a : Arguments) (sc : Scope) : Prop where
  po : a.posonlyargs = []
  va : a.vararg = none
  ko : a.kwonlyargs = []
  ka : a.kwarg = none
  df : a.defaults = []
  kd : a.kw_defaults = []
  an : ∀ x ∈ a.args, x.annotation = none
  ow : ∀ x ∈ a.args, x.arg ∈ owOf sc
  nd : (a.args.map (·.arg)).Nodup
theorem argOk_of {a : Arguments} {sc : Scope} (h : argOk a sc = true) : ArgOk a sc := by
  unfold argOk at h
  obtain ⟨h, h8⟩ := Bool.and_eq_true_iff.mp h
  obtain ⟨h, h7⟩ := Bool.and_eq_true_iff.mp h
  obtain ⟨h, h6⟩ := Bool.and_eq_true_iff.mp h
  obtain ⟨h, h5⟩ := Bool.and_eq_true_iff.mp h
  obtain ⟨h, h4⟩ := Bool.and_eq_true_iff.mp h
  obtain ⟨h, h3⟩ := Bool.and_eq_true_iff.mp h
  obtain ⟨h1, h2⟩ := Bool.and_eq_true_iff.mp h
  have h7 := fun x hx => Bool.and_eq_true_iff.mp (List.all_eq_true.mp h7 x hx)
  exact ⟨List.isEmpty_iff.mp h1, Option.isNone_iff_eq_none.mp h2, List.isEmpty_iff.mp h3, Option.isNone_iff_eq_none.mp h4, List.isEmpty_iff.mp h5, List.isEmpty_iff.mp h6, fun x hx => Option.isNone_iff_eq_none.mp (h7 x hx).1, fun x hx => List.contains_iff_mem.mp (h7 x hx).2, of_decide_eq_true h8⟩
theorem ann_args {env : Env} {l : List Arg} : (∀ x ∈ l, x.annotation = none) → annotationsOf l env = [] := by
  induction l with
  | nil => exact fun _ => rfl
  | cons x r ih =>
    intro h
    obtain ⟨n, an, p⟩ := x
    cases (h _ (List.mem_cons_self ..) : an = none)
    exact ih fun y hy => h y (List.mem_cons_of_mem _ hy)
theorem ann_nil {args : Arguments} {sc : Scope} (h : ArgOk args sc) (env : Env) : annTrees args none env = [] := by
  obtain ⟨po, a, va, ko, kd, kwa, df⟩ := args
  cases (h.po : po = [])
  cases (h.va : va = none)
  cases (h.ko : ko = [])
  cases (h.ka : kwa = none)
  have e : annotationsOf (a ++ [] ++ [] ++ [] ++ []) env = [] := by
    rw [List.append_nil, List.append_nil, List.append_nil, List.append_nil]
    exact ann_args h.an
  exact congrArg (· ++ []) e
section
variable {G : Gd} {c : Cx} {k : Nat} {T : Tx}
theorem ss_defn {name : Str} {args : Arguments} {body : List Stmt} {sc : Scope} {p : Pos} {f i : Nat} (bm : BmOk G) (hx : name ∈ T.ow) (hi : idxOf T.sg name = i) (hcd : T.cd = true) (hsc : scOk T.cf sc = true) (ha : argOk args sc = true) (hN : G.nest f = some ⟨args, body, sc⟩) :
    SS G c k T (.FunctionDef name args body [] none [] sc none name p) (.defn i f) := fun {A env m Θ s fl m' Q X} a he hQ => by
  cases Option.some.inj he
  have hsc := scOk_of hsc
  have ha := argOk_of ha
  obtain ⟨cc, P, hcode, hO⟩ := a.eo.code hcd
  have hfree : ∀ x ∈ freeIn sc, ∃ c, env.cells.lookup x = some c := fun x hx => by
    cases a.fr.cells x (a.eo.cf x (hsc.free x hx)) with | mk e => exact ⟨_, e⟩
  refine W.nestDef_K ha.df ha.kd (ann_nil ha env) ?_
  rw [makeFunction_eq, List.zip_nil_right]
  refine wpAny_bind (wpAny_pure ?_)
  refine wpAny_bind (wpAny_pure ?_)
  refine wpAny_bind (wpAny_pure ?_)
  -- what the object is, once the code is there
  have fin : ∀ {s₁ : Shared} {fd : FuncData} {tk : Nat}, St G s s₁ → fd.params = args → fd.body = .stmts body → fd.scope = sc → fd.globals = env.globals → fd.builtins = builtinsNs → fd.defaults = .none → fd.closure = clFrom env sc.names [] → Entry s₁.heap P p fd.code →
      wpAny (model G.prog G.w) A (storeName env name (.ref s₁.heap.objs.size)) (fun _ => Q .next) X { s₁ with heap := s₁.heap.push { cls := .type "function", data := .func fd }, toks := tk } := fun {s₁ fd tk} st e1 e2 e3 e4 e5 e6 e7 en => by
    have st2 : St G s₁ { s₁ with heap := s₁.heap.push { cls := .type "function", data := .func fd }, toks := tk } := St.push st.inv _ tk
    have st3 := st.trans st2
    refine storeF (a.step st3) hx hi (sl := .clo f) ⟨.clo (.mk (o := { cls := .type "function", data := .func fd }) (fd := fd) (N := ⟨args, body, sc⟩) (a.fr.ox.step st).fresh ⟨Heap.get?_push_size _ rfl, type_ne, rfl, hN, e1, e2, e3, e4.trans a.eo.glob, e5, e6, ⟨cc, P, p, hO, st2.tb P p _ ⟨cc, hO⟩ en⟩, fun z hz => ⟨a.eo.cf z (hsc.free z hz), ?_⟩⟩), fun e => Bool.noConfusion e⟩ fun s' b => hQ.nx b.fa ((Sk.of st3 a.fr.ox).trans b.sk b.fa.fr.ox)
    obtain ⟨c0, e0⟩ := hfree z hz
    rw [e0, e7]
    exact cl_free hz e0
  -- the code, and the rest
  have tail : ∀ (s₀ : Shared) (ct : Value), St G s s₀ → wpAny (model G.prog G.w) A (do
      let cv ← functionCode env p p.line name (qualnameIn env name name) args sc (.stmts body)
      let bi ← builtinsFor env.globals env.builtins
      let pm ← nsGet env.globals "__name__"
      let doc ← (match docOf body with | some s => mkText s | none => pure .none : Sem Value)
      newObj (.type "function") (.func { name, qualname := qualnameIn env name name, params := args, body := .stmts body, scope := sc, globals := env.globals, closure := clFrom env sc.names [], closureTuple := ct, code := cv, builtins := bi, defaults := .none, kwdefaults := .none, annotations := none, pyModule := pm.getD .none, doc := doc }))
      (fun v s' => wpAny (model G.prog G.w) A (storeName env name v) (fun _ => Q .next) X s') X s₀ := fun s₀ ct st0 => by
    refine wpAny_bind (fn_code st0.inv hcode hO fun cv s₁ st hen => ?_)
    have st1 := st0.trans st
    refine wpAny_bind (bm_for bm st1.inv a.eo.glob (wpAny_bind (wpAny_nsGet (a.eo.glob.symm ▸ st1.inv.glob) ?_)))
    cases hdoc : docOf body with
    | none => exact wpAny_bind (wpAny_pure (wpAny_newObj_type (fin (s₁ := s₁) st1 rfl rfl rfl rfl rfl rfl rfl hen) (by size_fits)))
    | some t => exact wpAny_bind (wpAny_mkText (wpAny_newObj_type (fin (s₁ := s₁) st1 rfl rfl rfl rfl rfl rfl rfl hen) (by size_fits)))
  unfold makeTail
  rw [closureFor_eq hfree]
  refine wpAny_bind (wpAny_pure ?_)
  cases hcs : (clFrom env sc.names []).isEmpty with
  | true => exact wpAny_bind (wpAny_pure (tail s .none (.refl a.inv)))
  | false => exact wpAny_bind (wpAny_newTextTuple (tail _ _ (St.push a.inv _ s.toks)))
end
theorem zip_lookup {x : Str} {ns : List Str} : ∀ {xs : List Value}, ns.length = xs.length → x ∈ ns → ((ns.zip xs).lookup x).isNone = false := by
  induction ns with
  | nil => exact fun _ h => absurd h List.not_mem_nil
  | cons n ns ih =>
    intro xs hl h
    cases xs with
    | nil => exact Nat.noConfusion hl
    | cons y xs =>
      rw [List.zip_cons_cons, List.lookup_cons]
      cases q : x == n with
      | true => rfl
      | false => exact (List.mem_cons.mp h).elim (fun e => absurd (beq_iff_eq.mpr e) (Bool.eq_false_iff.mp q)) (ih (Nat.succ.inj hl))
theorem zip_filterMap {ns : List Str} : ∀ {xs : List Value} {l : List (Str × Value)}, ns.length = xs.length → ns.Nodup → (∀ n y, (ns.zip xs).lookup n = some y → l.lookup n = some y) → ns.filterMap (fun n => (l.lookup n).map (n, ·)) = ns.zip xs := by
  induction ns with
  | nil => exact fun _ _ _ => rfl
  | cons n ns ih =>
    intro xs l hl hn h
    cases xs with
    | nil => exact Nat.noConfusion hl
    | cons y xs =>
      have hn := List.nodup_cons.mp hn
      have e0 : l.lookup n = some y := h n y lk_hit
      have hl := Nat.succ.inj hl
      rw [List.filterMap_cons, e0]
      refine congrArg ((n, y) :: ·) (ih hl hn.2 fun z w e => h z w ?_)
      rw [List.zip_cons_cons, List.lookup_cons]
      cases q : z == n with
      | false => exact e
      | true => exact absurd (eq_of_beq q ▸ (List.of_mem_zip (lookup_mem e)).1) hn.1
theorem bindArgs_plain {fd : FuncData} {sc : Scope} (h : ArgOk fd.params sc) (hd : fd.defaults = .none) {xs : List Value} (hl : (fd.params.args.map (·.arg)).length = xs.length) : bindArgs fd ⟨xs, []⟩ = pure ((fd.params.args.map (·.arg)).zip xs) := by
  have hmiss : ((fd.params.args.map (·.arg)).take (fd.params.args.map (·.arg)).length).filter (fun n => (((fd.params.args.map (·.arg)).zip xs).lookup n).isNone) = [] := by
    rw [List.take_length]
    exact List.filter_eq_nil_iff.mpr fun n hn q => Bool.noConfusion ((zip_lookup hl hn).symm.trans q)
  have hf := zip_filterMap (l := (fd.params.args.map (·.arg)).zip xs) hl h.nd fun _ _ e => e
  unfold bindArgs
  simp only [h.po, h.va, h.ko, h.ka, hd, List.map_nil, List.nil_append, List.append_nil, List.forIn_nil, pure_bind, seqItems?]
  have e1 : ¬ (xs.length > (fd.params.args.map (·.arg)).length) := hl ▸ Nat.lt_irrefl _
  have e2 : notAStandIn Value.none = pure () := by rfl
  simp only [e2, pure_bind, Option.getD_none, List.length_nil, Nat.sub_zero, List.drop_nil, Nat.zero_sub, Option.isNone_none, Bool.and_true, List.isEmpty_nil, if_true]
  simp only [e1, decide_false, Bool.false_eq_true, if_false, hmiss, List.isEmpty_nil, Bool.not_true, List.drop_length, List.zip_nil_left, List.zip_nil_right, List.forIn_nil, pure_bind, hf]
section
variable {G : Gd} {Θ B : Th} {env : Env}
theorem store_all {A : Around} {X : Value → Shared → Prop} {ow : List Str} (hk : env.scope.kind = .function) (hb : ∀ x, x ∈ ow → env.kindOf x = some .local ∨ env.kindOf x = some .cell) {f : Str × Value → PUnit → Sem (ForInStep PUnit)} (hf : ∀ n v u, f (n, v) u = (do storeName env n v; pure (.yield ⟨⟩))) {ns : List Str} :
    ∀ {vs : List V} {ys : List Value} {m : Fr} {s : Shared} {Q : PUnit → Shared → Prop}, (∀ n ∈ ns, n ∈ ow) → Inv G s → FR G ow Θ s.heap env m → ns.length = vs.length → VRs G Θ.dom s.heap vs ys →
    (∀ s', FR G ow Θ s'.heap env (bindAll m (ns.map (idxOf (sig env.scope))) vs) → Sk G Θ s Θ s' → Q ⟨⟩ s') → wpAny (model G.prog G.w) A (forIn (ns.zip ys) ⟨⟩ f) Q X s := by
  induction ns with
  | nil =>
    intro vs ys m s Q _ i r hl hv h
    induction hv with
    | nil => exact wpAny_pure (h s r (.of (.refl i) r.ox))
    | cons => exact Nat.noConfusion hl
  | cons n ns ih =>
    intro vs ys m s Q ho i r hl hv h
    induction hv with
    | nil => exact Nat.noConfusion hl
    | cons v vs =>
      rw [List.zip_cons_cons, List.forIn_cons, hf]
      exact wpAny_bind (wpAny_bind (store_any i hk r (ho n (List.mem_cons_self ..)) (hb n (ho n (List.mem_cons_self ..))) (sf_v v) fun h' tk r' sk _ => wpAny_pure
        (ih (fun z hz => ho z (List.mem_cons_of_mem _ hz)) sk.inv r' (Nat.succ.inj hl) (VRs.mono (sk.keep i) vs) fun s' r'' sk' => h s' r'' (sk.trans sk' r''.ox))))
theorem new_env_fn {M : Model} {A : Around} {X : Value → Shared → Prop} {s : Shared} {sc : Scope} {globals builtins : Addr} {cl : List (Str × Addr)} {ns : List Str} {ys : List Value} {qual : Str} {func : Option Addr} {code : Value} {Q : Env → Shared → Prop} {e : Env}
    (he : e = ⟨sc, s.heap.objs.size, globals, cellsFrom (s.heap.push { cls := .type "frame", data := .dict #[] }).objs.size sc.names cl, qual, func, code, some s.heap.objs.size, builtins⟩)
    (h : ∀ f : Str × Value → PUnit → Sem (ForInStep PUnit), (∀ n v u, f (n, v) u = (do storeName e n v; pure (.yield ⟨⟩))) → wpAny M A (forIn (ns.zip ys) ⟨⟩ f) (fun _ s' => Q e s') X { s with heap := pushCells (s.heap.push { cls := .type "frame", data := .dict #[] }) sc.names }) :
    wpAny M A (newFunctionEnv sc globals cl (ns.zip ys) qual func code none builtins) Q X s := by
  subst he
  unfold newFunctionEnv
  exact wpAny_bind (wpAny_alloc (wpAny_bind (wpAny_layCells _ (fun name kind cells => rfl) _ _ _ _ (wpAny_bind (wpAny_mono (h _ fun _ _ _ => rfl) (fun _ _ x => wpAny_pure x) fun _ _ x => x)))))
structure FnF (G : Gd) (sc : Scope) (globals builtins : Addr) (cl : List (Str × Addr)) (code : Value) (B : Th) (s : Shared) (m : Fr) (env : Env) (s' : Shared) (Θ : Th) : Prop where
  es : env.scope = sc
  eg : env.globals = globals
  eb : env.builtins = builtins
  ec : env.code = code
  fr : FR G (owOf sc) Θ s'.heap env m
  sk : Sk G B s Θ s'
  free : ∀ x ∈ freeIn sc, env.kindOf x = some .free ∧ env.cells.lookup x = cl.lookup x
theorem fn_frame {A : Around} {X : Value → Shared → Prop} {s : Shared} (i : Inv G s) {cf : List Str} {sc : Scope} (S : ScOk cf sc) {cl : List (Str × Addr)} {mi : Fr} (b : ClB G B s mi sc cl) {ns : List Str} {vs : List V} {ys : List Value} (hns : ∀ n ∈ ns, n ∈ owOf sc) (hlen : ns.length = vs.length) (hv : VRs G B.dom s.heap vs ys)
    {globals builtins : Addr} {qual : Str} {func : Option Addr} {code : Value} {Q : Env → Shared → Prop} (h : ∀ env s' Θ, FnF G sc globals builtins cl code B s (bindAll mi (ns.map (idxOf (sig sc))) vs) env s' Θ → Q env s') :
    wpAny (model G.prog G.w) A (newFunctionEnv sc globals cl (ns.zip ys) qual func code none builtins) Q X s := by
  refine new_env_fn (e := ⟨sc, s.heap.objs.size, globals, cellsFrom (s.heap.push { cls := .type "frame", data := .dict #[] }).objs.size sc.names cl, qual, func, code, some s.heap.objs.size, builtins⟩) rfl fun f hf => ?_
  generalize he : (⟨sc, s.heap.objs.size, globals, cellsFrom (s.heap.push { cls := .type "frame", data := .dict #[] }).objs.size sc.names cl, qual, func, code, some s.heap.objs.size, builtins⟩ : Env) = env at hf ⊢
  have e1 : env.scope = sc := he ▸ rfl
  have e2 : env.cells = cellsFrom (s.heap.push { cls := .type "frame", data := .dict #[] }).objs.size sc.names cl := he ▸ rfl
  have kd : ∀ x k, (x, k) ∈ sc.names → env.kindOf x = some k := fun x k hx => by unfold Env.kindOf; rw [e1]; exact lookup_of S.nd hx
  have kb : ∀ {x k}, env.kindOf x = some k → (x, k) ∈ sc.names := fun {x k} hx => by unfold Env.kindOf at hx; rw [e1] at hx; exact lookup_mem hx
  have free : ∀ x ∈ freeIn sc, env.kindOf x = some .free ∧ env.cells.lookup x = cl.lookup x := fun x hx => ⟨kd x _ (mem_freeIn.mp hx), e2 ▸ cells_old (fun h => NameKind.noConfusion (one_kind S.nd h (mem_freeIn.mp hx))) _ _⟩
  have keep : ∀ b o', s.heap.get? b = some o' → (pushCells (s.heap.push { cls := .type "frame", data := .dict #[] }) sc.names).get? b = some o' := fun b o' e => pushCells_keeps _ _ b o' (Heap.get?_push_of_some _ e)
  have st := St.keeps i keep s.toks
  have F := new_frame (env := env) i S.nd b.ox b.bn rfl (Heap.Ns.new s.heap (.type "frame")) b.hcl (he ▸ rfl) e2 (e1 ▸ rfl) (fun x hx => hx.imp kb fun h => mem_freeIn.mpr (kb h)) (fun x hx => .inr (free x hx).1) fun j sl hj => by
    obtain ⟨x, hx, q, c, y, e, hc, sf⟩ := b.hm j sl hj
    exact ⟨x, hx, q, c, y, e, hc, sf env e1 free⟩
  have sk : Sk G B s _ { s with heap := pushCells (s.heap.push { cls := .type "frame", data := .dict #[] }) sc.names } := ⟨st.inv, fun b o nt _ e => st.kp b o nt e, fun a => ⟨F.bb a _, F.out a⟩, F.dom, fun a q => (b.ox a (mine_dom q)).elim fun _ q => q.elim fun o e => ⟨o, keep _ _ e⟩, st.tb, fun a t => ⟨F.bb a _ t, keep a⟩⟩
  exact store_all (e1 ▸ S.kind) (fun x hx => (mem_owOf.mp hx).imp (kd x _) (kd x _)) hf hns st.inv F.fr hlen (VRs.mono (sk.keep i) hv) fun s' fr' sk' => h env s' _ ⟨e1, he ▸ rfl, he ▸ rfl, he ▸ rfl, e1 ▸ fr', sk.trans sk' fr'.ox, free⟩
theorem call_fn {prog : Program} {w : World} {A : Around} {s : Shared} {R : Result → Shared → Prop} {a : Addr} {args : Args} {o : Obj} {fd : FuncData} {body : List Stmt} {q : Str} (hroom : A.depth < recursionLimit)
    (ho : s.heap.get? a = some o) (hd' : o.data = .func fd) (hco : fd.scope.isCoroutine = false) (hgen : fd.scope.isGenerator = false) (hbody : fd.body = .stmts body) (hcd : s.heap.CodeRec fd.code q)
    (h : wpAny (model prog w) A.in1 (bindArgs fd args) (fun binds s₁ =>
      wpAny (model prog w) A.in1 (newFunctionEnv fd.scope fd.globals fd.closure binds (q ++ ".<locals>.") (some a) fd.code none fd.builtins)
        (fun env s₂ => s₂.heap.NoLimit ∧ codeAny (model prog w) A (.func body env) R s₂) (fun e s' => R (.error e) s') s₁) (fun e s' => R (.error e) s') s) :
    codeAny (model prog w) A (.call (.ref a) args) R s := by
  refine codeAny_of_tree ?_
  show wpAny _ A.in1 (callAny (.ref a) args) _ _ s
  unfold callAny
  refine wpAny_bind (wpAny_load ho ?_)
  obtain ⟨c, oc, vs, tq, hc, hoc, hdc, hq⟩ := hcd
  simp only [hd', callFunction, hco, hgen, hbody, hc]
  rw [hc] at h
  refine wpAny_bind (m := field (.ref c) 1) (wpAny_field hoc hdc hq (wpAny_bind (wpAny_pure ?_)))
  exact wpAny_bind (wpAny_mono h (fun binds s₁ h₁ => wpAny_bind (wpAny_mono h₁ (fun env s₂ h₂ => wpAny_bind (wpAny_enterFrame h₂.1 hroom
    (wpAny_pure (And.intro rfl h₂.2)))) fun _ _ h' => h')) fun _ _ h' => h')
end
section
variable {G : Gd} {c : Cx} {k : Nat} {T : Tx}
theorem Room.deeper {A : Around} {k : Nat} (r : Room A (k + 1)) (env : Env) : Room (A.deeper env) k where
  depth := by have := r.depth; show A.depth + 1 + k < _; omega
  units := by have := r.units; show A.units + 3 + 10 * k + 1000 < _; omega
  handled := r.handled
structure FnOk (cf : List Str) (args : Arguments) (sc : Scope) (fn : Fn) (T : Tx) : Prop where
  pr : args.args.map (fun a => idxOf (sig sc) a.arg) = fn.params
  so : scOk cf sc = true
  ar : argOk args sc = true
  t1 : T.sg = sig sc
  t2 : T.cf = cfOf sc
  t3 : T.ow = owOf sc
structure FnO (G : Gd) (s : Shared) (o : Obj) (fd : FuncData) (P : Arguments) (body : List Stmt) (sc : Scope) (cd : Bool) : Prop where
  d : o.data = .func fd
  p : fd.params = P
  b : fd.body = .stmts body
  es : fd.scope = sc
  g : fd.globals = mainGlobals
  bi : fd.builtins = builtinsNs
  df : fd.defaults = .none
  cr : ∃ q, s.heap.CodeRec fd.code q
  cd : cd = true → ∃ c P, fd.code = .ref c ∧ G.Own c P
theorem call_core {A : Around} {s : Shared} (hr : Room A (k + 1)) (i : Inv G s) {a : Addr} {o : Obj} {fd : FuncData} {P : Arguments} {body : List Stmt} {sc : Scope} (ho : s.heap.get? a = some o) (fo : FnO G s o fd P body sc T.cd) {cf : List Str} {fn : Fn} (fk : FnOk cf P sc fn T) {B : Th} {mi m : Fr} (clb : ClB G B s mi sc fd.closure) {vs : List V} {ys : List Value}
    (hv : VRs G B.dom s.heap vs ys) (hm : Fr.args mi fn.params vs = some m) (hbody : SSs G c k T body fn.body) {r : Fl × Fr} (he : exs c fn.body m = some r) {R : Result → Shared → Prop}
    (hR : ∀ y Θ' s', Sk G B s Θ' s' → VR G Θ'.dom s'.heap r.1.val y → Back G Θ' s'.heap r.2 sc fd.closure → R (.ok (.ret y)) s') : codeAny (model G.prog G.w) A (.call (.ref a) ⟨ys, []⟩) R s := by
  have es := fo.es
  subst es
  have S := scOk_of fk.so
  have ar := argOk_of fk.ar
  refine oif (C := fun m => exs c fn.body m = some r → _) hm (fun hl he => ?_) he
  have ep := fo.p
  subst ep
  rw [← fk.pr, List.length_map] at hl
  have hl' : (fd.params.args.map (·.arg)).length = vs.length := (List.length_map ..).trans hl
  obtain ⟨q, cr⟩ := fo.cr
  refine call_fn (Nat.lt_of_le_of_lt (Nat.le_add_right _ _) hr.depth) ho fo.d S.co S.gen fo.b cr ?_
  rw [bindArgs_plain ar fo.df (hl'.trans hv.length)]
  refine wpAny_pure (fn_frame (A := A.in1) i S clb (fun n hn => ?_) hl' hv fun env s₁ Θ F => ⟨F.sk.inv.nolim, ?_⟩)
  · obtain ⟨x, hx, e⟩ := List.mem_map.mp hn
    exact e ▸ ar.ow x hx
  have kinds : ∀ x kd, (x, kd) ∈ fd.scope.names → env.kindOf x = some kd := fun x kd hx => by unfold Env.kindOf; rw [F.es]; exact lookup_of S.nd hx
  have e0 : (fd.params.args.map (·.arg)).map (idxOf (sig fd.scope)) = fn.params := List.map_map.trans fk.pr
  have fr := F.fr
  rw [e0, ← fk.t3] at fr
  have eo : EnvOk G T env := ⟨F.es ▸ S.kind, (congrArg sig F.es).trans fk.t1.symm, F.eg.trans fo.g, F.eb.trans fo.bi, fun x hx => (mem_cfOf.mp (fk.t2 ▸ hx)).imp (kinds x _) (kinds x _), fun x e => ?_, fun h => ?_, fun x hx => (mem_owOf.mp (fk.t3 ▸ hx)).imp (kinds x _) (kinds x _)⟩
  rotate_left
  · unfold Env.kindOf at e
    rw [F.es] at e
    exact S.nx _ (lookup_mem e) rfl
  · obtain ⟨c, P, e, w⟩ := fo.cd h
    exact ⟨c, P, F.ec.trans e, w⟩
  obtain ⟨fl, m'⟩ := r
  refine codeAny_func (hbody ⟨hr.deeper env, F.sk.inv, eo, fr⟩ he fun Θ' s₂ f a₂ sk hf => ?_)
  have sk' := F.sk.trans sk a₂.fr.ox
  have back : Back G Θ' s₂.heap m' fd.scope fd.closure := fun x hx xs hm => by
    obtain ⟨hkf, hcl⟩ := F.free x hx
    obtain ⟨y', vi, sf⟩ := a₂.fr.var x (.ol xs) (kind_isVar hkf rfl) (F.es ▸ hm)
    obtain ⟨sr, own⟩ := sf
    cases sr with | ol r =>
    obtain ⟨cc, ec, _, hcell⟩ := vi.cell (.inr hkf)
    exact ⟨cc, _, hcl.symm.trans ec, hcell, F.es ▸ own rfl _ rfl, r⟩
  cases hf with
  | next => exact hR _ _ _ sk' .none back
  | ret r => exact hR _ _ _ sk' r back
end
theorem code_rec {G : Gd} {s : Shared} (i : Inv G s) {c P : Addr} {q : Str} (hO : G.Own c P) (h : G.h₀.CodeRec (.ref c) q) : s.heap.CodeRec (.ref c) q := by
  obtain ⟨ps, ⟨⟨o, vs, e, hc, hd, _⟩, _⟩⟩ := i.gk.tab0 c P hO
  obtain ⟨c', o', vs', t, e1, e2, e3, e4⟩ := h
  cases e1
  cases Option.some.inj (e.symm.trans e2)
  exact ⟨c, o, vs', t, rfl, i.old.get_of_cls e (hc ▸ type_ne), e3, e4⟩
inductive FnI (G : Gd) (name : Str) (args : Arguments) (body : List Stmt) (sc : Scope) : Prop
  | mk {fa : Addr} {o : Obj} {fd : FuncData} {q : Str} {c P : Addr} (e1 : G.mg name = some (.ref fa)) (e2 : G.h₀.get? fa = some o) (e3 : fa ≠ cStatics) (e4 : o.data = .func fd) (e5 : fd.params = args) (e6 : fd.body = .stmts body) (e7 : fd.scope = sc) (e8 : fd.globals = mainGlobals)
    (e9 : fd.builtins = builtinsNs) (e10 : fd.defaults = .none) (e12 : G.h₀.CodeRec fd.code q) (e13 : fd.code = .ref c) (e14 : G.Own c P)
structure FD where
  name : Str
  args : Arguments
  body : List Stmt
  sc : Scope
structure Bk (G : Gd) (c : Cx) (k : Nat) (T : Tx) : Prop extends Bz G c k T where
  bm : BmOk G
inductive FnT (G : Gd) (gl : List Str) (gc : List (Str × Int)) (cf : List Str) (args : Arguments) (body : List Stmt) (sc : Scope) (cd : Bool) (fn : Fn) : Prop
  | mk {T : Tx} (fk : FnOk cf args sc fn T) (t1 : T.gl = gl) (t2 : T.gc = gc) (t3 : T.cd = cd) (ns : NstOk G T) (h : ∀ c k, Bk G c k T → SSs G c k T body fn.body)
structure PgOk (G : Gd) (p : Prog) (gl : List Str) (gc : List (Str × Int)) : Prop where
  consts : ∀ x i, gc.lookup x = some i → ∃ t, G.mg x = some (.int i t)
  bv : ∀ p ∈ biNames, G.mg p.1 = none ∧ G.mb p.1 = some p.2
  bm : BmOk G
  fns : ∀ (f : Nat) fn name, p.fns[f]? = some fn → gl[f]? = some name → ∃ d : FD, FnI G name d.args d.body d.sc ∧ FnT G gl gc [] d.args d.body d.sc true fn
  nested : ∀ (f : Nat) fn N, p.nested[f]? = some fn → G.nest f = some N → ∃ cf, FnT G gl gc cf N.params N.body N.scope false fn
section
variable {G : Gd} {p : Prog} {gl : List Str} {gc : List (Str × Int)}
theorem PgOk.bk (h : PgOk G p gl gc) {k : Nat} (hc : CallOk G (run p G.gen k) k gl) (hq : CloOk G (run p G.gen k) k) {T : Tx} (h1 : T.gl = gl) (h2 : T.gc = gc) (hn : NstOk G T) : Bk G (run p G.gen k) k T :=
  ⟨⟨⟨(by cases k <;> rfl), h1.symm ▸ hc, h2.symm ▸ h.consts, h.bv⟩, hq, hn⟩, h.bm⟩
theorem outs_st {O : Addr → Prop} {s s' : Shared} {Θ' : Th} (sk : Sk G (outs O) s Θ' s') : St G s s' := ⟨sk.inv, fun b o nt e => sk.kp b o nt outs_mine e, sk.tb⟩
theorem outs_vr {O : Addr → Prop} {s s' : Shared} {Θ' : Th} (sk : Sk G (outs O) s Θ' s') {v : V} {y : Value} (r : VR G Θ'.dom s'.heap v y) : VR G O s'.heap v y := r.mono fun b o' e _ no => ⟨fun d => no ⟨_, (sk.out b).mp (outs_of d)⟩, e⟩
theorem callOk_succ (h : PgOk G p gl gc) {k : Nat} (hc : CallOk G (run p G.gen k) k gl) (hq : CloOk G (run p G.gen k) k) : CallOk G (run p G.gen (k + 1)) (k + 1) gl := fun f vs v name hv hn =>
  obind (C := ∃ fa, _) hv fun fn hf hv => obind (C := ∃ fa, _) hv fun m hm hv => by
    obtain ⟨d, fi, ft⟩ := h.fns f fn name hf hn
    cases fi with | @mk fa o fd q cc P e1 e2 e3 e4 e5 e6 e7 e8 e9 e10 e12 e13 e14 =>
    cases ft with | @mk T fk t1 t2 t3 ns hd =>
    refine ⟨fa, ⟨e1, o, fd, e2, e3, e4⟩, fun {A s O xs R} hr i ox rxs hR => omap (C := fun v => (∀ y s', St G s s' → VR G O s'.heap v y → R (.ok (.ret y)) s') → _) hv (fun r hx hR => ?_) hR⟩
    have nofree : ∀ x, x ∉ freeIn d.sc := fun x hx => List.not_mem_nil ((scOk_of fk.so).free x hx)
    exact call_core hr i (o := o) (fd := fd) (old_func i.old e2 e4 e3) ⟨e4, e5, e6, e7, e8, e9, e10, ⟨q, e13.symm ▸ code_rec i e14 (e13 ▸ e12)⟩, fun _ => ⟨cc, P, e13, e14⟩⟩ fk (B := outs O)
      ⟨fun b d => ox b (outs_dom d), fun b q => absurd q outs_mine, fun x hx => absurd hx (nofree x), fun j sl hj => at_none hj⟩ (vrs_outs rxs) hm (hd _ _ (h.bk hc hq t1 t2 ns)) hx fun y Θ' s' sk ry _ => hR y s' (outs_st sk) (outs_vr sk ry)
theorem cloOk_succ (h : PgOk G p gl gc) {k : Nat} (hc : CallOk G (run p G.gen k) k gl) (hq : CloOk G (run p G.gen k) k) : CloOk G (run p G.gen (k + 1)) (k + 1) := fun {f vs mi v m'} hv {N} hN {A s B env a o fd ys R} hr i ci clb rxs hR =>
  obind hv fun fn hf hv => obind hv fun m hm hv => by
    obtain ⟨cf, ft⟩ := h.nested f fn N hf hN
    cases ft with | @mk T fk t1 t2 t3 ns hd =>
    refine omap (C := fun p => p = (v, m') → _) (b := (v, m')) hv (fun r hx e => ?_) rfl
    cases e
    obtain ⟨cc, P, pos, w, en⟩ := ci.code
    cases en with | mk ep hent =>
    cases i.tab cc P w with | mk u1 u2 u3 =>
    have hps := tab_fun u2.2 ep
    subst hps
    have cr : ∃ q, s.heap.CodeRec fd.code q := by
      have x := u3 pos _ hent
      generalize fd.code = cv at x
      cases x with | mk _ _ r => exact ⟨_, r⟩
    exact call_core hr i ci.get ⟨ci.data, ci.params, ci.body, ci.scope, ci.globals, ci.builtins, ci.defaults, cr, fun e => Bool.noConfusion (t3.symm.trans e)⟩ fk clb rxs hm (hd _ _ (h.bk hc hq t1 t2 ns)) hx hR
theorem calls_ok (h : PgOk G p gl gc) (k : Nat) : CallOk G (run p G.gen k) k gl ∧ CloOk G (run p G.gen k) k := by
  induction k with
  | zero => exact ⟨fun _ _ _ _ hv => nos hv, fun hv => nos hv⟩
  | succ k ih => exact ⟨callOk_succ h ih.1 ih.2, cloOk_succ h ih.1 ih.2⟩
end
end Mine
end
section
set_option maxRecDepth 100000
set_option genSizeOf false
set_option genInjectivity false
namespace Mine
open PySem PySem.W PySem.Calls PyProof.Rows SeqAt
inductive OwnF (mg : Str → Option Value) (h : Heap) (ds : List DefRec) (c P : Addr) : Prop
  | mk {d : DefRec} {a : Addr} {o : Obj} {fd : FuncData} (hd : d ∈ ds) (e1 : mg d.name = some (.ref a)) (e2 : h.get? a = some o) (e3 : o.data = .func fd) (e4 : fd.code = .ref c) (e5 : h.IsCode c P #[]) (e6 : h.TableAt c P #[])
noncomputable def gd (p : Program) (w : World) (s : Shared) (mg mb : Str → Option Value) (view : Program) (nests : List Nest) : Gd := ⟨p, w, 0, s.heap, s.os, mg, mb, OwnF mg s.heap (recsOf view), fun f => nests[f]?⟩
noncomputable def isInt (i : Int) : Option PyData → Bool
  | some (.int j) => j == i
  | _ => false
theorem isInt_of {i : Int} {o : Option PyData} (h : isInt i o = true) : o = some (.int i) := by
  cases o with
  | none => exact Bool.noConfusion h
  | some l =>
    cases l with
    | int j => exact congrArg (fun j => some (PyData.int j)) (eq_of_beq h)
    | _ => exact Bool.noConfusion h
noncomputable def constOk (view : Program) (p : Str × Int) : Bool := isInt p.2 (valOf view p.1)
section
variable {p view : Program} {w : World} {s : Shared} {mg mb : Str → Option Value} {loose : List Str} {mean : ExcName → Option Value} {nests : List Nest}
theorem gd_inv (T : Top view loose mean mg mb s.heap) (hgens : AllBare s.gens) : Inv (gd p w s mg mb view nests) s := by
  have key : ∀ b m, s.heap.Ns b m → ¬ (gd p w s mg mb view nests).Tab b := fun b m hn ht => by
    obtain ⟨c, x⟩ := ht
    cases x with | mk _ _ _ _ _ _ h6 =>
    obtain ⟨o, es, ep, e, hd, _⟩ := hn
    cases Option.some.inj (e.symm.trans h6.2)
    exact Data.noConfusion hd
  obtain ⟨mc, hc, hm⟩ := T.nolimit
  refine ⟨⟨fun c P x => ?_, ⟨key _ _ T.g, key _ _ T.b, key _ _ hc⟩, ⟨ns_get T.g, ns_get T.b, ns_get hc⟩⟩, .refl _, T.g, T.b, ⟨mc, hc, hm⟩, hgens, rfl, fun c P x => ?_⟩
  · cases x with | mk _ _ _ _ _ _ h6 => exact ⟨_, h6⟩
  · cases x with | mk _ _ _ _ _ h5 h6 => exact ⟨h5, h6, fun pos v h => nos h⟩
theorem gd_fn (T : Top view loose mean mg mb s.heap) {d : DefRec} (hd : d ∈ recsOf view) : FnI (gd p w s mg mb view nests) d.name d.params d.body d.scope := by
  obtain ⟨a, o, pm, code, doc, h1, h2, h3, h4⟩ := T.fn d hd
  obtain ⟨a', o', fd', c, P, k1, k2, k3, k4, k5, k6⟩ := T.tab d hd
  cases Option.some.inj (h1.symm.trans k1)
  cases Option.some.inj (h2.symm.trans k2)
  have q := h3.symm.trans k3
  injection q with q
  subst q
  have hst : a ≠ cStatics := fun e => by
    subst e
    obtain ⟨mc, ⟨o', es, ep, g, hd', _⟩, _⟩ := T.nodigits
    cases Option.some.inj (h2.symm.trans g)
    exact Data.noConfusion (h3.symm.trans hd')
  exact .mk h1 h2 hst h3 rfl rfl rfl rfl rfl rfl h4 k4 (.mk hd h1 h2 h3 k4 k5 k6)
noncomputable def freeOk (view : Program) (loose : List Str) (x : Str) : Bool := !startupNames.contains x && (!loose.contains x && (!((recsOf view).map (·.name)).contains x && (!((litsOf view).map (·.1)).contains x && (!((clssOf view loose).map (·.name)).contains x && x != ("__name__" : Str)))))
theorem not_in {x : Str} {l : List Str} (h : (!l.contains x) = true) : x ∉ l := fun q => Bool.noConfusion ((congrArg not (List.contains_iff_mem.mpr q)).symm.trans h)
noncomputable def isBi (p : Str × Value) : Option Value → Prop := fun o => o = some p.2
theorem gd_bv (T : Top view loose mean mg mb s.heap) (hfree : (biNames.all fun q => freeOk view loose q.1) = true) (hb : ∀ q ∈ biNames, bootBuiltins q.1 = some q.2) : ∀ q ∈ biNames, mg q.1 = none ∧ mb q.1 = some q.2 := fun q hq => by
  have h := List.all_eq_true.mp hfree q hq
  unfold freeOk at h
  obtain ⟨a1, h⟩ := Bool.and_eq_true_iff.mp h
  obtain ⟨a2, h⟩ := Bool.and_eq_true_iff.mp h
  obtain ⟨a3, h⟩ := Bool.and_eq_true_iff.mp h
  obtain ⟨a4, h⟩ := Bool.and_eq_true_iff.mp h
  obtain ⟨a5, a6⟩ := Bool.and_eq_true_iff.mp h
  exact ⟨T.free q.1 (not_in a1) (not_in a2) (not_in a3) (not_in a4) (not_in a5), (T.builtins q.1 (bne_iff_ne.mp a6)).trans (hb q hq)⟩
theorem gd_const (T : Top view loose mean mg mb s.heap) {gc : List (Str × Int)} (hconst : gc.all (constOk view) = true) {x : Str} {i : Int} (hx : gc.lookup x = some i) : ∃ t, mg x = some (.int i t) := by
  obtain ⟨v, e, r⟩ := T.const x _ (isInt_of (List.all_eq_true.mp hconst _ (lookup_mem hx)))
  have := r s.heap
  cases this
  exact ⟨_, e⟩
theorem ints_vrs {G : Gd} {O : Addr → Prop} {h : Heap} {vs : List Value} {ns : List Int} (x : IntsAre vs ns) : VRs G O h (ns.map .int) vs := by
  induction x with
  | nil => exact .nil
  | cons n t _ ih => exact .cons (.int n t) ih
theorem callerA_room {k : Nat} (hk : k ≤ 64) : Room callerA k :=
  ⟨Nat.lt_of_le_of_lt (Nat.add_le_add_left hk _) (by decide : callerA.depth + 64 < recursionLimit), Nat.lt_of_le_of_lt (Nat.add_le_add_right (Nat.add_le_add_left (Nat.mul_le_mul_left 10 hk) _) _) (by decide : callerA.units + 10 * 64 + 1000 < cLine), rfl⟩
theorem well_ints {P : Params} {h : Heap} {ns : List Int} : ∀ {vs : List Value}, WellAll P h vs (ofPys (ns.map PyData.int)) → IntsAre vs ns := by
  induction ns with
  | nil => intro vs x; cases x; exact .nil
  | cons n ns ih =>
    intro vs x
    cases x with
    | cons a b =>
      cases a
      exact .cons _ _ (ih b)
theorem law_top (T : Top view loose mean mg mb s.heap) (hgens : AllBare s.gens) {pr : Prog} {gl : List Str} {gc : List (Str × Int)} (hpg : PgOk (gd p w s mg mb view nests) pr gl gc)
    {f : Nat} {name : Str} (hf : gl[f]? = some name) {fa : Addr} (hm : mg name = some (.ref fa)) {a : Addr} {ns : List Int} (hw : Well w.params s.heap (.ref a) (ofPy (PyData.list (ns.map PyData.int)))) (hlen : ns.length ≤ 63) {k : Nat} (hk : k ≤ 64)
    (hrun : (run pr 0 k).call f [.list (ns.map .int)] = some (.bool true))
    {cw : ClaimW} {cl : Str → Option Addr} {mn : ExcName → Option Value} {args : List WData} (hra : ∀ cls, cw.raises args cls = false) (hpost : cw.post args (.bool true) args = true) :
    codeAny (model p w) callerA (.call (.ref fa) ⟨[.ref a], []⟩) (GoodWG cw cl mn args s) s := by
  obtain ⟨fa', hfa, hcall⟩ := (calls_ok hpg k).1 f _ _ name hrun hf
  cases Option.some.inj (hm.symm.trans hfa.glob)
  cases hw with | list e r =>
  have hi := well_ints r
  have hr := ints_vrs (G := gd p w s mg mb view nests) (O := fun _ => False) (h := s.heap) hi
  have hl := hr.length
  have hl := (List.length_map (as := ns) V.int).symm.trans hl
  refine hcall (O := fun _ => False) (callerA_room hk) (gd_inv T hgens) (fun b hb => hb.elim) (.cons (.mkL (fun h => h) ⟨e, hl ▸ Nat.le_trans hlen (by decide), hr⟩) .nil) fun y s' st ry => ?_
  cases ry
  exact ⟨.inl ⟨_, _, [], rfl, hra, .bool true, hpost, fun _ => ⟨.nil, fun _ h => absurd h List.not_mem_nil⟩⟩, st.inv.old, st.inv.os, st.inv.bare⟩
end
end Mine
end
section
set_option maxRecDepth 100000
set_option genSizeOf false
set_option genInjectivity false
namespace Mine
open PySem PyProof.Rows SeqAt
section
variable {G : Gd} {c : Cx} {k : Nat} {T : Tx} {sc : Scope}
theorem Bs.inner (b : Bs G c k T) : Bs G c k (T.inner sc) := ⟨b.gen, b.call, b.consts, b.bv⟩
theorem Bz.inner (b : Bz G c k T) : Bz G c k (T.inner sc) := ⟨b.toBs.inner, b.clo, b.nst⟩
theorem sss_bad {st : List Stmt} {t : Ss} : SSs G c k T st (.cons .bad t) := fun _ h _ => nos h
theorem in_ow {x : Str} (h : T.ow.contains x = true) : x ∈ T.ow := List.contains_iff_mem.mp h
theorem gs_ok {t it : Expr} {ifs : List Expr} {r : List Comprehension} {tg : Tg} {ti : It} {tifs : Es} {gs : Gs} {tp : Expr → Prop} (hi : SI G c k T tp it ti) (htp : tp t) (ok : scOk T.cf sc = true) (ht : TgOk (T.inner sc) t tg) (fs : ∀ env x, foldedSetIterable it env x = pure x)
    (hif : SBl G c k (T.inner sc) ifs tifs) (hr : SGs G c k (T.inner sc) r gs) : GsOk G c k T sc t it ifs r tg ti tifs gs tp := ⟨ok, ht, htp, hi, fs, hif, hr⟩
theorem sgs_cons {t it : Expr} {ifs : List Expr} {r : List Comprehension} {tg : Tg} {ti : It} {tifs : Es} {gr : Gs} {tp : Expr → Prop} (hi : SI G c k T tp it ti) (htp : tp t) (ht : TgOk T t tg) (hfs : ∀ env x, foldedSetIterable it env x = pure x) (hif : SBl G c k T ifs tifs) (hr : SGs G c k T r gr) :
    SGs G c k T (⟨t, it, ifs, 0⟩ :: r) (.cons tg ti tifs gr) := .cons ht htp hi hfs hif hr
theorem ss_for' {t it : Expr} {body : List Stmt} {tg : Tg} {ti : It} {tb : Ss} {p : Pos} {tp : Expr → Prop} (hi : SI G c k T tp it ti) (htp : tp t) (ht : TgOk T t tg) (hfs : ∀ env x, foldedSetIterable it env x = pure x) (hb : SSs G c k T body tb) :
    SS G c k T (.For t it body [] p) (.for tg ti tb) := ss_for ht htp hi hfs hb
end
end Mine
end
section
set_option maxRecDepth 100000
set_option genSizeOf false
set_option genInjectivity false
namespace Mine
open PySem
noncomputable def fn0 : Fn := ⟨[0, 1], 13, .cons (.asgT [2, 3, 4, 5, 6] (.var 1)) (.cons (.asgT [7, 8, 9, 10, 11] (.var 0)) (.cons (.ret (.pn tupN (.cons (.p2 (binV .Add) (.var 2) (.var 7)) (.cons (.p2 (binV .Add) (.var 3) (.var 8)) (.cons (.p2 (binV .Add) (.var 4) (.var 9)) (.cons (.p2 (binV .Add) (.var 5) (.var 10)) (.cons (.call 1 (.cons (.var 11) (.cons (.var 6) .nil))) .nil))))))) .nil))⟩
noncomputable def fn1 : Fn := ⟨[0, 1], 8, .cons (.asg .o 2 (.dct .nil .nil)) (.cons (.for (.many [3, 4]) (.one pairsV (.var 0)) (.cons (.asgS 2 (.var 3) (.var 4)) .nil)) (.cons (.for (.many [3, 4]) (.one pairsV (.var 1)) (.cons (.ite (.pe inV 2 (.var 3)) (.cons (.ite (.pv isTupV 4) (.cons (.asgS 2 (.var 3) (.p2 addT (.var 4) (.pe subV 2 (.var 3)))) .nil) (.cons (.asgS 2 (.var 3) (.p2 addI (.pe subV 2 (.var 3)) (.var 4))) .nil)) .nil) (.cons (.asgS 2 (.var 3) (.var 4)) .nil)) .nil)) (.cons (.ret (.var 2)) .nil)))⟩
noncomputable def fn2 : Fn := ⟨[0], 3, .cons (.asg .v 1 (.cst (.int 0))) (.cons (.for (.one 2) (.one valuesV (.var 0)) (.cons (.asg .v 1 (.p2 addI (.var 1) (.var 2))) .nil)) (.cons (.ret (.var 1)) .nil))⟩
noncomputable def fn3 : Fn := ⟨[0, 1, 2], 14, .cons (.ite (.p2 (cmpV .LtE) (.p2 (binV .Sub) (.pv bitlenV 0) (.var 2)) (.cst (.int 4000))) (.cons (.ret (.p2 divmV (.var 0) (.var 1))) .nil) .nil) (.cons .bad .nil)⟩
noncomputable def fn4 : Fn := ⟨[0, 1, 2, 3, 4, 5], 9, .cons .bad .nil⟩
noncomputable def fn5 : Fn := ⟨[0, 1], 5, .cons (.asg .o 2 (.p2 (binV .Mult) (.pn lstN (.cons (.cst (.int 0)) .nil)) (.p2 (binV .FloorDiv) (.p2 (binV .Sub) (.p2 (binV .Add) (.pv bitlenV 0) (.var 1)) (.cst (.int 1))) (.var 1)))) (.cons (.defn 3 0) (.cons (.ite (.var 0) (.cons (.cloS 3 0 (.cons (.var 0) (.cons (.cst (.int 0)) (.cons (.pv lenV 2) .nil))) [(7, 2), (8, 3), (9, 1)] 10) .nil) .nil) (.cons (.ret (.var 2)) .nil)))⟩
noncomputable def fn6 : Fn := ⟨[0, 1], 4, .cons (.defn 2 1) (.cons (.ret (.ite (.var 0) (.clo 2 1 (.cons (.cst (.int 0)) (.cons (.pv lenV 0) .nil)) [(4, 0), (5, 2), (6, 1)] 7) (.cst (.int 0)))) .nil)⟩
noncomputable def fn7 : Fn := ⟨[0, 1], 13, .cons (.asg .v 2 (.pv bitlenV 1)) (.cons (.asg .v 3 (.call 5 (.cons (.var 0) (.cons (.var 2) .nil)))) (.cons (.asg .v 4 (.cst (.int 0))) (.cons (.asg .o 5 (.pn lstN .nil)) (.cons (.for (.one 6) (.one revV (.var 3)) (.cons (.asgT [7, 4] (.call 3 (.cons (.p2 (binV .Add) (.p2 (binV .LShift) (.var 4) (.var 2)) (.var 6)) (.cons (.var 1) (.cons (.var 2) .nil))))) (.cons (.append 5 (.var 7)) .nil))) (.cons (.reverse 5) (.cons (.asg .v 8 (.call 6 (.cons (.var 5) (.cons (.var 2) .nil)))) (.cons (.ret (.pn tupN (.cons (.var 8) (.cons (.var 4) .nil)))) .nil)))))))⟩
noncomputable def fn8 : Fn := ⟨[0, 1], 7, .cons (.ite (.p2 (cmpV .Eq) (.var 1) (.cst (.int 0))) (.cons .bad .nil) (.cons (.ite (.p2 (cmpV .Lt) (.var 1) (.cst (.int 0))) (.cons (.asgT [2, 3] (.call 8 (.cons (.pv negV 0) (.cons (.pv negV 1) .nil)))) (.cons (.ret (.pn tupN (.cons (.var 2) (.cons (.pv negV 3) .nil)))) .nil)) (.cons (.ite (.p2 (cmpV .Lt) (.var 0) (.cst (.int 0))) (.cons (.asgT [2, 3] (.call 8 (.cons (.pv invV 0) (.cons (.var 1) .nil)))) (.cons (.ret (.pn tupN (.cons (.pv invV 2) (.cons (.p2 (binV .Add) (.var 1) (.pv invV 3)) .nil)))) .nil)) (.cons (.ret (.call 7 (.cons (.var 0) (.cons (.var 1) .nil)))) .nil)) .nil)) .nil)) .nil⟩
noncomputable def fn9 : Fn := ⟨[0, 1, 2], 4, .cons (.ret (.p2 cutTo (.p2 (binV .Add) (.p2 cutFrom (.var 0) (.var 1)) (.p2 cutFrom (.var 2) (.p1 lenV (.p2 cutFrom (.var 0) (.var 1))))) (.pv lenV 2))) .nil⟩
noncomputable def nn0 : Fn := ⟨[0, 1, 2], 10, .cons (.ite (.p2 (cmpV .Eq) (.p2 (binV .Add) (.var 1) (.cst (.int 1))) (.var 2)) (.cons (.asgS 7 (.var 1) (.var 0)) (.cons .retN .nil)) .nil) (.cons (.asg .v 3 (.p2 (binV .RShift) (.p2 (binV .Add) (.var 1) (.var 2)) (.cst (.int 1)))) (.cons (.asg .v 4 (.p2 (binV .Mult) (.p2 (binV .Sub) (.var 3) (.var 1)) (.var 9))) (.cons (.asg .v 5 (.p2 (binV .RShift) (.var 0) (.var 4))) (.cons (.asg .v 6 (.p2 (binV .BitXor) (.var 0) (.p2 (binV .LShift) (.var 5) (.var 4)))) (.cons (.cloS 8 0 (.cons (.var 6) (.cons (.var 1) (.cons (.var 3) .nil))) [(7, 7), (8, 8), (9, 9)] 10) (.cons (.cloS 8 0 (.cons (.var 5) (.cons (.var 3) (.cons (.var 2) .nil))) [(7, 7), (8, 8), (9, 9)] 10) .nil))))))⟩
noncomputable def nn1 : Fn := ⟨[0, 1], 7, .cons (.ite (.p2 (cmpV .Eq) (.p2 (binV .Add) (.var 0) (.cst (.int 1))) (.var 1)) (.cons (.ret (.pe subV 4 (.var 0))) .nil) .nil) (.cons (.asg .v 2 (.p2 (binV .RShift) (.p2 (binV .Add) (.var 0) (.var 1)) (.cst (.int 1)))) (.cons (.asg .v 3 (.p2 (binV .Mult) (.p2 (binV .Sub) (.var 2) (.var 0)) (.var 6))) (.cons (.ret (.p2 (binV .Add) (.p2 (binV .LShift) (.clo 5 1 (.cons (.var 2) (.cons (.var 1) .nil)) [(4, 4), (5, 5), (6, 6)] 7) (.var 3)) (.clo 5 1 (.cons (.var 0) (.cons (.var 2) .nil)) [(4, 4), (5, 5), (6, 6)] 7))) .nil)))⟩
noncomputable def fn10 : Fn := ⟨[0], 5, .cons (.asg .o 1 (.pn lstN (.cons (.pn tupN .nil) .nil))) (.cons (.for (.one 2) (.one itemsOf (.pv (rngV (.int 0)) 0)) (.cons (.asg .o 1 (.lcomp (.p2 (binV .Add) (.p2 (binV .Add) (.p2 cutTo (.var 1) (.var 2)) (.pn tupN (.cons (.var 5) .nil))) (.p2 cutFrom (.var 1) (.var 2))) (.cons (.one 1) (.one itemsOf (.var 1)) .nil (.cons (.one 2) (.one itemsOf (.p1 (rngV (.int 0)) (.p2 (binV .Add) (.pv lenV 1) (.cst (.int 1))))) .nil .nil)) [(5, 2)] 6)) .nil)) (.cons (.asg .o 3 (.lcomp (.p1 lenV (.lcomp (.var 1) (.cons (.one 1) (.one itemsOf (.p2 rngV (.cst (.int 1)) (.var 4))) (.cons (.p2 (cmpV .Lt) (.pe subV 2 (.var 1)) (.pe subV 2 (.p2 (binV .Sub) (.var 1) (.cst (.int 1))))) .nil) .nil) [(2, 1)] 3)) (.cons (.one 1) (.one itemsOf (.var 1)) .nil .nil) [(4, 0)] 5)) (.cons (.ret (.lcomp (.p2 countV (.var 2) (.var 1)) (.cons (.one 1) (.one itemsOf (.pv (rngV (.int 0)) 0)) .nil .nil) [(2, 3)] 3)) .nil)))⟩
noncomputable def fn11 : Fn := ⟨[0], 8, .cons (.asg .o 1 (.pn lstN .nil)) (.cons (.for (.one 2) (.one itemsOf (.pv (rngV (.int 0)) 0)) (.cons (.asg .v 3 (.call 10 (.cons (.p2 (binV .Sub) (.var 0) (.var 2)) .nil))) (.cons (.for (.one 4) (.one itemsOf (.pv (rngV (.int 0)) 2)) (.cons (.asg .o 3 (.lcomp (.p2 (binV .Sub) (.var 1) (.var 2)) (.cons (.many [1, 2]) (.two zipV (.p2 (binV .Add) (.var 3) (.pn lstN (.cons (.cst (.int 0)) .nil))) (.p2 (binV .Add) (.pn lstN (.cons (.cst (.int 0)) .nil)) (.var 3))) .nil .nil) [] 3)) .nil)) (.cons (.append 1 (.var 3)) .nil)))) (.cons (.ret (.var 1)) .nil))⟩
noncomputable def fn12 : Fn := ⟨[0, 1, 2], 10, .cons (.asg .v 3 (.pv lenV 0)) (.cons (.asg .o 4 (.pn lstN .nil)) (.cons (.for (.one 5) (.one itemsOf (.pv (rngV (.int 0)) 3)) (.cons (.asg .o 6 (.lcomp (.p2 (binV .Mult) (.p2 (binV .Mult) (.pe subV 6 (.var 1)) (.p2 (binV .Pow) (.var 2) (.p2 (binV .Sub) (.var 4) (.var 1)))) (.p2 subV (.pe subV 5 (.var 1)) (.var 3))) (.cons (.one 1) (.one itemsOf (.pv (rngV (.int 0)) 3)) .nil .nil) [(2, 2), (3, 5), (4, 3), (5, 0), (6, 1)] 7)) (.cons (.append 4 (.p1 tupV (.p2 cutTo (.p2 (binV .Add) (.var 6) (.pn lstN (.cons (.cst (.int 0)) (.cons (.cst (.int 0)) .nil)))) (.cst (.int 4))))) .nil))) (.cons (.ret (.var 4)) .nil)))⟩
noncomputable def fn13 : Fn := ⟨[0, 1, 2], 3, .cons (.ret (.ite (.p2 (cmpV .Eq) (.p2 (binV .Mod) (.var 0) (.cst (.int 2))) (.cst (.int 1))) (.pn tupN (.cons (.var 1) (.cons (.p2 (binV .Mult) (.var 1) (.pe subV 2 (.var 0))) .nil))) (.var 1))) .nil⟩
noncomputable def fn14 : Fn := ⟨[0], 3, .cons (.ret (.ite (.pv isTupV 0) (.pe subV 0 (.cst (.int 0))) (.var 0))) .nil⟩
noncomputable def fn15 : Fn := ⟨[0, 1], 7, .cons (.asg .o 2 (.dct .nil .nil)) (.cons (.for (.one 3) (.one itemsOf (.pe subV 0 (.cst (.int 4)))) (.cons (.asg .v 4 (.p2 subV (.pe subV 0 (.cst (.int 4))) (.var 3))) (.cons (.asgS 2 (.var 3) (.ite (.pv isTupV 4) (.pn tupN (.cons (.p2 (binV .Mult) (.var 1) (.pe subV 4 (.cst (.int 0)))) (.cons (.p2 (binV .Mult) (.var 1) (.pe subV 4 (.cst (.int 1)))) .nil))) (.p2 (binV .Mult) (.var 1) (.var 4)))) .nil))) (.cons (.ret (.p2 (binV .Add) (.p1 tupV (.lcomp (.p2 (binV .Mult) (.var 2) (.var 1)) (.cons (.one 1) (.one itemsOf (.p2 cutTo (.var 0) (.cst (.int 4)))) .nil .nil) [(2, 1)] 3)) (.pn tupN (.cons (.var 2) .nil)))) .nil))⟩
noncomputable def fn16 : Fn := ⟨[0, 1, 2, 3], 5, .cons (.ret (.lcomp (.call 8 (.cons (.p2 (binV .Mult) (.var 5) (.p2 (binV .Add) (.var 1) (.p2 (binV .Mult) (.var 4) (.var 3)))) (.cons (.p2 (binV .Mult) (.var 5) (.var 3)) .nil))) (.cons (.one 1) (.one itemsOf (.p1 (rngV (.int 0)) (.p2 (binV .Mult) (.var 0) (.var 1)))) .nil .nil) [(3, 1), (4, 2), (5, 3)] 6)) .nil⟩
noncomputable def fn17 : Fn := ⟨[0, 1, 2, 3], 18, .cons (.asg .v 4 (.pv lenV 0)) (.cons (.asg .v 5 (.call 5 (.cons (.p2 (binV .Pow) (.call 6 (.cons (.p2 (binV .Mult) (.pn lstN (.cons (.cst (.int 1)) .nil)) (.var 1)) (.cons (.var 3) .nil))) (.var 4)) (.cons (.var 3) .nil)))) (.cons (.asg .o 6 (.pn lstN .nil)) (.cons (.for (.one 7) (.one itemsOf (.pv (rngV (.int 0)) 4)) (.cons (.asg .v 8 (.pn tupN (.cons (.cst (.int 0)) (.cons (.cst (.int 0)) (.cons (.cst (.int 0)) (.cons (.cst (.int 0)) (.cons (.dct .nil .nil) .nil))))))) (.cons (.for (.one 9) (.one itemsOf (.pv (rngV (.int 0)) 4)) (.cons (.asg .v 10 (.p1 sumV (.lcomp (.pe subV 5 (.var 1)) (.cons (.one 1) (.one itemsOf (.p1 (rngV (.int 0)) (.pv lenV 5))) (.cons (.p2 (cmpV .Eq) (.pe subV 4 (.p2 (binV .Add) (.var 2) (.var 1))) (.var 3)) .nil) .nil) [(2, 9), (3, 7), (4, 2), (5, 5)] 6))) (.cons (.asg .v 8 (.call 0 (.cons (.var 8) (.cons (.call 15 (.cons (.pe subV 0 (.var 9)) (.cons (.var 10) .nil))) .nil)))) .nil))) (.cons (.append 6 (.var 8)) .nil)))) (.cons (.ret (.var 6)) .nil))))⟩
noncomputable def fn18 : Fn := ⟨[0, 1, 2, 3, 4], 17, .cons (.asg .v 5 (.pv lenV 1)) (.cons (.asg .v 6 (.call 5 (.cons (.p2 (binV .Pow) (.call 6 (.cons (.p2 (binV .Mult) (.pn lstN (.cons (.cst (.int 1)) .nil)) (.var 3)) (.cons (.var 4) .nil))) (.p2 (binV .Add) (.var 5) (.cst (.int 1)))) (.cons (.var 4) .nil)))) (.cons (.ite (.p2 (cmpV .NotEq) (.lcomp (.p2 cutTo (.var 1) (.cst (.int 4))) (.cons (.one 1) (.one itemsOf (.var 0)) .nil .nil) [] 2) (.call 12 (.cons (.var 1) (.cons (.var 2) (.cons (.var 3) .nil))))) (.cons (.ret (.cst (.bool false))) .nil) .nil) (.cons (.for (.one 7) (.one itemsOf (.pv (rngV (.int 0)) 5)) (.cons (.asg .o 8 (.lcomp (.ite (.p2 (cmpV .Gt) (.p2 (binV .Mult) (.var 2) (.p2 (binV .Add) (.var 5) (.cst (.int 1)))) (.var 1)) (.p2 subV (.p2 (binV .Add) (.var 4) (.p2 (binV .Mult) (.pn lstN (.cons (.cst (.int 0)) .nil)) (.var 3))) (.p2 (binV .Sub) (.p2 (binV .Sub) (.p2 (binV .Mult) (.var 2) (.p2 (binV .Add) (.var 5) (.cst (.int 1)))) (.cst (.int 1))) (.var 1))) (.cst (.int 0))) (.cons (.one 1) (.one itemsOf (.pv (rngV (.int 0)) 5)) .nil .nil) [(2, 3), (3, 5), (4, 6), (5, 7)] 6)) (.cons (.ite (.p2 (cmpV .NotEq) (.p1 listItems (.p2 subV (.pe subV 0 (.var 7)) (.cst (.int 4)))) (.lcomp (.pn tupN (.cons (.var 1) (.cons (.call 13 (.cons (.var 1) (.cons (.pe subV 4 (.var 1)) (.cons (.var 3) .nil)))) .nil))) (.cons (.one 1) (.one itemsOf (.pv (rngV (.int 0)) 5)) .nil .nil) [(3, 2), (4, 8)] 5)) (.cons (.ret (.cst (.bool false))) .nil) .nil) .nil))) (.cons (.asg .o 9 (.lcomp (.call 2 (.cons (.dcomp (.var 1) (.call 14 (.cons (.p2 subV (.pe subV 3 (.cst (.int 4))) (.var 1)) .nil)) (.cons (.one 1) (.one itemsOf (.pe subV 1 (.cst (.int 4)))) .nil .nil) [(3, 1)] 4) .nil)) (.cons (.one 1) (.one itemsOf (.var 0)) .nil .nil) [] 3)) (.cons (.ret (.p2 (cmpV .Eq) (.pv sumV 9) (.p2 (binV .Mult) (.var 5) (.p2 (binV .Pow) (.var 3) (.var 5))))) .nil)))))⟩
noncomputable def fn19 : Fn := ⟨[0], 23, .cons (.asg .v 1 (.call 9 (.cons (.var 0) (.cons (.cst (.int 0)) (.cons (.pn lstN (.cons (.cst (.int 1)) (.cons (.cst (.int 0)) (.cons (.cst (.int 1)) (.cons (.cst (.int 47)) (.cons (.cst (.int 0)) .nil)))))) .nil))))) (.cons (.asg .v 2 (.call 9 (.cons (.var 0) (.cons (.cst (.int 5)) (.cons (.pn lstN (.cons (.cst (.int 1)) (.cons (.p1 negV (.cst (.int 2))) (.cons (.cst (.int 3)) (.cons (.cst (.int 5)) .nil))))) .nil))))) (.cons (.asg .v 3 (.p2 (binV .Add) (.cst (.int 2)) (.p2 (binV .Mod) (.pe subV 1 (.cst (.int 0))) (.cst (.int 3))))) (.cons (.asg .v 4 (.p2 (binV .Add) (.cst (.int 2)) (.p2 (binV .Mod) (.pe subV 1 (.cst (.int 1))) (.cst (.int 3))))) (.cons (.asg .v 5 (.p2 (binV .Add) (.cst (.int 2)) (.p2 (binV .Mod) (.pe subV 1 (.cst (.int 2))) (.cst (.int 2))))) (.cons (.asg .v 6 (.p2 (binV .Sub) (.p2 (binV .Mod) (.pe subV 1 (.cst (.int 3))) (.cst (.int 101))) (.cst (.int 50)))) (.cons (.asg .v 7 (.ite (.p2 (cmpV .Eq) (.p2 (binV .Mod) (.pe subV 1 (.cst (.int 4))) (.cst (.int 2))) (.cst (.int 1))) (.p1 negV (.cst (.int 1))) (.cst (.int 1)))) (.cons (.asg .v 8 (.p2 (binV .Add) (.cst (.int 16)) (.p2 (binV .Mod) (.p2 (binV .FloorDiv) (.pe subV 1 (.cst (.int 4))) (.cst (.int 2))) (.cst (.int 50))))) (.cons (.asg .v 9 (.call 11 (.cons (.var 3) .nil))) (.cons (.asg .v 10 (.call 12 (.cons (.var 9) (.cons (.var 2) (.cons (.cst (.int 1)) .nil))))) (.cons (.asg .o 11 (.lcomp (.p2 (binV .Add) (.pe subV 3 (.var 1)) (.pn tupN (.cons (.dct (.cons (.var 1) .nil) (.cons (.call 13 (.cons (.var 1) (.cons (.cst (.int 1)) (.cons (.var 4) .nil)))) .nil)) .nil))) (.cons (.one 1) (.one itemsOf (.pv (rngV (.int 0)) 3)) .nil .nil) [(3, 10), (4, 2)] 5)) (.cons (.asg .o 12 (.lcomp (.call 16 (.cons (.var 3) (.cons (.var 1) (.cons (.var 4) (.cons (.var 5) .nil))))) (.cons (.one 1) (.one itemsOf (.pn tupN (.cons (.var 4) (.cons (.var 5) (.cons (.p2 (binV .Mult) (.var 4) (.var 5)) .nil))))) .nil .nil) [(3, 3), (4, 6), (5, 7)] 6)) (.cons (.asg .o 13 (.lcomp (.lcomp (.p2 (binV .Sub) (.pe subV 1 (.cst (.int 0))) (.var 2)) (.cons (.one 1) (.one itemsOf (.var 1)) .nil .nil) [(2, 2)] 3) (.cons (.one 1) (.one itemsOf (.var 12)) .nil .nil) [(2, 6)] 3)) (.cons (.asg .v 14 (.call 17 (.cons (.var 11) (.cons (.var 4) (.cons (.pe subV 13 (.cst (.int 0))) (.cons (.var 8) .nil)))))) (.cons (.asg .v 15 (.call 17 (.cons (.var 14) (.cons (.var 5) (.cons (.pe subV 13 (.cst (.int 1))) (.cons (.var 8) .nil)))))) (.cons (.ite (.or (.p1 notV (.call 18 (.cons (.var 14) (.cons (.var 9) (.cons (.var 2) (.cons (.var 4) (.cons (.var 8) .nil))))))) (.p1 notV (.call 18 (.cons (.var 15) (.cons (.var 9) (.cons (.var 2) (.cons (.p2 (binV .Mult) (.var 4) (.var 5)) (.cons (.var 8) .nil)))))))) (.cons (.ret (.cst (.bool false))) .nil) .nil) (.cons (.ite (.p2 (cmpV .NotEq) (.call 17 (.cons (.var 11) (.cons (.p2 (binV .Mult) (.var 4) (.var 5)) (.cons (.pe subV 13 (.cst (.int 2))) (.cons (.var 8) .nil))))) (.var 15)) (.cons (.ret (.cst (.bool false))) .nil) .nil) (.cons (.asg .v 16 (.p2 (binV .Mult) (.var 4) (.var 5))) (.cons (.ret (.p2 (cmpV .Eq) (.pe subV 12 (.cst (.int 2))) (.lcomp (.pn tupN (.cons (.p2 (binV .Add) (.p2 (binV .FloorDiv) (.var 1) (.var 2)) (.var 3)) (.cons (.p2 (binV .Mult) (.var 4) (.p2 (binV .Mod) (.var 1) (.var 2))) .nil))) (.cons (.one 1) (.one itemsOf (.p1 (rngV (.int 0)) (.p2 (binV .Mult) (.var 3) (.var 16)))) .nil .nil) [(2, 16), (3, 6), (4, 7)] 5))) .nil))))))))))))))))))⟩
noncomputable def p2 : Prog := ⟨[fn0, fn1, fn2, fn3, fn4, fn5, fn6, fn7, fn8, fn9, fn10, fn11, fn12, fn13, fn14, fn15, fn16, fn17, fn18, fn19], [nn0, nn1]⟩
structure Sh (p : Prog) : Prop where
  f0 : p.fns[0]? = some fn0
  f1 : p.fns[1]? = some fn1
  f2 : p.fns[2]? = some fn2
  f3 : p.fns[3]? = some fn3
  f5 : p.fns[5]? = some fn5
  f6 : p.fns[6]? = some fn6
  f7 : p.fns[7]? = some fn7
  f8 : p.fns[8]? = some fn8
  f9 : p.fns[9]? = some fn9
  n0 : p.nested[0]? = some nn0
  n1 : p.nested[1]? = some nn1
section
variable {c : Cx} {m : Fr} {e a b t : E} {es : Es} {f : V → Option V} {f2 : V → V → Option V} {fl : List V → Option V} {i j n : Nat} {v : V}
theorem xv_bad : ev c m .bad = none := rfl
theorem xv_cst : ev c m (.cst v) = some v := rfl
theorem xv_var : ev c m (.var i) = (m.at i).bind Slot.view := rfl
theorem xv_p1 : ev c m (.p1 f e) = (ev c m e).bind f := rfl
theorem xv_pv : ev c m (.pv f i) = ((m.at i).bind Slot.view).bind f := rfl
theorem xv_p2 : ev c m (.p2 f2 a b) = (ev c m a).bind fun x => (ev c m b).bind (f2 x) := rfl
theorem xv_pe : ev c m (.pe f2 i b) = ((m.at i).bind Slot.view).bind fun x => (ev c m b).bind (f2 x) := rfl
theorem xv_pn : ev c m (.pn fl es) = (evs c m es).bind fl := rfl
theorem xv_dct {ks vs : Es} : ev c m (.dct ks vs) = (evs c m ks).bind fun kv => (evs c m vs).bind fun vv => (keysOf kv).map fun ks => .dict c.gen (dsets ks vv) := rfl
theorem xv_ite : ev c m (.ite t a b) = (ev c m t).bind fun v => (truth v).bind fun z => bif z then ev c m a else ev c m b := rfl
theorem xv_or : ev c m (.or a b) = (ev c m a).bind fun v => (truth v).bind fun z => bif z then some (.bool true) else (ev c m b).bind fun u => (truth u).map .bool := rfl
theorem xv_call : ev c m (.call i es) = (evs c m es).bind (c.call i) := rfl
theorem xv_clo {x : Nat} {cap : List (Nat × Nat)} : ev c m (.clo x i es cap n) = (m.at x).bind fun sl => bif isClo i sl then (evs c m es).bind fun vs => (c.clo i vs (m.capture (· == i) cap n)).map (·.1) else none := rfl
theorem evs_nil : evs c m .nil = some [] := rfl
theorem evs_cons : evs c m (.cons e es) = (ev c m e).bind fun v => (evs c m es).map (v :: ·) := rfl
theorem evA_nil : evAnd c m .nil = some true := rfl
theorem evA_cons : evAnd c m (.cons e es) = (ev c m e).bind fun v => (truth v).bind fun z => bif z then evAnd c m es else some false := rfl
theorem evI_one {f : V → Option (List V)} : evIt c m (.one f e) = (ev c m e).bind f := rfl
theorem evI_two {f : V → V → Option (List V)} : evIt c m (.two f a b) = (ev c m a).bind fun x => (ev c m b).bind (f x) := rfl
theorem ex_asg {k : Mk} : ex c (.asg k i e) m = (ev c (m.frz e) e).map fun v => (.next, (m.frz e).set i (some (slotOf k v))) := rfl
theorem ex_asgT {xs : List Nat} : ex c (.asgT xs e) m = (ev c (m.frz e) e).bind fun v => ((m.frz e).bind (.many xs) v).map fun q => (.next, q) := rfl
theorem ex_asgS : ex c (.asgS i a e) m = (ev c ((m.frz e).frz a) e).bind fun v => (ev c ((m.frz e).frz a) a).bind fun k => (storeAt ((m.frz e).frz a) i k v).map fun q => (.next, q) := rfl
theorem ex_app : ex c (.append i e) m = (ev c (m.frz e) e).bind fun v => ((m.frz e).at i).bind fun s => (pushS v s).map fun s => (.next, (m.frz e).set i (some s)) := rfl
theorem ex_rev : ex c (.reverse i) m = (m.at i).bind fun s => (revS s).map fun s => (.next, m.set i (some s)) := rfl
theorem ex_cloS {cap : List (Nat × Nat)} : ex c (.cloS i j es cap n) m = ((m.frzs es).at i).bind fun sl => bif isClo j sl then (evs c (m.frzs es) es).bind fun vs => (c.clo j vs ((m.frzs es).capture (· == j) cap n)).bind fun r => (capBack r.2 (m.frzs es) cap).map fun q => (.next, q) else none := rfl
theorem ex_ite {x y : Ss} : ex c (.ite t x y) m = (ev c (m.frz t) t).bind fun v => (truth v).bind fun z => bif z then exs c x (m.frz t) else exs c y (m.frz t) := rfl
theorem ex_ret : ex c (.ret e) m = (ev c (m.frz e) e).map fun v => (.ret v, m.frz e) := rfl
theorem ex_retN : ex c .retN m = some (.ret .none, m) := rfl
theorem ex_defn : ex c (.defn i j) m = some (.next, m.set i (some (.clo j))) := rfl
theorem exs_nil : exs c .nil m = some (.next, m) := rfl
theorem exs_cons {s : S} {r : Ss} : exs c (.cons s r) m = (ex c s m).bind (flK (exs c r)) := rfl
theorem flK_next {f : Fr → Option (Fl × Fr)} : flK f (.next, m) = f m := rfl
theorem flK_ret {f : Fr → Option (Fl × Fr)} : flK f (.ret v, m) = some (.ret v, m) := rfl
theorem frz_def : m.frz e = frzAt (esc e) 0 m := rfl
theorem frzs_def : m.frzs es = frzAt (escs es) 0 m := rfl
theorem frzIt_def {t : It} : m.frzIt t = frzAt (escIt t) 0 m := rfl
theorem esc_bad : esc .bad = [] := rfl
theorem esc_cst : esc (.cst v) = [] := rfl
theorem esc_var : esc (.var i) = [i] := rfl
theorem esc_p1 : esc (.p1 f e) = esc e := rfl
theorem esc_pv : esc (.pv f i) = [] := rfl
theorem esc_p2 : esc (.p2 f2 a b) = esc a ++ esc b := rfl
theorem esc_pe : esc (.pe f2 i b) = esc b := rfl
theorem esc_pn : esc (.pn fl es) = escs es := rfl
theorem esc_dct {ks vs : Es} : esc (.dct ks vs) = escs ks ++ escs vs := rfl
theorem esc_ite : esc (.ite t a b) = esc t ++ (esc a ++ esc b) := rfl
theorem esc_or : esc (.or a b) = esc a ++ esc b := rfl
theorem esc_call : esc (.call i es) = escs es := rfl
theorem esc_clo {x : Nat} {cap : List (Nat × Nat)} : esc (.clo x i es cap n) = escs es ++ cap.map (·.2) := rfl
theorem esc_lc {gs : Gs} {cap : List (Nat × Nat)} : esc (.lcomp e gs cap n) = escG gs ++ cap.map (·.2) := rfl
theorem esc_dc {gs : Gs} {cap : List (Nat × Nat)} : esc (.dcomp a b gs cap n) = escG gs ++ cap.map (·.2) := rfl
theorem escs_nil : escs .nil = [] := rfl
theorem escs_cons : escs (.cons e es) = esc e ++ escs es := rfl
theorem escI_one {f : V → Option (List V)} : escIt (.one f e) = esc e := rfl
theorem escI_two {f : V → V → Option (List V)} : escIt (.two f a b) = esc a ++ esc b := rfl
theorem escG_nil : escG .nil = [] := rfl
theorem escG_cons {t : Tg} {it : It} {ifs : Es} {r : Gs} : escG (.cons t it ifs r) = escIt it := rfl
end
section
variable {l : List Nat} {i j k q n : Nat} {r m : Fr} {s : Slot} {x y : Option Slot} {v u w z o p : V} {xs ys : List V} {g : Nat} {es : List (K × V)} {f : Nat → Bool}
theorem fz_nil : frzAt l i [] = [] := rfl
theorem fz_none : frzAt l i (none :: r) = none :: frzAt l (i + 1) r := rfl
theorem fz_v : frzAt l i (some (.v v) :: r) = some (.v v) :: frzAt l (i + 1) r := rfl
theorem fz_clo : frzAt l i (some (.clo j) :: r) = some (.clo j) :: frzAt l (i + 1) r := rfl
theorem fz_ol : frzAt l i (some (.ol xs) :: r) = some (bif l.contains i then .v (.list xs) else .ol xs) :: frzAt l (i + 1) r := rfl
theorem fz_od : frzAt l i (some (.od g es) :: r) = some (bif l.contains i then .v (.dict g es) else .od g es) :: frzAt l (i + 1) r := rfl
theorem cn_nil : ([] : List Nat).contains i = false := rfl
theorem cn_cons : (j :: l).contains i = (i == j || l.contains i) := rfl
theorem at_z : Fr.at (x :: r) 0 = x := rfl
theorem at_s : Fr.at (x :: r) (n + 1) = Fr.at r n := rfl
theorem st_z : (x :: r).set 0 y = y :: r := rfl
theorem st_s : (x :: r).set (n + 1) y = x :: r.set n y := rfl
theorem args_1 : Fr.args m [i] [v] = some (m.set i (some (.v v))) := rfl
theorem args_2 : Fr.args m [i, j] [v, u] = some ((m.set i (some (.v v))).set j (some (.v u))) := rfl
theorem args_3 : Fr.args m [i, j, k] [v, u, w] = some (((m.set i (some (.v v))).set j (some (.v u))).set k (some (.v w))) := rfl
theorem args_4 : Fr.args m [i, j, k, q] [v, u, w, z] = some ((((m.set i (some (.v v))).set j (some (.v u))).set k (some (.v w))).set q (some (.v z))) := rfl
theorem args_5 : Fr.args m [i, j, k, q, n] [v, u, w, z, o] = some (((((m.set i (some (.v v))).set j (some (.v u))).set k (some (.v w))).set q (some (.v z))).set n (some (.v o))) := rfl
theorem args_6 {n' : Nat} : Fr.args m [i, j, k, q, n, n'] [v, u, w, z, o, p] = some ((((((m.set i (some (.v v))).set j (some (.v u))).set k (some (.v w))).set q (some (.v z))).set n (some (.v o))).set n' (some (.v p))) := rfl
theorem bind_1 : Fr.bind m (.one i) v = some (m.set i (some (.v v))) := rfl
theorem bind_2 : Fr.bind m (.many [i, j]) (.tup [v, u]) = some ((m.set i (some (.v v))).set j (some (.v u))) := rfl
theorem bind_3 : Fr.bind m (.many [i, j, k]) (.tup [v, u, w]) = some (((m.set i (some (.v v))).set j (some (.v u))).set k (some (.v w))) := rfl
theorem bind_5 : Fr.bind m (.many [i, j, k, q, n]) (.tup [v, u, w, z, o]) = some (((((m.set i (some (.v v))).set j (some (.v u))).set k (some (.v w))).set q (some (.v z))).set n (some (.v o))) := rfl
theorem bindN_1 : Fr.bindN m (.one i) v = bif (m.at i).isNone && true then m.bind (.one i) v else none := rfl
theorem bindN_2 {is : List Nat} : Fr.bindN m (.many is) v = bif is.all (fun i => (m.at i).isNone) then m.bind (.many is) v else none := rfl
theorem cap_def {cap : List (Nat × Nat)} : m.capture f cap n = cap.foldl (fun q p => q.set p.1 (capIn f (m.at p.2))) (List.replicate n none) := rfl
theorem cap_nil : ([] : List (Nat × Nat)).foldl (fun (q : Fr) p => q.set p.1 (capIn f (m.at p.2))) r = r := rfl
theorem cap_cons {cap : List (Nat × Nat)} : ((i, j) :: cap).foldl (fun (q : Fr) p => q.set p.1 (capIn f (m.at p.2))) r = cap.foldl (fun (q : Fr) p => q.set p.1 (capIn f (m.at p.2))) (r.set i (capIn f (m.at j))) := rfl
theorem ci_none : capIn f none = none := rfl
theorem ci_v : capIn f (some (.v v)) = some (.v v) := rfl
theorem ci_ol : capIn f (some (.ol xs)) = some (.ol xs) := rfl
theorem ci_od : capIn f (some (.od g es)) = some (.od g es) := rfl
theorem ci_clo : capIn f (some (.clo i)) = bif f i then some (.clo i) else none := rfl
theorem noF_eq : noF i = false := rfl
theorem isClo_eq : isClo i (.clo j) = (j == i) := rfl
theorem sl_v : slotOf .v v = .v v := rfl
theorem sl_int {i : Int} : slotOf .o (.int i) = .v (.int i) := rfl
theorem sl_bool {b : Bool} : slotOf .o (.bool b) = .v (.bool b) := rfl
theorem sl_tup : slotOf .o (.tup xs) = .v (.tup xs) := rfl
theorem sl_list : slotOf .o (.list xs) = .ol xs := rfl
theorem sl_dict : slotOf .o (.dict g es) = .od g es := rfl
theorem vw_v : Slot.view (.v v) = some v := rfl
theorem vw_ol : Slot.view (.ol xs) = some (.list xs) := rfl
theorem vw_od : Slot.view (.od g es) = some (.dict g es) := rfl
theorem vw_clo : Slot.view (.clo i) = none := rfl
theorem sS_ol {a : Int} : storeS (.int a) v (.ol xs) = (setItem xs a v).map .ol := rfl
theorem sS_od {a : Int} : storeS (.int a) v (.od g es) = if es.length + 1 ≤ big then some (.od g (dset a v es)) else none := rfl
theorem stA_def : storeAt m i u v = (m.at i).bind fun s => (storeS u v s).map fun s => m.set i (some s) := rfl
theorem push_ol : pushS v (.ol xs) = if xs.length + 1 ≤ big then some (.ol (xs ++ [v])) else none := rfl
theorem rev_ol : revS (.ol xs) = some (.ol xs.reverse) := rfl
theorem val_ret : Fl.val (.ret v) = v := rfl
theorem val_next : Fl.val .next = .none := rfl
theorem kv_int {a : Int} : keyV (.int a) = some a := rfl
theorem vk_eq {a : K} : vKey a = .int a := rfl
theorem ks_nil : keysOf [] = some [] := rfl
theorem ks_cons : keysOf (v :: xs) = (keyV v).bind fun k => (keysOf xs).map (k :: ·) := rfl
theorem cb_nil : capBack m r [] = some r := rfl
theorem cb_cons {cap : List (Nat × Nat)} : capBack m r ((i, j) :: cap) = (capBack m r cap).bind fun q => backIn m q (i, j) (r.at j) := rfl
theorem bk_ol : backIn m r (i, j) (some (.ol xs)) = match m.at i with | some (.ol xs) => some (r.set j (some (.ol xs))) | _ => none := rfl
theorem bk_v : backIn m r (i, j) (some (.v v)) = some r := rfl
theorem bk_none : backIn m r (i, j) none = some r := rfl
theorem bk_clo : backIn m r (i, j) (some (.clo k)) = some r := rfl
end
section
variable {b : Bool} {α : Type} {x y : α}
theorem mp_nil {β : Type} {f : α → β} : [].map f = [] := rfl
theorem mp_cons {β : Type} {f : α → β} {l : List α} : (x :: l).map f = f x :: l.map f := rfl
theorem ap_nil {l : List α} : [] ++ l = l := rfl
theorem ap_cons {l r : List α} : (x :: l) ++ r = x :: (l ++ r) := rfl
theorem al_nil {f : α → Bool} : [].all f = true := rfl
theorem al_cons {f : α → Bool} {l : List α} : (x :: l).all f = (f x && l.all f) := rfl
theorem or_f : (false || b) = b := rfl
theorem or_t : (true || b) = true := rfl
theorem an_f : (false && b) = false := rfl
theorem an_t : (true && b) = b := rfl
theorem nt_t : (!true) = false := rfl
theorem nt_f : (!false) = true := rfl
theorem cd_t : (bif true then x else y) = x := rfl
theorem cd_f : (bif false then x else y) = y := rfl
end
noncomputable def oS (x : Option V) : Option Slot := x.map .v
theorem oS_some {v : V} : oS (some v) = some (.v v) := rfl
theorem oS_none : oS none = none := rfl
theorem fz_oS {x : Option V} {l : List Nat} {i : Nat} {r : Fr} : frzAt l i (oS x :: r) = oS x :: frzAt l (i + 1) r := by
  cases x with
  | none => rfl
  | some v =>
    rfl
theorem fm_map {f : V → Option (List V)} {g : V → List V} {xs : List V} : (∀ x ∈ xs, f x = some (g x)) → fm f xs = some (xs.flatMap g) := by
  induction xs with
  | nil => exact fun _ => rfl
  | cons x r ih =>
    intro h
    unfold fm
    rw [h x (List.mem_cons_self ..), ih fun y hy => h y (List.mem_cons_of_mem _ hy)]
    rfl
theorem fm_mapF {α : Type} {f : V → Option (List V)} {e : α → V} {g : α → List V} {xs : List α} : (∀ x ∈ xs, f (e x) = some (g x)) → fm f (xs.map e) = some (xs.flatMap g) := by
  induction xs with
  | nil => exact fun _ => rfl
  | cons x r ih =>
    intro h
    rw [List.map_cons]
    unfold fm
    rw [h x (List.mem_cons_self ..), ih fun y hy => h y (List.mem_cons_of_mem _ hy)]
    rfl
theorem flat_one {α β : Type} {g : α → β} {xs : List α} : (xs.flatMap fun x => [g x]) = xs.map g := by
  induction xs with
  | nil => rfl
  | cons x r ih => exact congrArg (g x :: ·) ih
theorem forL_run {α σ : Type} {f : V → Fr → Option (Fl × Fr)} {e : α → V} {F : σ → Fr} {step : σ → α → σ} (P : List α → σ → Prop) (h : ∀ x r s, P (x :: r) s → f (e x) (F s) = some (.next, F (step s x)) ∧ P r (step s x)) {xs : List α} : ∀ {s : σ}, P xs s →
    forL f (xs.map e) (F s) = some (.next, F (xs.foldl step s)) ∧ P [] (xs.foldl step s) := by
  induction xs with
  | nil => exact fun hs => ⟨rfl, hs⟩
  | cons x r ih =>
    intro s hs
    obtain ⟨e1, e2⟩ := h x r s hs
    obtain ⟨i1, i2⟩ := ih e2
    refine ⟨?_, i2⟩
    rw [List.map_cons]
    unfold forL
    rw [e1]
    exact i1
theorem forL_fold {α σ : Type} {f : V → Fr → Option (Fl × Fr)} {e : α → V} {F : σ → Fr} {step : σ → α → σ} (P : σ → Prop) {xs : List α} {s : σ} (hs : P s) (h : ∀ x ∈ xs, ∀ s, P s → f (e x) (F s) = some (.next, F (step s x)) ∧ P (step s x)) : forL f (xs.map e) (F s) = some (.next, F (xs.foldl step s)) :=
  (forL_run (fun r s => (∀ x ∈ r, x ∈ xs) ∧ P s) (fun x r s hp => ⟨(h x (hp.1 x (List.mem_cons_self ..)) s hp.2).1, fun y hy => hp.1 y (List.mem_cons_of_mem _ hy), (h x (hp.1 x (List.mem_cons_self ..)) s hp.2).2⟩) ⟨fun x hx => hx, hs⟩).1
theorem for_run {α σ : Type} {c : Cx} {t : Tg} {it : It} {body : Ss} {m : Fr} (xs : List α) (e : α → V) (F : σ → Fr) (step : σ → α → σ) (P : List α → σ → Prop) (s : σ) (hit : evIt c (m.frzIt it) it = some (xs.map e)) (hm : m.frzIt it = F s) (hP : P xs s)
    (h : ∀ x r s, P (x :: r) s → ((F s).bind t (e x)).bind (exs c body) = some (.next, F (step s x)) ∧ P r (step s x)) : ex c (.for t it body) m = some (.next, F (xs.foldl step s)) ∧ P [] (xs.foldl step s) := by
  have q := forL_run (f := fun v m => (m.bind t v).bind (exs c body)) P h hP
  refine ⟨?_, q.2⟩
  show (evIt c (m.frzIt it) it).bind (fun xs => forL (fun v m => (m.bind t v).bind (exs c body)) xs (m.frzIt it)) = _
  rw [hit, hm]
  exact q.1
theorem lc_run {α : Type} {c : Cx} {m : Fr} {elt : E} {t : Tg} {it : It} {ifs : Es} {cap : List (Nat × Nat)} {n : Nat} (xs : List α) (e : α → V) (g : α → List V) (hit : evIt c m it = some (xs.map e))
    (h : ∀ x ∈ xs, (((m.capture noF cap n).bindN t (e x)).bind fun m' => (evAnd c m' ifs).bind fun z => bif z then (ev c m' elt).map (fun v => [v]) else some []) = some (g x)) (hl : (xs.flatMap g).length ≤ big) : ev c m (.lcomp elt (.cons t it ifs .nil) cap n) = some (.list (xs.flatMap g)) := by
  show ((evIt c m it).bind (fm _)).bind _ = _
  rw [hit, Option.bind_some, fm_mapF h, Option.bind_some, if_pos hl]
theorem lc_map {α : Type} {c : Cx} {m : Fr} {elt : E} {t : Tg} {it : It} {cap : List (Nat × Nat)} {n : Nat} (xs : List α) (e : α → V) (g : α → V) (hit : evIt c m it = some (xs.map e))
    (h : ∀ x ∈ xs, ((m.capture noF cap n).bindN t (e x)).bind (fun m' => ev c m' elt) = some (g x)) (hl : xs.length ≤ big) : ev c m (.lcomp elt (.cons t it .nil .nil) cap n) = some (.list (xs.map g)) := by
  rw [← flat_one]
  refine lc_run xs e _ hit (fun x hx => ?_) (by rw [flat_one, List.length_map]; exact hl)
  have := h x hx
  cases q : (m.capture noF cap n).bindN t (e x) with
  | none => rw [q] at this; exact nos this
  | some m' =>
    rw [q] at this
    show (ev c m' elt).map _ = _
    rw [show ev c m' elt = some (g x) from this]
    rfl
end Mine
end
section
set_option maxRecDepth 100000
set_option genSizeOf false
set_option genInjectivity false
set_option backward.defeqAttrib.useBackward true
namespace Mine
open PySem
section
variable {a b i : Int} {n : Nat} {xs ys r : List V} {g : Nat} {es : List (K × V)} {x k d e f h : V} {z : Bool}
theorem bi_add : binI .Add a b = some (.int (a + b)) := rfl
theorem bi_sub : binI .Sub a b = some (.int (a - b)) := rfl
theorem bin_ii {o : Operator} : binV o (.int a) (.int b) = binI o a b := rfl
theorem addI_ii : addI (.int a) (.int b) = some (.int (a + b)) := rfl
theorem nn_if (n : Nat) {α : Type} (o : Option α) : (if (0 : Int) ≤ (n : Int) then o else none) = o := if_pos (Int.natCast_nonneg n)
theorem cutF_l : cutFrom (.list xs) (.int n) = some (.list (xs.drop n)) := nn_if n _
theorem cutT_l : cutTo (.list xs) (.int n) = some (.list (xs.take n)) := nn_if n _
theorem cutT_l' (h : 0 ≤ i) : cutTo (.list xs) (.int i) = some (.list (xs.take i.toNat)) := if_pos h
theorem cutF_t : cutFrom (.tup xs) (.int n) = some (.tup (xs.drop n)) := nn_if n _
theorem cutT_t' (h : 0 ≤ i) : cutTo (.tup xs) (.int i) = some (.tup (xs.take i.toNat)) := if_pos h
theorem len_list : lenV (.list xs) = some (.int xs.length) := rfl
theorem len_tup : lenV (.tup xs) = some (.int xs.length) := rfl
theorem ceq : cmpV .Eq (.int a) (.int b) = some (.bool (a == b)) := rfl
theorem cne : cmpV .NotEq (.int a) (.int b) = some (.bool (!(a == b))) := rfl
theorem clt : cmpV .Lt (.int a) (.int b) = some (.bool (decide (a < b))) := rfl
theorem cle : cmpV .LtE (.int a) (.int b) = some (.bool (decide (a ≤ b))) := rfl
theorem cgt : cmpV .Gt (.int a) (.int b) = some (.bool (decide (b < a))) := rfl
theorem cge : cmpV .GtE (.int a) (.int b) = some (.bool (decide (b ≤ a))) := rfl
theorem tr_int : truth (.int a) = some (a != 0) := rfl
theorem tr_bool' : truth (.bool z) = some z := rfl
theorem tr_list : truth (.list xs) = some (!xs.isEmpty) := rfl
theorem not_bool : notV (.bool z) = some (.bool (!z)) := rfl
theorem neg_int : negV (.int a) = some (.int (-a)) := rfl
theorem inv_int : invV (.int a) = some (.int (-a - 1)) := rfl
theorem bl_int : bitlenV (.int a) = some (.int (bits a)) := rfl
theorem tup_list : tupV (.list xs) = some (.tup xs) := rfl
theorem tupN_eq : tupN xs = some (.tup xs) := rfl
theorem lstN_eq : lstN xs = some (.list xs) := rfl
theorem isT_tup : isTupV (.tup xs) = some (.bool true) := rfl
theorem isT_int : isTupV (.int a) = some (.bool false) := rfl
theorem sub_list : subV (.list xs) (.int n) = xs[n]? := nn_if n _
theorem sub_tup : subV (.tup xs) (.int n) = xs[n]? := nn_if n _
theorem sub_dict : subV (.dict g es) k = (keyV k).bind fun q => dget q es := rfl
theorem rng1_int : rngV (.int 0) (.int b) = some (.rng 0 b) := rfl
theorem rng2_int : rngV (.int a) (.int b) = some (.rng a b) := rfl
theorem itm_list : itemsOf (.list xs) = some xs := rfl
theorem itm_tup : itemsOf (.tup xs) = some xs := rfl
theorem itm_dict : itemsOf (.dict g es) = some (es.map fun p => vKey p.1) := rfl
theorem prs_dict : pairsV (.dict g es) = some (es.map fun p => .tup [vKey p.1, p.2]) := rfl
theorem vls_dict : valuesV (.dict g es) = some (es.map (·.2)) := rfl
theorem rev_list : revV (.list xs) = some xs.reverse := rfl
theorem zip_ll : zipV (.list xs) (.list ys) = some (zipL xs ys) := rfl
theorem li_dict : listItems (.dict g es) = some (.list (es.map fun p => .tup [vKey p.1, p.2])) := rfl
theorem sub_t0 : subV (.tup (d :: r)) (.int 0) = some d := rfl
theorem sub_t1 : subV (.tup (d :: e :: r)) (.int 1) = some e := rfl
theorem sub_t2 : subV (.tup (d :: e :: f :: r)) (.int 2) = some f := rfl
theorem sub_t3 : subV (.tup (d :: e :: f :: h :: r)) (.int 3) = some h := rfl
theorem sub_t4 : subV (.tup (d :: e :: f :: h :: x :: r)) (.int 4) = some x := rfl
theorem sub_l0 : subV (.list (d :: r)) (.int 0) = some d := rfl
theorem sub_l1 : subV (.list (d :: e :: r)) (.int 1) = some e := rfl
theorem sub_l2 : subV (.list (d :: e :: f :: r)) (.int 2) = some f := rfl
theorem sub_l3 : subV (.list (d :: e :: f :: h :: r)) (.int 3) = some h := rfl
theorem sub_l4 : subV (.list (d :: e :: f :: h :: x :: r)) (.int 4) = some x := rfl
end
theorem bits_le {a : Int} {n : Nat} (h : a.natAbs < 2 ^ n) : bits a ≤ n := by
  unfold bits
  split
  · exact Nat.zero_le _
  · rename_i h0
    have : a.natAbs ≠ 0 := by omega
    exact (Nat.log2_lt this).mpr h
theorem lt_of_bits {a : Int} {n : Nat} (h : bits a ≤ n) : a.natAbs < 2 ^ n := by
  unfold bits at h
  split at h
  · rename_i e; subst e; exact Nat.two_pow_pos n
  · have : a.natAbs ≠ 0 := by omega
    exact (Nat.log2_lt this).mp h
theorem bits_lt {a : Int} : a.natAbs < 2 ^ bits a := lt_of_bits (Nat.le_refl _)
theorem bits_add {a b : Int} {n : Nat} (h : bits a ≤ n) (h' : bits b ≤ n) : bits (a + b) ≤ n + 1 := bits_le (by
  have := lt_of_bits h; have := lt_of_bits h'
  rw [Nat.pow_succ]; omega)
theorem bits_mul {a b : Int} {m n : Nat} (h : bits a ≤ m) (h' : bits b ≤ n) : bits (a * b) ≤ m + n := bits_le (by
  have h1 := lt_of_bits h; have h2 := lt_of_bits h'
  rw [Int.natAbs_mul, Nat.pow_add]
  exact Nat.mul_lt_mul'' h1 h2)
theorem bits_neg {a : Int} : bits (-a) = bits a := by unfold bits; simp
theorem bits_mono {a b : Int} (h : a.natAbs ≤ b.natAbs) : bits a ≤ bits b := bits_le (Nat.lt_of_le_of_lt h bits_lt)
theorem mul_ok {a b : Int} (h : bits a + bits b ≤ big) : binI .Mult a b = some (.int (a * b)) := if_pos h
theorem shr_ok {a : Int} {n : Nat} : binI .RShift a n = some (.int (a.fdiv (2 ^ n))) := nn_if n _
theorem shl_ok {a : Int} {n : Nat} (h : bits a + n ≤ big) : binI .LShift a n = some (.int (a * 2 ^ n)) := if_pos ⟨Int.natCast_nonneg n, Int.ofNat_le.mpr h⟩
theorem pow_ok {a : Int} {n : Nat} (h : bits a * n ≤ big) : binI .Pow a n = some (.int (a ^ n)) := if_pos ⟨Int.natCast_nonneg n, Int.ofNat_le.mpr h⟩
theorem mod_ok {a b : Int} (h : b ≠ 0) : binI .Mod a b = some (.int (a.fmod b)) := if_neg h
theorem fdiv_ok {a b : Int} (h : b ≠ 0) (h' : b.natAbs < 1073741824) : binI .FloorDiv a b = some (.int (a.fdiv b)) := if_neg fun q => q.elim h (Nat.not_le_of_lt h')
theorem fdiv_nat (a b : Nat) : (a : Int).fdiv b = ((a / b : Nat) : Int) := by simp [Int.fdiv_eq_ediv_of_nonneg]
theorem fmod_nat (a b : Nat) : (a : Int).fmod b = ((a % b : Nat) : Int) := by simp [Int.fmod_eq_emod_of_nonneg]
theorem xor_high (x s : Nat) : Builtin.bitXor x ((x / 2 ^ s : Nat) * 2 ^ s : Int) = ((x % 2 ^ s : Nat) : Int) := by
  have e : ((x / 2 ^ s : Nat) * 2 ^ s : Int) = ((x / 2 ^ s * 2 ^ s : Nat) : Int) := by push_cast; rfl
  rw [e]
  generalize hy : x / 2 ^ s * 2 ^ s = y
  have hle : y ≤ x := by rw [← hy]; exact Nat.div_mul_le_self x _
  have hmod : x = y + x % 2 ^ s := by rw [← hy, Nat.mul_comm]; exact (Nat.div_add_mod x _).symm
  have hand : x &&& y = y := by
    apply Nat.eq_of_testBit_eq
    intro i
    rw [Nat.testBit_and]
    have ty : y.testBit i = (decide (s ≤ i) && x.testBit i) := by
      rw [← hy, ← Nat.shiftLeft_eq, Nat.testBit_shiftLeft, Nat.testBit_div_two_pow]
      by_cases h : s ≤ i
      · simp [h, Nat.sub_add_cancel h]
      · simp [h]
    rw [ty]
    cases x.testBit i <;> simp
  have hor : x ||| y = x := by
    apply Nat.eq_of_testBit_eq
    intro i
    have := congrArg (fun z => Nat.testBit z i) hand
    simp only [Nat.testBit_and] at this
    rw [Nat.testBit_or, ← this]
    cases x.testBit i <;> simp
  have n1 : ¬ (0 ≤ Builtin.bitNot (x : Int)) := by unfold Builtin.bitNot; omega
  have n2 : ¬ (0 ≤ Builtin.bitNot (y : Int)) := by unfold Builtin.bitNot; omega
  have b1 : (Builtin.bitNot (Builtin.bitNot (x : Int))).toNat = x := by unfold Builtin.bitNot; omega
  have b2 : (Builtin.bitNot (Builtin.bitNot (y : Int))).toNat = y := by unfold Builtin.bitNot; omega
  have o : Builtin.bitOr (x : Int) (y : Int) = ((x ||| y : Nat) : Int) := by
    unfold Builtin.bitOr Builtin.bitAnd
    simp only [n1, n2, decide_false, b1, b2]
    unfold Builtin.bitNot; omega
  have a : Builtin.bitAnd (x : Int) (y : Int) = ((x &&& y : Nat) : Int) := by
    unfold Builtin.bitAnd
    simp
  unfold Builtin.bitXor
  rw [o, a, hand, hor]
  omega
theorem itm_rng {n : Nat} (h : n ≤ big) : itemsOf (.rng 0 n) = some ((List.range n).map fun (k : Nat) => V.int (k : Int)) := by
  have e : rngList 0 n = (List.range n).map fun (k : Nat) => V.int (k : Int) := by
    unfold rngList
    rw [Int.sub_zero, Int.toNat_natCast]
    exact congrArg (fun f => (List.range n).map f) (funext fun k => congrArg V.int (Int.zero_add _))
  refine (if_pos ⟨?_, Nat.zero_le _, h⟩).trans (congrArg some e)
  rw [Int.sub_zero]
  exact Int.ofNat_le.mpr h
theorem cat_ok {xs ys : List V} (h : xs.length + ys.length ≤ big) : catS xs ys = some (xs ++ ys) := if_pos h
theorem tup_add {xs ys : List V} (h : xs.length + ys.length ≤ big) : binV .Add (.tup xs) (.tup ys) = some (.tup (xs ++ ys)) := congrArg (Option.map V.tup) (cat_ok h)
theorem list_add {xs ys : List V} (h : xs.length + ys.length ≤ big) : binV .Add (.list xs) (.list ys) = some (.list (xs ++ ys)) := congrArg (Option.map V.list) (cat_ok h)
theorem rep_ok {x : V} {n : Nat} (h : n ≤ big) : binV .Mult (.list [x]) (.int n) = some (.list (List.replicate n x)) :=
  congrArg (Option.map V.list) (if_pos ⟨Int.ofNat_le.mpr h, Int.le_trans (Int.neg_nonpos_of_nonneg (Int.natCast_nonneg _)) (Int.natCast_nonneg _)⟩)
local macro_rules | `(tactic| walk_at "EV") => `(tactic| dsimp only [xv_bad, xv_cst, xv_var, xv_p1, xv_pv, xv_p2, xv_pe, xv_pn, xv_dct, xv_ite, xv_or, xv_call, xv_clo, evs_nil, evs_cons, evA_nil, evA_cons, evI_one, evI_two, ex_asg, ex_asgT, ex_asgS, ex_app, ex_rev, ex_cloS, ex_ite, ex_ret, ex_retN, ex_defn, exs_nil, exs_cons, flK_next, flK_ret, frz_def, frzs_def, frzIt_def, esc_bad, esc_cst, esc_var, esc_p1, esc_pv, esc_p2, esc_pe, esc_pn, esc_dct, esc_ite, esc_or, esc_call, esc_clo, esc_lc, esc_dc, escs_nil, escs_cons, escI_one, escI_two, escG_nil, escG_cons, fz_nil, fz_none, fz_v, fz_clo, fz_ol, fz_od, at_z, at_s, st_z, st_s, List.replicate_zero, List.replicate_succ, args_1, args_2, args_3, args_4, args_5, args_6, bind_1, bind_2, bind_3, bind_5, bindN_1, bindN_2, al_nil, al_cons, cap_nil, cap_cons, cap_def, ci_none, ci_v, ci_ol, ci_od, ci_clo, noF_eq, isClo_eq, sl_v, sl_int, sl_bool, sl_tup, sl_list, sl_dict, vw_v, vw_ol, vw_od, vw_clo, sS_ol, sS_od, stA_def, push_ol, rev_ol, Option.bind_some, Option.bind_none, Option.map_some, cn_nil, cn_cons, Nat.reduceBEq, or_f, or_t, an_f, an_t, nt_t, nt_f, cd_t, cd_f, Nat.reduceAdd, mp_nil, mp_cons, ap_nil, ap_cons, Option.isNone_none, Option.isNone_some, val_ret, val_next, bi_add, bi_sub, bin_ii, addI_ii, len_list, len_tup, ceq, cne, clt, cle, cgt, cge, tr_int, tr_bool', tr_list, not_bool, neg_int, inv_int, bl_int, tup_list, tupN_eq, lstN_eq, isT_tup, isT_int, sub_dict, sub_t0, sub_t1, sub_t2, sub_t3, sub_t4, sub_l0, sub_l1, sub_l2, sub_l3, sub_l4, rng1_int, rng2_int, itm_list, itm_tup, itm_dict, prs_dict, vls_dict, rev_list, zip_ll, li_dict, Int.reduceLE, Int.reduceLT, Int.reduceToNat, Int.reduceAdd, Int.reduceSub, Int.reduceMul, Int.reduceNeg, Int.reduceBEq, Int.reduceBNe, kv_int, vk_eq, ks_nil, ks_cons, cb_nil, cb_cons, bk_ol, bk_v, bk_none, bk_clo])
section
variable {p : Prog} {g k : Nat}
theorem run_call {f : Nat} {vs : List V} : (run p g (k + 1)).call f vs = (p.fns[f]?).bind fun fn => (Fr.args (List.replicate fn.n none) fn.params vs).bind fun m => (exs (run p g k) fn.body m).map fun r => r.1.val := rfl
theorem run_clo {f : Nat} {vs : List V} {m : Fr} : (run p g (k + 1)).clo f vs m = (p.nested[f]?).bind fun fn => (Fr.args m fn.params vs).bind fun m => (exs (run p g k) fn.body m).map fun r => (r.1.val, r.2) := rfl
theorem mb {α β γ : Type} {o : Option α} {a : α} {q : α → Option β} {f : β → γ} {r : Option γ} (h : o = some a) (e : Option.map f (q a) = r) : Option.map f (o.bind q) = r := h ▸ e
theorem mfor {α σ γ : Type} {c : Cx} {t : Tg} {it : It} {body : Ss} {m : Fr} {f : Fl × Fr → γ} {q : Fl × Fr → Option (Fl × Fr)} {r : Option γ} (xs : List α) (e : α → V) (F : σ → Fr) (step : σ → α → σ) (P : List α → σ → Prop) (s : σ) (hit : evIt c (m.frzIt it) it = some (xs.map e)) (hm : m.frzIt it = F s) (hP : P xs s)
    (h : ∀ x r s, P (x :: r) s → ((F s).bind t (e x)).bind (exs c body) = some (.next, F (step s x)) ∧ P r (step s x)) (k : P [] (xs.foldl step s) → Option.map f (q (.next, F (xs.foldl step s))) = r) : Option.map f ((ex c (.for t it body) m).bind q) = r :=
  have z := for_run xs e F step P s hit hm hP h
  mb z.1 (k z.2)
theorem bb {α β : Type} {o : Option α} {a : α} {q : α → Option β} {r : Option β} (h : o = some a) (e : q a = r) : o.bind q = r := h ▸ e
theorem bfor {α σ : Type} {c : Cx} {t : Tg} {it : It} {body : Ss} {m : Fr} {q : Fl × Fr → Option (Fl × Fr)} {r : Option (Fl × Fr)} (xs : List α) (e : α → V) (F : σ → Fr) (step : σ → α → σ) (P : List α → σ → Prop) (s : σ) (hit : evIt c (m.frzIt it) it = some (xs.map e)) (hm : m.frzIt it = F s) (hP : P xs s)
    (h : ∀ x r s, P (x :: r) s → ((F s).bind t (e x)).bind (exs c body) = some (.next, F (step s x)) ∧ P r (step s x)) (k : P [] (xs.foldl step s) → q (.next, F (xs.foldl step s)) = r) : (ex c (.for t it body) m).bind q = r :=
  have z := for_run xs e F step P s hit hm hP h
  bb z.1 (k z.2)
theorem stepE {γ : Type} {c : Cx} {x : S} {r : Ss} {m m' : Fr} {f : Fl × Fr → γ} {v : Option γ} (h : ex c x m = some (.next, m')) (e : Option.map f (exs c r m') = v) : Option.map f (exs c (.cons x r) m) = v := mb h e
theorem filled_ok (h : Sh p) {xs sp : List V} {n : Nat} (hl : xs.length ≤ 1000) (hs : sp.length ≤ 1000) :
    (run p g (k + 1)).call 9 [.list xs, .int n, .list sp] = some (.list ((xs.drop n ++ sp.drop (xs.drop n).length).take sp.length)) := by
  have hb : (xs.drop n).length + (sp.drop (xs.drop n).length).length ≤ big := by rw [big_eq]; simp only [List.length_drop]; omega
  rw [run_call, h.f9]
  dsimp only [fn9]
  walk_at "EV"
  rw [cutF_l]
  walk_at "EV"
  rw [cutF_l, Option.bind_some, list_add hb, Option.bind_some, cutT_l]
  rfl
theorem add_ok (h : Sh p) {a b c d a' b' c' d' : Int} {t t' r : V} (hc : (run p g k).call 1 [t, t'] = some r) :
    (run p g (k + 1)).call 0 [.tup [.int a, .int b, .int c, .int d, t], .tup [.int a', .int b', .int c', .int d', t']] = some (.tup [.int (a' + a), .int (b' + b), .int (c' + c), .int (d' + d), r]) := by
  rw [run_call, h.f0]
  dsimp only [fn0]
  walk_at "EV"
  rw [hc]
  rfl
theorem div2_ok (h : Sh p) {a b n : Int} (hb : b ≠ 0) (hb' : b.natAbs < 1073741824) (hn : (bits a : Int) - n ≤ 4000) :
    (run p g (k + 1)).call 3 [.int a, .int b, .int n] = some (.tup [.int (a.fdiv b), .int (a.fmod b)]) := by
  rw [run_call, h.f3]
  dsimp only [fn3]
  walk_at "EV"
  rw [decide_eq_true hn]
  walk_at "EV"
  rw [show divmV (.int a) (.int b) = some (.tup [.int (a.fdiv b), .int (a.fmod b)]) from if_neg fun q => q.elim hb (Nat.not_le_of_lt hb')]
  rfl
end
theorem shr1 {a : Int} : binI .RShift a 1 = some (.int (a.fdiv 2)) := rfl
theorem mod_div_mod {x S a b : Nat} (h : a + b ≤ S) : x % 2 ^ S / 2 ^ a % 2 ^ b = x / 2 ^ a % 2 ^ b := by
  apply Nat.eq_of_testBit_eq
  intro i
  simp only [Nat.testBit_mod_two_pow, Nat.testBit_div_two_pow]
  by_cases hi : i < b
  · have : i + a < S := by omega
    simp [hi, this]
  · simp [hi]
noncomputable def Laid (n : Nat) (xs : List V) (L R x : Nat) (ys : List V) : Prop := ys.length = xs.length ∧ ∀ i, ys[i]? = if L ≤ i ∧ i < R then some (.int ((x / 2 ^ (n * (i - L)) % 2 ^ n : Nat) : Int)) else xs[i]?
section
variable {p : Prog} {g : Nat}
theorem set_ok {xs : List V} {L : Nat} {v : V} (h : L < xs.length) : setItem xs (L : Int) v = some (xs.set L v) := if_pos ⟨Int.natCast_nonneg L, Int.ofNat_lt.mpr h⟩
noncomputable def InOk (p : Prog) (g k n x L R : Nat) (xs : List V) : Prop := ∃ m' ys, (run p g (k + 1)).clo 0 [.int x, .int L, .int R] [none, none, none, none, none, none, none, some (.ol xs), some (.clo 0), some (.v (.int n))] = some (.none, m') ∧ m'.at 7 = some (.ol ys) ∧ Laid n xs L R x ys
theorem inner_one (h : Sh p) {k n x L : Nat} {xs : List V} (h3 : x < 2 ^ n) (h4 : L + 1 ≤ xs.length) : InOk p g k n x L (L + 1) xs := by
  have e1 : ((L : Int) + 1 == ((L + 1 : Nat) : Int)) = true := beq_self_eq_true _
  have e2 := set_ok (v := .int x) h4
  refine ⟨[some (.v (.int x)), some (.v (.int L)), some (.v (.int ((L + 1 : Nat) : Int))), none, none, none, none, some (.ol (xs.set L (.int x))), some (.clo 0), some (.v (.int n))], xs.set L (.int x), ?_, rfl, ?_⟩
  · rw [run_clo, h.n0]
    dsimp only [nn0]
    walk_at "EV"
    rw [e1]
    walk_at "EV"
    rw [e2]
    rfl
  · refine ⟨List.length_set .., fun i => ?_⟩
    rw [List.getElem?_set]
    by_cases hi : L = i
    · subst hi
      rw [if_pos rfl, if_pos (show L < xs.length from h4), if_pos ⟨Nat.le_refl _, Nat.lt_succ_self _⟩, Nat.sub_self, Nat.mul_zero, Nat.pow_zero, Nat.div_one, Nat.mod_eq_of_lt h3]
    · rw [if_neg hi, if_neg fun q => hi (Nat.le_antisymm q.1 (Nat.le_of_lt_succ q.2))]
theorem inner_ok (h : Sh p) {n : Nat} (hn : 1 ≤ n) : ∀ (k x L R : Nat) (xs : List V), L < R → R - L ≤ 2 ^ k → x < 2 ^ (n * (R - L)) → R ≤ xs.length → n * (R - L) ≤ 2 ^ 22 → InOk p g k n x L R xs := by
  intro k
  induction k with
  | zero =>
    intro x L R xs h1 h2 h3 h4 h5
    have hR : R = L + 1 := by simp at h2; omega
    subst hR
    exact inner_one h (by rw [Nat.add_sub_cancel_left, Nat.mul_one] at h3; exact h3) h4
  | succ k ih =>
    intro x L R xs h1 h2 h3 h4 h5
    by_cases hR : R = L + 1
    · subst hR
      exact inner_one h (by rw [Nat.add_sub_cancel_left, Nat.mul_one] at h3; exact h3) h4
    · obtain ⟨M, hM⟩ : ∃ M, M = (L + R) / 2 := ⟨_, rfl⟩
      have hLM : L < M := by omega
      have hMR : M < R := by omega
      have hpow : 2 ^ (k + 1) = 2 ^ k + 2 ^ k := by rw [Nat.pow_succ]; omega
      obtain ⟨S, hS⟩ : ∃ S, S = (M - L) * n := ⟨_, rfl⟩
      have hsplit : n * (R - L) = S + n * (R - M) := by
        rw [hS, Nat.mul_comm (M - L) n, ← Nat.mul_add]
        congr 1; omega
      have e1 : ((L : Int) + 1 == (R : Int)) = false := by
        have : (L : Int) + 1 ≠ R := by omega
        simpa using this
      have e2 : ((L : Int) + R).fdiv 2 = (M : Int) := by rw [hM]; have := fdiv_nat (L + R) 2; push_cast at this ⊢; exact this
      have hbn : bits ((M : Int) - L) + bits (n : Int) ≤ big := by
        have a1 : bits ((M : Int) - L) ≤ 22 := bits_le (by
          have : ((M : Int) - L).natAbs = M - L := by omega
          rw [this]
          have : M - L < R - L := by omega
          have : R - L ≤ n * (R - L) := Nat.le_mul_of_pos_left _ hn
          omega)
        have a2 : bits (n : Int) ≤ 23 := bits_le (by
          have : n ≤ n * (R - L) := Nat.le_mul_of_pos_right _ (by omega)
          simp only [Int.natAbs_natCast]; omega)
        rw [big_eq]; omega
      have e3 : binI .Mult ((M : Int) - L) n = some (.int S) := by
        rw [mul_ok hbn, hS]
        congr 2
        have : ((M - L : Nat) : Int) = (M : Int) - L := by omega
        push_cast [this]; rfl
      have hxb : bits (x : Int) ≤ n * (R - L) := bits_le (by simpa using h3)
      have hSle : S ≤ 2 ^ 22 := by omega
      have e4 : (x : Int).fdiv (2 ^ S) = ((x / 2 ^ S : Nat) : Int) := by have := fdiv_nat x (2 ^ S); push_cast at this ⊢; exact this
      have hub : bits ((x / 2 ^ S : Nat) : Int) + S ≤ big := by
        have : bits ((x / 2 ^ S : Nat) : Int) ≤ bits (x : Int) := bits_mono (by simp; exact Nat.div_le_self _ _)
        rw [big_eq]; omega
      have e5 : binI .LShift ((x / 2 ^ S : Nat) : Int) S = some (.int (((x / 2 ^ S : Nat) : Int) * 2 ^ S)) := shl_ok hub
      have e6 : binI .BitXor (x : Int) (((x / 2 ^ S : Nat) : Int) * 2 ^ S) = some (.int ((x % 2 ^ S : Nat) : Int)) := by
        show some (V.int (Builtin.bitXor _ _)) = _
        rw [xor_high]
      obtain ⟨m1, y1, c1, c2, c3, c4⟩ := ih (x % 2 ^ S) L M xs hLM (by omega) (by rw [hS, Nat.mul_comm]; exact Nat.mod_lt _ (Nat.two_pow_pos _)) (by omega) (by rw [hS, Nat.mul_comm] at hSle; exact hSle)
      obtain ⟨m2, y2, d1, d2, d3, d4⟩ := ih (x / 2 ^ S) M R y1 hMR (by omega) (Nat.div_lt_of_lt_mul (by rw [← Nat.pow_add, ← hsplit]; exact h3)) (by omega) (by omega)
      refine ⟨[some (.v (.int x)), some (.v (.int L)), some (.v (.int R)), some (.v (.int M)), some (.v (.int S)), some (.v (.int ((x / 2 ^ S : Nat) : Int))), some (.v (.int ((x % 2 ^ S : Nat) : Int))), some (.ol y2), some (.clo 0), some (.v (.int n))], y2, ?_, rfl, by omega, fun i => ?_⟩
      · rw [run_clo, h.n0]
        dsimp only [nn0]
        walk_at "EV"
        rw [e1]
        walk_at "EV"
        rw [shr1, e2]
        walk_at "EV"
        rw [e3]
        walk_at "EV"
        simp only [shr_ok, e4]
        walk_at "EV"
        rw [e5]
        walk_at "EV"
        rw [e6]
        walk_at "EV"
        rw [c1]
        walk_at "EV"
        rw [c2]
        walk_at "EV"
        rw [d1]
        walk_at "EV"
        rw [d2]
        walk_at "EV"
      · rw [d4 i, c4 i]
        by_cases g1 : M ≤ i ∧ i < R
        · rw [if_pos g1, if_pos (by omega), Nat.div_div_eq_div_mul, ← Nat.pow_add]
          have : S + n * (i - M) = n * (i - L) := by
            rw [hS, Nat.mul_comm (M - L) n, ← Nat.mul_add]
            congr 1; omega
          rw [this]
        · rw [if_neg g1]
          by_cases g2 : L ≤ i ∧ i < M
          · rw [if_pos g2, if_pos (by omega), mod_div_mod]
            have : n * (i - L) + n = n * (i - L + 1) := by rw [Nat.mul_add, Nat.mul_one]
            rw [this, hS, Nat.mul_comm (M - L) n]
            exact Nat.mul_le_mul_left _ (by omega)
          · rw [if_neg g2, if_neg (by omega)]
noncomputable def digs (n len a : Nat) : List Int := (List.range len).map fun i => ((a / 2 ^ (n * i) % 2 ^ n : Nat) : Int)
theorem nat_bits (a : Nat) : a < 2 ^ bits (a : Int) := by have := bits_lt (a := (a : Int)); simpa using this
theorem i2d_ok (h : Sh p) {n a len k : Nat} (hn : 1 ≤ n) (ha : bits (a : Int) + n ≤ 2 ^ 22) (hl : len = (bits (a : Int) + n - 1) / n) (hk : len ≤ 2 ^ k) :
    (run p g (k + 2)).call 5 [.int a, .int n] = some (.list ((digs n len a).map .int)) := by
  have hlen : len * n ≤ bits (a : Int) + n - 1 := by rw [hl]; exact Nat.div_mul_le_self _ _
  have hlen2 : bits (a : Int) ≤ len * n := by
    have := Nat.div_add_mod (bits (a : Int) + n - 1) n
    rw [← hl] at this
    have h2 := Nat.mod_lt (bits (a : Int) + n - 1) (show 0 < n by omega)
    rw [Nat.mul_comm]; omega
  have e1 : ((bits (a : Int) : Int) + n - 1) = ((bits (a : Int) + n - 1 : Nat) : Int) := by omega
  have hnb : (n : Int).natAbs < 1073741824 := by simp only [Int.natAbs_natCast]; omega
  have hn0 : (n : Int) ≠ 0 := by omega
  have e2 : binI .FloorDiv ((bits (a : Int) : Int) + n - 1) n = some (.int len) := by
    rw [fdiv_ok hn0 hnb, e1, fdiv_nat, hl]
  have hl22 : len ≤ 2 ^ 22 := by
    have : len ≤ len * n := Nat.le_mul_of_pos_right _ hn
    omega
  have e3 : binV .Mult (.list [.int 0]) (.int len) = some (.list (List.replicate len (.int 0))) := rep_ok (by rw [big_eq]; omega)
  rw [run_call, h.f5]
  dsimp only [fn5]
  walk_at "EV"
  rw [e2]
  walk_at "EV"
  rw [e3]
  walk_at "EV"
  by_cases h0 : a = 0
  · subst h0
    have b0 : bits ((0 : Nat) : Int) = 0 := by decide
    have l0 : len = 0 := by rw [hl, b0]; exact Nat.div_eq_of_lt (by omega)
    subst l0
    have e4 : (((0 : Nat) : Int) != 0) = false := by decide
    rw [e4]
    walk_at "EV"
    simp [digs]
  · have e4 : ((a : Int) != 0) = true := by simpa using h0
    have hlpos : 0 < len := by
      have : 0 < bits (a : Int) := by
        have := nat_bits a
        rcases Nat.eq_zero_or_pos (bits (a : Int)) with q | q
        · rw [q] at this; omega
        · exact q
      rcases Nat.eq_zero_or_pos len with q | q
      · subst q; omega
      · exact q
    obtain ⟨m', ys, c1, c2, c3, c4⟩ := inner_ok (g := g) h hn k a 0 len (List.replicate len (.int 0)) hlpos (by omega) (Nat.lt_of_lt_of_le (nat_bits a) (Nat.pow_le_pow_right (by decide) (by rw [Nat.mul_comm, Nat.sub_zero]; exact hlen2))) (by simp) (by rw [Nat.sub_zero, Nat.mul_comm]; omega)
    rw [e4]
    walk_at "EV"
    simp only [List.length_replicate]
    have c1' : (run p g (k + 1)).clo 0 [.int a, .int 0, .int len] [none, none, none, none, none, none, none, some (.ol (List.replicate len (.int 0))), some (.clo 0), some (.v (.int n))] = some (.none, m') := c1
    rw [c1']
    walk_at "EV"
    rw [c2]
    walk_at "EV"
    refine congrArg (fun l => some (V.list l)) (List.ext_getElem? fun i => ?_)
    rw [c4 i]
    unfold digs
    by_cases hi : i < len
    · rw [if_pos ⟨Nat.zero_le _, hi⟩]
      simp [hi]
    · rw [if_neg (by omega)]
      simp [hi]
end
noncomputable def valN (n : Nat) : List Nat → Nat
  | [] => 0
  | d :: r => d + 2 ^ n * valN n r
theorem valN_append (n : Nat) (xs ys : List Nat) : valN n (xs ++ ys) = valN n xs + 2 ^ (n * xs.length) * valN n ys := by
  induction xs with
  | nil => exact ((Nat.zero_add _).trans ((congrArg (fun z => 2 ^ z * valN n ys) (Nat.mul_zero n)).trans (Nat.one_mul _))).symm
  | cons x xs ih =>
    show x + 2 ^ n * valN n (xs ++ ys) = x + 2 ^ n * valN n xs + 2 ^ (n * (xs.length + 1)) * valN n ys
    rw [ih, Nat.mul_add, ← Nat.mul_assoc, ← Nat.pow_add, Nat.mul_add n, Nat.mul_one, Nat.add_comm (n * xs.length) n, Nat.add_assoc]
theorem valN_lt {n : Nat} {xs : List Nat} : (∀ d ∈ xs, d < 2 ^ n) → valN n xs < 2 ^ (n * xs.length) := by
  induction xs with
  | nil => exact fun _ => Nat.two_pow_pos _
  | cons x xs ih =>
    intro h
    have ih := ih fun d hd => h d (List.mem_cons_of_mem _ hd)
    show x + 2 ^ n * valN n xs < 2 ^ (n * (xs.length + 1))
    rw [Nat.mul_add, Nat.mul_one, Nat.pow_add, Nat.mul_comm (2 ^ (n * xs.length))]
    calc x + 2 ^ n * valN n xs < 2 ^ n + 2 ^ n * valN n xs := Nat.add_lt_add_right (h x (List.mem_cons_self ..)) _
      _ = 2 ^ n * (valN n xs + 1) := by rw [Nat.mul_add, Nat.mul_one, Nat.add_comm]
      _ ≤ 2 ^ n * 2 ^ (n * xs.length) := Nat.mul_le_mul_left _ ih
noncomputable def dV (ds : List Nat) : List V := ds.map fun (d : Nat) => V.int (d : Int)
section
variable {p : Prog} {g : Nat}
theorem inner2_ok (h : Sh p) {n : Nat} {ds : List Nat} (hn : 1 ≤ n) (hd : ∀ d ∈ ds, d < 2 ^ n) : ∀ (k L R : Nat), L < R → R - L ≤ 2 ^ k → R ≤ ds.length → n * (R - L) ≤ 2 ^ 22 →
    ∃ m', (run p g (k + 1)).clo 1 [.int L, .int R] [none, none, none, none, some (.v (.list (dV ds))), some (.clo 1), some (.v (.int n))] = some (.int (valN n ((ds.drop L).take (R - L))), m') := by
  have base : ∀ k L, L < ds.length → ∃ m', (run p g (k + 1)).clo 1 [.int L, .int ((L + 1 : Nat) : Int)] [none, none, none, none, some (.v (.list (dV ds))), some (.clo 1), some (.v (.int n))] = some (.int (valN n ((ds.drop L).take (L + 1 - L))), m') := by
    intro k L hL
    have e1 : ((L : Int) + 1 == ((L + 1 : Nat) : Int)) = true := by simp
    have e2 : (dV ds)[L]? = some (.int (ds[L] : Nat)) := by simp [dV, hL]
    have e3 : valN n ((ds.drop L).take (L + 1 - L)) = ds[L] := by
      have : L + 1 - L = 1 := by omega
      rw [this, List.drop_eq_getElem_cons hL, List.take_succ_cons, List.take_zero]
      simp [valN]
    rw [e3]
    refine ⟨[some (.v (.int L)), some (.v (.int ((L + 1 : Nat) : Int))), none, none, some (.v (.list (dV ds))), some (.clo 1), some (.v (.int n))], ?_⟩
    rw [run_clo, h.n1]
    dsimp only [nn1]
    walk_at "EV"
    rw [e1]
    walk_at "EV"
    rw [sub_list, e2]
    rfl
  intro k
  induction k with
  | zero =>
    intro L R h1 h2 h3 h4
    have hR : R = L + 1 := by simp at h2; omega
    subst hR
    exact base 0 L h3
  | succ k ih =>
    intro L R h1 h2 h3 h4
    by_cases hR : R = L + 1
    · subst hR
      exact base (k + 1) L h3
    · obtain ⟨M, hM⟩ : ∃ M, M = (L + R) / 2 := ⟨_, rfl⟩
      have hLM : L < M := by omega
      have hMR : M < R := by omega
      have hpow : 2 ^ (k + 1) = 2 ^ k + 2 ^ k := by rw [Nat.pow_succ]; omega
      obtain ⟨S, hS⟩ : ∃ S, S = (M - L) * n := ⟨_, rfl⟩
      have hsplit : n * (R - L) = S + n * (R - M) := by
        rw [hS, Nat.mul_comm (M - L) n, ← Nat.mul_add]
        congr 1; omega
      have e1 : ((L : Int) + 1 == (R : Int)) = false := by
        have : (L : Int) + 1 ≠ R := by omega
        simpa using this
      have e2 : ((L : Int) + R).fdiv 2 = (M : Int) := by rw [hM]; have := fdiv_nat (L + R) 2; push_cast at this ⊢; exact this
      have hbn : bits ((M : Int) - L) + bits (n : Int) ≤ big := by
        have a1 : bits ((M : Int) - L) ≤ 22 := bits_le (by
          have : ((M : Int) - L).natAbs = M - L := by omega
          rw [this]
          have : M - L < R - L := by omega
          have : R - L ≤ n * (R - L) := Nat.le_mul_of_pos_left _ hn
          omega)
        have a2 : bits (n : Int) ≤ 23 := bits_le (by
          have : n ≤ n * (R - L) := Nat.le_mul_of_pos_right _ (by omega)
          simp only [Int.natAbs_natCast]; omega)
        rw [big_eq]; omega
      have e3 : binI .Mult ((M : Int) - L) n = some (.int S) := by
        rw [mul_ok hbn, hS]
        congr 2
        have : ((M - L : Nat) : Int) = (M : Int) - L := by omega
        push_cast [this]; rfl
      obtain ⟨m1, c1⟩ := ih L M hLM (by omega) (by omega) (by rw [Nat.mul_comm, ← hS]; omega)
      obtain ⟨m2, c2⟩ := ih M R hMR (by omega) h3 (by omega)
      have hlt : valN n ((ds.drop M).take (R - M)) < 2 ^ (n * (R - M)) := by
        have := valN_lt (n := n) (xs := (ds.drop M).take (R - M)) fun d hd' => hd d (List.mem_of_mem_drop (List.mem_of_mem_take hd'))
        rw [List.length_take, List.length_drop, Nat.min_eq_left (by omega)] at this
        exact this
      have e4 : binI .LShift (valN n ((ds.drop M).take (R - M)) : Nat) S = some (.int ((valN n ((ds.drop M).take (R - M)) : Nat) * 2 ^ S)) := shl_ok (by
        have : bits ((valN n ((ds.drop M).take (R - M)) : Nat) : Int) ≤ n * (R - M) := bits_le (by simpa using hlt)
        rw [big_eq]; omega)
      have e5 : (ds.drop L).take (R - L) = (ds.drop L).take (M - L) ++ (ds.drop M).take (R - M) := by
        have : R - L = (M - L) + (R - M) := by omega
        rw [this, List.take_add, List.drop_drop]
        have : L + (M - L) = M := by omega
        rw [this]
      have e6 : ((valN n ((ds.drop M).take (R - M)) : Nat) : Int) * 2 ^ S + (valN n ((ds.drop L).take (M - L)) : Nat) = (valN n ((ds.drop L).take (R - L)) : Nat) := by
        rw [e5, valN_append, List.length_take, List.length_drop, Nat.min_eq_left (by omega), hS, Nat.mul_comm (M - L) n]
        push_cast
        rw [Int.mul_comm, Int.add_comm]
      refine ⟨[some (.v (.int L)), some (.v (.int R)), some (.v (.int M)), some (.v (.int S)), some (.v (.list (dV ds))), some (.clo 1), some (.v (.int n))], ?_⟩
      rw [run_clo, h.n1]
      dsimp only [nn1]
      walk_at "EV"
      rw [e1]
      walk_at "EV"
      rw [shr1, e2]
      walk_at "EV"
      rw [e3]
      walk_at "EV"
      rw [c2]
      walk_at "EV"
      rw [e4]
      walk_at "EV"
      rw [c1]
      walk_at "EV"
      simp only [e6]
theorem d2i_ok (h : Sh p) {n k : Nat} {ds : List Nat} (hn : 1 ≤ n) (hd : ∀ d ∈ ds, d < 2 ^ n) (hk : ds.length ≤ 2 ^ k) (hl : n * ds.length ≤ 2 ^ 22) :
    (run p g (k + 2)).call 6 [.list (dV ds), .int n] = some (.int (valN n ds)) := by
  rw [run_call, h.f6]
  dsimp only [fn6]
  walk_at "EV"
  cases ds with
  | nil => rfl
  | cons d r =>
    obtain ⟨m', c⟩ := inner2_ok (g := g) h hn hd k 0 (d :: r).length (by simp) (by simpa using hk) (Nat.le_refl _) (by simpa using hl)
    have e1 : (dV (d :: r)).length = (d :: r).length := by simp [dV]
    have e2 : (!(dV (d :: r)).isEmpty) = true := by simp [dV]
    have c' : (run p g (k + 1)).clo 1 [.int 0, .int (d :: r).length] [none, none, none, none, some (.v (.list (dV (d :: r)))), some (.clo 1), some (.v (.int n))] = some (.int (valN n (((d :: r).drop 0).take ((d :: r).length - 0))), m') := c
    rw [e2]
    walk_at "EV"
    rw [e1, c']
    walk_at "EV"
    simp
end
noncomputable def natDigs (n len a : Nat) : List Nat := (List.range len).map fun i => a / 2 ^ (n * i) % 2 ^ n
theorem digs_eq (n len a : Nat) : (digs n len a).map V.int = dV (natDigs n len a) := by simp [digs, natDigs, dV]
theorem natDigs_succ (n len a : Nat) : natDigs n (len + 1) a = a % 2 ^ n :: natDigs n len (a / 2 ^ n) := by
  unfold natDigs
  rw [List.range_succ_eq_map, List.map_cons, List.map_map, Nat.mul_zero, Nat.pow_zero, Nat.div_one]
  refine congrArg (_ :: ·) (List.map_congr_left fun i _ => ?_)
  show a / 2 ^ (n * (i + 1)) % 2 ^ n = _
  rw [Nat.div_div_eq_div_mul, ← Nat.pow_add, Nat.mul_add, Nat.mul_one, Nat.add_comm n]
theorem valN_digs (n : Nat) {len : Nat} : ∀ {a : Nat}, a < 2 ^ (n * len) → valN n (natDigs n len a) = a := by
  induction len with
  | zero => exact fun h => (Nat.lt_one_iff.mp h).symm
  | succ len ih =>
    intro a h
    have ih := ih (a := a / 2 ^ n) (Nat.div_lt_of_lt_mul (by rw [← Nat.pow_add, Nat.add_comm]; exact h))
    rw [natDigs_succ]
    show a % 2 ^ n + 2 ^ n * valN n _ = a
    rw [ih, Nat.mod_add_div]
theorem natDigs_lt {n len a d : Nat} (h : d ∈ natDigs n len a) : d < 2 ^ n := by
  obtain ⟨i, _, rfl⟩ := List.mem_map.mp h
  exact Nat.mod_lt _ (Nat.two_pow_pos _)
section
variable {p : Prog} {g : Nat}
structure QR where
  qs : List Nat
  r : Nat
  d : Option V
  q : Option V
noncomputable def qrStep (n b : Nat) (s : QR) (d : Nat) : QR := ⟨s.qs ++ [(s.r * 2 ^ n + d) / b], (s.r * 2 ^ n + d) % b, some (.int d), some (.int ((s.r * 2 ^ n + d) / b : Nat))⟩
noncomputable def qrF (a b n : Nat) (ds : List V) (s : QR) : Fr := [some (.v (.int a)), some (.v (.int b)), some (.v (.int n)), some (.v (.list ds)), some (.v (.int s.r)), some (.ol (dV s.qs)), oS s.d, oS s.q, none, none, none, none, none]
noncomputable def qrP (n b len a : Nat) (rem : List Nat) (s : QR) : Prop := s.r < b ∧ (∀ q ∈ s.qs, q < 2 ^ n) ∧ s.qs.length + rem.length = len ∧ (∀ d ∈ rem, d < 2 ^ n) ∧ (valN n s.qs.reverse * b + s.r) * 2 ^ (n * rem.length) + valN n rem.reverse = a
theorem pos_ok (h : Sh p) {a b k : Nat} (hb : 1 ≤ b) (hb' : b < 1073741824) (ha : bits (a : Int) ≤ 2 ^ 21) (hk : 21 ≤ k) :
    (run p g (k + 3)).call 7 [.int a, .int b] = some (.tup [.int ((a / b : Nat) : Int), .int ((a % b : Nat) : Int)]) := by
  obtain ⟨n, hn⟩ : ∃ n, n = bits (b : Int) := ⟨_, rfl⟩
  have hbn : b < 2 ^ n := by rw [hn]; exact nat_bits b
  have hn1 : 1 ≤ n := by
    rcases Nat.eq_zero_or_pos n with q | q
    · rw [q] at hbn; omega
    · exact q
  have hn30 : n ≤ 30 := by rw [hn]; exact bits_le (by simp only [Int.natAbs_natCast]; omega)
  obtain ⟨len, hlen⟩ : ∃ len, len = (bits (a : Int) + n - 1) / n := ⟨_, rfl⟩
  have hl1 : len * n ≤ bits (a : Int) + n - 1 := by rw [hlen]; exact Nat.div_mul_le_self _ _
  have hl2 : bits (a : Int) ≤ len * n := by
    have := Nat.div_add_mod (bits (a : Int) + n - 1) n
    rw [← hlen] at this
    have h2 := Nat.mod_lt (bits (a : Int) + n - 1) (show 0 < n by omega)
    rw [Nat.mul_comm]; omega
  have hle : len ≤ bits (a : Int) := by
    rw [hlen]
    rcases Nat.eq_zero_or_pos (bits (a : Int)) with q | q
    · rw [q]; rw [Nat.div_eq_of_lt (by omega)]; exact Nat.zero_le _
    · refine Nat.div_le_of_le_mul ?_
      have : bits (a : Int) + n ≤ n * bits (a : Int) + 1 := by
        obtain ⟨x, hx⟩ : ∃ x, bits (a : Int) = x + 1 := ⟨bits (a : Int) - 1, by omega⟩
        obtain ⟨y, hy⟩ : ∃ y, n = y + 1 := ⟨n - 1, by omega⟩
        rw [hx, hy, Nat.add_mul, Nat.mul_add]; omega
      omega
  have hk2 : len ≤ 2 ^ k := by
    have : 2 ^ 21 ≤ 2 ^ k := Nat.pow_le_pow_right (by decide) hk
    omega
  have c5 : (run p g (k + 2)).call 5 [.int a, .int n] = some (.list (dV (natDigs n len a))) := by rw [← digs_eq]; exact i2d_ok h hn1 (by omega) hlen hk2
  have hdl : (natDigs n len a).length = len := by simp [natDigs]
  have hval : valN n (natDigs n len a) = a := valN_digs n (Nat.lt_of_lt_of_le (nat_bits a) (Nat.pow_le_pow_right (by decide) (by rw [Nat.mul_comm]; exact hl2)))
  have hrev : (dV (natDigs n len a)).reverse = ((natDigs n len a).reverse).map fun (d : Nat) => V.int (d : Int) := by simp [dV]
  rw [run_call, h.f7]
  dsimp only [fn7]
  walk_at "EV"
  simp only [← hn]
  rw [c5]
  walk_at "EV"
  have P0 : qrP n b len a (natDigs n len a).reverse ⟨[], 0, none, none⟩ := by
    refine ⟨by show 0 < b; omega, nofun, by simp [hdl], fun d hd => natDigs_lt (List.mem_reverse.mp hd), ?_⟩
    simp [valN, hval]
  have key := fun hit hm hstep => for_run (c := run p g (k + 2)) (t := .one 6) (it := .one revV (.var 3)) (body := .cons (.asgT [7, 4] (.call 3 (.cons (.p2 (binV .Add) (.p2 (binV .LShift) (.var 4) (.var 2)) (.var 6)) (.cons (.var 1) (.cons (.var 2) .nil))))) (.cons (.append 5 (.var 7)) .nil)) (m := qrF a b n (dV (natDigs n len a)) ⟨[], 0, none, none⟩)
    ((natDigs n len a).reverse) (fun (d : Nat) => V.int (d : Int)) (qrF a b n (dV (natDigs n len a))) (qrStep n b) (qrP n b len a) ⟨[], 0, none, none⟩ hit hm P0 hstep
  obtain ⟨k1, k2⟩ := key (by
    simp only [qrF]
    walk_at "EV"
    rw [hrev]) (by
    rfl) (by
    rintro x r ⟨qs, rr, d0, q0⟩ ⟨p1, p2, p3, p4, p5⟩
    simp only at p1 p2 p3 p5
    have hx := p4 x (by simp)
    have hlt : rr * 2 ^ n + x < b * 2 ^ n := by
      calc rr * 2 ^ n + x < rr * 2 ^ n + 2 ^ n := by omega
        _ = (rr + 1) * 2 ^ n := by rw [Nat.add_mul, Nat.one_mul]
        _ ≤ b * 2 ^ n := Nat.mul_le_mul_right _ p1
    have hq : (rr * 2 ^ n + x) / b < 2 ^ n := Nat.div_lt_of_lt_mul hlt
    have e1 : binI .LShift (rr : Int) n = some (.int ((rr : Int) * 2 ^ n)) := shl_ok (by
      have : bits (rr : Int) ≤ n := bits_le (by simp only [Int.natAbs_natCast]; omega)
      rw [big_eq]; omega)
    have e2 : (rr : Int) * 2 ^ n + x = ((rr * 2 ^ n + x : Nat) : Int) := by push_cast; rfl
    have e3 : (run p g (k + 2)).call 3 [.int ((rr * 2 ^ n + x : Nat) : Int), .int b, .int n] = some (.tup [.int (((rr * 2 ^ n + x) / b : Nat) : Int), .int (((rr * 2 ^ n + x) % b : Nat) : Int)]) := by
      rw [div2_ok h (by omega) (by omega), fdiv_nat, fmod_nat]
      have : bits ((rr * 2 ^ n + x : Nat) : Int) ≤ n + n := bits_le (by
        simp only [Int.natAbs_natCast]
        rw [Nat.pow_add]
        exact Nat.lt_of_lt_of_le hlt (Nat.mul_le_mul_right _ (Nat.le_of_lt hbn)))
      omega
    have e4 : qs.length + 1 ≤ big := by
      simp only [List.length_cons] at p3
      rw [big_eq]; omega
    refine ⟨?_, Nat.mod_lt _ (by omega), fun q hq' => ?_, ?_, fun d hd => p4 d (by simp [hd]), ?_⟩
    · dsimp only [qrF, qrStep]
      walk_at "EV"
      simp only [fz_oS]
      walk_at "EV"
      rw [e1]
      walk_at "EV"
      rw [e2, e3]
      walk_at "EV"
      rw [if_pos (show (dV qs).length + 1 ≤ big by unfold dV; rw [List.length_map]; exact e4)]
      walk_at "EV"
      rw [show dV qs ++ [V.int ((rr * 2 ^ n + x) / b : Nat)] = dV (qs ++ [(rr * 2 ^ n + x) / b]) from (List.map_append (f := fun (d : Nat) => V.int (d : Int)) (l₁ := qs) (l₂ := [(rr * 2 ^ n + x) / b])).symm]
      rfl
    · simp only [qrStep, List.mem_append, List.mem_singleton] at hq'
      rcases hq' with q' | q'
      · exact p2 q q'
      · subst q'; exact hq
    · simp only [qrStep, List.length_append, List.length_cons, List.length_nil] at p3 ⊢; omega
    · simp only [qrStep, List.reverse_append, List.reverse_cons, List.reverse_nil, List.nil_append, List.cons_append, valN] at p5 ⊢
      rw [← p5, valN_append, List.length_reverse, List.length_cons, Nat.mul_add, Nat.mul_one, Nat.pow_add]
      simp only [valN, Nat.mul_zero, Nat.add_zero]
      generalize valN n qs.reverse = Q
      generalize valN n r.reverse = W
      generalize hA : 2 ^ (n * r.length) = A
      have hdm := Nat.div_add_mod (rr * 2 ^ n + x) b
      generalize (rr * 2 ^ n + x) / b = q at hdm
      generalize (rr * 2 ^ n + x) % b = s at hdm
      generalize 2 ^ n = N at hdm
      have : (q + N * Q) * b + s = (Q * b + rr) * N + x := by
        have h1 : (q + N * Q) * b = b * q + Q * b * N := by rw [Nat.add_mul, Nat.mul_comm q b, Nat.mul_comm N Q, Nat.mul_assoc, Nat.mul_comm N b, ← Nat.mul_assoc]
        rw [h1, Nat.add_mul]; omega
      rw [this, Nat.add_mul, Nat.mul_assoc, Nat.mul_comm N A, Nat.mul_comm x A]
      omega)
  refine mb k1 ?_
  clear k1 key
  generalize (natDigs n len a).reverse.foldl (qrStep n b) ⟨[], 0, none, none⟩ = s at k2 ⊢
  obtain ⟨qs, r, d0, q0⟩ := s
  obtain ⟨p1, p2, p3, p4, p5⟩ := k2
  simp only at p1 p2 p3 p5
  simp only [valN, List.reverse_nil, List.length_nil, Nat.mul_zero, Nat.pow_zero, Nat.mul_one, Nat.add_zero] at p5 p3
  dsimp only [qrF]
  walk_at "EV"
  have e1 : (dV qs).reverse = dV qs.reverse := by simp [dV]
  have e2 : (run p g (k + 2)).call 6 [.list (dV qs.reverse), .int n] = some (.int (valN n qs.reverse)) := d2i_ok h hn1 (fun d hd => p2 d (List.mem_reverse.mp hd)) (by rw [List.length_reverse]; omega) (by rw [List.length_reverse, Nat.mul_comm, p3]; omega)
  simp only [fz_oS]
  walk_at "EV"
  rw [e1, e2]
  walk_at "EV"
  simp only [fz_oS]
  walk_at "EV"
  have d1 : a / b = valN n qs.reverse := by rw [← p5, Nat.mul_comm]; rw [Nat.mul_add_div (by omega), Nat.div_eq_of_lt p1, Nat.add_zero]
  have d2 : a % b = r := by rw [← p5, Nat.mul_comm, Nat.mul_add_mod, Nat.mod_eq_of_lt p1]
  rw [d1, d2]
theorem dm_nn (h : Sh p) {a b k : Nat} (hb : 1 ≤ b) (hb' : b < 1073741824) (ha : bits (a : Int) ≤ 2 ^ 21) (hk : 21 ≤ k) :
    (run p g (k + 4)).call 8 [.int a, .int b] = some (.tup [.int ((a / b : Nat) : Int), .int ((a % b : Nat) : Int)]) := by
  have c := pos_ok (g := g) h hb hb' ha hk
  have e1 : ((b : Int) == 0) = false := by
    have : (b : Int) ≠ 0 := by omega
    simpa using this
  have e2 : ¬ ((b : Int) < 0) := by omega
  have e3 : ¬ ((a : Int) < 0) := by omega
  rw [run_call, h.f8]
  dsimp only [fn8]
  walk_at "EV"
  rw [e1]
  walk_at "EV"
  rw [decide_eq_false e2]
  walk_at "EV"
  rw [decide_eq_false e3]
  walk_at "EV"
  rw [c]
  walk_at "EV"
theorem dm_pos (h : Sh p) {a : Int} {b k : Nat} (hb : 1 ≤ b) (hb' : b < 1073741824) (ha : bits a ≤ 2 ^ 21) (hk : 21 ≤ k) :
    (run p g (k + 5)).call 8 [.int a, .int b] = some (.tup [.int (a.fdiv b), .int (a.fmod b)]) := by
  by_cases ha0 : 0 ≤ a
  · obtain ⟨n, rfl⟩ : ∃ n : Nat, a = n := ⟨a.toNat, by omega⟩
    rw [fdiv_nat, fmod_nat]
    exact dm_nn (k := k + 1) h hb hb' ha (by omega)
  · obtain ⟨n, hn⟩ : ∃ n : Nat, -a - 1 = n := ⟨(-a - 1).toNat, by omega⟩
    have c := dm_nn (g := g) (a := n) h hb hb' (Nat.le_trans (bits_mono (b := a) (by omega)) ha) hk
    have e1 : ((b : Int) == 0) = false := by
      have : (b : Int) ≠ 0 := by omega
      simpa using this
    have e2 : ¬ ((b : Int) < 0) := by omega
    have e3 : a < 0 := by omega
    have hdm := Nat.div_add_mod n b
    have hml := Nat.mod_lt n (show 0 < b by omega)
    have hq : a.fdiv b = -((n / b : Nat) : Int) - 1 := by
      rw [Int.fdiv_eq_ediv_of_nonneg _ (by omega)]
      have : a = -((n / b : Nat) : Int) * b + (-b + (b - 1 - ((n % b : Nat) : Int))) := by
        have : (n : Int) = b * ((n / b : Nat) : Int) + ((n % b : Nat) : Int) := by exact_mod_cast hdm.symm
        rw [Int.neg_mul, Int.mul_comm ((n / b : Nat) : Int)]; omega
      rw [this]
      have : -((n / b : Nat) : Int) * b + (-b + (b - 1 - ((n % b : Nat) : Int))) = (b - 1 - ((n % b : Nat) : Int)) + b * (-((n / b : Nat) : Int) - 1) := by
        rw [Int.mul_sub, Int.mul_one, Int.mul_comm (b : Int)]; omega
      rw [this, Int.add_mul_ediv_left _ _ (by omega), Int.ediv_eq_zero_of_lt (by omega) (by omega)]
      omega
    have hr : a.fmod b = b + (-((n % b : Nat) : Int) - 1) := by
      have := Int.mul_fdiv_add_fmod a b
      rw [hq, Int.mul_sub, Int.mul_one, Int.mul_neg] at this
      have : (n : Int) = b * ((n / b : Nat) : Int) + ((n % b : Nat) : Int) := by exact_mod_cast hdm.symm
      omega
    rw [run_call, h.f8]
    dsimp only [fn8]
    walk_at "EV"
    rw [e1]
    walk_at "EV"
    rw [decide_eq_false e2]
    walk_at "EV"
    rw [decide_eq_true e3]
    walk_at "EV"
    rw [hn, c]
    walk_at "EV"
    rw [hq, hr]
theorem dm_ok (h : Sh p) {a b : Int} {k : Nat} (hb : b ≠ 0) (hb' : b.natAbs < 1073741824) (ha : bits a ≤ 2 ^ 21) (hk : 21 ≤ k) :
    (run p g (k + 6)).call 8 [.int a, .int b] = some (.tup [.int (a.fdiv b), .int (a.fmod b)]) := by
  by_cases hb0 : 0 ≤ b
  · obtain ⟨n, rfl⟩ : ∃ n : Nat, b = n := ⟨b.toNat, by omega⟩
    exact dm_pos (k := k + 1) h (by omega) (by simpa using hb') ha (by omega)
  · obtain ⟨n, hn⟩ : ∃ n : Nat, -b = n := ⟨(-b).toNat, by omega⟩
    have c := dm_pos (g := g) (a := -a) (b := n) h (by omega) (by omega) (by rw [bits_neg]; exact ha) hk
    have e1 : (b == 0) = false := by simpa using hb
    have e2 : b < 0 := by omega
    have hq : (-a).fdiv (n : Int) = a.fdiv b := by rw [← hn, Int.neg_fdiv_neg]
    have hr : -((-a).fmod (n : Int)) = a.fmod b := by
      have h1 := Int.mul_fdiv_add_fmod (-a) n
      have h2 := Int.mul_fdiv_add_fmod a b
      rw [hq, ← hn, Int.neg_mul] at h1
      rw [← hn]; omega
    rw [run_call, h.f8]
    dsimp only [fn8]
    walk_at "EV"
    rw [e1]
    walk_at "EV"
    rw [decide_eq_true e2]
    walk_at "EV"
    rw [hn, c]
    walk_at "EV"
    rw [hq, hr]
end
inductive Cm (α : Type) where
  | one (n : Int)
  | two (n : Int) (z : α)
abbrev Mi := Cm Int
noncomputable def encM : Mi → V
  | .one n => .int n
  | .two n z => .tup [.int n, .int z]
abbrev Tb (α : Type) := List (K × Cm α)
abbrev Ti := Tb Int
section
variable {α : Type}
noncomputable def Cm.kind : Cm α → Bool
  | .one _ => false
  | .two _ _ => true
noncomputable def addM (ad : α → α → α) : Cm α → Cm α → Cm α
  | .one a, q => match q with
    | .one b => .one (a + b)
    | .two _ _ => .one a
  | .two a c, q => match q with
    | .two b d => .two (b + a) (ad d c)
    | .one _ => .two a c
noncomputable def tget (k : K) : Tb α → Option (Cm α)
  | [] => none
  | p :: r => if k = p.1 then some p.2 else tget k r
noncomputable def tset (k : K) (v : Cm α) : Tb α → Tb α
  | [] => [(k, v)]
  | p :: r => if k = p.1 then (p.1, v) :: r else p :: tset k v r
theorem tget_hit {k : K} {p : K × Cm α} {r : Tb α} (h : k = p.1) : tget k (p :: r) = some p.2 := if_pos h
theorem tget_no {k : K} {p : K × Cm α} {r : Tb α} (h : k ≠ p.1) : tget k (p :: r) = tget k r := if_neg h
theorem tset_hit {k : K} {v : Cm α} {p : K × Cm α} {r : Tb α} (h : k = p.1) : tset k v (p :: r) = (p.1, v) :: r := if_pos h
theorem tset_no {k : K} {v : Cm α} {p : K × Cm α} {r : Tb α} (h : k ≠ p.1) : tset k v (p :: r) = p :: tset k v r := if_neg h
end
noncomputable def iadd (x y : Int) : Int := x + y
noncomputable def encP (p : K × Mi) : K × V := (p.1, encM p.2)
noncomputable def encT (t : Ti) : List (K × V) := t.map encP
theorem dget_encT (k : K) (t : Ti) : dget k (encT t) = (tget k t).map encM := by
  induction t with
  | nil => rfl
  | cons p r ih =>
    by_cases h : k = p.1
    · rw [tget_hit h]; exact if_pos h
    · rw [tget_no h]; exact (if_neg h).trans ih
theorem dset_encT (k : K) (v : Mi) (t : Ti) : dset k (encM v) (encT t) = encT (tset k v t) := by
  induction t with
  | nil => rfl
  | cons p r ih =>
    by_cases h : k = p.1
    · rw [tset_hit h]; exact if_pos h
    · rw [tset_no h]; exact (if_neg h).trans (congrArg (encP p :: ·) ih)
section
variable {α : Type} {ad : α → α → α}
theorem tset_len (k : K) (v : Cm α) (t : Tb α) : (tset k v t).length ≤ t.length + 1 := by
  induction t with
  | nil => exact Nat.le_refl _
  | cons p r ih =>
    by_cases h : k = p.1
    · rw [tset_hit h]; exact Nat.le_succ _
    · rw [tset_no h]; exact Nat.succ_le_succ ih
theorem tset_new (k : K) (v : Cm α) (t : Tb α) : k ∉ t.map (·.1) → tset k v t = t ++ [(k, v)] := by
  induction t with
  | nil => exact fun _ => rfl
  | cons p r ih =>
    intro h
    rw [tset_no fun (e : k = p.1) => h (List.mem_cons.mpr (.inl e)), ih fun m => h (List.mem_cons_of_mem _ m)]
    rfl
theorem tget_mem {k : K} {u : Cm α} {t : Tb α} : tget k t = some u → (k, u) ∈ t := by
  induction t with
  | nil => exact nos
  | cons p r ih =>
    by_cases h : k = p.1
    · rw [tget_hit h]
      intro e
      cases e
      exact h ▸ List.mem_cons_self ..
    · rw [tget_no h]
      exact fun e => List.mem_cons_of_mem _ (ih e)
theorem tset_mem {k : K} {v : Cm α} {q : K × Cm α} {t : Tb α} : q ∈ tset k v t → q ∈ t ∨ q = (k, v) := by
  induction t with
  | nil => exact fun h => .inr (List.mem_singleton.mp h)
  | cons p r ih =>
    by_cases h : k = p.1
    · rw [tset_hit h]
      exact fun m => (List.mem_cons.mp m).elim (fun e => .inr (h ▸ e)) fun m => .inl (List.mem_cons_of_mem _ m)
    · rw [tset_no h]
      exact fun m => (List.mem_cons.mp m).elim (fun e => .inl (e ▸ List.mem_cons_self ..)) fun m => (ih m).imp (List.mem_cons_of_mem _) id
noncomputable def addStep (ad : α → α → α) (acc : Tb α) (q : K × Cm α) : Tb α := tset q.1 (match tget q.1 acc with
  | some u => addM ad u q.2
  | none => q.2) acc
noncomputable def addTb (ad : α → α → α) (t s : Tb α) : Tb α := s.foldl (addStep ad) t
noncomputable def Kdd (kd : K → Bool) (t : Tb α) : Prop := ∀ q ∈ t, q.2.kind = kd q.1
theorem addM_kind {a b : Cm α} : (addM ad a b).kind = a.kind := by cases a <;> cases b <;> rfl
theorem Kdd.step {kd : K → Bool} {acc : Tb α} (h : Kdd kd acc) {q : K × Cm α} (hq : q.2.kind = kd q.1) : Kdd kd (addStep ad acc q) := fun z hz => (tset_mem hz).elim (h z) fun y => by
  subst y
  cases hu : tget q.1 acc with
  | none => exact hq
  | some u => exact addM_kind.trans (h _ (tget_mem hu))
theorem Kdd.add {kd : K → Bool} {s : Tb α} : ∀ {t : Tb α}, Kdd kd t → Kdd kd s → Kdd kd (addTb ad t s) := by
  induction s with
  | nil => exact fun h _ => h
  | cons q s ih => exact fun h hs => ih (h.step (hs q (List.mem_cons_self ..))) fun z hz => hs z (List.mem_cons_of_mem _ hz)
theorem addStep_len (acc : Tb α) (q : K × Cm α) : (addStep ad acc q).length ≤ acc.length + 1 := tset_len ..
end
structure AC where
  acc : Ti
  k : Option V
  v : Option V
noncomputable def acF (t s : V) (x : AC) : Fr := [some (.v t), some (.v s), some (.od 0 (encT x.acc)), oS x.k, oS x.v, none, none, none]
noncomputable def acCopy (x : AC) (q : K × Mi) : AC := ⟨tset q.1 q.2 x.acc, some (vKey q.1), some (encM q.2)⟩
noncomputable def acAdd (x : AC) (q : K × Mi) : AC := ⟨addStep iadd x.acc q, some (vKey q.1), some (encM q.2)⟩
theorem run_gen {p : Prog} {g k : Nat} : (run p g k).gen = g := by cases k <;> rfl
theorem items_encT (t : Ti) : (encT t).map (fun p => V.tup [vKey p.1, p.2]) = t.map fun q => V.tup [vKey q.1, encM q.2] := List.map_map
theorem copy_all (t : Ti) : ∀ (x : AC), (t.map (·.1)).Nodup → (∀ q ∈ t, q.1 ∉ x.acc.map (·.1)) → (t.foldl acCopy x).acc = x.acc ++ t := by
  induction t with
  | nil => exact fun x _ _ => (List.append_nil _).symm
  | cons q r ih =>
    intro x hn hd
    have hn := List.nodup_cons.mp hn
    have e : (acCopy x q).acc = x.acc ++ [q] := tset_new _ _ _ (hd q (List.mem_cons_self ..))
    rw [List.foldl_cons, ih (acCopy x q) hn.2 fun z hz hm => ?_, e, List.append_assoc]
    · rfl
    · rw [e, List.map_append] at hm
      refine (List.mem_append.mp hm).elim (hd z (List.mem_cons_of_mem _ hz)) fun hm => hn.1 ?_
      exact List.mem_map.mpr ⟨z, hz, List.mem_singleton.mp hm⟩
theorem add_all (s : Ti) : ∀ (x : AC), (s.foldl acAdd x).acc = addTb iadd x.acc s := by
  induction s with
  | nil => exact fun x => rfl
  | cons q r ih => exact fun x => ih (acAdd x q)
section
variable {p : Prog} {k : Nat}
theorem inV_dict {g : Nat} {es : List (K × V)} {q : Int} : inV (.dict g es) (.int q) = some (.bool (dget q es).isSome) := rfl
theorem enc_fit {acc : Ti} (h : acc.length + 1 ≤ 1000) : (encT acc).length + 1 ≤ big := by
  unfold encT
  rw [List.length_map]
  exact Nat.le_trans h (by decide)
theorem addc_ok (h : Sh p) {t s : Ti} {g1 g2 : Nat} {kd : K → Bool} (hn : (t.map (·.1)).Nodup) (ht : Kdd kd t) (hs : Kdd kd s) (hl : t.length + s.length ≤ 1000) :
    (run p 0 (k + 1)).call 1 [.dict g1 (encT t), .dict g2 (encT s)] = some (.dict 0 (encT (addTb iadd t s))) := by
  rw [run_call, h.f1]
  dsimp only [fn1]
  walk_at "EV"
  rw [run_gen]
  refine mfor t (fun q => V.tup [vKey q.1, encM q.2]) (acF (.dict g1 (encT t)) (.dict g2 (encT s))) acCopy (fun rem x => x.acc.length + rem.length ≤ 1000) ⟨[], none, none⟩ (congrArg some (items_encT t)) rfl (Nat.le_trans (Nat.le_of_eq (Nat.zero_add _)) (Nat.le_trans (Nat.le_add_right _ _) hl)) (fun q r x hP => ⟨?_, ?_⟩) fun _ => ?_
  · obtain ⟨q1, q2⟩ := q
    obtain ⟨acc, k0, v0⟩ := x
    dsimp only [acF, acCopy]
    walk_at "EV"
    rw [if_pos (enc_fit (Nat.le_trans (Nat.add_le_add_left (Nat.le_add_left _ _) _) hP)), dset_encT]
    rfl
  · exact Nat.le_trans (Nat.add_le_add_right (tset_len ..) _) (Nat.le_trans (Nat.le_of_eq (Nat.add_right_comm ..)) hP)
  have hcp : (t.foldl acCopy ⟨[], none, none⟩).acc = t := copy_all t _ hn fun _ _ => List.not_mem_nil
  generalize t.foldl acCopy ⟨[], none, none⟩ = x1 at hcp ⊢
  rw [flK_next, exs_cons]
  refine mfor s (fun q => V.tup [vKey q.1, encM q.2]) (acF (.dict g1 (encT t)) (.dict g2 (encT s))) acAdd (fun rem x => x.acc.length + rem.length ≤ 1000 ∧ Kdd kd x.acc ∧ Kdd kd rem) x1 (congrArg some (items_encT s)) ?_ ⟨hcp.symm ▸ hl, hcp.symm ▸ ht, hs⟩ (fun q r x hx => ⟨?_, ?_, hx.2.1.step (hx.2.2 q (List.mem_cons_self ..)), fun z hz => hx.2.2 z (List.mem_cons_of_mem _ hz)⟩) fun _ => ?_
  · dsimp only [acF]
    walk_at "EV"
    simp only [fz_oS]
    rfl
  · obtain ⟨q1, q2⟩ := q
    obtain ⟨acc, k0, v0⟩ := x
    obtain ⟨hP, ha, hr⟩ := hx
    have hq : q2.kind = kd q1 := hr (q1, q2) (List.mem_cons_self ..)
    have hle := enc_fit (Nat.le_trans (Nat.add_le_add_left (Nat.le_add_left _ _) _) hP)
    dsimp only [acF, acAdd, addStep]
    walk_at "EV"
    rw [inV_dict, dget_encT]
    cases hg : tget q1 acc with
    | none =>
      dsimp only [Option.map_none, Option.isSome_none]
      walk_at "EV"
      rw [if_pos hle, dset_encT]
      rfl
    | some u =>
      dsimp only [Option.map_some, Option.isSome_some]
      walk_at "EV"
      have hu : u.kind = kd q1 := ha _ (tget_mem hg)
      rw [← hq] at hu
      cases u with
      | one u =>
        cases q2 with
        | two => exact Bool.noConfusion hu
        | one v =>
          dsimp only [encM]
          walk_at "EV"
          rw [if_pos hle]
          rw [show V.int (u + v) = encM (.one (u + v)) from rfl, dset_encT]
          rfl
      | two u u' =>
        cases q2 with
        | one => exact Bool.noConfusion hu
        | two v v' =>
          dsimp only [encM]
          walk_at "EV"
          rw [show addT (.tup [.int v, .int v']) (.tup [.int u, .int u']) = some (encM (.two (v + u) (v' + u'))) from rfl]
          walk_at "EV"
          rw [if_pos hle, dset_encT]
          rfl
  · exact Nat.le_trans (Nat.add_le_add_right (addStep_len ..) _) (Nat.le_trans (Nat.le_of_eq (Nat.add_right_comm ..)) hx.1)
  have hfin : (s.foldl acAdd x1).acc = addTb iadd t s := (add_all s x1).trans (hcp.symm ▸ rfl)
  rw [← hfin]
  dsimp only [acF]
  walk_at "EV"
theorem add2_ok (h : Sh p) {t s : Ti} {g1 g2 : Nat} {kd : K → Bool} (hn : (t.map (·.1)).Nodup) (ht : Kdd kd t) (hs : Kdd kd s) (hl : t.length + s.length ≤ 1000) {a b c d a' b' c' d' : Int} :
    (run p 0 (k + 2)).call 0 [.tup [.int a, .int b, .int c, .int d, .dict g1 (encT t)], .tup [.int a', .int b', .int c', .int d', .dict g2 (encT s)]] = some (.tup [.int (a' + a), .int (b' + b), .int (c' + c), .int (d' + d), .dict 0 (encT (addTb iadd t s))]) :=
  add_ok h (addc_ok h hn ht hs hl)
theorem cc_ok (h : Sh p) {es : List (K × Int)} {g : Nat} : (run p 0 (k + 1)).call 2 [.dict g (es.map fun q => (q.1, .int q.2))] = some (.int (es.map (·.2)).sum) := by
  rw [run_call, h.f2]
  dsimp only [fn2]
  walk_at "EV"
  refine mfor es (fun q => V.int q.2) (fun (x : Int × Option V) => [some (.v (.dict g (es.map fun q => (q.1, .int q.2)))), some (.v (.int x.1)), oS x.2]) (fun x q => (x.1 + q.2, some (.int q.2))) (fun rem x => x.1 + (rem.map (·.2)).sum = (es.map (·.2)).sum) (0, none) (congrArg some List.map_map) rfl (Int.zero_add _) (fun q r x hP => ⟨?_, ?_⟩) fun k2 => ?_
  · obtain ⟨q1, q2⟩ := q
    obtain ⟨x1, x2⟩ := x
    dsimp only
    walk_at "EV"
    rfl
  · exact (Int.add_assoc ..).trans hP
  generalize es.foldl _ _ = x at k2 ⊢
  rw [← k2]
  walk_at "EV"
  exact congrArg (fun z => some (V.int z)) (Int.add_zero _).symm
end
structure Sh2 (p : Prog) : Prop extends Sh p where
  f10 : p.fns[10]? = some fn10
  f11 : p.fns[11]? = some fn11
  f12 : p.fns[12]? = some fn12
  f13 : p.fns[13]? = some fn13
  f14 : p.fns[14]? = some fn14
  f15 : p.fns[15]? = some fn15
  f16 : p.fns[16]? = some fn16
  f17 : p.fns[17]? = some fn17
  f18 : p.fns[18]? = some fn18
  f19 : p.fns[19]? = some fn19
theorem sh2 : Sh2 p2 := ⟨⟨rfl, rfl, rfl, rfl, rfl, rfl, rfl, rfl, rfl, rfl, rfl⟩, rfl, rfl, rfl, rfl, rfl, rfl, rfl, rfl, rfl, rfl⟩
section
variable {p : Prog} {k : Nat}
noncomputable def markF (c : Nat) (w : Int) (st : List Int) : Mi := if c % 2 = 1 then .two w (w * st.getD c 0) else .one w
theorem mark_ok (h : Sh2 p) {c : Nat} {w : Int} {st : List Int} (hc : c < st.length) (hb : ∀ x ∈ st, bits w + bits x ≤ big) :
    (run p 0 (k + 1)).call 13 [.int c, .int w, .list (st.map .int)] = some (encM (markF c w st)) := by
  have e1 : (c : Int).fmod 2 = ((c % 2 : Nat) : Int) := fmod_nat c 2
  have e3 : (st.map V.int)[c]? = some (.int (st.getD c 0)) := by simp [hc]
  have e4 : binI .Mult w (st.getD c 0) = some (.int (w * st.getD c 0)) := mul_ok (hb _ (by simp [List.getD_eq_getElem?_getD, hc]))
  rw [run_call, h.f13]
  dsimp only [fn13]
  walk_at "EV"
  rw [mod_ok (show (2 : Int) ≠ 0 by decide), e1]
  walk_at "EV"
  unfold markF
  by_cases hp : c % 2 = 1
  · rw [if_pos hp, hp, show (((1 : Nat) : Int) == 1) = true from rfl]
    walk_at "EV"
    rw [sub_list, e3]
    walk_at "EV"
    rw [e4]
    rfl
  · rw [if_neg hp]
    have e5 : (((c % 2 : Nat) : Int) == 1) = false := beq_no fun q => hp (Int.ofNat.inj q)
    rw [e5]
    rfl
noncomputable def Cm.num {α : Type} : Cm α → Int
  | .one n => n
  | .two n _ => n
theorem often_ok (h : Sh2 p) {m : Mi} : (run p 0 (k + 1)).call 14 [encM m] = some (.int m.num) := by
  rw [run_call, h.f14]
  dsimp only [fn14]
  cases m <;> rfl
structure Ent (α : Type) where
  a : α
  b : α
  c : α
  d : α
  t : Tb α
abbrev Ei := Ent Int
noncomputable def encE (e : Ei) : V := .tup [.int e.a, .int e.b, .int e.c, .int e.d, .dict 0 (encT e.t)]
section
variable {α : Type}
noncomputable def scM (sm : Int → α → α) (w : Int) : Cm α → Cm α
  | .one n => .one (w * n)
  | .two n z => .two (w * n) (sm w z)
noncomputable def scE (sm : Int → α → α) (w : Int) (e : Ent α) : Ent α := ⟨sm w e.a, sm w e.b, sm w e.c, sm w e.d, e.t.map fun q => (q.1, scM sm w q.2)⟩
noncomputable def adE (ad : α → α → α) (e f : Ent α) : Ent α := ⟨ad f.a e.a, ad f.b e.b, ad f.c e.c, ad f.d e.d, addTb ad e.t f.t⟩
end
noncomputable def imul (x y : Int) : Int := x * y
noncomputable def Cm.sz : Mi → List Int
  | .one n => [n]
  | .two n z => [n, z]
noncomputable def Ent.sz (e : Ei) : List Int := [e.a, e.b, e.c, e.d] ++ e.t.flatMap fun q => q.2.sz
theorem tget_of_mem {α : Type} {q : K × Cm α} {t : Tb α} : (t.map (·.1)).Nodup → q ∈ t → tget q.1 t = some q.2 := by
  induction t with
  | nil => exact fun _ h => absurd h List.not_mem_nil
  | cons p r ih =>
    intro hn h
    have hn := List.nodup_cons.mp hn
    rcases List.mem_cons.mp h with e | e
    · subst e; exact tget_hit rfl
    · rw [tget_no fun (e' : q.1 = p.1) => hn.1 (List.mem_map.mpr ⟨q, e, e'⟩)]
      exact ih hn.2 e
structure TC where
  acc : Ti
  k : Option V
  m : Option V
noncomputable def tiF (e : Ei) (w : Int) (x : TC) : Fr := [some (.v (encE e)), some (.v (.int w)), some (.od 0 (encT x.acc)), oS x.k, oS x.m, none, none]
noncomputable def tiS (w : Int) (x : TC) (q : K × Mi) : TC := ⟨x.acc ++ [(q.1, scM imul w q.2)], some (vKey q.1), some (encM q.2)⟩
theorem tiS_all (w : Int) (t : Ti) : ∀ (x : TC), (t.foldl (tiS w) x).acc = x.acc ++ t.map fun q => (q.1, scM imul w q.2) := by
  induction t with
  | nil => exact fun x => (List.append_nil _).symm
  | cons q r ih => exact fun x => (ih (tiS w x q)).trans (List.append_assoc ..)
theorem times_ok (h : Sh2 p) {e : Ei} {w : Int} (hn : (e.t.map (·.1)).Nodup) (hl : e.t.length ≤ 1000) (hb : ∀ x ∈ e.sz, bits w + bits x ≤ big) :
    (run p 0 (k + 1)).call 15 [encE e, .int w] = some (encE (scE imul w e)) := by
  have hsz : ∀ x ∈ [e.a, e.b, e.c, e.d], binI .Mult w x = some (.int (w * x)) := fun x hx => mul_ok (hb x (List.mem_append_left _ hx))
  rw [run_call, h.f15]
  dsimp only [fn15]
  walk_at "EV"
  rw [run_gen]
  refine mfor e.t (fun q => vKey q.1) (tiF e w) (tiS w) (fun rem x => x.acc.length + rem.length ≤ 1000 ∧ (∀ q ∈ rem, q ∈ e.t) ∧ (rem.map (·.1)).Nodup ∧ ∀ q ∈ rem, q.1 ∉ x.acc.map (·.1)) ⟨[], none, none⟩ (congrArg some List.map_map) rfl ⟨Nat.le_trans (Nat.le_of_eq (Nat.zero_add _)) hl, fun _ h => h, hn, fun _ _ => List.not_mem_nil⟩ (fun q r x hx => ⟨?_, ?_⟩) fun _ => ?_
  · obtain ⟨q1, q2⟩ := q
    obtain ⟨acc, k0, m0⟩ := x
    obtain ⟨h1, h2, h3, h4⟩ := hx
    have hm := h2 (q1, q2) (List.mem_cons_self ..)
    have hg := tget_of_mem hn hm
    have hnew := h4 (q1, q2) (List.mem_cons_self ..)
    have hle := enc_fit (Nat.le_trans (Nat.add_le_add_left (Nat.le_add_left _ _) _) h1)
    have hset : ∀ m : Mi, dset q1 (encM m) (encT acc) = encT (acc ++ [(q1, m)]) := fun m => by rw [dset_encT, tset_new _ _ _ hnew]
    have hsz : ∀ x ∈ q2.sz, binI .Mult w x = some (.int (w * x)) := fun x hx => mul_ok (hb x (List.mem_append_right _ (List.mem_flatMap.mpr ⟨_, hm, hx⟩)))
    dsimp only [tiF, tiS, encE]
    walk_at "EV"
    simp only [fz_oS]
    walk_at "EV"
    rw [dget_encT, hg]
    walk_at "EV"
    cases q2 with
    | one n =>
      dsimp only [encM]
      walk_at "EV"
      rw [hsz n (List.mem_singleton.mpr rfl)]
      walk_at "EV"
      rw [if_pos hle, show V.int (w * n) = encM (scM imul w (.one n)) from rfl, hset]
      rfl
    | two n z =>
      dsimp only [encM]
      walk_at "EV"
      rw [hsz n (List.mem_cons_self ..), hsz z (List.mem_cons_of_mem _ (List.mem_singleton.mpr rfl))]
      walk_at "EV"
      rw [if_pos hle, show V.tup [.int (w * n), .int (w * z)] = encM (scM imul w (.two n z)) from rfl, hset]
      rfl
  · obtain ⟨h1, h2, h3, h4⟩ := hx
    have h3 := List.nodup_cons.mp h3
    refine ⟨?_, fun z hz => h2 z (List.mem_cons_of_mem _ hz), h3.2, fun z hz hm => ?_⟩
    · show (x.acc ++ [_]).length + r.length ≤ 1000
      rw [List.length_append]
      exact Nat.le_trans (Nat.le_of_eq (Nat.add_right_comm ..)) h1
    · have hm : z.1 ∈ (x.acc ++ [(q.1, scM imul w q.2)]).map (·.1) := hm
      rw [List.map_append] at hm
      exact (List.mem_append.mp hm).elim (h4 z (List.mem_cons_of_mem _ hz)) fun hm => h3.1 (List.mem_map.mpr ⟨z, hz, List.mem_singleton.mp hm⟩)
  have hall := tiS_all w e.t ⟨[], none, none⟩
  generalize e.t.foldl (tiS w) ⟨[], none, none⟩ = x at hall ⊢
  dsimp only [tiF]
  walk_at "EV"
  simp only [fz_oS]
  walk_at "EV"
  rw [lc_map [e.a, e.b, e.c, e.d] (fun i => V.int i) (fun i => V.int (w * i)) ?_ ?_ (show 4 ≤ big by decide)]
  · dsimp only [encE]
    walk_at "EV"
    rw [tup_add ?_, hall]
    rotate_left
    · exact (show 4 + 1 ≤ big by decide)
    exact congrArg (fun t => some (V.tup [.int (w * e.a), .int (w * e.b), .int (w * e.c), .int (w * e.d), .dict 0 (encT t)])) (List.nil_append _)
  · dsimp only [encE]
    walk_at "EV"
    rfl
  · intro i hi
    dsimp only [encE]
    walk_at "EV"
    rw [hsz i hi]
end
section
variable {p : Prog} {k : Nat}
noncomputable def rowV (r : List Int) : V := .list (r.map .int)
theorem getD_some {α : Type} {l : List α} {i : Nat} {d : α} (h : i < l.length) : l[i]? = some (l.getD i d) := by simp [h]
theorem map_getD {α : Type} {l : List α} {i : Nat} {d : α} {f : α → V} (h : i < l.length) : (l.map f)[i]? = some (f (l.getD i d)) := by simp [h]
theorem map_map_v {α β : Type} (f : β → V) (g : α → β) (l : List α) : l.map (fun x => f (g x)) = (l.map g).map f := by rw [List.map_map]; rfl
noncomputable def colF (rows : List (List Int)) (st : List Int) (b count carry : Nat) : List Int :=
  (((List.range count).map fun j => st.getD j 0 * (b : Int) ^ (count - j) * (rows.getD j []).getD carry 0) ++ [0, 0]).take 4
noncomputable def colsV (rows : List (List Int)) (st : List Int) (b count n : Nat) : List V := (List.range n).map fun c => V.tup ((colF rows st b count c).map .int)
structure CS where
  n : Nat
  c : Option V
  m : Option V
noncomputable def cF (rows : List (List Int)) (st : List Int) (b count : Nat) (x : CS) : Fr := [some (.v (.list (rows.map rowV))), some (.v (.list (st.map .int))), some (.v (.int b)), some (.v (.int count)), some (.ol (colsV rows st b count x.n)), oS x.c, oS x.m, none, none, none]
noncomputable def cFs (rows : List (List Int)) (st : List Int) (b count : Nat) (x : CS) (c : Nat) : CS := ⟨x.n + 1, some (.int c), some (.list (((List.range count).map fun j => st.getD j 0 * (b : Int) ^ (count - j) * (rows.getD j []).getD c 0).map V.int))⟩
theorem fold_count {α σ : Type} {f : σ → α → σ} {n : σ → Nat} (h : ∀ s a, n (f s a) = n s + 1) (l : List α) : ∀ (s : σ), n (l.foldl f s) = n s + l.length := by
  induction l with
  | nil => exact fun s => rfl
  | cons a r ih => exact fun s => (ih (f s a)).trans ((congrArg (· + r.length) (h s a)).trans (Nat.succ_add_eq_add_succ ..))
theorem colsV_succ {rows : List (List Int)} {st : List Int} {b count n : Nat} : colsV rows st b count (n + 1) = colsV rows st b count n ++ [V.tup ((colF rows st b count n).map .int)] := by
  unfold colsV; rw [List.range_succ, List.map_append]; rfl
theorem cols_ok (h : Sh2 p) {rows : List (List Int)} {st : List Int} {b count : Nat} (hr : rows.length = count) (hc : count ≤ 4) (hs : count ≤ st.length) (hb : b < 16) (hbs : ∀ x ∈ st, bits x ≤ 2 ^ 20) (hrr : ∀ r ∈ rows, count ≤ r.length ∧ ∀ x ∈ r, bits x ≤ 10) :
    (run p 0 (k + 1)).call 12 [.list (rows.map rowV), .list (st.map .int), .int b] = some (.list (colsV rows st b count count)) := by
  have hcb : count ≤ big := Nat.le_trans hc (by decide)
  rw [run_call, h.f12]
  dsimp only [fn12]
  walk_at "EV"
  rw [List.length_map, hr]
  refine mfor (List.range count) (fun (j : Nat) => V.int (j : Int)) (cF rows st b count) (cFs rows st b count) (fun rem x => rem = List.range' x.n (count - x.n)) ⟨0, none, none⟩ (itm_rng hcb) rfl List.range_eq_range' (fun x r s hP => ?_) fun _ => ?_
  · obtain ⟨n, c0, m0⟩ := s
    have hP : x :: r = List.range' n (count - n) := hP
    have hn : n < count := by
      rcases Nat.lt_or_ge n count with q | q
      · exact q
      · rw [Nat.sub_eq_zero_of_le q] at hP; cases hP
    obtain ⟨d, hd⟩ := Nat.exists_eq_add_of_lt hn
    rw [show count - n = d + 1 by rw [hd, Nat.add_assoc, Nat.add_sub_cancel_left], List.range'_succ] at hP
    obtain ⟨hx, hr'⟩ := List.cons.inj hP
    subst hx
    refine ⟨?_, hr'.trans (congrArg (List.range' (x + 1)) (show d = count - (x + 1) by rw [hd, Nat.add_right_comm, Nat.add_sub_cancel_left]))⟩
    dsimp only [cF, cFs]
    walk_at "EV"
    simp only [fz_oS]
    walk_at "EV"
    rw [lc_map (List.range count) (fun (j : Nat) => V.int (j : Int)) (fun j => V.int (st.getD j 0 * (b : Int) ^ (count - j) * (rows.getD j []).getD x 0)) ?_ (fun j hj => ?_) (List.length_range ▸ hcb)]
    · walk_at "EV"
      rw [map_map_v, list_add ?_]
      · walk_at "EV"
        rw [cutT_l' (by decide)]
        walk_at "EV"
        rw [if_pos ?_, colsV_succ]
        · unfold colF
          rw [List.map_take, List.map_append]
          rfl
        · unfold colsV
          rw [List.length_map, List.length_range]
          exact Nat.le_trans (Nat.le_trans hn hc) (by decide)
      · rw [List.length_map, List.length_map, List.length_range]
        exact Nat.le_trans (Nat.add_le_add_right hc 2) (by decide)
    · walk_at "EV"
      rw [itm_rng hcb]
    · have hj : j < count := List.mem_range.mp hj
      have e1 : (count : Int) - j = ((count - j : Nat) : Int) := by omega
      have e2 : (st.map V.int)[j]? = some (.int (st.getD j 0)) := map_getD (by omega)
      have e3 : (rows.map rowV)[j]? = some (rowV (rows.getD j [])) := map_getD (by omega)
      have hmr : rows.getD j [] ∈ rows := by
        rw [List.getD_eq_getElem?_getD, List.getElem?_eq_getElem (by omega)]
        exact List.getElem_mem _
      have hms : st.getD j 0 ∈ st := by
        rw [List.getD_eq_getElem?_getD, List.getElem?_eq_getElem (by omega)]
        exact List.getElem_mem _
      obtain ⟨r1, r2⟩ := hrr _ hmr
      have e4 : ((rows.getD j []).map V.int)[x]? = some (.int ((rows.getD j []).getD x 0)) := map_getD (by omega)
      have hmx : (rows.getD j []).getD x 0 ∈ rows.getD j [] := by
        rw [List.getD_eq_getElem?_getD (l := rows.getD j []), List.getElem?_eq_getElem (by omega)]
        exact List.getElem_mem _
      have b1 : bits (b : Int) ≤ 4 := bits_le (by simp only [Int.natAbs_natCast]; omega)
      have p1 : binI .Pow (b : Int) ((count - j : Nat) : Int) = some (.int ((b : Int) ^ (count - j))) := pow_ok (by
        have : bits (b : Int) * (count - j) ≤ 4 * 4 := Nat.mul_le_mul b1 (by omega)
        rw [big_eq]; omega)
      have b2 : bits ((b : Int) ^ (count - j)) ≤ 17 := bits_le (by
        rw [Int.natAbs_pow, Int.natAbs_natCast]
        have h1 : b ^ (count - j) ≤ 16 ^ (count - j) := Nat.pow_le_pow_left (by omega) _
        have h2 : 16 ^ (count - j) ≤ 16 ^ 4 := Nat.pow_le_pow_right (by decide) (by omega)
        omega)
      have b3 := hbs _ hms
      have b4 := r2 _ hmx
      have p2 : binI .Mult (st.getD j 0) ((b : Int) ^ (count - j)) = some (.int (st.getD j 0 * (b : Int) ^ (count - j))) := mul_ok (by rw [big_eq]; omega)
      have p3 : binI .Mult (st.getD j 0 * (b : Int) ^ (count - j)) ((rows.getD j []).getD x 0) = some (.int (st.getD j 0 * (b : Int) ^ (count - j) * (rows.getD j []).getD x 0)) := mul_ok (by
        have := bits_mul b3 b2
        rw [big_eq]; omega)
      walk_at "EV"
      rw [sub_list, e2]
      walk_at "EV"
      rw [e1, p1]
      walk_at "EV"
      rw [p2]
      walk_at "EV"
      rw [sub_list, e3]
      walk_at "EV"
      dsimp only [rowV]
      rw [sub_list, e4]
      walk_at "EV"
      rw [p3]
  have hn : ((List.range count).foldl (cFs rows st b count) ⟨0, none, none⟩).n = count := by
    rw [fold_count (n := CS.n) (fun s a => rfl), List.length_range]
    exact Nat.zero_add _
  generalize (List.range count).foldl (cFs rows st b count) ⟨0, none, none⟩ = x at hn ⊢
  rw [← hn]
  dsimp only [cF]
  walk_at "EV"
noncomputable def lpairs (count b : Nat) (shift side : Int) : List V := (List.range (count * b)).map fun t => V.tup [.int ((t / b : Nat) + shift), .int (side * (t % b : Nat))]
theorem pairs_ok (h : Sh2 p) {count b : Nat} {shift side : Int} (hc : count ≤ 4) (hb : 1 ≤ b) (hb' : b < 16) (hs : shift.natAbs ≤ 50) (hsd : side = 1 ∨ side = -1) :
    (run p 0 (k + 28)).call 16 [.int count, .int b, .int shift, .int side] = some (.list (lpairs count b shift side)) := by
  have bb : bits (b : Int) ≤ 4 := bits_le (by simp only [Int.natAbs_natCast]; omega)
  have bs : bits shift ≤ 6 := bits_le (by omega)
  have bd : bits side ≤ 1 := by rcases hsd with q | q <;> subst q <;> decide
  have m1 : binI .Mult (count : Int) b = some (.int ((count * b : Nat) : Int)) := by
    have : bits (count : Int) ≤ 3 := bits_le (by simp only [Int.natAbs_natCast]; omega)
    rw [mul_ok (by rw [big_eq]; omega)]; push_cast; rfl
  have hcb : count * b ≤ 64 := by
    have : count * b ≤ 4 * 16 := Nat.mul_le_mul hc (by omega)
    omega
  have m2 : binI .Mult shift (b : Int) = some (.int (shift * b)) := mul_ok (by rw [big_eq]; omega)
  have m3 : binI .Mult side (b : Int) = some (.int (side * b)) := mul_ok (by rw [big_eq]; omega)
  rw [run_call, h.f16]
  dsimp only [fn16]
  walk_at "EV"
  rw [lc_map (List.range (count * b)) (fun (t : Nat) => V.int (t : Int)) (fun t => V.tup [.int ((t / b : Nat) + shift), .int (side * (t % b : Nat))]) ?_ (fun t ht => ?_) (by rw [List.length_range, big_eq]; omega)]
  · rfl
  · walk_at "EV"
    rw [m1]
    walk_at "EV"
    rw [itm_rng (by rw [big_eq]; omega)]
  · have ht : t < count * b := List.mem_range.mp ht
    have bq : bits ((t : Int) + shift * b) ≤ 11 := bits_add (n := 10) (bits_le (by simp only [Int.natAbs_natCast]; omega)) (by have := bits_mul bs bb; omega)
    have m4 : binI .Mult side ((t : Int) + shift * b) = some (.int (side * ((t : Int) + shift * b))) := mul_ok (by rw [big_eq]; omega)
    have hb0 : side * (b : Int) ≠ 0 := by rcases hsd with q | q <;> subst q <;> omega
    have c8 := dm_ok (g := 0) (k := k + 21) h.toSh hb0 (by rcases hsd with q | q <;> subst q <;> omega) (show bits (side * ((t : Int) + shift * b)) ≤ 2 ^ 21 by have := bits_mul bd bq; omega) (by omega)
    walk_at "EV"
    rw [m2]
    walk_at "EV"
    rw [m4]
    walk_at "EV"
    rw [m3]
    walk_at "EV"
    rw [c8]
    have q1 : (side * ((t : Int) + shift * b)).fdiv (side * b) = (t / b : Nat) + shift := by
      have e : ((t : Int) + shift * b).fdiv b = (t / b : Nat) + shift := by
        rw [Int.fdiv_eq_ediv_of_nonneg _ (by omega), Int.add_mul_ediv_right _ _ (by omega)]; rfl
      rcases hsd with q | q <;> subst q
      · rw [Int.one_mul, Int.one_mul, e]
      · rw [Int.neg_mul, Int.one_mul, Int.neg_mul, Int.one_mul, Int.neg_fdiv_neg, e]
    have q2 : (side * ((t : Int) + shift * b)).fmod (side * b) = side * (t % b : Nat) := by
      have hd := Int.mul_fdiv_add_fmod (side * ((t : Int) + shift * b)) (side * b)
      rw [q1] at hd
      have hm : (t : Int) = b * (t / b : Nat) + (t % b : Nat) := by exact_mod_cast (Nat.div_add_mod t b).symm
      generalize ((t / b : Nat) : Int) = Q at hd hm
      generalize ((t % b : Nat) : Int) = R at hd hm ⊢
      have : (side * ((t : Int) + shift * b)) = side * b * (Q + shift) + side * R := by
        rw [hm, Int.mul_add side, Int.mul_add side, Int.mul_assoc side, Int.mul_add (b : Int), Int.mul_add side, Int.mul_comm shift]; omega
      rw [this] at hd
      rw [this]; omega
    rw [q1, q2]
end
section
variable {α : Type}
noncomputable def waysF (spread : List Nat) (outs : List Int) (out carry : Nat) : Int := (((List.range spread.length).filter fun d => outs.getD (carry + d) 0 == (out : Int)).map fun d => ((spread.getD d 0 : Nat) : Int)).sum
noncomputable def nilE (z : α) : Ent α := ⟨z, z, z, z, []⟩
noncomputable def ledOne (ad : α → α → α) (sm : Int → α → α) (z : α) (es : List (Ent α)) (spread : List Nat) (outs : List Int) (out : Nat) (made : Ent α) (c : Nat) : Ent α := adE ad made (scE sm (waysF spread outs out c) (es.getD c (nilE z)))
noncomputable def ledG (ad : α → α → α) (sm : Int → α → α) (z : α) (es : List (Ent α)) (spread : List Nat) (outs : List Int) : List (Ent α) :=
  (List.range es.length).map fun out => (List.range es.length).foldl (ledOne ad sm z es spread outs out) (nilE z)
theorem addT_len {ad : α → α → α} (s : Tb α) : ∀ (t : Tb α), (addTb ad t s).length ≤ t.length + s.length := by
  induction s with
  | nil => exact fun t => Nat.le_refl _
  | cons q s ih => exact fun t => Nat.le_trans (ih _) (Nat.le_trans (Nat.add_le_add_right (addStep_len t q) _) (Nat.le_of_eq (Nat.succ_add_eq_add_succ ..)))
theorem tset_keys {k : K} {v : Cm α} {t : Tb α} : (t.map (·.1)).Nodup → ((tset k v t).map (·.1)).Nodup := by
  induction t with
  | nil => exact fun _ => List.nodup_cons.mpr ⟨List.not_mem_nil, List.nodup_nil⟩
  | cons p r ih =>
    intro h
    by_cases hk : k = p.1
    · rw [tset_hit hk]; exact h
    · rw [tset_no hk]
      have h := List.nodup_cons.mp h
      refine List.nodup_cons.mpr ⟨fun hm => ?_, ih h.2⟩
      obtain ⟨q, hq, e⟩ := List.mem_map.mp hm
      exact (tset_mem hq).elim (fun y => h.1 (List.mem_map.mpr ⟨q, y, e⟩)) fun y => hk (by rw [y] at e; exact e)
theorem addT_keys {ad : α → α → α} (s : Tb α) : ∀ (t : Tb α), (t.map (·.1)).Nodup → ((addTb ad t s).map (·.1)).Nodup := by
  induction s with
  | nil => exact fun t h => h
  | cons q s ih => exact fun t h => ih _ (tset_keys h)
end
structure LS where
  made : Ei
  c : Option V
  w : Option V
noncomputable def lF (es outs : List V) (b count : Nat) (width : Int) (spread : List V) (done : List V) (out : V) (x : LS) : Fr :=
  [some (.v (.list es)), some (.v (.int b)), some (.v (.list outs)), some (.v (.int width)), some (.v (.int count)), some (.v (.list spread)), some (.ol done), some (.v out), some (.v (encE x.made)), oS x.c, oS x.w, none, none, none, none, none, none, none]
noncomputable def lFs (es : List Ei) (spread : List Nat) (outs : List Int) (out : Nat) (x : LS) (c : Nat) : LS := ⟨ledOne iadd imul 0 es spread outs out x.made c, some (.int c), some (.int (waysF spread outs out c))⟩
structure OS where
  done : List Ei
  out : Option V
  made : Option V
  c : Option V
  w : Option V
noncomputable def oF (es outs : List V) (b count : Nat) (width : Int) (spread : List V) (x : OS) : Fr :=
  [some (.v (.list es)), some (.v (.int b)), some (.v (.list outs)), some (.v (.int width)), some (.v (.int count)), some (.v (.list spread)), some (.ol (x.done.map encE)), oS x.out, oS x.made, oS x.c, oS x.w, none, none, none, none, none, none, none]
noncomputable def oFs (es : List Ei) (spread : List Nat) (outs : List Int) (count : Nat) (x : OS) (out : Nat) : OS :=
  let y := (List.range count).foldl (lFs es spread outs out) ⟨nilE 0, x.c, x.w⟩
  ⟨x.done ++ [y.made], some (.int out), some (encE y.made), y.c, y.w⟩
structure EntOk (kd : K → Bool) (es : List Ei) : Prop where
  kd : ∀ e ∈ es, Kdd kd e.t
  nd : ∀ e ∈ es, (e.t.map (·.1)).Nodup
  len : ∀ e ∈ es, e.t.length ≤ 8
  sz : ∀ e ∈ es, ∀ x ∈ e.sz, bits x ≤ 2 ^ 21
theorem intsOf_map (xs : List Int) : intsOf (xs.map .int) = some xs := by
  induction xs with
  | nil => rfl
  | cons x r ih => exact congrArg (Option.map (x :: ·)) ih
theorem sum_ints (xs : List Int) : sumV (.list (xs.map .int)) = some (.int xs.sum) := congrArg (Option.map fun ns : List Int => V.int ns.sum) (intsOf_map xs)
theorem sum_map {α : Type} {g : α → Int} {l : List α} : sumV (.list (l.map fun d => V.int (g d))) = some (.int (l.map g).sum) := (congrArg (fun z => sumV (.list z)) List.map_map.symm).trans (sum_ints _)
theorem flat_filter {α : Type} {c : α → Bool} {f : α → V} (xs : List α) : (xs.flatMap fun x => bif c x then [f x] else []) = (xs.filter c).map f := by
  induction xs with
  | nil => rfl
  | cons x r ih =>
    rw [List.flatMap_cons, ih, List.filter_cons]
    cases c x <;> rfl
theorem sum_lt {B : Nat} {xs : List Int} : (∀ x ∈ xs, x.natAbs ≤ B) → xs.sum.natAbs ≤ B * xs.length := by
  induction xs with
  | nil => exact fun _ => Nat.zero_le _
  | cons x r ih =>
    intro h
    have h2 := ih fun y hy => h y (List.mem_cons_of_mem _ hy)
    rw [List.sum_cons, List.length_cons, Nat.mul_add, Nat.mul_one, Nat.add_comm]
    exact Nat.le_trans (Int.natAbs_add_le ..) (Nat.add_le_add (h x (List.mem_cons_self ..)) h2)
theorem getD_mem {α : Type} {l : List α} {i : Nat} {d : α} (h : i < l.length) : l.getD i d ∈ l := by
  rw [List.getD_eq_getElem?_getD, List.getElem?_eq_getElem h]
  exact List.getElem_mem _
theorem ways_bits {spread : List Nat} {outs : List Int} {out c : Nat} (hs : ∀ d ∈ spread, d < 2 ^ 16) (hl : spread.length ≤ 64) : bits (waysF spread outs out c) ≤ 23 := bits_le (by
  refine Nat.lt_of_le_of_lt (sum_lt (B := 2 ^ 16) fun x hx => ?_) (Nat.lt_of_le_of_lt (Nat.mul_le_mul_left _ (Nat.le_trans (Nat.le_of_eq (List.length_map ..)) (Nat.le_trans (List.length_filter_le ..) (Nat.le_trans (Nat.le_of_eq List.length_range) hl)))) (by decide))
  obtain ⟨d, hd, e⟩ := List.mem_map.mp hx
  subst e
  exact Nat.le_of_lt (hs _ (getD_mem (List.mem_range.mp (List.mem_filter.mp hd).1))))
section
variable {p : Prog} {k : Nat}
theorem ilt {c d a b n : Nat} (h1 : c < a) (h2 : d < b) (h3 : a + b ≤ n + 1) : c + d < n := by omega
theorem made_all {es : List Ei} {spread : List Nat} {outs : List Int} (out : Nat) (l : List Nat) : ∀ (x : LS), (l.foldl (lFs es spread outs out) x).made = l.foldl (ledOne iadd imul 0 es spread outs out) x.made := by
  induction l with
  | nil => exact fun x => rfl
  | cons c r ih => exact fun x => ih _
theorem done_all {es : List Ei} {spread : List Nat} {outs : List Int} {count : Nat} (l : List Nat) : ∀ (x : OS), (l.foldl (oFs es spread outs count) x).done = x.done ++ l.map fun out => (List.range count).foldl (ledOne iadd imul 0 es spread outs out) (nilE 0) := by
  induction l with
  | nil => exact fun x => (List.append_nil _).symm
  | cons a r ih =>
    intro x
    rw [List.foldl_cons, ih]
    show (x.done ++ [((List.range count).foldl (lFs es spread outs a) ⟨nilE 0, x.c, x.w⟩).made]) ++ _ = _
    rw [made_all, List.append_assoc]
    rfl
theorem led_ok (h : Sh2 p) {kd : K → Bool} {es : List Ei} {b count : Nat} {outs : List Int} {width : Int} {spread : List Nat} {v : Nat} (ok : EntOk kd es) (hc : es.length = count) (hc4 : count ≤ 4) (hb : b < 16)
    (h6 : (run p 0 (k + 2)).call 6 [.list (List.replicate b (.int 1)), .int width] = some (.int v)) (hp : bits (v : Int) * count ≤ big) (h5 : (run p 0 (k + 2)).call 5 [.int ((v : Int) ^ count), .int width] = some (.list (dV spread)))
    (hs : ∀ d ∈ spread, d < 2 ^ 16) (hl : spread.length ≤ 64) (ho : count + spread.length ≤ outs.length + 1) :
    (run p 0 (k + 3)).call 17 [.list (es.map encE), .int b, .list (outs.map .int), .int width] = some (.list ((ledG iadd imul 0 es spread outs).map encE)) := by
  have hcb : count ≤ big := Nat.le_trans hc4 (by decide)
  have hsb : spread.length ≤ big := Nat.le_trans hl (by decide)
  rw [run_call, h.f17]
  dsimp only [fn17]
  walk_at "EV"
  rw [rep_ok (Nat.le_trans (Nat.le_of_lt hb) (by decide))]
  walk_at "EV"
  rw [h6]
  walk_at "EV"
  rw [List.length_map, hc, pow_ok hp]
  walk_at "EV"
  rw [h5]
  walk_at "EV"
  refine mfor (List.range count) (fun (j : Nat) => V.int (j : Int)) (oF (es.map encE) (outs.map .int) b count width (dV spread)) (oFs es spread outs count) (fun rem x => x.done.length + rem.length = count) ⟨[], none, none, none, none⟩ (itm_rng hcb) rfl ((Nat.zero_add _).trans List.length_range) (fun out r x h1 => ⟨?_, ?_⟩) fun _ => ?_
  · obtain ⟨done, o0, m0, c0, w0⟩ := x
    dsimp only [oF, oFs]
    walk_at "EV"
    simp only [fz_oS]
    walk_at "EV"
    rw [run_gen]
    refine bfor (List.range count) (fun (j : Nat) => V.int (j : Int)) (lF (es.map encE) (outs.map .int) b count width (dV spread) (done.map encE) (.int out)) (lFs es spread outs out) (fun rem x => Kdd kd x.made.t ∧ (x.made.t.map (·.1)).Nodup ∧ x.made.t.length + 8 * rem.length ≤ 100 ∧ ∀ c ∈ rem, c < count) ⟨nilE 0, c0, w0⟩ ?_ ?_ ?_ (fun c r x hx => ?_) fun _ => ?_
    · walk_at "EV"
      rw [itm_rng hcb]
    · dsimp only [lF]
      walk_at "EV"
      simp only [fz_oS]
      rfl
    · refine ⟨fun q hq => absurd hq List.not_mem_nil, List.nodup_nil, ?_, fun c hc => List.mem_range.mp hc⟩
      rw [List.length_range]
      exact Nat.le_trans (Nat.le_of_eq (Nat.zero_add _)) (Nat.le_trans (Nat.mul_le_mul_left 8 hc4) (by decide))
    · obtain ⟨made, c0, w0⟩ := x
      obtain ⟨h1, h2, h3, h4⟩ := hx
      have hcc : c < count := h4 c (List.mem_cons_self ..)
      have hme : es.getD c (nilE 0) ∈ es := getD_mem (hc ▸ hcc)
      have hk := ok.kd _ hme
      have hl8 := ok.len _ hme
      have hwb := ways_bits (outs := outs) (out := out) (c := c) hs hl
      have hl8' : (scE imul (waysF spread outs out c) (es.getD c (nilE 0))).t.length ≤ 8 := Nat.le_trans (Nat.le_of_eq (List.length_map ..)) hl8
      have h3' : made.t.length + 8 * r.length + 8 ≤ 100 := h3
      have c15 := times_ok (p := p) (k := k + 1) h (e := es.getD c (nilE 0)) (w := waysF spread outs out c) (ok.nd _ hme) (Nat.le_trans hl8 (by decide)) (fun x hx => Nat.le_trans (Nat.add_le_add hwb (ok.sz _ hme x hx)) (by decide))
      have hkd : Kdd kd (scE imul (waysF spread outs out c) (es.getD c (nilE 0))).t := fun q hq => by
        obtain ⟨q', hq', e⟩ := List.mem_map.mp hq
        subst e
        exact Eq.trans (show (scM imul (waysF spread outs out c) q'.2).kind = q'.2.kind by cases q'.2 <;> rfl) (hk q' hq')
      have c0' := add2_ok (p := p) (k := k) (g1 := 0) (g2 := 0) h.toSh h2 h1 hkd (Nat.le_trans (Nat.add_le_add (Nat.le_trans (Nat.le_add_right ..) h3) hl8') (by decide)) (a := made.a) (b := made.b) (c := made.c) (d := made.d) (a' := (scE imul (waysF spread outs out c) (es.getD c (nilE 0))).a) (b' := (scE imul (waysF spread outs out c) (es.getD c (nilE 0))).b) (c' := (scE imul (waysF spread outs out c) (es.getD c (nilE 0))).c) (d' := (scE imul (waysF spread outs out c) (es.getD c (nilE 0))).d)
      have e3 : (es.map encE)[c]? = some (encE (es.getD c (nilE 0))) := map_getD (hc ▸ hcc)
      refine ⟨?_, Kdd.add h1 hkd, addT_keys _ _ h2, ?_, fun z hz => h4 z (List.mem_cons_of_mem _ hz)⟩
      · dsimp only [lF, lFs]
        walk_at "EV"
        simp only [fz_oS]
        walk_at "EV"
        rw [lc_run (List.range spread.length) (fun (d : Nat) => V.int (d : Int)) (fun d => bif outs.getD (c + d) 0 == (out : Int) then [V.int ((spread.getD d 0 : Nat) : Int)] else []) ?hit (fun d hd => ?hd) ?hl, flat_filter]
        rotate_left
        case hit =>
          walk_at "EV"
          rw [show (dV spread).length = spread.length from List.length_map .., itm_rng hsb]
        case hl =>
          rw [flat_filter, List.length_map]
          exact Nat.le_trans (List.length_filter_le ..) (Nat.le_trans (Nat.le_of_eq List.length_range) hsb)
        case hd =>
          have hd : d < spread.length := List.mem_range.mp hd
          have e3 : (outs.map V.int)[c + d]? = some (.int (outs.getD (c + d) 0)) := map_getD (ilt hcc hd ho)
          have e4 : (dV spread)[d]? = some (.int ((spread.getD d 0 : Nat) : Int)) := map_getD (d := 0) hd
          walk_at "EV"
          rw [show (c : Int) + d = ((c + d : Nat) : Int) from rfl, sub_list, e3]
          walk_at "EV"
          cases hq : outs.getD (c + d) 0 == (out : Int) with
          | false => rfl
          | true =>
            walk_at "EV"
            rw [sub_list, e4]
            rfl
        · walk_at "EV"
          rw [sum_map]
          walk_at "EV"
          rw [sub_list, e3]
          walk_at "EV"
          rw [show (((List.range spread.length).filter fun d => outs.getD (c + d) 0 == (out : Int)).map fun d => ((spread.getD d 0 : Nat) : Int)).sum = waysF spread outs out c from rfl, c15]
          walk_at "EV"
          rw [show (run p 0 (k + 2)).call 0 [encE made, encE (scE imul (waysF spread outs out c) (es.getD c (nilE 0)))] = some (encE (ledOne iadd imul 0 es spread outs out made c)) from c0']
          rfl
      · show (addTb iadd made.t _).length + 8 * r.length ≤ 100
        exact Nat.le_trans (Nat.add_le_add_right (Nat.le_trans (addT_len ..) (Nat.add_le_add_left hl8' _)) _) (Nat.le_trans (Nat.le_of_eq (Nat.add_right_comm ..)) h3')
    generalize (List.range count).foldl (lFs es spread outs out) ⟨nilE 0, c0, w0⟩ = y
    dsimp only [lF]
    walk_at "EV"
    simp only [fz_oS]
    walk_at "EV"
    rw [if_pos ?_]
    · rw [List.map_append]
      rfl
    · rw [List.length_map]
      exact Nat.le_trans (Nat.le_trans (Nat.le_add_right _ r.length) (Nat.le_of_eq ((Nat.succ_add_eq_add_succ ..).trans h1))) hcb
  · show (x.done ++ [_]).length + r.length = count
    rw [List.length_append]
    exact (Nat.succ_add_eq_add_succ ..).trans h1
  have hfin := done_all (es := es) (spread := spread) (outs := outs) (count := count) (List.range count) ⟨[], none, none, none, none⟩
  generalize (List.range count).foldl (oFs es spread outs count) ⟨[], none, none, none, none⟩ = x at hfin ⊢
  unfold ledG
  rw [hc]
  dsimp only [oF]
  walk_at "EV"
  rw [hfin]
  rfl
end
noncomputable def addP : List Nat → List Nat → List Nat
  | [], q => q
  | a :: p, q => match q with
    | [] => a :: p
    | b :: q => (a + b) :: addP p q
noncomputable def mulP : List Nat → List Nat → List Nat
  | [], _ => []
  | a :: p, q => addP (q.map (a * ·)) (0 :: mulP p q)
noncomputable def powP (p : List Nat) : Nat → List Nat
  | 0 => [1]
  | n + 1 => mulP p (powP p n)
theorem valN_add (w : Nat) (p : List Nat) : ∀ q : List Nat, valN w (addP p q) = valN w p + valN w q := by
  induction p with
  | nil => exact fun q => (Nat.zero_add _).symm
  | cons a p ih =>
    intro q
    cases q with
    | nil => rfl
    | cons b q =>
      show a + b + 2 ^ w * valN w (addP p q) = a + 2 ^ w * valN w p + (b + 2 ^ w * valN w q)
      rw [ih, Nat.mul_add, Nat.add_add_add_comm]
theorem valN_scale (w a : Nat) (q : List Nat) : valN w (q.map (a * ·)) = a * valN w q := by
  induction q with
  | nil => rfl
  | cons b q ih =>
    show a * b + 2 ^ w * valN w (q.map (a * ·)) = a * (b + 2 ^ w * valN w q)
    rw [ih, Nat.mul_add, Nat.mul_left_comm]
theorem valN_mul (w : Nat) (p q : List Nat) : valN w (mulP p q) = valN w p * valN w q := by
  induction p with
  | nil => exact (Nat.zero_mul _).symm
  | cons a p ih =>
    show valN w (addP (q.map (a * ·)) (0 :: mulP p q)) = (a + 2 ^ w * valN w p) * valN w q
    rw [valN_add, valN_scale, Nat.add_mul, Nat.mul_assoc, ← ih]
    exact congrArg (a * valN w q + ·) (Nat.zero_add _)
theorem valN_pow (w : Nat) (p : List Nat) (n : Nat) : valN w (powP p n) = valN w p ^ n := by
  induction n with
  | zero => rfl
  | succ n ih =>
    show valN w (mulP p (powP p n)) = _
    rw [valN_mul, ih, Nat.pow_succ, Nat.mul_comm]
theorem natDigs_val {w : Nat} {cs : List Nat} : (∀ d ∈ cs, d < 2 ^ w) → natDigs w cs.length (valN w cs) = cs := by
  induction cs with
  | nil => exact fun _ => rfl
  | cons d r ih =>
    intro h
    have hd := h d (List.mem_cons_self ..)
    show natDigs w (r.length + 1) (d + 2 ^ w * valN w r) = _
    rw [natDigs_succ, Nat.add_mul_mod_self_left, Nat.mod_eq_of_lt hd, Nat.add_mul_div_left _ _ (Nat.two_pow_pos w), Nat.div_eq_of_lt hd, Nat.zero_add, ih fun x hx => h x (List.mem_cons_of_mem _ hx)]
theorem valN_ge {w : Nat} {cs : List Nat} : cs.getLast? = some 1 → 2 ^ (w * (cs.length - 1)) ≤ valN w cs := by
  induction cs with
  | nil => exact nos
  | cons d r ih =>
    intro h
    cases r with
    | nil => cases h; exact Nat.le_refl _
    | cons e r =>
      refine Nat.le_trans ?_ (Nat.le_add_left ..)
      show 2 ^ (w * (r.length + 1)) ≤ 2 ^ w * valN w (e :: r)
      rw [Nat.mul_add, Nat.mul_one, Nat.pow_add, Nat.mul_comm]
      exact Nat.mul_le_mul_left _ (ih h)
noncomputable def spr (b n : Nat) : List Nat := powP (List.replicate b 1) n
section
variable {p : Prog} {k : Nat}
theorem ones_dV (b : Nat) : dV (List.replicate b 1) = List.replicate b (.int 1) := List.map_replicate
theorem spr_ok (h : Sh p) {b n w : Nat} (hw : 16 ≤ w) (hw' : w ≤ 65) (hb : 1 ≤ b) (hb' : b ≤ 12) (hn : n ≤ 5) (hk : 6 ≤ k) (h1 : ∀ d ∈ spr b n, d < 2 ^ 16) (h2 : (spr b n).getLast? = some 1) (h3 : (spr b n).length ≤ 64) :
    ∃ v : Nat, (run p 0 (k + 2)).call 6 [.list (List.replicate b (.int 1)), .int w] = some (.int v) ∧ bits (v : Int) * n ≤ big ∧ (run p 0 (k + 2)).call 5 [.int ((v : Int) ^ n), .int w] = some (.list (dV (spr b n))) := by
  have hk2 : 2 ^ 6 ≤ 2 ^ k := Nat.pow_le_pow_right (by decide) hk
  have hpw : 2 ^ 16 ≤ 2 ^ w := Nat.pow_le_pow_right (by decide) hw
  refine ⟨valN w (List.replicate b 1), ?_, ?_, ?_⟩
  · rw [← ones_dV]
    refine d2i_ok h (by omega) (fun d hd => ?_) (by rw [List.length_replicate]; omega) (by
      rw [List.length_replicate]
      have : w * b ≤ 65 * 12 := Nat.mul_le_mul hw' hb'
      omega)
    have := List.eq_of_mem_replicate hd
    omega
  · have hv := valN_lt (n := w) (xs := List.replicate b 1) fun d hd => by have := List.eq_of_mem_replicate hd; omega
    rw [List.length_replicate] at hv
    have hbv : bits ((valN w (List.replicate b 1) : Nat) : Int) ≤ w * b := bits_le (by simpa using hv)
    have : w * b ≤ 65 * 12 := Nat.mul_le_mul hw' hb'
    have : bits ((valN w (List.replicate b 1) : Nat) : Int) * n ≤ (65 * 12) * 5 := Nat.mul_le_mul (by omega) hn
    rw [big_eq]; omega
  · have e : ((valN w (List.replicate b 1) : Nat) : Int) ^ n = ((valN w (spr b n) : Nat) : Int) := by
      unfold spr; rw [valN_pow]; push_cast; rfl
    have hd : ∀ d ∈ spr b n, d < 2 ^ w := fun d hd => Nat.lt_of_lt_of_le (h1 d hd) hpw
    have hlt := valN_lt hd
    have hge := valN_ge (w := w) h2
    have hlp : 1 ≤ (spr b n).length := by
      cases q : spr b n with
      | nil => rw [q] at h2; simp at h2
      | cons => simp
    have b1 : bits ((valN w (spr b n) : Nat) : Int) ≤ w * (spr b n).length := bits_le (by simpa using hlt)
    have b2 : w * ((spr b n).length - 1) < bits ((valN w (spr b n) : Nat) : Int) := by
      have h3 := nat_bits (valN w (spr b n))
      exact (Nat.pow_lt_pow_iff_right (by decide)).mp (Nat.lt_of_le_of_lt hge h3)
    have b3 : w * ((spr b n).length - 1) + w = w * (spr b n).length := by
      rw [← Nat.mul_succ]; congr 1; omega
    have hlen : (spr b n).length = (bits ((valN w (spr b n) : Nat) : Int) + w - 1) / w := by
      symm
      apply Nat.div_eq_of_lt_le
      · rw [Nat.mul_comm]; omega
      · rw [Nat.succ_mul, Nat.mul_comm]; omega
    have hwl : w * (spr b n).length ≤ 65 * 64 := Nat.mul_le_mul hw' h3
    rw [e, i2d_ok h (by omega) (by omega) hlen (by omega), digs_eq, natDigs_val hd]
end
noncomputable def okV : Nat → V → Prop
  | 0, _ => False
  | n + 1, v => match v with
    | .int _ => True
    | .tup xs => ∀ x ∈ xs, okV n x
    | .list xs => ∀ x ∈ xs, okV n x
    | .dict _ es => (es.map (·.1)).Nodup ∧ ∀ q ∈ es, okV n q.2
    | _ => False
theorem eqL_self {f : V → V → Option Bool} {xs : List V} : (∀ x ∈ xs, f x x = some true) → eqL f xs xs = some true := by
  induction xs with
  | nil => exact fun _ => rfl
  | cons x r ih =>
    intro h
    show (f x x).bind _ = _
    rw [h x (List.mem_cons_self ..)]
    exact congrArg (Option.map (true && ·)) (ih fun y hy => h y (List.mem_cons_of_mem _ hy))
theorem dget_mem {q : K × V} {es : List (K × V)} : (es.map (·.1)).Nodup → q ∈ es → dget q.1 es = some q.2 := by
  induction es with
  | nil => exact fun _ h => absurd h List.not_mem_nil
  | cons p r ih =>
    intro hn h
    have hn := List.nodup_cons.mp hn
    rcases List.mem_cons.mp h with e | e
    · subst e; exact if_pos rfl
    · exact (if_neg fun (e' : q.1 = p.1) => hn.1 (List.mem_map.mpr ⟨q, e, e'⟩)).trans (ih hn.2 e)
theorem eqD_self {f : V → V → Option Bool} {fs : List (K × V)} {es : List (K × V)} : (∀ q ∈ es, dget q.1 fs = some q.2 ∧ f q.2 q.2 = some true) → eqD f fs es = some true := by
  induction es with
  | nil => exact fun _ => rfl
  | cons q r ih =>
    intro h
    obtain ⟨h1, h2⟩ := h q (List.mem_cons_self ..)
    show (match dget q.1 fs with | none => some false | some u => (f q.2 u).bind fun a => (eqD f fs r).map (a && ·)) = _
    rw [h1]
    show (f q.2 q.2).bind _ = _
    rw [h2]
    exact congrArg (Option.map (true && ·)) (ih fun y hy => h y (List.mem_cons_of_mem _ hy))
theorem eqN_self {n : Nat} : ∀ {v : V}, okV n v → eqN n v v = some true := by
  induction n with
  | zero => exact fun h => h.elim
  | succ n ih =>
    intro v h
    cases v with
    | int i => exact congrArg some (beq_self_eq_true i)
    | tup xs => exact eqL_self fun x hx => ih (h x hx)
    | list xs =>
      show (bif xs.length == xs.length then eqL (eqN n) xs xs else some false) = _
      rw [beq_self_eq_true]
      exact eqL_self fun x hx => ih (h x hx)
    | dict g es =>
      show (bif es.length == es.length then eqD (eqN n) es es else some false) = _
      rw [beq_self_eq_true]
      exact eqD_self fun q hq => ⟨dget_mem h.1 hq, ih (h.2 q hq)⟩
    | _ => exact h.elim
theorem ne_self {v : V} (h : okV 16 v) : cmpV .NotEq v v = some (.bool false) := congrArg (Option.map fun c => V.bool (!c)) (eqN_self h)
theorem eq_self' {v : V} (h : okV 16 v) : cmpV .Eq v v = some (.bool true) := congrArg (Option.map V.bool) (eqN_self h)
theorem okV_ints {n : Nat} {xs : List Int} : ∀ x ∈ xs.map V.int, okV (n + 1) x := fun x hx => by
  obtain ⟨i, _, e⟩ := List.mem_map.mp hx
  subst e
  trivial
theorem okV_encM {n : Nat} (m : Mi) : okV (n + 2) (encM m) := by
  cases m with
  | one z => trivial
  | two z w => exact okV_ints (xs := [z, w])
theorem dset_new (k : K) (v : V) (t : List (K × V)) : k ∉ t.map (·.1) → dset k v t = t ++ [(k, v)] := by
  induction t with
  | nil => exact fun _ => rfl
  | cons p r ih => exact fun h => (if_neg fun (e : k = p.1) => h (List.mem_cons.mpr (.inl e))).trans (congrArg (p :: ·) (ih fun m => h (List.mem_cons_of_mem _ m)))
theorem foldD_new {l : List (K × V)} : ∀ {d : List (K × V)}, (l.map (·.1)).Nodup → (∀ x ∈ l, x.1 ∉ d.map (·.1)) → l.foldl (fun d p => dset p.1 p.2 d) d = d ++ l := by
  induction l with
  | nil => exact fun _ _ => (List.append_nil _).symm
  | cons q r ih =>
    intro d hn hd
    have hn := List.nodup_cons.mp hn
    rw [List.foldl_cons, dset_new _ _ _ (hd q (List.mem_cons_self ..)), ih hn.2 fun z hz hm => ?_, List.append_assoc]
    · rfl
    · rw [List.map_append] at hm
      exact (List.mem_append.mp hm).elim (hd z (List.mem_cons_of_mem _ hz)) fun hm => hn.1 (List.mem_map.mpr ⟨z, hz, List.mem_singleton.mp hm⟩)
theorem pairs_map {α : Type} {kf : α → K} {vf : α → V} (l : List α) : pairsOf (l.map fun x => V.tup [.int (kf x), vf x]) = some (l.map fun x => (kf x, vf x)) := by
  induction l with
  | nil => rfl
  | cons x r ih => exact congrArg (Option.map ((kf x, vf x) :: ·)) ih
theorem dc_map {α : Type} {c : Cx} {m : Fr} {ke ve : E} {t : Tg} {it : It} {cap : List (Nat × Nat)} {n : Nat} (xs : List α) (e : α → V) (kf : α → K) (vf : α → V) (hit : evIt c m it = some (xs.map e))
    (h : ∀ x ∈ xs, ((m.capture noF cap n).bindN t (e x)).bind (fun m' => (ev c m' ke).bind fun kk => (keyV kk).bind fun _ => (ev c m' ve).map fun vv => [V.tup [kk, vv]]) = some [.tup [.int (kf x), vf x]]) (hn : (xs.map kf).Nodup) (hl : xs.length ≤ big) : ev c m (.dcomp ke ve (.cons t it .nil .nil) cap n) = some (.dict c.gen (xs.map fun x => (kf x, vf x))) := by
  show ((evIt c m it).bind (fm _)).bind _ = _
  rw [hit, Option.bind_some, fm_mapF h, flat_one, Option.bind_some, if_pos (by rw [List.length_map]; exact hl), pairs_map]
  refine congrArg (fun d => some (V.dict c.gen d)) ((foldD_new ?_ fun _ _ => List.not_mem_nil).trans (List.nil_append _))
  rw [List.map_map]
  exact hn
theorem nd_range {α : Type} {f : Nat → Int × α} (h : ∀ j, (f j).1 = j) (n : Nat) : (((List.range n).map f).map (·.1)).Nodup := by
  rw [List.map_map]
  exact List.pairwise_map.mpr (List.nodup_range.imp fun {a b} hab e => hab (Int.ofNat.inj (((h a).symm.trans e).trans (h b))))
section
variable {p : Prog} {k : Nat}
noncomputable def waysT (dg : List Nat) (b count i j : Nat) : Int := if j < b * (i + 1) then (((dg ++ List.replicate count 0).getD (b * (i + 1) - 1 - j) 0 : Nat) : Int) else 0
noncomputable def tF (es rows st : List V) (b : Nat) (w : Int) (count : Nat) (dg : List V) (o ws : Option V) : Fr :=
  [some (.v (.list es)), some (.v (.list rows)), some (.v (.list st)), some (.v (.int b)), some (.v (.int w)), some (.v (.int count)), some (.v (.list dg)), oS o, oS ws, none, none, none, none, none, none, none, none]
theorem ways_le {dg : List Nat} {b count i j : Nat} (hd16 : ∀ d ∈ dg, d < 2 ^ 16) : bits (waysT dg b count i j) ≤ 17 := by
  unfold waysT
  split
  · refine bits_le (Nat.lt_trans (?_ : (dg ++ List.replicate count 0).getD (b * (i + 1) - 1 - j) 0 < 2 ^ 16) (by decide))
    rw [List.getD_eq_getElem?_getD]
    cases q : (dg ++ List.replicate count 0)[b * (i + 1) - 1 - j]? with
    | none => exact Nat.two_pow_pos _
    | some x => exact (List.mem_append.mp (List.mem_of_getElem? q)).elim (hd16 x) fun y => (List.eq_of_mem_replicate y).symm ▸ Nat.two_pow_pos _
  · decide
theorem told_ok (h : Sh2 p) {es : List Ei} {rows : List (List Int)} {st : List Int} {b count : Nat} {w : Int} {dg : List Nat} {v : Nat} (he : es.length = count) (hr : rows.length = count) (hc : count ≤ 4) (hs : count ≤ st.length) (hb1 : 1 ≤ b) (hb : b < 16) (hbs : ∀ x ∈ st, bits x ≤ 2 ^ 20) (hrr : ∀ r ∈ rows, count ≤ r.length ∧ ∀ x ∈ r, bits x ≤ 10)
    (h6 : (run p 0 (k + 2)).call 6 [.list (List.replicate b (.int 1)), .int w] = some (.int v)) (hp : bits (v : Int) * (count + 1) ≤ big) (h5 : (run p 0 (k + 2)).call 5 [.int ((v : Int) ^ (count + 1)), .int w] = some (.list (dV dg)))
    (hd16 : ∀ d ∈ dg, d < 2 ^ 16) (hdl : dg.length ≤ 64) (hdl2 : b * count ≤ dg.length + count)
    (hcol : ∀ i < count, [(es.getD i (nilE 0)).a, (es.getD i (nilE 0)).b, (es.getD i (nilE 0)).c, (es.getD i (nilE 0)).d] = colF rows st b count i)
    (hmark : ∀ i < count, (es.getD i (nilE 0)).t = (List.range count).map fun (j : Nat) => ((j : Int), markF j (waysT dg b count i j) st))
    (hsum : (es.map fun e => (e.t.map fun q => q.2.num).sum).sum = count * (b : Int) ^ count) :
    (run p 0 (k + 3)).call 18 [.list (es.map encE), .list (rows.map rowV), .list (st.map .int), .int b, .int w] = some (.bool true) := by
  have hcb : count ≤ big := Nat.le_trans hc (by decide)
  have bb : bits (b : Int) ≤ 4 := bits_le (by simp only [Int.natAbs_natCast]; omega)
  have es_eq : es = (List.range count).map fun i => es.getD i (nilE 0) := by
    refine List.ext_getElem? fun i => ?_
    by_cases hi : i < count
    · rw [List.getElem?_map, List.getElem?_range hi, Option.map_some, getD_some (he.symm ▸ hi)]
    · rw [List.getElem?_eq_none (he.symm ▸ Nat.le_of_not_lt hi), List.getElem?_eq_none (by rw [List.length_map, List.length_range]; exact Nat.le_of_not_lt hi)]
  have of_mem : ∀ e ∈ es, ∃ i, i < count ∧ e = es.getD i (nilE 0) := fun e hm => by
    rw [es_eq] at hm
    obtain ⟨i, hi, q⟩ := List.mem_map.mp hm
    exact ⟨i, List.mem_range.mp hi, q.symm⟩
  have hcols : es.map (fun e => V.tup [.int e.a, .int e.b, .int e.c, .int e.d]) = colsV rows st b count count := by
    unfold colsV
    conv => lhs; rw [es_eq]
    rw [List.map_map]
    refine List.map_congr_left fun i hi => ?_
    rw [← hcol i (List.mem_range.mp hi)]
    rfl
  have c12 := cols_ok (p := p) (k := k + 1) h (rows := rows) (st := st) (b := b) hr hc hs hb hbs hrr
  have okc : okV 16 (.list (colsV rows st b count count)) := fun x hx => by
    obtain ⟨i, _, e⟩ := List.mem_map.mp hx
    subst e
    exact okV_ints
  have hdg : ∀ x, x < dg.length + count → (dV dg ++ List.replicate count (V.int 0))[x]? = some (.int (((dg ++ List.replicate count 0).getD x 0 : Nat) : Int)) := fun x hx => by
    have : dV dg ++ List.replicate count (V.int 0) = (dg ++ List.replicate count 0).map fun (d : Nat) => V.int (d : Int) := by rw [List.map_append, List.map_replicate]; rfl
    rw [this, map_getD (d := 0) (by rw [List.length_append, List.length_replicate]; exact hx)]
  have okm : ∀ i, okV 16 (.list ((List.range count).map fun (j : Nat) => V.tup [.int (j : Int), encM (markF j (waysT dg b count i j) st)])) := fun i x hx => by
    obtain ⟨j, _, e⟩ := List.mem_map.mp hx
    subst e
    exact fun y hy => (List.mem_cons.mp hy).elim (fun e => e ▸ trivial) fun hy => List.mem_singleton.mp hy ▸ okV_encM _
  have bpow : binI .Pow (b : Int) (count : Int) = some (.int ((b : Int) ^ count)) := pow_ok (Nat.le_trans (Nat.mul_le_mul bb hc) (by decide))
  have bmul : binI .Mult (count : Int) ((b : Int) ^ count) = some (.int ((count : Int) * (b : Int) ^ count)) := mul_ok (by
    have h1 : bits (count : Int) ≤ 3 := bits_le (Nat.lt_of_le_of_lt hc (by decide))
    have h2 : bits ((b : Int) ^ count) ≤ 17 := bits_le (by
      rw [Int.natAbs_pow, Int.natAbs_natCast]
      exact Nat.lt_of_le_of_lt (Nat.le_trans (Nat.pow_le_pow_left (Nat.le_of_lt hb) _) (Nat.pow_le_pow_right (by decide) hc)) (by decide))
    exact Nat.le_trans (Nat.add_le_add h1 h2) (by decide))
  rw [run_call, h.f18]
  dsimp only [fn18]
  walk_at "EV"
  rw [List.length_map, hr, rep_ok (Nat.le_trans (Nat.le_of_lt hb) (by decide))]
  walk_at "EV"
  rw [h6]
  walk_at "EV"
  rw [show (count : Int) + 1 = ((count + 1 : Nat) : Int) from rfl, pow_ok hp]
  walk_at "EV"
  rw [h5]
  walk_at "EV"
  rw [lc_map es encE (fun e => V.tup [.int e.a, .int e.b, .int e.c, .int e.d]) ?it (fun e _ => ?el) (he.symm ▸ hcb), hcols]
  rotate_left
  case it => rfl
  case el =>
    dsimp only [encE]
    walk_at "EV"
    rw [cutT_t' (by decide)]
    rfl
  walk_at "EV"
  rw [c12]
  walk_at "EV"
  rw [ne_self okc]
  walk_at "EV"
  refine mfor (List.range count) (fun (j : Nat) => V.int (j : Int)) (fun (x : Option V × Option V) => tF (es.map encE) (rows.map rowV) (st.map .int) b w count (dV dg) x.1 x.2) (fun x i => (some (.int (i : Int)), some (.list ((List.range count).map fun j => V.int (waysT dg b count i j))))) (fun rem x => ∀ i ∈ rem, i < count) (none, none) (itm_rng hcb) rfl (fun i hi => List.mem_range.mp hi) (fun i r x h1 => ⟨?_, fun j hj => h1 j (List.mem_cons_of_mem _ hj)⟩) fun _ => ?_
  · obtain ⟨o, ws⟩ := x
    have hi := h1 i (List.mem_cons_self ..)
    dsimp only [tF]
    walk_at "EV"
    simp only [fz_oS]
    walk_at "EV"
    rw [lc_map (List.range count) (fun (j : Nat) => V.int (j : Int)) (fun j => V.int (waysT dg b count i j)) ?it (fun j hj => ?el) (List.length_range ▸ hcb)]
    rotate_left
    case it =>
      walk_at "EV"
      rw [itm_rng hcb]
    case el =>
      have hj : j < count := List.mem_range.mp hj
      have e2 : binI .Mult (b : Int) ((i + 1 : Nat) : Int) = some (.int ((b * (i + 1) : Nat) : Int)) := by
        have : bits ((i + 1 : Nat) : Int) ≤ 3 := bits_le (Nat.lt_of_le_of_lt (Nat.le_trans hi hc) (by decide))
        exact mul_ok (Nat.le_trans (Nat.add_le_add bb this) (by decide))
      have hbi : b * (i + 1) ≤ b * count := Nat.mul_le_mul_left _ hi
      walk_at "EV"
      rw [show (i : Int) + 1 = ((i + 1 : Nat) : Int) from rfl, e2]
      walk_at "EV"
      unfold waysT
      by_cases hq : j < b * (i + 1)
      · have e4 : ((b * (i + 1) : Nat) : Int) - 1 - j = ((b * (i + 1) - 1 - j : Nat) : Int) := by omega
        rw [decide_eq_true (Int.ofNat_lt.mpr hq), if_pos hq]
        walk_at "EV"
        rw [rep_ok hcb]
        walk_at "EV"
        rw [list_add (by unfold dV; rw [List.length_map, List.length_replicate]; exact Nat.le_trans (Nat.add_le_add hdl hc) (by decide))]
        walk_at "EV"
        rw [e4, sub_list, hdg _ (by omega)]
      · rw [decide_eq_false fun q => hq (Int.ofNat_lt.mp q), if_neg hq]
        rfl
    walk_at "EV"
    rw [sub_list, show (es.map encE)[i]? = some (encE (es.getD i (nilE 0))) from map_getD (he.symm ▸ hi)]
    dsimp only [encE]
    walk_at "EV"
    rw [lc_map (List.range count) (fun (j : Nat) => V.int (j : Int)) (fun (j : Nat) => V.tup [.int (j : Int), encM (markF j (waysT dg b count i j) st)]) ?it (fun j hj => ?el) (List.length_range ▸ hcb)]
    rotate_left
    case it =>
      walk_at "EV"
      rw [itm_rng hcb]
    case el =>
      have hj : j < count := List.mem_range.mp hj
      have c13 := mark_ok (p := p) (k := k + 1) h (c := j) (w := waysT dg b count i j) (st := st) (Nat.lt_of_lt_of_le hj hs) (fun x hx => Nat.le_trans (Nat.add_le_add (ways_le hd16) (hbs x hx)) (by decide))
      walk_at "EV"
      rw [sub_list, show ((List.range count).map fun j => V.int (waysT dg b count i j))[j]? = some (.int (waysT dg b count i j)) by rw [List.getElem?_map, List.getElem?_range hj]; rfl]
      walk_at "EV"
      rw [c13]
      rfl
    rw [show (encT (es.getD i (nilE 0)).t).map (fun p => V.tup [.int p.1, p.2]) = (List.range count).map fun (j : Nat) => V.tup [.int (j : Int), encM (markF j (waysT dg b count i j) st)] by rw [hmark i hi]; unfold encT; rw [List.map_map, List.map_map]; rfl]
    walk_at "EV"
    rw [ne_self (okm i)]
    rfl
  generalize (List.range count).foldl (fun (x : Option V × Option V) (i : Nat) => (some (V.int (i : Int)), some (V.list ((List.range count).map fun j => V.int (waysT dg b count i j))))) (none, none) = x
  obtain ⟨xo, xw⟩ := x
  dsimp only [tF]
  walk_at "EV"
  simp only [fz_oS]
  walk_at "EV"
  rw [lc_map es encE (fun e => V.int (e.t.map fun q => q.2.num).sum) ?it (fun e hm => ?el) (he.symm ▸ hcb)]
  rotate_left
  case it => rfl
  case el =>
    obtain ⟨i, hi, q⟩ := of_mem e hm
    have hnd : (e.t.map (·.1)).Nodup := by rw [q, hmark i hi]; exact nd_range (fun _ => rfl) _
    have hlen : e.t.length ≤ big := by rw [q, hmark i hi, List.length_map, List.length_range]; exact hcb
    have c2 := cc_ok (p := p) (k := k + 1) h.toSh (es := e.t.map fun q => (q.1, q.2.num)) (g := 0)
    rw [List.map_map, List.map_map] at c2
    walk_at "EV"
    rw [dc_map e.t (fun q => vKey q.1) (fun q => q.1) (fun q => V.int q.2.num) ?it2 (fun q hq => ?el2) hnd hlen]
    rotate_left
    case it2 =>
      dsimp only [encE]
      walk_at "EV"
      exact congrArg some List.map_map
    case el2 =>
      have hg := tget_of_mem hnd hq
      dsimp only [encE]
      walk_at "EV"
      rw [dget_encT, hg]
      walk_at "EV"
      rw [often_ok (p := p) (k := k + 1) h (m := q.2)]
      rfl
    walk_at "EV"
    rw [run_gen]
    exact c2
  walk_at "EV"
  simp only [fz_oS]
  walk_at "EV"
  rw [sum_map, bpow]
  walk_at "EV"
  rw [bmul, hsum]
  walk_at "EV"
  rw [beq_self_eq_true]
end
abbrev L4 := Int × Int × Int × Int
noncomputable def lad (x y : L4) : L4 := (x.1 + y.1, x.2.1 + y.2.1, x.2.2.1 + y.2.2.1, x.2.2.2 + y.2.2.2)
noncomputable def lsm (c : Int) (x : L4) : L4 := (c * x.1, c * x.2.1, c * x.2.2.1, c * x.2.2.2)
noncomputable def l0 : L4 := (0, 0, 0, 0)
noncomputable def lun (j : Nat) (c : Int) : L4 := (if j = 0 then c else 0, if j = 1 then c else 0, if j = 2 then c else 0, if j = 3 then c else 0)
noncomputable def val (s : List Int) (x : L4) : Int := x.1 * s.getD 0 0 + x.2.1 * s.getD 1 0 + x.2.2.1 * s.getD 2 0 + x.2.2.2 * s.getD 3 0
theorem val_add (s : List Int) (x y : L4) : val s (lad x y) = val s x + val s y := by
  unfold val lad
  rw [Int.add_mul, Int.add_mul, Int.add_mul, Int.add_mul]
  ac_rfl
theorem val_mul (s : List Int) (c : Int) (x : L4) : val s (lsm c x) = c * val s x := by
  simp only [val, lsm, Int.mul_add, Int.mul_assoc]
theorem val_zero (s : List Int) : val s l0 = 0 := by simp [val, l0]
theorem val_lun {s : List Int} {j : Nat} (hj : j < 4) (c : Int) : val s (lun j c) = c * s.getD j 0 := by
  have : j = 0 ∨ j = 1 ∨ j = 2 ∨ j = 3 := by omega
  rcases this with rfl | rfl | rfl | rfl <;> simp [val, lun]
section
variable {α β : Type} (f : α → β)
noncomputable def mpM : Cm α → Cm β
  | .one n => .one n
  | .two n z => .two n (f z)
noncomputable def mpT (t : Tb α) : Tb β := t.map fun q => (q.1, mpM f q.2)
noncomputable def mpE (e : Ent α) : Ent β := ⟨f e.a, f e.b, f e.c, f e.d, mpT f e.t⟩
theorem tget_mp (k : K) (t : Tb α) : tget k (mpT f t) = (tget k t).map (mpM f) := by
  induction t with
  | nil => rfl
  | cons p r ih =>
    by_cases h : k = p.1
    · rw [tget_hit h]; exact if_pos h
    · rw [tget_no h]; exact (if_neg h).trans ih
theorem tset_mp (k : K) (v : Cm α) (t : Tb α) : tset k (mpM f v) (mpT f t) = mpT f (tset k v t) := by
  induction t with
  | nil => rfl
  | cons p r ih =>
    by_cases h : k = p.1
    · rw [tset_hit h]; exact if_pos h
    · rw [tset_no h]; exact (if_neg h).trans (congrArg ((p.1, mpM f p.2) :: ·) ih)
theorem addM_mp {ad : α → α → α} {ad' : β → β → β} (h : ∀ x y, f (ad x y) = ad' (f x) (f y)) (u v : Cm α) : addM ad' (mpM f u) (mpM f v) = mpM f (addM ad u v) := by
  cases u with
  | one => cases v <;> rfl
  | two n z =>
    cases v with
    | one => rfl
    | two m w => exact congrArg (Cm.two (m + n)) (h w z).symm
theorem addStep_mp {ad : α → α → α} {ad' : β → β → β} (h : ∀ x y, f (ad x y) = ad' (f x) (f y)) (t : Tb α) (q : K × Cm α) : addStep ad' (mpT f t) (q.1, mpM f q.2) = mpT f (addStep ad t q) := by
  unfold addStep
  rw [tget_mp]
  cases hg : tget q.1 t with
  | none => exact tset_mp ..
  | some u => exact (congrArg (fun m => tset q.1 m (mpT f t)) (addM_mp f h u q.2)).trans (tset_mp ..)
theorem addT_mp {ad : α → α → α} {ad' : β → β → β} (h : ∀ x y, f (ad x y) = ad' (f x) (f y)) (s : Tb α) : ∀ (t : Tb α), addTb ad' (mpT f t) (mpT f s) = mpT f (addTb ad t s) := by
  induction s with
  | nil => exact fun t => rfl
  | cons q s ih =>
    intro t
    show addTb ad' (addStep ad' (mpT f t) (q.1, mpM f q.2)) (mpT f s) = mpT f (addTb ad (addStep ad t q) s)
    rw [addStep_mp f h, ih]
theorem scM_mp {sm : Int → α → α} {sm' : Int → β → β} (h' : ∀ c x, f (sm c x) = sm' c (f x)) (w : Int) (m : Cm α) : scM sm' w (mpM f m) = mpM f (scM sm w m) := by
  cases m with
  | one => rfl
  | two n z => exact congrArg (Cm.two (w * n)) (h' w z).symm
theorem getD_map {γ δ : Type} {g : γ → δ} {l : List γ} {i : Nat} {d : γ} : (l.map g).getD i (g d) = g (l.getD i d) := by
  rw [List.getD_eq_getElem?_getD, List.getD_eq_getElem?_getD, List.getElem?_map]
  cases l[i]? <;> rfl
theorem ledOne_mp {ad : α → α → α} {ad' : β → β → β} {sm : Int → α → α} {sm' : Int → β → β} {z : α} (h : ∀ x y, f (ad x y) = ad' (f x) (f y)) (h' : ∀ c x, f (sm c x) = sm' c (f x)) (es : List (Ent α)) (spread : List Nat) (outs : List Int) (out : Nat) (made : Ent α) (c : Nat) :
    ledOne ad' sm' (f z) (es.map (mpE f)) spread outs out (mpE f made) c = mpE f (ledOne ad sm z es spread outs out made c) := by
  unfold ledOne
  rw [show (es.map (mpE f)).getD c (nilE (f z)) = mpE f (es.getD c (nilE z)) from getD_map (d := nilE z)]
  generalize es.getD c (nilE z) = x
  generalize waysF spread outs out c = w
  have e : ((mpE f x).t.map fun q => (q.1, scM sm' w q.2)) = mpT f (x.t.map fun q => (q.1, scM sm w q.2)) := by
    show (mpT f x.t).map _ = _
    unfold mpT
    rw [List.map_map, List.map_map]
    exact List.map_congr_left fun q _ => congrArg (fun m => (q.1, m)) (scM_mp f h' w q.2)
  have e2 : addTb ad' (mpT f made.t) ((mpE f x).t.map fun q => (q.1, scM sm' w q.2)) = mpT f (addTb ad made.t (x.t.map fun q => (q.1, scM sm w q.2))) := e ▸ addT_mp f h _ _
  have k : ∀ y y' : α, ad' (sm' w (f y)) (f y') = f (ad (sm w y) y') := fun y y' => h' w y ▸ (h _ _).symm
  unfold adE scE
  show Ent.mk (ad' (sm' w (f x.a)) (f made.a)) (ad' (sm' w (f x.b)) (f made.b)) (ad' (sm' w (f x.c)) (f made.c)) (ad' (sm' w (f x.d)) (f made.d)) _ = _
  rw [k, k, k, k]
  exact congrArg (Ent.mk _ _ _ _) e2
theorem ledG_mp {ad : α → α → α} {ad' : β → β → β} {sm : Int → α → α} {sm' : Int → β → β} {z : α} (h : ∀ x y, f (ad x y) = ad' (f x) (f y)) (h' : ∀ c x, f (sm c x) = sm' c (f x)) (es : List (Ent α)) (spread : List Nat) (outs : List Int) :
    ledG ad' sm' (f z) (es.map (mpE f)) spread outs = (ledG ad sm z es spread outs).map (mpE f) := by
  have key : ∀ (out : Nat) (l : List Nat) (made : Ent α), l.foldl (ledOne ad' sm' (f z) (es.map (mpE f)) spread outs out) (mpE f made) = mpE f (l.foldl (ledOne ad sm z es spread outs out) made) := by
    intro out l
    induction l with
    | nil => exact fun _ => rfl
    | cons c r ih => intro made; rw [List.foldl_cons, ledOne_mp f h h', ih]; rfl
  unfold ledG
  rw [List.length_map, List.map_map]
  exact List.map_congr_left fun out _ => key out _ (nilE z)
end
noncomputable def cdM : Cm L4 → Bool × Int × L4
  | .one n => (false, n, l0)
  | .two n z => (true, n, z)
noncomputable def cdT (t : Tb L4) : List (K × Bool × Int × L4) := t.map fun q => (q.1, cdM q.2)
noncomputable def cdE (e : Ent L4) : L4 × L4 × L4 × L4 × List (K × Bool × Int × L4) := (e.a, e.b, e.c, e.d, cdT e.t)
theorem map_inj {γ δ : Type} {g : γ → δ} (hg : ∀ x y, g x = g y → x = y) {l : List γ} : ∀ {r : List γ}, l.map g = r.map g → l = r := by
  induction l with
  | nil =>
    intro r h
    cases r with
    | nil => rfl
    | cons => cases h
  | cons x l ih =>
    intro r h
    cases r with
    | nil => cases h
    | cons y r =>
      have h := List.cons.inj h
      rw [hg x y h.1, ih h.2]
theorem cdM_inj (x y : Cm L4) (h : cdM x = cdM y) : x = y := by
  have h1 := Prod.mk.inj h
  cases x with
  | one n =>
    cases y with
    | one m => exact congrArg Cm.one (Prod.mk.inj h1.2).1
    | two => exact Bool.noConfusion h1.1
  | two n z =>
    cases y with
    | one => exact Bool.noConfusion h1.1
    | two m w =>
      have h2 := Prod.mk.inj h1.2
      rw [h2.1, h2.2]
theorem cdT_inj {x y : Tb L4} (h : cdT x = cdT y) : x = y := map_inj (fun q r h => Prod.ext (Prod.mk.inj h).1 (cdM_inj _ _ (Prod.mk.inj h).2)) h
theorem cdE_inj (x y : Ent L4) (h : cdE x = cdE y) : x = y := by
  have h1 := Prod.mk.inj h
  have h2 := Prod.mk.inj h1.2
  have h3 := Prod.mk.inj h2.2
  have h4 := Prod.mk.inj h3.2
  obtain ⟨a, b, c, d, t⟩ := x
  obtain ⟨a', b', c', d', t'⟩ := y
  cases (h1.1 : a = a')
  cases (h2.1 : b = b')
  cases (h3.1 : c = c')
  cases (h4.1 : d = d')
  exact congrArg _ (cdT_inj h4.2)
noncomputable def colL (rows : List (List Int)) (b count c : Nat) : List L4 := (List.range 4).map fun j => if j < count then lun j ((b : Int) ^ (count - j) * (rows.getD j []).getD c 0) else l0
noncomputable def markL (c : Nat) (w : Int) : Cm L4 := if c % 2 = 1 then .two w (lun c w) else .one w
noncomputable def firstL (rows : List (List Int)) (count : Nat) : List (Ent L4) := (List.range count).map fun c => ⟨(colL rows 1 count c).getD 0 l0, (colL rows 1 count c).getD 1 l0, (colL rows 1 count c).getD 2 l0, (colL rows 1 count c).getD 3 l0, [((c : Int), markL c 1)]⟩
noncomputable def kdI (c : K) : Bool := c % 2 == 1
noncomputable def smallI (x : Int) : Bool := x.natAbs ≤ 2 ^ 20
noncomputable def smallL (x : L4) : Bool := smallI x.1 && smallI x.2.1 && smallI x.2.2.1 && smallI x.2.2.2
noncomputable def smallM : Cm L4 → Bool
  | .one n => smallI n
  | .two n z => smallI n && smallL z
noncomputable def okL (es : List (Ent L4)) : Bool := es.all fun e => e.t.all (fun q => q.2.kind == kdI q.1 && smallM q.2) && decide (e.t.map (·.1)).Nodup && e.t.length ≤ 8 && smallL e.a && smallL e.b && smallL e.c && smallL e.d
noncomputable def outsL (count b : Nat) : List Int := (List.range (count * b)).map fun t => ((t / b : Nat) : Int)
noncomputable def toldL (es : List (Ent L4)) (rows : List (List Int)) (b count : Nat) (dg : List Nat) : Bool :=
  es.length == count && (List.range count).all (fun i => [(es.getD i (nilE l0)).a, (es.getD i (nilE l0)).b, (es.getD i (nilE l0)).c, (es.getD i (nilE l0)).d] == colL rows b count i &&
    cdT (es.getD i (nilE l0)).t == cdT ((List.range count).map fun (j : Nat) => ((j : Int), markL j (waysT dg b count i j)))) && (es.map fun e => (e.t.map fun q => q.2.num).sum).sum == count * (b : Int) ^ count
noncomputable def sprOk (b n : Nat) : Bool := (spr b n).all (· < 2 ^ 16) && (spr b n).getLast? == some 1 && (spr b n).length ≤ 64
noncomputable def ledL (es : List (Ent L4)) (count b : Nat) : List (Ent L4) := ledG lad lsm l0 es (spr b count) (outsL count b)
noncomputable def rowsLit : Nat → List (List Int)
  | 2 => [[1, 1], [1, -1]]
  | 3 => [[1, 4, 1], [1, 0, -1], [1, -2, 1]]
  | 4 => [[1, 11, 11, 1], [1, 3, -3, -1], [1, -1, -1, 1], [1, -3, 3, -1]]
  | _ => []
noncomputable def chkB (b count : Nat) : Bool := sprOk b count && sprOk b (count + 1) && count + (spr b count).length ≤ count * b + 1 && b * count ≤ (spr b (count + 1)).length + count
noncomputable def chk (count one two : Nat) : Bool :=
  let f := firstL (rowsLit count) count
  let l := ledL f count one
  let u := ledL l count two
  okL f && okL l && okL u && chkB one count && chkB two count && chkB (one * two) count && toldL l (rowsLit count) one count (spr one (count + 1)) && toldL u (rowsLit count) (one * two) count (spr (one * two) (count + 1)) && (ledL f count (one * two)).map cdE == u.map cdE
theorem chk_all : (([2, 3, 4] : List Nat).all fun c => ([2, 3, 4] : List Nat).all fun o => ([2, 3] : List Nat).all fun t => chk c o t) = true := by decide +kernel
theorem rows2 : (run p2 0 63).call 11 [.int 2] = some (.list ((rowsLit 2).map rowV)) := by kernel_rfl
theorem rows3 : (run p2 0 63).call 11 [.int 3] = some (.list ((rowsLit 3).map rowV)) := by kernel_rfl
theorem rows4 : (run p2 0 63).call 11 [.int 4] = some (.list ((rowsLit 4).map rowV)) := by kernel_rfl
theorem three {c : Nat} (h : 2 ≤ c) (h' : c ≤ 4) : c = 2 ∨ c = 3 ∨ c = 4 := by omega
theorem rows_ok {count : Nat} (h : 2 ≤ count) (h' : count ≤ 4) : (run p2 0 63).call 11 [.int count] = some (.list ((rowsLit count).map rowV)) :=
  (three h h').elim (fun e => e ▸ rows2) fun q => q.elim (fun e => e ▸ rows3) fun e => e ▸ rows4
noncomputable def rowsB (count : Nat) : Bool := (rowsLit count).length == count && (rowsLit count).all fun r => decide (count ≤ r.length) && r.all fun x => decide (bits x ≤ 10)
theorem rows_len {count : Nat} (h : 2 ≤ count) (h' : count ≤ 4) : (rowsLit count).length = count ∧ ∀ r ∈ rowsLit count, count ≤ r.length ∧ ∀ x ∈ r, bits x ≤ 10 := by
  have e : rowsB count = true := (three h h').elim (fun e => e ▸ (by kernel_rfl : rowsB 2 = true)) fun q => q.elim (fun e => e ▸ (by kernel_rfl : rowsB 3 = true)) fun e => e ▸ (by kernel_rfl : rowsB 4 = true)
  obtain ⟨e1, e2⟩ := Bool.and_eq_true_iff.mp e
  refine ⟨eq_of_beq e1, fun r hr => ?_⟩
  obtain ⟨e3, e4⟩ := Bool.and_eq_true_iff.mp (List.all_eq_true.mp e2 r hr)
  exact ⟨of_decide_eq_true e3, fun x hx => of_decide_eq_true (List.all_eq_true.mp e4 x hx)⟩
theorem mem3 {c : Nat} (h : c = 2 ∨ c = 3 ∨ c = 4) : c ∈ [2, 3, 4] := h.elim (fun e => e ▸ List.mem_cons_self ..) fun h => List.mem_cons_of_mem _ (h.elim (fun e => e ▸ List.mem_cons_self ..) fun e => List.mem_cons_of_mem _ (e ▸ List.mem_cons_self ..))
theorem chk_of {c o t : Nat} (h1 : 2 ≤ c) (h2 : c ≤ 4) (h3 : 2 ≤ o) (h4 : o ≤ 4) (h5 : 2 ≤ t) (h6 : t ≤ 3) : chk c o t = true :=
  List.all_eq_true.mp (List.all_eq_true.mp (List.all_eq_true.mp chk_all c (mem3 (three h1 h2))) o (mem3 (three h3 h4))) t
    ((Nat.lt_or_ge t 3).elim (fun q => Nat.le_antisymm (Nat.le_of_lt_succ q) h5 ▸ List.mem_cons_self ..) fun q => List.mem_cons_of_mem _ (Nat.le_antisymm h6 q ▸ List.mem_cons_self ..))
theorem val_bits {st : List Int} (hb : ∀ x ∈ st, bits x ≤ 2 ^ 20) {x : L4} (h : smallL x = true) : bits (val st x) ≤ 2 ^ 21 := by
  obtain ⟨h, h4⟩ := Bool.and_eq_true_iff.mp h
  obtain ⟨h, h3⟩ := Bool.and_eq_true_iff.mp h
  obtain ⟨h1, h2⟩ := Bool.and_eq_true_iff.mp h
  have hs : ∀ j, bits (st.getD j 0) ≤ 2 ^ 20 := fun j => by
    rw [List.getD_eq_getElem?_getD]
    cases q : st[j]? with
    | none => exact Nat.zero_le _
    | some y => exact hb y (List.mem_of_getElem? q)
  have p : ∀ (c : Int) j, smallI c = true → bits (c * st.getD j 0) ≤ 21 + 2 ^ 20 := fun c j h => bits_mul (bits_le (Nat.lt_of_le_of_lt (of_decide_eq_true h) (by decide))) (hs j)
  exact Nat.le_trans (bits_add (bits_add (bits_add (p _ 0 h1) (p _ 1 h2)) (Nat.le_succ_of_le (p _ 2 h3))) (Nat.le_succ_of_le (Nat.le_succ_of_le (p _ 3 h4)))) (by decide)
theorem mpM_kind {st : List Int} (m : Cm L4) : (mpM (val st) m).kind = m.kind := by cases m <;> rfl
theorem mpM_num {st : List Int} (m : Cm L4) : (mpM (val st) m).num = m.num := by cases m <;> rfl
theorem smallI_bits {n : Int} (h : smallI n = true) : bits n ≤ 2 ^ 21 := Nat.le_trans (bits_le (n := 21) (Nat.lt_of_le_of_lt (of_decide_eq_true h) (by decide))) (by decide)
theorem entOk_of {st : List Int} (hb : ∀ x ∈ st, bits x ≤ 2 ^ 20) {es : List (Ent L4)} (h : okL es = true) : EntOk kdI (es.map (mpE (val st))) := by
  have key : ∀ e ∈ es.map (mpE (val st)), Kdd kdI e.t ∧ (e.t.map (·.1)).Nodup ∧ e.t.length ≤ 8 ∧ ∀ x ∈ e.sz, bits x ≤ 2 ^ 21 := fun e he => by
    obtain ⟨e, he', q⟩ := List.mem_map.mp he
    subst q
    have h := List.all_eq_true.mp h e he'
    obtain ⟨h, h7⟩ := Bool.and_eq_true_iff.mp h
    obtain ⟨h, h6⟩ := Bool.and_eq_true_iff.mp h
    obtain ⟨h, h5⟩ := Bool.and_eq_true_iff.mp h
    obtain ⟨h, h4⟩ := Bool.and_eq_true_iff.mp h
    obtain ⟨h, h3⟩ := Bool.and_eq_true_iff.mp h
    obtain ⟨h1, h2⟩ := Bool.and_eq_true_iff.mp h
    have h1 := fun q hq => Bool.and_eq_true_iff.mp (List.all_eq_true.mp h1 q hq)
    refine ⟨fun q hq => ?_, ?_, Nat.le_trans (Nat.le_of_eq (List.length_map ..)) (of_decide_eq_true h3), fun x hx => (List.mem_append.mp hx).elim (fun hx => ?_) fun hx => ?_⟩
    · obtain ⟨q, hq', z⟩ := List.mem_map.mp hq
      subst z
      exact (mpM_kind q.2).trans (eq_of_beq (h1 q hq').1)
    · rw [show ((mpE (val st) e).t.map (·.1)) = e.t.map (·.1) from List.map_map]
      exact of_decide_eq_true h2
    · exact (List.mem_cons.mp hx).elim (fun z => z ▸ val_bits hb h4) fun hx => (List.mem_cons.mp hx).elim (fun z => z ▸ val_bits hb h5) fun hx => (List.mem_cons.mp hx).elim (fun z => z ▸ val_bits hb h6) fun hx => List.mem_singleton.mp hx ▸ val_bits hb h7
    · obtain ⟨q, hq, hx⟩ := List.mem_flatMap.mp hx
      obtain ⟨q, hq', z⟩ := List.mem_map.mp hq
      subst z
      have hs := (h1 q hq').2
      obtain ⟨q1, q2⟩ := q
      cases q2 with
      | one n => exact List.mem_singleton.mp hx ▸ smallI_bits hs
      | two n z =>
        obtain ⟨g1, g2⟩ := Bool.and_eq_true_iff.mp hs
        exact (List.mem_cons.mp hx).elim (fun z => z ▸ smallI_bits g1) fun hx => List.mem_singleton.mp hx ▸ val_bits hb g2
  exact ⟨fun e he => (key e he).1, fun e he => (key e he).2.1, fun e he => (key e he).2.2.1, fun e he => (key e he).2.2.2⟩
theorem colL_val {rows : List (List Int)} {st : List Int} {b count : Nat} (h : 2 ≤ count) (h' : count ≤ 4) (c : Nat) : (colL rows b count c).map (val st) = colF rows st b count c := by
  have e : ∀ j < 4, ∀ x : Int, val st (lun j x) = st.getD j 0 * x := fun j hj x => by rw [val_lun hj, Int.mul_comm]
  rcases three h h' with rfl | rfl | rfl <;> simp [colF, colL, List.range_succ, e, val_zero, Int.mul_assoc]
theorem markL_val {st : List Int} {c : Nat} (hc : c < 4) (w : Int) : mpM (val st) (markL c w) = markF c w st := by
  unfold markL markF
  split
  · exact congrArg (Cm.two w) (val_lun hc w)
  · rfl
theorem firstL_val {st : List Int} {count : Nat} (h : 2 ≤ count) (h' : count ≤ 4) : (firstL (rowsLit count) count).map (mpE (val st)) = (List.range count).map fun c => ⟨(colF (rowsLit count) st 1 count c).getD 0 0, (colF (rowsLit count) st 1 count c).getD 1 0, (colF (rowsLit count) st 1 count c).getD 2 0, (colF (rowsLit count) st 1 count c).getD 3 0, [((c : Int), markF c 1 st)]⟩ := by
  unfold firstL
  rw [List.map_map]
  refine List.map_congr_left fun c hc => ?_
  have hc := Nat.lt_of_lt_of_le (List.mem_range.mp hc) h'
  have g : ∀ j, (colF (rowsLit count) st 1 count c).getD j 0 = val st ((colL (rowsLit count) 1 count c).getD j l0) := fun j => by
    rw [← colL_val h h']
    exact (congrArg (List.getD _ j) (val_zero st).symm).trans getD_map
  rw [g, g, g, g, ← markL_val hc]
  rfl
section
variable {st : List Int} {count one two : Nat}
structure Told (es : List Ei) (st : List Int) (b count : Nat) : Prop where
  he : es.length = count
  hcol : ∀ i < count, [(es.getD i (nilE 0)).a, (es.getD i (nilE 0)).b, (es.getD i (nilE 0)).c, (es.getD i (nilE 0)).d] = colF (rowsLit count) st b count i
  hmark : ∀ i < count, (es.getD i (nilE 0)).t = (List.range count).map fun (j : Nat) => ((j : Int), markF j (waysT (spr b (count + 1)) b count i j) st)
  hsum : (es.map fun e => (e.t.map fun q => q.2.num).sum).sum = count * (b : Int) ^ count
theorem told_of {es : List (Ent L4)} {b : Nat} (h1 : 2 ≤ count) (h2 : count ≤ 4) (h : toldL es (rowsLit count) b count (spr b (count + 1)) = true) : Told (es.map (mpE (val st))) st b count := by
  obtain ⟨h, g3⟩ := Bool.and_eq_true_iff.mp h
  obtain ⟨g1, g2⟩ := Bool.and_eq_true_iff.mp h
  have g2 := fun i hi => Bool.and_eq_true_iff.mp (List.all_eq_true.mp g2 i (List.mem_range.mpr hi))
  have e0 : nilE 0 = mpE (val st) (nilE l0) := by
    show nilE 0 = Ent.mk (val st l0) (val st l0) (val st l0) (val st l0) []
    rw [val_zero]
    rfl
  have e : ∀ i, (es.map (mpE (val st))).getD i (nilE 0) = mpE (val st) (es.getD i (nilE l0)) := fun i => e0 ▸ getD_map
  refine ⟨(List.length_map ..).trans (eq_of_beq g1), fun i hi => ?_, fun i hi => ?_, ?_⟩
  · rw [e, ← colL_val h1 h2, ← eq_of_beq (g2 i hi).1]
    rfl
  · rw [e]
    show mpT (val st) _ = _
    rw [cdT_inj (eq_of_beq (g2 i hi).2)]
    unfold mpT
    rw [List.map_map]
    exact List.map_congr_left fun j hj => congrArg (fun m => ((j : Int), m)) (markL_val (Nat.lt_of_lt_of_le (List.mem_range.mp hj) h2) _)
  · rw [← eq_of_beq g3, List.map_map]
    refine congrArg List.sum (List.map_congr_left fun x _ => congrArg List.sum ?_)
    show (mpT (val st) x.t).map _ = _
    unfold mpT
    rw [List.map_map]
    exact List.map_congr_left fun q _ => mpM_num q.2
end
section
variable {p : Prog}
theorem fill_len {ns sp : List Int} {n : Nat} : ((ns.drop n ++ sp.drop (ns.drop n).length).take sp.length).length = sp.length := by
  rw [List.length_take, List.length_append, List.length_drop, List.length_drop]
  exact Nat.min_eq_left (by omega)
theorem fill_ok (h : Sh2 p) {ns sp : List Int} {n : Nat} (hl : ns.length ≤ 63) (hs : sp.length ≤ 100) : (run p 0 63).call 9 [.list (ns.map .int), .int n, .list (sp.map .int)] = some (.list (((ns.drop n ++ sp.drop (ns.drop n).length).take sp.length).map .int)) := by
  refine (filled_ok (p := p) (g := 0) (k := 62) h.toSh (xs := ns.map .int) (sp := sp.map .int) (n := n) (by rw [List.length_map]; exact Nat.le_trans hl (by decide)) (by rw [List.length_map]; exact Nat.le_trans hs (by decide))).trans ?_
  rw [List.map_take, List.map_append, List.map_drop, List.map_drop, List.length_drop, List.length_map, List.length_map, List.length_drop]
theorem fill_mem {ns sp : List Int} {n : Nat} {x : Int} (h : x ∈ (ns.drop n ++ sp.drop (ns.drop n).length).take sp.length) : x ∈ ns ∨ x ∈ sp :=
  (List.mem_append.mp (List.mem_of_mem_take h)).imp List.mem_of_mem_drop List.mem_of_mem_drop
theorem cons_of {α : Type} {l : List α} {n : Nat} (h : l.length = n + 1) : ∃ a r, l = a :: r ∧ r.length = n := by
  cases l with
  | nil => exact Nat.noConfusion h
  | cons a r => exact ⟨a, r, rfl, Nat.succ.inj h⟩
theorem nil_of {α : Type} {l : List α} (h : l.length = 0) : l = [] := List.eq_nil_of_length_eq_zero h
theorem list5 {l : List Int} (h : l.length = 5) : ∃ a b c d e, l = [a, b, c, d, e] := by
  obtain ⟨a, l, e1, h⟩ := cons_of h
  obtain ⟨b, l, e2, h⟩ := cons_of h
  obtain ⟨c, l, e3, h⟩ := cons_of h
  obtain ⟨d, l, e4, h⟩ := cons_of h
  obtain ⟨e, l, e5, h⟩ := cons_of h
  exact ⟨a, b, c, d, e, by rw [e1, e2, e3, e4, e5, nil_of h]⟩
theorem list4 {α : Type} {l : List α} {z : α} (h : l.length = 4) : l = [l.getD 0 z, l.getD 1 z, l.getD 2 z, l.getD 3 z] := by
  obtain ⟨a, l, e1, h⟩ := cons_of h
  obtain ⟨b, l, e2, h⟩ := cons_of h
  obtain ⟨c, l, e3, h⟩ := cons_of h
  obtain ⟨d, l, e4, h⟩ := cons_of h
  rw [e1, e2, e3, e4, nil_of h]
  rfl
theorem fmod_nat' (a : Int) {m : Nat} (hm : 0 < m) : ∃ c : Nat, c < m ∧ a.fmod m = c := by
  have h2 := Int.fmod_nonneg_of_pos a (Int.ofNat_lt.mpr hm)
  have h3 := Int.fmod_lt_of_pos a (Int.ofNat_lt.mpr hm)
  exact ⟨(a.fmod m).toNat, (Int.toNat_lt h2).mpr h3, (Int.toNat_of_nonneg h2).symm⟩
theorem sprOk_of {b n : Nat} (h : sprOk b n = true) : (∀ d ∈ spr b n, d < 2 ^ 16) ∧ (spr b n).getLast? = some 1 ∧ (spr b n).length ≤ 64 := by
  obtain ⟨h, h3⟩ := Bool.and_eq_true_iff.mp h
  obtain ⟨h1, h2⟩ := Bool.and_eq_true_iff.mp h
  exact ⟨fun d hd => of_decide_eq_true (List.all_eq_true.mp h1 d hd), eq_of_beq h2, of_decide_eq_true h3⟩
structure ChkB (b count : Nat) : Prop where
  s1 : (∀ d ∈ spr b count, d < 2 ^ 16) ∧ (spr b count).getLast? = some 1 ∧ (spr b count).length ≤ 64
  s2 : (∀ d ∈ spr b (count + 1), d < 2 ^ 16) ∧ (spr b (count + 1)).getLast? = some 1 ∧ (spr b (count + 1)).length ≤ 64
  o : count + (spr b count).length ≤ (outsL count b).length + 1
  d : b * count ≤ (spr b (count + 1)).length + count
theorem chkB_of {b count : Nat} (h : chkB b count = true) : ChkB b count := by
  obtain ⟨h, h4⟩ := Bool.and_eq_true_iff.mp h
  obtain ⟨h, h3⟩ := Bool.and_eq_true_iff.mp h
  obtain ⟨h1, h2⟩ := Bool.and_eq_true_iff.mp h
  refine ⟨sprOk_of h1, sprOk_of h2, ?_, of_decide_eq_true h4⟩
  unfold outsL
  rw [List.length_map, List.length_range]
  exact of_decide_eq_true h3
theorem ledL_ok (h : Sh2 p) {st : List Int} (hb : ∀ x ∈ st, bits x ≤ 2 ^ 20) {count b w : Nat} (h2 : count ≤ 4) (hb1 : 1 ≤ b) (hb2 : b ≤ 12) (hw : 16 ≤ w) (hw' : w ≤ 65) (ck : ChkB b count) {es : List (Ent L4)} (hes : es.length = count) (ok : okL es = true) :
    (run p 0 63).call 17 [.list ((es.map (mpE (val st))).map encE), .int b, .list ((outsL count b).map .int), .int w] = some (.list (((ledL es count b).map (mpE (val st))).map encE)) := by
  obtain ⟨v, c6, cp, c5⟩ := spr_ok (p := p) (k := 60) h.toSh hw hw' hb1 hb2 (Nat.le_succ_of_le h2) (by decide) ck.s1.1 ck.s1.2.1 ck.s1.2.2
  have e := ledG_mp (val st) (ad := lad) (ad' := iadd) (sm := lsm) (sm' := imul) (z := l0) (val_add st) (val_mul st) es (spr b count) (outsL count b)
  rw [val_zero] at e
  exact (led_ok (p := p) (k := 60) h (entOk_of hb ok) ((List.length_map ..).trans hes) h2 (Nat.lt_of_le_of_lt hb2 (by decide)) c6 cp c5 ck.s1.1 ck.s1.2.2 ck.o).trans (congrArg (fun l => some (V.list (l.map encE))) e)
theorem toldL_ok (h : Sh2 p) {st : List Int} (hs : st.length = 4) (hb : ∀ x ∈ st, bits x ≤ 2 ^ 20) {count b w : Nat} (h1 : 2 ≤ count) (h2 : count ≤ 4) (hb1 : 1 ≤ b) (hb2 : b ≤ 12) (hw : 16 ≤ w) (hw' : w ≤ 65) (ck : ChkB b count) {es : List (Ent L4)} (ht : toldL es (rowsLit count) b count (spr b (count + 1)) = true) :
    (run p 0 63).call 18 [.list ((es.map (mpE (val st))).map encE), .list ((rowsLit count).map rowV), .list (st.map .int), .int b, .int w] = some (.bool true) := by
  obtain ⟨v, c6, cp, c5⟩ := spr_ok (p := p) (k := 60) h.toSh hw hw' hb1 hb2 (Nat.succ_le_succ h2) (by decide) ck.s2.1 ck.s2.2.1 ck.s2.2.2
  obtain ⟨t1, t2, t3, t4⟩ := told_of (st := st) h1 h2 ht
  obtain ⟨r1, r2⟩ := rows_len h1 h2
  exact told_ok (p := p) (k := 60) h t1 r1 h2 (hs ▸ h2) hb1 (Nat.lt_of_le_of_lt hb2 (by decide)) hb r2 c6 cp c5 ck.s2.1 ck.s2.2.2 ck.d t2 t3 t4
theorem ledL_len {es : List (Ent L4)} {count b : Nat} (h : es.length = count) : (ledL es count b).length = count := by
  unfold ledL ledG; rw [List.length_map, List.length_range, h]
theorem okV_ents {st : List Int} {es : List (Ent L4)} (h : okL es = true) : okV 16 (.list ((es.map (mpE (val st))).map encE)) := by
  intro x hx
  obtain ⟨e', he', q⟩ := List.mem_map.mp hx
  subst q
  obtain ⟨e, he, q⟩ := List.mem_map.mp he'
  subst q
  have h := List.all_eq_true.mp h e he
  obtain ⟨h, _⟩ := Bool.and_eq_true_iff.mp h
  obtain ⟨h, _⟩ := Bool.and_eq_true_iff.mp h
  obtain ⟨h, _⟩ := Bool.and_eq_true_iff.mp h
  obtain ⟨h, _⟩ := Bool.and_eq_true_iff.mp h
  obtain ⟨h, _⟩ := Bool.and_eq_true_iff.mp h
  obtain ⟨_, g2⟩ := Bool.and_eq_true_iff.mp h
  intro y hy
  refine (List.mem_append (s := [V.int _, .int _, .int _, .int _]) (t := [_]).mp hy).elim (fun hy => okV_ints (xs := [val st e.a, val st e.b, val st e.c, val st e.d]) y hy) fun hy => ?_
  cases List.mem_singleton.mp hy
  refine ⟨?_, fun q hq => ?_⟩
  · rw [show ((encT (mpE (val st) e).t).map (·.1)) = e.t.map (·.1) from List.map_map.trans List.map_map]
    exact of_decide_eq_true g2
  · obtain ⟨q, _, z⟩ := List.mem_map.mp hq
    subst z
    exact okV_encM _
theorem colF_len {rows : List (List Int)} {st : List Int} {b count c : Nat} (h : 2 ≤ count) : (colF rows st b count c).length = 4 := by
  unfold colF
  rw [List.length_take, List.length_append, List.length_map, List.length_range]
  exact Nat.min_eq_left (Nat.add_le_add_right h 2)
theorem cast_ex (a : Int) {m k : Nat} (hm : 0 < m) : ∃ n : Nat, k ≤ n ∧ n < k + m ∧ (k : Int) + a.fmod m = n := by
  obtain ⟨c, hc, e⟩ := fmod_nat' a hm
  exact ⟨k + c, Nat.le_add_right .., Nat.add_lt_add_left hc _, by rw [e]; rfl⟩
theorem law2_run (h : Sh2 p) (hrows : ∀ count : Nat, 2 ≤ count → count ≤ 4 → (run p 0 63).call 11 [.int count] = some (.list ((rowsLit count).map rowV))) {ns : List Int} (hlen : ns.length ≤ 63) (hbits : ∀ x ∈ ns, bits x ≤ 2 ^ 20) : (run p 0 64).call 19 [.list (ns.map .int)] = some (.bool true) := by
  have f1 : (run p 0 63).call 9 [.list (ns.map .int), .int 0, .list [.int 1, .int 0, .int 1, .int 47, .int 0]] = _ := fill_ok h (sp := [1, 0, 1, 47, 0]) (n := 0) hlen (by decide)
  have f2 : (run p 0 63).call 9 [.list (ns.map .int), .int 5, .list [.int 1, .int (-2), .int 3, .int 5]] = _ := fill_ok h (sp := [1, -2, 3, 5]) (n := 5) hlen (by decide)
  obtain ⟨d0, d1, d2, d3, d4, hD⟩ := list5 (fill_len (ns := ns) (sp := [1, 0, 1, 47, 0]) (n := 0))
  rw [hD] at f1
  have hs4 : ((ns.drop 5 ++ ([1, -2, 3, 5] : List Int).drop (ns.drop 5).length).take ([1, -2, 3, 5] : List Int).length).length = 4 := fill_len
  have hsb : ∀ x ∈ (ns.drop 5 ++ ([1, -2, 3, 5] : List Int).drop (ns.drop 5).length).take ([1, -2, 3, 5] : List Int).length, bits x ≤ 2 ^ 20 := fun x hx => (fill_mem hx).elim (hbits x) fun q => of_decide_eq_true (List.all_eq_true.mp (show ([1, -2, 3, 5] : List Int).all (fun x => decide (bits x ≤ 2 ^ 20)) = true by decide +kernel) x q)
  generalize (ns.drop 5 ++ ([1, -2, 3, 5] : List Int).drop (ns.drop 5).length).take ([1, -2, 3, 5] : List Int).length = st at f2 hs4 hsb
  clear hD
  obtain ⟨count, hc2, hc5, hc⟩ := cast_ex d0 (k := 2) (show 0 < 3 by decide)
  obtain ⟨one, ho2, ho5, ho⟩ := cast_ex d1 (k := 2) (show 0 < 3 by decide)
  obtain ⟨two, ht2, ht4, ht⟩ := cast_ex d2 (k := 2) (show 0 < 2 by decide)
  obtain ⟨s, _, hs, hsh⟩ := cast_ex d3 (k := 0) (show 0 < 101 by decide)
  obtain ⟨w, hw16, hw66, hw⟩ := cast_ex (d4.fdiv 2) (k := 16) (show 0 < 50 by decide)
  have hc : (2 : Int) + d0.fmod 3 = count := hc
  have ho : (2 : Int) + d1.fmod 3 = one := ho
  have ht : (2 : Int) + d2.fmod 2 = two := ht
  have hsh : d3.fmod 101 = s := (Int.zero_add _).symm.trans hsh
  have hw : (16 : Int) + (d4.fdiv 2).fmod 50 = w := hw
  have hc4 : count ≤ 4 := Nat.le_of_lt_succ hc5
  have ho4 : one ≤ 4 := Nat.le_of_lt_succ ho5
  have ht3 : two ≤ 3 := Nat.le_of_lt_succ ht4
  have hw65 : w ≤ 65 := Nat.le_of_lt_succ hw66
  obtain ⟨side, hsd, hside⟩ : ∃ x : Int, (x = 1 ∨ x = -1) ∧ (bif d4.fmod 2 == 1 then some (V.int (-1)) else some (V.int 1)) = some (V.int x) := by
    cases d4.fmod 2 == 1 with
    | true => exact ⟨-1, .inr rfl, rfl⟩
    | false => exact ⟨1, .inl rfl, rfl⟩
  obtain ⟨shift, x5⟩ : ∃ x : Int, (s : Int) - 50 = x := ⟨_, rfl⟩
  have hs50 : shift.natAbs ≤ 50 := by omega
  have x6 : binI .Mult (one : Int) (two : Int) = some (.int ((one * two : Nat) : Int)) := by
    have b1 : bits (one : Int) ≤ 3 := bits_le (Nat.lt_of_le_of_lt ho4 (by decide))
    have b2 : bits (two : Int) ≤ 2 := bits_le (Nat.lt_of_le_of_lt ht3 (by decide))
    exact mul_ok (Nat.le_trans (Nat.add_le_add b1 b2) (by decide))
  have hot : one * two ≤ 12 := Nat.mul_le_mul ho4 ht3
  have hot1 : 1 ≤ one * two := Nat.mul_pos (Nat.lt_of_lt_of_le (by decide) ho2) (Nat.lt_of_lt_of_le (by decide) ht2)
  have ck := chk_of (c := count) (o := one) (t := two) hc2 hc4 ho2 ho4 ht2 ht3
  obtain ⟨ck, feq⟩ := Bool.and_eq_true_iff.mp ck
  obtain ⟨ck, tl2⟩ := Bool.and_eq_true_iff.mp ck
  obtain ⟨ck, tl1⟩ := Bool.and_eq_true_iff.mp ck
  obtain ⟨ck, kb3⟩ := Bool.and_eq_true_iff.mp ck
  obtain ⟨ck, kb2⟩ := Bool.and_eq_true_iff.mp ck
  obtain ⟨ck, kb1⟩ := Bool.and_eq_true_iff.mp ck
  obtain ⟨ck, ok3⟩ := Bool.and_eq_true_iff.mp ck
  obtain ⟨ok1, ok2⟩ := Bool.and_eq_true_iff.mp ck
  have feq := map_inj cdE_inj (eq_of_beq feq)
  obtain ⟨r1, r2⟩ := rows_len hc2 hc4
  have hcb : count ≤ big := Nat.le_trans hc4 (by decide)
  have c12 : (run p 0 63).call 12 [.list ((rowsLit count).map rowV), .list (st.map .int), .int 1] = some (.list (colsV (rowsLit count) st 1 count count)) := cols_ok (p := p) (k := 62) h (st := st) (b := 1) r1 hc4 (hs4 ▸ hc4) (by decide) hsb r2
  have fl : (firstL (rowsLit count) count).length = count := (List.length_map ..).trans List.length_range
  have lo : 1 ≤ one := Nat.le_trans (by decide) ho2
  have lt : 1 ≤ two := Nat.le_trans (by decide) ht2
  have l17 := ledL_ok h hsb hc4 (b := one) (w := w) lo (Nat.le_trans ho4 (by decide)) hw16 hw65 (chkB_of kb1) fl ok1
  have u17 := ledL_ok h hsb hc4 (b := two) (w := w) lt (Nat.le_trans ht3 (by decide)) hw16 hw65 (chkB_of kb2) (ledL_len (b := one) fl) ok2
  have v17 := ledL_ok h hsb hc4 (b := one * two) (w := w) hot1 hot hw16 hw65 (chkB_of kb3) fl ok1
  rw [feq] at v17
  have l18 := toldL_ok h hs4 hsb hc2 hc4 (b := one) (w := w) lo (Nat.le_trans ho4 (by decide)) hw16 hw65 (chkB_of kb1) tl1
  have u18 := toldL_ok h hs4 hsb hc2 hc4 (b := one * two) (w := w) hot1 hot hw16 hw65 (chkB_of kb3) tl2
  have p16 : ∀ b : Nat, 1 ≤ b → b < 16 → (run p 0 63).call 16 [.int count, .int b, .int shift, .int side] = some (.list (lpairs count b shift side)) := fun b h1 h2 => pairs_ok (p := p) (k := 35) h hc4 h1 h2 hs50 hsd
  have hj : ∀ j ∈ [one, two, one * two], 1 ≤ j ∧ j < 16 := fun j hj => (List.mem_cons.mp hj).elim (fun e => e ▸ ⟨lo, Nat.lt_of_le_of_lt ho4 (by decide)⟩) fun hj => (List.mem_cons.mp hj).elim (fun e => e ▸ ⟨lt, Nat.lt_of_le_of_lt ht3 (by decide)⟩) fun hj => List.mem_singleton.mp hj ▸ ⟨hot1, Nat.lt_of_le_of_lt hot (by decide)⟩
  have oku : okV 16 (.list (((ledL (ledL (firstL (rowsLit count) count) count one) count two).map (mpE (val st))).map encE)) := okV_ents ok3
  have okp : okV 16 (.list (lpairs count (one * two) shift side)) := fun x hx => by
    obtain ⟨t, _, e⟩ := List.mem_map.mp hx
    subst e
    exact okV_ints (xs := [_, _])
  have hcot : count * (one * two) ≤ 48 := Nat.mul_le_mul hc4 hot
  have c13 : ∀ j : Nat, j < count → (run p 0 63).call 13 [.int j, .int 1, .list (st.map .int)] = some (encM (markF j 1 st)) := fun j hj => mark_ok (p := p) (k := 62) h (c := j) (w := 1) (st := st) (hs4 ▸ Nat.lt_of_lt_of_le hj hc4) fun x hx => Nat.le_trans (Nat.add_le_add (show bits 1 ≤ 1 by decide) (hsb x hx)) (by decide)
  have c11 := hrows count hc2 hc4
  have hg : (run p 0 63).gen = 0 := run_gen
  rw [run_call, h.f19]
  generalize run p 0 63 = cx at f1 f2 c12 l17 u17 v17 l18 u18 p16 c13 c11 hg ⊢
  dsimp only [fn19]
  dsimp only [Option.bind_some, List.replicate_zero, List.replicate_succ, args_1, st_z, st_s]
  refine stepE (m' := ?m1) ?h1 ?_
  case h1 =>
    walk_at "EV"
    rw [f1]
    rfl
  refine stepE (m' := ?m2) ?h2 ?_
  case h2 =>
    walk_at "EV"
    rw [f2]
    rfl
  refine stepE (m' := ?m3) ?h3 ?_
  case h3 =>
    walk_at "EV"
    rw [mod_ok (a := d0) (b := 3) (by decide)]
    walk_at "EV"
    rw [hc]
  refine stepE (m' := ?m4) ?h4 ?_
  case h4 =>
    walk_at "EV"
    rw [mod_ok (a := d1) (b := 3) (by decide)]
    walk_at "EV"
    rw [ho]
  refine stepE (m' := ?m5) ?h5 ?_
  case h5 =>
    walk_at "EV"
    rw [mod_ok (a := d2) (b := 2) (by decide)]
    walk_at "EV"
    rw [ht]
  refine stepE (m' := ?m6) ?h6 ?_
  case h6 =>
    walk_at "EV"
    rw [mod_ok (a := d3) (b := 101) (by decide)]
    walk_at "EV"
    rw [hsh, x5]
  refine stepE (m' := ?m7) ?h7 ?_
  case h7 =>
    walk_at "EV"
    rw [mod_ok (a := d4) (b := 2) (by decide)]
    walk_at "EV"
    rw [hside]
    rfl
  refine stepE (m' := ?m8) ?h8 ?_
  case h8 =>
    walk_at "EV"
    rw [fdiv_ok (a := d4) (b := 2) (by decide) (by decide)]
    walk_at "EV"
    rw [mod_ok (b := 50) (by decide)]
    walk_at "EV"
    rw [hw]
  refine stepE (m' := ?m9) ?h9 ?_
  case h9 =>
    walk_at "EV"
    rw [c11]
    rfl
  refine stepE (m' := ?m10) ?h10 ?_
  case h10 =>
    walk_at "EV"
    rw [c12]
    rfl
  refine stepE (m' := ?m11) ?h11 ?_
  case h11 =>
    walk_at "EV"
    rw [lc_map (List.range count) (fun (j : Nat) => V.int (j : Int)) (fun c => encE ⟨(colF (rowsLit count) st 1 count c).getD 0 0, (colF (rowsLit count) st 1 count c).getD 1 0, (colF (rowsLit count) st 1 count c).getD 2 0, (colF (rowsLit count) st 1 count c).getD 3 0, [((c : Int), markF c 1 st)]⟩) ?it (fun j hj => ?el) (List.length_range ▸ hcb),
      show (List.range count).map (fun c => encE ⟨(colF (rowsLit count) st 1 count c).getD 0 0, (colF (rowsLit count) st 1 count c).getD 1 0, (colF (rowsLit count) st 1 count c).getD 2 0, (colF (rowsLit count) st 1 count c).getD 3 0, [((c : Int), markF c 1 st)]⟩) = ((firstL (rowsLit count) count).map (mpE (val st))).map encE by rw [firstL_val hc2 hc4, List.map_map]; rfl]
    rotate_left
    case it =>
      walk_at "EV"
      rw [itm_rng hcb]
    case el =>
      have hj := List.mem_range.mp hj
      have e1 : (colsV (rowsLit count) st 1 count count)[j]? = some (.tup ((colF (rowsLit count) st 1 count j).map .int)) := by unfold colsV; rw [List.getElem?_map, List.getElem?_range hj]; rfl
      walk_at "EV"
      rw [sub_list, e1]
      walk_at "EV"
      rw [c13 j hj]
      walk_at "EV"
      rw [tup_add (by rw [List.length_map, colF_len hc2]; exact (show 4 + 1 ≤ big by decide)), hg]
      conv => lhs; rw [list4 (z := (0 : Int)) (colF_len (rows := rowsLit count) (st := st) (b := 1) (c := j) hc2)]
      rfl
    rfl
  refine stepE (m' := ?m12) ?h12 ?_
  case h12 =>
    walk_at "EV"
    rw [lc_map [one, two, one * two] (fun (j : Nat) => V.int (j : Int)) (fun b => .list (lpairs count b shift side)) ?it (fun j hm => ?el) (show 3 ≤ big by decide)]
    rotate_left
    case it =>
      walk_at "EV"
      rw [x6]
      rfl
    case el =>
      walk_at "EV"
      rw [p16 j (hj j hm).1 (hj j hm).2]
    rfl
  refine stepE (m' := ?m13) ?h13 ?_
  case h13 =>
    walk_at "EV"
    rw [lc_map [one, two, one * two] (fun b => V.list (lpairs count b shift side)) (fun b => .list ((outsL count b).map .int)) ?it (fun j hm => ?el) (show 3 ≤ big by decide)]
    rotate_left
    case it => rfl
    case el =>
      have hjb : count * j ≤ big := Nat.le_trans (Nat.mul_le_mul hc4 (Nat.le_of_lt (hj j hm).2)) (by decide)
      walk_at "EV"
      rw [lc_map (List.range (count * j)) (fun t => V.tup [.int ((t / j : Nat) + shift), .int (side * (t % j : Nat))]) (fun t => V.int ((t / j : Nat) : Int)) ?it2 (fun t _ => ?el2) (List.length_range ▸ hjb)]
      rotate_left
      case it2 => rfl
      case el2 =>
        walk_at "EV"
        rw [Int.add_sub_cancel]
      unfold outsL
      rw [List.map_map]
      rfl
    rfl
  refine stepE (m' := ?m14) ?h14 ?_
  case h14 =>
    walk_at "EV"
    rw [l17]
    rfl
  refine stepE (m' := ?m15) ?h15 ?_
  case h15 =>
    walk_at "EV"
    rw [u17]
    rfl
  refine stepE (m' := ?m16) ?h16 ?_
  case h16 =>
    walk_at "EV"
    rw [l18]
    walk_at "EV"
    rw [x6]
    walk_at "EV"
    rw [u18]
    rfl
  refine stepE (m' := ?m17) ?h17 ?_
  case h17 =>
    walk_at "EV"
    rw [x6]
    walk_at "EV"
    rw [v17]
    walk_at "EV"
    rw [ne_self oku]
    rfl
  refine stepE (m' := ?m18) ?h18 ?_
  case h18 =>
    walk_at "EV"
    rw [x6]
    rfl
  walk_at "EV"
  rw [lc_map (List.range (count * (one * two))) (fun (t : Nat) => V.int (t : Int)) (fun t => V.tup [.int ((t / (one * two) : Nat) + shift), .int (side * (t % (one * two) : Nat))]) ?it (fun t ht => ?el) (List.length_range ▸ Nat.le_trans hcot (by decide))]
  rotate_left
  case it =>
    have mm : binI .Mult (count : Int) ((one * two : Nat) : Int) = some (.int ((count * (one * two) : Nat) : Int)) := by
      have b1 : bits (count : Int) ≤ 3 := bits_le (Nat.lt_of_le_of_lt hc4 (by decide))
      have b2 : bits ((one * two : Nat) : Int) ≤ 4 := bits_le (Nat.lt_of_le_of_lt hot (by decide))
      exact mul_ok (Nat.le_trans (Nat.add_le_add b1 b2) (by decide))
    walk_at "EV"
    rw [mm]
    walk_at "EV"
    rw [itm_rng (Nat.le_trans hcot (by decide))]
  case el =>
    have z : ((one * two : Nat) : Int) ≠ 0 := fun e => absurd (Int.ofNat.inj e) (Nat.ne_of_gt hot1)
    have e3 : binI .Mult side ((t % (one * two) : Nat) : Int) = some (.int (side * ((t % (one * two) : Nat) : Int))) := by
      have b1 : bits side ≤ 1 := by rcases hsd with q | q <;> subst q <;> decide
      have b2 : bits ((t % (one * two) : Nat) : Int) ≤ 4 := bits_le (Nat.lt_of_lt_of_le (Nat.mod_lt t hot1) (Nat.le_trans hot (by decide)))
      exact mul_ok (Nat.le_trans (Nat.add_le_add b1 b2) (by decide))
    walk_at "EV"
    rw [fdiv_ok z (Nat.lt_of_le_of_lt hot (by decide)), fdiv_nat]
    walk_at "EV"
    rw [mod_ok z, fmod_nat]
    walk_at "EV"
    rw [e3]
    rfl
  walk_at "EV"
  rw [show (List.range (count * (one * two))).map (fun t => V.tup [.int ((t / (one * two) : Nat) + shift), .int (side * (t % (one * two) : Nat))]) = lpairs count (one * two) shift side from rfl, eq_self' okp]
  rfl
theorem law2_p2 {ns : List Int} (hlen : ns.length ≤ 63) (hbits : ∀ x ∈ ns, bits x ≤ 2 ^ 20) : (run p2 0 64).call 19 [.list (ns.map .int)] = some (.bool true) :=
  law2_run sh2 (fun _ h1 h2 => rows_ok h1 h2) hlen hbits
theorem weight_one {x : Int} {n : Nat} (h : PyData.weight (.int x) ≤ n) : bits x ≤ n := by
  unfold PyData.weight at h
  unfold bits
  by_cases h0 : x = 0
  · rw [if_pos h0]; exact Nat.zero_le _
  · rw [if_neg h0]
    rw [if_neg fun q => h0 (eq_of_beq q)] at h
    exact h
theorem weight_bits {ns : List Int} : ∀ {n : Nat}, PyData.weightAll (ns.map PyData.int) ≤ n → ∀ x ∈ ns, bits x ≤ n := by
  induction ns with
  | nil => exact fun _ x hx => absurd hx List.not_mem_nil
  | cons y r ih =>
    intro n h x hx
    have h : PyData.weight (.int y) + 1 + PyData.weightAll (r.map PyData.int) ≤ n := h
    exact (List.mem_cons.mp hx).elim (fun e => e ▸ weight_one (Nat.le_trans (Nat.le_add_right _ 1) (Nat.le_trans (Nat.le_add_right ..) h))) (ih (Nat.le_trans (Nat.le_add_left ..) h) x)
theorem H2 {ns : List Int} (hlen : ns.length ≤ 63) (hlay : (PyData.list (ns.map PyData.int)).layable0 = true) : (run p2 0 64).call 19 [.list (ns.map .int)] = some (.bool true) :=
  law2_p2 hlen (weight_bits (of_decide_eq_true (Bool.and_eq_true_iff.mp hlay).2))
end
end Mine
end
section
set_option maxRecDepth 100000
set_option genSizeOf false
set_option genInjectivity false
namespace Mine
open PySem PyProof.Rows SeqAt
noncomputable def fdOf : Stmt → Option FD
  | .FunctionDef name args b _ _ _ sc _ _ _ => some ⟨name, args, b, sc⟩
  | _ => none
noncomputable def body2 : List Stmt := PySem.Challenge.pw_ph0108_02.main.body
noncomputable def nilFD : FD := ⟨"", ⟨[], [], none, [], [], none, []⟩, [], { kind := .function, names := [], isGenerator := false, isCoroutine := false }⟩
noncomputable def fds2 : List FD := body2.filterMap fdOf
noncomputable def fd2 (i : Nat) : FD := fds2.getD i nilFD
noncomputable def nf2 (i : Nat) : FD := ((fd2 i).body.filterMap fdOf).getD 0 nilFD
noncomputable def gc2 : List (Str × Int) := [("_DIV_LIMIT", 4000)]
noncomputable def gl2 : List Str := fds2.map (·.name)
noncomputable def Tf (cd : Bool) (nst : List (Str × Nat × List (Str × Bool) × List Str)) (sc : Scope) : Tx := ⟨gl2, gc2, sig sc, cfOf sc, owOf sc, cd, nst⟩
noncomputable def inn (f : Nat) (sc : Scope) : List (Str × Nat × List (Str × Bool) × List Str) := [("inner", f, sig sc, freeIn sc)]
noncomputable def T2 (i : Nat) : Tx := Tf true [] (fd2 i).sc
noncomputable def TI (i f : Nat) : Tx := Tf true (inn f (nf2 i).sc) (fd2 i).sc
noncomputable def TN (i f : Nat) : Tx := Tf false (inn f (nf2 i).sc) (nf2 i).sc
noncomputable def nst2 : List Nest := [⟨(nf2 5).args, (nf2 5).body, (nf2 5).sc⟩, ⟨(nf2 6).args, (nf2 6).body, (nf2 6).sc⟩]
noncomputable def Dr (G : Gd) (T : Tx) (b : List Stmt) (t : Ss) : Prop := ∀ c k, Bk G c k T → SSs G c k T b t
noncomputable def nmB (T : Tx) (x : Str) (i : Nat) : Bool := isVar T.sg x && (idxOf T.sg x == i && (!(x == ("__debug__" : Str)) && !(x == ("__classdict__" : Str))))
theorem not_eq {b : Bool} (h : (!b) = true) : b = false := by
  cases b with
  | false => rfl
  | true => exact Bool.noConfusion h
theorem nm_ok {T : Tx} {x : Str} {i : Nat} (h : nmB T x i = true) : NmOk T x i := by
  obtain ⟨h1, h⟩ := Bool.and_eq_true_iff.mp h
  obtain ⟨h2, h⟩ := Bool.and_eq_true_iff.mp h
  obtain ⟨h3, h4⟩ := Bool.and_eq_true_iff.mp h
  exact ⟨h1, eq_of_beq h2, not_eq h3, not_eq h4⟩
noncomputable def gnB (T : Tx) (x : Str) : Bool := T.sg.lookup x == some false && !(x == ("__debug__" : Str))
theorem gn_ok {T : Tx} {x : Str} (h : gnB T x = true) : GnOk T x := by
  obtain ⟨h1, h2⟩ := Bool.and_eq_true_iff.mp h
  exact ⟨h1, not_eq h2⟩
theorem ow_ok {T : Tx} {x : Str} (h : T.ow.contains x = true) : x ∈ T.ow := List.contains_iff_mem.mp h
theorem ix_ok {T : Tx} {x : Str} {i : Nat} (h : (idxOf T.sg x == i) = true) : idxOf T.sg x = i := eq_of_beq h
theorem lk5 : (TI 5 0).nst.lookup (Str.ofString "inner") = some (0, sig (nf2 5).sc, freeIn (nf2 5).sc) := by kernel_rfl
theorem lk6 : (TI 6 1).nst.lookup (Str.ofString "inner") = some (1, sig (nf2 6).sc, freeIn (nf2 6).sc) := by kernel_rfl
theorem lkn5 : (TN 5 0).nst.lookup (Str.ofString "inner") = some (0, sig (nf2 5).sc, freeIn (nf2 5).sc) := by kernel_rfl
theorem lkn6 : (TN 6 1).nst.lookup (Str.ofString "inner") = some (1, sig (nf2 6).sc, freeIn (nf2 6).sc) := by kernel_rfl
set_option maxHeartbeats 8000000
section
variable {G : Gd}
theorem d2_0 : Dr G (T2 0) (fd2 0).body fn0.body := fun c k b => (sss_cons (ss_asgT (.cons (ow_ok (by kernel_rfl)) (ix_ok (by kernel_rfl)) (.cons (ow_ok (by kernel_rfl)) (ix_ok (by kernel_rfl)) (.cons (ow_ok (by kernel_rfl)) (ix_ok (by kernel_rfl)) (.cons (ow_ok (by kernel_rfl)) (ix_ok (by kernel_rfl)) (.cons (ow_ok (by kernel_rfl)) (ix_ok (by kernel_rfl)) .nil))))) (by exact fun _ => rfl) (by exact fun _ => rfl) (se_var _ (nm_ok (by kernel_rfl)))) (sss_cons (ss_asgT (.cons (ow_ok (by kernel_rfl)) (ix_ok (by kernel_rfl)) (.cons (ow_ok (by kernel_rfl)) (ix_ok (by kernel_rfl)) (.cons (ow_ok (by kernel_rfl)) (ix_ok (by kernel_rfl)) (.cons (ow_ok (by kernel_rfl)) (ix_ok (by kernel_rfl)) (.cons (ow_ok (by kernel_rfl)) (ix_ok (by kernel_rfl)) .nil))))) (by exact fun _ => rfl) (by exact fun _ => rfl) (se_var _ (nm_ok (by kernel_rfl)))) (sss_cons (ss_ret (se_tup (by kernel_rfl) (.cons (by exact fun _ _ _ => rfl) (SEo.se (seo_bin (sr2 (se_var _ (nm_ok (by kernel_rfl))) (se_var _ (nm_ok (by kernel_rfl)))))) (.cons (by exact fun _ _ _ => rfl) (SEo.se (seo_bin (sr2 (se_var _ (nm_ok (by kernel_rfl))) (se_var _ (nm_ok (by kernel_rfl)))))) (.cons (by exact fun _ _ _ => rfl) (SEo.se (seo_bin (sr2 (se_var _ (nm_ok (by kernel_rfl))) (se_var _ (nm_ok (by kernel_rfl)))))) (.cons (by exact fun _ _ _ => rfl) (SEo.se (seo_bin (sr2 (se_var _ (nm_ok (by kernel_rfl))) (se_var _ (nm_ok (by kernel_rfl)))))) (.cons (by exact fun _ _ _ => rfl) (se_call b.toBs (gn_ok (by kernel_rfl)) (by kernel_rfl) (.cons (by exact fun _ _ _ => rfl) (se_var _ (nm_ok (by kernel_rfl))) (.cons (by exact fun _ _ _ => rfl) (se_var _ (nm_ok (by kernel_rfl))) .nil))) .nil))))))) sss_nil)))
theorem d2_1 : Dr G (T2 1) (fd2 1).body fn1.body := fun c k b => (sss_cons (ss_asgO (ow_ok (by kernel_rfl)) (ix_ok (by kernel_rfl)) (by exact fun _ => rfl) (seo_dct0 b.toBs)) (sss_cons (ss_for' (si_items (by kernel_rfl) (by exact fun _ _ => rfl) (se_var _ (nm_ok (by kernel_rfl)))) .tup (.many (.cons (ow_ok (by kernel_rfl)) (ix_ok (by kernel_rfl)) (.cons (ow_ok (by kernel_rfl)) (ix_ok (by kernel_rfl)) .nil))) (by exact fun _ _ => rfl) (sss_cons (ss_asgS (nm_ok (by kernel_rfl)) (by exact fun _ => rfl) (se_var _ (nm_ok (by kernel_rfl))) (se_var _ (nm_ok (by kernel_rfl)))) sss_nil)) (sss_cons (ss_for' (si_items (by kernel_rfl) (by exact fun _ _ => rfl) (se_var _ (nm_ok (by kernel_rfl)))) .tup (.many (.cons (ow_ok (by kernel_rfl)) (ix_ok (by kernel_rfl)) (.cons (ow_ok (by kernel_rfl)) (ix_ok (by kernel_rfl)) .nil))) (by exact fun _ _ => rfl) (sss_cons (ss_ite (sb_in (by kernel_rfl) (sin_var (nm_ok (by kernel_rfl)) (se_var _ (nm_ok (by kernel_rfl))))) (sss_cons (ss_ite (sb_value (by exact fun _ _ => rfl) (se_isTup b.toBs ⟨gn_ok (by kernel_rfl), (by kernel_rfl)⟩ ⟨gn_ok (by kernel_rfl), (by kernel_rfl)⟩ (by exact fun _ _ _ => rfl) (by exact fun _ _ _ => rfl) (sa_var (nm_ok (by kernel_rfl))))) (sss_cons (ss_asgS (nm_ok (by kernel_rfl)) (by exact fun _ => rfl) (se_var _ (nm_ok (by kernel_rfl))) (se_tzip b.toBs b.bm ⟨gn_ok (by kernel_rfl), (by kernel_rfl)⟩ ⟨gn_ok (by kernel_rfl), (by kernel_rfl)⟩ (by kernel_rfl) (by kernel_rfl) (by kernel_rfl) (by kernel_rfl) (by kernel_rfl) (by kernel_rfl) (by kernel_rfl) (by kernel_rfl) (by kernel_rfl) (by exact fun _ _ _ => rfl) (by exact fun _ _ _ => rfl) (by exact fun _ _ _ => rfl) (se_var _ (nm_ok (by kernel_rfl))) (se_sub (by exact fun _ _ => ⟨_, rfl⟩) (sa2_var (nm_ok (by kernel_rfl)) (se_var _ (nm_ok (by kernel_rfl))))))) sss_nil) (sss_cons (ss_augS (nm_ok (by kernel_rfl)) (nm_ok (by kernel_rfl)) (se_var _ (nm_ok (by kernel_rfl)))) sss_nil)) sss_nil) (sss_cons (ss_asgS (nm_ok (by kernel_rfl)) (by exact fun _ => rfl) (se_var _ (nm_ok (by kernel_rfl))) (se_var _ (nm_ok (by kernel_rfl)))) sss_nil)) sss_nil)) (sss_cons (ss_ret (se_var _ (nm_ok (by kernel_rfl)))) sss_nil))))
theorem d2_2 : Dr G (T2 2) (fd2 2).body fn2.body := fun c k b => (sss_cons (ss_asg (ow_ok (by kernel_rfl)) (ix_ok (by kernel_rfl)) (by exact fun _ => rfl) (se_int _ _ _)) (sss_cons (ss_for' (si_values (by kernel_rfl) (by exact fun _ _ => rfl) (se_var _ (nm_ok (by kernel_rfl)))) .name (.one (ow_ok (by kernel_rfl)) (ix_ok (by kernel_rfl))) (by exact fun _ _ => rfl) (sss_cons (ss_aug (nm_ok (by kernel_rfl)) (ow_ok (by kernel_rfl)) (se_var _ (nm_ok (by kernel_rfl)))) sss_nil)) (sss_cons (ss_ret (se_var _ (nm_ok (by kernel_rfl)))) sss_nil)))
theorem d2_3 : Dr G (T2 3) (fd2 3).body fn3.body := fun c k b => (sss_cons (ss_ite (sb_cmp (by kernel_rfl) (sr2 (SEo.se (seo_bin (sr2 (se_bitlen (by kernel_rfl) (by exact fun _ _ => rfl) (sa_var (nm_ok (by kernel_rfl)))) (se_var _ (nm_ok (by kernel_rfl)))))) (se_gc _ b.toBs (gn_ok (by kernel_rfl)) (by kernel_rfl)))) (sss_cons (ss_ret (se_bi2 b.toBs (.b _) ok2_divmod ⟨gn_ok (by kernel_rfl), (by kernel_rfl)⟩ (by exact fun _ _ _ => rfl) (by exact fun _ _ _ => rfl) (sa2_of (sr2 (se_var _ (nm_ok (by kernel_rfl))) (se_var _ (nm_ok (by kernel_rfl))))))) sss_nil) sss_nil) sss_bad)
theorem d2_4 : Dr G (T2 4) (fd2 4).body fn4.body := fun c k b => sss_bad
theorem d2_5 (n : G.nest 0 = some ⟨(nf2 5).args, (nf2 5).body, (nf2 5).sc⟩) : Dr G (TI 5 0) (fd2 5).body fn5.body := fun c k b => have l := lk5; (sss_cons (ss_asgO (ow_ok (by kernel_rfl)) (ix_ok (by kernel_rfl)) (by exact fun _ => rfl) (seo_bin (sr2 (SEo.se (seo_lst (by kernel_rfl) (.cons (by exact fun _ _ _ => rfl) (se_int _ _ _) .nil))) (SEo.se (seo_bin (sr2 (SEo.se (seo_bin (sr2 (SEo.se (seo_bin (sr2 (se_bitlen (by kernel_rfl) (by exact fun _ _ => rfl) (sa_var (nm_ok (by kernel_rfl)))) (se_var _ (nm_ok (by kernel_rfl)))))) (se_int _ _ _)))) (se_var _ (nm_ok (by kernel_rfl))))))))) (sss_cons (ss_defn b.bm (ow_ok (by kernel_rfl)) (ix_ok (by kernel_rfl)) (by kernel_rfl) (by kernel_rfl) (by kernel_rfl) n) (sss_cons (ss_ite (sb_value (by exact fun _ _ => rfl) (se_var _ (nm_ok (by kernel_rfl)))) (sss_cons (ss_cloS b.toBz l (nm_ok (by kernel_rfl)) (by kernel_rfl) (by kernel_rfl) (.cons (by exact fun _ _ _ => rfl) (se_var _ (nm_ok (by kernel_rfl))) (.cons (by exact fun _ _ _ => rfl) (se_int _ _ _) (.cons (by exact fun _ _ _ => rfl) (se_bi1 b.toBs (.b _) ok1_len ⟨gn_ok (by kernel_rfl), (by kernel_rfl)⟩ (by exact fun _ _ _ => rfl) (sa_var (nm_ok (by kernel_rfl)))) .nil)))) sss_nil) sss_nil) (sss_cons (ss_ret (se_var _ (nm_ok (by kernel_rfl)))) sss_nil))))
theorem d2_6 (n : G.nest 1 = some ⟨(nf2 6).args, (nf2 6).body, (nf2 6).sc⟩) : Dr G (TI 6 1) (fd2 6).body fn6.body := fun c k b => have l := lk6; (sss_cons (ss_defn b.bm (ow_ok (by kernel_rfl)) (ix_ok (by kernel_rfl)) (by kernel_rfl) (by kernel_rfl) (by kernel_rfl) n) (sss_cons (ss_ret (se_ite (sb_value (by exact fun _ _ => rfl) (se_var _ (nm_ok (by kernel_rfl)))) (se_clo b.toBz l (nm_ok (by kernel_rfl)) (by kernel_rfl) (by kernel_rfl) (.cons (by exact fun _ _ _ => rfl) (se_int _ _ _) (.cons (by exact fun _ _ _ => rfl) (se_bi1 b.toBs (.b _) ok1_len ⟨gn_ok (by kernel_rfl), (by kernel_rfl)⟩ (by exact fun _ _ _ => rfl) (sa_var (nm_ok (by kernel_rfl)))) .nil))) (se_int _ _ _))) sss_nil))
theorem d2_7 : Dr G (T2 7) (fd2 7).body fn7.body := fun c k b => (sss_cons (ss_asg (ow_ok (by kernel_rfl)) (ix_ok (by kernel_rfl)) (by exact fun _ => rfl) (se_bitlen (by kernel_rfl) (by exact fun _ _ => rfl) (sa_var (nm_ok (by kernel_rfl))))) (sss_cons (ss_asg (ow_ok (by kernel_rfl)) (ix_ok (by kernel_rfl)) (by exact fun _ => rfl) (se_call b.toBs (gn_ok (by kernel_rfl)) (by kernel_rfl) (.cons (by exact fun _ _ _ => rfl) (se_var _ (nm_ok (by kernel_rfl))) (.cons (by exact fun _ _ _ => rfl) (se_var _ (nm_ok (by kernel_rfl))) .nil)))) (sss_cons (ss_asg (ow_ok (by kernel_rfl)) (ix_ok (by kernel_rfl)) (by exact fun _ => rfl) (se_int _ _ _)) (sss_cons (ss_asgO (ow_ok (by kernel_rfl)) (ix_ok (by kernel_rfl)) (by exact fun _ => rfl) (seo_lst (by kernel_rfl) .nil)) (sss_cons (ss_for' (si_rev b.toBs ⟨gn_ok (by kernel_rfl), (by kernel_rfl)⟩ (by exact fun _ _ _ => rfl) (se_var _ (nm_ok (by kernel_rfl)))) .name (.one (ow_ok (by kernel_rfl)) (ix_ok (by kernel_rfl))) (by exact fun _ _ => rfl) (sss_cons (ss_asgT (.cons (ow_ok (by kernel_rfl)) (ix_ok (by kernel_rfl)) (.cons (ow_ok (by kernel_rfl)) (ix_ok (by kernel_rfl)) .nil)) (by exact fun _ => rfl) (by exact fun _ => rfl) (se_call b.toBs (gn_ok (by kernel_rfl)) (by kernel_rfl) (.cons (by exact fun _ _ _ => rfl) (SEo.se (seo_bin (sr2 (SEo.se (seo_bin (sr2 (se_var _ (nm_ok (by kernel_rfl))) (se_var _ (nm_ok (by kernel_rfl)))))) (se_var _ (nm_ok (by kernel_rfl)))))) (.cons (by exact fun _ _ _ => rfl) (se_var _ (nm_ok (by kernel_rfl))) (.cons (by exact fun _ _ _ => rfl) (se_var _ (nm_ok (by kernel_rfl))) .nil))))) (sss_cons (ss_append (nm_ok (by kernel_rfl)) (by kernel_rfl) (by exact fun _ _ => rfl) (by exact fun _ _ _ => rfl) (se_var _ (nm_ok (by kernel_rfl)))) sss_nil))) (sss_cons (ss_reverse (nm_ok (by kernel_rfl)) (by kernel_rfl) (by exact fun _ _ => rfl)) (sss_cons (ss_asg (ow_ok (by kernel_rfl)) (ix_ok (by kernel_rfl)) (by exact fun _ => rfl) (se_call b.toBs (gn_ok (by kernel_rfl)) (by kernel_rfl) (.cons (by exact fun _ _ _ => rfl) (se_var _ (nm_ok (by kernel_rfl))) (.cons (by exact fun _ _ _ => rfl) (se_var _ (nm_ok (by kernel_rfl))) .nil)))) (sss_cons (ss_ret (se_tup (by kernel_rfl) (.cons (by exact fun _ _ _ => rfl) (se_var _ (nm_ok (by kernel_rfl))) (.cons (by exact fun _ _ _ => rfl) (se_var _ (nm_ok (by kernel_rfl))) .nil)))) sss_nil))))))))
theorem d2_8 : Dr G (T2 8) (fd2 8).body fn8.body := fun c k b => (sss_cons (ss_ite (sb_cmp (by kernel_rfl) (sr2 (se_var _ (nm_ok (by kernel_rfl))) (se_int _ _ _))) sss_bad (sss_cons (ss_ite (sb_cmp (by kernel_rfl) (sr2 (se_var _ (nm_ok (by kernel_rfl))) (se_int _ _ _))) (sss_cons (ss_asgT (.cons (ow_ok (by kernel_rfl)) (ix_ok (by kernel_rfl)) (.cons (ow_ok (by kernel_rfl)) (ix_ok (by kernel_rfl)) .nil)) (by exact fun _ => rfl) (by exact fun _ => rfl) (se_call b.toBs (gn_ok (by kernel_rfl)) (by kernel_rfl) (.cons (by exact fun _ _ _ => rfl) (se_neg (sa_var (nm_ok (by kernel_rfl)))) (.cons (by exact fun _ _ _ => rfl) (se_neg (sa_var (nm_ok (by kernel_rfl)))) .nil)))) (sss_cons (ss_ret (se_tup (by kernel_rfl) (.cons (by exact fun _ _ _ => rfl) (se_var _ (nm_ok (by kernel_rfl))) (.cons (by exact fun _ _ _ => rfl) (se_neg (sa_var (nm_ok (by kernel_rfl)))) .nil)))) sss_nil)) (sss_cons (ss_ite (sb_cmp (by kernel_rfl) (sr2 (se_var _ (nm_ok (by kernel_rfl))) (se_int _ _ _))) (sss_cons (ss_asgT (.cons (ow_ok (by kernel_rfl)) (ix_ok (by kernel_rfl)) (.cons (ow_ok (by kernel_rfl)) (ix_ok (by kernel_rfl)) .nil)) (by exact fun _ => rfl) (by exact fun _ => rfl) (se_call b.toBs (gn_ok (by kernel_rfl)) (by kernel_rfl) (.cons (by exact fun _ _ _ => rfl) (se_inv (sa_var (nm_ok (by kernel_rfl)))) (.cons (by exact fun _ _ _ => rfl) (se_var _ (nm_ok (by kernel_rfl))) .nil)))) (sss_cons (ss_ret (se_tup (by kernel_rfl) (.cons (by exact fun _ _ _ => rfl) (se_inv (sa_var (nm_ok (by kernel_rfl)))) (.cons (by exact fun _ _ _ => rfl) (SEo.se (seo_bin (sr2 (se_var _ (nm_ok (by kernel_rfl))) (se_inv (sa_var (nm_ok (by kernel_rfl))))))) .nil)))) sss_nil)) (sss_cons (ss_ret (se_call b.toBs (gn_ok (by kernel_rfl)) (by kernel_rfl) (.cons (by exact fun _ _ _ => rfl) (se_var _ (nm_ok (by kernel_rfl))) (.cons (by exact fun _ _ _ => rfl) (se_var _ (nm_ok (by kernel_rfl))) .nil)))) sss_nil)) sss_nil)) sss_nil)) sss_nil)
theorem d2_9 : Dr G (T2 9) (fd2 9).body fn9.body := fun c k b => (sss_cons (ss_ret (se_cutTo (by exact fun _ _ => ⟨_, rfl⟩) (SEo.se (seo_bin (sr2 (se_cutFrom (by exact fun _ _ => ⟨_, rfl⟩) (se_var _ (nm_ok (by kernel_rfl))) (se_var _ (nm_ok (by kernel_rfl)))) (se_cutFrom (by exact fun _ _ => ⟨_, rfl⟩) (se_var _ (nm_ok (by kernel_rfl))) (se_bi1 b.toBs (.b _) ok1_len ⟨gn_ok (by kernel_rfl), (by kernel_rfl)⟩ (by exact fun _ _ _ => rfl) (sa_of (se_cutFrom (by exact fun _ _ => ⟨_, rfl⟩) (se_var _ (nm_ok (by kernel_rfl))) (se_var _ (nm_ok (by kernel_rfl)))))))))) (se_bi1 b.toBs (.b _) ok1_len ⟨gn_ok (by kernel_rfl), (by kernel_rfl)⟩ (by exact fun _ _ _ => rfl) (sa_var (nm_ok (by kernel_rfl)))))) sss_nil)
theorem d2_10 : Dr G (T2 10) (fd2 10).body fn10.body := fun c k b => (sss_cons (ss_asgO (ow_ok (by kernel_rfl)) (ix_ok (by kernel_rfl)) (by exact fun _ => rfl) (seo_lst (by kernel_rfl) (.cons (by exact fun _ _ _ => rfl) (se_tup (by kernel_rfl) .nil) .nil))) (sss_cons (ss_for' (si_plain (se_bi1 b.toBs (.t _) ok1_range ⟨gn_ok (by kernel_rfl), (by kernel_rfl)⟩ (by exact fun _ _ _ => rfl) (sa_var (nm_ok (by kernel_rfl))))) .name (.one (ow_ok (by kernel_rfl)) (ix_ok (by kernel_rfl))) (by exact fun _ _ => rfl) (sss_cons (ss_asgC (ow_ok (by kernel_rfl)) (ix_ok (by kernel_rfl)) (by kernel_rfl) (by kernel_rfl) (gs_ok (si_plain (se_var _ (nm_ok (by kernel_rfl)))) .name (by kernel_rfl) (.one (ow_ok (by kernel_rfl)) (ix_ok (by kernel_rfl))) (by exact fun _ _ => rfl) .nil (sgs_cons (si_plain (se_bi1 b.toBs.inner (.t _) ok1_range ⟨gn_ok (by kernel_rfl), (by kernel_rfl)⟩ (by exact fun _ _ _ => rfl) (sa_of (SEo.se (seo_bin (sr2 (se_bi1 b.toBs.inner (.b _) ok1_len ⟨gn_ok (by kernel_rfl), (by kernel_rfl)⟩ (by exact fun _ _ _ => rfl) (sa_var (nm_ok (by kernel_rfl)))) (se_int _ _ _))))))) .name (.one (ow_ok (by kernel_rfl)) (ix_ok (by kernel_rfl))) (by exact fun _ _ => rfl) .nil .nil)) (SEo.se (seo_bin (sr2 (SEo.se (seo_bin (sr2 (se_cutTo (by exact fun _ _ => ⟨_, rfl⟩) (se_var _ (nm_ok (by kernel_rfl))) (se_var _ (nm_ok (by kernel_rfl)))) (se_tup (by kernel_rfl) (.cons (by exact fun _ _ _ => rfl) (se_var _ (nm_ok (by kernel_rfl))) .nil))))) (se_cutFrom (by exact fun _ _ => ⟨_, rfl⟩) (se_var _ (nm_ok (by kernel_rfl))) (se_var _ (nm_ok (by kernel_rfl)))))))) sss_nil)) (sss_cons (ss_asgC (ow_ok (by kernel_rfl)) (ix_ok (by kernel_rfl)) (by kernel_rfl) (by kernel_rfl) (gs_ok (si_plain (se_var _ (nm_ok (by kernel_rfl)))) .name (by kernel_rfl) (.one (ow_ok (by kernel_rfl)) (ix_ok (by kernel_rfl))) (by exact fun _ _ => rfl) .nil .nil) (se_bi1 b.toBs.inner (.b _) ok1_len ⟨gn_ok (by kernel_rfl), (by kernel_rfl)⟩ (by exact fun _ _ _ => rfl) (sa_of (SEo.se (seo_lcomp (by kernel_rfl) (by kernel_rfl) (gs_ok (si_plain (se_bi2 b.toBs.inner (.t _) ok2_range ⟨gn_ok (by kernel_rfl), (by kernel_rfl)⟩ (by exact fun _ _ _ => rfl) (by exact fun _ _ _ => rfl) (sa2_of (sr2 (se_int _ _ _) (se_var _ (nm_ok (by kernel_rfl))))))) .name (by kernel_rfl) (.one (ow_ok (by kernel_rfl)) (ix_ok (by kernel_rfl))) (by exact fun _ _ => rfl) (.cons (sb_cmp (by kernel_rfl) (sr2 (se_sub (by exact fun _ _ => ⟨_, rfl⟩) (sa2_var (nm_ok (by kernel_rfl)) (se_var _ (nm_ok (by kernel_rfl))))) (se_sub (by exact fun _ _ => ⟨_, rfl⟩) (sa2_var (nm_ok (by kernel_rfl)) (SEo.se (seo_bin (sr2 (se_var _ (nm_ok (by kernel_rfl))) (se_int _ _ _)))))))) .nil) .nil) (se_var _ (nm_ok (by kernel_rfl)))))))) (sss_cons (ss_ret (SEo.se (seo_lcomp (by kernel_rfl) (by kernel_rfl) (gs_ok (si_plain (se_bi1 b.toBs (.t _) ok1_range ⟨gn_ok (by kernel_rfl), (by kernel_rfl)⟩ (by exact fun _ _ _ => rfl) (sa_var (nm_ok (by kernel_rfl))))) .name (by kernel_rfl) (.one (ow_ok (by kernel_rfl)) (ix_ok (by kernel_rfl))) (by exact fun _ _ => rfl) .nil .nil) (se_count (by kernel_rfl) (by exact fun _ _ => rfl) (by exact fun _ _ _ => rfl) (se_var _ (nm_ok (by kernel_rfl))) (se_var _ (nm_ok (by kernel_rfl))))))) sss_nil))))
theorem d2_11 : Dr G (T2 11) (fd2 11).body fn11.body := fun c k b => (sss_cons (ss_asgO (ow_ok (by kernel_rfl)) (ix_ok (by kernel_rfl)) (by exact fun _ => rfl) (seo_lst (by kernel_rfl) .nil)) (sss_cons (ss_for' (si_plain (se_bi1 b.toBs (.t _) ok1_range ⟨gn_ok (by kernel_rfl), (by kernel_rfl)⟩ (by exact fun _ _ _ => rfl) (sa_var (nm_ok (by kernel_rfl))))) .name (.one (ow_ok (by kernel_rfl)) (ix_ok (by kernel_rfl))) (by exact fun _ _ => rfl) (sss_cons (ss_asg (ow_ok (by kernel_rfl)) (ix_ok (by kernel_rfl)) (by exact fun _ => rfl) (se_call b.toBs (gn_ok (by kernel_rfl)) (by kernel_rfl) (.cons (by exact fun _ _ _ => rfl) (SEo.se (seo_bin (sr2 (se_var _ (nm_ok (by kernel_rfl))) (se_var _ (nm_ok (by kernel_rfl)))))) .nil))) (sss_cons (ss_for' (si_plain (se_bi1 b.toBs (.t _) ok1_range ⟨gn_ok (by kernel_rfl), (by kernel_rfl)⟩ (by exact fun _ _ _ => rfl) (sa_var (nm_ok (by kernel_rfl))))) .name (.one (ow_ok (by kernel_rfl)) (ix_ok (by kernel_rfl))) (by exact fun _ _ => rfl) (sss_cons (ss_asgC (ow_ok (by kernel_rfl)) (ix_ok (by kernel_rfl)) (by kernel_rfl) (by kernel_rfl) (gs_ok (si_zip b.toBs ⟨gn_ok (by kernel_rfl), (by kernel_rfl)⟩ (by exact fun _ _ _ => rfl) (by exact fun _ _ _ => rfl) (SEo.se (seo_bin (sr2 (se_var _ (nm_ok (by kernel_rfl))) (SEo.se (seo_lst (by kernel_rfl) (.cons (by exact fun _ _ _ => rfl) (se_int _ _ _) .nil)))))) (SEo.se (seo_bin (sr2 (SEo.se (seo_lst (by kernel_rfl) (.cons (by exact fun _ _ _ => rfl) (se_int _ _ _) .nil))) (se_var _ (nm_ok (by kernel_rfl))))))) .tup (by kernel_rfl) (.many (.cons (ow_ok (by kernel_rfl)) (ix_ok (by kernel_rfl)) (.cons (ow_ok (by kernel_rfl)) (ix_ok (by kernel_rfl)) .nil))) (by exact fun _ _ => rfl) .nil .nil) (SEo.se (seo_bin (sr2 (se_var _ (nm_ok (by kernel_rfl))) (se_var _ (nm_ok (by kernel_rfl))))))) sss_nil)) (sss_cons (ss_append (nm_ok (by kernel_rfl)) (by kernel_rfl) (by exact fun _ _ => rfl) (by exact fun _ _ _ => rfl) (se_var _ (nm_ok (by kernel_rfl)))) sss_nil)))) (sss_cons (ss_ret (se_var _ (nm_ok (by kernel_rfl)))) sss_nil)))
theorem d2_12 : Dr G (T2 12) (fd2 12).body fn12.body := fun c k b => (sss_cons (ss_asg (ow_ok (by kernel_rfl)) (ix_ok (by kernel_rfl)) (by exact fun _ => rfl) (se_bi1 b.toBs (.b _) ok1_len ⟨gn_ok (by kernel_rfl), (by kernel_rfl)⟩ (by exact fun _ _ _ => rfl) (sa_var (nm_ok (by kernel_rfl))))) (sss_cons (ss_asgO (ow_ok (by kernel_rfl)) (ix_ok (by kernel_rfl)) (by exact fun _ => rfl) (seo_lst (by kernel_rfl) .nil)) (sss_cons (ss_for' (si_plain (se_bi1 b.toBs (.t _) ok1_range ⟨gn_ok (by kernel_rfl), (by kernel_rfl)⟩ (by exact fun _ _ _ => rfl) (sa_var (nm_ok (by kernel_rfl))))) .name (.one (ow_ok (by kernel_rfl)) (ix_ok (by kernel_rfl))) (by exact fun _ _ => rfl) (sss_cons (ss_asgC (ow_ok (by kernel_rfl)) (ix_ok (by kernel_rfl)) (by kernel_rfl) (by kernel_rfl) (gs_ok (si_plain (se_bi1 b.toBs (.t _) ok1_range ⟨gn_ok (by kernel_rfl), (by kernel_rfl)⟩ (by exact fun _ _ _ => rfl) (sa_var (nm_ok (by kernel_rfl))))) .name (by kernel_rfl) (.one (ow_ok (by kernel_rfl)) (ix_ok (by kernel_rfl))) (by exact fun _ _ => rfl) .nil .nil) (SEo.se (seo_bin (sr2 (SEo.se (seo_bin (sr2 (se_sub (by exact fun _ _ => ⟨_, rfl⟩) (sa2_var (nm_ok (by kernel_rfl)) (se_var _ (nm_ok (by kernel_rfl))))) (SEo.se (seo_bin (sr2 (se_var _ (nm_ok (by kernel_rfl))) (SEo.se (seo_bin (sr2 (se_var _ (nm_ok (by kernel_rfl))) (se_var _ (nm_ok (by kernel_rfl)))))))))))) (se_sub (by exact fun _ _ => ⟨_, rfl⟩) (sa2_of (sr2 (se_sub (by exact fun _ _ => ⟨_, rfl⟩) (sa2_var (nm_ok (by kernel_rfl)) (se_var _ (nm_ok (by kernel_rfl))))) (se_var _ (nm_ok (by kernel_rfl)))))))))) (sss_cons (ss_append (nm_ok (by kernel_rfl)) (by kernel_rfl) (by exact fun _ _ => rfl) (by exact fun _ _ _ => rfl) (se_bi1 b.toBs (.t _) ok1_tup ⟨gn_ok (by kernel_rfl), (by kernel_rfl)⟩ (by exact fun _ _ _ => rfl) (sa_of (se_cutTo (by exact fun _ _ => ⟨_, rfl⟩) (SEo.se (seo_bin (sr2 (se_var _ (nm_ok (by kernel_rfl))) (SEo.se (seo_lst (by kernel_rfl) (.cons (by exact fun _ _ _ => rfl) (se_int _ _ _) (.cons (by exact fun _ _ _ => rfl) (se_int _ _ _) .nil))))))) (se_int _ _ _))))) sss_nil))) (sss_cons (ss_ret (se_var _ (nm_ok (by kernel_rfl)))) sss_nil))))
theorem d2_13 : Dr G (T2 13) (fd2 13).body fn13.body := fun c k b => (sss_cons (ss_ret (se_ite (sb_cmp (by kernel_rfl) (sr2 (SEo.se (seo_bin (sr2 (se_var _ (nm_ok (by kernel_rfl))) (se_int _ _ _)))) (se_int _ _ _))) (se_tup (by kernel_rfl) (.cons (by exact fun _ _ _ => rfl) (se_var _ (nm_ok (by kernel_rfl))) (.cons (by exact fun _ _ _ => rfl) (SEo.se (seo_bin (sr2 (se_var _ (nm_ok (by kernel_rfl))) (se_sub (by exact fun _ _ => ⟨_, rfl⟩) (sa2_var (nm_ok (by kernel_rfl)) (se_var _ (nm_ok (by kernel_rfl)))))))) .nil))) (se_var _ (nm_ok (by kernel_rfl))))) sss_nil)
theorem d2_14 : Dr G (T2 14) (fd2 14).body fn14.body := fun c k b => (sss_cons (ss_ret (se_ite (sb_value (by exact fun _ _ => rfl) (se_isTup b.toBs ⟨gn_ok (by kernel_rfl), (by kernel_rfl)⟩ ⟨gn_ok (by kernel_rfl), (by kernel_rfl)⟩ (by exact fun _ _ _ => rfl) (by exact fun _ _ _ => rfl) (sa_var (nm_ok (by kernel_rfl))))) (se_sub (by exact fun _ _ => ⟨_, rfl⟩) (sa2_var (nm_ok (by kernel_rfl)) (se_int _ _ _))) (se_var _ (nm_ok (by kernel_rfl))))) sss_nil)
theorem d2_15 : Dr G (T2 15) (fd2 15).body fn15.body := fun c k b => (sss_cons (ss_asgO (ow_ok (by kernel_rfl)) (ix_ok (by kernel_rfl)) (by exact fun _ => rfl) (seo_dct0 b.toBs)) (sss_cons (ss_for' (si_plain (se_sub (by exact fun _ _ => ⟨_, rfl⟩) (sa2_var (nm_ok (by kernel_rfl)) (se_int _ _ _)))) .name (.one (ow_ok (by kernel_rfl)) (ix_ok (by kernel_rfl))) (by exact fun _ _ => rfl) (sss_cons (ss_asg (ow_ok (by kernel_rfl)) (ix_ok (by kernel_rfl)) (by exact fun _ => rfl) (se_sub (by exact fun _ _ => ⟨_, rfl⟩) (sa2_of (sr2 (se_sub (by exact fun _ _ => ⟨_, rfl⟩) (sa2_var (nm_ok (by kernel_rfl)) (se_int _ _ _))) (se_var _ (nm_ok (by kernel_rfl))))))) (sss_cons (ss_asgS (nm_ok (by kernel_rfl)) (by exact fun _ => rfl) (se_var _ (nm_ok (by kernel_rfl))) (se_ite (sb_value (by exact fun _ _ => rfl) (se_isTup b.toBs ⟨gn_ok (by kernel_rfl), (by kernel_rfl)⟩ ⟨gn_ok (by kernel_rfl), (by kernel_rfl)⟩ (by exact fun _ _ _ => rfl) (by exact fun _ _ _ => rfl) (sa_var (nm_ok (by kernel_rfl))))) (se_tup (by kernel_rfl) (.cons (by exact fun _ _ _ => rfl) (SEo.se (seo_bin (sr2 (se_var _ (nm_ok (by kernel_rfl))) (se_sub (by exact fun _ _ => ⟨_, rfl⟩) (sa2_var (nm_ok (by kernel_rfl)) (se_int _ _ _)))))) (.cons (by exact fun _ _ _ => rfl) (SEo.se (seo_bin (sr2 (se_var _ (nm_ok (by kernel_rfl))) (se_sub (by exact fun _ _ => ⟨_, rfl⟩) (sa2_var (nm_ok (by kernel_rfl)) (se_int _ _ _)))))) .nil))) (SEo.se (seo_bin (sr2 (se_var _ (nm_ok (by kernel_rfl))) (se_var _ (nm_ok (by kernel_rfl)))))))) sss_nil))) (sss_cons (ss_ret (SEo.se (seo_bin (sr2 (se_bi1 b.toBs (.t _) ok1_tup ⟨gn_ok (by kernel_rfl), (by kernel_rfl)⟩ (by exact fun _ _ _ => rfl) (sa_of (SEo.se (seo_lcomp (by kernel_rfl) (by kernel_rfl) (gs_ok (si_plain (se_cutTo (by exact fun _ _ => ⟨_, rfl⟩) (se_var _ (nm_ok (by kernel_rfl))) (se_int _ _ _))) .name (by kernel_rfl) (.one (ow_ok (by kernel_rfl)) (ix_ok (by kernel_rfl))) (by exact fun _ _ => rfl) .nil .nil) (SEo.se (seo_bin (sr2 (se_var _ (nm_ok (by kernel_rfl))) (se_var _ (nm_ok (by kernel_rfl)))))))))) (se_tup (by kernel_rfl) (.cons (by exact fun _ _ _ => rfl) (se_var _ (nm_ok (by kernel_rfl))) .nil)))))) sss_nil)))
theorem d2_16 : Dr G (T2 16) (fd2 16).body fn16.body := fun c k b => (sss_cons (ss_ret (SEo.se (seo_lcomp (by kernel_rfl) (by kernel_rfl) (gs_ok (si_plain (se_bi1 b.toBs (.t _) ok1_range ⟨gn_ok (by kernel_rfl), (by kernel_rfl)⟩ (by exact fun _ _ _ => rfl) (sa_of (SEo.se (seo_bin (sr2 (se_var _ (nm_ok (by kernel_rfl))) (se_var _ (nm_ok (by kernel_rfl))))))))) .name (by kernel_rfl) (.one (ow_ok (by kernel_rfl)) (ix_ok (by kernel_rfl))) (by exact fun _ _ => rfl) .nil .nil) (se_call b.toBs.inner (gn_ok (by kernel_rfl)) (by kernel_rfl) (.cons (by exact fun _ _ _ => rfl) (SEo.se (seo_bin (sr2 (se_var _ (nm_ok (by kernel_rfl))) (SEo.se (seo_bin (sr2 (se_var _ (nm_ok (by kernel_rfl))) (SEo.se (seo_bin (sr2 (se_var _ (nm_ok (by kernel_rfl))) (se_var _ (nm_ok (by kernel_rfl)))))))))))) (.cons (by exact fun _ _ _ => rfl) (SEo.se (seo_bin (sr2 (se_var _ (nm_ok (by kernel_rfl))) (se_var _ (nm_ok (by kernel_rfl)))))) .nil)))))) sss_nil)
theorem d2_17 : Dr G (T2 17) (fd2 17).body fn17.body := fun c k b => (sss_cons (ss_asg (ow_ok (by kernel_rfl)) (ix_ok (by kernel_rfl)) (by exact fun _ => rfl) (se_bi1 b.toBs (.b _) ok1_len ⟨gn_ok (by kernel_rfl), (by kernel_rfl)⟩ (by exact fun _ _ _ => rfl) (sa_var (nm_ok (by kernel_rfl))))) (sss_cons (ss_asg (ow_ok (by kernel_rfl)) (ix_ok (by kernel_rfl)) (by exact fun _ => rfl) (se_call b.toBs (gn_ok (by kernel_rfl)) (by kernel_rfl) (.cons (by exact fun _ _ _ => rfl) (SEo.se (seo_bin (sr2 (se_call b.toBs (gn_ok (by kernel_rfl)) (by kernel_rfl) (.cons (by exact fun _ _ _ => rfl) (SEo.se (seo_bin (sr2 (SEo.se (seo_lst (by kernel_rfl) (.cons (by exact fun _ _ _ => rfl) (se_int _ _ _) .nil))) (se_var _ (nm_ok (by kernel_rfl)))))) (.cons (by exact fun _ _ _ => rfl) (se_var _ (nm_ok (by kernel_rfl))) .nil))) (se_var _ (nm_ok (by kernel_rfl)))))) (.cons (by exact fun _ _ _ => rfl) (se_var _ (nm_ok (by kernel_rfl))) .nil)))) (sss_cons (ss_asgO (ow_ok (by kernel_rfl)) (ix_ok (by kernel_rfl)) (by exact fun _ => rfl) (seo_lst (by kernel_rfl) .nil)) (sss_cons (ss_for' (si_plain (se_bi1 b.toBs (.t _) ok1_range ⟨gn_ok (by kernel_rfl), (by kernel_rfl)⟩ (by exact fun _ _ _ => rfl) (sa_var (nm_ok (by kernel_rfl))))) .name (.one (ow_ok (by kernel_rfl)) (ix_ok (by kernel_rfl))) (by exact fun _ _ => rfl) (sss_cons (ss_asg (ow_ok (by kernel_rfl)) (ix_ok (by kernel_rfl)) (by exact fun _ => rfl) (se_tup (by kernel_rfl) (.cons (by exact fun _ _ _ => rfl) (se_int _ _ _) (.cons (by exact fun _ _ _ => rfl) (se_int _ _ _) (.cons (by exact fun _ _ _ => rfl) (se_int _ _ _) (.cons (by exact fun _ _ _ => rfl) (se_int _ _ _) (.cons (by exact fun _ _ _ => rfl) (SEo.se (seo_dct0 b.toBs)) .nil))))))) (sss_cons (ss_for' (si_plain (se_bi1 b.toBs (.t _) ok1_range ⟨gn_ok (by kernel_rfl), (by kernel_rfl)⟩ (by exact fun _ _ _ => rfl) (sa_var (nm_ok (by kernel_rfl))))) .name (.one (ow_ok (by kernel_rfl)) (ix_ok (by kernel_rfl))) (by exact fun _ _ => rfl) (sss_cons (ss_asg (ow_ok (by kernel_rfl)) (ix_ok (by kernel_rfl)) (by exact fun _ => rfl) (se_bi1 b.toBs (.b _) ok1_sum ⟨gn_ok (by kernel_rfl), (by kernel_rfl)⟩ (by exact fun _ _ _ => rfl) (sa_of (SEo.se (seo_lcomp (by kernel_rfl) (by kernel_rfl) (gs_ok (si_plain (se_bi1 b.toBs (.t _) ok1_range ⟨gn_ok (by kernel_rfl), (by kernel_rfl)⟩ (by exact fun _ _ _ => rfl) (sa_of (se_bi1 b.toBs (.b _) ok1_len ⟨gn_ok (by kernel_rfl), (by kernel_rfl)⟩ (by exact fun _ _ _ => rfl) (sa_var (nm_ok (by kernel_rfl))))))) .name (by kernel_rfl) (.one (ow_ok (by kernel_rfl)) (ix_ok (by kernel_rfl))) (by exact fun _ _ => rfl) (.cons (sb_cmp (by kernel_rfl) (sr2 (se_sub (by exact fun _ _ => ⟨_, rfl⟩) (sa2_var (nm_ok (by kernel_rfl)) (SEo.se (seo_bin (sr2 (se_var _ (nm_ok (by kernel_rfl))) (se_var _ (nm_ok (by kernel_rfl)))))))) (se_var _ (nm_ok (by kernel_rfl))))) .nil) .nil) (se_sub (by exact fun _ _ => ⟨_, rfl⟩) (sa2_var (nm_ok (by kernel_rfl)) (se_var _ (nm_ok (by kernel_rfl)))))))))) (sss_cons (ss_asg (ow_ok (by kernel_rfl)) (ix_ok (by kernel_rfl)) (by exact fun _ => rfl) (se_call b.toBs (gn_ok (by kernel_rfl)) (by kernel_rfl) (.cons (by exact fun _ _ _ => rfl) (se_var _ (nm_ok (by kernel_rfl))) (.cons (by exact fun _ _ _ => rfl) (se_call b.toBs (gn_ok (by kernel_rfl)) (by kernel_rfl) (.cons (by exact fun _ _ _ => rfl) (se_sub (by exact fun _ _ => ⟨_, rfl⟩) (sa2_var (nm_ok (by kernel_rfl)) (se_var _ (nm_ok (by kernel_rfl))))) (.cons (by exact fun _ _ _ => rfl) (se_var _ (nm_ok (by kernel_rfl))) .nil))) .nil)))) sss_nil))) (sss_cons (ss_append (nm_ok (by kernel_rfl)) (by kernel_rfl) (by exact fun _ _ => rfl) (by exact fun _ _ _ => rfl) (se_var _ (nm_ok (by kernel_rfl)))) sss_nil)))) (sss_cons (ss_ret (se_var _ (nm_ok (by kernel_rfl)))) sss_nil)))))
theorem d2_18 : Dr G (T2 18) (fd2 18).body fn18.body := fun c k b => (sss_cons (ss_asg (ow_ok (by kernel_rfl)) (ix_ok (by kernel_rfl)) (by exact fun _ => rfl) (se_bi1 b.toBs (.b _) ok1_len ⟨gn_ok (by kernel_rfl), (by kernel_rfl)⟩ (by exact fun _ _ _ => rfl) (sa_var (nm_ok (by kernel_rfl))))) (sss_cons (ss_asg (ow_ok (by kernel_rfl)) (ix_ok (by kernel_rfl)) (by exact fun _ => rfl) (se_call b.toBs (gn_ok (by kernel_rfl)) (by kernel_rfl) (.cons (by exact fun _ _ _ => rfl) (SEo.se (seo_bin (sr2 (se_call b.toBs (gn_ok (by kernel_rfl)) (by kernel_rfl) (.cons (by exact fun _ _ _ => rfl) (SEo.se (seo_bin (sr2 (SEo.se (seo_lst (by kernel_rfl) (.cons (by exact fun _ _ _ => rfl) (se_int _ _ _) .nil))) (se_var _ (nm_ok (by kernel_rfl)))))) (.cons (by exact fun _ _ _ => rfl) (se_var _ (nm_ok (by kernel_rfl))) .nil))) (SEo.se (seo_bin (sr2 (se_var _ (nm_ok (by kernel_rfl))) (se_int _ _ _))))))) (.cons (by exact fun _ _ _ => rfl) (se_var _ (nm_ok (by kernel_rfl))) .nil)))) (sss_cons (ss_ite (sb_cmp (by kernel_rfl) (sr2 (SEo.se (seo_lcomp (by kernel_rfl) (by kernel_rfl) (gs_ok (si_plain (se_var _ (nm_ok (by kernel_rfl)))) .name (by kernel_rfl) (.one (ow_ok (by kernel_rfl)) (ix_ok (by kernel_rfl))) (by exact fun _ _ => rfl) .nil .nil) (se_cutTo (by exact fun _ _ => ⟨_, rfl⟩) (se_var _ (nm_ok (by kernel_rfl))) (se_int _ _ _)))) (se_call b.toBs (gn_ok (by kernel_rfl)) (by kernel_rfl) (.cons (by exact fun _ _ _ => rfl) (se_var _ (nm_ok (by kernel_rfl))) (.cons (by exact fun _ _ _ => rfl) (se_var _ (nm_ok (by kernel_rfl))) (.cons (by exact fun _ _ _ => rfl) (se_var _ (nm_ok (by kernel_rfl))) .nil)))))) (sss_cons (ss_ret (se_bool _ _ _)) sss_nil) sss_nil) (sss_cons (ss_for' (si_plain (se_bi1 b.toBs (.t _) ok1_range ⟨gn_ok (by kernel_rfl), (by kernel_rfl)⟩ (by exact fun _ _ _ => rfl) (sa_var (nm_ok (by kernel_rfl))))) .name (.one (ow_ok (by kernel_rfl)) (ix_ok (by kernel_rfl))) (by exact fun _ _ => rfl) (sss_cons (ss_asgC (ow_ok (by kernel_rfl)) (ix_ok (by kernel_rfl)) (by kernel_rfl) (by kernel_rfl) (gs_ok (si_plain (se_bi1 b.toBs (.t _) ok1_range ⟨gn_ok (by kernel_rfl), (by kernel_rfl)⟩ (by exact fun _ _ _ => rfl) (sa_var (nm_ok (by kernel_rfl))))) .name (by kernel_rfl) (.one (ow_ok (by kernel_rfl)) (ix_ok (by kernel_rfl))) (by exact fun _ _ => rfl) .nil .nil) (se_ite (sb_cmp (by kernel_rfl) (sr2 (SEo.se (seo_bin (sr2 (se_var _ (nm_ok (by kernel_rfl))) (SEo.se (seo_bin (sr2 (se_var _ (nm_ok (by kernel_rfl))) (se_int _ _ _))))))) (se_var _ (nm_ok (by kernel_rfl))))) (se_sub (by exact fun _ _ => ⟨_, rfl⟩) (sa2_of (sr2 (SEo.se (seo_bin (sr2 (se_var _ (nm_ok (by kernel_rfl))) (SEo.se (seo_bin (sr2 (SEo.se (seo_lst (by kernel_rfl) (.cons (by exact fun _ _ _ => rfl) (se_int _ _ _) .nil))) (se_var _ (nm_ok (by kernel_rfl))))))))) (SEo.se (seo_bin (sr2 (SEo.se (seo_bin (sr2 (SEo.se (seo_bin (sr2 (se_var _ (nm_ok (by kernel_rfl))) (SEo.se (seo_bin (sr2 (se_var _ (nm_ok (by kernel_rfl))) (se_int _ _ _))))))) (se_int _ _ _)))) (se_var _ (nm_ok (by kernel_rfl))))))))) (se_int _ _ _))) (sss_cons (ss_ite (sb_cmp (by kernel_rfl) (sr2 (se_listI b.toBs ⟨gn_ok (by kernel_rfl), (by kernel_rfl)⟩ (by kernel_rfl) (by exact fun _ _ => rfl) (by exact fun _ _ _ => rfl) (se_sub (by exact fun _ _ => ⟨_, rfl⟩) (sa2_of (sr2 (se_sub (by exact fun _ _ => ⟨_, rfl⟩) (sa2_var (nm_ok (by kernel_rfl)) (se_var _ (nm_ok (by kernel_rfl))))) (se_int _ _ _))))) (SEo.se (seo_lcomp (by kernel_rfl) (by kernel_rfl) (gs_ok (si_plain (se_bi1 b.toBs (.t _) ok1_range ⟨gn_ok (by kernel_rfl), (by kernel_rfl)⟩ (by exact fun _ _ _ => rfl) (sa_var (nm_ok (by kernel_rfl))))) .name (by kernel_rfl) (.one (ow_ok (by kernel_rfl)) (ix_ok (by kernel_rfl))) (by exact fun _ _ => rfl) .nil .nil) (se_tup (by kernel_rfl) (.cons (by exact fun _ _ _ => rfl) (se_var _ (nm_ok (by kernel_rfl))) (.cons (by exact fun _ _ _ => rfl) (se_call b.toBs.inner (gn_ok (by kernel_rfl)) (by kernel_rfl) (.cons (by exact fun _ _ _ => rfl) (se_var _ (nm_ok (by kernel_rfl))) (.cons (by exact fun _ _ _ => rfl) (se_sub (by exact fun _ _ => ⟨_, rfl⟩) (sa2_var (nm_ok (by kernel_rfl)) (se_var _ (nm_ok (by kernel_rfl))))) (.cons (by exact fun _ _ _ => rfl) (se_var _ (nm_ok (by kernel_rfl))) .nil)))) .nil))))))) (sss_cons (ss_ret (se_bool _ _ _)) sss_nil) sss_nil) sss_nil))) (sss_cons (ss_asgC (ow_ok (by kernel_rfl)) (ix_ok (by kernel_rfl)) (by kernel_rfl) (by kernel_rfl) (gs_ok (si_plain (se_var _ (nm_ok (by kernel_rfl)))) .name (by kernel_rfl) (.one (ow_ok (by kernel_rfl)) (ix_ok (by kernel_rfl))) (by exact fun _ _ => rfl) .nil .nil) (se_call b.toBs.inner (gn_ok (by kernel_rfl)) (by kernel_rfl) (.cons (by exact fun _ _ _ => rfl) (SEo.se (seo_dcomp b.toBs.inner (by kernel_rfl) (by kernel_rfl) (gs_ok (si_plain (se_sub (by exact fun _ _ => ⟨_, rfl⟩) (sa2_var (nm_ok (by kernel_rfl)) (se_int _ _ _)))) .name (by kernel_rfl) (.one (ow_ok (by kernel_rfl)) (ix_ok (by kernel_rfl))) (by exact fun _ _ => rfl) .nil .nil) (se_var _ (nm_ok (by kernel_rfl))) (se_call b.toBs.inner.inner (gn_ok (by kernel_rfl)) (by kernel_rfl) (.cons (by exact fun _ _ _ => rfl) (se_sub (by exact fun _ _ => ⟨_, rfl⟩) (sa2_of (sr2 (se_sub (by exact fun _ _ => ⟨_, rfl⟩) (sa2_var (nm_ok (by kernel_rfl)) (se_int _ _ _))) (se_var _ (nm_ok (by kernel_rfl)))))) .nil)))) .nil))) (sss_cons (ss_ret (se_cmp (by kernel_rfl) (sr2 (se_bi1 b.toBs (.b _) ok1_sum ⟨gn_ok (by kernel_rfl), (by kernel_rfl)⟩ (by exact fun _ _ _ => rfl) (sa_var (nm_ok (by kernel_rfl)))) (SEo.se (seo_bin (sr2 (se_var _ (nm_ok (by kernel_rfl))) (SEo.se (seo_bin (sr2 (se_var _ (nm_ok (by kernel_rfl))) (se_var _ (nm_ok (by kernel_rfl)))))))))))) sss_nil))))))
theorem d2_19 : Dr G (T2 19) (fd2 19).body fn19.body := fun c k b => (sss_cons (ss_asg (ow_ok (by kernel_rfl)) (ix_ok (by kernel_rfl)) (by exact fun _ => rfl) (se_call b.toBs (gn_ok (by kernel_rfl)) (by kernel_rfl) (.cons (by exact fun _ _ _ => rfl) (se_var _ (nm_ok (by kernel_rfl))) (.cons (by exact fun _ _ _ => rfl) (se_int _ _ _) (.cons (by exact fun _ _ _ => rfl) (SEo.se (seo_lst (by kernel_rfl) (.cons (by exact fun _ _ _ => rfl) (se_int _ _ _) (.cons (by exact fun _ _ _ => rfl) (se_int _ _ _) (.cons (by exact fun _ _ _ => rfl) (se_int _ _ _) (.cons (by exact fun _ _ _ => rfl) (se_int _ _ _) (.cons (by exact fun _ _ _ => rfl) (se_int _ _ _) .nil))))))) .nil))))) (sss_cons (ss_asg (ow_ok (by kernel_rfl)) (ix_ok (by kernel_rfl)) (by exact fun _ => rfl) (se_call b.toBs (gn_ok (by kernel_rfl)) (by kernel_rfl) (.cons (by exact fun _ _ _ => rfl) (se_var _ (nm_ok (by kernel_rfl))) (.cons (by exact fun _ _ _ => rfl) (se_int _ _ _) (.cons (by exact fun _ _ _ => rfl) (SEo.se (seo_lst (by kernel_rfl) (.cons (by exact fun _ _ _ => rfl) (se_int _ _ _) (.cons (by exact fun _ _ _ => rfl) (se_neg (sa_of (se_int _ _ _))) (.cons (by exact fun _ _ _ => rfl) (se_int _ _ _) (.cons (by exact fun _ _ _ => rfl) (se_int _ _ _) .nil)))))) .nil))))) (sss_cons (ss_asg (ow_ok (by kernel_rfl)) (ix_ok (by kernel_rfl)) (by exact fun _ => rfl) (SEo.se (seo_bin (sr2 (se_int _ _ _) (SEo.se (seo_bin (sr2 (se_sub (by exact fun _ _ => ⟨_, rfl⟩) (sa2_var (nm_ok (by kernel_rfl)) (se_int _ _ _))) (se_int _ _ _)))))))) (sss_cons (ss_asg (ow_ok (by kernel_rfl)) (ix_ok (by kernel_rfl)) (by exact fun _ => rfl) (SEo.se (seo_bin (sr2 (se_int _ _ _) (SEo.se (seo_bin (sr2 (se_sub (by exact fun _ _ => ⟨_, rfl⟩) (sa2_var (nm_ok (by kernel_rfl)) (se_int _ _ _))) (se_int _ _ _)))))))) (sss_cons (ss_asg (ow_ok (by kernel_rfl)) (ix_ok (by kernel_rfl)) (by exact fun _ => rfl) (SEo.se (seo_bin (sr2 (se_int _ _ _) (SEo.se (seo_bin (sr2 (se_sub (by exact fun _ _ => ⟨_, rfl⟩) (sa2_var (nm_ok (by kernel_rfl)) (se_int _ _ _))) (se_int _ _ _)))))))) (sss_cons (ss_asg (ow_ok (by kernel_rfl)) (ix_ok (by kernel_rfl)) (by exact fun _ => rfl) (SEo.se (seo_bin (sr2 (SEo.se (seo_bin (sr2 (se_sub (by exact fun _ _ => ⟨_, rfl⟩) (sa2_var (nm_ok (by kernel_rfl)) (se_int _ _ _))) (se_int _ _ _)))) (se_int _ _ _))))) (sss_cons (ss_asg (ow_ok (by kernel_rfl)) (ix_ok (by kernel_rfl)) (by exact fun _ => rfl) (se_ite (sb_cmp (by kernel_rfl) (sr2 (SEo.se (seo_bin (sr2 (se_sub (by exact fun _ _ => ⟨_, rfl⟩) (sa2_var (nm_ok (by kernel_rfl)) (se_int _ _ _))) (se_int _ _ _)))) (se_int _ _ _))) (se_neg (sa_of (se_int _ _ _))) (se_int _ _ _))) (sss_cons (ss_asg (ow_ok (by kernel_rfl)) (ix_ok (by kernel_rfl)) (by exact fun _ => rfl) (SEo.se (seo_bin (sr2 (se_int _ _ _) (SEo.se (seo_bin (sr2 (SEo.se (seo_bin (sr2 (se_sub (by exact fun _ _ => ⟨_, rfl⟩) (sa2_var (nm_ok (by kernel_rfl)) (se_int _ _ _))) (se_int _ _ _)))) (se_int _ _ _)))))))) (sss_cons (ss_asg (ow_ok (by kernel_rfl)) (ix_ok (by kernel_rfl)) (by exact fun _ => rfl) (se_call b.toBs (gn_ok (by kernel_rfl)) (by kernel_rfl) (.cons (by exact fun _ _ _ => rfl) (se_var _ (nm_ok (by kernel_rfl))) .nil))) (sss_cons (ss_asg (ow_ok (by kernel_rfl)) (ix_ok (by kernel_rfl)) (by exact fun _ => rfl) (se_call b.toBs (gn_ok (by kernel_rfl)) (by kernel_rfl) (.cons (by exact fun _ _ _ => rfl) (se_var _ (nm_ok (by kernel_rfl))) (.cons (by exact fun _ _ _ => rfl) (se_var _ (nm_ok (by kernel_rfl))) (.cons (by exact fun _ _ _ => rfl) (se_int _ _ _) .nil))))) (sss_cons (ss_asgC (ow_ok (by kernel_rfl)) (ix_ok (by kernel_rfl)) (by kernel_rfl) (by kernel_rfl) (gs_ok (si_plain (se_bi1 b.toBs (.t _) ok1_range ⟨gn_ok (by kernel_rfl), (by kernel_rfl)⟩ (by exact fun _ _ _ => rfl) (sa_var (nm_ok (by kernel_rfl))))) .name (by kernel_rfl) (.one (ow_ok (by kernel_rfl)) (ix_ok (by kernel_rfl))) (by exact fun _ _ => rfl) .nil .nil) (SEo.se (seo_bin (sr2 (se_sub (by exact fun _ _ => ⟨_, rfl⟩) (sa2_var (nm_ok (by kernel_rfl)) (se_var _ (nm_ok (by kernel_rfl))))) (se_tup (by kernel_rfl) (.cons (by exact fun _ _ _ => rfl) (SEo.se (seo_dct1 b.toBs.inner (se_var _ (nm_ok (by kernel_rfl))) (se_call b.toBs.inner (gn_ok (by kernel_rfl)) (by kernel_rfl) (.cons (by exact fun _ _ _ => rfl) (se_var _ (nm_ok (by kernel_rfl))) (.cons (by exact fun _ _ _ => rfl) (se_int _ _ _) (.cons (by exact fun _ _ _ => rfl) (se_var _ (nm_ok (by kernel_rfl))) .nil)))))) .nil)))))) (sss_cons (ss_asgC (ow_ok (by kernel_rfl)) (ix_ok (by kernel_rfl)) (by kernel_rfl) (by kernel_rfl) (gs_ok (si_plain (se_tup (by kernel_rfl) (.cons (by exact fun _ _ _ => rfl) (se_var _ (nm_ok (by kernel_rfl))) (.cons (by exact fun _ _ _ => rfl) (se_var _ (nm_ok (by kernel_rfl))) (.cons (by exact fun _ _ _ => rfl) (SEo.se (seo_bin (sr2 (se_var _ (nm_ok (by kernel_rfl))) (se_var _ (nm_ok (by kernel_rfl)))))) .nil))))) .name (by kernel_rfl) (.one (ow_ok (by kernel_rfl)) (ix_ok (by kernel_rfl))) (by exact fun _ _ => rfl) .nil .nil) (se_call b.toBs.inner (gn_ok (by kernel_rfl)) (by kernel_rfl) (.cons (by exact fun _ _ _ => rfl) (se_var _ (nm_ok (by kernel_rfl))) (.cons (by exact fun _ _ _ => rfl) (se_var _ (nm_ok (by kernel_rfl))) (.cons (by exact fun _ _ _ => rfl) (se_var _ (nm_ok (by kernel_rfl))) (.cons (by exact fun _ _ _ => rfl) (se_var _ (nm_ok (by kernel_rfl))) .nil)))))) (sss_cons (ss_asgC (ow_ok (by kernel_rfl)) (ix_ok (by kernel_rfl)) (by kernel_rfl) (by kernel_rfl) (gs_ok (si_plain (se_var _ (nm_ok (by kernel_rfl)))) .name (by kernel_rfl) (.one (ow_ok (by kernel_rfl)) (ix_ok (by kernel_rfl))) (by exact fun _ _ => rfl) .nil .nil) (SEo.se (seo_lcomp (by kernel_rfl) (by kernel_rfl) (gs_ok (si_plain (se_var _ (nm_ok (by kernel_rfl)))) .name (by kernel_rfl) (.one (ow_ok (by kernel_rfl)) (ix_ok (by kernel_rfl))) (by exact fun _ _ => rfl) .nil .nil) (SEo.se (seo_bin (sr2 (se_sub (by exact fun _ _ => ⟨_, rfl⟩) (sa2_var (nm_ok (by kernel_rfl)) (se_int _ _ _))) (se_var _ (nm_ok (by kernel_rfl))))))))) (sss_cons (ss_asg (ow_ok (by kernel_rfl)) (ix_ok (by kernel_rfl)) (by exact fun _ => rfl) (se_call b.toBs (gn_ok (by kernel_rfl)) (by kernel_rfl) (.cons (by exact fun _ _ _ => rfl) (se_var _ (nm_ok (by kernel_rfl))) (.cons (by exact fun _ _ _ => rfl) (se_var _ (nm_ok (by kernel_rfl))) (.cons (by exact fun _ _ _ => rfl) (se_sub (by exact fun _ _ => ⟨_, rfl⟩) (sa2_var (nm_ok (by kernel_rfl)) (se_int _ _ _))) (.cons (by exact fun _ _ _ => rfl) (se_var _ (nm_ok (by kernel_rfl))) .nil)))))) (sss_cons (ss_asg (ow_ok (by kernel_rfl)) (ix_ok (by kernel_rfl)) (by exact fun _ => rfl) (se_call b.toBs (gn_ok (by kernel_rfl)) (by kernel_rfl) (.cons (by exact fun _ _ _ => rfl) (se_var _ (nm_ok (by kernel_rfl))) (.cons (by exact fun _ _ _ => rfl) (se_var _ (nm_ok (by kernel_rfl))) (.cons (by exact fun _ _ _ => rfl) (se_sub (by exact fun _ _ => ⟨_, rfl⟩) (sa2_var (nm_ok (by kernel_rfl)) (se_int _ _ _))) (.cons (by exact fun _ _ _ => rfl) (se_var _ (nm_ok (by kernel_rfl))) .nil)))))) (sss_cons (ss_ite (sb_or (sb_not (sb_value (by exact fun _ _ => rfl) (se_call b.toBs (gn_ok (by kernel_rfl)) (by kernel_rfl) (.cons (by exact fun _ _ _ => rfl) (se_var _ (nm_ok (by kernel_rfl))) (.cons (by exact fun _ _ _ => rfl) (se_var _ (nm_ok (by kernel_rfl))) (.cons (by exact fun _ _ _ => rfl) (se_var _ (nm_ok (by kernel_rfl))) (.cons (by exact fun _ _ _ => rfl) (se_var _ (nm_ok (by kernel_rfl))) (.cons (by exact fun _ _ _ => rfl) (se_var _ (nm_ok (by kernel_rfl))) .nil)))))))) (sb_not (sb_value (by exact fun _ _ => rfl) (se_call b.toBs (gn_ok (by kernel_rfl)) (by kernel_rfl) (.cons (by exact fun _ _ _ => rfl) (se_var _ (nm_ok (by kernel_rfl))) (.cons (by exact fun _ _ _ => rfl) (se_var _ (nm_ok (by kernel_rfl))) (.cons (by exact fun _ _ _ => rfl) (se_var _ (nm_ok (by kernel_rfl))) (.cons (by exact fun _ _ _ => rfl) (SEo.se (seo_bin (sr2 (se_var _ (nm_ok (by kernel_rfl))) (se_var _ (nm_ok (by kernel_rfl)))))) (.cons (by exact fun _ _ _ => rfl) (se_var _ (nm_ok (by kernel_rfl))) .nil))))))))) (sss_cons (ss_ret (se_bool _ _ _)) sss_nil) sss_nil) (sss_cons (ss_ite (sb_cmp (by kernel_rfl) (sr2 (se_call b.toBs (gn_ok (by kernel_rfl)) (by kernel_rfl) (.cons (by exact fun _ _ _ => rfl) (se_var _ (nm_ok (by kernel_rfl))) (.cons (by exact fun _ _ _ => rfl) (SEo.se (seo_bin (sr2 (se_var _ (nm_ok (by kernel_rfl))) (se_var _ (nm_ok (by kernel_rfl)))))) (.cons (by exact fun _ _ _ => rfl) (se_sub (by exact fun _ _ => ⟨_, rfl⟩) (sa2_var (nm_ok (by kernel_rfl)) (se_int _ _ _))) (.cons (by exact fun _ _ _ => rfl) (se_var _ (nm_ok (by kernel_rfl))) .nil))))) (se_var _ (nm_ok (by kernel_rfl))))) (sss_cons (ss_ret (se_bool _ _ _)) sss_nil) sss_nil) (sss_cons (ss_asg (ow_ok (by kernel_rfl)) (ix_ok (by kernel_rfl)) (by exact fun _ => rfl) (SEo.se (seo_bin (sr2 (se_var _ (nm_ok (by kernel_rfl))) (se_var _ (nm_ok (by kernel_rfl))))))) (sss_cons (ss_ret (se_cmp (by kernel_rfl) (sr2 (se_sub (by exact fun _ _ => ⟨_, rfl⟩) (sa2_var (nm_ok (by kernel_rfl)) (se_int _ _ _))) (SEo.se (seo_lcomp (by kernel_rfl) (by kernel_rfl) (gs_ok (si_plain (se_bi1 b.toBs (.t _) ok1_range ⟨gn_ok (by kernel_rfl), (by kernel_rfl)⟩ (by exact fun _ _ _ => rfl) (sa_of (SEo.se (seo_bin (sr2 (se_var _ (nm_ok (by kernel_rfl))) (se_var _ (nm_ok (by kernel_rfl))))))))) .name (by kernel_rfl) (.one (ow_ok (by kernel_rfl)) (ix_ok (by kernel_rfl))) (by exact fun _ _ => rfl) .nil .nil) (se_tup (by kernel_rfl) (.cons (by exact fun _ _ _ => rfl) (SEo.se (seo_bin (sr2 (SEo.se (seo_bin (sr2 (se_var _ (nm_ok (by kernel_rfl))) (se_var _ (nm_ok (by kernel_rfl)))))) (se_var _ (nm_ok (by kernel_rfl)))))) (.cons (by exact fun _ _ _ => rfl) (SEo.se (seo_bin (sr2 (se_var _ (nm_ok (by kernel_rfl))) (SEo.se (seo_bin (sr2 (se_var _ (nm_ok (by kernel_rfl))) (se_var _ (nm_ok (by kernel_rfl))))))))) .nil)))))))) sss_nil)))))))))))))))))))
theorem e2_0 : Dr G (TN 5 0) (nf2 5).body nn0.body := fun c k b => have l := lkn5; (sss_cons (ss_ite (sb_cmp (by kernel_rfl) (sr2 (SEo.se (seo_bin (sr2 (se_var _ (nm_ok (by kernel_rfl))) (se_int _ _ _)))) (se_var _ (nm_ok (by kernel_rfl))))) (sss_cons (ss_asgS (nm_ok (by kernel_rfl)) (by exact fun _ => rfl) (se_var _ (nm_ok (by kernel_rfl))) (se_var _ (nm_ok (by kernel_rfl)))) (sss_cons ss_retN sss_nil)) sss_nil) (sss_cons (ss_asg (ow_ok (by kernel_rfl)) (ix_ok (by kernel_rfl)) (by exact fun _ => rfl) (SEo.se (seo_bin (sr2 (SEo.se (seo_bin (sr2 (se_var _ (nm_ok (by kernel_rfl))) (se_var _ (nm_ok (by kernel_rfl)))))) (se_int _ _ _))))) (sss_cons (ss_asg (ow_ok (by kernel_rfl)) (ix_ok (by kernel_rfl)) (by exact fun _ => rfl) (SEo.se (seo_bin (sr2 (SEo.se (seo_bin (sr2 (se_var _ (nm_ok (by kernel_rfl))) (se_var _ (nm_ok (by kernel_rfl)))))) (se_var _ (nm_ok (by kernel_rfl))))))) (sss_cons (ss_asg (ow_ok (by kernel_rfl)) (ix_ok (by kernel_rfl)) (by exact fun _ => rfl) (SEo.se (seo_bin (sr2 (se_var _ (nm_ok (by kernel_rfl))) (se_var _ (nm_ok (by kernel_rfl))))))) (sss_cons (ss_asg (ow_ok (by kernel_rfl)) (ix_ok (by kernel_rfl)) (by exact fun _ => rfl) (SEo.se (seo_bin (sr2 (se_var _ (nm_ok (by kernel_rfl))) (SEo.se (seo_bin (sr2 (se_var _ (nm_ok (by kernel_rfl))) (se_var _ (nm_ok (by kernel_rfl)))))))))) (sss_cons (ss_cloS b.toBz l (nm_ok (by kernel_rfl)) (by kernel_rfl) (by kernel_rfl) (.cons (by exact fun _ _ _ => rfl) (se_var _ (nm_ok (by kernel_rfl))) (.cons (by exact fun _ _ _ => rfl) (se_var _ (nm_ok (by kernel_rfl))) (.cons (by exact fun _ _ _ => rfl) (se_var _ (nm_ok (by kernel_rfl))) .nil)))) (sss_cons (ss_cloS b.toBz l (nm_ok (by kernel_rfl)) (by kernel_rfl) (by kernel_rfl) (.cons (by exact fun _ _ _ => rfl) (se_var _ (nm_ok (by kernel_rfl))) (.cons (by exact fun _ _ _ => rfl) (se_var _ (nm_ok (by kernel_rfl))) (.cons (by exact fun _ _ _ => rfl) (se_var _ (nm_ok (by kernel_rfl))) .nil)))) sss_nil)))))))
theorem e2_1 : Dr G (TN 6 1) (nf2 6).body nn1.body := fun c k b => have l := lkn6; (sss_cons (ss_ite (sb_cmp (by kernel_rfl) (sr2 (SEo.se (seo_bin (sr2 (se_var _ (nm_ok (by kernel_rfl))) (se_int _ _ _)))) (se_var _ (nm_ok (by kernel_rfl))))) (sss_cons (ss_ret (se_sub (by exact fun _ _ => ⟨_, rfl⟩) (sa2_var (nm_ok (by kernel_rfl)) (se_var _ (nm_ok (by kernel_rfl)))))) sss_nil) sss_nil) (sss_cons (ss_asg (ow_ok (by kernel_rfl)) (ix_ok (by kernel_rfl)) (by exact fun _ => rfl) (SEo.se (seo_bin (sr2 (SEo.se (seo_bin (sr2 (se_var _ (nm_ok (by kernel_rfl))) (se_var _ (nm_ok (by kernel_rfl)))))) (se_int _ _ _))))) (sss_cons (ss_asg (ow_ok (by kernel_rfl)) (ix_ok (by kernel_rfl)) (by exact fun _ => rfl) (SEo.se (seo_bin (sr2 (SEo.se (seo_bin (sr2 (se_var _ (nm_ok (by kernel_rfl))) (se_var _ (nm_ok (by kernel_rfl)))))) (se_var _ (nm_ok (by kernel_rfl))))))) (sss_cons (ss_ret (SEo.se (seo_bin (sr2 (SEo.se (seo_bin (sr2 (se_clo b.toBz l (nm_ok (by kernel_rfl)) (by kernel_rfl) (by kernel_rfl) (.cons (by exact fun _ _ _ => rfl) (se_var _ (nm_ok (by kernel_rfl))) (.cons (by exact fun _ _ _ => rfl) (se_var _ (nm_ok (by kernel_rfl))) .nil))) (se_var _ (nm_ok (by kernel_rfl)))))) (se_clo b.toBz l (nm_ok (by kernel_rfl)) (by kernel_rfl) (by kernel_rfl) (.cons (by exact fun _ _ _ => rfl) (se_var _ (nm_ok (by kernel_rfl))) (.cons (by exact fun _ _ _ => rfl) (se_var _ (nm_ok (by kernel_rfl))) .nil))))))) sss_nil))))
end
end Mine
end
section
set_option maxRecDepth 100000
set_option genSizeOf false
set_option genInjectivity false
namespace Mine
open PySem PySem.W PySem.Calls PyProof.Rows SeqAt
noncomputable def fkB (cf : List Str) (args : Arguments) (sc : Scope) (fn : Fn) : Bool := (args.args.map (fun a => idxOf (sig sc) a.arg) == fn.params) && (scOk cf sc && argOk args sc)
theorem fk_ok {cf : List Str} {args : Arguments} {sc : Scope} {fn : Fn} {cd : Bool} {nst : List (Str × Nat × List (Str × Bool) × List Str)} (h : fkB cf args sc fn = true) : FnOk cf args sc fn (Tf cd nst sc) := by
  obtain ⟨h1, h⟩ := Bool.and_eq_true_iff.mp h
  obtain ⟨h2, h3⟩ := Bool.and_eq_true_iff.mp h
  exact ⟨eq_of_beq h1, h2, h3, rfl, rfl, rfl⟩
section
variable {G : Gd}
theorem nst_nil {sc : Scope} {cd : Bool} : NstOk G (Tf cd [] sc) := fun x f sg fr e => nos e
theorem nst_one {sc sc' : Scope} {cd : Bool} {f : Nat} {N : Nest} (hs : N.scope = sc') (hN : G.nest f = some N) : NstOk G (Tf cd (inn f sc') sc) := fun x g sg fr e => by
  have q := lookup_mem (l := inn f sc') e
  cases List.mem_singleton.mp q
  exact ⟨N, hN, hs ▸ rfl, hs ▸ rfl⟩
noncomputable def Df (G : Gd) (fn : Fn) (d : FD) : Prop := FnT G gl2 gc2 [] d.args d.body d.sc true fn
theorem df0 {d : FD} {fn : Fn} (h : fkB [] d.args d.sc fn = true) (r : Dr G (Tf true [] d.sc) d.body fn.body) : Df G fn d := .mk (fk_ok h) rfl rfl rfl nst_nil r
theorem df1 {d : FD} {fn : Fn} {f : Nat} {N : Nest} (h : fkB [] d.args d.sc fn = true) (hN : G.nest f = some N) (r : Dr G (Tf true (inn f N.scope) d.sc) d.body fn.body) : Df G fn d := .mk (fk_ok h) rfl rfl rfl (nst_one rfl hN) r
theorem dfN {cf : List Str} {fn : Fn} {f : Nat} {N : Nest} (h : fkB cf N.params N.scope fn = true) (hN : G.nest f = some N) (r : Dr G (Tf false (inn f N.scope) N.scope) N.body fn.body) : FnT G gl2 gc2 cf N.params N.body N.scope false fn := .mk (fk_ok h) rfl rfl rfl (nst_one rfl hN) r
inductive Al (P : Fn → Nat → Prop) : List Fn → Nat → Prop
  | nil {n : Nat} : Al P [] n
  | cons {f : Fn} {n : Nat} {r : List Fn} (h : P f n) (t : Al P r (n + 1)) : Al P (f :: r) n
theorem Al.get {P : Fn → Nat → Prop} {l : List Fn} {n : Nat} (h : Al P l n) : ∀ {i : Nat} {f : Fn}, l[i]? = some f → P f (n + i) := by
  induction h with
  | nil => exact fun e => nos e
  | cons h _ ih =>
    intro i f e
    induction i with
    | zero => exact Option.some.inj e ▸ h
    | succ i => exact Nat.succ_add_eq_add_succ .. ▸ ih e
theorem dfs2 (h0 : G.nest 0 = some ⟨(nf2 5).args, (nf2 5).body, (nf2 5).sc⟩) (h1 : G.nest 1 = some ⟨(nf2 6).args, (nf2 6).body, (nf2 6).sc⟩) : Al (fun fn i => Df G fn (fd2 i)) p2.fns 0 :=
  .cons (df0 (by kernel_rfl) d2_0) (.cons (df0 (by kernel_rfl) d2_1) (.cons (df0 (by kernel_rfl) d2_2) (.cons (df0 (by kernel_rfl) d2_3) (.cons (df0 (by kernel_rfl) d2_4) (.cons (df1 (by kernel_rfl) h0 (d2_5 h0)) (.cons (df1 (by kernel_rfl) h1 (d2_6 h1)) (.cons (df0 (by kernel_rfl) d2_7)
  (.cons (df0 (by kernel_rfl) d2_8) (.cons (df0 (by kernel_rfl) d2_9) (.cons (df0 (by kernel_rfl) d2_10) (.cons (df0 (by kernel_rfl) d2_11) (.cons (df0 (by kernel_rfl) d2_12) (.cons (df0 (by kernel_rfl) d2_13) (.cons (df0 (by kernel_rfl) d2_14) (.cons (df0 (by kernel_rfl) d2_15)
  (.cons (df0 (by kernel_rfl) d2_16) (.cons (df0 (by kernel_rfl) d2_17) (.cons (df0 (by kernel_rfl) d2_18) (.cons (df0 (by kernel_rfl) d2_19) .nil)))))))))))))))))))
end
theorem fds_get {l : List FD} {f : Nat} {x : Str} (h : (l.map (·.name))[f]? = some x) : l.getD f nilFD ∈ l ∧ (l.getD f nilFD).name = x := by
  rw [List.getElem?_map] at h
  refine omap (C := fun x => _ ∧ (l.getD f nilFD).name = x) (o := l[f]?) h (fun d hd => ?_)
  rw [List.getD_eq_getElem?_getD, hd]
  exact ⟨List.mem_of_getElem? hd, rfl⟩
theorem pg2 {p view : Program} {w : World} {s : Shared} {mg mb : Str → Option Value} {loose : List Str} {mean : ExcName → Option Value} (T : Top view loose mean mg mb s.heap) (hrec : (recsOf view).map (fun d => (⟨d.name, d.params, d.body, d.scope⟩ : FD)) = fds2)
    (hconst : gc2.all (constOk view) = true) (hfree : (biNames.all fun q => freeOk view loose q.1) = true) (hb : ∀ q ∈ biNames, bootBuiltins q.1 = some q.2) : PgOk (gd p w s mg mb view nst2) p2 gl2 gc2 where
  consts := fun x i hx => gd_const T hconst hx
  bv := gd_bv T hfree hb
  bm := by obtain ⟨bm, ob, r⟩ := T.bmain; exact ⟨bm, ob, r⟩
  fns := fun f fn name hf hn => by
    obtain ⟨hm, e⟩ := fds_get hn
    subst e
    have q := (dfs2 (G := gd p w s mg mb view nst2) rfl rfl).get hf
    rw [Nat.zero_add] at q
    rw [← hrec] at hm
    obtain ⟨d, hd, e⟩ := List.mem_map.mp hm
    refine ⟨fd2 f, ?_, q⟩
    have z := gd_fn (p := p) (w := w) (nests := nst2) T hd
    show FnI _ (fds2.getD f nilFD).name (fds2.getD f nilFD).args (fds2.getD f nilFD).body (fds2.getD f nilFD).sc
    rw [← hrec]
    exact e ▸ z
  nested := fun f fn N hf hN => by
    induction f with
    | zero => cases hf; cases hN; exact ⟨cfOf (fd2 5).sc, dfN (f := 0) (by kernel_rfl) rfl e2_0⟩
    | succ f _ =>
      induction f with
      | zero => cases hf; cases hN; exact ⟨cfOf (fd2 6).sc, dfN (f := 1) (by kernel_rfl) rfl e2_1⟩
      | succ f _ => exact nos hf
end Mine
end
section
set_option maxRecDepth 100000
set_option maxHeartbeats 8000000
set_option genSizeOf false
set_option genInjectivity false
namespace Mine
open PySem PySem.W PyProof.Rows
theorem wsaid : Challenge.rw_ph0108_02.wellSaid = true := by kernel_rfl
noncomputable def keep : List Stmt → List Stmt
  | [] => []
  | .FunctionDef a b c d e f g h i j :: r => .FunctionDef a b c d e f g h i j :: keep r
  | .Assign [.Name x p] (.Constant (.int i) n q) z :: r => .Assign [.Name x p] (.Constant (.int i) n q) z :: keep r
  | _ :: r => keep r
noncomputable def view : Program := let p := Challenge.rw_ph0108_02.row.prog; { p with main := { p.main with body := keep p.main.body } }
theorem bi_boot : ∀ q ∈ biNames, bootBuiltins q.1 = some q.2 := fun q hq => by
  unfold biNames at hq
  simp only [List.mem_cons, List.not_mem_nil, or_false] at hq
  rcases hq with rfl | rfl | rfl | rfl | rfl | rfl | rfl | rfl | rfl <;> rfl
end Mine
end
section
set_option maxRecDepth 100000
set_option maxHeartbeats 8000000
open PySem PySem.W PyProof.Rows
theorem PySem.Challenge.cw_ph0108_02_holds : PySem.Challenge.rw_ph0108_02.Holds := by
  w_on
  refine holds_law Mine.wsaid fun said => ?_
  refine holds_open (r := Challenge.rw_ph0108_02.row) (q := Mine.view) (loose := []) (Xt := fun s => xlAt Mine.view [] s && recOk (RowW.records Challenge.rw_ph0108_02.row.toRowW) s) (XP := XL Mine.view []) (Yf := Hook.obs Hook.none) (Ya := Hook.val Hook.none) (YP := Hook.says Hook.none) (N := 1424) ?hl (Hook.of Hook.none) (Hook.keeps Hook.none) (fun s e => xl_of s (Bool.and_eq_true_iff.mp e).1) XL.keeps (by rfl) (by rfl) (by rfl) (fun s e => recFacts_of (Bool.and_eq_true_iff.mp e).2) (by rfl) (by first | assumption | decide +kernel) (by decide +kernel) ⟨rfl, rfl, rfl, rfl, rfl, by decide +kernel⟩ ?hw ?hc
  case hl => exact fun w => by kernel_rfl
  case hw => w_witness2
  case hc =>
    w_strict (
      intro w s₀ s₁ mg mb G Y fa o pm cd doc dV kV ho hd hcd hD hmg hg args vals as hpre hlay hrd hwl hlo
      refine Ground.open G ?_
      intro T B D TE TW
      try (refine guard_noD D (by decide +kernel) ?_; clear D)
      wrow_args hpre hlay hrd hwl hlo
      all_goals (first | refine callC_kw (enter_call ?_) | refine enter_call ?_)
      rename (PyData.layable0 _ = true) => hlay1
      rename (Well _ _ _ _) => hwell
      rename (¬ _ < _) => hlen
      refine Mine.law_top (f := 19) (k := 64) T (AllBare.of_eq hg) (Mine.pg2 T (by kernel_rfl) (by kernel_rfl) (by decide +kernel) Mine.bi_boot) (by kernel_rfl) hmg hwell (by omega) (Nat.le_refl _) (Mine.H2 (by omega) hlay1) (raisesW_false ?_) ?_
      · wrow_none_raised
      · wrow_post)
end
