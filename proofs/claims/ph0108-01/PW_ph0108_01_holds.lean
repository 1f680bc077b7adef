import PyProof.Rows.All
import Wide.All
import OpenK.AllK
import Wide.FinOn
import Lean
import PySem.Challenge.RW_ph0108_01
set_option Elab.async false
set_option linter.unusedVariables false
set_option linter.unusedSimpArgs false
set_option compiler.extract_closed false
section
set_option maxRecDepth 100000
set_option genSizeOf false
namespace Mine
open PySem
abbrev K := Sum Str Int
inductive V where
  | none
  | bool (b : Bool)
  | int (i : Int)
  | str (x : Str)
  | tup (vs : List V)
  | list (vs : List V)
  | dict (g : Nat) (es : List (K × V))
  | rng (lo hi : Int)
  | rows (xss : List (List Int))
  deriving Inhabited
set_option genInjectivity false
inductive Tg where
  | one (i : Nat)
  | many (is : List Nat)
mutual
inductive E where
  | bad
  | cst (v : V)
  | var (i : Nat)
  | p1 (f : V → Option V) (e : E)
  | pv (f : V → Option V) (i : Nat)
  | p2 (f : V → V → Option V) (a b : E)
  | pe (f : V → V → Option V) (i : Nat) (b : E)
  | pn (f : List V → Option V) (es : Es)
  | dct (ks vs : Es)
  | ite (t a b : E)
  | or (a b : E)
  | call (f : Nat) (es : Es)
  | clo (x f : Nat) (es : Es) (cap : List (Nat × Nat)) (n : Nat)
  | lcomp (elt : E) (gs : Gs) (cap : List (Nat × Nat)) (n : Nat)
  | dcomp (k v : E) (gs : Gs) (cap : List (Nat × Nat)) (n : Nat)
inductive Es where
  | nil
  | cons (e : E) (es : Es)
inductive It where
  | one (f : V → Option (List V)) (e : E)
  | two (f : V → V → Option (List V)) (a b : E)
inductive Gs where
  | nil
  | cons (t : Tg) (it : It) (ifs : Es) (rest : Gs)
end
inductive Mk where
  | v | o
mutual
inductive S where
  | bad
  | asg (k : Mk) (x : Nat) (e : E)
  | asgT (xs : List Nat) (e : E)
  | asgS (x : Nat) (i e : E)
  | asgSS (x : Nat) (i j e : E)
  | asgR (x : Nat) (e : E)
  | append (x : Nat) (e : E)
  | reverse (x : Nat)
  | cloS (x f : Nat) (es : Es) (cap : List (Nat × Nat)) (n : Nat)
  | for (t : Tg) (it : It) (body : Ss)
  | ite (t : E) (a b : Ss)
  | ret (e : E)
  | retN
  | defn (x : Nat) (f : Nat)
inductive Ss where
  | nil
  | cons (s : S) (r : Ss)
end
inductive Slot where
  | v (x : V)
  | ol (xs : List V)
  | od (g : Nat) (es : List (K × V))
  | oll (xss : List (List Int))
  | clo (f : Nat)
abbrev Fr := List (Option Slot)
noncomputable def Slot.view : Slot → Option V
  | .v x => some x
  | .ol xs => some (.list xs)
  | .od g es => some (.dict g es)
  | .oll xss => some (.rows xss)
  | .clo _ => none
noncomputable def Slot.freeze : Slot → Slot
  | .ol xs => .v (.list xs)
  | .od g es => .v (.dict g es)
  | .oll xss => .v (.list (xss.map fun xs => .list (xs.map .int)))
  | s => s
noncomputable def Slot.isOwn : Slot → Bool
  | .ol _ | .od _ _ | .oll _ => true
  | _ => false
noncomputable def big : Nat := 2 ^ 23
noncomputable def V.ob : V → Option Bool
  | .bool b => some b
  | _ => Option.none
noncomputable def V.oi : V → Option Int
  | .int i => some i
  | _ => Option.none
noncomputable def V.ostr : V → Option Str
  | .str x => some x
  | _ => Option.none
noncomputable def V.ol : V → Option (List V)
  | .list xs => some xs
  | _ => Option.none
noncomputable def V.ot : V → Option (List V)
  | .tup xs => some xs
  | _ => Option.none
noncomputable def V.os : V → Option (List V)
  | .list xs => some xs
  | .tup xs => some xs
  | _ => Option.none
noncomputable def V.od : V → Option (List (K × V))
  | .dict _ es => some es
  | _ => Option.none
noncomputable def keyV : V → Option K
  | .int i => some (.inr i)
  | .str x => some (.inl x)
  | _ => none
noncomputable def vKey : K → V
  | .inr i => .int i
  | .inl x => .str x
noncomputable def dget (k : K) : List (K × V) → Option V
  | [] => none
  | (k', v) :: r => if k = k' then some v else dget k r
noncomputable def dset (k : K) (v : V) : List (K × V) → List (K × V)
  | [] => [(k, v)]
  | (k', v') :: r => if k = k' then (k', v) :: r else (k', v') :: dset k v r
noncomputable def eqL (f : V → V → Option Bool) : List V → List V → Option Bool
  | [], ys => match ys with
    | [] => some true
    | _ => none
  | x :: xs, ys => match ys with
    | [] => none
    | y :: ys => (f x y).bind fun a => (eqL f xs ys).map (a && ·)
noncomputable def eqN : Nat → V → V → Option Bool
  | 0, _, _ => none
  | n + 1, a, b => match a with
    | .int x => b.oi.map (x == ·)
    | .str x => b.ostr.map (x == ·)
    | .tup xs => b.ot.bind (eqL (eqN n) xs)
    | .list xs => b.ol.bind fun ys => bif xs.length == ys.length then eqL (eqN n) xs ys else some false
    | _ => none
noncomputable def bits (a : Int) : Nat := if a = 0 then 0 else Nat.log2 a.natAbs + 1
noncomputable def binI (op : Operator) (a b : Int) : Option V :=
  match op with
  | .Add => some (.int (a + b))
  | .Sub => some (.int (a - b))
  | .Mult => if bits a + bits b ≤ big then some (.int (a * b)) else none
  | .FloorDiv => if b = 0 ∨ 1073741824 ≤ b.natAbs then none else some (.int (a.fdiv b))
  | .Mod => if b = 0 then none else some (.int (a.fmod b))
  | .Pow => if 0 ≤ b ∧ (bits a : Int) * b ≤ big then some (.int (a ^ b.toNat)) else none
  | .LShift => if 0 ≤ b ∧ (bits a : Int) + b ≤ big then some (.int (a * 2 ^ b.toNat)) else none
  | .RShift => if 0 ≤ b then some (.int (a.fdiv (2 ^ b.toNat))) else none
  | .BitXor => some (.int (Builtin.bitXor a b))
  | _ => none
noncomputable def catS (xs ys : List V) : Option (List V) := if xs.length + ys.length ≤ big then some (xs ++ ys) else none
noncomputable def repS (xs : List V) (n : Int) : Option (List V) := match xs with
  | [x] => if n ≤ big ∧ -big ≤ n then some (List.replicate n.toNat x) else none
  | _ => none
noncomputable def binV (op : Operator) (a b : V) : Option V :=
  match a with
  | .int x => b.oi.bind (binI op x)
  | .list xs => match op with
    | .Add => b.ol.bind fun ys => (catS xs ys).map .list
    | .Mult => b.oi.bind fun n => (repS xs n).map .list
    | _ => none
  | .tup xs => match op with
    | .Add => b.ot.bind fun ys => (catS xs ys).map .tup
    | _ => none
  | _ => none
noncomputable def addI (a b : V) : Option V := a.oi.bind fun x => b.oi.map fun y => .int (x + y)
noncomputable def inV (d k : V) : Option V := d.od.bind fun es => (keyV k).map fun q => .bool (dget q es).isSome
noncomputable def cmpI (op : CmpOp) (a b : Int) : Option Bool := match op with
  | .Lt => some (decide (a < b))
  | .LtE => some (decide (a ≤ b))
  | .Gt => some (decide (b < a))
  | .GtE => some (decide (b ≤ a))
  | _ => none
noncomputable def cmpV (op : CmpOp) (a b : V) : Option V := match op with
  | .Eq => (eqN 16 a b).map .bool
  | .NotEq => (eqN 16 a b).map fun c => .bool (!c)
  | op => a.oi.bind fun x => b.oi.bind fun y => (cmpI op x y).map .bool
noncomputable def truth : V → Option Bool
  | .bool b => some b
  | .int i => some (i != 0)
  | .list xs => some (!xs.isEmpty)
  | _ => none
noncomputable def notV (a : V) : Option V := (truth a).map fun b => .bool (!b)
noncomputable def negV (a : V) : Option V := a.oi.map fun i => .int (-i)
noncomputable def invV (a : V) : Option V := a.oi.map fun i => .int (-i - 1)
noncomputable def item (xs : List V) (i : Int) : Option V := if 0 ≤ i then xs[i.toNat]? else if 0 ≤ i + xs.length then xs[(i + xs.length).toNat]? else none
noncomputable def itemT (xs : List V) (i : Int) : Option V := if 0 ≤ i then xs[i.toNat]? else none
noncomputable def chrV (c : Nat) : V := .str ⟨#[c]⟩
noncomputable def chrAt (x : Str) (i : Int) : Option V := if 0 ≤ i ∧ i < 1000 then (x.cps[i.toNat]?).map chrV else none
noncomputable def subV (v k : V) : Option V := match v with
  | .dict _ es => (keyV k).bind fun q => dget q es
  | .str x => k.oi.bind (chrAt x)
  | .list xs => k.oi.bind (item xs)
  | .tup xs => k.oi.bind (itemT xs)
  | _ => none
noncomputable def cutTo (v j : V) : Option V := match v with
  | .list xs => j.oi.bind fun j => if 0 ≤ j then some (.list (xs.take j.toNat)) else none
  | .tup xs => j.oi.bind fun j => if 0 ≤ j then some (.tup (xs.take j.toNat)) else none
  | _ => none
noncomputable def cutFrom (v j : V) : Option V := match v with
  | .list xs => j.oi.bind fun j => if 0 ≤ j then some (.list (xs.drop j.toNat)) else none
  | .tup xs => j.oi.bind fun j => if 0 ≤ j then some (.tup (xs.drop j.toNat)) else none
  | _ => none
noncomputable def lenV (v : V) : Option V := match v with
  | .list xs => some (.int xs.length)
  | .tup xs => some (.int xs.length)
  | .dict _ es => some (.int es.length)
  | _ => none
noncomputable def intsOf : List V → Option (List Int)
  | [] => some []
  | v :: r => v.oi.bind fun i => (intsOf r).map (i :: ·)
noncomputable def sumV (v : V) : Option V := v.ol.bind fun xs => (intsOf xs).map fun ns => .int ns.sum
noncomputable def tupV (v : V) : Option V := v.ol.map .tup
noncomputable def isTupV : V → Option V
  | .tup _ => some (.bool true)
  | .int _ => some (.bool false)
  | _ => none
noncomputable def divmV (a b : V) : Option V := a.oi.bind fun x => b.oi.bind fun y => if y = 0 ∨ 1073741824 ≤ y.natAbs then none else some (.tup [.int (x.fdiv y), .int (x.fmod y)])
noncomputable def bitlenV (a : V) : Option V := a.oi.map fun i => .int (bits i)
noncomputable def rngV (a b : V) : Option V := a.oi.bind fun x => b.oi.map fun y => .rng x y
noncomputable def flatA : V → Bool
  | .int _ | .str _ => true
  | _ => false
noncomputable def flat : V → Bool
  | .int _ | .str _ => true
  | .tup vs => vs.all flatA
  | _ => false
noncomputable def eqAll (x : V) : List V → Option (List Bool)
  | [] => some []
  | y :: r => bif flat y then (eqN 16 y x).bind fun a => (eqAll x r).map (a :: ·) else none
noncomputable def countV (l x : V) : Option V := l.ol.bind fun xs => (eqAll x xs).map fun bs => .int (bs.countP id : Nat)
noncomputable def ninV (x l : V) : Option V := l.ol.bind fun xs => (eqAll x xs).map fun bs => .bool (!bs.any id)
noncomputable def occ (t s : Str) : List Nat := Builtin.Str.occurrences t s 0 t.length 1
noncomputable def insV (x t : V) : Option V := x.ostr.bind fun a => t.ostr.map fun b => .bool (!(occ b a).isEmpty)
noncomputable def idxV (t x : V) : Option V := t.ostr.bind fun b => x.ostr.bind fun a => ((occ b a).head?).map fun i => .int (i : Nat)
noncomputable def maxI : List Int → Option Int
  | [] => none
  | x :: r => some (r.foldl max x)
noncomputable def maxV (l : V) : Option V := l.ol.bind fun xs => (intsOf xs).bind fun ns => (maxI ns).map .int
noncomputable def getV (d p : V) : Option V := d.od.bind fun es => match p with
  | .tup [k, z] => (keyV k).map fun q => (dget q es).getD z
  | _ => none
noncomputable def keysV (d : V) : Option V := d.od.map fun es => .list (es.map fun p => vKey p.1)
noncomputable def rowAt (xss : List (List Int)) (i j : Int) : Option V := if 0 ≤ i ∧ 0 ≤ j then (xss[i.toNat]?).bind fun r => (r[j.toNat]?).map .int else none
noncomputable def sub2V (v p : V) : Option V := match v with
  | .rows xss => match p with
    | .tup [i, j] => i.oi.bind fun i => j.oi.bind (rowAt xss i)
    | _ => none
  | _ => none
noncomputable def listItems (d : V) : Option V := d.od.map fun es => .list (es.map fun p => .tup [vKey p.1, p.2])
noncomputable def addL : List V → List V → Option (List V)
  | [], _ => some []
  | x :: xs, ys => match ys with
    | [] => some []
    | y :: ys => x.oi.bind fun a => y.oi.bind fun b => (addL xs ys).map (.int (a + b) :: ·)
noncomputable def addT (a b : V) : Option V := a.ot.bind fun xs => b.ot.bind fun ys => (addL xs ys).map .tup
noncomputable def rngList (lo hi : Int) : List V := (List.range (hi - lo).toNat).map fun (k : Nat) => V.int (lo + (k : Int))
noncomputable def itemsOf : V → Option (List V)
  | .list xs => some xs
  | .tup xs => some xs
  | .dict _ es => some (es.map fun p => vKey p.1)
  | .rng lo hi => if hi - lo ≤ big ∧ lo.natAbs ≤ big ∧ hi.natAbs ≤ big then some (rngList lo hi) else none
  | .str x => bif x.cps.all (· < 128) then some (x.cps.toList.map chrV) else none
  | _ => none
noncomputable def pairsV (d : V) : Option (List V) := d.od.map fun es => es.map fun p => .tup [vKey p.1, p.2]
noncomputable def valuesV (d : V) : Option (List V) := d.od.map fun es => es.map (·.2)
noncomputable def revV (l : V) : Option (List V) := l.ol.map List.reverse
noncomputable def enumL : Nat → List V → List V
  | _, [] => []
  | n, x :: r => .tup [.int n, x] :: enumL (n + 1) r
noncomputable def enumV (l : V) : Option (List V) := l.ol.map (enumL 0)
noncomputable def tupN (vs : List V) : Option V := some (.tup vs)
noncomputable def lstN (vs : List V) : Option V := some (.list vs)
noncomputable def keysOf : List V → Option (List K)
  | [] => some []
  | v :: r => (keyV v).bind fun k => (keysOf r).map (k :: ·)
noncomputable def dsets (ks : List K) (vs : List V) : List (K × V) := (ks.zip vs).foldl (fun d p => dset p.1 p.2 d) []
noncomputable def fm (f : V → Option (List V)) : List V → Option (List V)
  | [] => some []
  | x :: r => (f x).bind fun a => (fm f r).map (a ++ ·)
noncomputable def bindAll (m : Fr) (is : List Nat) (vs : List V) : Fr := (is.zip vs).foldl (fun m p => m.set p.1 (some (.v p.2))) m
noncomputable def Fr.bind (m : Fr) : Tg → V → Option Fr
  | .one i, v => some (m.set i (some (.v v)))
  | .many is, v => v.os.bind fun vs => if is.length = vs.length then some (bindAll m is vs) else none
noncomputable def Tg.ids : Tg → List Nat
  | .one i => [i]
  | .many is => is
noncomputable def Fr.at (m : Fr) (i : Nat) : Option Slot := (m[i]?).join
noncomputable def Fr.bindN (m : Fr) (t : Tg) (v : V) : Option Fr := bif t.ids.all fun i => (m.at i).isNone then m.bind t v else none
noncomputable def capIn (g : Nat → Bool) : Option Slot → Option Slot
  | none => none
  | some s => match s with
    | .clo f => bif g f then some (.clo f) else none
    | s => some s
noncomputable def Fr.capture (m : Fr) (g : Nat → Bool) (cap : List (Nat × Nat)) (n : Nat) : Fr := cap.foldl (fun f p => f.set p.1 (capIn g (m.at p.2))) (List.replicate n none)
noncomputable def noF : Nat → Bool := fun _ => false
noncomputable def backIn (m' : Fr) (q : Fr) (p : Nat × Nat) : Option Slot → Option Fr
  | some (.ol _) => match m'.at p.1 with
    | some (.ol xs) => some (q.set p.2 (some (.ol xs)))
    | _ => none
  | some (.od _ _) => none
  | some (.oll _) => none
  | _ => some q
noncomputable def capBack (m' m : Fr) : List (Nat × Nat) → Option Fr
  | [] => some m
  | p :: r => (capBack m' m r).bind fun q => backIn m' q p (m.at p.2)
noncomputable def pairOf : V → Option (K × V)
  | .tup [k, v] => (keyV k).map fun q => (q, v)
  | _ => none
noncomputable def pairsOf : List V → Option (List (K × V))
  | [] => some []
  | p :: r => (pairOf p).bind fun q => (pairsOf r).map (q :: ·)
noncomputable def foldD (ps : List (K × V)) : List (K × V) := ps.foldl (fun d p => dset p.1 p.2 d) []
structure Cx where
  gen : Nat
  call : Nat → List V → Option V
  clo : Nat → List V → Fr → Option (V × Fr)
noncomputable def isClo (f : Nat) : Slot → Bool
  | .clo f' => f' == f
  | _ => false
mutual
noncomputable def ev (c : Cx) (m : Fr) : E → Option V
  | .bad => none
  | .cst v => some v
  | .var i => (m.at i).bind Slot.view
  | .p1 f e => (ev c m e).bind f
  | .pv f i => ((m.at i).bind Slot.view).bind f
  | .p2 f a b => (ev c m a).bind fun x => (ev c m b).bind (f x)
  | .pe f i b => ((m.at i).bind Slot.view).bind fun x => (ev c m b).bind (f x)
  | .pn f es => (evs c m es).bind f
  | .dct ks vs => (evs c m ks).bind fun kv => (evs c m vs).bind fun vv => (keysOf kv).map fun ks => .dict c.gen (dsets ks vv)
  | .ite t a b => (ev c m t).bind fun v => (truth v).bind fun z => bif z then ev c m a else ev c m b
  | .or a b => (ev c m a).bind fun v => (truth v).bind fun z => bif z then some (.bool true) else (ev c m b).bind fun u => (truth u).map .bool
  | .call f es => (evs c m es).bind (c.call f)
  | .clo x f es cap n => (m.at x).bind fun sl => bif isClo f sl then (evs c m es).bind fun vs => (c.clo f vs (m.capture (· == f) cap n)).map (·.1) else none
  | .lcomp elt gs cap n => (evG1 c m (m.capture noF cap n) gs fun m' => (ev c m' elt).map fun v => [v]).bind fun xs => if xs.length ≤ big then some (.list xs) else none
  | .dcomp k v gs cap n => (evG1 c m (m.capture noF cap n) gs fun m' => (ev c m' k).bind fun kk => (keyV kk).bind fun _ => (ev c m' v).map fun vv => [.tup [kk, vv]]).bind fun ps => if ps.length ≤ big then (pairsOf ps).map fun kps => .dict c.gen (foldD kps) else none
noncomputable def evs (c : Cx) (m : Fr) : Es → Option (List V)
  | .nil => some []
  | .cons e r => (ev c m e).bind fun v => (evs c m r).map (v :: ·)
noncomputable def evAnd (c : Cx) (m : Fr) : Es → Option Bool
  | .nil => some true
  | .cons e r => (ev c m e).bind fun v => (truth v).bind fun z => bif z then evAnd c m r else some false
noncomputable def evIt (c : Cx) (m : Fr) : It → Option (List V)
  | .one f e => (ev c m e).bind f
  | .two f a b => (ev c m a).bind fun x => (ev c m b).bind (f x)
noncomputable def evG1 (c : Cx) (mo mi : Fr) : Gs → (Fr → Option (List V)) → Option (List V)
  | .nil, _ => none
  | .cons t it ifs rest, k => (evIt c mo it).bind fun xs => fm (fun x => (mi.bindN t x).bind fun m => (evAnd c m ifs).bind fun z => bif z then evGs c m rest k else some []) xs
noncomputable def evGs (c : Cx) (m : Fr) : Gs → (Fr → Option (List V)) → Option (List V)
  | .nil, k => k m
  | .cons t it ifs rest, k => (evIt c m it).bind fun xs => fm (fun x => (m.bindN t x).bind fun m => (evAnd c m ifs).bind fun z => bif z then evGs c m rest k else some []) xs
end
mutual
noncomputable def esc : E → List Nat
  | .bad => []
  | .cst _ => []
  | .var i => [i]
  | .p1 _ e => esc e
  | .pv _ _ => []
  | .p2 _ a b => esc a ++ esc b
  | .pe _ _ b => esc b
  | .pn _ es => escs es
  | .dct ks vs => escs ks ++ escs vs
  | .ite t a b => esc t ++ (esc a ++ esc b)
  | .or a b => esc a ++ esc b
  | .call _ es => escs es
  | .clo _ _ es cap _ => escs es ++ cap.map (·.2)
  | .lcomp _ gs cap _ => escG gs ++ cap.map (·.2)
  | .dcomp _ _ gs cap _ => escG gs ++ cap.map (·.2)
noncomputable def escs : Es → List Nat
  | .nil => []
  | .cons e r => esc e ++ escs r
noncomputable def escIt : It → List Nat
  | .one _ e => esc e
  | .two _ a b => esc a ++ esc b
noncomputable def escG : Gs → List Nat
  | .nil => []
  | .cons _ it _ _ => escIt it
end
noncomputable def Slot.frzB (b : Bool) : Slot → Slot
  | .ol xs => bif b then .v (.list xs) else .ol xs
  | .od g es => bif b then .v (.dict g es) else .od g es
  | .oll xss => bif b then .v (.list (xss.map fun xs => .list (xs.map .int))) else .oll xss
  | s => s
noncomputable def frzAt (a : List Nat) : Nat → Fr → Fr
  | _, [] => []
  | i, s :: r => (match s with
    | none => none
    | some s => some (s.frzB (a.contains i))) :: frzAt a (i + 1) r
noncomputable def Fr.frz (m : Fr) (e : E) : Fr := frzAt (esc e) 0 m
noncomputable def Fr.frzs (m : Fr) (e : Es) : Fr := frzAt (escs e) 0 m
noncomputable def Fr.frzIt (m : Fr) (e : It) : Fr := frzAt (escIt e) 0 m
noncomputable def rowsOf : List V → Option (List (List Int))
  | [] => some []
  | x :: r => (x.ol.bind intsOf).bind fun is => (rowsOf r).map (is :: ·)
noncomputable def slotOf : Mk → V → Slot
  | .v, v => .v v
  | .o, v => match v with
    | .list xs => .ol xs
    | .dict g es => .od g es
    | v => .v v
inductive Fl where
  | next
  | ret (v : V)
noncomputable def flK (f : Fr → Option (Fl × Fr)) (q : Fl × Fr) : Option (Fl × Fr) := match q.1 with
  | .next => f q.2
  | .ret v => some (.ret v, q.2)
noncomputable def forL (f : V → Fr → Option (Fl × Fr)) : List V → Fr → Option (Fl × Fr)
  | [], m => some (.next, m)
  | x :: r, m => (f x m).bind (flK (forL f r))
noncomputable def setItem (xs : List V) (i : Int) (v : V) : Option (List V) := if 0 ≤ i ∧ i < xs.length then some (xs.set i.toNat v) else none
noncomputable def storeS (i v : V) : Slot → Option Slot
  | .ol xs => i.oi.bind fun k => (setItem xs k v).map .ol
  | .od g es => if es.length + 1 ≤ big then (keyV i).map fun q => .od g (dset q v es) else none
  | _ => none
noncomputable def storeAt (m : Fr) (x : Nat) (i v : V) : Option Fr := (m.at x).bind fun s => (storeS i v s).map fun s => m.set x (some s)
noncomputable def storeSS (i j v : V) : Slot → Option Slot
  | .oll xss => i.oi.bind fun i => j.oi.bind fun j => v.oi.bind fun v => if 0 ≤ i ∧ 0 ≤ j ∧ i < xss.length ∧ j < (xss.getD i.toNat []).length then some (.oll (xss.modify i.toNat fun xs => xs.set j.toNat v)) else none
  | _ => none
noncomputable def storeAtS (m : Fr) (x : Nat) (i j v : V) : Option Fr := (m.at x).bind fun s => (storeSS i j v s).map fun s => m.set x (some s)
noncomputable def pushS (v : V) : Slot → Option Slot
  | .ol xs => if xs.length + 1 ≤ big then some (.ol (xs ++ [v])) else none
  | _ => none
noncomputable def revS : Slot → Option Slot
  | .ol xs => some (.ol xs.reverse)
  | _ => none
mutual
noncomputable def ex (c : Cx) : S → Fr → Option (Fl × Fr)
  | .bad, _ => none
  | .asg k x e, m => (ev c (m.frz e) e).map fun v => (.next, (m.frz e).set x (some (slotOf k v)))
  | .asgT xs e, m => (ev c (m.frz e) e).bind fun v => ((m.frz e).bind (.many xs) v).map fun q => (.next, q)
  | .asgS x i e, m => (ev c ((m.frz e).frz i) e).bind fun v => (ev c ((m.frz e).frz i) i).bind fun k => (storeAt ((m.frz e).frz i) x k v).map fun q => (.next, q)
  | .asgSS x i j e, m => (ev c (((m.frz e).frz i).frz j) e).bind fun v => (ev c (((m.frz e).frz i).frz j) i).bind fun k => (ev c (((m.frz e).frz i).frz j) j).bind fun l => (storeAtS (((m.frz e).frz i).frz j) x k l v).map fun q => (.next, q)
  | .asgR x e, m => (ev c (m.frz e) e).bind fun v => (v.ol.bind rowsOf).map fun xss => (.next, (m.frz e).set x (some (.oll xss)))
  | .append x e, m => (ev c (m.frz e) e).bind fun v => ((m.frz e).at x).bind fun s => (pushS v s).map fun s => (.next, (m.frz e).set x (some s))
  | .reverse x, m => (m.at x).bind fun s => (revS s).map fun s => (.next, m.set x (some s))
  | .cloS x f es cap n, m => ((m.frzs es).at x).bind fun sl => bif isClo f sl then (evs c (m.frzs es) es).bind fun vs => (c.clo f vs ((m.frzs es).capture (· == f) cap n)).bind fun r => (capBack r.2 (m.frzs es) cap).map fun q => (.next, q) else none
  | .for t it body, m => (evIt c (m.frzIt it) it).bind fun xs => forL (fun v m => (m.bind t v).bind (exs c body)) xs (m.frzIt it)
  | .ite t a b, m => (ev c (m.frz t) t).bind fun v => (truth v).bind fun z => bif z then exs c a (m.frz t) else exs c b (m.frz t)
  | .ret e, m => (ev c (m.frz e) e).map fun v => (.ret v, m.frz e)
  | .retN, m => some (.ret .none, m)
  | .defn x f, m => some (.next, m.set x (some (.clo f)))
noncomputable def exs (c : Cx) : Ss → Fr → Option (Fl × Fr)
  | .nil, m => some (.next, m)
  | .cons s r, m => (ex c s m).bind (flK (exs c r))
end
structure Fn where
  params : List Nat
  n : Nat
  body : Ss
structure Prog where
  fns : List Fn
  nested : List Fn
noncomputable def Fl.val : Fl → V
  | .next => .none
  | .ret v => v
noncomputable def Fr.args (m : Fr) (ps : List Nat) (vs : List V) : Option Fr := if ps.length = vs.length then some (bindAll m ps vs) else none
noncomputable def run (p : Prog) (g : Nat) : Nat → Cx
  | 0 => ⟨g, fun _ _ => none, fun _ _ _ => none⟩
  | k + 1 => ⟨g, fun f vs => (p.fns[f]?).bind fun fn => (Fr.args (List.replicate fn.n none) fn.params vs).bind fun m => (exs (run p g k) fn.body m).map fun r => r.1.val,
    fun f vs m => (p.nested[f]?).bind fun fn => (Fr.args m fn.params vs).bind fun m => (exs (run p g k) fn.body m).map fun r => (r.1.val, r.2)⟩
structure Tx where
  gl : List Str
  gc : List (Str × Int)
  sg : List (Str × Bool)
  cf : List Str
  ow : List Str
  cd : Bool
  nst : List (Str × Nat × List (Str × Bool) × List Str)
noncomputable def isVarKind : NameKind → Bool
  | .local | .cell | .free => true
  | _ => false
noncomputable def sig (sc : Scope) : List (Str × Bool) := sc.names.map fun p => (p.1, isVarKind p.2)
noncomputable def idxOf (sg : List (Str × Bool)) (x : Str) : Nat := sg.findIdx (·.1 == x)
noncomputable def isVar (sg : List (Str × Bool)) (x : Str) : Bool := (sg.lookup x).getD false
noncomputable def freeIn (sc : Scope) : List Str := (sc.names.filter (·.2 == .free)).map (·.1)
noncomputable def cellKind : NameKind → Bool
  | .cell | .free => true
  | _ => false
noncomputable def cfOf (sc : Scope) : List Str := (sc.names.filter fun p => cellKind p.2).map (·.1)
noncomputable def ownKind : NameKind → Bool
  | .local | .cell => true
  | _ => false
noncomputable def owOf (sc : Scope) : List Str := (sc.names.filter fun p => ownKind p.2).map (·.1)
noncomputable def scOk (cf : List Str) (sc : Scope) : Bool :=
  sc.kind == .function && !sc.isGenerator && !sc.isCoroutine && decide (sc.names.map (·.1)).Nodup && (freeIn sc).all (cf.contains ·) && sc.names.all (·.2 != .globalExplicit)
noncomputable def capOf (inner outer : List (Str × Bool)) (free : List Str) : List (Nat × Nat) := free.map fun x => (idxOf inner x, idxOf outer x)
noncomputable def okArg (sc : Scope) (x : Arg) : Bool := x.annotation.isNone && (owOf sc).contains x.arg
noncomputable def argOk (a : Arguments) (sc : Scope) : Bool :=
  a.posonlyargs.isEmpty && a.vararg.isNone && a.kwonlyargs.isEmpty && a.kwarg.isNone && a.defaults.isEmpty && a.kw_defaults.isEmpty && a.args.all (okArg sc) && decide (a.args.map (·.arg)).Nodup
end Mine
end
section
set_option maxRecDepth 100000
set_option genSizeOf false
set_option genInjectivity false
namespace Mine
open PySem PyProof.Rows
theorem nos {α : Type} {x : α} {C : Prop} (h : none = some x) : C := by cases h
inductive All2 {α β : Type} (r : α → β → Prop) : List α → List β → Prop
  | nil : All2 r [] []
  | cons {a : α} {b : β} {as : List α} {bs : List β} : r a b → All2 r as bs → All2 r (a :: as) (b :: bs)
noncomputable def Pw {α β : Type} (r : α → β → Prop) (as : List α) (bs : List β) : Prop := ∀ (i : Nat) a b, as[i]? = some a → bs[i]? = some b → r a b
inductive Kv {α β : Type} (r : α → β → Prop) : K × α → K × β → Prop
  | mk {k : K} {a : α} {b : β} : r a b → Kv r (k, a) (k, b)
section
variable {α β : Type} {r r' : α → β → Prop} {as : List α} {bs : List β}
theorem All2.length (h : All2 r as bs) : as.length = bs.length := by
  induction h with
  | nil => rfl
  | cons _ _ ih => exact congrArg (· + 1) ih
theorem All2.imp (f : ∀ a b, r a b → r' a b) (h : All2 r as bs) : All2 r' as bs := by
  induction h with
  | nil => exact .nil
  | cons x _ ih => exact .cons (f _ _ x) ih
theorem All2.get (h : All2 r as bs) : ∀ {i : Nat} {a : α} {C : Prop}, as[i]? = some a → (∀ b, bs[i]? = some b → r a b → C) → C := by
  induction h with
  | nil => intro i a C e; exact nos e
  | cons x _ ih =>
    intro i a C
    induction i with
    | zero => exact fun e k => k _ rfl (Option.some.inj e ▸ x)
    | succ i => exact ih (i := i)
theorem All2.getB (h : All2 r as bs) : ∀ {i : Nat} {b : β} {C : Prop}, bs[i]? = some b → (∀ a, as[i]? = some a → r a b → C) → C := by
  induction h with
  | nil => intro i a C e; exact nos e
  | cons x _ ih =>
    intro i b C
    induction i with
    | zero => exact fun e k => k _ rfl (Option.some.inj e ▸ x)
    | succ i => exact ih (i := i)
theorem All2.at (h : All2 r as bs) {i : Nat} {a : α} {b : β} (e : as[i]? = some a) (e' : bs[i]? = some b) : r a b :=
  h.get e fun _ h1 h2 => Option.some.inj (h1.symm.trans e') ▸ h2
theorem All2.of : ∀ {as : List α} {bs : List β}, as.length = bs.length → (∀ (i : Nat) a b, as[i]? = some a → bs[i]? = some b → r a b) → All2 r as bs := by
  intro as
  induction as with
  | nil =>
    intro bs
    induction bs with
    | nil => exact fun _ _ => .nil
    | cons => exact fun hl _ => Nat.noConfusion hl
  | cons a as ih =>
    intro bs
    induction bs with
    | nil => exact fun hl _ => Nat.noConfusion hl
    | cons b bs => exact fun hl h => .cons (h 0 a b rfl rfl) (ih (Nat.succ.inj hl) fun i => h (i + 1))
theorem All2.append (h : All2 r as bs) {as' : List α} {bs' : List β} (h' : All2 r as' bs') : All2 r (as ++ as') (bs ++ bs') := by
  induction h with
  | nil => exact h'
  | cons x _ ih => exact .cons x ih
theorem All2.take (h : All2 r as bs) : ∀ n, All2 r (as.take n) (bs.take n) := by
  induction h with
  | nil => intro n; cases n <;> exact .nil
  | cons x _ ih => intro n; induction n with | zero => exact .nil | succ n => exact .cons x (ih n)
theorem All2.drop (h : All2 r as bs) : ∀ n, All2 r (as.drop n) (bs.drop n) := by
  induction h with
  | nil => intro n; cases n <;> exact .nil
  | cons x y ih => intro n; induction n with | zero => exact .cons x y | succ n => exact ih n
theorem All2.set {a : α} {b : β} (x : r a b) (h : All2 r as bs) : ∀ i, All2 r (as.set i a) (bs.set i b) := by
  induction h with
  | nil => intro n; exact .nil
  | cons y z ih => intro n; induction n with | zero => exact .cons x z | succ n => exact .cons y (ih n)
theorem All2.reverse (h : All2 r as bs) : All2 r as.reverse bs.reverse := by
  induction h with
  | nil => exact .nil
  | cons x _ ih => rw [List.reverse_cons, List.reverse_cons]; exact ih.append (.cons x .nil)
theorem All2.replicate {a : α} {b : β} (x : r a b) (n : Nat) : All2 r (List.replicate n a) (List.replicate n b) := by
  induction n with
  | zero => exact .nil
  | succ n ih => exact .cons x ih
theorem All2.snd {as : List (K × α)} {bs : List (K × β)} (h : All2 (Kv r) as bs) : All2 r (as.map (·.2)) (bs.map (·.2)) := by
  induction h with
  | nil => exact .nil
  | cons x _ ih => induction x with | mk x => exact .cons x ih
end
theorem obind {α β : Type} {o : Option α} {f : α → Option β} {b : β} {C : Prop} : o.bind f = some b → (∀ a, o = some a → f a = some b → C) → C := by
  induction o with
  | none => exact fun h _ => nos h
  | some a => exact fun h k => k a rfl h
theorem omap {α β : Type} {o : Option α} {f : α → β} {b : β} {C : β → Prop} : o.map f = some b → (∀ a, o = some a → C (f a)) → C b := by
  induction o with
  | none => exact fun h _ => nos h
  | some a => exact fun h k => Option.some.inj h ▸ k a rfl
noncomputable def kIs : K → Value → Bool
  | .inl x, v => Value.isStrOf x v
  | .inr i, v => Value.isInt i v
inductive KShape : K → Value → Prop
  | s (x : Str) (t : Tok) : KShape (.inl x) (.str x t)
  | i (i : Int) (t : Tok) : KShape (.inr i) (.int i t)
theorem kIs_shape {k : K} {v : Value} (h : kIs k v = true) : KShape k v := by
  cases k with
  | inl x => obtain ⟨t, e⟩ := Value.isStrOf_shape h; exact e ▸ .s x t
  | inr i => obtain ⟨t, e⟩ := Value.isInt_shape h; exact e ▸ .i i t
noncomputable def hashK (w : World) : K → Int
  | .inl x => hashStr w x
  | .inr i => hashInt i
section
variable {prog : Program} {w : World} {A : Around} {E : Value → Shared → Prop} {s : Shared}
theorem eqBool_int_str {a : Int} {t : Tok} {b : Str} {u : Tok} {Q : Bool → Shared → Prop} (h : Q false s) : wpAny (model prog w) A (eqBool (.int a t) (.str b u)) Q E s := by
  unfold eqBool
  refine wpAny_holding ?_
  show wpAny _ _ (if (Value.int a t == Value.str b u) = true then _ else _) Q E s
  rw [if_neg fun q => Value.noConfusion (eq_of_beq q)]
  exact wpAny_bind (EqMixed.eq_int_str (A := A) (wpAny_truthy_bool h))
theorem eqBool_str_int {a : Str} {t : Tok} {b : Int} {u : Tok} {Q : Bool → Shared → Prop} (h : Q false s) : wpAny (model prog w) A (eqBool (.str a t) (.int b u)) Q E s := by
  unfold eqBool
  refine wpAny_holding ?_
  show wpAny _ _ (if (Value.str a t == Value.int b u) = true then _ else _) Q E s
  rw [if_neg fun q => Value.noConfusion (eq_of_beq q)]
  exact wpAny_bind (EqMixed.eq_str_int (A := A) (wpAny_truthy_bool h))
end
noncomputable def kk (prog : Program) (w : World) : KeyKind prog w K where
  is := kIs
  hash := hashK w
  inj := fun v a b ha hb => by
    have x := kIs_shape ha
    have y := kIs_shape hb
    cases x <;> cases y <;> rfl
  byValue := fun k v h => by
    have x := kIs_shape h
    cases x <;> rfl
  pyHash := fun hv h => by
    have x := kIs_shape hv
    cases x with
    | s => exact wpAny_pyHash_str h
    | i => exact wpAny_pyHash_int h
  eqBool := fun hu hv h => by
    have x := kIs_shape hu
    have y := kIs_shape hv
    cases x with
    | s =>
      cases y with
      | s => exact wpAny_eqBool_str (by simpa using h)
      | i => exact eqBool_str_int (by simpa using h)
    | i =>
      cases y with
      | s => exact eqBool_int_str (by simpa using h)
      | i a => exact wpAny_eqBool_int (by rw [show ∀ x y : Int, decide ((Sum.inr x : K) = .inr y) = (x == y) from fun x y => by by_cases q : x = y <;> simp [q]] at h; exact h)
  «strs» := fun k x t v h => by
    have y := kIs_shape h
    cases y
    cases v <;> rfl
structure Nest where
  params : Arguments
  body : List Stmt
  scope : Scope
structure Gd where
  prog : Program
  w : World
  gen : Nat
  P : Nat → Addr → Prop
  h₀ : Heap
  os₀ : OsState
  mg : Str → Option Value
  mb : Str → Option Value
  Own : Addr → Addr → Prop
  nest : Nat → Option Nest
noncomputable def Gd.Tab (G : Gd) (P : Addr) : Prop := ∃ c, G.Own c P
section
variable (r : V → Value → Prop) (h : Heap) (a : Addr) (vs : List V)
inductive LstA : Prop
  | mk {ws : List Value} {n : Nat} (e : IsL h a ws.toArray n) (l : ws.length ≤ big) (rel : All2 r vs ws)
inductive TupA : Prop
  | mk {ws : List Value} {n : Nat} (e : IsT h a ws.toArray n) (l : ws.length ≤ big) (rel : All2 r vs ws)
inductive DctA (G : Gd) (g : Nat) (es : List (K × V)) : Prop
  | mk {kvs : List (K × Value)} (p : G.P g a) (ns : (a == sysModules) = false) (of : h.DictOf (kk G.prog G.w) a kvs) (l : kvs.length ≤ big) (rel : All2 (Kv r) es kvs)
end
inductive Iv (i : Int) : Value → Prop
  | mk (t : Tok) : Iv i (.int i t)
inductive RowA (h : Heap) (xs : List Int) : Value → Prop
  | mk {b : Addr} {ws : List Value} {n : Nat} (e : IsL h b ws.toArray n) (l : ws.length ≤ big) (rel : All2 Iv xs ws) : RowA h xs (.ref b)
inductive RowsA (h : Heap) (a : Addr) (xss : List (List Int)) : Prop
  | mk {ws : List Value} {n : Nat} (e : IsL h a ws.toArray n) (l : ws.length ≤ big) (rel : All2 (RowA h) xss ws) (nd : ws.Nodup)
inductive VR (G : Gd) (O : Addr → Prop) (h : Heap) : V → Value → Prop
  | none : VR G O h .none .none
  | bool (b : Bool) : VR G O h (.bool b) (.bool b)
  | int (i : Int) (t : Tok) : VR G O h (.int i) (.int i t)
  | str (x : Str) (t : Tok) : VR G O h (.str x) (.str x t)
  | tup {vs : List V} {ws : List Value} {a : Addr} {n : Nat} : ¬ O a → IsT h a ws.toArray n → ws.length ≤ big → vs.length = ws.length → Pw (VR G O h) vs ws → VR G O h (.tup vs) (.ref a)
  | list {vs : List V} {ws : List Value} {a : Addr} {n : Nat} : ¬ O a → IsL h a ws.toArray n → ws.length ≤ big → vs.length = ws.length → Pw (VR G O h) vs ws → VR G O h (.list vs) (.ref a)
  | dict {g : Nat} {es : List (K × V)} {kvs : List (K × Value)} {a : Addr} : ¬ O a → G.P g a → (a == sysModules) = false → h.DictOf (kk G.prog G.w) a kvs → kvs.length ≤ big → es.length = kvs.length → (∀ (i : Nat) p q, es[i]? = some p → kvs[i]? = some q → p.1 = q.1) →
      (∀ (i : Nat) p q, es[i]? = some p → kvs[i]? = some q → VR G O h p.2 q.2) → VR G O h (.dict g es) (.ref a)
  | rng {lo hi : Int} {a : Addr} {t u x : Tok} : ¬ O a → h.get? a = some { cls := .type "range", data := .fields #[.int lo t, .int hi u, .int 1 x] } → VR G O h (.rng lo hi) (.ref a)
abbrev VRs (G : Gd) (O : Addr → Prop) (h : Heap) : List V → List Value → Prop := All2 (VR G O h)
inductive VW (G : Gd) (O : Addr → Prop) (h : Heap) : V → Value → Prop
  | none : VW G O h .none .none
  | bool (b : Bool) : VW G O h (.bool b) (.bool b)
  | int (i : Int) (t : Tok) : VW G O h (.int i) (.int i t)
  | str (x : Str) (t : Tok) : VW G O h (.str x) (.str x t)
  | tup {vs : List V} {a : Addr} : TupA (VR G O h) h a vs → VW G O h (.tup vs) (.ref a)
  | list {vs : List V} {a : Addr} : LstA (VR G O h) h a vs → VW G O h (.list vs) (.ref a)
  | dict {g : Nat} {es : List (K × V)} {a : Addr} : DctA (VR G O h) h a G g es → VW G O h (.dict g es) (.ref a)
  | rng {lo hi : Int} {a : Addr} {t u x : Tok} : h.get? a = some { cls := .type "range", data := .fields #[.int lo t, .int hi u, .int 1 x] } → VW G O h (.rng lo hi) (.ref a)
  | rows {xss : List (List Int)} {a : Addr} : RowsA h a xss → VW G O h (.rows xss) (.ref a)
section
variable {G : Gd} {O O' : Addr → Prop} {h h' : Heap} {v : V} {x : Value} {a : Addr}
theorem DctA.obj {r : V → Value → Prop} {g : Nat} {es : List (K × V)} (d : DctA r h a G g es) {C : Prop} (k : ∀ o, h.get? a = some o → o.cls = .type "dict" → C) : C := by
  induction d with
  | mk p ns of l rel =>
    obtain ⟨o, es, ep, ho, hc, r⟩ := of
    exact k o ho hc.1
theorem VR.mkL {vs : List V} (no : ¬ O a) (r : LstA (VR G O h) h a vs) : VR G O h (.list vs) (.ref a) := by
  induction r with | mk e l rel => exact .list no e l rel.length fun i v w => rel.at
theorem VR.mkT {vs : List V} (no : ¬ O a) (r : TupA (VR G O h) h a vs) : VR G O h (.tup vs) (.ref a) := by
  induction r with | mk e l rel => exact .tup no e l rel.length fun i v w => rel.at
theorem kv_fst {p : K × V} {q : K × Value} (h : Kv (VR G O h') p q) : p.1 = q.1 := by induction h with | mk _ => rfl
theorem kv_snd {r : V → Value → Prop} {p : K × V} {q : K × Value} (h : Kv r p q) : r p.2 q.2 := by induction h with | mk x => exact x
theorem kv_of {r : V → Value → Prop} {p : K × V} {q : K × Value} (e : p.1 = q.1) (x : r p.2 q.2) : Kv r p q := (show (p.1, q.2) = q from e ▸ rfl) ▸ Kv.mk x
theorem VR.mkD {g : Nat} {es : List (K × V)} (no : ¬ O a) (r : DctA (VR G O h) h a G g es) : VR G O h (.dict g es) (.ref a) := by
  induction r with | mk p ns of l rel => exact .dict no p ns of l rel.length (fun i p q e e' => kv_fst (rel.at e e')) fun i p q e e' => kv_snd (rel.at e e')
theorem VR.w (r : VR G O h v x) : VW G O h v x := by
  induction r with
  | none => exact .none
  | bool b => exact .bool b
  | int i t => exact .int i t
  | str x t => exact .str x t
  | tup no e l hl r => exact .tup ⟨e, l, .of hl r⟩
  | list no e l hl r => exact .list ⟨e, l, .of hl r⟩
  | dict no p ns d l hl hk r => exact .dict ⟨p, ns, d, l, .of hl fun i p q e e' => kv_of (hk i p q e e') (r i p q e e')⟩
  | rng no e => exact .rng e
theorem VR.no' (r : VR G O h v x) : ∀ a, x = .ref a → ¬ O a := by
  induction r with
  | none => exact fun a e => Value.noConfusion e
  | bool b => exact fun a e => Value.noConfusion e
  | int i t => exact fun a e => Value.noConfusion e
  | str x t => exact fun a e => Value.noConfusion e
  | tup no => exact fun a e => Value.ref.inj e ▸ no
  | list no => exact fun a e => Value.ref.inj e ▸ no
  | dict no => exact fun a e => Value.ref.inj e ▸ no
  | rng no => exact fun a e => Value.ref.inj e ▸ no
theorem VR.no (r : VR G O h v (.ref a)) : ¬ O a := r.no' a rfl
theorem type_ne {t : String} : Value.type t ≠ .none := fun h => Value.noConfusion h
noncomputable def KeepA (a : Addr) (h h' : Heap) : Prop := ∀ o, h.get? a = some o → o.cls ≠ .none → h'.get? a = some o
noncomputable def Keep (O O' : Addr → Prop) (h h' : Heap) : Prop := ∀ a o, h.get? a = some o → o.cls ≠ .none → ¬ O a → ¬ O' a ∧ h'.get? a = some o
theorem VR.mono (k : Keep O O' h h') (r : VR G O h v x) : VR G O' h' v x := by
  induction r with
  | none => exact .none
  | bool b => exact .bool b
  | int i t => exact .int i t
  | str x t => exact .str x t
  | tup no e l hl _ ih => exact .tup (k _ _ e type_ne no).1 (k _ _ e type_ne no).2 l hl ih
  | list no e l hl _ ih => exact .list (k _ _ e type_ne no).1 (k _ _ e type_ne no).2 l hl ih
  | dict no p ns d l hl hk _ ih =>
    obtain ⟨o, es, ep, ho, hc, r⟩ := d
    have q := k _ o ho (hc.1 ▸ type_ne) no
    exact .dict q.1 p ns ⟨o, es, ep, q.2, hc, r⟩ l hl hk ih
  | rng no e => exact .rng (k _ _ e type_ne no).1 (k _ _ e type_ne no).2
theorem VRs.mono (k : Keep O O' h h') {vs : List V} {xs : List Value} (r : VRs G O h vs xs) : VRs G O' h' vs xs := r.imp fun _ _ => VR.mono k
theorem RowsA.mono {xss : List (List Int)} (ka : KeepA a h h') (ki : ∀ b ws n, IsL h a ws n → Value.ref b ∈ ws.toList → KeepA b h h') (r : RowsA h a xss) : RowsA h' a xss := by
  induction r with | mk e l rel nd =>
  refine ⟨ka _ e type_ne, l, .of rel.length fun i x y ex ey => ?_, nd⟩
  have q := rel.at ex ey
  induction q with | @mk b ws n e' l' rel' => exact ⟨ki b _ _ e (List.mem_of_getElem? ey) _ e' type_ne, l', rel'⟩
theorem LstA.mono (k : Keep O O' h h') (ka : KeepA a h h') {vs : List V} (r : LstA (VR G O h) h a vs) : LstA (VR G O' h') h' a vs := by
  induction r with | mk e l rel => exact ⟨ka _ e type_ne, l, VRs.mono k rel⟩
theorem TupA.mono (k : Keep O O' h h') (ka : KeepA a h h') {vs : List V} (r : TupA (VR G O h) h a vs) : TupA (VR G O' h') h' a vs := by
  induction r with | mk e l rel => exact ⟨ka _ e type_ne, l, VRs.mono k rel⟩
theorem kv_mono (k : Keep O O' h h') {p : K × V} {q : K × Value} (r : Kv (VR G O h) p q) : Kv (VR G O' h') p q := by
  induction r with | mk r => exact .mk (r.mono k)
theorem DctA.mono (k : Keep O O' h h') (ka : KeepA a h h') {g : Nat} {es : List (K × V)} (r : DctA (VR G O h) h a G g es) : DctA (VR G O' h') h' a G g es := by
  induction r with
  | mk p ns of l rel =>
    obtain ⟨o, es, ep, ho, hc, r⟩ := of
    exact ⟨p, ns, ⟨o, es, ep, ka o ho (hc.1 ▸ type_ne), hc, r⟩, l, rel.imp fun _ _ => kv_mono k⟩
end
inductive Entry (h : Heap) (P : Addr) (pos : Pos) (v : Value) : Prop
  | mk {ps : Array Value} (e : h.get? P = some { cls := .none, data := .fields ps }) (hv : codeAmong pos ps.toList = some v)
inductive CodeV (h : Heap) : Value → Prop
  | mk {d : Addr} {o : Obj} {q : Str} (e : h.get? d = some o) (c : o.cls = .type "code") (r : h.CodeRec (.ref d) q) : CodeV h (.ref d)
inductive TabOk (h : Heap) (c P : Addr) : Prop
  | mk {ps : Array Value} (e : h.IsCode c P ps) (t : h.TableAt c P ps) (k : ∀ pos v, codeAmong pos ps.toList = some v → CodeV h v)
structure Gok (G : Gd) : Prop where
  tab0 : ∀ c a, G.Own c a → ∃ ps, G.h₀.TableAt c a ps
  nt : ¬ G.Tab mainGlobals ∧ ¬ G.Tab builtinsNs ∧ ¬ G.Tab cStatics
  lo : (∃ o, G.h₀.get? mainGlobals = some o) ∧ (∃ o, G.h₀.get? builtinsNs = some o) ∧ ∃ o, G.h₀.get? cStatics = some o
structure Inv (G : Gd) (s : Shared) : Prop where
  gk : Gok G
  old : OldK G.h₀ s.heap
  glob : s.heap.Ns mainGlobals G.mg
  bts : s.heap.Ns builtinsNs G.mb
  nolim : s.heap.NoLimit
  bare : AllBare s.gens
  os : s.os = G.os₀
  tab : ∀ c a, G.Own c a → TabOk s.heap c a
  fresh : ∀ a, s.heap.get? a = none → G.P G.gen a
structure St (G : Gd) (s s' : Shared) : Prop where
  inv : Inv G s'
  kp : ∀ b o, ¬ G.Tab b → s.heap.get? b = some o → s'.heap.get? b = some o
  tb : ∀ P pos v, G.Tab P → Entry s.heap P pos v → Entry s'.heap P pos v
section
variable {G : Gd} {s s' s'' : Shared}
theorem St.trans (x : St G s s') (y : St G s' s'') : St G s s'' := ⟨y.inv, fun b o t e => y.kp b o t (x.kp b o t e), fun P pos v hP e => y.tb P pos v hP (x.tb P pos v hP e)⟩
theorem St.refl (x : Inv G s) : St G s s := ⟨x, fun _ _ _ e => e, fun _ _ _ _ e => e⟩
theorem St.toks (x : Inv G s) (n : Nat) : St G s { s with toks := n } := ⟨⟨x.gk, x.old, x.glob, x.bts, x.nolim, x.bare, x.os, x.tab, x.fresh⟩, fun _ _ _ e => e, fun _ _ _ _ e => e⟩
noncomputable def Rec (o : Obj) : Prop := o.cls = .type "code" ∧ ∃ vs, o.data = .fields vs
theorem CodeV.keeps {h h' : Heap} (k : ∀ b o, h.get? b = some o → Rec o → h'.get? b = some o) {v : Value} (x : CodeV h v) : CodeV h' v := by
  induction x with
  | mk e c r =>
    obtain ⟨d', o', vs, t, e1, e2, e3, e4⟩ := r
    have e5 := Value.ref.inj e1
    subst e5
    have e6 := Option.some.inj (e.symm.trans e2)
    subst e6
    exact ⟨k _ _ e ⟨c, vs, e3⟩, c, _, _, vs, t, rfl, k _ _ e ⟨c, vs, e3⟩, e3, e4⟩
theorem none_back {h h' : Heap} {a : Addr} (k : ∀ o, h.get? a = some o → ∃ o', h'.get? a = some o') (e : h'.get? a = none) : h.get? a = none := by
  cases q : h.get? a with
  | none => rfl
  | some o => obtain ⟨o', e'⟩ := k o q; exact nos (e.symm.trans e')
theorem St.keeps (x : Inv G s) {h' : Heap} (k : ∀ b o, s.heap.get? b = some o → h'.get? b = some o) (tk : Nat) : St G s { s with heap := h', toks := tk } where
  inv := {
    gk := x.gk
    old := x.old.step_keeps k
    glob := x.glob.keeps k
    bts := x.bts.keeps k
    nolim := by obtain ⟨mc, hn, e⟩ := x.nolim; exact ⟨mc, hn.keeps k, e⟩
    bare := x.bare
    os := x.os
    tab := fun c a ha => by
      cases x.tab c a ha with | mk e t kk => exact ⟨e.keeps k, t.keeps k, fun pos v hv => (kk pos v hv).keeps fun b o e _ => k b o e⟩
    fresh := fun a e => x.fresh a (none_back (fun o e => ⟨o, k a o e⟩) e) }
  kp := fun b o _ e => k b o e
  tb := fun P pos v _ en => by induction en with | mk e hv => exact ⟨k _ _ e, hv⟩
theorem St.push (x : Inv G s) (o : Obj) (tk : Nat) : St G s { s with heap := s.heap.push o, toks := tk } := St.keeps x (fun _ _ e => Heap.get?_push_of_some _ e) tk
theorem Inv.new (x : Inv G s) {a : Addr} (h : s.heap.get? a = none) : G.h₀.get? a = none := by
  cases e : G.h₀.get? a with
  | none => rfl
  | some o => obtain ⟨o', e'⟩ := x.old.there a o e; exact nos (h.symm.trans e')
theorem Inv.tabObj (x : Inv G s) {a : Addr} (ha : G.Tab a) : ∃ ps, s.heap.get? a = some { cls := .none, data := .fields ps } := by
  obtain ⟨c, ha⟩ := ha
  cases x.tab c a ha with | mk e t k => exact ⟨_, t.2⟩
theorem Inv.notTab (x : Inv G s) {a : Addr} {o : Obj} (e : s.heap.get? a = some o) (hc : o.cls ≠ .none) : ¬ G.Tab a := fun ha => by
  obtain ⟨ps, e'⟩ := x.tabObj ha
  exact hc (congrArg Obj.cls (Option.some.inj (e.symm.trans e')))
theorem Inv.freshNotTab (x : Inv G s) {a : Addr} (e : s.heap.get? a = none) : ¬ G.Tab a := fun ha => by
  obtain ⟨ps, e'⟩ := x.tabObj ha
  exact nos (e.symm.trans e')
theorem get_size (h : Heap) : h.get? h.objs.size = none := by
  cases e : h.get? h.objs.size with
  | none => rfl
  | some o => exact absurd (Heap.lt_size e) (Nat.lt_irrefl _)
theorem St.vk {O : Addr → Prop} (i : Inv G s) (k : St G s s') : Keep O O s.heap s'.heap := fun a o e c no => ⟨no, k.kp a o (i.notTab e c) e⟩
theorem VR.step {O : Addr → Prop} (i : Inv G s) (k : St G s s') {v : V} {x : Value} (r : VR G O s.heap v x) : VR G O s'.heap v x := r.mono (k.vk i)
theorem VRs.step {O : Addr → Prop} (i : Inv G s) (k : St G s s') {v : List V} {x : List Value} (r : VRs G O s.heap v x) : VRs G O s'.heap v x := VRs.mono (k.vk i) r
theorem LstA.step {O : Addr → Prop} (i : Inv G s) (k : St G s s') {a : Addr} {v : List V} (r : LstA (VR G O s.heap) s.heap a v) : LstA (VR G O s'.heap) s'.heap a v := r.mono (k.vk i) fun o e c => k.kp a o (i.notTab e c) e
theorem TupA.step {O : Addr → Prop} (i : Inv G s) (k : St G s s') {a : Addr} {v : List V} (r : TupA (VR G O s.heap) s.heap a v) : TupA (VR G O s'.heap) s'.heap a v := r.mono (k.vk i) fun o e c => k.kp a o (i.notTab e c) e
theorem DctA.step {O : Addr → Prop} (i : Inv G s) (k : St G s s') {a : Addr} {g : Nat} {v : List (K × V)} (r : DctA (VR G O s.heap) s.heap a G g v) : DctA (VR G O s'.heap) s'.heap a G g v := r.mono (k.vk i) fun o e c => k.kp a o (i.notTab e c) e
theorem RowsA.step (i : Inv G s) (k : St G s s') {a : Addr} {xss : List (List Int)} (r : RowsA s.heap a xss) : RowsA s'.heap a xss := r.mono (fun o e c => k.kp a o (i.notTab e c) e) fun b _ _ _ _ o e c => k.kp b o (i.notTab e c) e
theorem VW.step {O : Addr → Prop} (i : Inv G s) (k : St G s s') {v : V} {x : Value} (r : VW G O s.heap v x) : VW G O s'.heap v x := by
  induction r with
  | none => exact .none
  | bool b => exact .bool b
  | int j t => exact .int j t
  | str x t => exact .str x t
  | tup r => exact .tup (r.step i k)
  | list r => exact .list (r.step i k)
  | dict r => exact .dict (r.step i k)
  | rng e => exact .rng (k.kp _ _ (i.notTab e nofun) e)
  | rows r => exact .rows (r.step i k)
theorem old_but {h₀ h h' : Heap} (K : OldK h₀ h) (k : ∀ b o, (∃ o, h₀.get? b = some o) → h.get? b = some o → h'.get? b = some o) : OldK h₀ h' := by
  refine ⟨fun b o e => ?_, fun b o e => ?_⟩
  · rcases K.old b o e with x | ⟨t, hc, vs, more, hv, x⟩ | ⟨rfl, hc, ⟨o', es, n, ho', r⟩, z⟩
    · exact .inl (k b _ ⟨o, e⟩ x)
    · exact .inr (.inl ⟨t, hc, vs, more, hv, k b _ ⟨o, e⟩ x⟩)
    · have q := k _ _ ⟨o, e⟩ ho'
      exact .inr (.inr ⟨rfl, hc, ⟨o', es, n, q, r⟩, fun key => by rw [OldK.staticOf_congr (q.trans ho'.symm) key]; exact z key⟩)
  · obtain ⟨o', ho'⟩ := K.there b o e
    exact ⟨o', k b _ ⟨o, e⟩ ho'⟩
theorem ns_kp {h h' : Heap} {a : Addr} {m : Str → Option Value} (x : h.Ns a m) (k : ∀ o, h.get? a = some o → h'.get? a = some o) : h'.Ns a m := by
  obtain ⟨o, es, ep, ho, r⟩ := x
  exact ⟨o, es, ep, k o ho, r⟩
theorem Inv.but (x : Inv G s) {W : Addr → Prop} {h' : Heap} (h0 : ∀ b, W b → G.h₀.get? b = none) (nt : ∀ b, W b → ¬ G.Tab b) (hc : ∀ b, W b → ∀ o, s.heap.get? b = some o → ¬ Rec o)
    (k : ∀ b o, ¬ W b → s.heap.get? b = some o → h'.get? b = some o) (hf : ∀ b, W b → h'.get? b = none → G.P G.gen b) (tk : Nat) : Inv G { s with heap := h', toks := tk } := by
  have old : ∀ b, (∃ o, G.h₀.get? b = some o) → ¬ W b := fun b h hb => by obtain ⟨o, e⟩ := h; exact nos ((h0 b hb).symm.trans e)
  exact {
    gk := x.gk
    old := old_but x.old fun b o h e => k b o (old b h) e
    glob := ns_kp x.glob fun o => k _ o (old _ x.gk.lo.1)
    bts := ns_kp x.bts fun o => k _ o (old _ x.gk.lo.2.1)
    nolim := by obtain ⟨mc, hn, e⟩ := x.nolim; exact ⟨mc, ns_kp hn fun o => k _ o (old _ x.gk.lo.2.2), e⟩
    bare := x.bare
    os := x.os
    fresh := fun a e => (Classical.em (W a)).elim (fun w => hf a w e) fun n => x.fresh a (none_back (fun o q => ⟨o, k a o n q⟩) e)
    tab := fun c P hb => by
      cases x.tab c P hb with
      | mk e t kk =>
        obtain ⟨ps0, ⟨o0, vs0, g0, _⟩, t0⟩ := x.gk.tab0 c P hb
        have hcw := old c ⟨_, g0⟩
        have hPw := old P ⟨_, t0⟩
        refine ⟨?_, ?_, fun pos v hv => (kk pos v hv).keeps fun b o e c => k b o (fun hw => hc b hw o e c) e⟩
        · obtain ⟨o, vs, file, tf, flags, tg, inF, text, tt, op, a, r1, r2, r3, r4, r5, r6, b, r⟩ := e
          exact ⟨o, vs, file, tf, flags, tg, inF, text, tt, op, k _ _ hcw a, r1, r2, r3, r4, r5, r6, k _ _ hPw b, r⟩
        · obtain ⟨⟨o, vs, a, r⟩, t⟩ := t
          exact ⟨⟨o, vs, k _ _ hcw a, r⟩, k _ _ hPw t⟩ }
end
structure Room (A : Around) (k : Nat) : Prop where
  depth : A.depth + k < recursionLimit
  units : A.units + 10 * k + 1000 < cLine
  handled : A.handled = none
theorem sig_lookup (sc : Scope) (x : Str) : (sig sc).lookup x = (sc.names.lookup x).map isVarKind := by
  unfold sig
  induction sc.names with
  | nil => rfl
  | cons p r ih =>
    rw [List.map_cons, List.lookup_cons, List.lookup_cons]
    cases x == p.1 with
    | true => rfl
    | false => exact ih
theorem notVar_kind {env : Env} {x : Str} (h : ((sig env.scope).lookup x == some false) = true) : env.kindOf x = some .globalImplicit ∨ env.kindOf x = some .globalExplicit := by
  rw [sig_lookup] at h
  unfold Env.kindOf
  cases e : env.scope.names.lookup x with
  | none => rw [e] at h; exact Bool.noConfusion h
  | some k => rw [e] at h; revert h; cases k <;> first | exact fun h => Bool.noConfusion h | exact fun _ => .inl rfl | exact fun _ => .inr rfl
inductive VarIs (G : Gd) (h : Heap) (env : Env) (x : Str) (y : Value) : Prop
  | loc {m : Str → Option Value} (hk : env.kindOf x = some .local) (hn : h.Ns env.locals m) (e : m x = some y)
  | cel {c : Addr} (hk : env.kindOf x = some .cell ∨ env.kindOf x = some .free) (hc : env.cells.lookup x = some c) (nt : ¬ G.Tab c) (hv : h.IsCell c (some y))
inductive CelA (G : Gd) (h : Heap) (env : Env) (x : Str) : Prop
  | mk {c : Addr} {v : Option Value} (hc : env.cells.lookup x = some c) (nt : ¬ G.Tab c) (hv : h.IsCell c v)
structure CloIs (G : Gd) (h : Heap) (env : Env) (f : Nat) (a : Addr) (o : Obj) (fd : FuncData) (N : Nest) : Prop where
  get : h.get? a = some o
  cls : o.cls ≠ .none
  data : o.data = .func fd
  nest : G.nest f = some N
  params : fd.params = N.params
  body : fd.body = .stmts N.body
  scope : fd.scope = N.scope
  globals : fd.globals = mainGlobals
  builtins : fd.builtins = builtinsNs
  defaults : fd.defaults = .none
  code : ∃ c P pos, G.Own c P ∧ Entry h P pos fd.code
  free : ∀ z ∈ freeIn N.scope, (env.kindOf z = some .cell ∨ env.kindOf z = some .free) ∧ fd.closure.lookup z = env.cells.lookup z
inductive CloA (G : Gd) (O : Addr → Prop) (h : Heap) (env : Env) (f : Nat) : Value → Prop
  | mk {a : Addr} {o : Obj} {fd : FuncData} {N : Nest} (no : ¬ O a) (c : CloIs G h env f a o fd N) : CloA G O h env f (.ref a)
inductive SR (G : Gd) (O : Addr → Prop) (h : Heap) (env : Env) : Slot → Value → Prop
  | v {x : V} {y : Value} (r : VR G O h x y) : SR G O h env (.v x) y
  | ol {xs : List V} {a : Addr} (r : LstA (VR G O h) h a xs) : SR G O h env (.ol xs) (.ref a)
  | od {g : Nat} {es : List (K × V)} {a : Addr} (r : DctA (VR G O h) h a G g es) : SR G O h env (.od g es) (.ref a)
  | clo {f : Nat} {y : Value} (r : CloA G O h env f y) : SR G O h env (.clo f) y
  | oll {xss : List (List Int)} {a : Addr} (r : RowsA h a xss) : SR G O h env (.oll xss) (.ref a)
inductive Has (h : Heap) : Slot → Value → Addr → Prop
  | top {sl : Slot} {a : Addr} (o : sl.isOwn = true) : Has h sl (.ref a) a
  | inn {xss : List (List Int)} {b a : Addr} {ws : Array Value} {n : Nat} (e : IsL h b ws n) (m : Value.ref a ∈ ws.toList) : Has h (.oll xss) (.ref b) a
structure EnvOk (G : Gd) (T : Tx) (env : Env) : Prop where
  kind : env.scope.kind = .function
  sg : sig env.scope = T.sg
  glob : env.globals = mainGlobals
  bts : env.builtins = builtinsNs
  cf : ∀ x, x ∈ T.cf → env.kindOf x = some .cell ∨ env.kindOf x = some .free
  nx : ∀ x, env.kindOf x ≠ some .globalExplicit
  code : T.cd = true → ∃ c P, env.code = .ref c ∧ G.Own c P
  bnd : ∀ x, x ∈ T.ow → env.kindOf x = some .local ∨ env.kindOf x = some .cell
noncomputable def OX (G : Gd) (O : Addr → Prop) (h : Heap) : Prop := ∀ a, O a → ¬ G.Tab a ∧ ∃ o, h.get? a = some o
structure ER (G : Gd) (O : Addr → Prop) (h : Heap) (env : Env) (m : Fr) : Prop where
  loc : ¬ G.Tab env.locals
  ox : OX G O h
  cel : ∀ x, env.kindOf x = some .cell ∨ env.kindOf x = some .free → CelA G h env x
  var : ∀ x sl, isVar (sig env.scope) x = true → m.at (idxOf (sig env.scope) x) = some sl → ∃ y, VarIs G h env x y ∧ SR G O h env sl y
noncomputable def NE (m : Fr) (l : List Nat) : Prop := ∀ i ∈ l, ∀ sl, m.at i = some sl → sl.isOwn = false
theorem NE.l {m : Fr} {a b : List Nat} (h : NE m (a ++ b)) : NE m a := fun i hi => h i (List.mem_append_left _ hi)
theorem NE.r {m : Fr} {a b : List Nat} (h : NE m (a ++ b)) : NE m b := fun i hi => h i (List.mem_append_right _ hi)
section
variable {G : Gd} {O : Addr → Prop} {s s' : Shared} {env : Env}
theorem OX.step (k : St G s s') (r : OX G O s.heap) : OX G O s'.heap := fun a ha => by
  obtain ⟨t, o, e⟩ := r a ha
  exact ⟨t, o, k.kp _ _ t e⟩
theorem OX.fresh {h : Heap} (r : OX G O h) : ¬ O h.objs.size := fun ha => by
  obtain ⟨_, o, e⟩ := r _ ha
  exact nos ((get_size h).symm.trans e)
theorem OX.new {h : Heap} (r : OX G O h) {a : Addr} (e : h.get? a = none) : ¬ O a := fun ha => by
  obtain ⟨_, o, e'⟩ := r _ ha
  exact nos (e.symm.trans e')
theorem cell_kp {h h' : Heap} {c : Addr} {v : Option Value} (x : h.IsCell c v) (k : ∀ o, h.get? c = some o → h'.get? c = some o) : h'.IsCell c v := by
  obtain ⟨o, e, d⟩ := x
  exact ⟨o, k o e, d⟩
theorem VarIs.kp {h h' : Heap} {x : Str} {y : Value} (v : VarIs G h env x y) (kl : ∀ o, h.get? env.locals = some o → h'.get? env.locals = some o) (kc : ∀ c o, env.cells.lookup x = some c → ¬ G.Tab c → h.get? c = some o → h'.get? c = some o) : VarIs G h' env x y := by
  induction v with
  | loc hk hn e => exact .loc hk (ns_kp hn kl) e
  | cel hk hc nt hv => exact .cel hk hc nt (cell_kp hv fun o => kc _ o hc nt)
theorem VarIs.step (hl : ¬ G.Tab env.locals) (k : St G s s') {x : Str} {y : Value} (v : VarIs G s.heap env x y) : VarIs G s'.heap env x y :=
  v.kp (fun o => k.kp _ o hl) fun c o _ nt => k.kp c o nt
theorem CelA.step (k : St G s s') {x : Str} (v : CelA G s.heap env x) : CelA G s'.heap env x := by
  induction v with | mk hc nt hv => exact ⟨hc, nt, cell_kp hv fun o => k.kp _ o nt⟩
theorem CloIs.kp {h h' : Heap} {f : Nat} {a : Addr} {o : Obj} {fd : FuncData} {N : Nest} (r : CloIs G h env f a o fd N) (kp : h'.get? a = some o) (tb : ∀ P pos v, G.Tab P → Entry h P pos v → Entry h' P pos v) : CloIs G h' env f a o fd N := by
  obtain ⟨c, P, pos, w, q⟩ := r.code
  exact ⟨kp, r.cls, r.data, r.nest, r.params, r.body, r.scope, r.globals, r.builtins, r.defaults, ⟨c, P, pos, w, tb P pos _ ⟨c, w⟩ q⟩, r.free⟩
theorem SR.map {O' : Addr → Prop} {h h' : Heap} {sl : Slot} {y : Value} (k : Keep O O' h h') (ky : ∀ a o, Has h sl y a → h.get? a = some o → o.cls ≠ .none → h'.get? a = some o) (tb : ∀ P pos v, G.Tab P → Entry h P pos v → Entry h' P pos v) (r : SR G O h env sl y) : SR G O' h' env sl y := by
  induction r with
  | v r => exact .v (r.mono k)
  | ol r => exact .ol (r.mono k fun o => ky _ o (.top rfl))
  | od r => exact .od (r.mono k fun o => ky _ o (.top rfl))
  | oll r => exact .oll (r.mono (fun o => ky _ o (.top rfl)) fun b _ _ e m o => ky _ o (.inn e m))
  | clo r => induction r with | mk no c => exact .clo (.mk (k _ _ c.get c.cls no).1 (c.kp (k _ _ c.get c.cls no).2 tb))
theorem SR.step (i : Inv G s) (k : St G s s') {sl : Slot} {y : Value} (r : SR G O s.heap env sl y) : SR G O s'.heap env sl y := r.map (k.vk i) (fun a o _ e hc => k.kp a o (i.notTab e hc) e) k.tb
theorem ER.step {m : Fr} (i : Inv G s) (k : St G s s') (r : ER G O s.heap env m) : ER G O s'.heap env m :=
  ⟨r.loc, r.ox.step k, fun x hx => (r.cel x hx).step k, fun x sl hx hm => by obtain ⟨y, v, q⟩ := r.var x sl hx hm; exact ⟨y, v.step r.loc k, q.step i k⟩⟩
theorem SR.view {h : Heap} {sl : Slot} {v : V} {y : Value} (r : SR G O h env sl y) : sl.view = some v → VW G O h v y := by
  induction r with
  | v r => exact fun hv => Option.some.inj hv ▸ r.w
  | ol r => exact fun hv => Option.some.inj hv ▸ .list r
  | od r => exact fun hv => Option.some.inj hv ▸ .dict r
  | oll r => exact fun hv => Option.some.inj hv ▸ .rows r
  | clo r => exact fun hv => nos hv
theorem SR.fro {h : Heap} {sl : Slot} {v : V} {y : Value} (r : SR G O h env sl y) : sl.view = some v → sl.isOwn = false → VR G O h v y := by
  induction r with
  | v r => exact fun hv _ => Option.some.inj hv ▸ r
  | ol r => exact fun _ hn => Bool.noConfusion hn
  | od r => exact fun _ hn => Bool.noConfusion hn
  | oll r => exact fun _ hn => Bool.noConfusion hn
  | clo r => exact fun hv => nos hv
end
theorem old_func {h₀ h : Heap} (K : OldK h₀ h) {b : Addr} {o : Obj} {fd : FuncData} (e : h₀.get? b = some o) (hd : o.data = .func fd) (hs : b ≠ cStatics) : h.get? b = some o := by
  rcases K.old b o e with q | ⟨_, _, vs, _, hv, _⟩ | ⟨q, _⟩
  · exact q
  · exact Data.noConfusion (hd.symm.trans hv)
  · exact absurd q hs
structure FnAt (G : Gd) (name : Str) (fa : Addr) : Prop where
  glob : G.mg name = some (.ref fa)
  obj : ∃ o fd, G.h₀.get? fa = some o ∧ fa ≠ cStatics ∧ o.data = .func fd
noncomputable def CallOk (G : Gd) (c : Cx) (k : Nat) (gl : List Str) : Prop :=
  ∀ f vs v name, c.call f vs = some v → gl[f]? = some name → ∃ fa, FnAt G name fa ∧
    ∀ {A s O xs} {R : Result → Shared → Prop}, Room A k → Inv G s → OX G O s.heap → VRs G O s.heap vs xs → (∀ y s', St G s s' → VR G O s'.heap v y → R (.ok (.ret y)) s') → codeAny (model G.prog G.w) A (.call (.ref fa) ⟨xs, []⟩) R s
noncomputable def biNames : List (Str × Value) := [("len", .builtin "len"), ("sum", .builtin "sum"), ("list", .type "list"), ("tuple", .type "tuple"), ("isinstance", .builtin "isinstance"), ("divmod", .builtin "divmod"), ("range", .type "range"), ("zip", .type "zip"), ("reversed", .type "reversed"), ("max", .builtin "max"), ("enumerate", .type "enumerate")]
structure Bs (G : Gd) (c : Cx) (k : Nat) (T : Tx) : Prop where
  gen : c.gen = G.gen
  call : CallOk G c k T.gl
  consts : ∀ x i, T.gc.lookup x = some i → ∃ t, G.mg x = some (.int i t)
  bv : ∀ p ∈ biNames, G.mg p.1 = none ∧ G.mb p.1 = some p.2
structure At (G : Gd) (k : Nat) (T : Tx) (A : Around) (env : Env) (m : Fr) (O : Addr → Prop) (s : Shared) : Prop where
  room : Room A k
  inv : Inv G s
  eo : EnvOk G T env
  er : ER G O s.heap env m
theorem At.step {G : Gd} {k : Nat} {T : Tx} {A : Around} {env : Env} {m : Fr} {O : Addr → Prop} {s s' : Shared} (a : At G k T A env m O s) (st : St G s s') : At G k T A env m O s' := ⟨a.room, st.inv, a.eo, a.er.step a.inv st⟩
noncomputable def KV (G : Gd) (O : Addr → Prop) (s : Shared) (v : V) (Q : Value → Shared → Prop) : Prop := ∀ y s', St G s s' → VR G O s'.heap v y → Q y s'
section
variable (G : Gd) (c : Cx) (k : Nat) (T : Tx)
noncomputable def SE (e : Expr) (t : E) : Prop :=
  ∀ {A : Around} {env : Env} {m : Fr} {s : Shared} {O : Addr → Prop} {v : V} {Q : Value → Shared → Prop} {X : Value → Shared → Prop}, At G k T A env m O s → NE m (esc t) → ev c m t = some v → KV G O s v Q → wpAny (model G.prog G.w) A (eval e env) Q X s
noncomputable def SB (e : Expr) (t : E) : Prop :=
  ∀ {A : Around} {env : Env} {m : Fr} {s : Shared} {O : Addr → Prop} {v : V} {b : Bool} {Q : Bool → Shared → Prop} {X : Value → Shared → Prop}, At G k T A env m O s → NE m (esc t) → ev c m t = some v → truth v = some b →
    (∀ s', St G s s' → Q b s') → wpAny (model G.prog G.w) A (isTrue e env (eval e env)) Q X s
noncomputable def Ns (e : Expr) : Prop := ∀ pos es env, backTo pos (starEach (e :: es) env) = (false, eval e env) :: backTo pos (starEach es env)
inductive SEs : List Expr → Es → Prop
  | nil : SEs [] .nil
  | cons {e : Expr} {es : List Expr} {t : E} {ts : Es} (n : Ns e) (h : SE G c k T e t) (r : SEs es ts) : SEs (e :: es) (.cons t ts)
end
section
variable {G : Gd} {c : Cx} {k : Nat} {T : Tx} {X : Value → Shared → Prop}
theorem ev_cst {m : Fr} {a v : V} (h : ev c m (.cst a) = some v) : a = v := Option.some.inj h
theorem se_int (i : Int) (n : Nat) (p : Pos) : SE G c k T (.Constant (.int i) n p) (.cst (.int i)) := fun a _ h hQ => wpAny_Constant_int (hQ _ _ (St.toks a.inv _) (ev_cst h ▸ .int _ _))
theorem se_str (x : Str) (n : Nat) (p : Pos) : SE G c k T (.Constant (.str x) n p) (.cst (.str x)) := fun a _ h hQ => wpAny_Constant_str (hQ _ _ (St.toks a.inv _) (ev_cst h ▸ .str _ _))
theorem se_bool (b : Bool) (n : Nat) (p : Pos) : SE G c k T (.Constant (.bool b) n p) (.cst (.bool b)) := fun a _ h hQ => wpAny_Constant_bool (hQ _ _ (St.refl a.inv) (ev_cst h ▸ .bool _))
theorem load_var {A : Around} {env : Env} {s : Shared} {x : Str} {y : Value} (hk : env.scope.kind = .function) (v : VarIs G s.heap env x y) (hcd : (x == ("__classdict__" : Str)) = false)
    {Q : Value → Shared → Prop} (h : Q y s) : wpAny (model G.prog G.w) A (loadName env x) Q X s := by
  induction v with
  | loc e hn hx => exact wpAny_loadName_local hk e hn hx h
  | cel hq hc nt hv =>
    rcases hq with e | e
    · exact wpAny_loadName_cell hk e hc hv h
    · exact wpAny_loadName_free hk e hc hv h hcd
structure NmOk (T : Tx) (x : Str) (i : Nat) : Prop where
  v : isVar T.sg x = true
  i : idxOf T.sg x = i
  d : (x == ("__debug__" : Str)) = false
  cd : (x == ("__classdict__" : Str)) = false
theorem name_any {A : Around} {env : Env} {m : Fr} {O : Addr → Prop} {s : Shared} (a : At G k T A env m O s) {x : Str} {i : Nat} (n : NmOk T x i) {p : Pos} {sl : Slot} (hm : m.at i = some sl) {Q : Value → Shared → Prop}
    (h : ∀ y, VarIs G s.heap env x y → SR G O s.heap env sl y → Q y s) : wpAny (model G.prog G.w) A (eval (.Name x p) env) Q X s := by
  obtain ⟨y, v, r⟩ := a.er.var x sl (a.eo.sg ▸ n.v) (a.eo.sg ▸ n.i ▸ hm)
  exact wpAny_Name (load_var a.eo.kind v n.cd (h y v r)) n.d
theorem se_var {x : Str} {i : Nat} (p : Pos) (n : NmOk T x i) : SE G c k T (.Name x p) (.var i) := fun a ne hv hQ =>
  obind hv fun sl hm hv => name_any a n hm fun y _ r => hQ y _ (St.refl a.inv) (r.fro hv (ne i (List.mem_singleton.mpr rfl) sl hm))
structure GnOk (T : Tx) (x : Str) : Prop where
  g : (T.sg.lookup x == some false) = true
  d : (x == ("__debug__" : Str)) = false
theorem name_global {A : Around} {env : Env} {m : Fr} {O : Addr → Prop} {s : Shared} (a : At G k T A env m O s) {x : Str} (n : GnOk T x) {p : Pos} {Q : Value → Shared → Prop} (h : wpAny (model G.prog G.w) A (loadGlobal env x) Q X s) : wpAny (model G.prog G.w) A (eval (.Name x p) env) Q X s := by
  rcases notVar_kind (env := env) (x := x) (a.eo.sg.symm ▸ n.g) with q | q
  · exact Calls.Name_function_global a.eo.kind q h n.d
  · exact absurd q (a.eo.nx x)
theorem se_gc {x : Str} {i : Int} (p : Pos) (bs : Bs G c k T) (n : GnOk T x) (hc : T.gc.lookup x = some i) : SE G c k T (.Name x p) (.cst (.int i)) := fun a _ hv hQ => by
  obtain ⟨t, ht⟩ := bs.consts x i hc
  exact name_global a n (Calls.loadGlobal_global (mg := G.mg) (a.eo.glob ▸ a.inv.glob) ht (hQ _ _ (.refl a.inv) (ev_cst hv ▸ .int _ _)))
theorem lookup_mem {β : Type} {x : Str} {b : β} {l : List (Str × β)} (h : l.lookup x = some b) : (x, b) ∈ l := by
  induction l with
  | nil => exact nos h
  | cons p r ih =>
    rw [List.lookup_cons] at h
    cases e : x == p.1 with
    | true => rw [e] at h; exact List.mem_cons.mpr (.inl (Prod.ext (eq_of_beq e) (Option.some.inj h).symm))
    | false => rw [e] at h; exact List.mem_cons_of_mem _ (ih h)
structure BN (T : Tx) (x : Str) (b : Value) : Prop extends GnOk T x where
  v : biNames.lookup x = some b
theorem name_bi {A : Around} {env : Env} {m : Fr} {O : Addr → Prop} {s : Shared} (bs : Bs G c k T) (a : At G k T A env m O s) {x : Str} {b : Value} (n : BN T x b) {p : Pos} {Q : Value → Shared → Prop} (h : Q b s) : wpAny (model G.prog G.w) A (eval (.Name x p) env) Q X s :=
  name_global a n.toGnOk (Calls.loadGlobal_builtin (mg := G.mg) (mb := G.mb) (a.eo.glob ▸ a.inv.glob) (bs.bv _ (lookup_mem n.v)).1 (a.eo.bts ▸ a.inv.bts) (bs.bv _ (lookup_mem n.v)).2 h)
end
end Mine
end
section
set_option maxRecDepth 100000
set_option genSizeOf false
set_option genInjectivity false
namespace Mine
open PySem PyProof.Rows SeqAt
theorem oif {α : Type} {c : Prop} [Decidable c] {a b : α} {C : α → Prop} (h : (if c then some a else none) = some b) (k : c → C a) : C b :=
  if q : c then Option.some.inj ((if_pos q).symm.trans h) ▸ k q else nos ((if_neg q).symm.trans h)
theorem oifn {α : Type} {c : Prop} [Decidable c] {a b : α} {C : α → Prop} (h : (if c then none else some a) = some b) (k : ¬ c → C a) : C b :=
  if q : c then nos ((if_pos q).symm.trans h) else Option.some.inj ((if_neg q).symm.trans h) ▸ k q
theorem big_le : big ≤ sizeLine := by decide
theorem big_eq : big = 8388608 := rfl
theorem bits_eq (a : Int) : bits a = Builtin.Int.intBits a := by
  unfold bits Builtin.Int.intBits
  by_cases h : a = 0 <;> simp [h]
theorem fits {ws : List Value} (h : ws.length ≤ big) : ws.toArray.size ≤ sizeLine := Nat.le_trans (Nat.le_of_eq (List.size_toArray ..)) (Nat.le_trans h big_le)
theorem fit63 {ws : List Value} (h : ws.length ≤ big) : (ws.toArray.size : Int) < 2 ^ 63 := by rw [List.size_toArray]; have := big_eq; lia
inductive Bv (b : Bool) : Value → Prop
  | mk : Bv b (.bool b)
section
variable (r : V → Value → Prop) (h : Heap) (xs : List V)
inductive Lv : Value → Prop
  | mk {a : Addr} (l : LstA r h a xs) : Lv (.ref a)
inductive Tv : Value → Prop
  | mk {a : Addr} (l : TupA r h a xs) : Tv (.ref a)
inductive Dv (G : Gd) (es : List (K × V)) : Value → Prop
  | mk {g : Nat} {a : Addr} (l : DctA r h a G g es) : Dv G es (.ref a)
end
section
variable {G : Gd} {O : Addr → Prop} {h : Heap} {v : V} {x : Value}
theorem VW.oi (r : VW G O h v x) {i : Int} : v.oi = some i → Iv i x := by
  induction r with
  | int j t => exact fun e => Option.some.inj e ▸ .mk t
  | _ => exact nos
theorem VW.ob (r : VW G O h v x) {b : Bool} : v.ob = some b → Bv b x := by
  induction r with
  | bool j => exact fun e => Option.some.inj e ▸ .mk
  | _ => exact nos
theorem VW.ol (r : VW G O h v x) {xs : List V} : v.ol = some xs → Lv (VR G O h) h xs x := by
  induction r with
  | list l => exact fun e => Option.some.inj e ▸ .mk l
  | _ => exact nos
theorem VW.ot (r : VW G O h v x) {xs : List V} : v.ot = some xs → Tv (VR G O h) h xs x := by
  induction r with
  | tup l => exact fun e => Option.some.inj e ▸ .mk l
  | _ => exact nos
theorem VW.od (r : VW G O h v x) {es : List (K × V)} : v.od = some es → Dv (VR G O h) h G es x := by
  induction r with
  | dict l => exact fun e => Option.some.inj e ▸ .mk l
  | _ => exact nos
inductive Cv (b : Str) : Value → Prop
  | mk (t : Tok) : Cv b (.str b t)
theorem VW.ostr (r : VW G O h v x) {b : Str} : v.ostr = some b → Cv b x := by
  induction r with
  | str j t => exact fun e => Option.some.inj e ▸ .mk t
  | _ => exact nos
theorem VW.key (r : VW G O h v x) {k : K} : keyV v = some k → (kk G.prog G.w).is k x = true := by
  induction r with
  | int j t => exact fun e => Option.some.inj e ▸ beq_self_eq_true j
  | str j t => exact fun e => Option.some.inj e ▸ beq_self_eq_true j
  | _ => exact nos
end
noncomputable def Above (h : Heap) (a : Addr) : Prop := ∀ b o, h.get? b = some o → b < a
theorem Above.none {h : Heap} {a : Addr} (x : Above h a) : h.get? a = none := by
  cases e : h.get? a with
  | none => rfl
  | some o => exact absurd (x a o e) (Nat.lt_irrefl _)
theorem above_size (h : Heap) : Above h h.objs.size := fun b o e => Heap.lt_size e
theorem St.above {G : Gd} {s s' : Shared} (st : St G s s') {a : Addr} (x : Above s'.heap a) : Above s.heap a := fun b o e => by
  by_cases q : G.Tab b
  · obtain ⟨ps, e'⟩ := st.inv.tabObj q; exact x b _ e'
  · exact x b o (st.kp b o q e)
inductive Own (G : Gd) (O : Addr → Prop) (s s' : Shared) : V → Value → Prop
  | v {v : V} {y : Value} (nl : slotOf .o v = .v v) (r : VR G O s'.heap v y) : Own G O s s' v y
  | l {xs : List V} {a : Addr} (f : Above s.heap a) (r : LstA (VR G (fun b => O b ∨ b = a) s'.heap) s'.heap a xs) : Own G O s s' (.list xs) (.ref a)
  | d {es : List (K × V)} {a : Addr} (f : s.heap.get? a = none) (r : DctA (VR G (fun b => O b ∨ b = a) s'.heap) s'.heap a G G.gen es) : Own G O s s' (.dict G.gen es) (.ref a)
noncomputable def KO (G : Gd) (O : Addr → Prop) (s : Shared) (v : V) (Q : Value → Shared → Prop) : Prop := ∀ y s', St G s s' → Own G O s s' v y → Q y s'
section
variable {G : Gd} {O : Addr → Prop} {A : Around} {s s' s'' : Shared} {X : Value → Shared → Prop} {Q : Value → Shared → Prop}
theorem St.fresh (i : Inv G s') (st : St G s s') {a : Addr} (h : s'.heap.get? a = none) : s.heap.get? a = none := by
  cases e : s.heap.get? a with
  | none => rfl
  | some o => cases h.symm.trans (st.kp _ _ (i.freshNotTab h) e)
theorem VR.less {O' : Addr → Prop} {h : Heap} {v : V} {x : Value} (hO : ∀ a, O a → O' a) (r : VR G O' h v x) : VR G O h v x := r.mono fun a o e _ no => ⟨fun q => no (hO a q), e⟩
theorem LstA.less {O' : Addr → Prop} {h : Heap} {a : Addr} {v : List V} (hO : ∀ a, O a → O' a) (r : LstA (VR G O' h) h a v) : LstA (VR G O h) h a v := r.mono (fun a o e _ no => ⟨fun q => no (hO a q), e⟩) fun _ e _ => e
theorem DctA.less {O' : Addr → Prop} {h : Heap} {a : Addr} {g : Nat} {v : List (K × V)} (hO : ∀ a, O a → O' a) (r : DctA (VR G O' h) h a G g v) : DctA (VR G O h) h a G g v := r.mono (fun a o e _ no => ⟨fun q => no (hO a q), e⟩) fun _ e _ => e
theorem Own.vr (ox : OX G O s.heap) {v : V} {y : Value} (r : Own G O s s' v y) : VR G O s'.heap v y := by
  induction r with
  | v _ r => exact r
  | l f r => exact .mkL (ox.new f.none) (r.less fun _ => .inl)
  | d f r => exact .mkD (ox.new f) (r.less fun _ => .inl)
theorem Own.back (i : Inv G s') (st : St G s s') {v : V} {y : Value} (r : Own G O s' s'' v y) : Own G O s s'' v y := by
  induction r with
  | v nl r => exact .v nl r
  | l f r => exact .l (st.above f) r
  | d f r => exact .d (st.fresh i f) r
theorem St.vkM {F : Addr → Prop} (i : Inv G s) (k : St G s s') (hF : ∀ a, F a → s.heap.get? a = none) : Keep O (fun a => O a ∨ F a) s.heap s'.heap := fun a o e c no =>
  ⟨fun h => h.elim no fun hf => nos ((hF a hf).symm.trans e), k.kp a o (i.notTab e c) e⟩
theorem one_fresh (h : Heap) : ∀ a, a = h.objs.size → h.get? a = none := fun a e => e ▸ get_size h
theorem newL (i : Inv G s) {vs : List V} {ws : List Value} (r : VRs G O s.heap vs ws) (hl : ws.length ≤ big) {tk : Nat} (hQ : KO G O s (.list vs) Q) :
    Q (.ref s.heap.objs.size) { s with heap := s.heap.push { cls := .type "list", data := .seq ws.toArray }, toks := tk } :=
  hQ _ _ (St.push i _ _) (.l (above_size _) ⟨Heap.get?_push_size _ rfl, hl, VRs.mono (St.vkM (s' := { s with heap := s.heap.push { cls := .type "list", data := .seq ws.toArray }, toks := tk }) i (St.push i _ _) (one_fresh _)) r⟩)
theorem newT (i : Inv G s) (ox : OX G O s.heap) {vs : List V} {ws : List Value} (r : VRs G O s.heap vs ws) (hl : ws.length ≤ big) {tk : Nat} (hQ : KV G O s (.tup vs) Q) :
    Q (.ref s.heap.objs.size) { s with heap := s.heap.push { cls := .type "tuple", data := .seq ws.toArray }, toks := tk } :=
  hQ _ _ (St.push i _ _) (.mkT ox.fresh ⟨Heap.get?_push_size _ rfl, hl, VRs.mono ((St.push i _ tk).vk i) r⟩)
theorem ok_newList (i : Inv G s) {vs : List V} {ws : List Value} (r : VRs G O s.heap vs ws) (hl : ws.length ≤ big) (hQ : KO G O s (.list vs) Q) : wpAny (model G.prog G.w) A (newList ws) Q X s :=
  wpAny_newObj_type (newL i r hl hQ) (fits hl)
theorem ok_newTuple (i : Inv G s) (ox : OX G O s.heap) {vs : List V} {ws : List Value} (r : VRs G O s.heap vs ws) (hl : ws.length ≤ big) (hQ : KV G O s (.tup vs) Q) : wpAny (model G.prog G.w) A (newTuple ws) Q X s :=
  wpAny_newObj_type (newT i ox r hl hQ) (fits hl)
theorem mulOk {a b : Int} (h : bits a + bits b ≤ big) : IntMulOk a b := by
  unfold IntMulOk Builtin.Int.intTooBig bitsLine
  rw [← bits_eq, ← bits_eq]
  unfold big at h
  simp only [Bool.and_eq_true, decide_eq_true_eq]
  intro q
  have := q.2
  lia
theorem powOk {a b : Int} (h : (bits a : Int) * b ≤ big) : (Builtin.Int.intBits a : Int) * b ≤ 2 ^ 27 := by
  rw [← bits_eq]; unfold big at h; lia
theorem shlOk {a b : Int} (h : (bits a : Int) + b ≤ big) : (Builtin.Int.intBits a : Int) + b ≤ 2 ^ 27 := by
  rw [← bits_eq]; unfold big at h; lia
theorem int_own {i : Int} {t : Tok} : Own G O s s' (.int i) (.int i t) := .v rfl (.int i t)
theorem ok_binI (i : Inv G s) {op : Operator} {a b : Int} {t u : Tok} {v : V} (h : binI op a b = some v) (hQ : KO G O s v Q) : wpAny (model G.prog G.w) A (binaryOp op (.int a t) (.int b u)) Q X s := by
  revert h
  have hQ' : ∀ j, v = .int j → ∀ n t, Q (.int j t) { s with toks := n } := fun j e n t => hQ _ _ (St.toks i n) (e ▸ int_own)
  have C : ∀ {p : Prop} [Decidable p] {j : Int} {R : Prop}, (if p then some (V.int j) else none) = some v → (p → (∀ n t, Q (.int j t) { s with toks := n }) → R) → R := fun h k => oif (C := fun v' => v' = v → _) h (fun q e => k q (hQ' _ e.symm)) rfl
  have D : ∀ {p : Prop} [Decidable p] {j : Int} {R : Prop}, (if p then none else some (V.int j)) = some v → (¬ p → (∀ n t, Q (.int j t) { s with toks := n }) → R) → R := fun h k => oifn (C := fun v' => v' = v → _) h (fun q e => k q (hQ' _ e.symm)) rfl
  induction op with
  | Add => exact fun h => P.add_int (hQ' _ (Option.some.inj h.symm) _ _)
  | Sub => exact fun h => P.sub_int (hQ' _ (Option.some.inj h.symm) _ _)
  | Mult => exact fun h => C h fun q hQ => P.mul_int (hQ _ _) (mulOk q)
  | FloorDiv => exact fun h => D h fun q hQ => floordiv_int (fun e => q (.inl e)) (hQ _ _) (.inl (PyProof.noPylong_small (Nat.lt_of_not_le fun e => q (.inr e))))
  | Mod => exact fun h => D h fun q hQ => mod_int' q (hQ _ _)
  | Pow => exact fun h => C h fun q hQ => pow_int q.1 (powOk q.2) (hQ _ _)
  | LShift => exact fun h => C h fun q hQ => lshift_int q.1 (shlOk q.2) (hQ _ _)
  | RShift => exact fun h => C h fun q hQ => rshift_int q (hQ _ _)
  | BitXor => exact fun h => xor_int (hQ' _ (Option.some.inj h.symm) _ _)
  | _ => exact nos
theorem ok_addL (i : Inv G s) {a b : Addr} {xs ys zs : List V} (rx : LstA (VR G O s.heap) s.heap a xs) (ry : LstA (VR G O s.heap) s.heap b ys) (h : catS xs ys = some zs) (hQ : KO G O s (.list zs) Q) :
    wpAny (model G.prog G.w) A (binaryOp .Add (.ref a) (.ref b)) Q X s := by
  revert hQ
  refine oif (C := fun zs => KO G O s (.list zs) Q → _) h fun hl hQ => ?_
  induction rx with | @mk ws _ ea _ rx =>
  induction ry with | @mk us _ eb _ ry =>
  have hl' : (ws ++ us).length ≤ big := by rw [List.length_append, ← rx.length, ← ry.length]; exact hl
  refine P.add_list ea eb ?_ (by have := fits hl'; simpa using this)
  rw [List.append_toArray]
  exact newL i (rx.append ry) hl' hQ
theorem emp_iff {ws : List Value} (h : ws.toArray.isEmpty = true) : ws = [] := by induction ws with | nil => rfl | cons => cases h
theorem ok_addT (i : Inv G s) (ox : OX G O s.heap) {a b : Addr} {xs ys zs : List V} (na : ¬ O a) (nb : ¬ O b) (rx : TupA (VR G O s.heap) s.heap a xs) (ry : TupA (VR G O s.heap) s.heap b ys) (h : catS xs ys = some zs) (hQ : KV G O s (.tup zs) Q) :
    wpAny (model G.prog G.w) A (binaryOp .Add (.ref a) (.ref b)) Q X s := by
  revert hQ
  refine oif (C := fun zs => KV G O s (.tup zs) Q → _) h fun hl hQ => ?_
  have rx' := rx
  have ry' := ry
  induction rx with | @mk ws n ea la rx =>
  induction ry with | @mk us n' eb lb ry =>
  by_cases e1 : ws.toArray.isEmpty = true
  · refine concat_meets ⟨_, ea, rfl⟩ ⟨_, eb, rfl⟩ noFill_tuple_add seq_tuple_add F.slot_tuple_add F.entry_tuple_add (F.args_tuple_add_2 _ _) (AutoSeq1.tuple___add___tuple_tuple_0 a _ n b _ n' e1) ⟨ea, eb, hQ _ _ (St.refl i) ?_⟩
    cases emp_iff e1
    cases rx
    exact .mkT nb ry'
  · by_cases e2 : us.toArray.isEmpty = true
    · refine concat_meets ⟨_, ea, rfl⟩ ⟨_, eb, rfl⟩ noFill_tuple_add seq_tuple_add F.slot_tuple_add F.entry_tuple_add (F.args_tuple_add_2 _ _) (AutoSeq1.tuple___add___tuple_tuple_1 a _ n b _ n' e1 e2) ⟨ea, eb, hQ _ _ (St.refl i) ?_⟩
      cases emp_iff e2
      cases ry
      rw [List.append_nil]
      exact .mkT na rx'
    · have hl' : (ws ++ us).length ≤ big := by rw [List.length_append, ← rx.length, ← ry.length]; exact hl
      refine P.add_tuple ea eb e1 e2 ?_ (by have := fits hl'; simpa using this)
      rw [List.append_toArray]
      exact newT i ox (rx.append ry) hl' hQ
theorem foldl_rep (x : Value) (n : Nat) : ∀ acc : List Value, List.foldl (fun (x1 x2 : Array Value) => x1 ++ x2) acc.toArray (List.replicate n #[x]) = (acc ++ List.replicate n x).toArray := by
  induction n with
  | zero => intro acc; rw [List.replicate_zero, List.replicate_zero, List.append_nil]; rfl
  | succ n ih =>
    intro acc
    rw [List.replicate_succ, List.foldl_cons, List.append_toArray acc [x], ih, List.append_assoc, List.replicate_succ]
    rfl
theorem ok_mulL (i : Inv G s) {a : Addr} {xs zs : List V} {k : Int} {u : Tok} (rx : LstA (VR G O s.heap) s.heap a xs) (h : repS xs k = some zs) (hQ : KO G O s (.list zs) Q) :
    wpAny (model G.prog G.w) A (binaryOp .Mult (.ref a) (.int k u)) Q X s := by
  induction rx with | @mk ws n ha _ rx =>
  induction rx with
  | nil => cases h
  | @cons x y as bs rx rr =>
  induction rr with
  | cons => cases h
  | nil =>
  revert hQ
  refine oif (C := fun zs => KO G O s (.list zs) Q → _) h fun hb hQ => ?_
  have hbb := big_eq
  refine wpAny_binaryOp_repeat_ref (T := "list") (U := "int") (by decide) ⟨_, ha, rfl⟩ (fun s' => typeIs_int s' k u) noFill_list_mul F.fills_int_mul F.slot_int_rmul repeat_list F.slot_int_index.lookup
    (call_meets F.slot_int_rmul (typeIs_int s k u) F.entry_int_rmul (F.args_int_rmul_2 _ _) (int___rmul___int_list k u a #[y] n)
      ⟨ha, rfl, ⟨_, ha, rfl⟩, call_meets F.slot_list_mul ⟨_, ha, rfl⟩ F.entry_list_mul (F.args_list_mul_2 _ _)
        (AutoListH.list___mul___list_int_3 a #[y] n k u (by simp [Builtin.List.listFitsIndex]; lia) (by simp; lia) (by simp [Builtin.List.listTooLong, sizeLine]; lia))
        ⟨ha, ?_⟩⟩)
  have e : List.foldl (fun (x1 x2 : Array Value) => x1 ++ x2) #[] (List.replicate (if (#[y] : Array Value).isEmpty = true then 0 else k.toNat) #[y]) = (List.replicate k.toNat y).toArray := foldl_rep y k.toNat []
  rw [e]
  exact newL i (All2.replicate rx _) (by rw [List.length_replicate]; lia) hQ
theorem ok_bin (i : Inv G s) (ox : OX G O s.heap) {op : Operator} {a b v : V} {x y : Value} (ra : VR G O s.heap a x) (rb : VR G O s.heap b y) (h : binV op a b = some v) (hQ : KO G O s v Q) : wpAny (model G.prog G.w) A (binaryOp op x y) Q X s := by
  have rw := ra.w
  induction rw with
  | int j t => exact obind h fun j hj h => by cases rb.w.oi hj; exact ok_binI i h hQ
  | list rl =>
    induction op with
    | Add => exact obind h fun ys hy h => by cases rb.w.ol hy with | mk l => exact omap (C := fun v => KO G O s v Q → _) h (fun zs hz hQ => ok_addL i rl l hz hQ) hQ
    | Mult => exact obind h fun n hn h => by cases rb.w.oi hn; exact omap (C := fun v => KO G O s v Q → _) h (fun zs hz hQ => ok_mulL i rl hz hQ) hQ
    | _ => cases h
  | tup rt =>
    induction op with
    | Add => exact obind h fun ys hy h => by cases rb.w.ot hy with | mk l => exact omap (C := fun v => KO G O s v Q → _) h (fun zs hz hQ => ok_addT i ox ra.no rb.no rt l hz fun y s' st r => hQ y s' st (.v rfl r)) hQ
    | _ => cases h
  | _ => cases h
end
theorem get_lt {α : Type} {xs : List α} {n : Nat} {v : α} (h : xs[n]? = some v) : n < xs.length := (List.getElem?_eq_some_iff.mp h).1
theorem itemT_nn {xs : List V} {k : Int} {v : V} {C : Prop} (h : itemT xs k = some v) (K : ∀ n : Nat, k = n → xs[n]? = some v → C) : C := by
  by_cases q : 0 ≤ k
  · exact K k.toNat (Int.toNat_of_nonneg q).symm ((if_pos q).symm.trans h)
  · exact nos ((if_neg q).symm.trans h)
theorem item_cases {xs : List V} {k : Int} {v : V} {C : Prop} (h : item xs k = some v) (K : ∀ n : Nat, k = n → xs[n]? = some v → C) (K' : ∀ n : Nat, k < 0 → k + xs.length = n → xs[n]? = some v → C) : C := by
  unfold item at h
  by_cases q : 0 ≤ k
  · exact K k.toNat (Int.toNat_of_nonneg q).symm ((if_pos q).symm.trans h)
  · replace h := (if_neg q).symm.trans h
    by_cases q' : 0 ≤ k + xs.length
    · exact K' (k + xs.length).toNat (Int.not_le.mp q) (Int.toNat_of_nonneg q').symm ((if_pos q').symm.trans h)
    · exact nos ((if_neg q').symm.trans h)
theorem seqI {j n : Nat} (h : j < n) : seqIndex? (j : Int) n = some j := by
  unfold seqIndex?
  have e : ¬ (j : Int) < 0 := Int.not_lt.mpr (Int.natCast_nonneg j)
  simp [e, h]
theorem big63 {n : Nat} (h : n ≤ big) : (n : Int) < 2 ^ 63 := by have := big_eq; lia
theorem lo63 (n : Nat) : (-2 ^ 63 : Int) ≤ (n : Int) := by lia
theorem seq_get {ws : List Value} {j : Nat} {y : Value} (h : ws[j]? = some y) : ws.toArray[j]? = some y := List.getElem?_toArray.trans h
inductive Opt2 (r : V → Value → Prop) : Option V → Option Value → Prop
  | none : Opt2 r none none
  | some {v : V} {y : Value} : r v y → Opt2 r (some v) (some y)
theorem va_hit {k : K} {y : Value} {kvs : List (K × Value)} : valueAt ((k, y) :: kvs) k = some y := by
  unfold valueAt; rw [List.find?_cons_of_pos (p := fun kv : K × Value => decide (kv.1 = k)) (decide_eq_true (Eq.refl k))]; rfl
theorem va_miss {k k₁ : K} {y : Value} {kvs : List (K × Value)} (h : ¬ k₁ = k) : valueAt ((k₁, y) :: kvs) k = valueAt kvs k := by
  unfold valueAt; rw [List.find?_cons_of_neg (p := fun kv : K × Value => decide (kv.1 = k)) (a := (k₁, y)) (fun e => h (of_decide_eq_true e))]
section
variable {r : V → Value → Prop} {es : List (K × V)} {kvs : List (K × Value)}
theorem dget_rel (h : All2 (Kv r) es kvs) (k : K) : Opt2 r (dget k es) (valueAt kvs k) := by
  induction h with
  | nil => exact .none
  | cons x _ ih =>
    induction x with | @mk k₁ a b x =>
    unfold dget
    by_cases q : k = k₁
    · rw [← q, va_hit, if_pos rfl]; exact .some x
    · rw [va_miss (fun e => q e.symm), if_neg q]; exact ih
theorem Opt2.get {o : Option V} {p : Option Value} (h : Opt2 r o p) {v : V} {C : Prop} : o = Option.some v → (∀ y, p = Option.some y → r v y → C) → C := by
  induction h with
  | none => exact fun e _ => nos e
  | some x => exact fun e k => k _ rfl (Option.some.inj e ▸ x)
theorem Opt2.isSome {o : Option V} {p : Option Value} (h : Opt2 r o p) : p.isSome = o.isSome := by
  induction h with
  | none => rfl
  | some x => rfl
end
section
variable {G : Gd} {O : Addr → Prop} {A : Around} {s s' s'' : Shared} {X : Value → Shared → Prop} {Q : Value → Shared → Prop}
theorem ok_itemL (i : Inv G s) {a : Addr} {xs : List V} (r : LstA (VR G O s.heap) s.heap a xs) {k : Int} {t : Tok} {v : V} (h : item xs k = some v) (hQ : KV G O s v Q) : wpAny (model G.prog G.w) A (getItem (.ref a) (.int k t)) Q X s := by
  induction r with | @mk ws n e l r =>
  refine item_cases h (fun j ej hj => r.get hj fun y hy ry => ?_) fun j k0 ej hj => r.get hj fun y hy ry => ?_
  · subst ej
    exact wpAny_getItem_list ⟨_, e, rfl, _, rfl⟩ (Int.natCast_nonneg j) (big63 (Nat.le_trans (Nat.le_of_lt (get_lt hy)) l)) (seq_get hy) (hQ _ _ (.refl i) ry)
  · have hl : (ws.toArray.size : Int) = xs.length := congrArg Int.ofNat ((List.size_toArray ..).trans r.length.symm)
    have hb : xs.length ≤ big := r.length ▸ l
    have := big_eq
    exact wpAny_getItem_list_neg ⟨_, e, rfl, _, rfl⟩ k0 (hl ▸ by lia) (by lia) (hl ▸ ej ▸ seq_get hy) (hQ _ _ (.refl i) ry)
theorem ok_itemT (i : Inv G s) {a : Addr} {xs : List V} (r : TupA (VR G O s.heap) s.heap a xs) {k : Int} {t : Tok} {v : V} (h : itemT xs k = some v) (hQ : KV G O s v Q) : wpAny (model G.prog G.w) A (getItem (.ref a) (.int k t)) Q X s := by
  induction r with | @mk ws n e l r =>
  refine itemT_nn h fun j ej hj => r.get hj fun y hy ry => ?_
  subst ej
  exact P.getItem_tuple e (lo63 j) (big63 (Nat.le_trans (Nat.le_of_lt (get_lt hy)) l)) (seqI (Nat.lt_of_lt_of_eq (get_lt hy) (List.size_toArray ..).symm)) (seq_get hy) (hQ _ _ (.refl i) ry)
theorem ok_itemD (i : Inv G s) {a : Addr} {g : Nat} {es : List (K × V)} (r : DctA (VR G O s.heap) s.heap a G g es) {k : K} {x : Value} {v : V} (hk : (kk G.prog G.w).is k x = true) (h : dget k es = some v) (hQ : KV G O s v Q) : wpAny (model G.prog G.w) A (getItem (.ref a) x) Q X s := by
  induction r with | mk pg ns of l r => exact (dget_rel r k).get h fun y hy ry => wpAny_getItem_of hk of.mapOf hy (hQ _ _ (.toks i _) ry)
theorem ok_chr (i : Inv G s) {x : Str} {t : Tok} {k : Int} {u : Tok} {v : V} (h : chrAt x k = some v) (hQ : KV G O s v Q) : wpAny (model G.prog G.w) A (getItem (.str x t) (.int k u)) Q X s := by
  unfold chrAt at h
  by_cases q : 0 ≤ k ∧ k < 1000
  · refine omap (C := fun v => KV G O s v Q → _) ((if_pos q).symm.trans h) (fun c hc hQ => ?_) hQ
    obtain ⟨n, rfl⟩ := Int.eq_ofNat_of_zero_le q.1
    have hn : n < x.length := (Array.getElem?_eq_some_iff.mp hc).1
    refine P.getItem_str (c := c) ?_ ?_ (hQ _ _ (.toks i _) (.str _ _))
    · rw [Bool.or_eq_false_iff]; exact ⟨decide_eq_false (by lia), decide_eq_false (by lia)⟩
    · rw [seqI hn]; exact hc
  · exact nos ((if_neg q).symm.trans h)
theorem ok_sub (i : Inv G s) {v u ku : V} {x y : Value} (rv : VW G O s.heap v x) (rk : VW G O s.heap ku y) (h : subV v ku = some u) (hQ : KV G O s u Q) : wpAny (model G.prog G.w) A (getItem x y) Q X s := by
  induction rv with
  | list r => exact obind (o := ku.oi) h fun j hj h => by induction rk.oi hj with | mk t => exact ok_itemL i r h hQ
  | tup r => exact obind (o := ku.oi) h fun j hj h => by induction rk.oi hj with | mk t => exact ok_itemT i r h hQ
  | dict r => exact obind (o := keyV ku) h fun q hq h => ok_itemD i r (rk.key hq) h hQ
  | str x t => exact obind (o := ku.oi) h fun j hj h => by induction rk.oi hj with | mk u => exact ok_chr i h hQ
  | _ => exact nos h
inductive HasItem (s : Shared) (x : Value) : Prop
  | mk {TT : String} {id : String} (h1 : s.TypeIs x TT) (h2 : typeLookup (.type TT) "__getitem__" = pure (some (.builtin id)))
theorem lst_type {a : Addr} {xs : List V} (r : LstA (VR G O s.heap) s.heap a xs) : s.TypeIs (.ref a) "list" := by induction r with | mk e => exact ⟨_, e, rfl⟩
theorem tup_type {a : Addr} {xs : List V} (r : TupA (VR G O s.heap) s.heap a xs) : s.TypeIs (.ref a) "tuple" := by induction r with | mk e => exact ⟨_, e, rfl⟩
theorem dct_type {a : Addr} {g : Nat} {xs : List (K × V)} (r : DctA (VR G O s.heap) s.heap a G g xs) : s.TypeIs (.ref a) "dict" := by induction r with | mk _ _ of => exact of.typeIs
theorem sub_type {v ku u : V} {x : Value} (rv : VW G O s.heap v x) (h : subV v ku = some u) : HasItem s x := by
  induction rv with
  | list r => exact ⟨lst_type r, slot_list_getitem.lookup⟩
  | tup r => exact ⟨tup_type r, F.slot_tuple_getitem.lookup⟩
  | dict r => exact ⟨dct_type r, slot_dict_getitem.lookup⟩
  | str x t => exact ⟨typeIs_str s x t, PyProof.Rows.slot_str_getitem.lookup⟩
  | _ => exact nos h
noncomputable def KB (G : Gd) (s : Shared) (v : V) (Q : Bool → Shared → Prop) : Prop := ∀ b s', St G s s' → v = .bool b → Q b s'
theorem ok_in (i : Inv G s) {d k v : V} {x y : Value} (rd : VW G O s.heap d x) (rk : VW G O s.heap k y) (h : inV d k = some v) (hQ : KB G s v fun b => Q (.bool b)) : wpAny (model G.prog G.w) A (compareOp .In y x) Q X s := by
  refine obind h fun es he h => ?_
  induction rd.od he with | mk l =>
  refine omap (C := fun v => KB G s v (fun b => Q (.bool b)) → _) h (fun q hq hQ => ?_) hQ
  induction l with | mk pg ns of l r => exact wpAny_in_of (rk.key hq) ns of.mapOf ((dget_rel r q).isSome ▸ hQ _ _ (.toks i _) rfl)
theorem emp_rel {vs : List V} {ws : List Value} (r : All2 (VR G O s.heap) vs ws) : ws.toArray.isEmpty = vs.isEmpty := by
  induction r with
  | nil => rfl
  | cons => rfl
theorem size_rel {r : V → Value → Prop} {vs : List V} {ws : List Value} (h : All2 r vs ws) : (ws.toArray.size : Int) = (vs.length : Int) := congrArg Int.ofNat ((List.size_toArray ..).trans h.length.symm)
theorem ok_truth (i : Inv G s) {v : V} {b : Bool} {x : Value} (rv : VW G O s.heap v x) (h : truth v = some b) {Q : Bool → Shared → Prop} (hQ : ∀ s', St G s s' → Q b s') : wpAny (model G.prog G.w) A (truthy x) Q X s := by
  induction rv with
  | bool c => exact wpAny_truthy_bool (Option.some.inj h ▸ hQ _ (.refl i))
  | int c t => exact P.truthy_int (Option.some.inj h ▸ hQ _ (.refl i))
  | list r => induction r with | mk e l r => exact wpAny_truthy_list ⟨_, e, rfl, _, rfl⟩ (fit63 l) (emp_rel r ▸ Option.some.inj h ▸ hQ _ (.toks i _))
  | _ => exact nos h
theorem ok_len (i : Inv G s) {v u : V} {x : Value} (rv : VW G O s.heap v x) (h : lenV v = some u) (hQ : KV G O s u Q) : wpAny (model G.prog G.w) A (call (.builtin "len") [x]) Q X s := by
  induction rv with
  | list r => induction r with | mk e l r => exact len_list ⟨_, e, rfl, _, rfl⟩ (fit63 l) (hQ _ _ (.toks i _) (Option.some.inj h ▸ size_rel r ▸ .int _ _))
  | dict r => induction r with | @mk kvs pg ns of l r => exact call_len_dict (knd := kk G.prog G.w) ns of (by have := big_eq; lia) (hQ _ _ (.toks i _) (Option.some.inj h ▸ r.length ▸ .int _ _))
  | tup r => induction r with | mk e l r => exact P.len_tuple e (Int.not_le.mpr (fit63 l)) (hQ _ _ (.toks i _) (Option.some.inj h ▸ size_rel r ▸ .int _ _))
  | _ => exact nos h
noncomputable def IntsAt (ns : List Int) (ws : List Value) : Prop := ns.length = ws.length ∧ ∀ (i : Nat) v, ws[i]? = some v → ∃ t, v = Value.int (ns.getD i 0) t
theorem ints_at {xs : List V} {ws : List Value} (r : All2 (VR G O s.heap) xs ws) : ∀ {ns : List Int}, intsOf xs = some ns → IntsAt ns ws := by
  induction r with
  | nil => exact fun h => Option.some.inj h ▸ ⟨rfl, fun i v e => nos e⟩
  | cons x _ ih =>
    exact fun h => obind h fun n hn h => omap (C := fun ns => IntsAt ns _) h fun ms hm => by
      obtain ⟨h1, h2⟩ := ih hm
      induction x.w.oi hn with | mk t =>
      exact ⟨congrArg (· + 1) h1, fun i => by induction i with | zero => exact fun v e => ⟨t, (Option.some.inj e).symm⟩ | succ i => exact h2 i⟩
theorem preSum_sum (ns : List Int) : ∀ j, preSum (fun i => ns.getD i 0) j = (ns.take j).sum := by
  intro j
  induction j with
  | zero => rfl
  | succ j ih =>
    rw [preSum, ih]
    rcases Nat.lt_or_ge j ns.length with q | q
    · rw [List.take_add_one, List.sum_append]; simp [q]
    · rw [List.take_of_length_le q, List.take_of_length_le (Nat.le_succ_of_le q)]; simp [List.getElem?_eq_none q]
theorem ok_sum {k : Nat} (hr : Room A k) (i : Inv G s) {v u : V} {x : Value} (rv : VW G O s.heap v x) (h : sumV v = some u) (hQ : KV G O s u Q) : wpAny (model G.prog G.w) A (call (.builtin "sum") [x]) Q X s := by
  refine obind h fun xs hx h => ?_
  induction rv.ol hx with | @mk a l =>
  refine omap (C := fun u => KV G O s u Q → _) h (fun ns hn hQ => ?_) hQ
  induction l with | @mk ws n e l r =>
  obtain ⟨hl, hg⟩ := ints_at r hn
  have hlt := Heap.lt_size e
  have hne : a ≠ s.heap.objs.size := Nat.ne_of_lt hlt
  refine call_sum_walkG (wpAny_pyIter_list ⟨_, e, rfl, _, rfl⟩ ⟨s.heap.objs.size, [s.heap.objs.size, a], [s.heap.objs.size], _, _, _, fun i => ns.getD i 0, rfl,
    Walks.list (A := A.in1) hr.handled s.heap.objs.size a hne ws.toArray, ⟨⟨_, Heap.get?_push_size _ rfl, rfl, rfl⟩, ⟨_, Heap.get?_push_of_some _ e, rfl, _, rfl⟩⟩, fun b hb => ?_, fun j v hv => hg j v (List.getElem?_toArray.symm.trans hv), fun h' tk t' hk => ?_⟩)
  · rw [Heap.size_push]
    rcases List.mem_cons.mp hb with rfl | hb
    · exact Nat.lt_succ_self _
    · exact List.mem_singleton.mp hb ▸ Nat.lt_succ_of_lt hlt
  · refine hQ _ _ (St.keeps i (fun b o' eb => hk b o' (fun hm => Nat.ne_of_lt (Heap.lt_size eb) (List.mem_singleton.mp hm)) (Heap.get?_push_of_some _ eb)) tk) ?_
    rw [preSum_sum, List.take_of_length_le (by rw [hl, List.size_toArray]; exact Nat.le_refl _)]
    exact .int _ _
theorem ok_divm (i : Inv G s) (ox : OX G O s.heap) {a b u : V} {x y : Value} (ra : VW G O s.heap a x) (rb : VW G O s.heap b y) (h : divmV a b = some u) (hQ : KV G O s u Q) : wpAny (model G.prog G.w) A (call (.builtin "divmod") [x, y]) Q X s := by
  refine obind h fun j hj h => obind h fun k hk h => ?_
  induction ra.oi hj with | mk t =>
  induction rb.oi hk with | mk t' =>
  refine oifn (C := fun u => KV G O s u Q → _) h (fun q hQ => ?_) hQ
  exact divmod_int (fun e => q (.inl e)) (newT (ws := [_, _]) i ox (.cons (.int _ _) (.cons (.int _ _) .nil)) (show 2 ≤ big by decide) hQ) (.inl (PyProof.noPylong_small (Nat.lt_of_not_le fun e => q (.inr e))))
theorem ok_range1 (i : Inv G s) (ox : OX G O s.heap) {b u : V} {y : Value} (rb : VW G O s.heap b y) (h : rngV (.int 0) b = some u) (hQ : KV G O s u Q) : wpAny (model G.prog G.w) A (call (.type "range") [y]) Q X s := by
  refine omap (C := fun u => KV G O s u Q → _) (o := b.oi) h (fun j hj hQ => ?_) hQ
  induction rb.oi hj with | mk t => exact call_range_1 (hQ _ _ (St.push i _ _) (.rng ox.fresh (IsRange.new ..)))
theorem ok_range2 (i : Inv G s) (ox : OX G O s.heap) {a b u : V} {x y : Value} (ra : VW G O s.heap a x) (rb : VW G O s.heap b y) (h : rngV a b = some u) (hQ : KV G O s u Q) : wpAny (model G.prog G.w) A (call (.type "range") [x, y]) Q X s := by
  refine obind h fun j hj h => omap (C := fun u => KV G O s u Q → _) h (fun k hk hQ => ?_) hQ
  induction ra.oi hj with | mk t =>
  induction rb.oi hk with | mk t' => exact call_range_2 (hQ _ _ (St.push i _ _) (.rng ox.fresh (IsRange.new ..)))
theorem ok_isTup (i : Inv G s) {v u : V} {x : Value} (rv : VW G O s.heap v x) (h : isTupV v = some u) (hQ : KV G O s u Q) : wpAny (model G.prog G.w) A (call (.builtin "isinstance") [x, .type "tuple"]) Q X s := by
  induction rv with
  | int j t => exact IsiPair.int_tuple (hQ _ _ (.toks i _) (Option.some.inj h ▸ .bool _))
  | tup r => exact call_isinstance (isinstance_true (Tx := "tuple") (show typeOf (.type "tuple") = pure (.type "type") by kernel_rfl) isSubtype_tuple_tuple) ⟨tup_type r, hQ _ _ (.refl i) (Option.some.inj h ▸ .bool _)⟩
  | _ => exact nos h
theorem ok_neg (i : Inv G s) {v u : V} {x : Value} (rv : VW G O s.heap v x) (h : negV v = some u) (hQ : KV G O s u Q) : wpAny (model G.prog G.w) A (unaryOp .USub x) Q X s := by
  refine omap (C := fun u => KV G O s u Q → _) h (fun j hj hQ => ?_) hQ
  induction rv.oi hj with | mk t => exact P.neg_int (hQ _ _ (.toks i _) (.int _ _))
theorem bitNot_eq (i : Int) : Builtin.bitNot i = -i - 1 := by
  first | rfl | (unfold Builtin.bitNot; omega) | (cases i <;> simp [Builtin.bitNot] <;> omega)
theorem ok_inv (i : Inv G s) {v u : V} {x : Value} (rv : VW G O s.heap v x) (h : invV v = some u) (hQ : KV G O s u Q) : wpAny (model G.prog G.w) A (unaryOp .Invert x) Q X s := by
  refine omap (C := fun u => KV G O s u Q → _) h (fun j hj hQ => ?_) hQ
  induction rv.oi hj with | mk t => exact invert_int (hQ _ _ (.toks i _) (bitNot_eq j ▸ .int _ _))
end
section
variable {prog : Program} {w : World} {A : Around} {E : Value → Shared → Prop} {s : Shared}
theorem part_any {v : Value} {k : Option Int} {Q : Option Int → Shared → Prop} (hv : IsPart v k) (h : Q k s) : wpAny (model prog w) A (Builtin.Slice.slicePartIndex v) Q E s := by
  cases hv with
  | none => exact slicePart_none h
  | int i t => exact slicePart_int h
theorem sliceApplied_parts {sl : Addr} {n : Nat} {vl vu : Value} {lo hi : Option Int} {Q : Int × Int × Nat → Shared → Prop} (hs : s.heap.IsSliceOf sl vl vu .none) (pl : IsPart vl lo) (pu : IsPart vu hi)
    (h : Q ((Builtin.Slice.sliceAdjust lo hi 1 (n : Int)).1, 1, Builtin.Slice.slicePlaces (Builtin.Slice.sliceAdjust lo hi 1 (n : Int)).1 (Builtin.Slice.sliceAdjust lo hi 1 (n : Int)).2 1) s) :
    wpAny (model prog w) A (Builtin.Slice.sliceApplied (.ref sl) (pure (n : Int))) Q E s := by
  obtain ⟨os, hos, hcs, hds⟩ := id hs
  unfold Builtin.Slice.sliceApplied Builtin.Slice.sliceFields
  refine wpAny_bind (wpAny_bind (wpAny_field hos hds (x := vl) rfl (wpAny_bind (wpAny_field hos hds (x := vu) rfl (wpAny_bind (wpAny_field hos hds (x := .none) rfl (wpAny_pure ?_)))))))
  refine wpAny_bind (slicePart_none ?_)
  show wpAny _ _ (if ((1 : Int) == 0) = true then _ else _) _ _ s
  rw [if_neg (by decide)]
  refine wpAny_bind (part_any pl (wpAny_bind (part_any pu (wpAny_bind (wpAny_pure ?_)))))
  exact wpAny_pure h
theorem pick_run' (xs : Array Value) (a k : Nat) : ((List.range k).filterMap fun (j : Nat) => xs[((a : Int) + (j : Int) * 1).toNat]?).toArray = ((xs.toList.drop a).take k).toArray := by
  have e : (fun (k : Nat) => xs[((a : Int) + (k : Int) * 1).toNat]?) = fun k => xs[a + k]? := by
    funext k
    have : ((a : Int) + (k : Int) * 1).toNat = a + k := by lia
    rw [this]
  rw [e]
  have := pick_run xs a k
  rw [List.filterMap_map] at this
  have e2 : ((fun x => xs[x]?) ∘ fun x => a + x) = fun k => xs[a + k]? := rfl
  rw [e2] at this
  rw [this]
theorem getItem_tuple_cut {t sl : Addr} {items : Array Value} {n a k : Nat} {vl vu : Value} {lo hi : Option Int} {Q : Value → Shared → Prop} (ht : IsT s.heap t items n) (hs : s.heap.IsSliceOf sl vl vu .none) (pl : IsPart vl lo) (pu : IsPart vu hi)
    (ha : (Builtin.Slice.sliceAdjust lo hi 1 (items.size : Int)).1 = (a : Int)) (hk : Builtin.Slice.slicePlaces (Builtin.Slice.sliceAdjust lo hi 1 (items.size : Int)).1 (Builtin.Slice.sliceAdjust lo hi 1 (items.size : Int)).2 1 = k)
    (h1 : a = 0 → k = items.size → Q (.ref t) s)
    (h2 : Q (.ref s.heap.objs.size) { s with heap := s.heap.push { cls := .type "tuple", data := .seq ((items.toList.drop a).take k).toArray } })
    (hsz : items.size ≤ sizeLine := by size_fits) : wpAny (model prog w) A (getItem (.ref t) (.ref sl)) Q E s := by
  have ht' : IsTup s.heap t items := ⟨_, ht, rfl, _, rfl⟩
  have hdrop : sizeOk (.seq ((items.toList.drop a).take k).toArray) := by
    show ((items.toList.drop a).take k).toArray.size ≤ sizeLine
    rw [List.size_toArray, List.length_take, List.length_drop, Array.length_toList]
    omega
  obtain ⟨os, hos, hcs, hds⟩ := id hs
  have hTs : s.TypeIs (.ref sl) "slice" := ⟨os, hos, hcs⟩
  unfold getItem
  try with_reducible refine wpAny_holding ?_
  first | refine wpAny_bind (wpAny_pure ?_) | skip
  refine wpAny_bind (wpAny_sequenceKey ht'.typeIs (by decide) ?_)
  refine wpAny_bind (wpAny_callSpecial?_slot (name := Str.ofString "__getitem__") ht'.typeIs slot_tuple_getitem
    (wpAny_call_entry slot_tuple_getitem ht'.typeIs entry_tuple_getitem ?_ (args_tuple_getitem _ _)))
  show wpAny _ _ (Builtin.Tuple.tupleItemsOf (.ref t) >>= _) _ _ s
  refine wpAny_bind (tupleItemsOf_ ht' ?_)
  refine wpAny_bind (wpAny_typeOf hTs ?_)
  rw [if_pos (by decide)]
  refine wpAny_bind (sliceApplied_parts hs pl pu ?_)
  rw [hk, ha]
  show wpAny _ _ (if ((a : Int) == 0 && (1 : Int) == 1 && k == items.size) = true then _ else _) _ _ s
  by_cases q : ((a : Int) == 0 && (1 : Int) == 1 && k == items.size) = true
  · rw [if_pos q]
    simp at q
    unfold Builtin.Tuple.tupleIsExact
    refine wpAny_bind (wpAny_bind (wpAny_typeOf ht'.typeIs (wpAny_pure ?_)))
    first
      | exact wpAny_bind (wpAny_rule (wpAny_bind (wpAny_pure (wpAny_pure ⟨_, rfl, wpAny_pure (h1 q.1 q.2)⟩))))
      | exact wpAny_bind (wpAny_rule (wpAny_pure ⟨_, rfl, wpAny_pure (h1 q.1 q.2)⟩))
      | (rw [if_pos (by decide)]; exact wpAny_bind (wpAny_rule (wpAny_bind (wpAny_pure (wpAny_pure ⟨_, rfl, wpAny_pure (h1 q.1 q.2)⟩)))))
      | (rw [if_pos (by decide)]; exact wpAny_bind (wpAny_rule (wpAny_pure ⟨_, rfl, wpAny_pure (h1 q.1 q.2)⟩)))
      | skip
  · rw [if_neg q, pick_run' items a k]
    first
      | exact wpAny_bind (m := Builtin.Tuple.tupleExact _) (wpAny_newObj_type (wpAny_pure ⟨_, rfl, wpAny_pure h2⟩) hdrop)
      | exact wpAny_bind (m := Builtin.Tuple.tupleExact _) (wpAny_newObj_type (wpAny_bind (wpAny_pure (wpAny_pure ⟨_, rfl, wpAny_pure h2⟩))) hdrop)
      | exact wpAny_bind (wpAny_bind (m := Builtin.Tuple.tupleExact _) (wpAny_newObj_type (wpAny_pure (wpAny_pure ⟨_, rfl, wpAny_pure h2⟩)) hdrop))
      | exact wpAny_bind (wpAny_bind (m := Builtin.Tuple.tupleExact _) (wpAny_newObj_type (wpAny_pure ⟨_, rfl, wpAny_pure h2⟩) hdrop))
end
section
variable {G : Gd} {O : Addr → Prop} {A : Around} {s s' s'' : Shared} {X : Value → Shared → Prop} {Q : Value → Shared → Prop}
theorem oif0 {α : Type} {j : Int} {a b : α} {C : Prop} (h : (if 0 ≤ j then some a else none) = some b) (K : ∀ n : Nat, j = n → some a = some b → C) : C := by
  by_cases q : 0 ≤ j
  · exact K j.toNat (Int.toNat_of_nonneg q).symm ((if_pos q).symm.trans h)
  · exact nos ((if_neg q).symm.trans h)
theorem adjTo (k n : Nat) : Builtin.Slice.sliceAdjust none (some (k : Int)) 1 (n : Int) = (((0 : Nat) : Int), ((min k n : Nat) : Int)) := by
  unfold Builtin.Slice.sliceAdjust
  have h2 : ¬ ((k : Int) < 0) := by omega
  simp [h2]; omega
theorem adjFrom (k n : Nat) : Builtin.Slice.sliceAdjust (some (k : Int)) none 1 (n : Int) = (((min k n : Nat) : Int), (n : Int)) := by
  unfold Builtin.Slice.sliceAdjust
  have h2 : ¬ ((k : Int) < 0) := by omega
  simp [h2]; omega
theorem places1 {a b n : Nat} (h : a + n = b) : Builtin.Slice.slicePlaces (a : Int) (b : Int) 1 = n := by
  unfold Builtin.Slice.slicePlaces
  simp only [show (1 : Int) > 0 from by lia, if_true, Int.ediv_one]
  split <;> lia
theorem drop_nought {xs : List V} {n k : Nat} (hl : xs.length = n) (h : min k n = 0) : xs.drop k = xs := by
  induction k with
  | zero => rfl
  | succ k => induction xs with | nil => rfl | cons => subst hl; exact absurd h (by simp only [List.length_cons]; lia)
theorem drop_rest (ws : List Value) (k : Nat) : (ws.drop (min k ws.length)).take (ws.length - min k ws.length) = ws.drop k := by
  rw [List.take_of_length_le (Nat.le_of_eq List.length_drop)]
  rcases Nat.le_total k ws.length with q | q
  · rw [Nat.min_eq_left q]
  · rw [Nat.min_eq_right q, List.drop_length, List.drop_eq_nil_of_le q]
theorem take_rest (ws : List Value) (k : Nat) : ws.take (min k ws.length) = ws.take k := by
  rcases Nat.le_total k ws.length with q | q
  · rw [Nat.min_eq_left q]
  · rw [Nat.min_eq_right q, List.take_length, List.take_of_length_le q]
theorem take_le {ws : List Value} {k : Nat} (h : ws.length ≤ big) : (ws.take k).length ≤ big := Nat.le_trans (List.length_take_le' ..) h
theorem drop_le {ws : List Value} {k : Nat} (h : ws.length ≤ big) : (ws.drop k).length ≤ big := Nat.le_trans (Nat.le_trans (Nat.le_of_eq List.length_drop) (Nat.sub_le ..)) h
theorem ok_cutTo (i : Inv G s) (ox : OX G O s.heap) {v j u : V} {x y : Value} {sl : Addr} (rv : VR G O s.heap v x) (rj : VW G O s.heap j y) (hs : s.heap.IsSliceOf sl .none y .none) (h : cutTo v j = some u) (hQ : KV G O s u Q) : wpAny (model G.prog G.w) A (getItem x (.ref sl)) Q X s := by
  have rw := rv.w
  induction rw with
  | list r =>
    refine obind (o := j.oi) h fun j hj h => oif0 h fun k ek h => ?_
    subst ek
    induction rj.oi hj with | mk t =>
    induction r with | mk e l r =>
    refine wpAny_getItem_list_slice ⟨_, e, rfl, _, rfl⟩ hs .none (.int _ t) .none nofun ?_ (fits l)
    rw [slicePick_upto']
    exact newL (tk := s.toks) i (r.take k) (take_le l) fun y s' st r => hQ y s' st (Option.some.inj h ▸ r.vr ox)
  | tup r =>
    refine obind (o := j.oi) h fun j hj h => oif0 h fun k ek h => ?_
    subst ek
    induction rj.oi hj with | mk t =>
    induction r with | @mk ws n e l r =>
    have hz : ws.toArray.size = ws.length := List.size_toArray ..
    refine getItem_tuple_cut (a := 0) (k := min k ws.length) e hs .none (.int _ t) (by rw [hz, adjTo]) (by rw [hz, adjTo]; exact places1 (Nat.zero_add _)) (fun _ hk => hQ _ _ (.refl i) ?_) ?_ (fits l)
    · have q : ws.length ≤ k := Nat.le_trans (Nat.le_of_eq (hk.trans hz).symm) (Nat.min_le_left ..)
      rw [Int.toNat_natCast, List.take_of_length_le (Nat.le_trans (Nat.le_of_eq r.length) q)] at h
      exact Option.some.inj h ▸ rv
    · have e2 : ((ws.toArray.toList.drop 0).take (min k ws.length)).toArray = (ws.take k).toArray := congrArg List.toArray (take_rest ws k)
      rw [e2]
      exact newT (tk := s.toks) i ox (r.take k) (take_le l) (Option.some.inj h ▸ hQ)
  | _ => exact nos h
theorem ok_cutFrom (i : Inv G s) (ox : OX G O s.heap) {v j u : V} {x y : Value} {sl : Addr} (rv : VR G O s.heap v x) (rj : VW G O s.heap j y) (hs : s.heap.IsSliceOf sl y .none .none) (h : cutFrom v j = some u) (hQ : KV G O s u Q) : wpAny (model G.prog G.w) A (getItem x (.ref sl)) Q X s := by
  have rw := rv.w
  induction rw with
  | list r =>
    refine obind (o := j.oi) h fun j hj h => oif0 h fun k ek h => ?_
    subst ek
    induction rj.oi hj with | mk t =>
    induction r with | mk e l r =>
    refine wpAny_getItem_list_slice ⟨_, e, rfl, _, rfl⟩ hs (.int _ t) .none .none nofun ?_ (fits l)
    rw [slicePick_from']
    exact newL (tk := s.toks) i (r.drop k) (drop_le l) fun y s' st r => hQ y s' st (Option.some.inj h ▸ r.vr ox)
  | tup r =>
    refine obind (o := j.oi) h fun j hj h => oif0 h fun k ek h => ?_
    subst ek
    induction rj.oi hj with | mk t =>
    induction r with | @mk ws n e l r =>
    have hz : ws.toArray.size = ws.length := List.size_toArray ..
    refine getItem_tuple_cut (a := min k ws.length) (k := ws.length - min k ws.length) e hs (.int _ t) .none (by rw [hz, adjFrom]) (by rw [hz, adjFrom]; exact places1 (Nat.add_sub_of_le (Nat.min_le_right ..))) (fun h0 _ => hQ _ _ (.refl i) ?_) ?_ (fits l)
    · have q : List.drop k _ = _ := drop_nought r.length h0
      rw [Int.toNat_natCast, q] at h
      exact Option.some.inj h ▸ rv
    · have e2 : ((ws.toArray.toList.drop (min k ws.length)).take (ws.length - min k ws.length)).toArray = (ws.drop k).toArray := congrArg List.toArray (drop_rest ws k)
      rw [e2]
      exact newT (tk := s.toks) i ox (r.drop k) (drop_le l) (Option.some.inj h ▸ hQ)
  | _ => exact nos h
end
theorem all_succ (n : Nat) (e : Nat → Bool) : (List.range (n + 1)).all e = (e 0 && (List.range n).all fun j => e (j + 1)) := by
  rw [List.range_succ_eq_map, List.all_cons, List.all_map]
  rfl
theorem Opt2.elim {r : V → Value → Prop} {o : Option V} {p : Option Value} (h : Opt2 r o p) {C : Prop} : (o = Option.none → p = Option.none → C) → (∀ v y, o = Option.some v → p = Option.some y → r v y → C) → C := by
  induction h with
  | none => exact fun k _ => k rfl rfl
  | some x => exact fun _ k => k _ _ rfl rfl x
section
variable {h : Heap} {a : Addr}
theorem seq_fun {c c' : Value} {ws us : List Value} {n n' : Nat} (x : h.get? a = some { cls := c, data := .seq ws.toArray n }) (y : h.get? a = some { cls := c', data := .seq us.toArray n' }) : us = ws := by
  have e := congrArg Obj.data (Option.some.inj (x.symm.trans y))
  injection e with e _
  exact (congrArg Array.toList e).symm
end
section
variable {G : Gd} {O : Addr → Prop} {s : Shared}
noncomputable def Same (G : Gd) (O : Addr → Prop) (h : Heap) (f : V → V → Option Bool) : Prop := ∀ {v u y b}, VR G O h v y → VR G O h u y → f v u = some b → b = true
theorem eqL_same {f : V → V → Option Bool} (hf : Same G O s.heap f) {xs : List V} {ws : List Value} (r : VRs G O s.heap xs ws) : ∀ {ys : List V} {b : Bool}, VRs G O s.heap ys ws → eqL f xs ys = some b → b = true := by
  induction r with
  | nil => intro ys b q; cases q; exact fun h => (Option.some.inj h).symm
  | cons x _ ih =>
    intro ys b q
    cases q with | cons y q =>
    exact fun h => obind h fun c hc h => omap (C := fun b => b = true) h fun d hd => by rw [hf x y hc, ih q hd]; rfl
theorem eq_same (n : Nat) : Same G O s.heap (eqN n) := by
  induction n with
  | zero => exact fun _ _ h => nos h
  | succ n ih =>
    intro v u y b rv
    have rw := rv.w
    induction rw with
    | int j t => exact fun ru h => omap (C := fun b => b = true) h fun k hk => by cases ru.w.oi hk; exact beq_self_eq_true j
    | str j t => exact fun ru h => omap (C := fun b => b = true) h fun k hk => by cases ru.w.ostr hk; exact beq_self_eq_true j
    | tup r =>
      refine fun ru h => obind h fun ys hy h => ?_
      cases ru.w.ot hy with | mk r' =>
      cases r with | mk e _ r =>
      cases r' with | mk e' _ r' =>
      cases seq_fun e e'
      exact eqL_same ih r r' h
    | list r =>
      refine fun ru h => obind h fun ys hy h => ?_
      cases ru.w.ol hy with | mk r' =>
      cases r with | mk e _ r =>
      cases r' with | mk e' _ r' =>
      cases seq_fun e e'
      rw [r.length, r'.length, beq_self_eq_true] at h
      exact eqL_same ih r r' h
    | _ => exact fun _ h => nos h
noncomputable def EqF (G : Gd) (O : Addr → Prop) (A : Around) (s : Shared) (f : V → V → Option Bool) : Prop := ∀ {v u x y b}, VR G O s.heap v x → VR G O s.heap u y → f v u = some b → EqAt A s x y b
inductive EqItems (A : Around) (s : Shared) (ws us : List Value) (b : Bool) : Prop
  | mk (e : Nat → Bool) (h : ∀ (j : Nat) x y, ws[j]? = some x → us[j]? = some y → EqAt A s x y (e j)) (hl : ws.length = us.length) (hb : (List.range ws.length).all e = b)
theorem eqL_at {A : Around} {f : V → V → Option Bool} (hf : EqF G O A s f) {xs : List V} {ws : List Value} (r : VRs G O s.heap xs ws) : ∀ {ys : List V} {us : List Value} {b : Bool}, VRs G O s.heap ys us → eqL f xs ys = some b → EqItems A s ws us b := by
  induction r with
  | nil =>
    intro ys us b q
    induction q with
    | nil => exact fun h => ⟨fun _ => true, fun j x y e => nos e, rfl, Option.some.inj h⟩
    | cons => exact fun h => nos h
  | cons x _ ih =>
    intro ys us b q
    induction q with
    | nil => exact fun h => nos h
    | cons y q =>
      exact fun h => obind h fun c hc h => omap (C := fun b => EqItems A s _ _ b) h fun d hd => by
        induction ih q hd with | mk e h hl hb =>
        exact ⟨fun j => j.rec c fun j _ => e j, fun j => j.rec (fun x' y' h1 h2 => Option.some.inj h1 ▸ Option.some.inj h2 ▸ hf x y hc) fun j _ => h j, congrArg (· + 1) hl, (all_succ _ _).trans (congrArg (c && ·) hb)⟩
theorem EqItems.arr {A : Around} {ws us : List Value} {e : Nat → Bool} (h : ∀ (j : Nat) x y, ws[j]? = some x → us[j]? = some y → EqAt A s x y (e j)) : ∀ (j : Nat) (h1 : j < ws.toArray.size) (h2 : j < us.toArray.size), EqAt A s ws.toArray[j] us.toArray[j] (e j) :=
  fun j h1 h2 => h j _ _ (List.getElem?_toArray.symm.trans (Array.getElem?_eq_getElem h1)) (List.getElem?_toArray.symm.trans (Array.getElem?_eq_getElem h2))
structure Rc (A : Around) (s : Shared) (x y : Value) (b : Bool) : Prop where
  eq : RcAt A s x y b
  ne : RcNeAt A s x y !b
  val : EqAt A s x y b
theorem Rc.refs {A : Around} {n : Nat} {v u : V} {a a' : Addr} {b : Bool} (rv : VR G O s.heap v (.ref a)) (ru : VR G O s.heap u (.ref a')) (h : eqN n v u = some b) (x : RcAt A s (.ref a) (.ref a') b) (y : RcNeAt A s (.ref a) (.ref a') !b) : Rc A s (.ref a) (.ref a') b :=
  ⟨x, y, by
    by_cases q : a = a'
    · subst q; rw [eq_same n rv ru h]; exact EqAt.same _
    · exact EqAt.of_refs q x⟩
theorem szb {ws us : List Value} (h : ws.length = us.length) : ws.toArray.size = us.toArray.size := (List.size_toArray ..).trans (h.trans (List.size_toArray ..).symm)
theorem szn {ws us : List Value} (h : (ws.length == us.length) = false) : (ws.toArray.size != us.toArray.size) = true := by
  rw [List.size_toArray, List.size_toArray]; unfold bne; rw [h]; rfl
theorem eq_all (n : Nat) : ∀ {A : Around} {v u : V} {x y : Value} {b : Bool}, A.units + n < cLine → VR G O s.heap v x → VR G O s.heap u y → eqN n v u = some b → Rc A s x y b := by
  induction n with
  | zero => exact fun _ _ _ h => nos h
  | succ n ih =>
    intro A v u x y b hu rv ru h
    have hu0 : A.units < cLine := Nat.lt_of_le_of_lt (Nat.le_add_right ..) hu
    have deep : EqF G O A.in1 s (eqN n) := fun r q h => (ih (Nat.lt_of_le_of_lt (Nat.le_of_eq (by rw [Around.in1_units]; lia)) hu) r q h).val
    have h' := h
    have rw := rv.w
    revert h
    induction rw with
    | int j t => exact fun h => omap (C := fun b => Rc A s _ _ b) h fun k hk => by cases ru.w.oi hk; exact ⟨RcAt.int_int _ _ _ _, RcNeAt.int_int _ _ _ _, EqAt.int_int _ _ _ _⟩
    | str j t => exact fun h => omap (C := fun b => Rc A s _ _ b) h fun k hk => by cases ru.w.ostr hk; exact ⟨RcAt.str_str _ _ _ _, RcNeAt.str_str _ _ _ _, EqAt.str_str _ _ _ _⟩
    | tup r =>
      refine fun h => obind h fun ys hy h => ?_
      cases ru.w.ot hy with | mk r' =>
      cases r with | @mk ws _ e _ r =>
      cases r' with | @mk us _ e' _ r' =>
      cases eqL_at deep r r' h with | mk f hf hl hb =>
      have q : ((List.range (min ws.toArray.size us.toArray.size)).all f && ws.toArray.size == us.toArray.size) = b := by rw [szb hl, Nat.min_self, beq_self_eq_true, Bool.and_true, ← szb hl, List.size_toArray]; exact hb
      exact Rc.refs rv ru h' (q ▸ RcAt.tuples ⟨_, e, rfl, _, rfl⟩ ⟨_, e', rfl, _, rfl⟩ hu0 (EqItems.arr hf)) (q ▸ RcNeAt.tuples ⟨_, e, rfl, _, rfl⟩ ⟨_, e', rfl, _, rfl⟩ hu0 (EqItems.arr hf))
    | list r =>
      refine fun h => obind h fun ys hy h => ?_
      cases ru.w.ol hy with | mk r' =>
      cases r with | @mk ws _ e _ r =>
      cases r' with | @mk us _ e' _ r' =>
      rw [r.length, r'.length] at h
      cases q : ws.length == us.length with
      | true =>
        rw [q] at h
        cases eqL_at deep r r' h with | mk f hf hl hb =>
        have q : (List.range ws.toArray.size).all f = b := by rw [List.size_toArray]; exact hb
        exact Rc.refs rv ru h' (q ▸ RcAt.lists ⟨_, e, rfl, _, rfl⟩ ⟨_, e', rfl, _, rfl⟩ (szb hl) hu0 (EqItems.arr hf)) (q ▸ RcNeAt.lists ⟨_, e, rfl, _, rfl⟩ ⟨_, e', rfl, _, rfl⟩ (szb hl) hu0 (EqItems.arr hf))
      | false =>
        rw [q] at h
        have eb : false = b := Option.some.inj h
        subst eb
        exact Rc.refs rv ru h' (RcAt.lists_lengths ⟨_, e, rfl, _, rfl⟩ ⟨_, e', rfl, _, rfl⟩ (szn q) hu0) (RcNeAt.lists_lengths ⟨_, e, rfl, _, rfl⟩ ⟨_, e', rfl, _, rfl⟩ (szn q) hu0)
    | _ => exact fun h => nos h
end
section
variable {G : Gd} {O : Addr → Prop} {A : Around} {s s' s'' : Shared} {X : Value → Shared → Prop} {Q : Value → Shared → Prop}
theorem ok_cmp {k : Nat} (hr : Room A k) (i : Inv G s) {op : CmpOp} {a b v : V} {x y : Value} (ra : VR G O s.heap a x) (rb : VR G O s.heap b y) (h : cmpV op a b = some v) (hQ : KB G s v fun b => Q (.bool b)) : wpAny (model G.prog G.w) A (compareOp op x y) Q X s := by
  have hu : A.units + 16 < cLine := Nat.lt_of_le_of_lt (by lia) hr.units
  induction op with
  | Eq => exact omap (C := fun v => KB G s v (fun b => Q (.bool b)) → _) h (fun c hc hQ => (eq_all 16 hu ra rb hc).eq G.prog G.w _ _ (hQ _ _ (.refl i) rfl)) hQ
  | NotEq => exact omap (C := fun v => KB G s v (fun b => Q (.bool b)) → _) h (fun c hc hQ => (eq_all 16 hu ra rb hc).ne G.prog G.w _ _ (hQ _ _ (.refl i) rfl)) hQ
  | Lt => exact obind h fun j hj h => obind h fun k hk h => by cases ra.w.oi hj; cases rb.w.oi hk; exact P.lt_int (hQ _ _ (.refl i) (Option.some.inj h).symm)
  | LtE => exact obind h fun j hj h => obind h fun k hk h => by cases ra.w.oi hj; cases rb.w.oi hk; exact P.le_int (hQ _ _ (.refl i) (Option.some.inj h).symm)
  | Gt => exact obind h fun j hj h => obind h fun k hk h => by cases ra.w.oi hj; cases rb.w.oi hk; exact P.gt_int (hQ _ _ (.refl i) (Option.some.inj h).symm)
  | GtE => exact obind h fun j hj h => obind h fun k hk h => by cases ra.w.oi hj; cases rb.w.oi hk; exact P.ge_int (hQ _ _ (.refl i) (Option.some.inj h).symm)
  | _ => exact obind h fun j hj h => obind h fun k hk h => nos h
theorem flatA_unique {v : V} {x : Value} (f : flatA v = true) (rv : VR G O s.heap v x) : ∀ {u : V}, flatA u = true → VR G O s.heap u x → v = u := by
  induction rv with
  | int j t => exact fun g ru => by cases ru; rfl
  | str j t => exact fun g ru => by cases ru; rfl
  | _ => exact Bool.noConfusion f
theorem flatAs_unique {vs : List V} {xs : List Value} (rv : VRs G O s.heap vs xs) : ∀ {us : List V}, vs.all flatA = true → us.all flatA = true → VRs G O s.heap us xs → vs = us := by
  induction rv with
  | nil => exact fun _ _ r => by cases r; rfl
  | cons a _ ih =>
    intro us f g r
    cases r with | cons b r =>
    have f := Bool.and_eq_true_iff.mp (List.all_cons.symm.trans f)
    have g := Bool.and_eq_true_iff.mp (List.all_cons.symm.trans g)
    rw [flatA_unique f.1 a g.1 b, ih f.2 g.2 r]
theorem flat_unique {v u : V} {x : Value} (f : flat v = true) (g : flat u = true) (rv : VR G O s.heap v x) (ru : VR G O s.heap u x) : v = u := by
  cases rv with
  | int j t => cases ru; rfl
  | str j t => cases ru; rfl
  | tup no e _ hl r =>
    cases ru with
    | tup no' e' _ hl' r' =>
      cases seq_fun e e'
      exact congrArg V.tup (flatAs_unique (.of hl r) f g (.of hl' r'))
    | _ => exact Bool.noConfusion g
  | _ => exact Bool.noConfusion f
inductive Hit (G : Gd) (O : Addr → Prop) (h : Heap) (x : V) (y : Value) : Prop
  | mk {v : V} (f : flat v = true) (r : VR G O h v y) (e : eqN 16 v x = some true)
open Classical in
noncomputable def vdt (G : Gd) (O : Addr → Prop) (h : Heap) (x : V) (y : Value) : Bool := decide (Hit G O h x y)
theorem vdt_eq {v x : V} {y : Value} {b : Bool} (f : flat v = true) (r : VR G O s.heap v y) (e : eqN 16 v x = some b) : vdt G O s.heap x y = b := by
  unfold vdt
  cases b with
  | true => exact @decide_eq_true _ (_) ⟨f, r, e⟩
  | false =>
    refine @decide_eq_false _ (_) fun h => ?_
    cases h with | mk f' r' e' =>
    cases flat_unique f f' r r'
    cases e.symm.trans e'
theorem vdts {x : V} {z : Value} (hu : A.units + 16 < cLine) (rx : VR G O s.heap x z) {xs : List V} {ws : List Value} (r : VRs G O s.heap xs ws) : ∀ {bs : List Bool}, eqAll x xs = some bs → (∀ y ∈ ws, EqAt A s y z (vdt G O s.heap x y)) ∧ ws.map (vdt G O s.heap x) = bs := by
  induction r with
  | nil => exact fun h => Option.some.inj h ▸ ⟨fun y hy => absurd hy List.not_mem_nil, rfl⟩
  | @cons v y _ _ a _ ih =>
    intro bs h
    unfold eqAll at h
    cases f : flat v with
    | false => rw [f] at h; exact nos h
    | true =>
      rw [f] at h
      exact obind h fun b hb h => omap (C := fun bs => (∀ y ∈ _, EqAt A s y z (vdt G O s.heap x y)) ∧ List.map (vdt G O s.heap x) _ = bs) h fun ms hm => by
        obtain ⟨h1, h2⟩ := ih hm
        have e := vdt_eq f a hb
        exact ⟨fun q hq => (List.mem_cons.mp hq).elim (fun q' => q' ▸ e ▸ (eq_all 16 hu a rx hb).val) (h1 q), by rw [List.map_cons, e, h2]⟩
theorem ok_count {k : Nat} (hr : Room A k) (i : Inv G s) {l v u : V} {x z : Value} (rl : VW G O s.heap l x) (rv : VR G O s.heap v z) (h : countV l v = some u) (hQ : KV G O s u Q) : wpAny (model G.prog G.w) A (call (.builtin "list.count") [x, z]) Q X s := by
  refine obind h fun xs hx h => omap (C := fun u => KV G O s u Q → _) h (fun bs hb hQ => ?_) hQ
  cases rl.ol hx with | mk r =>
  cases r with | @mk ws n e _ r =>
  obtain ⟨h1, h2⟩ := vdts (A := A.in1) (Nat.lt_of_le_of_lt (by rw [Around.in1_units]; lia) hr.units) rv r hb
  have hc : ws.countP (vdt G O s.heap v) = bs.countP id := h2 ▸ (List.countP_map (p := id) (f := vdt G O s.heap v) ..).symm
  exact call_meets F.slot_list_count ⟨_, e, rfl⟩ F.entry_list_count (F.args_list_count_2 _ _) (list_countAt _ ws.toArray n none #[] z (vdt G O s.heap v)) ⟨e, fun y hy => h1 y (List.mem_toArray.mp hy), hQ _ _ (.toks i _) (hc ▸ .int _ _)⟩
theorem ok_nin {k : Nat} (hr : Room A k) (i : Inv G s) {x l v : V} {z y : Value} (rx : VR G O s.heap x z) (rl : VR G O s.heap l y) (h : ninV x l = some v) (hQ : KB G s v fun b => Q (.bool b)) : wpAny (model G.prog G.w) A (compareOp .NotIn z y) Q X s := by
  refine obind h fun xs hx h => omap (C := fun v => KB G s v (fun b => Q (.bool b)) → _) h (fun bs hb hQ => ?_) hQ
  cases rl.w.ol hx with | mk r =>
  cases r with | @mk ws n e _ r =>
  obtain ⟨h1, h2⟩ := vdts (A := A.in1) (Nat.lt_of_le_of_lt (by rw [Around.in1_units]; lia) hr.units) rx r hb
  have hc : ws.toArray.any (vdt G O s.heap x) = bs.any id := (List.any_toArray ..).trans (h2 ▸ (List.any_map (p := id) (f := vdt G O s.heap x) ..).symm)
  exact notIn_listAt (vdt G O s.heap x) ⟨_, e, rfl, _, rfl⟩ (fun y hy => h1 y (List.mem_toArray.mp hy)) (hQ _ _ (.refl i) (hc ▸ rfl))
theorem ok_ins (i : Inv G s) {x l v : V} {z y : Value} (rx : VR G O s.heap x z) (rl : VR G O s.heap l y) (h : insV x l = some v) (hQ : KB G s v fun b => Q (.bool b)) : wpAny (model G.prog G.w) A (compareOp .In z y) Q X s := by
  refine obind h fun a ha h => omap (C := fun v => KB G s v (fun b => Q (.bool b)) → _) h (fun b hb hQ => ?_) hQ
  cases rx.w.ostr ha with | mk t =>
  cases rl.w.ostr hb with | mk u =>
  exact P.in_str (hQ _ _ (.refl i) rfl)
theorem hd_tl {l : List Nat} {n : Nat} (h : l.head? = some n) : l = n :: l.tail := by
  induction l with
  | nil => exact nos h
  | cons a r => exact congrArg (· :: r) (Option.some.inj h)
theorem ok_idx (i : Inv G s) {t x u : V} {y z : Value} (rt : VW G O s.heap t y) (rx : VW G O s.heap x z) (h : idxV t x = some u) (hQ : KV G O s u Q) : wpAny (model G.prog G.w) A (call (.builtin "str.index") [y, z]) Q X s := by
  refine obind h fun b hb h => obind h fun a ha h => omap (C := fun u => KV G O s u Q → _) h (fun n hn hQ => ?_) hQ
  cases rt.ostr hb with | mk t =>
  cases rx.ostr ha with | mk u =>
  refine call_gives F.slot_str_index (typeIs_str _ _ _) F.entry_str_index (F.args_str_index_2 _ _) (gives_str_index b a t u n (occ b a).tail ?_) (hQ _ _ (.toks i _) (.int _ _))
  exact hd_tl hn
theorem ok_get (i : Inv G s) {d u : V} {kv z : V} {x y w : Value} (rd : VW G O s.heap d x) (rk : VR G O s.heap kv y) (rz : VR G O s.heap z w) (h : getV d (.tup [kv, z]) = some u) (hQ : KV G O s u Q) : wpAny (model G.prog G.w) A (call (.builtin "dict.get") [x, y, w]) Q X s := by
  refine obind h fun es he h => ?_
  induction rd.od he with | mk l =>
  refine omap (C := fun u => KV G O s u Q → _) h (fun q hq hQ => ?_) hQ
  induction l with | mk pg ns of l r =>
  refine call_meetsIn F.slot_dict_get of.typeIs F.entry_dict_get (F.args_dict_get_3 _ _ _) (meets_dict_get_default (kk G.prog G.w) _ (rk.w.key hq) ns w) ⟨_, of.mapOf, ?_⟩
  refine (dget_rel r q).elim (fun e1 e2 => ?_) fun v y e1 e2 ry => ?_
  · rw [e1] at hQ; rw [e2]; exact hQ _ _ (.toks i _) rz
  · rw [e1] at hQ; rw [e2]; exact hQ _ _ (.toks i _) ry
theorem argBest_max (x : Int) (r : List Int) : ∀ j : Nat, j ≤ r.length → (x :: r).getD (argBest (fun i j => decide ((x :: r).getD i 0 > (x :: r).getD j 0)) j) 0 = (r.take j).foldl max x := by
  intro j
  induction j with
  | zero => exact fun _ => rfl
  | succ j ih =>
    intro h
    have ih := ih (Nat.le_of_succ_le h)
    have e : r.take (j + 1) = r.take j ++ [r.getD j 0] := by
      rw [List.take_add_one]; simp [show j < r.length from h]
    have e2 : (x :: r).getD (j + 1) 0 = r.getD j 0 := by simp
    unfold argBest
    rw [e, List.foldl_append, List.foldl_cons, List.foldl_nil, ← ih, ← e2]
    generalize argBest (fun i j => decide ((x :: r).getD i 0 > (x :: r).getD j 0)) j = q at ih ⊢
    by_cases c : (x :: r).getD (j + 1) 0 > (x :: r).getD q 0
    · rw [if_pos (decide_eq_true c), Int.max_eq_right (Int.le_of_lt c)]
    · rw [if_neg (fun h => c (of_decide_eq_true h)), Int.max_eq_left (Int.not_lt.mp c)]
theorem ok_max {k : Nat} (hr : Room A k) (i : Inv G s) {v u : V} {x : Value} (rv : VW G O s.heap v x) (h : maxV v = some u) (hQ : KV G O s u Q) : wpAny (model G.prog G.w) A (call (.builtin "max") [x]) Q X s := by
  refine obind h fun xs hx h => obind h fun ns hn h => omap (C := fun u => KV G O s u Q → _) h (fun mx hm hQ => ?_) hQ
  induction rv.ol hx with | @mk a l =>
  induction l with | @mk ws n e l r =>
  obtain ⟨hl, hg⟩ := ints_at r hn
  cases ns with
  | nil => exact nos hm
  | cons m rr =>
  have em := Option.some.inj hm
  subst em
  have hlt := Heap.lt_size e
  have hne : a ≠ s.heap.objs.size := Nat.ne_of_lt hlt
  have hlen : ws.toArray.size = rr.length + 1 := (List.size_toArray ..).trans hl.symm
  refine call_max_walk (wpAny_pyIter_list ⟨_, e, rfl, _, rfl⟩ ⟨s.heap.objs.size, [s.heap.objs.size, a], [s.heap.objs.size], _, _, _, fun i j => decide ((m :: rr).getD i 0 > (m :: rr).getD j 0), rfl,
    Walks.list (A := A.in1) hr.handled s.heap.objs.size a hne ws.toArray, ⟨⟨_, Heap.get?_push_size _ rfl, rfl, rfl⟩, ⟨_, Heap.get?_push_of_some _ e, rfl, _, rfl⟩⟩, fun b hb => ?_, by rw [hlen]; exact Nat.succ_pos _, fun p q vi vj s' Q E hi hj hq => ?_, fun v h' tk hv hk => ?_⟩)
  · rw [Heap.size_push]
    rcases List.mem_cons.mp hb with rfl | hb
    · exact Nat.lt_succ_self _
    · exact List.mem_singleton.mp hb ▸ Nat.lt_succ_of_lt hlt
  · obtain ⟨t, rfl⟩ := hg p vi (List.getElem?_toArray.symm.trans hi)
    obtain ⟨u, rfl⟩ := hg q vj (List.getElem?_toArray.symm.trans hj)
    exact P.gt_int (A := A.in1) hq
  · obtain ⟨t, rfl⟩ := hg _ v (List.getElem?_toArray.symm.trans hv)
    refine hQ _ _ (St.keeps i (fun b o' eb => hk b o' (fun hm => Nat.ne_of_lt (Heap.lt_size eb) (List.mem_singleton.mp hm)) (Heap.get?_push_of_some _ eb)) tk) ?_
    rw [hlen, Nat.add_sub_cancel, argBest_max m rr rr.length (Nat.le_refl _), List.take_length]
    exact .int _ _
end
theorem stored_eq {k : K} {y y₂ : Value} {kvs : List (K × Value)} (hn : k ∉ kvs.map (·.1)) : stored ((k, y₂) :: kvs) k y = (k, y) :: kvs := by
  have e : (kvs.map fun kv => if kv.1 = k then (kv.1, y) else kv) = kvs := by
    clear y₂
    induction kvs with
    | nil => rfl
    | cons p r ih => rw [List.map_cons, ih fun h => hn (List.mem_cons_of_mem _ h), if_neg fun e => hn (List.mem_cons.mpr (.inl e.symm))]
  unfold stored
  rw [List.any_cons, decide_eq_true rfl, Bool.true_or, if_pos rfl, List.map_cons, e, if_pos rfl]
theorem stored_ne {k k₁ : K} {y y₂ : Value} {kvs : List (K × Value)} (q : ¬ k₁ = k) : stored ((k₁, y₂) :: kvs) k y = (k₁, y₂) :: stored kvs k y := by
  unfold stored
  rw [List.any_cons, decide_eq_false q, Bool.false_or, List.map_cons, if_neg q]
  split <;> rfl
theorem stored_keys {k x : K} {y : Value} {kvs : List (K × Value)} (hx : x ≠ k) : x ∉ kvs.map (·.1) → x ∉ (stored kvs k y).map (·.1) := by
  induction kvs with
  | nil => exact fun _ h => hx (List.mem_singleton.mp h)
  | cons p r ih =>
    intro h
    by_cases q : p.1 = k
    · unfold stored
      rw [List.any_cons, decide_eq_true q, Bool.true_or, if_pos rfl, List.map_map]
      have e : ((fun x : K × Value => x.1) ∘ fun kv : K × Value => if kv.1 = k then (kv.1, y) else kv) = fun x => x.1 := by funext z; show (if z.1 = k then (z.1, y) else z).1 = z.1; split <;> rfl
      rw [e]; exact h
    · rw [show p :: r = (p.1, p.2) :: r from rfl, stored_ne q, List.map_cons]
      exact fun m => (List.mem_cons.mp m).elim (fun e => h (List.mem_cons.mpr (.inl e))) (ih fun m => h (List.mem_cons_of_mem _ m))
theorem stored_nodup {k : K} {y : Value} {kvs : List (K × Value)} : (kvs.map (·.1)).Nodup → ((stored kvs k y).map (·.1)).Nodup := by
  induction kvs with
  | nil => exact fun _ => List.nodup_cons.mpr ⟨List.not_mem_nil, .nil⟩
  | cons p r ih =>
    intro h
    have hn := List.nodup_cons.mp h
    by_cases q : p.1 = k
    · subst q; rw [show p :: r = (p.1, p.2) :: r from rfl, stored_eq hn.1]; exact h
    · rw [show p :: r = (p.1, p.2) :: r from rfl, stored_ne q]; exact List.nodup_cons.mpr ⟨stored_keys q hn.1, ih hn.2⟩
theorem dset_at {r : V → Value → Prop} {k : K} {v : V} {y : Value} (x : r v y) {es : List (K × V)} {kvs : List (K × Value)} (h : All2 (Kv r) es kvs) : (kvs.map (·.1)).Nodup → All2 (Kv r) (dset k v es) (stored kvs k y) := by
  induction h with
  | nil => exact fun _ => .cons (.mk x) .nil
  | cons z zs ih =>
    intro hn
    have hn := List.nodup_cons.mp hn
    induction z with | @mk k₁ a b z =>
    unfold dset
    by_cases q : k = k₁
    · subst q; rw [stored_eq hn.1, if_pos rfl]; exact .cons (.mk x) zs
    · rw [stored_ne fun e => q e.symm, if_neg q]; exact .cons (.mk z) (ih hn.2)
theorem stored_length (k : K) (y : Value) (kvs : List (K × Value)) : (stored kvs k y).length ≤ kvs.length + 1 := by
  unfold stored
  split
  · rw [List.length_map]; exact Nat.le_succ _
  · rw [List.length_append]; exact Nat.le_refl _
theorem KV.tr {G : Gd} {O : Addr → Prop} {s s' : Shared} {v : V} {Q : Value → Shared → Prop} (hQ : KV G O s v Q) (st : St G s s') : KV G O s' v Q := fun y s'' st' r => hQ y s'' (st.trans st') r
theorem KO.tr {G : Gd} {O : Addr → Prop} {s s' : Shared} {v : V} {Q : Value → Shared → Prop} (hQ : KO G O s v Q) (st : St G s s') : KO G O s' v Q := fun y s'' st' r => hQ y s'' (st.trans st') (r.back st.inv st)
theorem KV.b {G : Gd} {O : Addr → Prop} {s s' : Shared} {v : V} {Q : Value → Shared → Prop} (hQ : KV G O s v Q) (st : St G s s') : KB G s' v fun b => Q (.bool b) := fun b s'' st' e => hQ _ s'' (st.trans st') (e ▸ .bool b)
section
variable (G : Gd) (c : Cx) (k : Nat) (T : Tx)
noncomputable def KW (G : Gd) (O : Addr → Prop) (s : Shared) (f : V → Option V) (v : V) (Q : Value → Shared → Prop) : Prop := ∀ u y s', St G s s' → VW G O s'.heap u y → f u = some v → Q y s'
noncomputable def KW2 (G : Gd) (O : Addr → Prop) (s : Shared) (f : V → V → Option V) (v : V) (Q : Value → Value → Shared → Prop) : Prop := ∀ u w x y s', St G s s' → VW G O s'.heap u x → VW G O s'.heap w y → f u w = some v → Q x y s'
noncomputable def KR2 (G : Gd) (O : Addr → Prop) (s : Shared) (f : V → V → Option V) (v : V) (Q : Value → Value → Shared → Prop) : Prop := ∀ u w x y s', St G s s' → VR G O s'.heap u x → VR G O s'.heap w y → f u w = some v → Q x y s'
noncomputable def SEo (e : Expr) (t : E) : Prop :=
  ∀ {A : Around} {env : Env} {m : Fr} {s : Shared} {O : Addr → Prop} {v : V} {Q : Value → Shared → Prop} {X : Value → Shared → Prop}, At G k T A env m O s → NE m (esc t) → ev c m t = some v → KO G O s v Q → wpAny (model G.prog G.w) A (eval e env) Q X s
noncomputable def SA (e : Expr) (f : V → Option V) (t : E) : Prop :=
  ∀ {A : Around} {env : Env} {m : Fr} {s : Shared} {O : Addr → Prop} {v : V} {Q : Value → Shared → Prop} {X : Value → Shared → Prop}, At G k T A env m O s → NE m (esc t) → ev c m t = some v → KW G O s f v Q → wpAny (model G.prog G.w) A (eval e env) Q X s
noncomputable def SA2 (e e' : Expr) (f : V → V → Option V) (t : E) : Prop :=
  ∀ {A : Around} {env : Env} {m : Fr} {s : Shared} {O : Addr → Prop} {v : V} {Q : Value → Value → Shared → Prop} {X : Value → Shared → Prop}, At G k T A env m O s → NE m (esc t) → ev c m t = some v → KW2 G O s f v Q → wpAny (model G.prog G.w) A (eval e env) (fun x s₁ => wpAny (model G.prog G.w) A (eval e' env) (fun y s₂ => Q x y s₂) X s₁) X s
noncomputable def SR2 (e e' : Expr) (f : V → V → Option V) (t : E) : Prop :=
  ∀ {A : Around} {env : Env} {m : Fr} {s : Shared} {O : Addr → Prop} {v : V} {Q : Value → Value → Shared → Prop} {X : Value → Shared → Prop}, At G k T A env m O s → NE m (esc t) → ev c m t = some v → KR2 G O s f v Q → wpAny (model G.prog G.w) A (eval e env) (fun x s₁ => wpAny (model G.prog G.w) A (eval e' env) (fun y s₂ => Q x y s₂) X s₁) X s
noncomputable def SIn (e e' : Expr) (t : E) : Prop :=
  ∀ {A : Around} {env : Env} {m : Fr} {s : Shared} {O : Addr → Prop} {v : V} {Q : Value → Value → Shared → Prop} {X : Value → Shared → Prop}, At G k T A env m O s → NE m (esc t) → ev c m t = some v → KW2 G O s inV v (fun d q => Q q d) → wpAny (model G.prog G.w) A (eval e env) (fun x s₁ => wpAny (model G.prog G.w) A (eval e' env) (fun y s₂ => Q x y s₂) X s₁) X s
end
section
variable {G : Gd} {c : Cx} {k : Nat} {T : Tx} {e e' e₁ e₂ : Expr} {t t' t₁ t₂ ta tb : E} {f : V → Option V} {g : V → V → Option V}
theorem SEo.se (h : SEo G c k T e t) : SE G c k T e t := fun a ne hv hQ => h a ne hv fun y s' st r => hQ y s' st (r.vr a.er.ox)
theorem sa_of (h : SE G c k T e t) : SA G c k T e f (.p1 f t) := fun a ne hv hQ => obind hv fun u hu hv => h a ne hu fun y s' st r => hQ u y s' st r.w hv
theorem sa_var {x : Str} {i : Nat} {p : Pos} (n : NmOk T x i) : SA G c k T (.Name x p) f (.pv f i) := fun a ne hv hQ => obind hv fun u hu hv => obind hu fun sl hm hu => name_any a n hm fun y _ r => hQ u y _ (.refl a.inv) (r.view hu) hv
theorem sr2 (ha : SE G c k T e ta) (hb : SE G c k T e' tb) : SR2 G c k T e e' g (.p2 g ta tb) := fun a ne hv hQ => obind hv fun u hu hv => obind hv fun w hw hv =>
  ha a ne.l hu fun x s₁ st rx => hb (a.step st) ne.r hw fun y s₂ st' ry => hQ u w x y s₂ (st.trans st') (rx.step st.inv st') ry hv
theorem sa2_of (h : SR2 G c k T e e' g t) : SA2 G c k T e e' g t := fun a ne hv hQ => h a ne hv fun u w x y s' st rx ry h => hQ u w x y s' st rx.w ry.w h
theorem sa2_var {x : Str} {i : Nat} {p : Pos} (n : NmOk T x i) (hb : SE G c k T e' tb) : SA2 G c k T (.Name x p) e' g (.pe g i tb) := fun a ne hv hQ => obind hv fun u hu hv => obind hu fun sl hm hu => obind hv fun w hw hv =>
  name_any a n hm fun x _ rx => hb a ne hw fun y s₂ st' ry => hQ u w x y s₂ st' ((rx.view hu).step a.inv st') ry.w hv
theorem sin_var {x : Str} {i : Nat} {p : Pos} (n : NmOk T x i) (hb : SE G c k T e' tb) : SIn G c k T e' (.Name x p) (.pe inV i tb) := fun a ne hv hQ => obind hv fun u hu hv => obind hu fun sl hm hu => obind hv fun w hw hv =>
  hb a ne hw fun y s₁ st ry => name_any (a.step st) n hm fun x _ rx => hQ u w x y s₁ st (rx.view hu) ry.w hv
theorem seo_bin {op : Operator} {p : Pos} (h : SR2 G c k T e e' (binV op) t) : SEo G c k T (.BinOp e op e' p) t := fun a ne hv hQ => wpAny_BinOp (h a ne hv fun u w x y s' st rx ry h => ok_bin st.inv (a.step st).er.ox rx ry h (hQ.tr st))
theorem se_neg {p : Pos} (h : SA G c k T e negV t) : SE G c k T (.UnaryOp .USub e p) t := fun a ne hv hQ => wpAny_UnaryOp (h a ne hv fun u y s' st r h => ok_neg st.inv r h (hQ.tr st))
theorem se_inv {p : Pos} (h : SA G c k T e invV t) : SE G c k T (.UnaryOp .Invert e p) t := fun a ne hv hQ => wpAny_UnaryOp (h a ne hv fun u y s' st r h => ok_inv st.inv r h (hQ.tr st))
theorem se_cmp {op : CmpOp} {p : Pos} (hm : behindInMarks op e' = false) (h : SR2 G c k T e e' (cmpV op) t) : SE G c k T (.Compare e [op] [e'] p) t := fun a ne hv hQ => wpAny_Compare1 (h a ne hv fun u w x y s' st rx ry h => ok_cmp a.room st.inv rx ry h (hQ.b st)) hm
theorem tr_bool {v : V} {b d : Bool} (h : truth v = some b) (e : v = .bool d) : d = b := Option.some.inj (show truth (.bool d) = some b from e ▸ h)
theorem sb_cmp {op : CmpOp} {p : Pos} (hm : behindInMarks op e' = false) (h : SR2 G c k T e e' (cmpV op) t) : SB G c k T (.Compare e [op] [e'] p) t := fun a ne hv ht hQ => wpAny_isTrue_Compare1 (h a ne hv fun u w x y s' st rx ry h => ok_cmp a.room st.inv rx ry h fun d s'' st' e => wpAny_truthy_bool (tr_bool ht e ▸ hQ s'' (st.trans st'))) hm
theorem sb_in {p : Pos} (hm : behindInMarks .In e' = false) (h : SIn G c k T e e' t) : SB G c k T (.Compare e [.In] [e'] p) t := fun a ne hv ht hQ => wpAny_isTrue_Compare1 (h a ne hv fun u w x y s' st rx ry h => ok_in st.inv rx ry h fun d s'' st' e => wpAny_truthy_bool (tr_bool ht e ▸ hQ s'' (st.trans st'))) hm
theorem sb_value (he : ∀ env whole, isTrue e env whole = (do let v ← whole; standAt e.pos; holding [v] (truthy v))) (h : SE G c k T e t) : SB G c k T e t := fun a ne hv ht hQ => wpAny_isTrue_value (h a ne hv fun y s' st r => ok_truth st.inv r.w ht fun s'' st' => hQ s'' (st.trans st')) (he _ _)
theorem sb_not {p : Pos} (h : SB G c k T e t) : SB G c k T (.UnaryOp .Not e p) (.p1 notV t) := fun {A env m s O v b Q X} a ne hv ht hQ => obind hv fun u hu hv => omap (C := fun v => truth v = some b → _) hv (fun z hz ht => wpAny_isTrue_Not (h a ne hu hz fun s' st => Option.some.inj ht ▸ hQ s' st)) ht
theorem sb_or {p : Pos} (h : SB G c k T e t) (h' : SB G c k T e' t') : SB G c k T (.BoolOp .Or [e, e'] p) (.or t t') := fun {A env m s O v b Q X} a ne hv ht hQ => obind hv fun u hu hv => obind hv fun z hz hv => by
  refine wpAny_isTrue_BoolOp (wpAny_allTrue_Or_cons (h a ne.l hu hz fun s' st => ?_))
  induction z with
  | true => exact (show Q true s' from Option.some.inj ((congrArg truth (Option.some.inj hv)).trans ht) ▸ hQ s' st)
  | false =>
    refine obind hv fun w hw hv => omap (C := fun v => truth v = some b → _) hv (fun d hd ht => ?_) ht
    refine wpAny_allTrue_Or_cons (h' (a.step st) ne.r hw hd fun s'' st' => ?_)
    have e := Option.some.inj ht
    subst e
    induction d with
    | true => exact hQ s'' (st.trans st')
    | false => exact wpAny_allTrue_Or_nil (hQ s'' (st.trans st'))
theorem se_ite {p : Pos} (h : SB G c k T e t) (h1 : SE G c k T e₁ t₁) (h2 : SE G c k T e₂ t₂) : SE G c k T (.IfExp e e₁ e₂ p) (.ite t t₁ t₂) := fun a ne hv hQ => obind hv fun u hu hv => obind hv fun z hz hv => by
  refine wpAny_IfExp (h a ne.l hu hz fun s' st => ?_)
  induction z with
  | true => exact h1 (a.step st) ne.r.l hv (hQ.tr st)
  | false => exact h2 (a.step st) ne.r.r hv (hQ.tr st)
theorem SEs.run {es : List Expr} {ts : Es} (h : SEs G c k T es ts) : ∀ {pos : Pos} {A : Around} {env : Env} {m : Fr} {s : Shared} {O : Addr → Prop} {vs : List V} {Q : List Value → Shared → Prop} {X : Value → Shared → Prop}, At G k T A env m O s → NE m (escs ts) → evs c m ts = some vs →
    (∀ ys s', St G s s' → ys.length = es.length → VRs G O s'.heap vs ys → Q ys s') → wpAny (model G.prog G.w) A (spliced (backTo pos (starEach es env))) Q X s := by
  induction h with
  | nil => exact fun a _ hv hQ => Calls.spliced_nil (hQ [] _ (.refl a.inv) rfl (Option.some.inj hv ▸ .nil))
  | cons n h _ ih =>
    intro pos A env m s O vs Q X a ne hv hQ
    refine obind hv fun v hv1 hv => omap (C := fun vs => (∀ ys s', St G s s' → ys.length = _ → VRs G O s'.heap vs ys → Q ys s') → _) hv (fun ws hw hQ => ?_) hQ
    rw [n]
    exact Calls.spliced_cons (h a ne.l hv1 fun y s₁ st ry => ih (a.step st) ne.r hw fun ys s₂ st' l rys => hQ _ s₂ (st.trans st') (congrArg (· + 1) l) (.cons (ry.step st.inv st') rys))
inductive Plain : List Expr → Prop
  | nil : Plain []
  | cons {e : Expr} {es : List Expr} (n : Ns e) (r : Plain es) : Plain (e :: es)
theorem SEs.plain {es : List Expr} {ts : Es} (h : SEs G c k T es ts) : Plain es := by
  induction h with
  | nil => exact .nil
  | cons n _ _ ih => exact .cons n ih
theorem few {es : List Expr} {ys : List Value} (hl : decide (es.length ≤ 1000) = true) (h : ys.length = es.length) : ys.length ≤ big := h ▸ Nat.le_trans (of_decide_eq_true hl) (by decide)
theorem se_tup {es : List Expr} {ts : Es} {n : Nat} {p : Pos} (hl : decide (es.length ≤ 1000) = true) (h : SEs G c k T es ts) : SE G c k T (.Tuple es n p) (.pn tupN ts) := fun a ne hv hQ => obind hv fun vs hvs hv =>
  Tuple_ (h.run a ne hvs fun ys s' st l r => ok_newTuple st.inv (a.step st).er.ox r (few hl l) (Option.some.inj hv ▸ hQ.tr st))
theorem seo_lst {es : List Expr} {ts : Es} {p : Pos} (hl : decide (es.length ≤ 1000) = true) (h : SEs G c k T es ts) : SEo G c k T (.List es p) (.pn lstN ts) := fun a ne hv hQ => obind hv fun vs hvs hv =>
  List_ (h.run a ne hvs fun ys s' st l r => ok_newList st.inv r (few hl l) (Option.some.inj hv ▸ hQ.tr st))
noncomputable def Sbs (sl : Expr) : Prop := ∀ o i, ∃ ops, subscripted sl false o i = operate ops (getItem o i)
theorem sub_tail {A : Around} {value slice : Expr} {s : Shared} {x y : Value} {Q X : Value → Shared → Prop} (hs : Sbs slice) (h : HasItem s x) (hg : wpAny (model G.prog G.w) A (getItem x y) Q X s) : wpAny (model G.prog G.w) A (subscriptTail value slice x y) Q X s := by
  obtain ⟨ops, ho⟩ := hs x y
  induction h with | mk h1 h2 => exact tail_any h1 h2 hg ho
theorem se_sub {p : Pos} (hs : Sbs e') (h : SA2 G c k T e e' subV t) : SE G c k T (.Subscript e e' p) t := fun a ne hv hQ => Subscript_ (h a ne hv fun u w x y s' st rx ry h => sub_tail hs (sub_type rx h) (ok_sub st.inv rx ry h (hQ.tr st)))
theorem cutTo_type {s : Shared} {O : Addr → Prop} {v j u : V} {x : Value} (r : VW G O s.heap v x) (h : cutTo v j = some u) : HasItem s x := by
  induction r with
  | list r => exact ⟨lst_type r, slot_list_getitem.lookup⟩
  | tup r => exact ⟨tup_type r, F.slot_tuple_getitem.lookup⟩
  | _ => exact nos h
theorem cutFrom_type {s : Shared} {O : Addr → Prop} {v j u : V} {x : Value} (r : VW G O s.heap v x) (h : cutFrom v j = some u) : HasItem s x := by
  induction r with
  | list r => exact ⟨lst_type r, slot_list_getitem.lookup⟩
  | tup r => exact ⟨tup_type r, F.slot_tuple_getitem.lookup⟩
  | _ => exact nos h
theorem se_cutTo {ps p : Pos} (hs : Sbs (.Slice none (some e') none ps)) (ha : SE G c k T e ta) (hb : SE G c k T e' tb) : SE G c k T (.Subscript e (.Slice none (some e') none ps) p) (.p2 cutTo ta tb) := fun a ne hv hQ => obind hv fun u hu hv => obind hv fun w hw hv =>
  Subscript_ (ha a ne.l hu fun x s₁ st rx => wpAny_Slice (wpAny_evalPart_none (wpAny_evalPart_some (hb (a.step st) ne.r hw fun y s₂ st' ry => wpAny_evalPart_none
    (have st'' := St.push st'.inv { cls := .type "slice", data := .fields #[.none, y, .none] } s₂.toks
     have rx' := rx.step st.inv (st'.trans st'')
     sub_tail hs (cutTo_type rx'.w hv) (ok_cutTo st''.inv (((a.step st).step st').step st'').er.ox rx' (ry.step st'.inv st'').w (Heap.IsSliceOf.new ..) hv (hQ.tr ((st.trans st').trans st''))))))))
theorem se_cutFrom {ps p : Pos} (hs : Sbs (.Slice (some e') none none ps)) (ha : SE G c k T e ta) (hb : SE G c k T e' tb) : SE G c k T (.Subscript e (.Slice (some e') none none ps) p) (.p2 cutFrom ta tb) := fun a ne hv hQ => obind hv fun u hu hv => obind hv fun w hw hv =>
  Subscript_ (ha a ne.l hu fun x s₁ st rx => wpAny_Slice (wpAny_evalPart_some (hb (a.step st) ne.r hw fun y s₂ st' ry => wpAny_evalPart_none (wpAny_evalPart_none
    (have st'' := St.push st'.inv { cls := .type "slice", data := .fields #[y, .none, .none] } s₂.toks
     have rx' := rx.step st.inv (st'.trans st'')
     sub_tail hs (cutFrom_type rx'.w hv) (ok_cutFrom st''.inv (((a.step st).step st').step st'').er.ox rx' (ry.step st'.inv st'').w (Heap.IsSliceOf.new ..) hv (hQ.tr ((st.trans st').trans st''))))))))
theorem evalArgs_any {M : Model} {A : Around} {X : Value → Shared → Prop} {s : Shared} {env : Env} {pos : Pos} {f : Value} {es : List Expr} (pl : Plain es) {Q : Args → Shared → Prop} (h : wpAny M A (spliced (backTo pos (starEach es env))) (fun vs s' => Q ⟨vs, []⟩ s') X s) :
    wpAny M A (evalArgs f true (backTo pos (starEach es env)) []) Q X s := by
  induction pl with
  | nil =>
    unfold evalArgs
    show wpAny M A (spliced [] >>= _) Q X s
    exact wpAny_bind (wpAny_mono h (fun vs s' h' => wpAny_holding (wpAny_bind (wpAny_pure (wpAny_bind (wpAny_pure (wpAny_pure h')))))) fun _ _ x => x)
  | cons n _ => rw [n] at h ⊢; exact Calls.evalArgs_plain h
theorem plain_trees {pos : Pos} {env : Env} {es : List Expr} (pl : Plain es) : (backTo pos (starEach es env)).any (·.1) = false := by
  induction pl with
  | nil => rfl
  | cons n _ ih => rw [n, List.any_cons, ih]; rfl
theorem few_trees {pos : Pos} {env : Env} {es : List Expr} (pl : Plain es) : (backTo pos (starEach es env)).all (fun x => !x.1) = true := by
  induction pl with
  | nil => rfl
  | cons n _ ih => rw [n, List.all_cons, ih]; rfl
theorem se_call {f : Str} {pf p : Pos} {es : List Expr} {ts : Es} {n : Nat} (bs : Bs G c k T) (gn : GnOk T f) (hn : T.gl[n]? = some f) (h : SEs G c k T es ts) : SE G c k T (.Call (.Name f pf) es [] p) (.call n ts) := fun {A env m s O v Q X} a ne hv hQ => obind hv fun vs hvs hv => by
  obtain ⟨fa, hf, hcall⟩ := bs.call n vs v f hv hn
  obtain ⟨o, fd, e0, hc, hd⟩ := hf.obj
  exact wpAny_Call_ofName (name_global a gn (Calls.loadGlobal_global (mg := G.mg) (a.eo.glob ▸ a.inv.glob) hf.glob (Calls.callWith_function (o := o) (fd := fd) (evalArgs_any h.plain (h.run a ne hvs fun ys s₁ st _ rys =>
    ⟨⟨old_func st.inv.old e0 hd hc, hd⟩, wpAny_call (hcall a.room st.inv (a.step st).er.ox rys fun y s' st' r => hQ y s' (st.trans st') r)⟩)))))
inductive Bi : Value → Prop
  | b (id : String) : Bi (.builtin id)
  | t (n : String) : Bi (.type n)
theorem bi_any {A : Around} {env : Env} {m : Fr} {O : Addr → Prop} {s : Shared} {Q X : Value → Shared → Prop} (bs : Bs G c k T) (a : At G k T A env m O s) {f : Str} {b : Value} (n : BN T f b) (hb : Bi b) {pf p : Pos} {es : List Expr} (pl : Plain es)
    (h : wpAny (model G.prog G.w) A (spliced (backTo p (starEach es env))) (fun vs s₁ => wpAny (model G.prog G.w) A (call b vs []) Q X s₁) X s) : wpAny (model G.prog G.w) A (eval (.Call (.Name f pf) es [] p) env) Q X s := by
  refine wpAny_Call_ofName (name_bi bs a n ?_)
  induction hb with
  | b id => exact Calls.callWith_builtin (plain_trees pl) (evalArgs_any pl h)
  | t id => exact PyProof.Rows.callWith_type (plain_trees pl) (evalArgs_any pl h)
theorem spl1 {M : Model} {A : Around} {X : Value → Shared → Prop} {s : Shared} {env : Env} {pos : Pos} (n : Ns e) {Q : List Value → Shared → Prop} (h : wpAny M A (eval e env) (fun v s₁ => Q [v] s₁) X s) : wpAny M A (spliced (backTo pos (starEach [e] env))) Q X s := by
  rw [n]; exact Calls.spliced_cons (wpAny_mono h (fun v s₁ h₁ => Calls.spliced_nil h₁) fun _ _ x => x)
theorem spl2 {M : Model} {A : Around} {X : Value → Shared → Prop} {s : Shared} {env : Env} {pos : Pos} (n : Ns e) (n' : Ns e') {Q : List Value → Shared → Prop} (h : wpAny M A (eval e env) (fun v s₁ => wpAny M A (eval e' env) (fun u s₂ => Q [v, u] s₂) X s₁) X s) : wpAny M A (spliced (backTo pos (starEach [e, e'] env))) Q X s := by
  rw [n]; exact Calls.spliced_cons (wpAny_mono h (fun v s₁ h₁ => spl1 n' h₁) fun _ _ x => x)
noncomputable def Ok1 (G : Gd) (k : Nat) (b : Value) (f : V → Option V) : Prop := ∀ {A O s u y v Q} {X : Value → Shared → Prop}, Room A k → Inv G s → OX G O s.heap → VW G O s.heap u y → f u = some v → KV G O s v Q → wpAny (model G.prog G.w) A (call b [y] []) Q X s
noncomputable def Ok2 (G : Gd) (k : Nat) (b : Value) (f : V → V → Option V) : Prop := ∀ {A O s u w x y v Q} {X : Value → Shared → Prop}, Room A k → Inv G s → OX G O s.heap → VW G O s.heap u x → VW G O s.heap w y → f u w = some v → KV G O s v Q → wpAny (model G.prog G.w) A (call b [x, y] []) Q X s
theorem ok1_len : Ok1 G k (.builtin "len") lenV := fun _ i _ r h hQ => ok_len i r h hQ
theorem ok1_sum : Ok1 G k (.builtin "sum") sumV := fun hr i _ r h hQ => ok_sum hr i r h hQ
theorem ok1_range : Ok1 G k (.type "range") (rngV (.int 0)) := fun _ i ox r h hQ => ok_range1 i ox r h hQ
theorem ok2_divmod : Ok2 G k (.builtin "divmod") divmV := fun _ i ox r q h hQ => ok_divm i ox r q h hQ
theorem ok2_range : Ok2 G k (.type "range") rngV := fun _ i ox r q h hQ => ok_range2 i ox r q h hQ
theorem se_bi1 {x : Str} {b : Value} {pf p : Pos} (bs : Bs G c k T) (hb : Bi b) (ok : Ok1 G k b f) (n : BN T x b) (ns : Ns e) (h : SA G c k T e f t) : SE G c k T (.Call (.Name x pf) [e] [] p) t := fun a ne hv hQ =>
  bi_any bs a n hb (.cons ns .nil) (spl1 ns (h a ne hv fun u y s' st r h => ok a.room st.inv (a.step st).er.ox r h (hQ.tr st)))
theorem se_bi2 {x : Str} {b : Value} {pf p : Pos} (bs : Bs G c k T) (hb : Bi b) (ok : Ok2 G k b g) (n : BN T x b) (ns : Ns e) (ns' : Ns e') (h : SA2 G c k T e e' g t) : SE G c k T (.Call (.Name x pf) [e, e'] [] p) t := fun a ne hv hQ =>
  bi_any bs a n hb (.cons ns (.cons ns' .nil)) (spl2 ns ns' (h a ne hv fun u w y z s' st r q h => ok a.room st.inv (a.step st).er.ox r q h (hQ.tr st)))
theorem se_isTup {x y : Str} {pf p pt : Pos} (bs : Bs G c k T) (n : BN T x (.builtin "isinstance")) (n' : BN T y (.type "tuple")) (ns : Ns e) (ns' : Ns (.Name y pt)) (h : SA G c k T e isTupV t) : SE G c k T (.Call (.Name x pf) [e, .Name y pt] [] p) t := fun a ne hv hQ =>
  bi_any bs a n (.b _) (.cons ns (.cons ns' .nil)) (spl2 ns ns' (h a ne hv fun u y s' st r h => name_bi bs (a.step st) n' (ok_isTup st.inv r h (hQ.tr st))))
noncomputable def Nc (o : Expr) : Prop := ∀ (name : Str) env, attributeBase o name env (eval o env) = eval o env
inductive Mth (s : Shared) (name : Str) (x : Value) (id : String) : Prop
  | mk {TT : String} (pa : PlainAttrs TT) (sl : PySem.Slot TT name id) (ty : typeOf (.builtin id) = pure (.type "method_descriptor")) (hT : s.TypeIs x TT) (hd : ∀ a, x = .ref a → ∃ ob, s.heap.get? a = some ob ∧ ob.dict = none)
theorem method_any {A : Around} {env : Env} {s : Shared} {o : Expr} {name : Str} {ap p : Pos} {es : List Expr} {Q X : Value → Shared → Prop} (hl : (ap.endLine == p.line) = true) (hc : Nc o) (pl : Plain es) (hlen : decide (es.length + 0 + 0 < 30) = true)
    (h : wpAny (model G.prog G.w) A (eval o env) (fun x s₁ => ∃ id, Mth s₁ name x id ∧ wpAny (model G.prog G.w) A (spliced (backTo p (starEach es env))) (fun vs s₂ => wpAny (model G.prog G.w) A (call (.builtin id) (x :: vs) []) Q X s₂) X s₁) X s) :
    wpAny (model G.prog G.w) A (eval (.Call (.Attribute o name ap) es [] p) env) Q X s := by
  refine wpAny_Call_method_late (hc name env) ?_ hl rfl (wpAny_mono h (fun x s₁ h₁ => ?_) fun _ _ x => x)
  · rw [few_trees pl]; exact hlen
  · obtain ⟨id, m, hh⟩ := h₁
    induction m with | mk pa sl ty hT hd => exact ⟨_, id, pa, sl, ty, hT, hd, Calls.callWith_builtin (plain_trees pl) (evalArgs_any pl hh)⟩
theorem se_bitlen {o : Expr} {ap p : Pos} (hl : (ap.endLine == p.line) = true) (hc : Nc o) (h : SA G c k T o bitlenV t) : SE G c k T (.Call (.Attribute o "bit_length" ap) [] [] p) t := fun {A env m s O v Q X} a ne hv hQ =>
  method_any hl hc .nil rfl (h a ne hv fun u y s' st r h => omap (C := fun v => KV G O s v Q → _) h (fun j hj hQ => by
    cases r.oi hj with | mk t =>
    exact ⟨_, ⟨F.plainAttrs_int, F.slot_int_bit_length, F.type_int_bit_length, typeIs_int _ _ _, fun _ e => Value.noConfusion e⟩, Calls.spliced_nil (call_int_bit_length (hQ _ _ (st.trans (.toks st.inv _)) (bits_eq j ▸ .int _ _)))⟩) hQ)
theorem lst_mth {s : Shared} {O : Addr → Prop} {a : Addr} {xs : List V} (r : LstA (VR G O s.heap) s.heap a xs) : ∀ b, Value.ref a = .ref b → ∃ ob, s.heap.get? b = some ob ∧ ob.dict = none := by
  induction r with | mk e => exact fun b q => Value.ref.inj q ▸ ⟨_, e, rfl⟩
theorem se_count {o x : Expr} {ap p : Pos} (hl : (ap.endLine == p.line) = true) (hc : Nc o) (n : Ns x) (ha : SE G c k T o ta) (hb : SE G c k T x tb) : SE G c k T (.Call (.Attribute o "count" ap) [x] [] p) (.p2 countV ta tb) := fun {A env m s O v Q X} a ne hv hQ => obind hv fun u hu hv => obind hv fun w hw hv =>
  method_any hl hc (.cons n .nil) rfl (ha a ne.l hu fun y s' st r => obind hv fun xs hx _ => by
    cases r.w.ol hx with | mk rl =>
    exact ⟨_, ⟨F.plainAttrs_list, F.slot_list_count, F.type_list_count, lst_type rl, lst_mth rl⟩, spl1 n (hb (a.step st) ne.r hw fun z s'' st' q => ok_count a.room st'.inv (r.step st.inv st').w q hv (hQ.tr (st.trans st')))⟩)
theorem se_index {o x : Expr} {ap p : Pos} (hl : (ap.endLine == p.line) = true) (hc : Nc o) (n : Ns x) (ha : SE G c k T o ta) (hb : SE G c k T x tb) : SE G c k T (.Call (.Attribute o "index" ap) [x] [] p) (.p2 idxV ta tb) := fun {A env m s O v Q X} a ne hv hQ => obind hv fun u hu hv => obind hv fun w hw hv =>
  method_any hl hc (.cons n .nil) rfl (ha a ne.l hu fun y s' st r => obind hv fun b hb' _ => by
    have r' := r
    cases r.w.ostr hb' with | mk t =>
    exact ⟨_, ⟨F.plainAttrs_str, F.slot_str_index, F.type_str_index, typeIs_str _ _ _, fun _ e => Value.noConfusion e⟩, spl1 n (hb (a.step st) ne.r hw fun z s'' st' q => ok_idx st'.inv (r'.step st.inv st').w q.w hv (hQ.tr (st.trans st')))⟩)
theorem dct_dict {s : Shared} {O : Addr → Prop} {a : Addr} {g : Nat} {es : List (K × V)} (r : DctA (VR G O s.heap) s.heap a G g es) : ∀ b, Value.ref a = .ref b → ∃ ob, s.heap.get? b = some ob ∧ ob.dict = none := by
  induction r with | mk pg ns of =>
  obtain ⟨o, des, ep, ho, hc, _⟩ := of
  exact fun b q => Value.ref.inj q ▸ ⟨o, ho, hc.2.1⟩
theorem get_any {A : Around} {env : Env} {m : Fr} {O : Addr → Prop} {s s' : Shared} {x y : Expr} {p : Pos} {d v : V} {z : Value} {tx ty : E} {Q X : Value → Shared → Prop} (a : At G k T A env m O s) (st : St G s s') (r : VW G O s'.heap d z) (n : Ns x) (n' : Ns y) (hx : SE G c k T x tx) (hy : SE G c k T y ty)
    (ne : NE m (escs (.cons tx (.cons ty .nil)))) {w : V} (hw : ev c m (.pn tupN (.cons tx (.cons ty .nil))) = some w) (hv : getV d w = some v) (hQ : KV G O s v Q) :
    ∃ id, Mth s' "get" z id ∧ wpAny (model G.prog G.w) A (spliced (backTo p (starEach [x, y] env))) (fun vs s₂ => wpAny (model G.prog G.w) A (call (.builtin id) (z :: vs) []) Q X s₂) X s' := by
  refine obind hw fun us hus hw => ?_
  refine obind hus fun v1 e1 hus => ?_
  refine omap (C := fun us => tupN us = some w → _) hus (fun us' hus' hw => ?_) hw
  refine obind hus' fun v2 e2 hus' => ?_
  cases Option.some.inj hus'
  cases Option.some.inj hw
  have r' := r
  refine obind hv fun es he _ => ?_
  cases r.od he with | mk rd =>
  exact ⟨_, ⟨F.plainAttrs_dict, F.slot_dict_get, F.type_dict_get, dct_type rd, dct_dict rd⟩, spl2 n n' (hx (a.step st) ne.l e1 fun y1 s1 st1 r1 => hy ((a.step st).step st1) ne.r.l e2 fun y2 s2 st2 r2 =>
    ok_get st2.inv ((r'.step st.inv st1).step st1.inv st2) (r1.step st1.inv st2) r2 hv (hQ.tr ((st.trans st1).trans st2)))⟩
theorem se_getE {o x y : Expr} {ap p : Pos} {tx ty : E} (hl : (ap.endLine == p.line) = true) (hc : Nc o) (n : Ns x) (n' : Ns y) (ha : SE G c k T o ta) (hx : SE G c k T x tx) (hy : SE G c k T y ty) :
    SE G c k T (.Call (.Attribute o "get" ap) [x, y] [] p) (.p2 getV ta (.pn tupN (.cons tx (.cons ty .nil)))) := fun {A env m s O v Q X} a ne hv hQ => obind hv fun u hu hv => obind hv fun w hw hv =>
  method_any hl hc (.cons n (.cons n' .nil)) rfl (ha a ne.l hu fun z s' st r => get_any a st r.w n n' hx hy ne.r hw hv hQ)
theorem se_getV {o : Str} {po : Pos} {i : Nat} {x y : Expr} {ap p : Pos} {tx ty : E} (nm : NmOk T o i) (hl : (ap.endLine == p.line) = true) (hc : Nc (.Name o po)) (n : Ns x) (n' : Ns y) (hx : SE G c k T x tx) (hy : SE G c k T y ty) :
    SE G c k T (.Call (.Attribute (.Name o po) "get" ap) [x, y] [] p) (.pe getV i (.pn tupN (.cons tx (.cons ty .nil)))) := fun {A env m s O v Q X} a ne hv hQ => obind hv fun u hu hv => obind hu fun sl hm hu => obind hv fun w hw hv =>
  method_any hl hc (.cons n (.cons n' .nil)) rfl (name_any a nm hm fun z _ r => get_any a (.refl a.inv) (r.view hu) n n' hx hy ne hw hv hQ)
theorem ok1_max : Ok1 G k (.builtin "max") maxV := fun hr i _ r h hQ => ok_max hr i r h hQ
theorem sb_nin {p : Pos} (hm : behindInMarks .NotIn e' = false) (h : SR2 G c k T e e' ninV t) : SB G c k T (.Compare e [.NotIn] [e'] p) t := fun a ne hv ht hQ => wpAny_isTrue_Compare1 (h a ne hv fun u w x y s' st rx ry h => ok_nin a.room st.inv rx ry h fun d s'' st' e => wpAny_truthy_bool (tr_bool ht e ▸ hQ s'' (st.trans st'))) hm
theorem sb_ins {p : Pos} (hm : behindInMarks .In e' = false) (h : SR2 G c k T e e' insV t) : SB G c k T (.Compare e [.In] [e'] p) t := fun a ne hv ht hQ => wpAny_isTrue_Compare1 (h a ne hv fun u w x y s' st rx ry h => ok_ins st.inv rx ry h fun d s'' st' e => wpAny_truthy_bool (tr_bool ht e ▸ hQ s'' (st.trans st'))) hm
theorem sb_and {p : Pos} (h : SB G c k T e t) (h' : SB G c k T e' t') : SB G c k T (.BoolOp .And [e, e'] p) (.ite t t' (.cst (.bool false))) := fun {A env m s O v b Q X} a ne hv ht hQ => obind hv fun u hu hv => obind hv fun z hz hv => by
  refine wpAny_isTrue_BoolOp (wpAny_allTrue_And_cons (h a ne.l hu hz fun s' st => ?_))
  induction z with
  | false => exact (show Q false s' from Option.some.inj ((congrArg truth (Option.some.inj hv)).trans ht) ▸ hQ s' st)
  | true =>
    refine wpAny_allTrue_And_cons (h' (a.step st) ne.r.l hv ht fun s'' st' => ?_)
    induction b with
    | false => exact hQ s'' (st.trans st')
    | true => exact wpAny_allTrue_And_nil (hQ s'' (st.trans st'))
theorem sb_or3 {e'' : Expr} {t'' : E} {p : Pos} (h : SB G c k T e t) (h' : SB G c k T e' t') (h'' : SB G c k T e'' t'') : SB G c k T (.BoolOp .Or [e, e', e''] p) (.or t (.or t' t'')) := fun {A env m s O v b Q X} a ne hv ht hQ => obind hv fun u hu hv => obind hv fun z hz hv => by
  refine wpAny_isTrue_BoolOp (wpAny_allTrue_Or_cons (h a ne.l hu hz fun s' st => ?_))
  induction z with
  | true => exact (show Q true s' from Option.some.inj ((congrArg truth (Option.some.inj hv)).trans ht) ▸ hQ s' st)
  | false =>
    refine obind hv fun w hw hv => omap (C := fun v => truth v = some b → _) hv (fun d hd ht => ?_) ht
    have e := Option.some.inj ht
    subst e
    refine obind hw fun w1 hw1 hw2 => obind hw2 fun z1 hz1 hw2 => ?_
    refine wpAny_allTrue_Or_cons (h' (a.step st) ne.r.l hw1 hz1 fun s'' st' => ?_)
    induction z1 with
    | true => exact (show Q true s'' from Option.some.inj ((congrArg truth (Option.some.inj hw2)).trans hd) ▸ hQ s'' (st.trans st'))
    | false =>
      refine obind hw2 fun w2 hw3 hw2 => omap (C := fun v => truth v = some d → _) hw2 (fun d2 hd2 ht => ?_) hd
      have e := Option.some.inj ht
      subst e
      refine wpAny_allTrue_Or_cons (h'' ((a.step st).step st') ne.r.r hw3 hd2 fun s3 st3 => ?_)
      induction d2 with
      | true => exact hQ s3 ((st.trans st').trans st3)
      | false => exact wpAny_allTrue_Or_nil (hQ s3 ((st.trans st').trans st3))
theorem se_sub2 {x : Str} {ix : Nat} {px p p' : Pos} {ei ej : Expr} {ti tj : E} (nm : NmOk T x ix) (hs : Sbs ei) (hs' : Sbs ej) (hi : SE G c k T ei ti) (hj : SE G c k T ej tj) :
    SE G c k T (.Subscript (.Subscript (.Name x px) ei p') ej p) (.pe sub2V ix (.pn tupN (.cons ti (.cons tj .nil)))) := fun {A env m s O v Q X} a ne hv hQ => obind hv fun u hu hv => obind hu fun sl hm hu => obind hv fun w hw hv => by
  refine obind hw fun us hus hw => ?_
  refine obind hus fun v1 e1 hus => ?_
  refine omap (C := fun us => tupN us = some w → _) hus (fun us' hus' hw => ?_) hw
  refine obind hus' fun v2 e2 hus' => ?_
  cases Option.some.inj hus'
  cases Option.some.inj hw
  refine Subscript_ (Subscript_ (name_any a nm hm fun z _ r => hi a ne.l e1 fun y1 s1 st1 r1 => ?_))
  have rv := (r.view hu).step a.inv st1
  cases rv with
  | @rows xss b rr =>
    refine obind hv fun i hi' hv => obind hv fun j hj' hv => ?_
    unfold rowAt at hv
    by_cases q : 0 ≤ i ∧ 0 ≤ j
    · refine obind ((if_pos q).symm.trans hv) fun xs hxs hv => omap (C := fun v => KV G O s v Q → _) hv (fun n hn hQ => ?_) hQ
      cases r1.w.oi hi' with | mk t1 =>
      obtain ⟨i, rfl⟩ := Int.eq_ofNat_of_zero_le q.1
      obtain ⟨j, rfl⟩ := Int.eq_ofNat_of_zero_le q.2
      cases rr with | @mk ws n' e l rel nd =>
      refine rel.get hxs fun y hy ry => ?_
      refine sub_tail hs ⟨⟨_, e, rfl⟩, slot_list_getitem.lookup⟩ (wpAny_getItem_list ⟨_, e, rfl, _, rfl⟩ (Int.natCast_nonneg i) (big63 (Nat.le_trans (Nat.le_of_lt (get_lt hy)) l)) (seq_get hy) ?_)
      refine hj (a.step st1) ne.r.l e2 fun y2 s2 st2 r2 => ?_
      cases r2.w.oi hj' with | mk t2 =>
      cases ry with | @mk b' ws' n'' e' l' rel' =>
      have e'' := st2.kp _ _ (st1.inv.notTab e' type_ne) e'
      refine rel'.get hn fun yy hyy ryy => ?_
      cases ryy with | mk tt =>
      exact sub_tail hs' ⟨⟨_, e'', rfl⟩, slot_list_getitem.lookup⟩ (wpAny_getItem_list ⟨_, e'', rfl, _, rfl⟩ (Int.natCast_nonneg j) (big63 (Nat.le_trans (Nat.le_of_lt (get_lt hyy)) l')) (seq_get hyy) (hQ _ _ (st1.trans st2) (.int _ _)))
    · exact nos ((if_neg q).symm.trans hv)
  | _ => exact nos hv
end
theorem dct_kp {prog : Program} {w : World} {h h' : Heap} {a : Addr} {kvs : List (K × Value)} (x : h.DictOf (kk prog w) a kvs) (k : ∀ o, h.get? a = some o → h'.get? a = some o) : h'.DictOf (kk prog w) a kvs := by
  obtain ⟨o, es, ep, ho, r⟩ := x
  exact ⟨o, es, ep, k o ho, r⟩
section
variable {G : Gd} {O : Addr → Prop} {s s' s'' : Shared}
theorem notSys (i : Inv G s) : (s.heap.objs.size == sysModules) = false := by
  obtain ⟨mc, hn, _⟩ := i.nolim
  exact beq_false_of_ne (Nat.ne_of_gt (Nat.lt_trans (by decide) hn.lt))
theorem St.butNew (st : St G s s') (i : Inv G s) {W : Addr → Prop} {h' : Heap} (hW : ∀ b, W b → s.heap.get? b = none) (hc : ∀ b, W b → ∀ o, s'.heap.get? b = some o → ¬ Rec o)
    (k : ∀ b o, ¬ W b → s'.heap.get? b = some o → h'.get? b = some o) (tk : Nat) : St G s { s' with heap := h', toks := tk } :=
  have old : ∀ b o, s.heap.get? b = some o → ¬ W b := fun b o e w => nos ((hW b w).symm.trans e)
  ⟨st.inv.but (fun b w => i.new (hW b w)) (fun b w => i.freshNotTab (hW b w)) hc k (fun b w _ => i.fresh b (hW b w)) tk, fun b o nt e => k b o (old b o e) (st.kp b o nt e), fun P pos v hP en => by
    have hw : ¬ W P := by induction en with | mk e _ => exact old P _ e
    induction st.tb P pos v hP en with | mk e hv => exact ⟨k P _ hw e, hv⟩⟩
theorem ER.more {F : Addr → Prop} {env : Env} {m : Fr} (i : Inv G s) (k : St G s s') (hF : ∀ a, F a → s.heap.get? a = none) (hx : ∀ a, F a → ∃ o, s'.heap.get? a = some o) (r : ER G O s.heap env m) : ER G (fun a => O a ∨ F a) s'.heap env m :=
  ⟨r.loc, fun a ha => ha.elim (r.ox.step k a) fun h => ⟨i.freshNotTab (hF a h), hx a h⟩, fun x hx => (r.cel x hx).step k, fun x sl h1 h2 => by
    obtain ⟨y, v, q⟩ := r.var x sl h1 h2
    exact ⟨y, v.step r.loc k, q.map (k.vkM i hF) (fun a o _ e hc => k.kp a o (i.notTab e hc) e) k.tb⟩⟩
theorem At.more {F : Addr → Prop} {k : Nat} {T : Tx} {A : Around} {env : Env} {m : Fr} (a : At G k T A env m O s) (st : St G s s') (hF : ∀ a, F a → s.heap.get? a = none) (hx : ∀ a, F a → ∃ o, s'.heap.get? a = some o) : At G k T A env m (fun a => O a ∨ F a) s' :=
  ⟨a.room, st.inv, a.eo, a.er.more a.inv st hF hx⟩
theorem one_there (h : Heap) {o : Obj} (hf : o.isFreed = false) : ∀ a, a = h.objs.size → ∃ o', (h.push o).get? a = some o' := fun a e => e ▸ ⟨o, Heap.get?_push_size _ hf⟩
end
section
variable {G : Gd} {c : Cx} {k : Nat} {T : Tx} {ke ve : Expr} {tk tv : E}
theorem seo_dct0 {p : Pos} (bs : Bs G c k T) : SEo G c k T (.Dict [] [] p) (.dct .nil .nil) := fun a ne hv hQ =>
  wpAny_Dict_empty (hQ _ _ (St.push a.inv _ _) (Option.some.inj hv ▸ bs.gen ▸ .d (get_size _) ⟨a.inv.fresh _ (get_size _), notSys a.inv, Heap.DictOf.new _, Nat.zero_le _, .nil⟩))
theorem seo_dct1 {p : Pos} (bs : Bs G c k T) (hk : SE G c k T ke tk) (hv : SE G c k T ve tv) : SEo G c k T (.Dict [some ke] [ve] p) (.dct (.cons tk .nil) (.cons tv .nil)) := fun {A env m s O v Q X} a ne he hQ => by
  refine obind he fun kv h1 he => obind h1 fun k0 e1 h1 => obind he fun vv h2 he => obind h2 fun v0 e2 h2 => ?_
  cases Option.some.inj h1
  cases Option.some.inj h2
  refine omap (C := fun v => KO G O s v Q → _) he (fun ks hks hQ => ?_) hQ
  refine obind hks fun q hq hks => ?_
  cases Option.some.inj hks
  have st0 := St.push a.inv { cls := .type "dict", data := .dict #[] } s.toks
  have a' := a.more (F := fun b => b = s.heap.objs.size) st0 (one_fresh _) (one_there _ rfl)
  refine wpAny_Dict_pairs (knd := kk G.prog G.w) (pairs := [(eval ke env, do let x ← eval ve env; standAt p; pure x)]) rfl (fun h => List.noConfusion rfl (heq_of_eq h)) (show 1 ≤ 15 by decide) ?_
  unfold evalPairs
  refine wpAny_bind (hk a' ne.l.l e1 fun x s₁ st1 rx => wpAny_bind (wpAny_holding (wpAny_bind (hv (a'.step st1) ne.r.l e2 fun y s₂ st2 ry => wpAny_bind (wpAny_standAt (wpAny_pure ?_))))))
  refine wpAny_bind (wpAny_holding ?_)
  unfold evalPairs
  refine wpAny_pure (wpAny_pure ⟨[(q, y)], ⟨(rx.w.key hq), rfl, trivial⟩, ?_, fun h' hd hs => ?_⟩)
  · exact dct_kp (Heap.DictOf.new s.heap) fun o e => (st1.trans st2).kp _ o (a.inv.freshNotTab (get_size _)) e
  · have st3 := ((st0.trans st1).trans st2).butNew (W := fun b => b = s.heap.objs.size) (h' := h') a.inv (one_fresh _) (fun b hb o e => by
        subst hb
        have e' := Option.some.inj (e.symm.trans ((st1.trans st2).kp _ _ (a.inv.freshNotTab (get_size _)) (Heap.get?_push_size _ rfl)))
        subst e'
        exact fun h => by obtain ⟨h, _⟩ := h; injection h with h; exact absurd h (by decide)) (fun b o hb e => hs.extBut b o hb e)
    exact hQ _ _ (st3 _) (bs.gen ▸ .d (get_size _) ⟨a.inv.fresh _ (get_size _), notSys a.inv, hd, Nat.le_trans (show 1 ≤ 1 from Nat.le_refl _) (by decide), .cons (.mk (ry.mono fun b o e _ no => ⟨no, hs.extBut b o (fun h => no (.inr h)) e⟩)) .nil⟩)
theorem seo_dct2 {ke' ve' : Expr} {tk' tv' : E} {p : Pos} (bs : Bs G c k T) (hk : SE G c k T ke tk) (hv : SE G c k T ve tv) (hk' : SE G c k T ke' tk') (hv' : SE G c k T ve' tv') :
    SEo G c k T (.Dict [some ke, some ke'] [ve, ve'] p) (.dct (.cons tk (.cons tk' .nil)) (.cons tv (.cons tv' .nil))) := fun {A env m s O v Q X} a ne he hQ => by
  refine obind he fun kv h1 he => obind h1 fun k0 e1 h1 => obind he fun vv h2 he => obind h2 fun v0 e2 h2 => ?_
  refine omap (C := fun kv => (keysOf kv).map (fun ks => V.dict c.gen (dsets ks vv)) = some v → _) h1 (fun kv' h1' he => ?_) he
  refine omap (C := fun vv => (keysOf (k0 :: kv')).map (fun ks => V.dict c.gen (dsets ks vv)) = some v → _) h2 (fun vv' h2' he => ?_) he
  refine obind h1' fun k1 e3 h1' => obind h2' fun v1 e4 h2' => ?_
  cases Option.some.inj h1'
  cases Option.some.inj h2'
  refine omap (C := fun v => KO G O s v Q → _) he (fun ks hks hQ => ?_) hQ
  refine obind hks fun q hq hks => omap (C := fun ks => KO G O s (V.dict c.gen (dsets ks [v0, v1])) Q → _) hks (fun ks' hks' hQ => ?_) hQ
  refine obind hks' fun q' hq' hks' => ?_
  cases Option.some.inj hks'
  have st0 := St.push a.inv { cls := .type "dict", data := .dict #[] } s.toks
  have a' := a.more (F := fun b => b = s.heap.objs.size) st0 (one_fresh _) (one_there _ rfl)
  refine wpAny_Dict_walk (knd := kk G.prog G.w) rfl rfl (fun h => List.noConfusion rfl (heq_of_eq h)) (show 2 ≤ 15 by decide) ?_
  refine pairTrees_cons_walk (hk a' ne.l.l e1 fun x s₁ st1 rx => hv (a'.step st1) ne.r.l e2 fun y s₂ st2 ry => ?_)
  refine pairTrees_cons_walk (hk' ((a'.step st1).step st2) ne.l.r.l e3 fun x' s₃ st3 rx' => hv' (((a'.step st1).step st2).step st3) ne.r.r.l e4 fun y' s₄ st4 ry' => pairTrees_nil_walk ?_)
  have st34 := st3.trans st4
  have st14 := (st1.trans st2).trans st34
  refine ⟨[(q, y), (q', y')], ⟨rx.w.key hq, rfl, rx'.w.key hq', rfl, trivial⟩, dct_kp (Heap.DictOf.new s.heap) fun o e => st14.kp _ o (a.inv.freshNotTab (get_size _)) e, fun h' hd hs => ?_⟩
  have st5 := (st0.trans st14).butNew (W := fun b => b = s.heap.objs.size) (h' := h') a.inv (one_fresh _) (fun b hb o e => by
        subst hb
        have e' := Option.some.inj (e.symm.trans (st14.kp _ _ (a.inv.freshNotTab (get_size _)) (Heap.get?_push_size _ rfl)))
        subst e'
        exact fun h => by obtain ⟨h, _⟩ := h; injection h with h; exact absurd h (by decide)) (fun b o hb e => hs.extBut b o hb e)
  have m {u : V} {z : Value} (r : VR G (fun a => O a ∨ a = s.heap.objs.size) s₄.heap u z) : VR G (fun a => O a ∨ a = s.heap.objs.size) h' u z := r.mono fun b o e _ no => ⟨no, hs.extBut b o (fun h => no (.inr h)) e⟩
  exact hQ _ _ (st5 _) (bs.gen ▸ .d (get_size _) ⟨a.inv.fresh _ (get_size _), notSys a.inv, hd, Nat.le_trans (stored_length _ _ _) (Nat.le_trans (Nat.succ_le_succ (stored_length _ _ _)) (by decide)),
    dset_at (m ry') (dset_at (es := []) (m (ry.step st2.inv st34)) .nil .nil) (stored_nodup (kvs := []) .nil)⟩)
end
theorem map_get {α β : Type} {f : α → β} {l : List α} {i : Nat} {b : β} {C : β → Prop} (h : (l.map f)[i]? = some b) (k : ∀ a, l[i]? = some a → C (f a)) : C b := omap (List.getElem?_map.symm.trans h) k
theorem kv_at {r : V → Value → Prop} {es : List (K × V)} {kvs : List (K × Value)} (h : All2 (Kv r) es kvs) {i : Nat} {p : K × V} {q : K × Value} (e : es[i]? = some p) (e' : kvs[i]? = some q) : p.1 = q.1 ∧ r p.2 q.2 := by
  have x := h.at e e'
  induction x with | mk x => exact ⟨rfl, x⟩
section
variable {G : Gd} {c : Cx} {k : Nat} {T : Tx} {O : Addr → Prop} {s s' : Shared}
theorem vkey_vr {h : Heap} {q : K} {v : Value} (e : (kk G.prog G.w).is q v = true) : VR G O h (vKey q) v := by
  have x := kIs_shape e
  cases x with
  | s => exact .str _ _
  | i => exact .int _ _
theorem dct_mth {a : Addr} {g : Nat} {es : List (K × V)} (r : DctA (VR G O s.heap) s.heap a G g es) : ∀ b, Value.ref a = .ref b → ∃ ob, s.heap.get? b = some ob ∧ ob.dict = none := by
  induction r with | mk pg ns of =>
  obtain ⟨o, des, ep, ho, hc, _⟩ := of
  exact fun b q => Value.ref.inj q ▸ ⟨o, ho, hc.2.1⟩
theorem fresh_ge (ox : OX G O s.heap) {b : Addr} (h : s.heap.objs.size ≤ b) : ¬ O b := ox.new (Heap.get?_none_of_le h)
theorem dictAt_of {prog : Program} {w : World} {h : Heap} {a : Addr} {kvs : List (K × Value)} {C : Prop} (x : h.DictOf (kk prog w) a kvs) (k : ∀ ep o, h.get? a = some o → o.cls = .type "dict" → h.DictAt (kk prog w) a kvs ep → C) : C := by
  obtain ⟨o, es, ep, ho, hc, r⟩ := x
  exact k ep o ho hc.1 ⟨o, es, ho, hc, r⟩
theorem se_listI {f : Str} {pf p ap pc : Pos} {o : Expr} {t : E} (bs : Bs G c k T) (n : BN T f (.type "list")) (hl : (ap.endLine == pc.line) = true) (hc : Nc o) (ns : Ns (.Call (.Attribute o "items" ap) [] [] pc)) (h : SE G c k T o t) :
    SE G c k T (.Call (.Name f pf) [.Call (.Attribute o "items" ap) [] [] pc] [] p) (.p1 listItems t) := fun {A env m s O v Q X} a ne hv hQ => obind hv fun u hu hv => by
  refine bi_any bs a n (.t _) (.cons ns .nil) (spl1 ns (method_any hl hc .nil rfl (h a ne hu fun x s₁ st rx => ?_)))
  refine omap (C := fun v => KV G O s v Q → _) hv (fun es he hQ => ?_) hQ
  cases rx.w.od he with | @mk _ b rd =>
  refine ⟨_, ⟨F.plainAttrs_dict, F.slot_dict_items, F.type_dict_items, dct_type rd, dct_mth rd⟩, Calls.spliced_nil ?_⟩
  have hT := dct_type rd
  cases rd with | @mk kvs pg ns of l rel =>
  refine call_meetsIn F.slot_dict_items hT F.entry_dict_items (F.args_dict_items_1 _) (meets_dict_items (kk G.prog G.w) _ ns) ⟨⟨_, of⟩, ?_⟩
  have st2 := St.push st.inv { cls := .type "dict_items", data := .fields #[.ref b] } s₁.toks
  refine dictAt_of of fun ep o ho hc hat => ?_
  refine W.kdx_call (s := { s₁ with heap := s₁.heap.push { cls := .type "dict_items", data := .fields #[.ref b] } }) a.room.handled ⟨_, Heap.get?_push_size _ rfl, rfl, rfl⟩ (hat.push _) (Nat.le_trans l big_le) fun h' tk acc c' as keep hg hlen hG hacc => ?_
  have st3 := St.keeps st2.inv keep tk
  have st23 := st2.trans st3
  have ox2 := (a.step (st.trans st2)).er.ox
  have rel' := All2.imp (fun _ _ => kv_mono (st23.vk st.inv)) rel
  have al : acc.toList.length = kvs.length := by rw [hacc, List.length_map, hlen]
  refine hQ _ _ (st.trans st23) (.mkL (fresh_ge ox2 (Nat.le_refl _)) ⟨hg, al ▸ l, .of ((List.length_map ..).trans (rel.length.trans al.symm)) fun i v w ev ew => ?_⟩)
  rw [hacc] at ew
  refine map_get (C := fun v => VR G O h' v w) ev fun q eq => map_get (C := fun w => VR G O h' _ w) ew fun ta et => ?_
  obtain ⟨key, kx, x, e6, e7, e8⟩ := hG.pairs i ta et
  obtain ⟨e9, rx'⟩ := kv_at rel' eq e6
  exact .mkT (fresh_ge ox2 (Nat.le_of_lt (hG.above ta (List.mem_of_getElem? et)))) (.mk (ws := [key, x]) e8 (show 2 ≤ big by decide) (.cons (e9 ▸ vkey_vr e7) (.cons rx' .nil)))
theorem se_listD {f : Str} {pf p : Pos} {e : Expr} {t : E} (bs : Bs G c k T) (n : BN T f (.type "list")) (ns : Ns e) (h : SE G c k T e t) : SE G c k T (.Call (.Name f pf) [e] [] p) (.p1 keysV t) := fun {A env m s O v Q X} a ne hv hQ => obind hv fun u hu hv => by
  refine bi_any bs a n (.t _) (.cons ns .nil) (spl1 ns (h a ne hu fun x s₁ st rx => ?_))
  refine omap (C := fun v => KV G O s v Q → _) hv (fun es he hQ => ?_) hQ
  cases rx.w.od he with | @mk _ b rd =>
  cases rd with | @mk kvs pg ns of l rel =>
  refine dictAt_of of fun ep o ho hc hat => ?_
  refine W.kdl_call (W.kdl_dict ns) a.room.handled hat (Nat.le_trans l big_le) fun h' tk acc c' keep hg hacc => ?_
  have st2 : St G s₁ { s₁ with heap := h', toks := tk } := St.keeps st.inv keep tk
  have al : acc.toList.length = kvs.length := hacc.1
  refine hQ _ _ (st.trans st2) (.mkL ((a.step st).er.ox.fresh) ⟨hg, al ▸ l, .of ((List.length_map ..).trans (rel.length.trans al.symm)) fun i v w ev ew => ?_⟩)
  obtain ⟨kx, x, e2, e3⟩ := hacc.2 i w (Array.getElem?_toList ▸ ew)
  exact map_get (C := fun v => VR G O h' v w) ev fun q eq => (kv_at rel eq e2).1 ▸ vkey_vr e3
end
inductive Tgt : Expr → Prop
  | name {x : Str} {p : Pos} : Tgt (.Name x p)
  | tup {es : List Expr} {k : Nat} {p : Pos} : Tgt (.Tuple es k p)
inductive TgT : Expr → Prop
  | tup {es : List Expr} {k : Nat} {p : Pos} : TgT (.Tuple es k p)
noncomputable def ownedNames : List String := ["enumerate", "zip", "dict_itemiterator", "dict_reverseitemiterator", "odict_iterator", "itertools.zip_longest", "itertools.pairwise"]
theorem letGo_plain {prog : Program} {w : World} {A : Around} {X : Value → Shared → Prop} {s : Shared} {target : Expr} {I : Addr} {o : Obj} {nm : String} {v : Value} {Q : Unit → Shared → Prop} (ht : Tgt target)
    (ho : s.heap.get? I = some o) (hc : o.cls = .type nm) (hn : ownedNames.contains nm = false) (h : Q () s) : wpAny (model prog w) A (letOwnedTupleGo target (.ref I) v) Q X s := by
  induction ht with
  | name => exact wpAny_pure h
  | tup =>
    induction v with
    | ref a =>
      refine wpAny_bind (wpAny_load ho ?_)
      rw [hc]
      cases o.data with
      | fields vs =>
        show wpAny _ _ (if (ownedNames.contains nm && _) = true then _ else _) _ _ _
        rw [hn]
        exact wpAny_pure h
      | _ => exact wpAny_pure h
    | _ => exact wpAny_pure h
noncomputable def Dn (G : Gd) (O₀ : Addr → Prop) (s : Shared) (b : Addr) : Prop := ¬ O₀ b ∧ ¬ G.Tab b ∧ ∃ o, s.heap.get? b = some o
noncomputable def Kw (wr : List Addr) (h h' : Heap) : Prop := ∀ b o, b ∉ wr → h.get? b = some o → h'.get? b = some o
noncomputable def Kd (D : Addr → Prop) (h h' : Heap) : Prop := ∀ b o, D b → h.get? b = some o → h'.get? b = some o
noncomputable def Src (D : Addr → Prop) (wr : List Addr) : Addr → Prop := fun a => ¬ (D a ∧ a ∉ wr)
noncomputable def KT (G : Gd) (O : Addr → Prop) (St : Nat → Heap → Prop) (wr : List Addr) (s : Shared) (i : Nat) (x : V) (Q : Value → Shared → Prop) : Prop := ∀ y h' tk, St (i + 1) h' → Kw wr s.heap h' → VR G O h' x y → Q y { s with heap := h', toks := tk }
structure Tn (G : Gd) (A : Around) (O : Addr → Prop) (target : Expr) (I : Addr) (wr : List Addr) (xs : List V) (St : Nat → Heap → Prop) : Prop where
  turn : ∀ {i : Nat} {x : V} {s : Shared} {Q : Value → Shared → Prop} {X : Value → Shared → Prop}, xs[i]? = some x → St i s.heap → OX G O s.heap →
    KT G O St wr s i x Q →
    wpAny (model G.prog G.w) A (pyNext (.ref I)) (fun r s₁ => ∃ y, r = some y ∧ wpAny (model G.prog G.w) A (letOwnedTupleGo target (.ref I) y) (fun _ s₂ => Q y s₂) X s₁) X s
  done : ∀ {s : Shared} {Q : Option Value → Shared → Prop} {X : Value → Shared → Prop}, St xs.length s.heap → (∀ h' tk, Kw wr s.heap h' → Q none { s with heap := h', toks := tk }) → wpAny (model G.prog G.w) A (pyNext (.ref I)) Q X s
  self : ∀ {i : Nat} {s : Shared} {Q : Value → Shared → Prop} {X : Value → Shared → Prop}, St i s.heap → Q (.ref I) s → wpAny (model G.prog G.w) A (pyIter (.ref I)) Q X s
inductive HasIt (G : Gd) (O₀ : Addr → Prop) (tp : Expr → Prop) (s₀ s₂ : Shared) (xs : List V) : Value → Prop
  | mk {I : Addr} {wr : List Addr} {St : Nat → Heap → Prop} (new : ∀ b ∈ wr, s₀.heap.get? b = none ∧ ∃ o, s₂.heap.get? b = some o) (st0 : St 0 s₂.heap)
    (frame : ∀ i h h', St i h → Kd (Dn G O₀ s₂) h h' → St i h') (cls : ∀ i h, St i h → ∀ b ∈ wr, ∃ o, h.get? b = some o ∧ o.cls ≠ .type "code")
    (tn : ∀ {A O target}, A.handled = none → tp target → (∀ a, Dn G O₀ s₂ a → a ∉ wr → ¬ O a) → Tn G A O target I wr xs St) : HasIt G O₀ tp s₀ s₂ xs (.ref I)
section
variable {G : Gd} {A : Around} {D O O₀ : Addr → Prop} {wr : List Addr} {s₀ s s₂ : Shared}
theorem Kd.src {h h' : Heap} (k : Kd D h h') : Keep (Src D wr) (Src D wr) h h' := fun a o e _ no => ⟨no, k a o (Classical.not_not.mp no).1 e⟩
theorem Kw.src {h h' : Heap} (k : Kw wr h h') : Keep (Src D wr) (Src D wr) h h' := fun a o e _ no => ⟨no, k a o (Classical.not_not.mp no).2 e⟩
theorem VR.out {h : Heap} {v : V} {x : Value} (hD : ∀ a, D a → a ∉ wr → ¬ O a) (r : VR G (Src D wr) h v x) : VR G O h v x := VR.less (O' := Src D wr) (fun a ha (q : D a ∧ a ∉ wr) => hD a q.1 q.2 ha) r
theorem vrs_in (i : Inv G s) (st : St G s s₂) {vs : List V} {ws : List Value} (r : VRs G O₀ s.heap vs ws) (hw : ∀ b ∈ wr, s.heap.get? b = none) : VRs G (Src (Dn G O₀ s₂) wr) s₂.heap vs ws :=
  VRs.mono (fun a o e c no => have q := st.kp a o (i.notTab e c) e; ⟨not_not_intro ⟨⟨no, i.notTab e c, o, q⟩, fun hm => nos ((hw a hm).symm.trans e)⟩, q⟩) r
theorem code_ne {nm : String} (h : (nm == "code") = false) : Value.type nm ≠ .type "code" := fun e => by
  injection e with e; rw [e] at h; exact Bool.noConfusion h
theorem it_walks {A₀ : Around} (h₀ : A₀.handled = none) (i : Inv G s) (st₀ : St G s₀ s) (ox : OX G O₀ s.heap) {o : Obj} (hf : o.isFreed = false) {nm : String} (hn0 : o.cls ≠ .none) (hnm : ownedNames.contains nm = false) (hcd : (nm == "code") = false) {fp : List Addr} {n : Nat} {P : Nat → Value → Prop} {St0 : Nat → Heap → Prop} {xs ys : List V} {ws : List Value}
    (W : ∀ A : Around, A.handled = none → Walks G.prog G.w A s.heap.objs.size fp [s.heap.objs.size] n P St0) (hn : n = xs.length) (st0 : St0 0 (s.heap.push o)) (hfp : ∀ b ∈ fp, b = s.heap.objs.size ∨ Dn G O₀ s b) (hcls : ∀ i h, St0 i h → ∃ o, h.get? s.heap.objs.size = some o ∧ o.cls = .type nm)
    (r : VRs G O₀ s.heap ys ws) (hP : ∀ {S : Addr → Prop} i v h x, P i v → VRs G S h ys ws → xs[i]? = some x → VR G S h x v) : HasIt G O₀ Tgt s₀ { s with heap := s.heap.push o } xs (.ref s.heap.objs.size) := by
  have st := St.push i o s.toks
  have hI : ∀ b ∈ [s.heap.objs.size], s.heap.get? b = none := fun b hb => List.mem_singleton.mp hb ▸ get_size _
  have hD : ∀ b ∈ fp, Dn G O₀ { s with heap := s.heap.push o } b := fun b hb => (hfp b hb).elim (fun e => e ▸ ⟨ox.fresh, i.freshNotTab (get_size _), o, Heap.get?_push_size _ hf⟩) fun q => by
    obtain ⟨no, nt, o', e⟩ := q
    exact ⟨no, nt, o', Heap.get?_push_of_some _ e⟩
  exact .mk (wr := [s.heap.objs.size]) (St := fun i h => St0 i h ∧ VRs G (Src (Dn G O₀ { s with heap := s.heap.push o }) [s.heap.objs.size]) h ys ws) (fun b hb => ⟨st₀.fresh i (hI b hb), List.mem_singleton.mp hb ▸ ⟨o, Heap.get?_push_size _ hf⟩⟩)
    ⟨st0, vrs_in i st r hI⟩ (fun i h h' st k => ⟨(W A₀ h₀).frame i h h' st.1 fun b hb o e => k b o (hD b hb) e, VRs.mono k.src st.2⟩) (fun i h st b hb => by
      obtain ⟨o', e, c⟩ := hcls i h st.1
      exact ⟨o', List.mem_singleton.mp hb ▸ e, c ▸ code_ne hcd⟩)
    fun {A O target} hh tp hO => {
      turn := fun {j x s' Q X} hx st ox hQ => (W A hh).item j s' _ X (hn ▸ get_lt hx) st.1 fun v h' tk hP' st' k => ⟨v, rfl, by
        obtain ⟨o', e, c⟩ := hcls _ _ st'
        have r' := VRs.mono (Kw.src (wr := [s.heap.objs.size]) k) st.2
        exact letGo_plain tp e c hnm (hQ v h' tk ⟨st', r'⟩ k (VR.out hO (hP j v h' x hP' r' hx)))⟩
      done := fun {s' Q X} st hQ => (W A hh).done s' Q X (hn ▸ st.1) hQ
      self := fun {j s' Q X} st hQ => (W A hh).self j s' Q X st.1 hQ }
end
noncomputable def KI (G : Gd) (O : Addr → Prop) (tp : Expr → Prop) (s₀ s : Shared) (xs : List V) (Q : Value → Shared → Prop) : Prop := ∀ it s₂, St G s s₂ → HasIt G O tp s₀ s₂ xs it → Q it s₂
theorem fp2 {I a b : Addr} {C : Prop} (hb : b ∈ [I, a]) (h : b = I → C) (h' : b = a → C) : C := (List.mem_cons.mp hb).elim h fun q => h' (List.mem_singleton.mp q)
section
variable {G : Gd} {A : Around} {O : Addr → Prop} {k : Nat} {s₀ s : Shared} {X Q : Value → Shared → Prop}
theorem Dn.of (i : Inv G s) {a : Addr} {o : Obj} (no : ¬ O a) (e : s.heap.get? a = some o) (hc : o.cls ≠ .none) : Dn G O s a := ⟨no, i.notTab e hc, o, e⟩
theorem fps (i : Inv G s) {a : Addr} {o : Obj} (no : ¬ O a) (e : s.heap.get? a = some o) (hc : o.cls ≠ .none) : ∀ b ∈ [s.heap.objs.size, a], b = s.heap.objs.size ∨ Dn G O s b := fun b hb => fp2 hb .inl fun h => .inr (h ▸ .of i no e hc)
theorem lt_ne {a : Addr} {o : Obj} (e : s.heap.get? a = some o) : a ≠ s.heap.objs.size := Nat.ne_of_lt (Heap.lt_size e)
theorem it_list (hh : A.handled = none) (i : Inv G s) (st₀ : St G s₀ s) (ox : OX G O s.heap) {a : Addr} {xs : List V} (no : ¬ O a) (r : LstA (VR G O s.heap) s.heap a xs) (hQ : KI G O Tgt s₀ s xs Q) : wpAny (model G.prog G.w) A (pyIter (.ref a)) Q X s := by
  cases r with | @mk ws n e l r =>
  exact wpAny_pyIter_list ⟨_, e, rfl, _, rfl⟩ (hQ _ _ (St.push i _ _) (it_walks (nm := "list_iterator") hh i st₀ ox rfl type_ne rfl rfl (fun A hh => Walks.list hh _ a (lt_ne e) ws.toArray) ((List.size_toArray ..).trans r.length.symm)
    ⟨⟨_, Heap.get?_push_size _ rfl, rfl, rfl⟩, ⟨_, Heap.get?_push_of_some _ e, rfl, _, rfl⟩⟩ (fps i no e type_ne) (fun j h st => by obtain ⟨⟨o, e, c, _⟩, _⟩ := st; exact ⟨o, e, c⟩) r fun j v h x hv r hx => r.at hx (List.getElem?_toArray.symm.trans hv)))
theorem it_tup (hh : A.handled = none) (i : Inv G s) (st₀ : St G s₀ s) (ox : OX G O s.heap) {a : Addr} {xs : List V} (no : ¬ O a) (r : TupA (VR G O s.heap) s.heap a xs) (hQ : KI G O Tgt s₀ s xs Q) : wpAny (model G.prog G.w) A (pyIter (.ref a)) Q X s := by
  cases r with | @mk ws n e l r =>
  exact wpAny_pyIter_tuple ⟨_, e, rfl, _, rfl⟩ (hQ _ _ (St.push i _ _) (it_walks (nm := "tuple_iterator") hh i st₀ ox rfl type_ne rfl rfl (fun A hh => Walks.tuple hh _ a (lt_ne e) ws.toArray) ((List.size_toArray ..).trans r.length.symm)
    ⟨⟨_, Heap.get?_push_size _ rfl, rfl, rfl⟩, ⟨_, Heap.get?_push_of_some _ e, rfl, _, rfl⟩⟩ (fps i no e type_ne) (fun j h st => by obtain ⟨⟨o, e, c, _⟩, _⟩ := st; exact ⟨o, e, c⟩) r fun j v h x hv r hx => r.at hx (List.getElem?_toArray.symm.trans hv)))
theorem it_dict (hh : A.handled = none) (i : Inv G s) (st₀ : St G s₀ s) (ox : OX G O s.heap) {a : Addr} {g : Nat} {es : List (K × V)} (no : ¬ O a) (r : DctA (VR G O s.heap) s.heap a G g es) (hQ : KI G O Tgt s₀ s (es.map fun p => vKey p.1) Q) : wpAny (model G.prog G.w) A (pyIter (.ref a)) Q X s := by
  cases r with | @mk kvs pg ns of l r =>
  refine dictAt_of of fun ep o e hc hat => ?_
  have hl : kvs.map (·.1) = es.map (·.1) := by
    clear hat of l hQ
    induction r with
    | nil => rfl
    | cons x _ ih => induction x with | mk => exact congrArg (_ :: ·) ih
  exact wpAny_pyIter_dict ns hat (hQ _ _ (St.push i _ _) (it_walks (nm := "dict_keyiterator") (ys := []) (ws := []) hh i st₀ ox rfl type_ne rfl rfl (fun A hh => Walks.dictKeys hh _ a (lt_ne e) kvs ep) (r.length.symm.trans (List.length_map ..).symm)
    ⟨⟨_, Heap.get?_push_size _ rfl, rfl, rfl⟩, hat.push _⟩ (fps i no e (hc ▸ type_ne)) (fun j h st => by obtain ⟨⟨o, e, c, _⟩, _⟩ := st; exact ⟨o, e, c⟩) .nil fun j v h x hv _ hx => by
      obtain ⟨q, y, e1, e2⟩ := hv
      refine map_get (C := fun x => VR G _ h x v) hx fun p hp => ?_
      have e3 : (kvs.map (·.1))[j]? = some q := List.getElem?_map.trans (congrArg (Option.map (·.1)) e1)
      rw [hl] at e3
      exact map_get (C := fun q => (kk G.prog G.w).is q v = true → VR G _ h (vKey p.1) v) e3 (fun p' hp' hq => vkey_vr (Option.some.inj (hp'.symm.trans hp) ▸ hq)) e2))
theorem it_values (hh : A.handled = none) (i : Inv G s) (st₀ : St G s₀ s) (ox : OX G O s.heap) {a v : Addr} {g : Nat} {es : List (K × V)} (no : ¬ O a) (r : DctA (VR G O s.heap) s.heap a G g es) (hv : s.heap.IsValuesView v a) (hQ : KI G O Tgt s₀ s (es.map (·.2)) Q) : wpAny (model G.prog G.w) A (pyIter (.ref v)) Q X s := by
  cases r with | @mk kvs pg ns of l r =>
  refine dictAt_of of fun ep o e hc hat => ?_
  exact wpAny_pyIter_values hv hat (hQ _ _ (St.push i _ _) (it_walks (nm := "dict_valueiterator") hh i st₀ ox rfl type_ne rfl rfl (fun A hh => Walks.dictValues hh _ a (lt_ne e) kvs ep) (r.length.symm.trans (List.length_map ..).symm)
    ⟨⟨_, Heap.get?_push_size _ rfl, rfl, rfl⟩, hat.push _⟩ (fps i no e (hc ▸ type_ne)) (fun j h st => by obtain ⟨⟨o, e, c, _⟩, _⟩ := st; exact ⟨o, e, c⟩) r.snd fun j v h x hv r hx => by
      obtain ⟨q, e1⟩ := hv
      exact r.at hx (List.getElem?_map.trans (congrArg (Option.map (·.2)) e1))))
theorem r62 {a : Int} (h : a.natAbs ≤ big) : -2 ^ 62 ≤ a ∧ a < 2 ^ 62 := by have := big_eq; omega
theorem rng_small {lo hi : Int} (h : hi - lo ≤ big ∧ lo.natAbs ≤ big ∧ hi.natAbs ≤ big) : Builtin.Range.small lo hi 1 = true := small_one (r62 h.2.1).1 (r62 h.2.1).2 (r62 h.2.2).1 (r62 h.2.2).2
theorem it_rng (hh : A.handled = none) (i : Inv G s) (st₀ : St G s₀ s) (ox : OX G O s.heap) {a : Addr} {lo hi : Int} {t u x : Tok} (e : s.heap.get? a = some { cls := .type "range", data := .fields #[.int lo t, .int hi u, .int 1 x] }) (hb : hi - lo ≤ big ∧ lo.natAbs ≤ big ∧ hi.natAbs ≤ big) (hQ : KI G O Tgt s₀ s (rngList lo hi) Q) : wpAny (model G.prog G.w) A (pyIter (.ref a)) Q X s := by
  refine wpAny_pyIter_range e (rng_small hb) ?_
  rw [rangeSize_nat]
  exact hQ _ _ (St.push i _ _) (it_walks (nm := "range_iterator") (ys := []) (ws := []) hh i st₀ ox rfl type_ne rfl rfl (fun A hh => Walks.range hh _ lo 1 (hi - lo).toNat) ((List.length_map ..).trans List.length_range).symm
    (show IsRangeIter _ _ (lo + ((0 : Nat) : Int) * 1) (((hi - lo).toNat : Int) - ((0 : Nat) : Int)) 1 by rw [Int.natCast_zero, Int.zero_mul, Int.add_zero, Int.sub_zero]; exact Heap.get?_push_size _ rfl) (fun b hb => .inl (List.mem_singleton.mp hb)) (fun j h st => ⟨_, st, rfl⟩) .nil fun j v h x hv _ hx => by
      obtain ⟨t, rfl⟩ := hv
      refine map_get (C := fun x => VR G _ h x _) hx fun p hp => ?_
      rw [List.getElem?_range (Nat.lt_of_lt_of_eq (get_lt hp) List.length_range)] at hp
      rw [Int.mul_one, Option.some.inj hp]
      exact .int _ _)
theorem it_str (hh : A.handled = none) (i : Inv G s) (st₀ : St G s₀ s) (ox : OX G O s.heap) {x : Str} {t : Tok} (ha : x.cps.all (· < 128) = true) (hQ : KI G O Tgt s₀ s (x.cps.toList.map chrV) Q) : wpAny (model G.prog G.w) A (pyIter (.str x t)) Q X s :=
  wpAny_pyIter_ascii ha (hQ _ _ (St.push i _ _) (it_walks (nm := "str_ascii_iterator") (ys := []) (ws := []) hh i st₀ ox rfl type_ne rfl rfl (fun A hh => Walks.strAscii hh _ x t) (List.length_map ..).symm
    ⟨_, Heap.get?_push_size _ rfl, rfl, rfl⟩ (fun b hb => .inl (List.mem_singleton.mp hb)) (fun j h st => by obtain ⟨o, e, c, _⟩ := st; exact ⟨o, e, c⟩) .nil fun j v h y hv _ hy => by
      obtain ⟨c, u, hc, rfl⟩ := hv
      refine map_get (C := fun x => VR G _ h x _) hy fun p hp => ?_
      rw [Array.getElem?_toList, hc] at hp
      exact Option.some.inj hp ▸ .str _ _))
theorem ok_iter (hh : A.handled = none) (i : Inv G s) (st₀ : St G s₀ s) (ox : OX G O s.heap) {v : V} {x : Value} {xs : List V} (rv : VR G O s.heap v x) (h : itemsOf v = some xs) (hQ : KI G O Tgt s₀ s xs Q) : wpAny (model G.prog G.w) A (pyIter x) Q X s := by
  have rw := rv.w
  induction rw with
  | list r => exact it_list hh i st₀ ox rv.no r (Option.some.inj h ▸ hQ)
  | tup r => exact it_tup hh i st₀ ox rv.no r (Option.some.inj h ▸ hQ)
  | dict r => exact it_dict hh i st₀ ox rv.no r (Option.some.inj h ▸ hQ)
  | str x t =>
    cases ha : x.cps.all (· < 128) with
    | true => exact it_str hh i st₀ ox ha (Option.some.inj ((congrArg (fun b => bif b then some (x.cps.toList.map chrV) else none) ha).symm.trans h) ▸ hQ)
    | false => exact nos ((congrArg (fun b => bif b then some (x.cps.toList.map chrV) else none) ha).symm.trans h)
  | rng e => exact oif (C := fun xs => KI G O Tgt s₀ s xs Q → _) h (fun hb hQ => it_rng hh i st₀ ox e hb hQ) hQ
  | _ => exact nos h
end
theorem entry_itemiter : entryFor table "dict_itemiterator.__iter__" = some Builtin.«dict_keyiterator.__iter__» :=
  entryFor_alias (id' := "dict_keyiterator.__iter__") (by kernel_rfl) (by first | rfl | decide +kernel) (by decide +kernel) (by kernel_rfl)
theorem code_cls {t : String} (h : (t == "code") = false) {o : Obj} (e : o.cls = .type t) : o.cls ≠ .type "code" := e ▸ code_ne h
section
variable {G : Gd} {A : Around} {O : Addr → Prop} {k : Nat} {s₀ s : Shared} {X Q : Value → Shared → Prop}
theorem vr_pair {h : Heap} {T : Addr} {x y : Value} {v u : V} {n : Nat} (no : ¬ O T) (e : h.get? T = some { cls := .type "tuple", data := .seq #[x, y] n }) (r1 : VR G O h v x) (r2 : VR G O h u y) : VR G O h (.tup [v, u]) (.ref T) :=
  .mkT no (.mk (ws := [x, y]) e (show 2 ≤ big by decide) (.cons r1 (.cons r2 .nil)))
noncomputable def ItS (G : Gd) (S : Addr → Prop) (es : List (K × V)) (kvs : List (K × Value)) (I d : Addr) (ep i : Nat) (h : Heap) : Prop := (∃ ok ov, IsItemIter h I d i kvs.length ep ok ov) ∧ h.DictAt (kk G.prog G.w) d kvs ep ∧ All2 (Kv (VR G S h)) es kvs
theorem tn_items (hh : A.handled = none) {D : Addr → Prop} {I d : Addr} {es : List (K × V)} {kvs : List (K × Value)} {ep : Nat} {target : Expr} (tp : TgT target) (hne : d ≠ I) (hD : ∀ a, D a → a ∉ [I] → ¬ O a) :
    Tn G A O target I [I] (es.map fun p => .tup [vKey p.1, p.2]) (ItS G (Src D [I]) es kvs I d ep) where
  turn := fun {i x s Q X} hx st ox hQ => by
    obtain ⟨⟨ok, ov, hit⟩, hm, r⟩ := st
    induction tp with | tup =>
    refine map_get (C := fun x => KT G O _ [I] s i x Q → _) hx (fun p hp hQ => r.get hp fun q hq rq => ?_) hQ
    induction rq with | @mk kx a z rz =>
    refine wpAny_pyNext_items_item hit hm hq fun key h' hkey ho hT hsz hk' => ⟨_, rfl, wpAny_letOwnedTupleGo_items ho fun h'' hit'' hs'' => ?_⟩
    have kb : Kw [I] s.heap h'' := fun b o hb e => hs''.extBut b o (fun h => hb (List.mem_singleton.mpr h)) (hk' b o (fun h => hb (List.mem_singleton.mpr h)) e)
    exact hQ _ _ _ ⟨⟨_, _, hit''⟩, hm.at' fun o e => kb _ o (fun h => hne (List.mem_singleton.mp h)) e, r.imp fun _ _ => kv_mono kb.src⟩ kb
      (vr_pair ox.fresh (hs''.extBut _ _ (Nat.ne_of_gt (Heap.lt_size hit)) hT) (vkey_vr hkey) ((rz.mono kb.src).out hD))
  done := fun {s Q X} st hQ => by
    obtain ⟨⟨ok, ov, hit⟩, hm, r⟩ := st
    exact wpAny_pyNext_items_end hh hit hm (List.getElem?_eq_none (by rw [List.length_map, r.length]; exact Nat.le_refl _)) fun h' he => hQ h' s.toks fun b o hb e => he b o (fun h => hb (List.mem_singleton.mpr h)) e
  self := fun {i s Q X} st hQ => by
    obtain ⟨⟨ok, ov, hit⟩, hm, r⟩ := st
    have hT : s.TypeIs (.ref I) "dict_itemiterator" := ⟨_, hit, rfl⟩
    refine wpAny_pyIter_slot hT F.slot_dict_itemiterator_iter (wpAny_call_entry F.slot_dict_itemiterator_iter hT entry_itemiter ?_ (F.args_dict_itemiterator_iter_1 _))
    show wpAny _ _ (ret (.ref I)) _ _ s
    exact wpAny_pure ⟨_, rfl, "dict_itemiterator", _, hT, F.slot_dict_itemiterator_next.lookup, hQ⟩
theorem it_items (i : Inv G s) (st₀ : St G s₀ s) (ox : OX G O s.heap) {a v : Addr} {g : Nat} {es : List (K × V)} (no : ¬ O a) (r : DctA (VR G O s.heap) s.heap a G g es) (hv : s.heap.IsItemsView v a) (hQ : KI G O TgT s₀ s (es.map fun p => .tup [vKey p.1, p.2]) Q) : wpAny (model G.prog G.w) A (pyIter (.ref v)) Q X s := by
  cases r with | @mk kvs pg ns of l r =>
  refine dictAt_of of fun ep o e hc hat => ?_
  have hI : ∀ b ∈ [s.heap.objs.size], s.heap.get? b = none := fun b hb => List.mem_singleton.mp hb ▸ get_size _
  refine wpAny_pyIter_items hv hat ?_
  generalize ho : ({ cls := Value.type "dict_itemiterator", data := Data.fields #[Value.none, Value.bool false, Value.ref a, Value.int 0 0, Value.int kvs.length 0, Value.int ep 0, Value.none, Value.none] } : Obj) = ob
  have hf : ob.isFreed = false := ho ▸ rfl
  have st := St.push i ob s.toks
  have hs : Dn G O { s with heap := s.heap.push ob } s.heap.objs.size := ⟨ox.fresh, i.freshNotTab (get_size _), ob, Heap.get?_push_size _ hf⟩
  have hd : Dn G O { s with heap := s.heap.push ob } a := .of st.inv no (Heap.get?_push_of_some _ e) (hc ▸ type_ne)
  refine hQ _ _ st (.mk (wr := [s.heap.objs.size]) (St := ItS G (Src (Dn G O { s with heap := s.heap.push ob }) [s.heap.objs.size]) es kvs s.heap.objs.size a ep) (fun b hb => ⟨st₀.fresh i (hI b hb), List.mem_singleton.mp hb ▸ ⟨ob, Heap.get?_push_size _ hf⟩⟩)
    ⟨⟨_, _, (Heap.get?_push_size _ hf).trans (congrArg some ho.symm)⟩, hat.push _, ?_⟩ (fun i h h' st k => ?_) (fun i h st b hb => ?_) fun hh tp hO => tn_items hh tp (lt_ne e) hO)
  · exact r.imp fun _ _ => kv_mono fun b o e c no => have q := st.kp b o (i.notTab e c) e; ⟨not_not_intro ⟨⟨no, i.notTab e c, o, q⟩, fun hm => nos ((hI b hm).symm.trans e)⟩, q⟩
  · obtain ⟨⟨ok, ov, hit⟩, hm, r⟩ := st
    exact ⟨⟨ok, ov, k _ _ hs hit⟩, hm.at' fun o e => k _ o hd e, r.imp fun _ _ => kv_mono k.src⟩
  · obtain ⟨⟨ok, ov, hit⟩, _⟩ := st
    exact ⟨_, List.mem_singleton.mp hb ▸ hit, code_ne rfl⟩
end
noncomputable def SI (G : Gd) (c : Cx) (k : Nat) (T : Tx) (tp : Expr → Prop) (e : Expr) (t : It) : Prop :=
  ∀ {A : Around} {env : Env} {m : Fr} {s : Shared} {O : Addr → Prop} {xs : List V} {Q : Value → Shared → Prop} {X : Value → Shared → Prop}, At G k T A env m O s → NE m (escIt t) → evIt c m t = some xs →
    (∀ it s₁ s₂, St G s s₁ → St G s₁ s₂ → HasIt G O tp s s₂ xs it → Q it s₂) → wpAny (model G.prog G.w) A (eval e env) (fun x s₁ => wpAny (model G.prog G.w) A (pyIter x) Q X s₁) X s
section
variable {G : Gd} {c : Cx} {k : Nat} {T : Tx} {e : Expr} {t : E}
theorem si_plain (h : SE G c k T e t) : SI G c k T Tgt e (.one itemsOf t) := fun a ne hv hQ => obind hv fun v hv h1 =>
  h a ne hv fun y s₁ st r => ok_iter a.room.handled st.inv st (a.step st).er.ox r h1 fun it s₂ st2 q => hQ it s₁ s₂ st st2 q
theorem si_items {ap p : Pos} (hl : (ap.endLine == p.line) = true) (hc : Nc e) (h : SE G c k T e t) : SI G c k T TgT (.Call (.Attribute e "items" ap) [] [] p) (.one pairsV t) := fun {A env m s O xs Q X} a ne hv hQ => obind hv fun v hv h1 =>
  method_any hl hc .nil rfl (h a ne hv fun y s₁ st r => by
    refine omap (C := fun xs => (∀ it s₁ s₂, St G s s₁ → St G s₁ s₂ → HasIt G O TgT s s₂ xs it → Q it s₂) → _) h1 (fun es he hQ => ?_) hQ
    cases r.w.od he with | @mk _ b rd =>
    refine ⟨_, ⟨F.plainAttrs_dict, F.slot_dict_items, F.type_dict_items, dct_type rd, dct_mth rd⟩, Calls.spliced_nil ?_⟩
    have hT := dct_type rd
    have rd' := rd
    cases rd with | @mk kvs pg ns of l rel =>
    refine call_meetsIn F.slot_dict_items hT F.entry_dict_items (F.args_dict_items_1 _) (meets_dict_items (kk G.prog G.w) _ ns) ⟨⟨_, of⟩, ?_⟩
    have st2 := St.push st.inv { cls := .type "dict_items", data := .fields #[.ref b] } s₁.toks
    exact it_items st2.inv (st.trans st2) ((a.step st).er.ox.step st2) r.no (rd'.step st.inv st2) ⟨_, Heap.get?_push_size _ rfl, rfl, rfl⟩ fun it s₂ st3 q => hQ it _ s₂ (st.trans st2) st3 q)
theorem si_values {ap p : Pos} (hl : (ap.endLine == p.line) = true) (hc : Nc e) (h : SE G c k T e t) : SI G c k T Tgt (.Call (.Attribute e "values" ap) [] [] p) (.one valuesV t) := fun {A env m s O xs Q X} a ne hv hQ => obind hv fun v hv h1 =>
  method_any hl hc .nil rfl (h a ne hv fun y s₁ st r => by
    refine omap (C := fun xs => (∀ it s₁ s₂, St G s s₁ → St G s₁ s₂ → HasIt G O Tgt s s₂ xs it → Q it s₂) → _) h1 (fun es he hQ => ?_) hQ
    cases r.w.od he with | @mk _ b rd =>
    refine ⟨_, ⟨F.plainAttrs_dict, F.slot_dict_values, F.type_dict_values, dct_type rd, dct_mth rd⟩, Calls.spliced_nil ?_⟩
    have hT := dct_type rd
    have rd' := rd
    cases rd with | @mk kvs pg ns of l rel =>
    refine call_meetsIn F.slot_dict_values hT F.entry_dict_values (F.args_dict_values_1 _) (meets_dict_values (kk G.prog G.w) _ ns) ⟨⟨_, of⟩, ?_⟩
    have st2 := St.push st.inv { cls := .type "dict_values", data := .fields #[.ref b] } s₁.toks
    exact it_values a.room.handled st2.inv (st.trans st2) ((a.step st).er.ox.step st2) r.no (rd'.step st.inv st2) ⟨_, Heap.get?_push_size _ rfl, rfl, rfl⟩ fun it s₂ st3 q => hQ it _ s₂ (st.trans st2) st3 q)
theorem rev_get {xs : List V} {j : Nat} {x : V} (h : xs.reverse[j]? = some x) : xs[xs.length - 1 - j]? = some x := (List.getElem?_reverse (Nat.lt_of_lt_of_eq (get_lt h) List.length_reverse)).symm.trans h
theorem si_rev {x : Str} {pf p : Pos} (bs : Bs G c k T) (n : BN T x (.type "reversed")) (ns : Ns e) (h : SE G c k T e t) : SI G c k T Tgt (.Call (.Name x pf) [e] [] p) (.one revV t) := fun {A env m s O xs Q X} a ne hv hQ => obind hv fun v hv h1 =>
  bi_any bs a n (.t _) (.cons ns .nil) (spl1 ns (h a ne hv fun y s₁ st r => by
    refine omap (C := fun xs => (∀ it s₁ s₂, St G s s₁ → St G s₁ s₂ → HasIt G O Tgt s s₂ xs it → Q it s₂) → _) h1 (fun ys he hQ => ?_) hQ
    cases r.w.ol he with | @mk b rd =>
    have no := r.no
    cases rd with | @mk ws nn e l r =>
    refine call_reversed_list ⟨_, e, rfl, _, rfl⟩ (wpAny_pyIter_revIter ⟨_, Heap.get?_push_size _ rfl, rfl, rfl⟩ ?_)
    have hz : ws.toArray.size = ys.length := (List.size_toArray ..).trans r.length.symm
    exact hQ _ s₁ _ st (St.push st.inv _ _) (it_walks (nm := "list_reverseiterator") a.room.handled st.inv st (a.step st).er.ox rfl type_ne rfl rfl (fun A hh => PySem.Walks.listRev hh _ b (lt_ne e) ws.toArray) (hz.trans List.length_reverse.symm)
      ⟨Nat.zero_le _, ⟨_, Heap.get?_push_size _ rfl, rfl, by rw [Int.natCast_zero, Int.sub_zero]; rfl⟩, ⟨_, Heap.get?_push_of_some _ e, rfl, _, rfl⟩⟩ (fps st.inv no e type_ne) (fun j h st => by obtain ⟨_, ⟨o, e, c, _⟩, _⟩ := st; exact ⟨o, e, c⟩) r fun j v h x hv r hx => r.at (rev_get hx) (hz ▸ List.getElem?_toArray.symm.trans hv))))
end
theorem enumL_at {xs : List V} : ∀ {n i : Nat} {x : V} {C : V → Prop}, (enumL n xs)[i]? = some x → (∀ u, xs[i]? = some u → C (.tup [.int (n + i : Nat), u])) → C x := by
  induction xs with
  | nil => exact fun h _ => nos h
  | cons a xs ih =>
    intro n i
    induction i with
    | zero => exact fun h k => Option.some.inj h ▸ k a rfl
    | succ i => exact fun h k => ih (n := n + 1) (i := i) h fun u hu => (Nat.succ_add_eq_add_succ n i) ▸ k u hu
theorem enumL_length {xs : List V} : ∀ {n : Nat}, (enumL n xs).length = xs.length := by
  induction xs with
  | nil => exact rfl
  | cons a xs ih => exact congrArg (· + 1) ih
noncomputable def EnS (G : Gd) (S : Addr → Prop) (e it l : Addr) (xs : List V) (ws : List Value) (i : Nat) (h : Heap) : Prop := ((∃ old, IsEnum h e it i old) ∧ h.IsListIter it l i ∧ h.IsList l ws.toArray) ∧ VRs G S h xs ws
section
variable {G : Gd} {A : Around} {O : Addr → Prop} {k : Nat} {s₀ s : Shared} {X Q : Value → Shared → Prop}
theorem tn_enum (hh : A.handled = none) {D : Addr → Prop} {e it l : Addr} (hei : e ≠ it) (hle : l ≠ e) (hli : l ≠ it) {xs : List V} {ws : List Value} {target : Expr} (tp : TgT target) (l1e : xs.length = ws.length) (hD : ∀ a, D a → a ∉ [e, it] → ¬ O a) :
    Tn G A O target e [e, it] (enumL 0 xs) (EnS G (Src D [e, it]) e it l xs ws) where
  turn := fun {i x s Q X} hx st ox hQ => by
    obtain ⟨⟨⟨old, h1⟩, h2, h3⟩, r⟩ := st
    induction tp with | tup =>
    refine enumL_at (C := fun x => KT G O _ _ s i x Q → _) hx (fun u hu hQ => r.get hu fun x hx rx => ?_) hQ
    refine wpAny_pyNext_enum_item h1 h2 h3 (seq_get hx) hei fun h' ho hit' hT hsz hk => ⟨_, rfl, ?_⟩
    refine wpAny_letOwnedTupleGo_enum ho fun h'' he'' hs'' => ?_
    have kb : Kw [e, it] s.heap h'' := fun c o hc ee => hs''.extBut c o (fun h => hc (h ▸ List.mem_cons_self ..)) (hk c o (fun h => hc (h ▸ List.mem_cons_self ..)) (fun h => hc (h ▸ .tail _ (.head _))) ee)
    have er : VRs G (Src D [e, it]) h'' xs ws := VRs.mono kb.src r
    exact hQ _ _ _ ⟨⟨⟨_, he''⟩, hit'.extBut hs''.extBut hei.symm, h3.at fun o ee => hs''.extBut l o hle (hk l o hle hli ee)⟩, er⟩ kb
      (vr_pair ox.fresh (hs''.extBut _ _ (Nat.ne_of_gt (Heap.lt_size h1)) hT) ((show (Value.int ((0 + i : Nat) : Int) s.toks) = .int i s.toks by rw [Nat.zero_add]) ▸ .int _ _) ((rx.mono kb.src).out hD))
  done := fun {s Q X} st hQ => (WalksT.enumerate hh e it l hei hle hli ws.toArray).done s Q X (by rw [List.size_toArray, ← l1e, ← enumL_length (n := 0)]; exact st.1) hQ
  self := fun {i s Q X} st hQ => (WalksT.enumerate hh e it l hei hle hli ws.toArray).self i s Q X st.1 hQ
end
section
variable {G : Gd} {c : Cx} {k : Nat} {T : Tx} {e₁ : Expr} {t₁ : E}
theorem si_enum {x : Str} {pf p : Pos} (bs : Bs G c k T) (n : BN T x (.type "enumerate")) (ns₁ : Ns e₁) (h₁ : SE G c k T e₁ t₁) : SI G c k T TgT (.Call (.Name x pf) [e₁] [] p) (.one enumV t₁) := fun {A env m s O xs Q X} a ne hv hQ => obind hv fun v1 hv1 hv => by
  refine bi_any bs a n (.t _) (.cons ns₁ .nil) (spl1 ns₁ (h₁ a ne hv1 fun y s₂ st2 r => ?_))
  refine omap (C := fun xs => (∀ it s₁ s₂, St G s s₁ → St G s₁ s₂ → HasIt G O TgT s s₂ xs it → Q it s₂) → _) hv (fun zs hz hQ => ?_) hQ
  have i := st2.inv
  have ox := (a.step st2).er.ox
  cases r.w.ol hz with | @mk l rl =>
  have no1 := r.no
  cases rl with | @mk ws m1 e1 le1 r1 =>
  have lt1 := Heap.lt_size e1
  refine call_enumerate_list ⟨_, e1, rfl, _, rfl⟩ fun h' he hi hsz hk => ?_
  have st3 := St.keeps i hk s₂.toks
  have gn : ∀ j, s₂.heap.get? (s₂.heap.objs.size + j) = none := fun j => Heap.get?_none_of_le (Nat.le_add_right _ _)
  have hi' := hi
  obtain ⟨o2, q2, c2, _⟩ := hi'
  have in2 : ∀ {b : Addr} {C : Prop}, b ∈ [s₂.heap.objs.size + 1, s₂.heap.objs.size] → (b = s₂.heap.objs.size + 1 → C) → (b = s₂.heap.objs.size → C) → C := fun hb => fp2 hb
  have ap1 : s₂.heap.objs.size + 1 ≠ s₂.heap.objs.size := Nat.succ_ne_self _
  have ap2 : l ≠ s₂.heap.objs.size + 1 := Nat.ne_of_lt (Nat.lt_succ_of_lt lt1)
  have ap3 : l ≠ s₂.heap.objs.size := Nat.ne_of_lt lt1
  refine wpAny_pyIter_enum he (hQ _ s₂ _ st2 st3 (.mk (wr := [s₂.heap.objs.size + 1, s₂.heap.objs.size]) (St := EnS G (Src (Dn G O { s₂ with heap := h' }) [s₂.heap.objs.size + 1, s₂.heap.objs.size]) (s₂.heap.objs.size + 1) s₂.heap.objs.size l zs ws)
    (fun b hb => ⟨st2.fresh i (in2 hb (fun e => e ▸ gn 1) (fun e => e ▸ gn 0)), in2 hb (fun e => e ▸ ⟨_, he⟩) (fun e => e ▸ ⟨o2, q2⟩)⟩)
    ⟨⟨⟨_, he⟩, hi, ⟨_, hk _ _ e1, rfl, _, rfl⟩⟩, vrs_in i st3 r1 fun b hb => in2 hb (fun e => e ▸ gn 1) (fun e => e ▸ gn 0)⟩ (fun j g g' st k => ?_) (fun j h st b hb => ?_)
      fun hh tp hO => tn_enum hh ap1 ap2 ap3 tp r1.length hO))
  · have dn : ∀ j o, h'.get? (s₂.heap.objs.size + j) = some o → Dn G O { s₂ with heap := h' } (s₂.heap.objs.size + j) := fun j o e => ⟨fresh_ge ox (Nat.le_add_right _ _), i.freshNotTab (gn j), o, e⟩
    exact ⟨(WalksT.enumerate (prog := G.prog) (w := G.w) a.room.handled _ _ _ ap1 ap2 ap3 ws.toArray).frame j _ _ st.1 fun b hb o e => k b o ((List.mem_cons.mp hb).elim (fun q => q ▸ dn 1 _ he) fun hb => fp2 hb (fun q => q ▸ dn 0 _ q2) fun q => q ▸ .of st3.inv no1 (hk _ _ e1) type_ne) e, VRs.mono k.src st.2⟩
  · obtain ⟨⟨⟨old, h1⟩, ⟨o3, q3, c3, _⟩, _⟩, _⟩ := st
    exact in2 hb (fun e => e ▸ ⟨_, h1, code_ne rfl⟩) (fun e => e ▸ ⟨o3, q3, code_cls rfl c3⟩)
end
end Mine
end
section
set_option maxRecDepth 100000
set_option genSizeOf false
set_option genInjectivity false
namespace Mine
open PySem PyProof.Rows SeqAt
open Builtin
section
variable {prog : Program} {w : World} {A : Around} {E : Value → Shared → Prop} {s : Shared}
theorem nextOf_tuple_item {it t : Addr} {i : Nat} {items : Array Value} {x : Value} {Q : Value → Shared → Prop} (hit : s.heap.IsTupleIter it t i) (ht : s.heap.IsTuple t items) (hx : items[i]? = some x)
    (hQ : ∀ h', h'.IsTupleIter it t (i + 1) → Heap.SameBut it s.heap h' → Q x { s with heap := h' }) : wpAny (model prog w) A (Builtin.SmallTypes.nextOf (.ref it)) Q E s := by
  obtain ⟨o, ho, hc, hd⟩ := id hit
  obtain ⟨ol, hol, _, nl, hdl⟩ := ht
  unfold Builtin.SmallTypes.nextOf
  refine wpAny_bind (wpAny_callSpecial?_slot (name := Str.ofString "__next__") hit.typeIs F.slot_tuple_iterator_next
    (wpAny_call_entry F.slot_tuple_iterator_next hit.typeIs F.entry_tuple_iterator_next ?_ (F.args_tuple_iterator_next_1 _)))
  show wpAny _ _ (field (.ref it) 0 >>= _) _ _ s
  refine wpAny_bind (wpAny_field ho hd (x := .ref t) rfl ?_)
  show wpAny _ _ (if (Value.ref t == Value.none) = true then _ else _) _ _ s
  rw [if_neg (show ¬ ((Value.ref t == Value.none) = true) from Bool.false_ne_true)]
  show wpAny _ _ (field (.ref it) 1 >>= _) _ _ s
  refine wpAny_bind (wpAny_field ho hd (x := .int i 0) rfl ?_)
  show wpAny _ _ (seqItems? (.ref t) >>= _) _ _ s
  refine wpAny_bind (wpAny_seqItems hol hdl ?_)
  simp only [Int.toNat_natCast, hx]
  refine wpAny_bind (wpAny_setField ho hd (by simp) (wpAny_pure ⟨_, rfl, wpAny_pure (hQ _ ?_ (Heap.SameBut.update ..))⟩))
  exact ⟨_, Heap.get?_update_self _ ho (Obj.isFreed_of_fields (Obj.data_mapFields hd _)), (Obj.cls_mapFields ..).trans hc, by rw [Obj.data_mapFields hd]; simp [rawInt]⟩
theorem nextOf_tuple_end {it t : Addr} {i : Nat} {items : Array Value} {Q : Value → Shared → Prop} (hh : A.handled = none) (hit : s.heap.IsTupleIter it t i) (ht : s.heap.IsTuple t items) (hx : items[i]? = none)
    (hE : ∀ h' e, Heap.ExtBut it s.heap h' → (∃ o, h'.get? e = some o ∧ o.cls = .type "StopIteration") → E (.ref e) { s with heap := h' }) : wpAny (model prog w) A (Builtin.SmallTypes.nextOf (.ref it)) Q E s := by
  obtain ⟨o, ho, hc, hd⟩ := id hit
  obtain ⟨ol, hol, _, nl, hdl⟩ := ht
  unfold Builtin.SmallTypes.nextOf
  refine wpAny_bind (wpAny_callSpecial?_slot (name := Str.ofString "__next__") hit.typeIs F.slot_tuple_iterator_next
    (wpAny_call_entry F.slot_tuple_iterator_next hit.typeIs F.entry_tuple_iterator_next ?_ (F.args_tuple_iterator_next_1 _)))
  show wpAny _ _ (field (.ref it) 0 >>= _) _ _ s
  refine wpAny_bind (wpAny_field ho hd (x := .ref t) rfl ?_)
  show wpAny _ _ (if (Value.ref t == Value.none) = true then _ else _) _ _ s
  rw [if_neg (show ¬ ((Value.ref t == Value.none) = true) from Bool.false_ne_true)]
  show wpAny _ _ (field (.ref it) 1 >>= _) _ _ s
  refine wpAny_bind (wpAny_field ho hd (x := .int i 0) rfl ?_)
  show wpAny _ _ (seqItems? (.ref t) >>= _) _ _ s
  refine wpAny_bind (wpAny_seqItems hol hdl ?_)
  simp only [Int.toNat_natCast, hx]
  refine wpAny_bind (wpAny_rule (wpAny_bind (wpAny_setField ho hd (by simp) ?_)))
  show wpAny _ _ (newExc (.type "StopIteration") [] >>= _) _ _ _
  refine wpAny_bind ?_
  simp only [newExc, newTuple]
  refine wpAny_bind (wpAny_newObj_type ?_ (by size_fits))
  refine wpAny_bind (m := firstArgMember _ _) (wpAny_of_eq (a := Value.none) (by first | rfl | (simp only [firstArgMember]; rfl)) ?_)
  refine wpAny_newObj_type ?_ (by size_fits)
  simp only [raiseNew]
  refine wpAny_bind (wpAny_handled ?_)
  first | rw [show A.in1.handled = none from hh] | rw [hh]
  refine wpAny_bind (wpAny_pure (wpAny_throw ?_))
  exact hE _ _ (((Heap.SameBut.update ..).extBut.push _).push _) ⟨_, Heap.get?_push_size _ rfl, rfl⟩
end
theorem drawsTuple {prog : Program} {w : World} {A : Around} (hh : A.handled = none) (it l : Addr) (hne : l ≠ it) (items : Array Value) :
    Draws prog w A it [it, l] items.size (fun i v => items[i]? = some v) (fun i h => h.IsTupleIter it l i ∧ h.IsTuple l items) where
  live := fun _ _ st => let ⟨o, ho, _⟩ := st.1; ⟨o, ho⟩
  frame := fun _ _ _ st hk => ⟨let ⟨o, ho, r⟩ := st.1; ⟨o, hk it (by simp) o ho, r⟩, let ⟨o, ho, r⟩ := st.2; ⟨o, hk l (by simp) o ho, r⟩⟩
  item := fun i s Q E hi st hQ => by
    refine nextOf_tuple_item st.1 st.2 (x := items[i]) (by simp [hi]) fun h' hit' hs' => ?_
    exact hQ _ h' s.toks (by simp [hi]) ⟨hit', st.2.extBut hs'.extBut hne⟩ hs'
  done := fun s Q E st hE => nextOf_tuple_end hh st.1 st.2 (by simp) hE
section
variable {prog : Program} {w : World} {A : Around} {E : Value → Shared → Prop} {s : Shared} {z TI TO i1 i2 l1 l2 : Addr} {n1 n2 : Nat} {P1 P2 : Nat → Value → Prop} {S1 S2 : Nat → Heap → Prop}
theorem keep2 {a : Addr} {h h' : Heap} {S : Nat → Heap → Prop} {it l : Addr} {n : Nat} {P : Nat → Value → Prop} {k : Nat} (D : Draws prog w A it [it, l] n P S) (hs : Heap.SameBut a h h') (h1 : it ≠ a) (h2 : l ≠ a) (x : S k h) : S k h' :=
  D.frame _ _ _ x fun b hb o e => by simp at hb; rcases hb with rfl | rfl; exact hs.extBut _ _ h1 e; exact hs.extBut _ _ h2 e
theorem zip_item {k : Nat} {Q : Value → Shared → Prop} (D : ZipApart z TI TO i1 i2 l1 l2) (D1 : Draws prog w A i1 [i1, l1] n1 P1 S1) (D2 : Draws prog w A i2 [i2, l2] n2 P2 S2) {a b : Value}
    (hz : IsZip s.heap z TI TO .none) (hTI : IsPair s.heap TI (.ref i1) (.ref i2)) (hTO : IsPair s.heap TO a b) (h1 : S1 k s.heap) (h2 : S2 k s.heap) (hk1 : k < n1) (hk2 : k < n2)
    (hQ : ∀ (h' : Heap) (tk : Nat) (T : Addr) (x y : Value), P1 k x → P2 k y → IsZip h' z TI TO (rawInt T) → IsPair h' TO x y → S1 (k + 1) h' → S2 (k + 1) h' → IsPair h' T x y → T = s.heap.objs.size →
      (∀ c o, c ≠ z → c ≠ TO → c ≠ i1 → c ≠ i2 → s.heap.get? c = some o → h'.get? c = some o) → Q (.ref T) { s with heap := h', toks := tk }) :
    wpAny (model prog w) A (Builtin.«zip.__next__» ⟨[.ref z], []⟩) (fun fin s' => ∃ v, fin = .done (.ret v) ∧ Q v s') E s := by
  show wpAny _ _ (field (.ref z) 2 >>= _) _ _ _
  refine wpAny_bind (wpAny_field hz rfl (x := .bool false) rfl ?_)
  show wpAny _ _ (field (.ref z) 3 >>= _) _ _ _
  refine wpAny_bind (wpAny_field hz rfl (x := .ref TI) rfl ?_)
  refine wpAny_bind (wpAny_seqItems hTI rfl ?_)
  show wpAny _ _ (Builtin.SmallTypes.ownedTupleIsFree (.ref z) >>= _) _ _ _
  refine wpAny_bind ?_
  unfold Builtin.SmallTypes.ownedTupleIsFree
  refine wpAny_bind (wpAny_field hz rfl (x := .none) rfl (wpAny_pure ?_))
  simp only [if_true]
  refine wpAny_bind (wpAny_rule ?_)
  refine wpAny_bind (wpAny_field hz rfl (x := .ref TO) rfl ?_)
  refine wpAny_bind (wpAny_setField_rec hz (by simp) fun g₁ hz₁ hs₁ => ?_)
  replace hz₁ : IsZip g₁ z TI TO .ellipsis := hz₁
  refine wpAny_bind ?_
  simp only [List.zipIdx_cons, List.zipIdx_nil, List.forIn_cons, List.forIn_nil]
  refine wpAny_bind (wpAny_bind (wpAny_onRaise ?_))
  show wpAny _ _ (Builtin.SmallTypes.nextOf (.ref i1) >>= _) _ _ _
  refine wpAny_bind (D1.item k { s with heap := g₁ } _ _ hk1 (keep2 D1 hs₁ D.i1z D.l1z h1) fun x g₂ tk₂ hx h1₂ hs₂ => wpAny_pure ?_)
  replace hs₂ : Heap.SameBut i1 g₁ g₂ := hs₂
  have hTO₂ : IsPair g₂ TO a b := hs₂.extBut _ _ D.TOi1 (hs₁.extBut _ _ D.TOz hTO)
  refine wpAny_bind (wpAny_seqItems hTO₂ rfl ?_)
  refine wpAny_bind (wpAny_updateSeq_pair hTO₂ fun g₃ hTO₃ hs₃ => ?_)
  replace hTO₃ : IsPair g₃ TO x b := hTO₃
  replace hs₃ : Heap.SameBut TO g₂ g₃ := hs₃
  refine wpAny_bind (wpAny_letGo (wpAny_pure ?_))
  refine wpAny_bind (wpAny_bind (wpAny_onRaise ?_))
  show wpAny _ _ (Builtin.SmallTypes.nextOf (.ref i2) >>= _) _ _ _
  refine wpAny_bind (D2.item k _ _ _ hk2 (keep2 D2 hs₃ D.TOi2.symm D.l2TO (keep2 D2 hs₂ D.i12.symm D.l2i1 (keep2 D2 hs₁ D.i2z D.l2z h2))) fun y g₄ tk₄ hy h2₄ hs₄ => wpAny_pure ?_)
  replace hs₄ : Heap.SameBut i2 g₃ g₄ := hs₄
  have hTO₄ : IsPair g₄ TO x b := hs₄.extBut _ _ D.TOi2 hTO₃
  refine wpAny_bind (wpAny_seqItems hTO₄ rfl ?_)
  refine wpAny_bind (wpAny_updateSeq_pair hTO₄ fun g₅ hTO₅ hs₅ => ?_)
  replace hTO₅ : IsPair g₅ TO x y := hTO₅
  replace hs₅ : Heap.SameBut TO g₄ g₅ := hs₅
  refine wpAny_bind (wpAny_letGo (wpAny_pure (wpAny_pure ?_)))
  refine wpAny_bind (wpAny_seqItems hTO₅ rfl ?_)
  refine wpAny_bind (wpAny_newTuple ?_)
  have hz₅ : IsZip g₅ z TI TO .ellipsis := hs₅.extBut _ _ D.TOz.symm (hs₄.extBut _ _ D.i2z.symm (hs₃.extBut _ _ D.TOz.symm (hs₂.extBut _ _ D.i1z.symm hz₁)))
  have hk₅ : ∀ c o, c ≠ z → c ≠ TO → c ≠ i1 → c ≠ i2 → s.heap.get? c = some o → g₅.get? c = some o := fun c o c1 c2 c3 c4 e =>
    hs₅.extBut _ _ c2 (hs₄.extBut _ _ c4 (hs₃.extBut _ _ c2 (hs₂.extBut _ _ c3 (hs₁.extBut _ _ c1 e))))
  have h1₅ : S1 (k + 1) g₅ := keep2 D1 hs₅ D.TOi1.symm D.l1TO (keep2 D1 hs₄ D.i12 D.l1i2 (keep2 D1 hs₃ D.TOi1.symm D.l1TO h1₂))
  have h2₅ : S2 (k + 1) g₅ := keep2 D2 hs₅ D.TOi2.symm D.l2TO h2₄
  have hsz : g₅.objs.size = s.heap.objs.size := by rw [hs₅.1, hs₄.1, hs₃.1, hs₂.1, hs₁.1]
  have hzlt : z < g₅.objs.size := Heap.lt_size hz₅
  show wpAny _ _ (Builtin.SmallTypes.ownedTupleHandOut (.ref z) (.ref g₅.objs.size) >>= _) _ _ _
  refine wpAny_bind ?_
  unfold Builtin.SmallTypes.ownedTupleHandOut
  have hz₆ : IsZip (g₅.push { cls := .type "tuple", data := .seq #[x, y] }) z TI TO .ellipsis := Heap.get?_push_of_some _ hz₅
  refine wpAny_bind (wpAny_setField_rec hz₆ (by simp) fun g₇ hz₇ hs₇ => ?_)
  replace hz₇ : IsZip g₇ z TI TO (rawInt g₅.objs.size) := hz₇
  refine wpAny_setField_rec hz₇ (by simp) fun g₈ hz₈ hs₈ => ?_
  replace hz₈ : IsZip g₈ z TI TO (rawInt g₅.objs.size) := hz₈
  have up : ∀ c o, c ≠ z → g₅.get? c = some o → g₈.get? c = some o := fun c o c1 e => hs₈.extBut _ _ c1 (hs₇.extBut _ _ c1 (Heap.get?_push_of_some _ e))
  have up1 : S1 (k + 1) g₈ := D1.frame _ _ _ h1₅ fun b hb o e => up b o (by simp at hb; rcases hb with rfl | rfl; exact D.i1z; exact D.l1z) e
  have up2 : S2 (k + 1) g₈ := D2.frame _ _ _ h2₅ fun b hb o e => up b o (by simp at hb; rcases hb with rfl | rfl; exact D.i2z; exact D.l2z) e
  have hT₈ : IsPair g₈ g₅.objs.size x y := hs₈.extBut _ _ (Nat.ne_of_gt hzlt) (hs₇.extBut _ _ (Nat.ne_of_gt hzlt) (Heap.get?_push_size _ rfl))
  refine wpAny_pure ⟨_, rfl, ?_⟩
  exact hQ g₈ _ _ x y hx hy hz₈ (up _ _ D.TOz hTO₅) up1 up2 hT₈ hsz fun c o c1 c2 c3 c4 e => up c o c1 (hk₅ c o c1 c2 c3 c4 e)
theorem zip_done {k : Nat} {Q : Fin → Shared → Prop} (hh : A.handled = none) (D : ZipApart z TI TO i1 i2 l1 l2) (D1 : Draws prog w A i1 [i1, l1] n1 P1 S1) (D2 : Draws prog w A i2 [i2, l2] n2 P2 S2) {a b : Value}
    (hz : IsZip s.heap z TI TO .none) (hTI : IsPair s.heap TI (.ref i1) (.ref i2)) (hTO : IsPair s.heap TO a b) (h1 : S1 k s.heap) (h2 : S2 k s.heap) (hend : k = n1 ∨ (k < n1 ∧ k = n2))
    (hE : ∀ h' tk e, (∀ c o, c ≠ z → c ≠ TO → c ≠ i1 → c ≠ i2 → s.heap.get? c = some o → h'.get? c = some o) → (∃ o, h'.get? e = some o ∧ o.cls = .type "StopIteration") → E (.ref e) { s with heap := h', toks := tk }) :
    wpAny (model prog w) A (Builtin.«zip.__next__» ⟨[.ref z], []⟩) Q E s := by
  show wpAny _ _ (field (.ref z) 2 >>= _) _ _ _
  refine wpAny_bind (wpAny_field hz rfl (x := .bool false) rfl ?_)
  show wpAny _ _ (field (.ref z) 3 >>= _) _ _ _
  refine wpAny_bind (wpAny_field hz rfl (x := .ref TI) rfl ?_)
  refine wpAny_bind (wpAny_seqItems hTI rfl ?_)
  show wpAny _ _ (Builtin.SmallTypes.ownedTupleIsFree (.ref z) >>= _) _ _ _
  refine wpAny_bind ?_
  unfold Builtin.SmallTypes.ownedTupleIsFree
  refine wpAny_bind (wpAny_field hz rfl (x := .none) rfl (wpAny_pure ?_))
  simp only [if_true]
  refine wpAny_bind (wpAny_rule ?_)
  refine wpAny_bind (wpAny_field hz rfl (x := .ref TO) rfl ?_)
  refine wpAny_bind (wpAny_setField_rec hz (by simp) fun g₁ hz₁ hs₁ => ?_)
  replace hz₁ : IsZip g₁ z TI TO .ellipsis := hz₁
  refine wpAny_bind ?_
  simp only [List.zipIdx_cons, List.zipIdx_nil, List.forIn_cons, List.forIn_nil]
  refine wpAny_bind (wpAny_bind (wpAny_onRaise ?_))
  show wpAny _ _ (Builtin.SmallTypes.nextOf (.ref i1) >>= _) _ _ _
  have h1' := keep2 D1 hs₁ D.i1z D.l1z h1
  rcases hend with rfl | ⟨hk1, rfl⟩
  · refine wpAny_bind (D1.done { s with heap := g₁ } _ _ h1' fun g₂ e hs₂ he => ?_)
    replace hs₂ : Heap.ExtBut i1 g₁ g₂ := hs₂
    obtain ⟨oe, hoe, hce⟩ := he
    have hz₂ : IsZip g₂ z TI TO .ellipsis := hs₂ _ _ D.i1z.symm hz₁
    have hez : e ≠ z := fun x => by subst x; rw [hz₂] at hoe; cases hoe; simp at hce
    refine wpAny_setField_rec hz₂ (by simp) fun g₃ _ hs₃ => hE g₃ _ e (fun c o c1 _ c3 _ x => hs₃.extBut _ _ c1 (hs₂ _ _ c3 (hs₁.extBut _ _ c1 x))) ⟨oe, hs₃.extBut _ _ hez hoe, hce⟩
  · refine wpAny_bind (D1.item k { s with heap := g₁ } _ _ hk1 h1' fun x g₂ tk₂ hx h1₂ hs₂ => wpAny_pure ?_)
    replace hs₂ : Heap.SameBut i1 g₁ g₂ := hs₂
    have hTO₂ : IsPair g₂ TO a b := hs₂.extBut _ _ D.TOi1 (hs₁.extBut _ _ D.TOz hTO)
    refine wpAny_bind (wpAny_seqItems hTO₂ rfl ?_)
    refine wpAny_bind (wpAny_updateSeq_pair hTO₂ fun g₃ hTO₃ hs₃ => ?_)
    replace hs₃ : Heap.SameBut TO g₂ g₃ := hs₃
    refine wpAny_bind (wpAny_letGo (wpAny_pure ?_))
    refine wpAny_bind (wpAny_bind (wpAny_onRaise ?_))
    show wpAny _ _ (Builtin.SmallTypes.nextOf (.ref i2) >>= _) _ _ _
    refine wpAny_bind (D2.done _ _ _ (keep2 D2 hs₃ D.TOi2.symm D.l2TO (keep2 D2 hs₂ D.i12.symm D.l2i1 (keep2 D2 hs₁ D.i2z D.l2z h2))) fun g₄ e hs₄ he => ?_)
    replace hs₄ : Heap.ExtBut i2 g₃ g₄ := hs₄
    obtain ⟨oe, hoe, hce⟩ := he
    have hz₄ : IsZip g₄ z TI TO .ellipsis := hs₄ _ _ D.i2z.symm (hs₃.extBut _ _ D.TOz.symm (hs₂.extBut _ _ D.i1z.symm hz₁))
    have hez : e ≠ z := fun x => by subst x; rw [hz₄] at hoe; cases hoe; simp at hce
    refine wpAny_setField_rec hz₄ (by simp) fun g₅ _ hs₅ => hE g₅ _ e (fun c o c1 c2 c3 c4 x => hs₅.extBut _ _ c1 (hs₄ _ _ c4 (hs₃.extBut _ _ c2 (hs₂.extBut _ _ c3 (hs₁.extBut _ _ c1 x))))) ⟨oe, hs₅.extBut _ _ hez hoe, hce⟩
end
theorem walksZ {prog : Program} {w : World} {A : Around} (hh : A.handled = none) (z TI TO i1 i2 l1 l2 : Addr) (D : ZipApart z TI TO i1 i2 l1 l2) {n1 n2 : Nat} {P1 P2 : Nat → Value → Prop} {S1 S2 : Nat → Heap → Prop}
    (D1 : Draws prog w A.in1 i1 [i1, l1] n1 P1 S1) (D2 : Draws prog w A.in1 i2 [i2, l2] n2 P2 S2) :
    WalksT prog w A z [z, TI, TO, i1, i2, l1, l2] [z, TO, i1, i2] (min n1 n2)
      (fun i vals => ∃ x y, P1 i x ∧ P2 i y ∧ vals = #[x, y])
      (fun i h => IsZip h z TI TO .none ∧ IsPair h TI (.ref i1) (.ref i2) ∧ (∃ a b, IsPair h TO a b) ∧ S1 i h ∧ S2 i h)
      (fun i T h => IsZip h z TI TO (rawInt T) ∧ IsPair h TI (.ref i1) (.ref i2) ∧ (∃ a b, IsPair h TO a b) ∧ S1 (i + 1) h ∧ S2 (i + 1) h ∧ T ≠ z ∧ T ≠ TO ∧ T ≠ i1 ∧ T ≠ i2) where
  sub := fun c hc => by simp at hc ⊢; rcases hc with rfl | rfl | rfl | rfl <;> simp
  frame := fun i h h' hst hk => by
    obtain ⟨hz, hTI, ⟨a, b, hTO⟩, h1, h2⟩ := hst
    exact ⟨hk z (by simp) _ hz, hk TI (by simp) _ hTI, ⟨a, b, hk TO (by simp) _ hTO⟩, D1.frame _ _ _ h1 fun b hb o e => hk b (by simp at hb; rcases hb with rfl | rfl <;> simp) o e,
      D2.frame _ _ _ h2 fun b hb o e => hk b (by simp at hb; rcases hb with rfl | rfl <;> simp) o e⟩
  item := fun i s Q E hi hst hQ => by
    obtain ⟨hz, hTI, ⟨a, b, hTO⟩, h1, h2⟩ := hst
    have hTy : s.TypeIs (.ref z) "zip" := ⟨_, hz, rfl⟩
    unfold pyNext
    refine wpAny_bind (wpAny_attempt (wpAny_callSpecial?_slot (name := Str.ofString "__next__") hTy F.slot_zip_next
      (wpAny_call_entry F.slot_zip_next hTy F.entry_zip_next
        (zip_item D D1 D2 hz hTI hTO h1 h2 (by lia) (by lia) fun h' tk T x y hx hy a1 a2 a3 a4 a5 hT hk => wpAny_pure ?_) (F.args_zip_next_1 _))))
    have lt : ∀ {c o}, s.heap.get? c = some o → T ≠ c := fun e q => by subst q; rw [hT, get_size] at e; cases e
    refine hQ T #[x, y] h' tk ⟨_, _, hx, hy, rfl⟩ (Nat.le_of_eq hT.symm) ⟨_, a5, rfl, _, rfl⟩ ⟨a1, hk _ _ D.TIz D.TITO D.TIi1 D.TIi2 hTI, ⟨_, _, a2⟩, a3, a4, lt hz, lt hTO, ?_, ?_⟩
      fun c o hc e => hk c o (fun x => hc (by simp [x])) (fun x => hc (by simp [x])) (fun x => hc (by simp [x])) (fun x => hc (by simp [x])) e
    · obtain ⟨o, e⟩ := D1.live _ _ h1; exact lt e
    · obtain ⟨o, e⟩ := D2.live _ _ h2; exact lt e
  go := fun elts k pos i T s Q E hm hQ => by
    obtain ⟨hz, hTI, ⟨a, b, hTO⟩, h1, h2, _⟩ := hm
    refine wpAny_letOwnedTupleGo_zip hz fun h' hz' hs' => hQ h' ⟨hz', hs'.extBut _ _ D.TIz hTI, ⟨a, b, hs'.extBut _ _ D.TOz hTO⟩, keep2 D1 hs' D.i1z D.l1z h1, keep2 D2 hs' D.i2z D.l2z h2⟩
      fun c o hc e => hs'.extBut _ _ (fun x => hc (by simp [x])) e
  apart := fun i T h hm hT => by
    obtain ⟨_, _, _, _, _, t1, t2, t3, t4⟩ := hm
    simp at hT
    rcases hT with rfl | rfl | rfl | rfl
    · exact t1 rfl
    · exact t2 rfl
    · exact t3 rfl
    · exact t4 rfl
  done := fun s Q E hst hQ => by
    obtain ⟨hz, hTI, ⟨a, b, hTO⟩, h1, h2⟩ := hst
    have hTy : s.TypeIs (.ref z) "zip" := ⟨_, hz, rfl⟩
    unfold pyNext
    refine wpAny_bind (wpAny_attempt (wpAny_callSpecial?_slot (name := Str.ofString "__next__") hTy F.slot_zip_next
      (wpAny_call_entry F.slot_zip_next hTy F.entry_zip_next (zip_done hh D D1 D2 hz hTI hTO h1 h2 (by lia) fun h' tk e hk he => ?_) (F.args_zip_next_1 _))))
    obtain ⟨o, ho, hc⟩ := he
    refine wpAny_bind (wpAny_isInstance (T := "StopIteration") (b := true) ⟨o, ho, hc⟩ isSubtype_stop ?_)
    exact wpAny_pure (hQ _ _ fun c o hc e => hk c o (fun x => hc (by simp [x])) (fun x => hc (by simp [x])) (fun x => hc (by simp [x])) (fun x => hc (by simp [x])) e)
  self := fun i s Q E hst hQ => wpAny_pyIter_zip hst.1 hQ
end Mine
end
section
set_option maxRecDepth 100000
set_option genSizeOf false
set_option genInjectivity false
namespace Mine
open PySem PyProof.Rows SeqAt
theorem codeAmong_more {pos : Pos} {v : Value} (l r : List Value) (h : TriplesOk l) (hn : codeAmong pos l = some v) : codeAmong pos (l ++ r) = some v := by
  fun_induction TriplesOk l with
  | case1 => simp [codeAmong] at hn
  | case2 a t b u x rest ih =>
    simp only [List.cons_append, codeAmong] at hn ⊢
    split at hn
    · rename_i q; rw [if_pos q]; exact hn
    · rename_i q; rw [if_neg q]; exact ih h hn
  | case3 l h1 h2 => exact h.elim
theorem codeAmong_back {pos : Pos} {v : Value} {a b : Int} {c : Value} (l : List Value) (h : TriplesOk l) (hn : codeAmong pos (l ++ [rawInt a, rawInt b, c]) = some v) : codeAmong pos l = some v ∨ v = c := by
  fun_induction TriplesOk l with
  | case1 =>
    simp only [List.nil_append, rawInt, codeAmong] at hn
    split at hn
    · cases hn; exact .inr rfl
    · cases hn
  | case2 a t b u x rest ih =>
    simp only [List.cons_append, codeAmong] at hn ⊢
    split at hn
    · rename_i q; rw [if_pos q]; exact .inl hn
    · rename_i q; rw [if_neg q]; exact ih h hn
  | case3 l h1 h2 => exact h.elim
section
variable {G : Gd}
theorem code_tr {h : Heap} {c P : Addr} {ps : Array Value} (e : h.IsCode c P ps) : TriplesOk ps.toList := by
  obtain ⟨_, _, _, _, _, _, _, _, _, _, _, _, _, _, _, _, _, _, _, htr, _⟩ := e
  exact htr
theorem tab_fun {h : Heap} {P : Addr} {ps ps' : Array Value} (e : h.get? P = some { cls := .none, data := .fields ps }) (e' : h.get? P = some { cls := .none, data := .fields ps' }) : ps' = ps := by
  have q := congrArg Obj.data (Option.some.inj (e.symm.trans e'))
  injection q with q
  exact q.symm
theorem St.table {s : Shared} (i : Inv G s) {c P : Addr} (hO : G.Own c P) {ps : Array Value} (ht : s.heap.TableAt c P ps) (htr : TriplesOk ps.toList) {pos : Pos} (hnf : codeAmong pos ps.toList = none) {h' : Heap} (hx : Heap.ExtBut P s.heap h') {c' P' : Addr} {q : Str}
    (ht' : h'.TableAt c P (ps ++ #[rawInt pos.line, rawInt pos.col, .ref c'])) (hcd : h'.TableAt c' P' #[]) (hrec : h'.CodeRec (.ref c') q) (tk : Nat) : St G s { s with heap := h', toks := tk } ∧ Entry h' P pos (.ref c') := by
  have hT : G.Tab P := ⟨c, hO⟩
  have ne : ∀ b, ¬ G.Tab b → b ≠ P := fun b h e => h (e ▸ hT)
  have el : (ps ++ #[rawInt pos.line, rawInt pos.col, Value.ref c']).toList = ps.toList ++ [rawInt pos.line, rawInt pos.col, .ref c'] := Array.toList_append
  have keepCls : ∀ b o, s.heap.get? b = some o → o.cls ≠ .none → h'.get? b = some o := fun b o e hc => hx b o (ne b (i.notTab e hc)) e
  refine ⟨⟨{ gk := i.gk, old := ?_, glob := i.glob.extBut hx (ne _ i.gk.nt.1), bts := i.bts.extBut hx (ne _ i.gk.nt.2.1), nolim := ?_, bare := i.bare, os := i.os, fresh := fun a e => i.fresh a (none_back (fun o q => (Classical.em (a = P)).elim (fun z => ⟨_, z ▸ ht'.2⟩) fun z => ⟨o, hx a o z q⟩) e), tab := fun c2 P2 hb => ?_ }, fun b o nt e => hx b o (ne b nt) e, fun P2 pos2 v hP2 en => ?_⟩, ⟨ht'.2, by rw [el]; exact codeAmong_snoc _ htr hnf⟩⟩
  · obtain ⟨ps0, t0⟩ := i.gk.tab0 c P hO
    exact i.old.step_table t0 ht ht' hx (fun e => i.gk.nt.2.2 (e ▸ hT))
  · obtain ⟨mc, hn, e⟩ := i.nolim
    exact ⟨mc, hn.extBut hx (ne _ i.gk.nt.2.2), e⟩
  · cases i.tab c2 P2 hb with | @mk ps2 e e2 hcc =>
    have hd' : W.CodeHd h' c2 P2 := by
      obtain ⟨o, vs, file, tf, flags, tg, inF, text, tt, a1, a2, r⟩ := W.CodeHd.of e e2
      exact ⟨o, vs, file, tf, flags, tg, inF, text, tt, keepCls _ _ a1 (a2 ▸ type_ne), a2, r⟩
    have old : ∀ pos2 v, codeAmong pos2 ps2.toList = some v → CodeV h' v := fun pos2 v hv => (hcc pos2 v hv).keeps fun b o e c => keepCls b o e (c.1 ▸ type_ne)
    by_cases hP : P2 = P
    · subst hP
      have hq := tab_fun ht.2 e2.2
      subst hq
      refine ⟨hd'.code ht'.2 (by rw [el]; exact TriplesOk_snoc _ _ _ _ htr), hd'.tab ht'.2, fun pos2 v hv => ?_⟩
      rw [el] at hv
      rcases codeAmong_back _ htr hv with hv | hv
      · exact old pos2 v hv
      · obtain ⟨⟨o, vs, a1, a2, _⟩, _⟩ := hcd
        exact hv ▸ ⟨a1, a2, hrec⟩
    · have g2 := hx _ _ hP e2.2
      exact ⟨hd'.code g2 (code_tr e), hd'.tab g2, old⟩
  · cases en with | mk e hv =>
    by_cases hP : P2 = P
    · subst hP
      have hq := tab_fun ht.2 e
      subst hq
      exact ⟨ht'.2, by rw [el]; exact codeAmong_more _ _ htr hv⟩
    · exact ⟨hx _ _ hP e, hv⟩
theorem fn_code {A : Around} {X : Value → Shared → Prop} {s : Shared} (i : Inv G s) {env : Env} {c P : Addr} (hc : env.code = .ref c) (hO : G.Own c P) {pos : Pos} {firstLine : Nat} {name qualname : Str} {p : Arguments} {scope : Scope} {body : FuncBody} {Q : Value → Shared → Prop}
    (h : ∀ v s', St G s s' → Entry s'.heap P pos v → Q v s') : wpAny (model G.prog G.w) A (functionCode env pos firstLine name qualname p scope body) Q X s := by
  cases i.tab c P hO with | @mk ps e e2 hcc =>
  cases hf : codeAmong pos ps.toList with
  | some v => exact wpAny_functionCode_hit hc e hf (h v s (.refl i) ⟨e2.2, hf⟩)
  | none =>
    refine wpAny_functionCodeX hc e e2 hf fun c' h' tk hx hge hlt hok' hrec htb htc => ?_
    obtain ⟨P', _, _, ht⟩ := htc
    obtain ⟨st, en⟩ := St.table i hO e2 (code_tr e) hf hx htb ht hrec tk
    exact h _ _ st en
theorem gen_code {A : Around} {X : Value → Shared → Prop} {s : Shared} (i : Inv G s) {env : Env} {c P : Addr} (hc : env.code = .ref c) (hO : G.Own c P) {pos : Pos} {qualname : Str} {scope : Scope} {Q : Value → Shared → Prop}
    (h : ∀ v s', St G s s' → Q v s') : wpAny (model G.prog G.w) A (genexprCode env pos qualname scope) Q X s := by
  cases i.tab c P hO with | @mk ps e e2 hcc =>
  cases hf : codeAmong pos ps.toList with
  | some v => exact wpAny_genexprCode_hit hc e hf (h v s (.refl i))
  | none =>
    refine wpAny_genexprCodeX hc e e2 hf fun c' h' tk hx hge hlt hok' hrec htb htc => ?_
    obtain ⟨P', _, _, ht⟩ := htc
    exact h _ _ (St.table i hO e2 (code_tr e) hf hx htb ht hrec tk).1
end
theorem beq_no {α : Type} [BEq α] [LawfulBEq α] {a b : α} (h : a ≠ b) : (a == b) = false := beq_eq_false_iff_ne.mpr h
section
variable {β : Type} {x : Str} {k : β} {l : List (Str × β)}
theorem mem_name (h : (x, k) ∈ l) : x ∈ l.map (·.1) := List.mem_map_of_mem (f := fun p : Str × β => p.1) h
theorem lookup_of (hn : (l.map (·.1)).Nodup) (h : (x, k) ∈ l) : l.lookup x = some k := by
  induction l with
  | nil => exact absurd h List.not_mem_nil
  | cons p r ih =>
    have hn := List.nodup_cons.mp hn
    rw [List.lookup_cons]
    rcases List.mem_cons.mp h with e | h
    · subst e; rw [beq_self_eq_true]
    · have hne : x ≠ p.1 := fun e => hn.1 (show p.1 ∈ _ from e ▸ mem_name h)
      rw [beq_no hne]; exact ih hn.2 h
theorem lookup_name (h : l.lookup x = some k) : x ∈ l.map (·.1) := mem_name (lookup_mem h)
end
theorem lk_hit {β : Type} {x : Str} {k : β} {r : List (Str × β)} : ((x, k) :: r).lookup x = some k := by rw [List.lookup_cons, beq_self_eq_true]
theorem lk_miss {β : Type} {x y : Str} {k : β} {r : List (Str × β)} (h : x ≠ y) : ((y, k) :: r).lookup x = r.lookup x := by rw [List.lookup_cons, beq_no h]
theorem idx_inj {sg : List (Str × Bool)} {x y : Str} (hx : x ∈ sg.map (·.1)) (h : idxOf sg x = idxOf sg y) : x = y := by
  unfold idxOf at h
  induction sg with
  | nil => exact absurd hx List.not_mem_nil
  | cons p r ih =>
    rw [List.findIdx_cons, List.findIdx_cons] at h
    cases q : p.1 == x with
    | true =>
      cases q' : p.1 == y with
      | true => exact (eq_of_beq q).symm.trans (eq_of_beq q')
      | false => rw [q, q'] at h; exact Nat.noConfusion h
    | false =>
      cases q' : p.1 == y with
      | true => rw [q, q'] at h; exact Nat.noConfusion h
      | false =>
        rw [q, q'] at h
        rcases List.mem_cons.mp hx with e | hx
        · rw [e, beq_self_eq_true] at q; exact Bool.noConfusion q
        · exact ih hx (Nat.succ.inj h)
theorem isVar_mem {sg : List (Str × Bool)} {x : Str} (h : isVar sg x = true) : x ∈ sg.map (·.1) := by
  unfold isVar at h
  cases e : sg.lookup x with
  | none => rw [e] at h; exact Bool.noConfusion h
  | some b => exact lookup_name e
theorem idx_lt {sg : List (Str × Bool)} {x : Str} (h : x ∈ sg.map (·.1)) : idxOf sg x < sg.length := by
  obtain ⟨p, hp, e⟩ := List.mem_map.mp h
  exact List.findIdx_lt_length.mpr ⟨p, hp, e ▸ beq_self_eq_true _⟩
theorem kind_isVar {env : Env} {x : Str} {k : NameKind} (h : env.kindOf x = some k) (hk : isVarKind k = true) : isVar (sig env.scope) x = true := by
  unfold isVar
  rw [sig_lookup]
  unfold Env.kindOf at h
  rw [h]
  exact hk
theorem mem_kind {f : NameKind → Bool} {ns : List (Str × NameKind)} {x : Str} : x ∈ (ns.filter fun p => f p.2).map (·.1) ↔ ∃ k, (x, k) ∈ ns ∧ f k = true :=
  ⟨fun h => by
    obtain ⟨p, hp, e⟩ := List.mem_map.mp h
    have q := List.mem_filter.mp hp
    exact ⟨p.2, e ▸ q.1, q.2⟩, fun h => by
    obtain ⟨k, hk, q⟩ := h
    exact List.mem_map.mpr ⟨(x, k), List.mem_filter.mpr ⟨hk, q⟩, rfl⟩⟩
theorem mem_freeIn {sc : Scope} {x : Str} : x ∈ freeIn sc ↔ (x, NameKind.free) ∈ sc.names :=
  (mem_kind (f := (· == NameKind.free))).trans ⟨fun h => by obtain ⟨k, hk, q⟩ := h; exact eq_of_beq q ▸ hk, fun h => ⟨_, h, rfl⟩⟩
theorem ownKind_cases {k : NameKind} (h : ownKind k = true) : k = .local ∨ k = .cell := by
  cases k with
  | «local» => exact .inl rfl
  | cell => exact .inr rfl
  | _ => exact Bool.noConfusion h
theorem cellKind_cases {k : NameKind} (h : cellKind k = true) : k = .cell ∨ k = .free := by
  cases k with
  | cell => exact .inl rfl
  | free => exact .inr rfl
  | _ => exact Bool.noConfusion h
structure ScOk (cf : List Str) (sc : Scope) : Prop where
  kind : sc.kind = .function
  gen : sc.isGenerator = false
  co : sc.isCoroutine = false
  nd : (sc.names.map (·.1)).Nodup
  free : ∀ x ∈ freeIn sc, x ∈ cf
  nx : ∀ p ∈ sc.names, p.2 ≠ .globalExplicit
theorem scOk_of {cf : List Str} {sc : Scope} (h : scOk cf sc = true) : ScOk cf sc := by
  unfold scOk at h
  obtain ⟨h, h6⟩ := Bool.and_eq_true_iff.mp h
  obtain ⟨h, h5⟩ := Bool.and_eq_true_iff.mp h
  obtain ⟨h, h4⟩ := Bool.and_eq_true_iff.mp h
  obtain ⟨h, h3⟩ := Bool.and_eq_true_iff.mp h
  obtain ⟨h1, h2⟩ := Bool.and_eq_true_iff.mp h
  exact ⟨eq_of_beq h1, Bool.not_eq_true' _ ▸ h2, Bool.not_eq_true' _ ▸ h3, of_decide_eq_true h4, fun x hx => List.contains_iff_mem.mp (List.all_eq_true.mp h5 x hx), fun p hp => bne_iff_ne.mp (List.all_eq_true.mp h6 p hp)⟩
theorem cells_old {x : Str} {names : List (Str × NameKind)} : (x, NameKind.cell) ∉ names → ∀ (n : Nat) (acc : List (Str × Addr)), (cellsFrom n names acc).lookup x = acc.lookup x := by
  induction names with
  | nil => exact fun _ _ _ => rfl
  | cons p r ih =>
    intro h n acc
    have hr : (x, NameKind.cell) ∉ r := fun q => h (List.mem_cons_of_mem _ q)
    unfold cellsFrom
    by_cases hk : (p.2 == NameKind.cell) = true
    · rw [if_pos hk, ih hr]; exact lk_miss fun e => h (List.mem_cons.mpr (.inl (Prod.ext e (eq_of_beq hk).symm)))
    · rw [if_neg hk]; exact ih hr n acc
structure NewCells (h : Heap) (names : List (Str × NameKind)) (cells : List (Str × Addr)) (h' : Heap) : Prop where
  new : ∀ x, (x, NameKind.cell) ∈ names → ∃ c, cells.lookup x = some c ∧ h.objs.size ≤ c ∧ h'.IsCell c none
  inj : ∀ x y c, (x, NameKind.cell) ∈ names → (y, NameKind.cell) ∈ names → cells.lookup x = some c → cells.lookup y = some c → x = y
theorem cells_new {names : List (Str × NameKind)} : (names.map (·.1)).Nodup → ∀ (h : Heap) (acc : List (Str × Addr)), NewCells h names (cellsFrom h.objs.size names acc) (pushCells h names) := by
  induction names with
  | nil => exact fun _ _ _ => ⟨fun x hx => absurd hx List.not_mem_nil, fun x y c hx => absurd hx List.not_mem_nil⟩
  | cons p r ih =>
    intro hn h acc
    have hn := List.nodup_cons.mp hn
    unfold cellsFrom pushCells
    by_cases hk : (p.2 == NameKind.cell) = true
    · rw [if_pos hk, if_pos hk]
      have q := ih hn.2 (h.push { cls := .type "cell", data := .cell none }) ((p.1, h.objs.size) :: acc)
      rw [Heap.size_push] at q
      have ha : (cellsFrom (h.objs.size + 1) r ((p.1, h.objs.size) :: acc)).lookup p.1 = some h.objs.size := (cells_old (fun m => hn.1 (mem_name m)) _ _).trans lk_hit
      have far : ∀ y c, (y, NameKind.cell) ∈ r → (cellsFrom (h.objs.size + 1) r ((p.1, h.objs.size) :: acc)).lookup y = some c → c ≠ h.objs.size := fun y c hy ey e => by
        obtain ⟨c', e', l, _⟩ := q.new y hy
        rw [Heap.size_push] at l
        exact absurd (Option.some.inj (ey.symm.trans e') ▸ l) (e ▸ Nat.not_succ_le_self _)
      refine ⟨fun x hx => ?_, fun x y c hx hy ex ey => ?_⟩
      · rcases List.mem_cons.mp hx with e | hx
        · exact ⟨_, (congrArg Prod.fst e : x = p.1) ▸ ha, Nat.le_refl _, ⟨_, pushCells_keeps r _ _ _ (Heap.get?_push_size _ rfl), rfl⟩⟩
        · obtain ⟨c, e, l, w⟩ := q.new x hx
          rw [Heap.size_push] at l
          exact ⟨c, e, Nat.le_of_succ_le l, w⟩
      · rcases List.mem_cons.mp hx with e1 | hx <;> rcases List.mem_cons.mp hy with e2 | hy
        · exact (congrArg Prod.fst e1 : x = p.1).trans (congrArg Prod.fst e2 : y = p.1).symm
        · have e1 : x = p.1 := congrArg Prod.fst e1
          exact absurd (Option.some.inj (ex.symm.trans (e1 ▸ ha))) (far y c hy ey)
        · have e2 : y = p.1 := congrArg Prod.fst e2
          exact absurd (Option.some.inj (ey.symm.trans (e2 ▸ ha))) (far x c hx ex)
        · exact q.inj x y c hx hy ex ey
    · rw [if_neg hk, if_neg hk]
      have strip : ∀ x, (x, NameKind.cell) ∈ p :: r → (x, NameKind.cell) ∈ r := fun x hx => (List.mem_cons.mp hx).elim (fun e => absurd (show (p.2 == NameKind.cell) = true from (congrArg Prod.snd e : NameKind.cell = p.2) ▸ rfl) hk) id
      have q := ih hn.2 h acc
      exact ⟨fun x hx => q.new x (strip x hx), fun x y c hx hy => q.inj x y c (strip x hx) (strip y hy)⟩
noncomputable def clFrom (env : Env) : List (Str × NameKind) → List (Str × Addr) → List (Str × Addr)
  | [], acc => acc
  | p :: r, acc => bif p.2 == .free then clFrom env r ((p.1, (env.cells.lookup p.1).getD 0) :: acc) else clFrom env r acc
theorem closureFor_eq {scope : Scope} {env : Env} (h : ∀ x ∈ freeIn scope, ∃ c, env.cells.lookup x = some c) : closureFor scope env = pure (clFrom env scope.names []) := by
  have key : ∀ (names : List (Str × NameKind)), (∀ x, (x, NameKind.free) ∈ names → ∃ c, env.cells.lookup x = some c) → ∀ acc : List (Str × Addr),
      (forIn names acc fun (p : Str × NameKind) (cs : List (Str × Addr)) => (match p with | (name, kind) => if (kind == NameKind.free) = true then (do let a ← cellOf env name; pure (ForInStep.yield ((name, a) :: cs)) : Sem _) else pure (ForInStep.yield cs))) = pure (clFrom env names acc) := by
    intro names
    induction names with
    | nil => exact fun _ acc => rfl
    | cons p r ih =>
      intro hp acc
      have ih := ih fun x hx => hp x (List.mem_cons_of_mem _ hx)
      obtain ⟨nm, kd⟩ := p
      rw [List.forIn_cons]
      unfold clFrom
      cases hk : kd == NameKind.free with
      | true =>
        obtain ⟨c, e⟩ := hp nm (List.mem_cons.mpr (.inl (Prod.ext rfl (eq_of_beq hk).symm)))
        have e1 : cellOf env nm = pure c := by unfold cellOf; rw [e]
        show ((if (kd == NameKind.free) = true then _ else _) >>= _) = _
        rw [if_pos hk, e1, e]
        exact ih _
      | false =>
        show ((if (kd == NameKind.free) = true then _ else _) >>= _) = _
        rw [if_neg fun q => Bool.noConfusion (hk.symm.trans q)]
        exact ih _
  have := key scope.names (fun x hx => h x (mem_freeIn.mpr hx)) []
  unfold closureFor
  exact (congrArg (· >>= pure) this).trans rfl
theorem cl_lookup {env : Env} {x : Str} {c : Addr} (e : env.cells.lookup x = some c) {names : List (Str × NameKind)} : ∀ {acc : List (Str × Addr)}, ((x, NameKind.free) ∈ names ∧ (acc.lookup x = none ∨ acc.lookup x = some c)) ∨ acc.lookup x = some c → (clFrom env names acc).lookup x = some c := by
  induction names with
  | nil => exact fun h => h.elim (fun h => absurd h.1 List.not_mem_nil) id
  | cons p r ih =>
    intro acc h
    unfold clFrom
    cases hk : p.2 == NameKind.free with
    | true =>
      by_cases q : x = p.1
      · subst q; exact ih (.inr (lk_hit.trans (congrArg some (by rw [e]; rfl))))
      · have l : ((p.1, (env.cells.lookup p.1).getD 0) :: acc).lookup x = acc.lookup x := lk_miss q
        refine ih ?_
        rw [l]
        exact h.imp_left fun h => ⟨(List.mem_cons.mp h.1).elim (fun e => absurd (congrArg Prod.fst e) q) id, h.2⟩
    | false => exact ih (h.imp_left fun h => ⟨(List.mem_cons.mp h.1).elim (fun e => by rw [← e] at hk; exact Bool.noConfusion hk) id, h.2⟩)
theorem cl_free {env : Env} {sc : Scope} {x : Str} (hx : x ∈ freeIn sc) {c : Addr} (e : env.cells.lookup x = some c) : (clFrom env sc.names []).lookup x = some c := cl_lookup e (.inl ⟨mem_freeIn.mp hx, .inl rfl⟩)
inductive Owner where
  | out | loc | cell (i : Nat) | slot (i : Nat) | it
abbrev Th := Addr → Option Owner
noncomputable def Th.dom (Θ : Th) (a : Addr) : Prop := ∃ w, Θ a = some w
noncomputable def Th.mine (Θ : Th) (a : Addr) : Prop := ∃ w, Θ a = some w ∧ w ≠ .out
inductive Fixed : Owner → Prop
  | loc : Fixed .loc
  | cell {i : Nat} : Fixed (.cell i)
theorem Fixed.ni {w : Owner} (h : Fixed w) : w ≠ .it := fun e => by
  induction h with
  | loc => exact Owner.noConfusion e
  | cell => exact Owner.noConfusion e
theorem Fixed.no {w : Owner} (h : Fixed w) : w ≠ .out := fun e => by
  induction h with
  | loc => exact Owner.noConfusion e
  | cell => exact Owner.noConfusion e
theorem th_ne {Θ : Th} {a : Addr} {w w' : Owner} (h : Θ a = some w) (h' : Θ a = some w') : w = w' := Option.some.inj (h.symm.trans h')
structure SF (G : Gd) (Θ : Th) (h : Heap) (env : Env) (i : Nat) (sl : Slot) (y : Value) : Prop where
  sr : SR G Θ.dom h env sl y
  own : ∀ a, Has h sl y a → Θ a = some (.slot i)
structure FR (G : Gd) (ow : List Str) (Θ : Th) (h : Heap) (env : Env) (m : Fr) : Prop where
  loc : Θ env.locals = some .loc
  ns : ∃ mm, h.Ns env.locals mm
  ox : OX G Θ.dom h
  new : ∀ a, Θ.mine a → G.h₀.get? a = none
  cel : ∀ x c, x ∈ ow → env.kindOf x = some .cell ∨ env.kindOf x = some .free → env.cells.lookup x = some c → Θ c = some (.cell (idxOf (sig env.scope) x))
  fre : ∀ x c, x ∉ ow → env.kindOf x = some .cell ∨ env.kindOf x = some .free → env.cells.lookup x = some c → ¬ Θ.mine c
  cells : ∀ x, env.kindOf x = some .cell ∨ env.kindOf x = some .free → CelA G h env x
  var : ∀ x sl, isVar (sig env.scope) x = true → m.at (idxOf (sig env.scope) x) = some sl → ∃ y, VarIs G h env x y ∧ SF G Θ h env (idxOf (sig env.scope) x) sl y
structure Ex (G : Gd) (Θ : Th) (h : Heap) (Θ' : Th) (h' : Heap) : Prop where
  kp : ∀ b o, ¬ G.Tab b → ¬ Θ.mine b → h.get? b = some o → h'.get? b = some o
  pr : ∀ a w, Θ a = some w → w ≠ .it → Θ' a = some w ∧ ∀ o, h.get? a = some o → h'.get? a = some o
  out : ∀ a, Θ' a = some .out → Θ a = some .out
  new : ∀ a, Θ'.mine a → Θ.mine a ∨ (h.get? a = none ∧ G.h₀.get? a = none)
  tb : ∀ P pos v, G.Tab P → Entry h P pos v → Entry h' P pos v
structure Sk (G : Gd) (Θ : Th) (s : Shared) (Θ' : Th) (s' : Shared) : Prop where
  inv : Inv G s'
  kp : ∀ b o, ¬ G.Tab b → ¬ Θ.mine b → s.heap.get? b = some o → s'.heap.get? b = some o
  out : ∀ a, Θ a = some .out ↔ Θ' a = some .out
  new : ∀ a, Θ'.dom a → Θ.dom a ∨ s.heap.get? a = none
  liv : ∀ a, Θ.mine a → ∃ o, s'.heap.get? a = some o
  tb : ∀ P pos v, G.Tab P → Entry s.heap P pos v → Entry s'.heap P pos v
  itk : ∀ b, Θ b = some .it → Θ' b = some .it ∧ ∀ o, s.heap.get? b = some o → s'.heap.get? b = some o
noncomputable def Sl (Θ : Th) (h : Heap) (Θ' : Th) (h' : Heap) : Prop := ∀ a i, Θ a = some (.slot i) → Θ' a = some (.slot i) ∧ ∀ o, h.get? a = some o → h'.get? a = some o
section
variable {G : Gd} {ow : List Str} {Θ Θ' Θ'' : Th} {h h' : Heap} {env : Env} {m m' : Fr} {s s' s'' : Shared}
theorem th_mine {a : Addr} {w : Owner} (t : Θ a = some w) (n : w ≠ .out) : Θ.mine a := ⟨w, t, n⟩
theorem mine_dom {a : Addr} (x : Θ.mine a) : Θ.dom a := by obtain ⟨w, e, _⟩ := x; exact ⟨w, e⟩
theorem dom_cases {a : Addr} (x : Θ.dom a) : Θ a = some .out ∨ Θ.mine a := by
  obtain ⟨w, e⟩ := x
  induction w with
  | out => exact .inl e
  | _ => exact .inr ⟨_, e, fun q => Owner.noConfusion q⟩
theorem not_mine {a : Addr} (t : Θ a = some .out) : ¬ Θ.mine a := fun x => by obtain ⟨w, e, n⟩ := x; exact n (th_ne e t)
theorem FR.there (r : FR G ow Θ h env m) {a : Addr} {w : Owner} (t : Θ a = some w) : ¬ G.Tab a ∧ ∃ o, h.get? a = some o := r.ox a ⟨w, t⟩
theorem FR.er (r : FR G ow Θ h env m) : ER G Θ.dom h env m := ⟨(r.there r.loc).1, r.ox, r.cells, fun x sl hx hm => by
  obtain ⟨y, v, q⟩ := r.var x sl hx hm
  exact ⟨y, v, q.sr⟩⟩
theorem FR.map (r : FR G ow Θ h env m) (hl : ∀ a w, Θ a = some w → Fixed w → Θ' a = some w ∧ ∀ o, h.get? a = some o → h'.get? a = some o) (hf : ∀ a o, ¬ G.Tab a → ¬ Θ.mine a → h.get? a = some o → ¬ Θ'.mine a ∧ h'.get? a = some o)
    (ox : OX G Θ'.dom h') (new : ∀ a, Θ'.mine a → G.h₀.get? a = none) (sf : ∀ x sl, isVar (sig env.scope) x = true → m'.at (idxOf (sig env.scope) x) = some sl → ∃ sl0, m.at (idxOf (sig env.scope) x) = some sl0 ∧
      ∀ y, VarIs G h env x y → SF G Θ h env (idxOf (sig env.scope) x) sl0 y → SF G Θ' h' env (idxOf (sig env.scope) x) sl y) : FR G ow Θ' h' env m' := by
  have kc : ∀ x c o, env.kindOf x = some .cell ∨ env.kindOf x = some .free → env.cells.lookup x = some c → ¬ G.Tab c → h.get? c = some o → h'.get? c = some o := fun x c o hk e nt g => by
    by_cases ho : x ∈ ow
    · exact (hl c _ (r.cel x c ho hk e) .cell).2 o g
    · exact (hf c o nt (r.fre x c ho hk e) g).2
  have cells : ∀ x, env.kindOf x = some .cell ∨ env.kindOf x = some .free → CelA G h' env x := fun x hx => by
    cases r.cells x hx with | mk e nt hv => exact ⟨e, nt, cell_kp hv fun o => kc x _ o hx e nt⟩
  have kl := (hl _ _ r.loc .loc).2
  refine ⟨(hl _ _ r.loc .loc).1, ?_, ox, new, fun x c ho hk e => (hl c _ (r.cel x c ho hk e) .cell).1, fun x c ho hk e => ?_, cells, fun x sl hx hm => ?_⟩
  · obtain ⟨mm, q⟩ := r.ns
    exact ⟨mm, ns_kp q kl⟩
  · cases r.cells x hk with | mk e' nt hv =>
    cases Option.some.inj (e.symm.trans e')
    obtain ⟨o, g, _⟩ := hv
    exact (hf c o nt (r.fre x c ho hk e) g).1
  · obtain ⟨sl0, e0, f⟩ := sf x sl hx hm
    obtain ⟨y, v, q⟩ := r.var x sl0 hx e0
    refine ⟨y, ?_, f y v q⟩
    induction v with
    | loc hk hn e => exact .loc hk (ns_kp hn kl) e
    | cel hk hc nt hv => exact .cel hk hc nt (cell_kp hv fun o => kc x _ o hk hc nt)
theorem Ex.dom (x : Ex G Θ h Θ' h') {a : Addr} {o : Obj} (e : h.get? a = some o) (hd : Θ'.dom a) : Θ.dom a :=
  (dom_cases hd).elim (fun t => ⟨_, x.out a t⟩) fun m => (x.new a m).elim mine_dom fun q => nos (q.1.symm.trans e)
theorem Ex.keep (nt : ∀ a o, h.get? a = some o → o.cls ≠ .none → ¬ G.Tab a) (x : Ex G Θ h Θ' h') : Keep Θ.dom Θ'.dom h h' := fun a o e c no => ⟨fun hd => no (x.dom e hd), x.kp a o (nt a o e c) (fun q => no (mine_dom q)) e⟩
theorem Ex.slots (x : Ex G Θ h Θ' h') : Sl Θ h Θ' h' := fun a i t => x.pr a _ t fun e => Owner.noConfusion e
theorem has_back {O : Addr → Prop} {sl : Slot} {y : Value} (sr : SR G O h env sl y) (k : ∀ a o, Has h sl y a → h.get? a = some o → h'.get? a = some o) {a : Addr} (x : Has h' sl y a) : Has h sl y a := by
  induction x with
  | top o => exact .top o
  | inn e m =>
    cases sr with | oll r =>
    cases r with | mk e0 =>
    cases (e.symm.trans (k _ _ (.top rfl) e0))
    exact .inn e0 m
theorem SF.map {i : Nat} {sl : Slot} {y : Value} (k : Keep Θ.dom Θ'.dom h h') (ks : ∀ a, Θ a = some (.slot i) → Θ' a = some (.slot i) ∧ ∀ o, h.get? a = some o → h'.get? a = some o) (tb : ∀ P pos v, G.Tab P → Entry h P pos v → Entry h' P pos v) (r : SF G Θ h env i sl y) : SF G Θ' h' env i sl y :=
  ⟨r.sr.map k (fun a o hh g _ => (ks a (r.own a hh)).2 o g) tb, fun a hh => (ks a (r.own a (has_back r.sr (fun a o hh => (ks a (r.own a hh)).2 o) hh))).1⟩
theorem FR.ex (i : Inv G s) (x : Ex G Θ s.heap Θ' h') (ox : OX G Θ'.dom h') (r : FR G ow Θ s.heap env m) : FR G ow Θ' h' env m :=
  r.map (fun a w t f => x.pr a w t f.ni) (fun a o nt n e => ⟨fun q => (x.new a q).elim n fun q => nos (q.1.symm.trans e), x.kp a o nt n e⟩) ox (fun a q => (x.new a q).elim (r.new a) fun q => q.2)
    fun z sl _ hm => ⟨sl, hm, fun y _ q => q.map (x.keep fun a o e c => i.notTab e c) (fun a => x.slots a _) x.tb⟩
theorem Ex.of (ox : OX G Θ.dom s.heap) (st : St G s s') : Ex G Θ s.heap Θ s'.heap :=
  ⟨fun b o nt _ e => st.kp b o nt e, fun a w t _ => ⟨t, fun o e => st.kp a o (ox a ⟨w, t⟩).1 e⟩, fun _ t => t, fun _ q => .inl q, st.tb⟩
theorem FR.step (i : Inv G s) (st : St G s s') (r : FR G ow Θ s.heap env m) : FR G ow Θ s'.heap env m := r.ex i (Ex.of r.ox st) (r.ox.step st)
theorem Sk.of (st : St G s s') (ox : OX G Θ.dom s.heap) : Sk G Θ s Θ s' := ⟨st.inv, fun b o nt _ e => st.kp b o nt e, fun _ => Iff.rfl, fun _ h => .inl h, fun a q => by
    obtain ⟨nt, o, e⟩ := ox a (mine_dom q)
    exact ⟨o, st.kp _ _ nt e⟩, st.tb, fun b t => ⟨t, fun o e => st.kp b o (ox b ⟨_, t⟩).1 e⟩⟩
theorem Sk.keep (i : Inv G s) (x : Sk G Θ s Θ' s') : Keep Θ.dom Θ'.dom s.heap s'.heap := fun a o e c no => ⟨fun q => (x.new a q).elim no fun q => nos (q.symm.trans e), x.kp a o (i.notTab e c) (fun q => no (mine_dom q)) e⟩
theorem Sk.back (x : Sk G Θ s Θ' s') {a : Addr} (nt : ¬ G.Tab a) (e' : s'.heap.get? a = none) : s.heap.get? a = none := by
  cases e : s.heap.get? a with
  | none => rfl
  | some o =>
    by_cases hm : Θ.mine a
    · obtain ⟨o', e''⟩ := x.liv a hm; exact nos (e'.symm.trans e'')
    · exact nos (e'.symm.trans (x.kp a o nt hm e))
theorem Sk.mine (x : Sk G Θ s Θ' s') {a : Addr} (q : Θ'.mine a) : Θ.mine a ∨ s.heap.get? a = none := (x.new a (mine_dom q)).imp_left fun d => (dom_cases d).elim (fun t => absurd q (not_mine ((x.out a).mp t))) id
theorem Sk.trans (x : Sk G Θ s Θ' s') (y : Sk G Θ' s' Θ'' s'') (ox : OX G Θ''.dom s''.heap) : Sk G Θ s Θ'' s'' where
  inv := y.inv
  kp := fun b o nt n e => y.kp b o nt (fun q => (x.mine q).elim n fun q => nos (q.symm.trans e)) (x.kp b o nt n e)
  out := fun a => (x.out a).trans (y.out a)
  new := fun a q => (y.new a q).elim (x.new a) fun e => .inr (x.back (ox a q).1 e)
  liv := fun a q => by
    obtain ⟨o, e⟩ := x.liv a q
    by_cases hm : Θ'.mine a
    · exact y.liv a hm
    · by_cases nt : G.Tab a
      · obtain ⟨ps, e'⟩ := y.inv.tabObj nt; exact ⟨_, e'⟩
      · exact ⟨o, y.kp a o nt hm e⟩
  tb := fun P pos v hP e => y.tb P pos v hP (x.tb P pos v hP e)
  itk := fun b t => ⟨(y.itk b (x.itk b t).1).1, fun o e => (y.itk b (x.itk b t).1).2 o ((x.itk b t).2 o e)⟩
noncomputable def Th.drop (Θ : Th) (p : Nat → Bool) : Th := fun a => (Θ a).bind fun w => match w with
  | .slot i => bif p i then none else some (.slot i)
  | w => some w
theorem drop_of {p : Nat → Bool} {a : Addr} {w : Owner} (t : Θ a = some w) (n : ∀ i, w = .slot i → p i = false) : Θ.drop p a = some w := by
  unfold Th.drop
  rw [t]
  induction w with
  | slot i => exact (congrArg (fun b => bif b then none else some (Owner.slot i)) (n i rfl))
  | _ => rfl
theorem drop_gone {p : Nat → Bool} {a : Addr} {i : Nat} (t : Θ a = some (.slot i)) (n : p i = true) : ¬ (Θ.drop p).dom a := fun d => by
  obtain ⟨w, d⟩ := d
  unfold Th.drop at d
  rw [t] at d
  exact nos ((congrArg (fun b => bif b then none else some (Owner.slot i)) n).symm.trans d)
theorem drop_some {p : Nat → Bool} {a : Addr} {w : Owner} : Θ.drop p a = some w → Θ a = some w := by
  unfold Th.drop
  refine fun q => obind q fun v e q => e.trans (congrArg some ?_)
  induction v with
  | slot i =>
    cases hp : p i with
    | true => exact nos ((congrArg (fun b => bif b then none else some (Owner.slot i)) hp).symm.trans q)
    | false => exact Option.some.inj ((congrArg (fun b => bif b then none else some (Owner.slot i)) hp).symm.trans q)
  | _ => exact Option.some.inj q
theorem drop_mine {p : Nat → Bool} {a : Addr} (q : (Θ.drop p).mine a) : Θ.mine a := by obtain ⟨w, e, n⟩ := q; exact ⟨w, drop_some e, n⟩
theorem drop_dom {p : Nat → Bool} {a : Addr} (q : (Θ.drop p).dom a) : Θ.dom a := by obtain ⟨w, e⟩ := q; exact ⟨w, drop_some e⟩
theorem drop_keep {p : Nat → Bool} : Keep Θ.dom (Θ.drop p).dom h h := fun a o e _ no => ⟨fun q => no (drop_dom q), e⟩
theorem no_has {sl : Slot} {y : Value} {C : Prop} {a : Addr} (n : sl.isOwn = false) (x : Has h sl y a) : C := by
  induction x with
  | top o => exact Bool.noConfusion (n.symm.trans o)
  | inn => exact Bool.noConfusion n
theorem row_vr {O : Addr → Prop} {xs : List Int} {b : Addr} (r : RowA h xs (.ref b)) (no : ¬ O b) : VR G O h (.list (xs.map .int)) (.ref b) := by
  cases r with | mk e l rel =>
  exact .mkL no ⟨e, l, .of ((List.length_map ..).trans rel.length) fun i v w ev ew => map_get (C := fun v => VR G O h v w) ev fun q eq => by
    have x := rel.at eq ew
    cases x with | mk t => exact .int _ _⟩
theorem rows_vr {O : Addr → Prop} {xss : List (List Int)} {a : Addr} (r : RowsA h a xss) (no : ∀ b, Has h (.oll xss) (.ref a) b → ¬ O b) : VR G O h (.list (xss.map fun xs => .list (xs.map .int))) (.ref a) := by
  cases r with | mk e l rel nd =>
  exact .mkL (no a (.top rfl)) ⟨e, l, .of ((List.length_map ..).trans rel.length) fun i v w ev ew => map_get (C := fun v => VR G O h v w) ev fun q eq => by
    have x := rel.at eq ew
    cases x with | mk e' l' rel' => exact row_vr (.mk e' l' rel') (no _ (.inn e (List.mem_of_getElem? ew)))⟩
theorem SF.drop {p : Nat → Bool} {i : Nat} {sl : Slot} {y : Value} (r : SF G Θ h env i sl y) : SF G (Θ.drop p) h env i (bif p i then sl.freeze else sl) y := by
  cases hp : p i with
  | true =>
    obtain ⟨sr, own⟩ := r
    induction sr with
    | v r => exact ⟨.v (r.mono drop_keep), fun a e => no_has rfl e⟩
    | ol r => exact ⟨.v (.mkL (drop_gone (own _ (.top rfl)) hp) (r.mono drop_keep fun o e _ => e)), fun a e => no_has rfl e⟩
    | od r => exact ⟨.v (.mkD (drop_gone (own _ (.top rfl)) hp) (r.mono drop_keep fun o e _ => e)), fun a e => no_has rfl e⟩
    | oll r => exact ⟨.v (rows_vr r fun b hb => drop_gone (own b hb) hp), fun a e => no_has rfl e⟩
    | clo r => induction r with | mk no c => exact ⟨.clo (.mk (fun q => no (drop_dom q)) c), fun a e => no_has rfl e⟩
  | false => exact r.map drop_keep (fun a t => ⟨drop_of t fun j e => (by injection e with e; exact e ▸ hp), fun o e => e⟩) fun _ _ _ _ e => e
theorem frzB_eq (b : Bool) (s : Slot) : s.frzB b = bif b then s.freeze else s := by
  cases s with
  | v => cases b <;> rfl
  | clo => cases b <;> rfl
  | _ => rfl
theorem frzAt_get {l : List Nat} {m : Fr} : ∀ {i j : Nat}, (frzAt l i m)[j]? = (m[j]?).map (Option.map fun s => bif l.contains (i + j) then s.freeze else s) := by
  induction m with
  | nil => intro i j; rfl
  | cons x r ih =>
    intro i j
    induction j with
    | zero =>
      cases x with
      | none => rfl
      | some s => exact congrArg (fun s => some (some s)) (frzB_eq ..)
    | succ j => exact (ih (i := i + 1) (j := j)).trans (by rw [Nat.succ_add_eq_add_succ]; rfl)
theorem frz_at {l : List Nat} {j : Nat} {sl' : Slot} {C : Prop} (e : Fr.at (frzAt l 0 m) j = some sl') (k : ∀ sl, m.at j = some sl → sl' = (bif l.contains j then sl.freeze else sl) → C) : C := by
  unfold Fr.at at e k
  rw [frzAt_get, Nat.zero_add] at e
  cases q : m[j]? with
  | none => rw [q] at e; exact nos e
  | some o =>
    rw [q] at e
    cases o with
    | none => exact nos e
    | some sl => exact k sl (by rw [q]; rfl) (Option.some.inj e).symm
theorem freeze_own (sl : Slot) : sl.freeze.isOwn = false := by cases sl <;> rfl
theorem ne_frz (l : List Nat) (m : Fr) : NE (frzAt l 0 m) l := fun i hi sl e => frz_at e fun sl0 _ q => by
  rw [q, List.contains_iff_mem.mpr hi]; exact freeze_own sl0
theorem NE.frz {l l' : List Nat} (ne : NE m l) : NE (frzAt l' 0 m) l := fun i hi sl e => frz_at e fun sl0 e0 q => by
  rw [q]
  cases l'.contains i with
  | true => exact freeze_own sl0
  | false => exact ne i hi sl0 e0
theorem FR.frz (l : List Nat) (r : FR G ow Θ h env m) : FR G ow (Θ.drop l.contains) h env (frzAt l 0 m) :=
  r.map (fun a w t f => ⟨drop_of t fun i e => (by subst e; cases f), fun o e => e⟩) (fun a o _ n e => ⟨fun q => n (drop_mine q), e⟩) (fun a q => r.ox a (drop_dom q)) (fun a q => r.new a (drop_mine q))
    fun x sl hx e => frz_at e fun sl0 e0 q => ⟨sl0, e0, fun y _ w => q ▸ w.drop⟩
theorem Sk.drop {p : Nat → Bool} (i : Inv G s) (ox : OX G Θ.dom s.heap) : Sk G Θ s (Θ.drop p) s :=
  ⟨i, fun _ _ _ _ e => e, fun _ => ⟨fun t => drop_of t fun i e => Owner.noConfusion e, drop_some⟩, fun _ q => .inl (drop_dom q), fun a q => (ox a (mine_dom q)).2, fun _ _ _ _ e => e, fun b t => ⟨drop_of t fun i e => Owner.noConfusion e, fun _ e => e⟩⟩
end
theorem at_set {m : Fr} {i j : Nat} {s : Option Slot} {sl : Slot} {C : Prop} (h : Fr.at (m.set i s) j = some sl) (h1 : j = i → s = some sl → C) (h2 : j ≠ i → m.at j = some sl → C) : C := by
  have h : ((List.set m i s)[j]?).join = some sl := h
  by_cases e : j = i
  · subst e
    rw [List.getElem?_set_self'] at h
    cases q : m[j]? with
    | none => rw [q] at h; exact nos h
    | some z => rw [q] at h; exact h1 rfl h
  · rw [List.getElem?_set_ne (Ne.symm e)] at h
    exact h2 e h
section
variable {G : Gd} {ow : List Str} {Θ Θ' M : Th} {h h' : Heap} {env : Env} {m m' : Fr} {s s' : Shared} {a : Addr} {w : Owner}
theorem keep_wr (t : Θ a = some w) (hs : Heap.SameBut a h h') : Keep Θ.dom Θ.dom h h' := fun b o e _ no => ⟨no, hs.extBut b o (fun q => no ⟨w, q ▸ t⟩) e⟩
theorem tb_wr (nt : ¬ G.Tab a) (hs : Heap.SameBut a h h') : ∀ P pos v, G.Tab P → Entry h P pos v → Entry h' P pos v := fun P pos v hP en => by
  induction en with | mk e hv => exact ⟨hs.extBut _ _ (fun q => nt (q ▸ hP)) e, hv⟩
theorem SF.wr {i : Nat} {sl : Slot} {y : Value} (t : Θ a = some w) (n : w ≠ .slot i) (nt : ¬ G.Tab a) (hs : Heap.SameBut a h h') (r : SF G Θ h env i sl y) : SF G Θ h' env i sl y :=
  r.map (keep_wr t hs) (fun b tb => ⟨tb, fun o e => hs.extBut b o (fun q => n (th_ne t (q ▸ tb))) e⟩) (tb_wr nt hs)
theorem ox_wr (ox : OX G Θ.dom h) (hs : Heap.SameBut a h h') (he : ∃ o, h'.get? a = some o) : OX G Θ.dom h' := fun b hb => by
  obtain ⟨nt, o, e⟩ := ox b hb
  by_cases q : b = a
  · subst q; exact ⟨nt, he⟩
  · exact ⟨nt, o, hs.extBut _ _ q e⟩
theorem sk_wr {tk : Nat} (i : Inv G s) (ox : OX G Θ.dom s.heap) (t : Θ a = some w) (n : w ≠ .out) (ni : w ≠ .it) (h0 : G.h₀.get? a = none) (hc : ∀ o, s.heap.get? a = some o → ¬ Rec o) (hs : Heap.SameBut a s.heap h') (he : ∃ o, h'.get? a = some o) : Sk G Θ s Θ { s with heap := h', toks := tk } where
  inv := i.but (W := fun b => b = a) (fun b e => e ▸ h0) (fun b e => e ▸ (ox a ⟨w, t⟩).1) (fun b e => e ▸ hc) (fun b o n e => hs.extBut b o n e) (fun b e q => by subst e; obtain ⟨o, e'⟩ := he; exact nos (q.symm.trans e')) tk
  kp := fun b o nt nm e => hs.extBut b o (fun q => nm (q ▸ th_mine t n)) e
  out := fun _ => Iff.rfl
  new := fun _ h => .inl h
  liv := fun b hb => (ox_wr ox hs he b (mine_dom hb)).2
  tb := tb_wr (ox a ⟨w, t⟩).1 hs
  itk := fun b tb => ⟨tb, fun o e => hs.extBut b o (fun q => ni (th_ne t (q ▸ tb))) e⟩
theorem FR.cne (r : FR G ow Θ h env m) {x : Str} {c : Addr} (hk : env.kindOf x = some .cell ∨ env.kindOf x = some .free) (e : env.cells.lookup x = some c) (t : Θ a = some w) (n : w ≠ .out) (nc : w ≠ .cell (idxOf (sig env.scope) x)) : c ≠ a := fun q => by
  by_cases ho : x ∈ ow
  · exact nc (th_ne t (q ▸ r.cel x c ho hk e))
  · exact r.fre x c ho hk e (q ▸ th_mine t n)
theorem data_rec {o : Obj} {es : Array DictEntry} {ep : Nat} (h : o.data = .dict es ep) : ¬ Rec o := fun q => by
  obtain ⟨_, vs, e⟩ := q
  exact Data.noConfusion (h.symm.trans e)
theorem ns_rec {mm : Str → Option Value} (x : h.Ns a mm) : ∀ o, h.get? a = some o → ¬ Rec o := fun o e => by
  obtain ⟨o', es, ep, ho, hd, _⟩ := x
  cases Option.some.inj (e.symm.trans ho)
  exact data_rec hd
theorem cell_rec {v : Option Value} (x : h.IsCell a v) : ∀ o, h.get? a = some o → ¬ Rec o := fun o e q => by
  obtain ⟨o', ho, hd⟩ := x
  cases Option.some.inj (e.symm.trans ho)
  obtain ⟨_, vs, e⟩ := q
  exact Data.noConfusion (hd.symm.trans e)
theorem ns_fun {mm mm' : Str → Option Value} (x : h.Ns a mm) (y : h.Ns a mm') : mm = mm' := by
  obtain ⟨o, es, ep, ho, hd, _, hm⟩ := x
  obtain ⟨o', es', ep', ho', hd', _, hm'⟩ := y
  cases Option.some.inj (ho.symm.trans ho')
  have e := hd.symm.trans hd'
  injection e with e _
  subst e
  exact funext fun z => (hm z).symm.trans (hm' z)
theorem ns_get {mm : Str → Option Value} (x : h.Ns a mm) : ∃ o, h.get? a = some o := by obtain ⟨o, _, _, ho, _⟩ := x; exact ⟨o, ho⟩
theorem cell_get {v : Option Value} (x : h.IsCell a v) : ∃ o, h.get? a = some o := by obtain ⟨o, ho, _⟩ := x; exact ⟨o, ho⟩
theorem sl_wr (t : Θ a = some w) (n : ∀ i, w ≠ .slot i) (hs : Heap.SameBut a h h') : Sl Θ h Θ h' := fun b i tb => ⟨tb, fun o e => hs.extBut b o (fun q => n i (th_ne t (q ▸ tb))) e⟩
theorem store_any {A : Around} {X : Value → Shared → Prop} (i : Inv G s) (hk : env.scope.kind = .function) (r : FR G ow Θ s.heap env m) {x : Str} (ho : x ∈ ow) (hb : env.kindOf x = some .local ∨ env.kindOf x = some .cell) {sl : Slot} {y : Value} (hs : SF G Θ s.heap env (idxOf (sig env.scope) x) sl y)
    {Q : Unit → Shared → Prop} (h : ∀ h' tk, FR G ow Θ h' env (m.set (idxOf (sig env.scope) x) (some sl)) → Sk G Θ s Θ { s with heap := h', toks := tk } → Sl Θ s.heap Θ h' → Q () { s with heap := h', toks := tk }) :
    wpAny (model G.prog G.w) A (storeName env x y) Q X s := by
  rcases hb with hl | hc
  · have hmem : x ∈ (sig env.scope).map (·.1) := isVar_mem (kind_isVar hl rfl)
    obtain ⟨mm, hn⟩ := r.ns
    have nt := (r.there r.loc).1
    have lo : Owner.loc ≠ .out := fun e => Owner.noConfusion e
    refine wpAny_storeName_local hl hn (fun h' hn' hsb => ?_) (hk ▸ rfl)
    have he := ns_get hn'
    have cn : ∀ {z c o}, env.kindOf z = some .cell ∨ env.kindOf z = some .free → env.cells.lookup z = some c → s.heap.get? c = some o → h'.get? c = some o := fun hz ez => hsb.extBut _ _ (r.cne hz ez r.loc lo fun e => Owner.noConfusion e)
    refine h h' _ ⟨r.loc, ⟨_, hn'⟩, ox_wr r.ox hsb he, r.new, r.cel, r.fre, fun z hz => ?_, fun z slz hz hm => at_set hm (fun q e => ?_) fun q e => ?_⟩ (sk_wr i r.ox r.loc lo (fun e => Owner.noConfusion e) (r.new _ (th_mine r.loc lo)) (ns_rec hn) hsb he) (sl_wr r.loc (fun _ e => Owner.noConfusion e) hsb)
    · cases r.cells z hz with | mk e nt hv => exact ⟨e, nt, cell_kp hv fun o => cn hz e⟩
    · cases e
      have hzx := idx_inj hmem q.symm
      subst hzx
      exact ⟨y, .loc hl hn' (if_pos rfl), hs.wr r.loc (fun e => Owner.noConfusion e) nt hsb⟩
    · obtain ⟨y', v, sf⟩ := r.var z slz hz e
      refine ⟨y', ?_, sf.wr r.loc (fun e => Owner.noConfusion e) nt hsb⟩
      induction v with
      | loc hk' hn2 e2 => exact .loc hk' hn' ((if_neg fun (h : z = x) => q (h ▸ rfl)).trans (ns_fun hn2 hn ▸ e2))
      | cel hk' hc nt hv => exact .cel hk' hc nt (cell_kp hv fun o => cn hk' hc)
  · have hmem : x ∈ (sig env.scope).map (·.1) := isVar_mem (kind_isVar hc rfl)
    cases r.cells x (.inl hc) with | @mk c _ e1 ntc hv0 =>
    have t := r.cel x c ho (.inl hc) e1
    have nt := (r.there t).1
    have no : Owner.cell (idxOf (sig env.scope) x) ≠ .out := fun e => Owner.noConfusion e
    refine wpAny_storeName_cell hk hc e1 hv0 fun h' hc' hsb => ?_
    have he := cell_get hc'
    have kl : ∀ o, s.heap.get? env.locals = some o → h'.get? env.locals = some o := fun o => hsb.extBut _ o fun q => Owner.noConfusion (th_ne t (q ▸ r.loc))
    have cn : ∀ {z c' o}, env.kindOf z = some .cell ∨ env.kindOf z = some .free → idxOf (sig env.scope) z ≠ idxOf (sig env.scope) x → env.cells.lookup z = some c' → s.heap.get? c' = some o → h'.get? c' = some o := fun hz ne ez => hsb.extBut _ _ (r.cne hz ez t no fun e => ne (by injection e with e; exact e.symm))
    refine h h' _ ⟨r.loc, ?_, ox_wr r.ox hsb he, r.new, r.cel, r.fre, fun z hz => ?_, fun z slz hz hm => at_set hm (fun q e => ?_) fun q e => ?_⟩ (sk_wr i r.ox t no (fun e => Owner.noConfusion e) (r.new _ (th_mine t no)) (cell_rec hv0) hsb he) (sl_wr t (fun _ e => Owner.noConfusion e) hsb)
    · obtain ⟨mm, hn⟩ := r.ns
      exact ⟨mm, ns_kp hn kl⟩
    · cases r.cells z hz with | @mk c' _ e nt hv =>
      by_cases q : c' = c
      · subst q; exact ⟨e, nt, hc'⟩
      · exact ⟨e, nt, cell_kp hv fun o => hsb.extBut _ o q⟩
    · cases e
      have hzx := idx_inj hmem q.symm
      subst hzx
      exact ⟨y, .cel (.inl hc) e1 ntc hc', hs.wr t (fun e => Owner.noConfusion e) nt hsb⟩
    · obtain ⟨y', v, sf⟩ := r.var z slz hz e
      refine ⟨y', ?_, sf.wr t (fun e => Owner.noConfusion e) nt hsb⟩
      induction v with
      | loc hk' hn2 e2 => exact .loc hk' (ns_kp hn2 kl) e2
      | cel hk' hc nt hv => exact .cel hk' hc nt (cell_kp hv fun o => cn hk' q hc)
theorem FR.wrS {j : Nat} (r : FR G ow Θ h env m) (t : Θ a = some (.slot j)) (hs : Heap.SameBut a h h') (he : ∃ o, h'.get? a = some o)
    (sf : ∀ x sl, isVar (sig env.scope) x = true → m'.at (idxOf (sig env.scope) x) = some sl → (idxOf (sig env.scope) x = j → ∃ sl0, m.at (idxOf (sig env.scope) x) = some sl0 ∧ ∀ y, VarIs G h env x y → SF G Θ h env (idxOf (sig env.scope) x) sl0 y → SF G Θ h' env (idxOf (sig env.scope) x) sl y) ∧
      (idxOf (sig env.scope) x ≠ j → m.at (idxOf (sig env.scope) x) = some sl)) : FR G ow Θ h' env m' := by
  refine r.map (fun b w tb f => ⟨tb, fun o => hs.extBut b o fun q => ?_⟩) (fun b o nt n e => ⟨n, hs.extBut b o (fun q => n (q ▸ th_mine t fun e => Owner.noConfusion e)) e⟩) (ox_wr r.ox hs he) r.new fun x sl hx hm => ?_
  · have e := th_ne t (q ▸ tb)
    subst e
    cases f
  · by_cases q : idxOf (sig env.scope) x = j
    · exact (sf x sl hx hm).1 q
    · exact ⟨sl, (sf x sl hx hm).2 q, fun y _ w => w.wr t (fun e => q (by injection e with e; exact e.symm)) (r.there t).1 hs⟩
noncomputable def Th.addM (Θ M : Th) : Th := fun a => (M a).or (Θ a)
structure NewTh (s s' : Shared) (M : Th) : Prop where
  fresh : ∀ a w, M a = some w → s.heap.get? a = none ∧ ∃ o, s'.heap.get? a = some o
  out : ∀ a, M a ≠ some .out
theorem addM_new {a : Addr} {w : Owner} (t : M a = some w) : Θ.addM M a = some w := by unfold Th.addM; rw [t]; rfl
theorem NewTh.old (n : NewTh s s' M) {a : Addr} {o : Obj} (e : s.heap.get? a = some o) : Θ.addM M a = Θ a := by
  unfold Th.addM
  cases q : M a with
  | none => rfl
  | some w => exact nos ((n.fresh a w q).1.symm.trans e)
theorem addM_cases {a : Addr} {w : Owner} {C : Prop} (t : Θ.addM M a = some w) (h1 : M a = some w → C) (h2 : Θ a = some w → C) : C := by
  unfold Th.addM at t
  cases q : M a with
  | none => rw [q] at t; exact h2 t
  | some v => rw [q] at t; exact h1 (q.trans t)
theorem NewTh.ex (n : NewTh s s' M) (i : Inv G s) (st : St G s s') (ox : OX G Θ.dom s.heap) : Ex G Θ s.heap (Θ.addM M) s'.heap :=
  ⟨fun b o nt _ e => st.kp b o nt e, fun a w t _ => by
    obtain ⟨nt, o, e⟩ := ox a ⟨w, t⟩
    exact ⟨(n.old e).trans t, fun o e => st.kp a o nt e⟩, fun a t => addM_cases t (fun q => absurd q (n.out a)) id, fun a q => by
    obtain ⟨w, t, nw⟩ := q
    exact addM_cases t (fun q => .inr ⟨(n.fresh a w q).1, i.new (n.fresh a w q).1⟩) fun q => .inl ⟨w, q, nw⟩, st.tb⟩
theorem NewTh.ox (n : NewTh s s' M) (i : Inv G s) (st : St G s s') (ox : OX G Θ.dom s.heap) : OX G (Θ.addM M).dom s'.heap := fun a q => by
  obtain ⟨w, t⟩ := q
  exact addM_cases t (fun q => ⟨i.freshNotTab (n.fresh a w q).1, (n.fresh a w q).2⟩) fun q => ox.step st a ⟨w, q⟩
theorem FR.addM (n : NewTh s s' M) (i : Inv G s) (st : St G s s') (r : FR G ow Θ s.heap env m) : FR G ow (Θ.addM M) s'.heap env m := r.ex i (n.ex i st r.ox) (n.ox i st r.ox)
theorem NewTh.sk (n : NewTh s s' M) (st : St G s s') (ox : OX G Θ.dom s.heap) : Sk G Θ s (Θ.addM M) s' where
  inv := st.inv
  kp := fun b o nt _ e => st.kp b o nt e
  out := fun a => ⟨fun t => by
    obtain ⟨_, o, e⟩ := ox a ⟨_, t⟩
    exact (n.old e).trans t, fun t => addM_cases t (fun q => absurd q (n.out a)) id⟩
  new := fun a q => by
    obtain ⟨w, t⟩ := q
    exact addM_cases t (fun q => .inr (n.fresh a w q).1) fun q => .inl ⟨w, q⟩
  liv := fun a q => by
    obtain ⟨nt, o, e⟩ := ox a (mine_dom q)
    exact ⟨o, st.kp _ _ nt e⟩
  tb := st.tb
  itk := fun b t => by
    obtain ⟨nt, o, e⟩ := ox b ⟨_, t⟩
    exact ⟨(n.old e).trans t, fun o e => st.kp b o nt e⟩
end
structure FA (G : Gd) (k : Nat) (T : Tx) (A : Around) (env : Env) (m : Fr) (Θ : Th) (s : Shared) : Prop where
  room : Room A k
  inv : Inv G s
  eo : EnvOk G T env
  fr : FR G T.ow Θ s.heap env m
structure Bd (G : Gd) (k : Nat) (T : Tx) (A : Around) (env : Env) (Θ : Th) (s : Shared) (m' : Fr) (s' : Shared) : Prop where
  fa : FA G k T A env m' Θ s'
  sk : Sk G Θ s Θ s'
  sl : Sl Θ s.heap Θ s'.heap
inductive Nms (T : Tx) : List Expr → List Nat → Prop
  | nil : Nms T [] []
  | cons {x : Str} {p : Pos} {i : Nat} {es : List Expr} {is : List Nat} (ho : x ∈ T.ow) (hi : idxOf T.sg x = i) (r : Nms T es is) : Nms T (.Name x p :: es) (i :: is)
inductive TgOk (T : Tx) : Expr → Tg → Prop
  | one {x : Str} {p : Pos} {i : Nat} (ho : x ∈ T.ow) (hi : idxOf T.sg x = i) : TgOk T (.Name x p) (.one i)
  | many {es : List Expr} {is : List Nat} {k : Nat} {p : Pos} (h : Nms T es is) : TgOk T (.Tuple es k p) (.many is)
section
variable {G : Gd} {k : Nat} {T : Tx} {A : Around} {env : Env} {m m' : Fr} {Θ Θ' Θ₀ : Th} {s s' s'' s₀ : Shared} {X : Value → Shared → Prop}
theorem FA.at (a : FA G k T A env m Θ s) : At G k T A env m Θ.dom s := ⟨a.room, a.inv, a.eo, a.fr.er⟩
theorem FA.step (a : FA G k T A env m Θ s) (st : St G s s') : FA G k T A env m Θ s' := ⟨a.room, st.inv, a.eo, a.fr.step a.inv st⟩
theorem FA.frz (a : FA G k T A env m Θ s) (l : List Nat) : FA G k T A env (frzAt l 0 m) (Θ.drop l.contains) s := ⟨a.room, a.inv, a.eo, a.fr.frz l⟩
theorem FA.dropSk (a : FA G k T A env m Θ s) (l : List Nat) : Sk G Θ s (Θ.drop l.contains) s := .drop a.inv a.fr.ox
theorem Sl.of (ox : OX G Θ.dom s.heap) (st : St G s s') : Sl Θ s.heap Θ s'.heap := (Ex.of ox st).slots
theorem Sl.trans {h h' h'' : Heap} {Θ'' : Th} (x : Sl Θ h Θ' h') (y : Sl Θ' h' Θ'' h'') : Sl Θ h Θ'' h'' := fun a i t => ⟨(y a i (x a i t).1).1, fun o e => (y a i (x a i t).1).2 o ((x a i t).2 o e)⟩
theorem Bd.st (a : FA G k T A env m Θ s) (st : St G s s') : Bd G k T A env Θ s m s' := ⟨a.step st, .of st a.fr.ox, .of a.fr.ox st⟩
theorem Bd.trans (x : Bd G k T A env Θ s m s') (y : Bd G k T A env Θ s' m' s'') : Bd G k T A env Θ s m' s'' := ⟨y.fa, x.sk.trans y.sk y.fa.fr.ox, x.sl.trans y.sl⟩
theorem storeF (a : FA G k T A env m Θ s) {x : Str} {i : Nat} (ho : x ∈ T.ow) (hi : idxOf T.sg x = i) {sl : Slot} {y : Value} (sf : SF G Θ s.heap env i sl y) {Q : Unit → Shared → Prop} (h : ∀ s', Bd G k T A env Θ s (m.set i (some sl)) s' → Q () s') :
    wpAny (model G.prog G.w) A (storeName env x y) Q X s := by
  subst hi
  rw [← a.eo.sg] at sf h
  exact store_any a.inv a.eo.kind a.fr ho (a.eo.bnd x ho) sf fun h' tk fr sk sl => h _ ⟨⟨a.room, sk.inv, a.eo, fr⟩, sk, sl⟩
theorem sf_v {env : Env} {h : Heap} {i : Nat} {v : V} {y : Value} (r : VR G Θ.dom h v y) : SF G Θ h env i (.v v) y := ⟨.v r, fun a e => no_has rfl e⟩
theorem each_len {es : List Expr} {is : List Nat} (h : Nms T es is) : (assignEach es env).length = is.length ∧ (assignEach es env).findIdx? (·.1) = none := by
  induction h with
  | nil => exact ⟨rfl, rfl⟩
  | @cons x p i es is ho hi _ ih => exact ⟨congrArg (· + 1) ih.1, (List.findIdx?_cons (xs := assignEach es env) (p := (·.1)) (x := (false, assign (.Name x p) env))).trans (congrArg (Option.map (· + 1)) ih.2)⟩
theorem assign_names {es : List Expr} {is : List Nat} (h : Nms T es is) : ∀ {vs : List V} {ys : List Value} {m : Fr} {s : Shared} {Q : Unit → Shared → Prop}, FA G k T A env m Θ s → is.length = vs.length → VRs G Θ.dom s.heap vs ys →
    (∀ s', Bd G k T A env Θ s (bindAll m is vs) s' → Q () s') → wpAny (model G.prog G.w) A (assignInOrder ((assignEach es env).map (·.2)) ys) Q X s := by
  induction h with
  | nil =>
    intro vs ys m s Q a hl hv hQ
    induction hv with
    | nil => exact wpAny_assignInOrder_none (hQ s (.st a (.refl a.inv)))
    | cons => exact Nat.noConfusion hl
  | @cons x p i es is ho hi _ ih =>
    intro vs ys m s Q a hl hv hQ
    induction hv with
    | nil => exact Nat.noConfusion hl
    | cons r rs => exact wpAny_assignInOrder_more (wpAny_assign_Name (storeF a ho hi (sf_v r) fun s' b => ih b.fa (Nat.succ.inj hl) (VRs.mono (b.sk.keep a.inv) rs) fun s'' b' => hQ s'' (b.trans b')))
section
variable {prog : Program} {w : World} {A : Around} {E : Value → Shared → Prop}
theorem draw_list {it t : Addr} {items : Array Value} (hne : t ≠ it) : ∀ (n i : Nat) (s : Shared) (Q : List Value → Shared → Prop), s.heap.IsListIter it t i → s.heap.IsList t items → i + n ≤ items.size →
    (∀ h', h'.IsListIter it t (i + n) → Heap.SameBut it s.heap h' → Q ((items.toList.drop i).take n) { s with heap := h' }) → wpAny (model prog w) A (draw (.ref it) n) Q E s := by
  intro n
  induction n with
  | zero =>
    intro i s Q hit _ _ hQ
    exact wpAny_pure (hQ s.heap hit (Heap.SameBut.refl ..))
  | succ n ih =>
    intro i s Q hit ht hle hQ
    have hlt : i < items.size := Nat.lt_of_lt_of_le (Nat.lt_add_of_pos_right (Nat.succ_pos n)) hle
    refine wpAny_bind (wpAny_pyNext_list_item hit ht (x := items[i]) (Array.getElem?_eq_getElem hlt) fun h₁ hit₁ hs₁ => ?_)
    refine wpAny_bind (wpAny_holding (ih (i + 1) _ _ hit₁ (ht.extBut hs₁.extBut hne) (Nat.le_trans (Nat.le_of_eq (Nat.succ_add_eq_add_succ i n)) hle) fun h₂ hit₂ hs₂ => wpAny_pure ?_))
    have hd : items.toList.drop i = items[i] :: items.toList.drop (i + 1) := List.drop_eq_getElem_cons (l := items.toList) hlt
    have z := hQ h₂ ((Nat.succ_add_eq_add_succ i n) ▸ hit₂) (hs₁.trans hs₂)
    rw [hd, List.take_succ_cons] at z
    exact z
theorem assign_list {env : Env} {elts : List Expr} {x1} {pos : Pos} {t : Addr} {items : Array Value} {s : Shared} {Q : Unit → Shared → Prop} (hh : A.handled = none) (ht : s.heap.IsList t items)
    (hn : (assignEach elts env).length = items.size) (hstar : (assignEach elts env).findIdx? (·.1) = none)
    (h : ∀ h', Heap.ExtBut s.heap.objs.size s.heap h' → wpAny (model prog w) A (assignInOrder ((assignEach elts env).map (·.2)) items.toList) Q E { s with heap := h' }) :
    wpAny (model prog w) A (assign (.Tuple elts x1 pos) env (.ref t)) Q E s := by
  have hlt : t ≠ s.heap.objs.size := by obtain ⟨o, ho, _⟩ := ht; exact Nat.ne_of_lt (Heap.lt_size ho)
  rw [arm_assign_Tuple]
  refine wpAny_bind (wpAny_standAt ?_)
  unfold unpack
  rw [hn, hstar]
  refine wpAny_bind (wpAny_holding ?_)
  unfold unpackItems
  refine wpAny_bind ?_
  unfold notIterableAtAll
  refine wpAny_bind (wpAny_specialOf ht.typeIs slot_list_iter.lookup ?_)
  refine wpAny_pure ?_
  simp only [Bool.false_eq_true, if_false]
  refine wpAny_bind (wpAny_holding (wpAny_pyIter_list ht ?_))
  refine wpAny_bind (wpAny_holding (draw_list hlt items.size 0 _ _ ⟨_, Heap.get?_push_size _ rfl, rfl, rfl⟩ (ht.push _) (Nat.le_of_eq (Nat.zero_add _)) fun h₁ hit₁ hs₁ => ?_))
  have hall : List.take items.size (List.drop 0 items.toList) = items.toList := List.take_of_length_le (Nat.le_refl _)
  rw [hall]
  rw [if_neg (show ¬ items.toList.length < items.size from Nat.lt_irrefl _)]
  have ht₁ : h₁.IsList t items := (ht.push _).extBut hs₁.extBut hlt
  refine wpAny_bind (wpAny_holding (wpAny_pyNext_list_end hh hit₁ ht₁ (Array.getElem?_eq_none (Nat.le_of_eq (Nat.zero_add _).symm)) fun h₂ he₂ => ?_))
  simp only [Option.isSome_none, Bool.false_eq_true, if_false]
  exact wpAny_pure (h h₂ fun b o hb e => he₂ b o hb (hs₁.extBut b o hb (Heap.get?_push_of_some _ e)))
end
theorem os_or {v : V} {vs : List V} (h : v.os = some vs) {C : Prop} (h1 : v.ot = some vs → C) (h2 : v.ol = some vs → C) : C := by
  cases v with
  | list xs => exact h2 h
  | tup xs => exact h1 h
  | _ => exact nos h
theorem assign_any {e : Expr} {t : Tg} (h : TgOk T e t) (a : FA G k T A env m Θ s) {v : V} {y : Value} (r : VR G Θ.dom s.heap v y) (hb : m.bind t v = some m') {Q : Unit → Shared → Prop} (hQ : ∀ s', Bd G k T A env Θ s m' s' → Q () s') : wpAny (model G.prog G.w) A (assign e env y) Q X s := by
  induction h with
  | one ho hi => exact wpAny_assign_Name (storeF a ho hi (sf_v r) (Option.some.inj hb ▸ hQ))
  | many h =>
    refine obind hb fun vs hvs hb => oif (C := fun m' => (∀ s', Bd G k T A env Θ s m' s' → Q () s') → _) hb (fun hl hQ => ?_) hQ
    have on : ∀ {ws : List Value} {h' : Heap}, VRs G Θ.dom s.heap vs ws → Heap.ExtBut s.heap.objs.size s.heap h' → wpAny (model G.prog G.w) A (assignInOrder ((assignEach _ env).map (·.2)) ws) Q X { s with heap := h' } := fun {ws h'} rv hx => by
      have st : St G s { s with heap := h' } := St.keeps a.inv (fun b o e => hx b o (Nat.ne_of_lt (Heap.lt_size e)) e) s.toks
      exact assign_names h (a.step st) hl (VRs.mono (st.vk a.inv) rv) fun s'' b => hQ s'' ((Bd.st a st).trans b)
    refine os_or hvs (fun hvs => ?_) fun hvs => ?_
    · cases r.w.ot hvs with | mk rt =>
      cases rt with | @mk ws n e l rv =>
      exact wpAny_assign_Tuple a.room.handled ⟨_, e, rfl, _, rfl⟩ ((each_len h).1.trans (hl.trans (rv.length.trans (List.size_toArray ..).symm))) (each_len h).2 fun h' hx => on rv hx
    · cases r.w.ol hvs with | mk rt =>
      cases rt with | @mk ws n e l rv =>
      exact assign_list a.room.handled ⟨_, e, rfl, _, rfl⟩ ((each_len h).1.trans (hl.trans (rv.length.trans (List.size_toArray ..).symm))) (each_len h).2 fun h' hx => on rv hx
structure Lp (G : Gd) (Θ₀ : Th) (s₀ : Shared) (wr : List Addr) (D : Addr → Prop) (Θ : Th) (s : Shared) : Prop where
  sk : Sk G Θ₀ s₀ Θ s
  it : ∀ b ∈ wr, Θ b = some .it
  dd : ∀ a, D a → a ∉ wr → ¬ Θ.dom a
  de : ∀ a, D a → ¬ G.Tab a ∧ ∃ o, s.heap.get? a = some o
  fresh : ∀ b ∈ wr, s₀.heap.get? b = none
noncomputable def Th.rem (Θ : Th) (wr : List Addr) : Th := fun a => bif wr.contains a then none else Θ a
section
variable {wr : List Addr} {D : Addr → Prop}
theorem rem_not {a : Addr} (h : a ∉ wr) : Θ.rem wr a = Θ a := by
  unfold Th.rem
  cases q : wr.contains a with
  | true => exact absurd (List.contains_iff_mem.mp q) h
  | false => rfl
theorem rem_some {a : Addr} {w : Owner} (t : Θ.rem wr a = some w) : a ∉ wr ∧ Θ a = some w := by
  unfold Th.rem at t
  cases q : wr.contains a with
  | true => rw [q] at t; exact nos t
  | false => rw [q] at t; exact ⟨fun h => Bool.noConfusion (q.symm.trans (List.contains_iff_mem.mpr h)), t⟩
theorem Lp.step (x : Lp G Θ₀ s₀ wr D Θ s) (y : Sk G Θ s Θ' s') (ox : OX G Θ'.dom s'.heap) : Lp G Θ₀ s₀ wr D Θ' s' where
  sk := x.sk.trans y ox
  it := fun b hb => (y.itk b (x.it b hb)).1
  dd := fun a ha hw hd => (y.new a hd).elim (x.dd a ha hw) fun q => by
    obtain ⟨_, o, e⟩ := x.de a ha
    exact nos (q.symm.trans e)
  de := fun a ha => by
    obtain ⟨nt, o, e⟩ := x.de a ha
    by_cases hw : a ∈ wr
    · exact ⟨nt, o, (y.itk a (x.it a hw)).2 o e⟩
    · exact ⟨nt, o, y.kp a o nt (fun q => x.dd a ha hw (mine_dom q)) e⟩
  fresh := x.fresh
theorem Lp.kd (x : Lp G Θ₀ s₀ wr D Θ s) (y : Sk G Θ s Θ' s') : Kd D s.heap s'.heap := fun b o hb e => by
  by_cases hw : b ∈ wr
  · exact (y.itk b (x.it b hw)).2 o e
  · exact y.kp b o (x.de b hb).1 (fun q => x.dd b hb hw (mine_dom q)) e
structure Turned (G : Gd) (wr : List Addr) (s : Shared) (h' : Heap) : Prop where
  k : Kw wr s.heap h'
  was : ∀ b ∈ wr, ∃ o, s.heap.get? b = some o ∧ o.cls ≠ .type "code"
theorem Lp.nt (i₀ : Inv G s₀) (x : Lp G Θ₀ s₀ wr D Θ s) : ∀ b ∈ wr, ¬ G.Tab b := fun b hb => i₀.freshNotTab (x.fresh b hb)
theorem Lp.inv (i₀ : Inv G s₀) (x : Lp G Θ₀ s₀ wr D Θ s) {h' : Heap} (t : Turned G wr s h') (tk : Nat) : Inv G { s with heap := h', toks := tk } :=
  x.sk.inv.but (W := fun b => b ∈ wr) (fun b hb => i₀.new (x.fresh b hb)) (x.nt i₀) (fun b hb o e q => by
    obtain ⟨o', e', n⟩ := t.was b hb
    cases Option.some.inj (e.symm.trans e')
    exact n q.1) t.k (fun b hb _ => i₀.fresh b (x.fresh b hb)) tk
theorem wr_not (hw : ∀ b ∈ wr, Θ b = some .it) {a : Addr} {w : Owner} (t : Θ a = some w) (n : w ≠ .it) : a ∉ wr := fun q => n (th_ne t (hw a q))
theorem Lp.tb (i₀ : Inv G s₀) (x : Lp G Θ₀ s₀ wr D Θ s) {h' : Heap} (k : Kw wr s.heap h') : ∀ P pos v, G.Tab P → Entry s.heap P pos v → Entry h' P pos v := fun P pos v hP en => by
  induction en with | mk e hv => exact ⟨k P _ (fun q => x.nt i₀ P q hP) e, hv⟩
theorem Lp.exT (i₀ : Inv G s₀) (x : Lp G Θ₀ s₀ wr D Θ s) {h' : Heap} (k : Kw wr s.heap h') : Ex G Θ s.heap Θ h' :=
  ⟨fun b o nt n e => k b o (fun q => n (th_mine (x.it b q) fun e => Owner.noConfusion e)) e, fun a w t n => ⟨t, fun o => k a o (wr_not x.it t n)⟩, fun _ t => t, fun _ => .inl, x.tb i₀ k⟩
theorem Lp.exR (i₀ : Inv G s₀) (x : Lp G Θ₀ s₀ wr D Θ s) {h' : Heap} (k : Kw wr s.heap h') : Ex G Θ s.heap (Θ.rem wr) h' :=
  ⟨fun b o nt n e => k b o (fun q => n (th_mine (x.it b q) fun e => Owner.noConfusion e)) e, fun a w t n => ⟨(rem_not (wr_not x.it t n)).trans t, fun o => k a o (wr_not x.it t n)⟩, fun _ t => (rem_some t).2, fun _ q => by
    obtain ⟨w, t, n⟩ := q
    exact .inl ⟨w, (rem_some t).2, n⟩, x.tb i₀ k⟩
theorem Lp.turn (i₀ : Inv G s₀) (x : Lp G Θ₀ s₀ wr D Θ s) (a : FA G k T A env m Θ s) {h' : Heap} (t : Turned G wr s h') (liv : ∀ b ∈ wr, ∃ o, h'.get? b = some o) (tk : Nat) : Lp G Θ₀ s₀ wr D Θ { s with heap := h', toks := tk } ∧ FA G k T A env m Θ { s with heap := h', toks := tk } := by
  have live : ∀ b, (∃ o, s.heap.get? b = some o) → ∃ o, h'.get? b = some o := fun b q => by
    by_cases hw : b ∈ wr
    · exact liv b hw
    · obtain ⟨o, e⟩ := q; exact ⟨o, t.k b o hw e⟩
  have nf : ∀ b o, s₀.heap.get? b = some o → b ∉ wr := fun b o e q => nos ((x.fresh b q).symm.trans e)
  exact ⟨⟨⟨x.inv i₀ t tk, fun b o nt n e => t.k b o (nf b o e) (x.sk.kp b o nt n e), x.sk.out, x.sk.new, fun b q => live b (x.sk.liv b q), fun P pos v hP e => x.tb i₀ t.k P pos v hP (x.sk.tb P pos v hP e), fun b q => ⟨(x.sk.itk b q).1, fun o e => t.k b o (nf b o e) ((x.sk.itk b q).2 o e)⟩⟩,
    x.it, x.dd, fun b q => ⟨(x.de b q).1, live b (x.de b q).2⟩, x.fresh⟩, ⟨a.room, x.inv i₀ t tk, a.eo, a.fr.ex a.inv (x.exT i₀ t.k) fun b q => ⟨(a.fr.ox b q).1, live b (a.fr.ox b q).2⟩⟩⟩
theorem Lp.leave (i₀ : Inv G s₀) (ox₀ : OX G Θ₀.dom s₀.heap) (x : Lp G Θ₀ s₀ wr D Θ s) (a : FA G k T A env m Θ s) {h' : Heap} (t : Kw wr s.heap h') {tk : Nat} (i' : Inv G { s with heap := h', toks := tk }) : Sk G Θ₀ s₀ (Θ.rem wr) { s with heap := h', toks := tk } ∧ FA G k T A env m (Θ.rem wr) { s with heap := h', toks := tk } := by
  have nf : ∀ b o, s₀.heap.get? b = some o → b ∉ wr := fun b o e q => nos ((x.fresh b q).symm.trans e)
  have no : ∀ b w, Θ₀ b = some w → b ∉ wr := fun b w q => by obtain ⟨_, o, e⟩ := ox₀ b ⟨w, q⟩; exact nf b o e
  refine ⟨⟨i', fun b o nt n e => t b o (nf b o e) (x.sk.kp b o nt n e), fun b => ⟨fun q => (rem_not (no b _ q)).trans ((x.sk.out b).mp q), fun q => (x.sk.out b).mpr (rem_some q).2⟩, fun b q => ?_, fun b q => ?_, fun P pos v hP e => x.tb i₀ t P pos v hP (x.sk.tb P pos v hP e), fun b q => ⟨(rem_not (no b _ q)).trans (x.sk.itk b q).1, fun o e => t b o (nf b o e) ((x.sk.itk b q).2 o e)⟩⟩,
    ⟨a.room, i', a.eo, a.fr.ex a.inv (x.exR i₀ t) fun b q => ?_⟩⟩
  · obtain ⟨w, q⟩ := q
    exact x.sk.new b ⟨w, (rem_some q).2⟩
  · obtain ⟨w, q', _⟩ := id q
    obtain ⟨o, e⟩ := x.sk.liv b q
    exact ⟨o, t b o (no b w q') e⟩
  · obtain ⟨w, q⟩ := q
    obtain ⟨nt, o, e⟩ := a.fr.ox b ⟨w, (rem_some q).2⟩
    exact ⟨nt, o, t b o (rem_some q).1 e⟩
noncomputable def itTh (wr : List Addr) : Th := fun b => bif wr.contains b then some .it else none
theorem itTh_in {b : Addr} (h : b ∈ wr) : itTh wr b = some .it := congrArg (fun c => bif c then some Owner.it else none) (List.contains_iff_mem.mpr h)
theorem itTh_some {b : Addr} {w : Owner} (h : itTh wr b = some w) : b ∈ wr ∧ w = .it := by
  unfold itTh at h
  cases q : wr.contains b with
  | true => rw [q] at h; exact ⟨List.contains_iff_mem.mp q, (Option.some.inj h).symm⟩
  | false => rw [q] at h; exact nos h
theorem itTh_new (new : ∀ b ∈ wr, s.heap.get? b = none ∧ ∃ o, s'.heap.get? b = some o) : NewTh s s' (itTh wr) := ⟨fun b w q => new b (itTh_some q).1, fun b q => Owner.noConfusion (itTh_some q).2⟩
theorem itTh_rem (h : ∀ a w, Θ a = some w → a ∉ wr) : (Θ.addM (itTh wr)).rem wr = Θ := funext fun a => by
  by_cases q : a ∈ wr
  · have e : (Θ.addM (itTh wr)).rem wr a = none := congrArg (fun c => bif c then none else Θ.addM (itTh wr) a) (List.contains_iff_mem.mpr q)
    rw [e]
    cases e : Θ a with
    | none => rfl
    | some w => exact absurd q (h a w e)
  · rw [rem_not q]
    unfold Th.addM
    cases e : itTh wr a with
    | none => rfl
    | some w => exact absurd (itTh_some e).1 q
theorem Lp.start {O₀ : Addr → Prop} (a : FA G k T A env m Θ s) (st : St G s s') (hO : O₀ = Θ.dom) (new : ∀ b ∈ wr, s.heap.get? b = none ∧ ∃ o, s'.heap.get? b = some o) : Lp G Θ s wr (Dn G O₀ s') (Θ.addM (itTh wr)) s' ∧ FA G k T A env m (Θ.addM (itTh wr)) s' :=
  have n := itTh_new new
  ⟨⟨n.sk st a.fr.ox, fun b hb => addM_new (itTh_in hb), fun b q hw d => by
    obtain ⟨w, t⟩ := d
    exact addM_cases t (fun q => hw (itTh_some q).1) fun t => q.1 (hO ▸ ⟨w, t⟩), fun b q => q.2, fun b hb => (new b hb).1⟩, ⟨a.room, st.inv, a.eo, a.fr.addM n a.inv st⟩⟩
end
end
noncomputable def cellAt (cells : List (Str × Addr)) (b : Addr) (p : Str × NameKind) : Bool := p.2 == .cell && cells.lookup p.1 == some b
theorem cellAt_of {cells : List (Str × Addr)} {b : Addr} {ns : List (Str × NameKind)} {p : Str × NameKind} (h : ns.find? (cellAt cells b) = some p) : (p.1, NameKind.cell) ∈ ns ∧ cells.lookup p.1 = some b := by
  have q : cellAt cells b p = true := List.find?_some h
  obtain ⟨q1, q2⟩ := Bool.and_eq_true_iff.mp q
  have e : (p.1, NameKind.cell) = p := Prod.ext rfl (eq_of_beq q1).symm
  exact ⟨e.symm ▸ List.mem_of_find?_eq_some h, eq_of_beq q2⟩
noncomputable def Th.new (B : Th) (L : Addr) (names : List (Str × NameKind)) (sg : List (Str × Bool)) (cells : List (Str × Addr)) : Th := fun b =>
  (B b).or (bif b == L then some .loc else (names.find? (cellAt cells b)).map fun p => .cell (idxOf sg p.1))
theorem mem_owOf {sc : Scope} {x : Str} : x ∈ owOf sc ↔ (x, NameKind.local) ∈ sc.names ∨ (x, NameKind.cell) ∈ sc.names :=
  (mem_kind (f := ownKind)).trans ⟨fun h => by
    obtain ⟨k, hk, q⟩ := h
    exact (ownKind_cases q).imp (fun e => by subst e; exact hk) fun e => by subst e; exact hk, fun h => h.elim (fun h => ⟨_, h, rfl⟩) fun h => ⟨_, h, rfl⟩⟩
theorem mem_cfOf {sc : Scope} {x : Str} : x ∈ cfOf sc ↔ (x, NameKind.cell) ∈ sc.names ∨ (x, NameKind.free) ∈ sc.names :=
  (mem_kind (f := cellKind)).trans ⟨fun h => by
    obtain ⟨k, hk, q⟩ := h
    exact (cellKind_cases q).imp (fun e => by subst e; exact hk) fun e => by subst e; exact hk, fun h => h.elim (fun h => ⟨_, h, rfl⟩) fun h => ⟨_, h, rfl⟩⟩
theorem one_kind {ns : List (Str × NameKind)} (nd : (ns.map (·.1)).Nodup) {x : Str} {k k' : NameKind} (h : (x, k) ∈ ns) (h' : (x, k') ∈ ns) : k = k' := Option.some.inj ((lookup_of nd h).symm.trans (lookup_of nd h'))
structure NewF (G : Gd) (sc : Scope) (B : Th) (s : Shared) (Θ : Th) (env : Env) (m : Fr) (h' : Heap) : Prop where
  fr : FR G (owOf sc) Θ h' env m
  dom : ∀ b, Θ.dom b → B.dom b ∨ s.heap.get? b = none
  bb : ∀ b w, B b = some w → Θ b = some w
  out : ∀ b, Θ b = some .out → B b = some .out
section
variable {G : Gd} {s : Shared} {sc : Scope} {cl : List (Str × Addr)} {B : Th} {o : Obj} {mm : Str → Option Value} {env : Env} {m : Fr}
theorem new_frame (i : Inv G s) (nd : (sc.names.map (·.1)).Nodup) (ox : OX G B.dom s.heap) (bn : ∀ a, B.mine a → G.h₀.get? a = none) (hf : o.isFreed = false) (hns : (s.heap.push o).Ns s.heap.objs.size mm)
    (hcl : ∀ x ∈ freeIn sc, ∃ c v, cl.lookup x = some c ∧ ¬ G.Tab c ∧ ¬ B.mine c ∧ s.heap.IsCell c v) (hl : env.locals = s.heap.objs.size) (hc : env.cells = cellsFrom (s.heap.push o).objs.size sc.names cl) (hsg : sig env.scope = sig sc)
    (hk : ∀ x, env.kindOf x = some .cell ∨ env.kindOf x = some .free → (x, NameKind.cell) ∈ sc.names ∨ x ∈ freeIn sc) (hkf : ∀ x ∈ freeIn sc, env.kindOf x = some .cell ∨ env.kindOf x = some .free)
    (hm : ∀ j sl, m.at j = some sl → ∃ x ∈ freeIn sc, idxOf (sig sc) x = j ∧ ∃ c y, cl.lookup x = some c ∧ s.heap.IsCell c (some y) ∧ SF G B s.heap env j sl y) :
    NewF G sc B s (B.new s.heap.objs.size sc.names (sig sc) env.cells) env m (pushCells (s.heap.push o) sc.names) := by
  have nc := cells_new nd (s.heap.push o) cl
  rw [← hc] at nc
  have keep : ∀ b o', s.heap.get? b = some o' → (pushCells (s.heap.push o) sc.names).get? b = some o' := fun b o' e => pushCells_keeps _ _ b o' (Heap.get?_push_of_some _ e)
  have hL0 : s.heap.get? s.heap.objs.size = none := get_size _
  have fr0 : ∀ b, s.heap.get? b = none → B b = none := fun b e => by
    cases q : B b with
    | none => rfl
    | some w => obtain ⟨_, o, g⟩ := ox b ⟨w, q⟩; exact nos (e.symm.trans g)
  have cnew : ∀ x c, (x, NameKind.cell) ∈ sc.names → env.cells.lookup x = some c → s.heap.get? c = none ∧ c ≠ s.heap.objs.size ∧ (pushCells (s.heap.push o) sc.names).IsCell c none := fun x c hx e => by
    obtain ⟨c', e', l, q⟩ := nc.new x hx
    cases Option.some.inj (e.symm.trans e')
    rw [Heap.size_push] at l
    exact ⟨Heap.get?_none_of_le (Nat.le_of_succ_le l), fun e => Nat.not_succ_le_self _ (e ▸ l), q⟩
  have cold : ∀ x ∈ freeIn sc, env.cells.lookup x = cl.lookup x := fun x hx => hc ▸ cells_old (fun h => NameKind.noConfusion (one_kind nd h (mem_freeIn.mp hx))) _ _
  have tB : ∀ b w, B b = some w → B.new s.heap.objs.size sc.names (sig sc) env.cells b = some w := fun b w q => by unfold Th.new; rw [q]; rfl
  have tL : B.new s.heap.objs.size sc.names (sig sc) env.cells s.heap.objs.size = some .loc := by unfold Th.new; rw [fr0 _ hL0, beq_self_eq_true]; rfl
  have tC : ∀ x c, (x, NameKind.cell) ∈ sc.names → env.cells.lookup x = some c → B.new s.heap.objs.size sc.names (sig sc) env.cells c = some (.cell (idxOf (sig sc) x)) := fun x c hx e => by
    obtain ⟨h0, hL, _⟩ := cnew x c hx e
    unfold Th.new
    rw [fr0 _ h0, beq_no hL]
    cases q : sc.names.find? (cellAt env.cells c) with
    | none => exact absurd (show cellAt env.cells c (x, .cell) = true by unfold cellAt; rw [e, beq_self_eq_true, beq_self_eq_true]; rfl) (List.find?_eq_none.mp q _ hx)
    | some p => exact congrArg (fun z => some (Owner.cell (idxOf (sig sc) z))) (nc.inj p.1 x c (cellAt_of q).1 hx (cellAt_of q).2 e)
  have cases3 : ∀ {b w} {C : Prop}, B.new s.heap.objs.size sc.names (sig sc) env.cells b = some w → (B b = some w → C) → (w ≠ .out → s.heap.get? b = none → (∃ o', (pushCells (s.heap.push o) sc.names).get? b = some o') → C) → C := fun {b w C} t h1 h2 => by
    unfold Th.new at t
    cases q : B b with
    | some v => rw [q] at t; exact h1 (q.trans t)
    | none =>
      rw [q] at t
      cases q' : b == s.heap.objs.size with
      | true =>
        rw [q'] at t
        have e := eq_of_beq q'
        exact h2 (fun e => Owner.noConfusion ((Option.some.inj t).trans e)) (e ▸ hL0) ⟨o, e ▸ pushCells_keeps _ _ _ _ (Heap.get?_push_size _ hf)⟩
      | false =>
        rw [q'] at t
        exact omap (C := fun w => (w ≠ .out → s.heap.get? b = none → _ → C) → C) (o := sc.names.find? _) t (fun p hp h2 => by
          obtain ⟨h0, _, hv⟩ := cnew p.1 b (cellAt_of hp).1 (cellAt_of hp).2
          exact h2 (fun e => Owner.noConfusion e) h0 (cell_get hv)) h2
  have dom : ∀ b, (B.new s.heap.objs.size sc.names (sig sc) env.cells).dom b → B.dom b ∨ s.heap.get? b = none := fun b q => by
    obtain ⟨w, t⟩ := q
    exact cases3 t (fun q => .inl ⟨w, q⟩) fun _ q _ => .inr q
  have kp : Keep B.dom (B.new s.heap.objs.size sc.names (sig sc) env.cells).dom s.heap (pushCells (s.heap.push o) sc.names) := fun a o' e _ no => ⟨fun q => (dom a q).elim no fun q => nos (q.symm.trans e), keep a o' e⟩
  have frm : ∀ x c, x ∈ freeIn sc → env.cells.lookup x = some c → ¬ G.Tab c ∧ ¬ (B.new s.heap.objs.size sc.names (sig sc) env.cells).mine c ∧ ∃ v, s.heap.IsCell c v := fun x c hx e => by
    obtain ⟨c', v, e', nt, nm, hv⟩ := hcl x hx
    cases Option.some.inj ((e.symm.trans (cold x hx)).trans e')
    obtain ⟨o', g⟩ := cell_get hv
    exact ⟨nt, fun q => by
      obtain ⟨w, t, n⟩ := q
      exact cases3 t (fun q => nm ⟨w, q, n⟩) fun _ q _ => nos (q.symm.trans g), v, hv⟩
  refine ⟨⟨hl ▸ tL, ⟨mm, hl ▸ hns.keeps fun b o' => pushCells_keeps _ _ b o'⟩, fun b q => ?_, fun b q => ?_, fun x c ho hx e => ?_, fun x c ho hx e => ?_, fun x hx => ?_, fun x sl hx hs => ?_⟩, dom, tB, fun b t => cases3 t id fun n _ _ => absurd rfl n⟩
  · obtain ⟨w, t⟩ := q
    refine cases3 t (fun q => ?_) fun _ q e => ⟨i.freshNotTab q, e⟩
    obtain ⟨nt, o', e⟩ := ox b ⟨w, q⟩
    exact ⟨nt, o', keep _ _ e⟩
  · obtain ⟨w, t, n⟩ := q
    exact cases3 t (fun q => bn b ⟨w, q, n⟩) fun _ q _ => i.new q
  · rw [hsg]
    refine tC x c ((hk x hx).elim id fun hf => ?_) e
    exact (mem_owOf.mp ho).elim (fun q => NameKind.noConfusion (one_kind nd q (mem_freeIn.mp hf))) id
  · exact (frm x c ((hk x hx).elim (fun q => absurd (mem_owOf.mpr (.inr q)) ho) id) e).2.1
  · rcases hk x hx with q | q
    · obtain ⟨c, e, _⟩ := nc.new x q
      exact ⟨e, i.freshNotTab (cnew x c q e).1, (cnew x c q e).2.2⟩
    · obtain ⟨c, v, e, nt, _, hv⟩ := hcl x q
      exact ⟨(cold x q).trans e, nt, hv.keeps keep⟩
  · rw [hsg] at hx hs
    obtain ⟨z, hz, e1, c, y, e2, hv, sf⟩ := hm _ sl hs
    have q : z = x := idx_inj (isVar_mem (by unfold isVar; rw [sig_lookup, lookup_of nd (mem_freeIn.mp hz)]; rfl)) e1
    subst q
    obtain ⟨c', v', e3, nt, _, _⟩ := hcl z hz
    cases Option.some.inj (e2.symm.trans e3)
    rw [hsg]
    exact ⟨y, .cel (hkf z hz) ((cold z hz).trans e2) nt (hv.keeps keep), sf.map kp (fun a t => ⟨tB a _ t, keep a⟩) fun P pos v _ en => by induction en with | mk e hv => exact ⟨keep _ _ e, hv⟩⟩
end
inductive NextG (gens : List Comprehension) (d : Nat) : Prop
  | none (h : gens[d]? = none)
  | some {t it : Expr} {ifs : List Expr} (h : gens[d]? = some ⟨t, it, ifs, 0⟩) (hfs : ∀ env x, foldedSetIterable it env x = pure x)
structure Inner (M : Model) (A : Around) (e : Expr) (gens : List Comprehension) (emit : Sem Unit) (d : Nat) (D : Addr) (env : Env) (Q : Unit → Shared → Prop) (X : Value → Shared → Prop) (s : Shared) : Prop where
  none : gens[d]? = none → wpAny M A emit Q X s
  some : ∀ t it ifs, gens[d]? = some ⟨t, it, ifs, 0⟩ → wpAny M A (eval it env) (fun x s₁ => wpAny M A (pyIter x) (fun l s₂ => wpAny M A (runOwn (.compStart e d l (.ref D) env) env) (fun _ s₃ => Q () s₃) X s₂) X s₁) X s
structure CompE (e : Expr) (gens : List Comprehension) (emit : Addr → Env → Sem Unit) : Prop where
  clauses : clausesOf e = gens
  quiet : ∀ d it acc env, Code.quiet (.compLoop e d it acc env) = true
  loop : ∀ {prog w d it acc env}, (model prog w).den (.compLoop e d it acc env) = (compTurn e d it acc env).onRaise (fun x => do noteFrame x env; theTreesLotGoes x)
  start : ∀ {prog w d it acc env}, (model prog w).den (.compStart e d it acc env) = (compStart e d it acc env).onRaise (fun x => do noteFrame x env; standAt theWindowsPlace)
  underL : ∀ {A d it acc env}, Around.under A (.compLoop e d it acc env) = A
  underS : ∀ {A d it acc env}, Around.under A (.compStart e d it acc env) = A
  turn : ∀ {M A Q X s d D it env t iter ifs}, gens[d]? = some ⟨t, iter, ifs, 0⟩ → NextG gens (d + 1) →
    wpAny M A (pyNext it) (fun r s₁ => (r = none → Q (.done .next) s₁) ∧ ∀ y, r = some y → wpAny M A (letOwnedTupleGo t it y) (fun _ s₂ => wpAny M A (assign t env y) (fun _ s₃ =>
      wpAny M A (forIn ifs true fun c r => if r = true then do let ok ← isTrue c env (eval c env); pure (ForInStep.yield ok) else pure (ForInStep.yield r)) (fun ok s₄ =>
        (ok = false → Q (.again (.compLoop e d it (.ref D) env)) s₄) ∧ (ok = true → Inner M A e gens (emit D env) (d + 1) D env (fun _ s₅ => Q (.again (.compLoop e d it (.ref D) env)) s₅) X s₄)) X s₃) X s₂) X s₁) X s →
    wpAny M A (compTurn e d it (.ref D) env) Q X s
noncomputable def emitL (elt : Expr) (D : Addr) (env : Env) : Sem Unit := eval elt env >>= fun x => call (.builtin "list.append") [.ref D, x] >>= fun _ => pure ()
noncomputable def emitD (k v : Expr) (D : Addr) (env : Env) : Sem Unit := eval k env >>= fun kv => holding [kv] (eval v env) >>= fun vv => standAt { k.pos with endLine := v.pos.endLine, endCol := v.pos.endCol } >>= fun _ => holding [kv, vv] (dictSet D kv vv)
theorem compE_list {elt : Expr} {gens : List Comprehension} {sc : Scope} {pos : Pos} : CompE (.ListComp elt gens sc pos) gens (emitL elt) where
  clauses := rfl
  quiet := fun _ _ _ _ => rfl
  loop := rfl
  start := rfl
  underL := rfl
  underS := rfl
  turn := fun {M A Q X s d D it env t iter ifs} hg hn h => by
    unfold compTurn
    dsimp only
    rw [hg]
    refine wpAny_bind (wpAny_standAt (wpAny_bind (wpAny_mono h (fun r s₁ h₁ => ?_) fun _ _ x => x)))
    cases r with
    | none => exact wpAny_pure (h₁.1 rfl)
    | some y =>
      refine wpAny_bind (wpAny_mono (h₁.2 y rfl) (fun _ s₂ h₂ => wpAny_bind (wpAny_mono h₂ (fun _ s₃ h₃ => wpAny_bind (wpAny_mono h₃ (fun ok s₄ h₄ => ?_) fun _ _ x => x)) fun _ _ x => x)) fun _ _ x => x)
      cases ok with
      | false => exact wpAny_pure (h₄.1 rfl)
      | true =>
        cases hn with
        | none hn =>
          rw [hn]
          exact wpAny_bind (wpAny_mono ((h₄.2 rfl).none hn) (fun _ s₅ h₅ => wpAny_pure h₅) fun _ _ x => x)
        | some hn hfs =>
          rw [hn]
          exact wpAny_bind (wpAny_mono ((h₄.2 rfl).some _ _ _ hn) (fun x s₅ h₅ => wpAny_bind (wpAny_standAt (wpAny_bind (wpAny_of_eq (hfs env x) (wpAny_bind (wpAny_holding (wpAny_mono h₅ (fun l s₆ h₆ => wpAny_bind (wpAny_mono h₆ (fun _ s₇ h₇ => wpAny_pure h₇) fun _ _ x => x)) fun _ _ x => x))))))) fun _ _ x => x)
theorem compE_dict {ke ve : Expr} {gens : List Comprehension} {sc : Scope} {pos : Pos} : CompE (.DictComp ke ve gens sc pos) gens (emitD ke ve) where
  clauses := rfl
  quiet := fun _ _ _ _ => rfl
  loop := rfl
  start := rfl
  underL := rfl
  underS := rfl
  turn := fun {M A Q X s d D it env t iter ifs} hg hn h => by
    unfold compTurn
    dsimp only
    rw [hg]
    refine wpAny_bind (wpAny_standAt (wpAny_bind (wpAny_mono h (fun r s₁ h₁ => ?_) fun _ _ x => x)))
    cases r with
    | none => exact wpAny_pure (h₁.1 rfl)
    | some y =>
      refine wpAny_bind (wpAny_mono (h₁.2 y rfl) (fun _ s₂ h₂ => wpAny_bind (wpAny_mono h₂ (fun _ s₃ h₃ => wpAny_bind (wpAny_mono h₃ (fun ok s₄ h₄ => ?_) fun _ _ x => x)) fun _ _ x => x)) fun _ _ x => x)
      cases ok with
      | false => exact wpAny_pure (h₄.1 rfl)
      | true =>
        cases hn with
        | none hn =>
          rw [hn]
          exact wpAny_bind (wpAny_mono ((h₄.2 rfl).none hn) (fun _ s₅ h₅ => wpAny_pure h₅) fun _ _ x => x)
        | some hn hfs =>
          rw [hn]
          exact wpAny_bind (wpAny_mono ((h₄.2 rfl).some _ _ _ hn) (fun x s₅ h₅ => wpAny_bind (wpAny_standAt (wpAny_bind (wpAny_of_eq (hfs env x) (wpAny_bind (wpAny_holding (wpAny_mono h₅ (fun l s₆ h₆ => wpAny_bind (wpAny_mono h₆ (fun _ s₇ h₇ => wpAny_pure h₇) fun _ _ x => x)) fun _ _ x => x))))))) fun _ _ x => x)
noncomputable def reK (env : Env) (x : Str) (k : NameKind) : NameKind := bif k == .free && env.scope.kind == .function && env.kindOf x == some .cell then .cell else k
theorem re_pair (env : Env) (p : Str × NameKind) : (match p with | (n, k) => if (k == NameKind.free && env.scope.kind == ScopeKind.function && env.kindOf n == some NameKind.cell) = true then (n, NameKind.cell) else (n, k)) = (p.1, reK env p.1 p.2) := by
  obtain ⟨n, k⟩ := p
  unfold reK
  cases q : k == NameKind.free && env.scope.kind == ScopeKind.function && env.kindOf n == some NameKind.cell with
  | true => exact if_pos q
  | false => exact if_neg fun h => Bool.noConfusion (q.symm.trans h)
theorem relabel_names (sc : Scope) (env : Env) : (relabel sc env).names = sc.names.map fun p => (p.1, reK env p.1 p.2) := List.map_congr_left fun p _ => re_pair env p
theorem relabel_lookup (sc : Scope) (env : Env) (x : Str) : (relabel sc env).names.lookup x = (sc.names.lookup x).map (reK env x) := by
  rw [relabel_names]
  induction sc.names with
  | nil => rfl
  | cons p r ih =>
    rw [List.map_cons, List.lookup_cons, List.lookup_cons]
    cases q : x == p.1 with
    | true => cases eq_of_beq q; rfl
    | false => exact ih
theorem reK_free {env : Env} {x : Str} {k : NameKind} (h : reK env x k ≠ k) : k = .free ∧ reK env x k = .cell := by
  unfold reK at h ⊢
  cases q : k == NameKind.free && env.scope.kind == ScopeKind.function && env.kindOf x == some NameKind.cell with
  | true => exact ⟨eq_of_beq (Bool.and_eq_true_iff.mp (Bool.and_eq_true_iff.mp q).1).1, rfl⟩
  | false => rw [q] at h; exact absurd rfl h
theorem reK_cases (env : Env) (x : Str) (k : NameKind) : reK env x k = k ∨ (k = .free ∧ reK env x k = .cell) := by
  by_cases h : reK env x k = k
  · exact .inl h
  · exact .inr (reK_free h)
theorem relabel_sig (sc : Scope) (env : Env) : sig (relabel sc env) = sig sc := by
  unfold sig
  rw [relabel_names, List.map_map]
  refine List.map_congr_left fun p _ => Prod.ext rfl ?_
  show isVarKind (reK env p.1 p.2) = isVarKind p.2
  rcases reK_cases env p.1 p.2 with e | ⟨e, e'⟩
  · rw [e]
  · rw [e', e]; rfl
theorem capture_at {m : Fr} {g : Nat → Bool} {inner outer : List (Str × Bool)} {fr : List Str} : ∀ {f : Fr} {j : Nat} {sl : Slot}, Fr.at ((capOf inner outer fr).foldl (fun f p => f.set p.1 (capIn g (m.at p.2))) f) j = some sl →
    (∃ x ∈ fr, idxOf inner x = j ∧ capIn g (m.at (idxOf outer x)) = some sl) ∨ Fr.at f j = some sl := by
  induction fr with
  | nil => exact fun h => .inr h
  | cons x r ih =>
    intro f j sl h
    rcases ih h with ⟨y, hy, q⟩ | q
    · exact .inl ⟨y, List.mem_cons_of_mem _ hy, q⟩
    · exact at_set q (fun e q => .inl ⟨x, List.mem_cons_self .., e.symm, q⟩) fun _ q => .inr q
theorem at_none {n j : Nat} {sl : Slot} {C : Prop} (h : Fr.at (List.replicate n none) j = some sl) : C := by
  unfold Fr.at at h
  rw [List.getElem?_replicate] at h
  by_cases q : j < n
  · rw [if_pos q] at h; exact nos h
  · rw [if_neg q] at h; exact nos h
theorem capIn_some {g : Nat → Bool} {o : Option Slot} {sl : Slot} : capIn g o = some sl → o = some sl ∧ ∀ f, sl = .clo f → g f = true := by
  cases o with
  | none => exact nos
  | some s =>
    cases s with
    | clo f =>
      intro h
      have h : (bif g f then some (Slot.clo f) else none) = some sl := h
      cases q : g f with
      | true => rw [q] at h; exact ⟨h, fun f' e => by rw [e] at h; injection (Option.some.inj h) with h; exact h ▸ q⟩
      | false => rw [q] at h; exact nos h
    | _ => exact fun h => ⟨h, fun f e => by rw [e] at h; cases h⟩
theorem captured {m : Fr} {g : Nat → Bool} {inner outer : List (Str × Bool)} {fr : List Str} {n j : Nat} {sl : Slot} {C : Prop} (h : (m.capture g (capOf inner outer fr) n).at j = some sl) (k : ∀ x ∈ fr, idxOf inner x = j → m.at (idxOf outer x) = some sl → (∀ f, sl = .clo f → g f = true) → C) : C := by
  rcases capture_at h with ⟨x, hx, e, q⟩ | q
  · exact k x hx e (capIn_some q).1 (capIn_some q).2
  · exact at_none q
theorem cap_ne {m : Fr} {inner outer : List (Str × Bool)} {fr : List Str} (ne : NE m ((capOf inner outer fr).map (·.2))) {x : Str} (hx : x ∈ fr) {sl : Slot} (e : m.at (idxOf outer x) = some sl) : sl.isOwn = false :=
  ne _ (List.mem_map.mpr ⟨_, List.mem_map.mpr ⟨x, hx, rfl⟩, rfl⟩) sl e
noncomputable def AllV (m : Fr) : Prop := ∀ i sl, m.at i = some sl → sl.isOwn = false
theorem AllV.ne {m : Fr} (h : AllV m) (l : List Nat) : NE m l := fun i _ => h i
theorem AllV.set {m : Fr} (h : AllV m) {i : Nat} {v : V} : AllV (m.set i (some (.v v))) := fun j sl e => at_set e (fun _ q => by cases q; rfl) fun _ q => h j sl q
theorem AllV.all {is : List Nat} : ∀ {vs : List V} {m : Fr}, AllV m → AllV (bindAll m is vs) := by
  induction is with
  | nil => exact fun h => h
  | cons i is ih =>
    intro vs m h
    cases vs with
    | nil => exact h
    | cons v vs => exact ih (vs := vs) (h.set (i := i) (v := v))
theorem AllV.bind {m m' : Fr} {t : Tg} {v : V} (h : AllV m) (e : m.bind t v = some m') : AllV m' := by
  induction t with
  | one i => exact Option.some.inj e ▸ h.set
  | many is => exact obind e fun vs _ e => oif (C := AllV) e fun _ => h.all
inductive SBl (G : Gd) (c : Cx) (k : Nat) (T : Tx) : List Expr → Es → Prop
  | nil : SBl G c k T [] .nil
  | cons {e : Expr} {es : List Expr} {t : E} {ts : Es} (h : SB G c k T e t) (r : SBl G c k T es ts) : SBl G c k T (e :: es) (.cons t ts)
section
variable {G : Gd} {c : Cx} {k : Nat} {T : Tx} {A : Around} {env : Env} {m : Fr} {O : Addr → Prop} {X : Value → Shared → Prop} {s : Shared}
theorem tests_false {es : List Expr} {Q : Bool → Shared → Prop} (h : Q false s) : wpAny (model G.prog G.w) A (forIn es false fun c r => if r = true then do let ok ← isTrue c env (eval c env); pure (ForInStep.yield ok) else pure (ForInStep.yield r)) Q X s := by
  induction es with
  | nil => exact wpAny_pure h
  | cons e es ih =>
    rw [List.forIn_cons, if_neg Bool.false_ne_true]
    exact wpAny_bind (wpAny_pure ih)
theorem tests_any (hv : AllV m) {es : List Expr} {ts : Es} (h : SBl G c k T es ts) : ∀ {s : Shared} {b : Bool} {Q : Bool → Shared → Prop}, At G k T A env m O s → evAnd c m ts = some b → (∀ s', St G s s' → Q b s') →
    wpAny (model G.prog G.w) A (forIn es true fun c r => if r = true then do let ok ← isTrue c env (eval c env); pure (ForInStep.yield ok) else pure (ForInStep.yield r)) Q X s := by
  induction h with
  | nil => exact fun a hb hQ => wpAny_pure (Option.some.inj hb ▸ hQ _ (.refl a.inv))
  | cons h _ ih =>
    intro s b Q a hb hQ
    rw [List.forIn_cons, if_pos rfl]
    refine obind hb fun v hv1 hb => obind hb fun z hz hb => wpAny_bind (wpAny_bind (h a (hv.ne _) hv1 hz fun s' st => wpAny_pure ?_))
    cases z with
    | true => exact ih (a.step st) hb fun s'' st' => hQ s'' (st.trans st')
    | false => exact tests_false (Option.some.inj hb ▸ hQ s' st)
end
inductive AK where
  | l | d | r
noncomputable def RowsX (h : Heap) (D : Addr) : Prop := ∃ ws n, IsL h D (List.toArray ws) n ∧ ws.Nodup ∧ ∀ w ∈ ws, ∃ b, w = .ref b ∧ D < b
theorem RowsX.kp {h h' : Heap} {D : Addr} (x : RowsX h D) (kd : ∀ o, h.get? D = some o → h'.get? D = some o) : RowsX h' D := by
  obtain ⟨ws, n, e, r⟩ := x
  exact ⟨ws, n, kd _ e, r⟩
inductive Ac (G : Gd) (O : Addr → Prop) (h : Heap) (D : Addr) : AK → List V → Prop
  | list {xs : List V} (r : LstA (VR G O h) h D xs) : Ac G O h D .l xs
  | rows {xs : List V} (r : LstA (VR G O h) h D xs) (x : RowsX h D) : Ac G O h D .r xs
  | dict {ps : List V} {kps : List (K × V)} (e : pairsOf ps = some kps) (l : kps.length = ps.length) (r : DctA (VR G O h) h D G G.gen (foldD kps)) : Ac G O h D .d ps
theorem Ac.map {G : Gd} {O O' : Addr → Prop} {h h' : Heap} {D : Addr} {b : AK} {xs : List V} (k : Keep O O' h h') (kd : ∀ o, h.get? D = some o → h'.get? D = some o) (x : Ac G O h D b xs) : Ac G O' h' D b xs := by
  induction x with
  | list r => exact .list (r.mono k fun o e _ => kd o e)
  | rows r x => exact .rows (r.mono k fun o e _ => kd o e) (x.kp kd)
  | dict e l r => exact .dict e l (r.mono k fun o e _ => kd o e)
structure CI (G : Gd) (k : Nat) (T : Tx) (A : Around) (env : Env) (D : Addr) (b : AK) (Θ : Th) (s : Shared) (m : Fr) (xs : List V) : Prop where
  fa : FA G k T A env m Θ s
  av : AllV m
  acc : Θ D = some (.slot (sig env.scope).length)
  ac : Ac G Θ.dom s.heap D b xs
section
variable {G : Gd} {k : Nat} {T : Tx} {A : Around} {env : Env} {D : Addr} {b : AK} {Θ Θ' : Th} {s s' : Shared} {m m' : Fr} {xs : List V} {X : Value → Shared → Prop}
theorem CI.at (x : CI G k T A env D b Θ s m xs) : At G k T A env m Θ.dom s := x.fa.at
theorem CI.bd (x : CI G k T A env D b Θ s m xs) (y : Bd G k T A env Θ s m' s') (av : AllV m') : CI G k T A env D b Θ s' m' xs := ⟨y.fa, av, x.acc, x.ac.map (y.sk.keep x.fa.inv) (y.sl D _ x.acc).2⟩
theorem CI.st (x : CI G k T A env D b Θ s m xs) (st : St G s s') : CI G k T A env D b Θ s' m xs := x.bd (.st x.fa st) x.av
theorem CI.ex (x : CI G k T A env D b Θ s m xs) (e : Ex G Θ s.heap Θ' s'.heap) (fa : FA G k T A env m Θ' s') : CI G k T A env D b Θ' s' m xs := ⟨fa, x.av, (e.slots D _ x.acc).1, x.ac.map (e.keep fun a o e c => x.fa.inv.notTab e c) (e.slots D _ x.acc).2⟩
theorem FA.wrD (a : FA G k T A env m Θ s) (t : Θ D = some (.slot (sig env.scope).length)) {h' : Heap} {tk : Nat} (hc : ∀ o, s.heap.get? D = some o → ¬ Rec o) (hs : Heap.SameBut D s.heap h') (he : ∃ o, h'.get? D = some o) : Sk G Θ s Θ { s with heap := h', toks := tk } ∧ FA G k T A env m Θ { s with heap := h', toks := tk } := by
  have sk := sk_wr (tk := tk) a.inv a.fr.ox t (fun e => Owner.noConfusion e) (fun e => Owner.noConfusion e) (a.fr.new D (th_mine t fun e => Owner.noConfusion e)) hc hs he
  exact ⟨sk, a.room, sk.inv, a.eo, a.fr.wrS t hs he fun x sl hx hm => ⟨fun q => absurd q (Nat.ne_of_lt (idx_lt (isVar_mem hx))), fun _ => hm⟩⟩
theorem cls_rec {h : Heap} {a : Addr} {o : Obj} {t : String} (e : h.get? a = some o) (c : o.cls = .type t) (n : (t == "code") = false) : ∀ o, h.get? a = some o → ¬ Rec o := fun o' e' q => by
  cases Option.some.inj (e.symm.trans e')
  exact code_cls n c q.1
noncomputable def EmOk (G : Gd) (k : Nat) (T : Tx) (b : AK) (emit : Addr → Env → Sem Unit) (kf : Fr → Option (List V)) : Prop := ∀ {A : Around} {env : Env} {D : Addr} {Θ : Th} {s : Shared} {m : Fr} {xs ys : List V} {Q : Unit → Shared → Prop} {X : Value → Shared → Prop},
  CI G k T A env D b Θ s m xs → kf m = some ys → xs.length + ys.length ≤ big → (∀ s', CI G k T A env D b Θ s' m (xs ++ ys) → Sk G Θ s Θ s' → Q () s') → wpAny (model G.prog G.w) A (emit D env) Q X s
theorem push_app (ws : List Value) (y : Value) : ws.toArray.push y = (ws ++ [y]).toArray := List.push_toArray ws y
theorem em_list {c : Cx} {elt : Expr} {te : E} (h : SE G c k T elt te) : EmOk G k T .l (emitL elt) fun m => (ev c m te).map fun v => [v] := fun {A env D Θ s m xs ys Q X} x hv hl hQ => by
  refine omap (C := fun ys => xs.length + ys.length ≤ big → (∀ s', CI G k T A env D .l Θ s' m (xs ++ ys) → Sk G Θ s Θ s' → Q () s') → _) hv (fun v hv hl hQ => ?_) hl hQ
  refine wpAny_bind (h x.at (x.av.ne _) hv fun y s₁ st r => ?_)
  have x₁ := x.st st
  cases x₁.ac with | list rl =>
  cases rl with | @mk ws n e l rs =>
  refine wpAny_bind (wpAny_list_append_plain ⟨n, e⟩ (fun h' hp hs => ?_) (fits l))
  obtain ⟨n', e'⟩ := hp
  rw [push_app] at e'
  obtain ⟨sk, fa⟩ := x₁.fa.wrD (tk := s₁.toks) x.acc (cls_rec e rfl rfl) hs ⟨_, e'⟩
  have kw := keep_wr x.acc hs
  refine wpAny_pure (hQ _ ⟨fa, x.av, x.acc, .list ⟨e', ?_, (VRs.mono kw rs).append (.cons (r.mono kw) .nil)⟩⟩ ((Sk.of st x.fa.fr.ox).trans sk fa.fr.ox))
  rw [List.length_append, ← rs.length]; exact hl
theorem VR.alive {G : Gd} {O : Addr → Prop} {h : Heap} {v : V} {a : Addr} (r : VR G O h v (.ref a)) : ∃ o, h.get? a = some o := by
  have rw := r.w
  cases rw with
  | tup r => cases r with | mk e => exact ⟨_, e⟩
  | list r => cases r with | mk e => exact ⟨_, e⟩
  | dict r => exact r.obj fun o e _ => ⟨o, e⟩
  | rng e => exact ⟨_, e⟩
  | rows r => cases r with | mk e => exact ⟨_, e⟩
theorem em_rows {c : Cx} {elt : Expr} {te : E} {gs : Gs} {cap : List (Nat × Nat)} {n : Nat} (h : SEo G c k T elt (.lcomp te gs cap n)) : EmOk G k T .r (emitL elt) fun m => (ev c m (.lcomp te gs cap n)).map fun v => [v] := fun {A env D Θ s m xs ys Q X} x hv hl hQ => by
  refine omap (C := fun ys => xs.length + ys.length ≤ big → (∀ s', CI G k T A env D .r Θ s' m (xs ++ ys) → Sk G Θ s Θ s' → Q () s') → _) hv (fun v hv hl hQ => ?_) hl hQ
  have hv' := hv
  refine obind hv' fun zs _ hv' => oif (C := fun v => (xs.length + [v].length ≤ big) → (∀ s', CI G k T A env D .r Θ s' m (xs ++ [v]) → Sk G Θ s Θ s' → Q () s') → ev c m (.lcomp te gs cap n) = some v → _) hv' (fun _ hl hQ hv => ?_) hl hQ hv
  refine wpAny_bind (h x.at (x.av.ne _) hv fun y s₁ st r => ?_)
  have x₁ := x.st st
  have rv := r.vr x.fa.fr.ox
  cases r with
  | v nl _ => cases nl
  | @l _ a f _ =>
  cases x₁.ac with | rows rl rx =>
  cases rl with | @mk ws n e l rs =>
  obtain ⟨ws', n', e', nd, hi⟩ := rx
  cases seq_fun e e'
  have hD : D < a := by
    cases x.ac with | rows rl _ =>
    cases rl with | mk e0 => exact f _ _ e0
  have na : Value.ref a ∉ ws := fun hm => by
    cases x.ac with | rows rl _ =>
    cases rl with | @mk ws0 n0 e0 _ rs0 =>
    have e1 := st.kp _ _ (x.fa.inv.notTab e0 type_ne) e0
    cases seq_fun e e1
    obtain ⟨i, hi⟩ := List.mem_iff_getElem?.mp hm
    exact rs0.getB hi fun u _ ru => by
      obtain ⟨o, e⟩ := ru.alive
      exact Nat.lt_irrefl _ (f _ _ e)
  refine wpAny_bind (wpAny_list_append_plain ⟨n, e⟩ (fun h' hp hs => ?_) (fits l))
  obtain ⟨n', e'⟩ := hp
  rw [push_app] at e'
  obtain ⟨sk, fa⟩ := x₁.fa.wrD (tk := s₁.toks) x.acc (cls_rec e rfl rfl) hs ⟨_, e'⟩
  have kw := keep_wr x.acc hs
  refine wpAny_pure (hQ _ ⟨fa, x.av, x.acc, .rows ⟨e', ?_, (VRs.mono kw rs).append (.cons (rv.mono kw) .nil)⟩ ⟨_, _, e', ?_, fun w hw => (List.mem_append.mp hw).elim (hi w) fun hw => ⟨a, List.mem_singleton.mp hw, hD⟩⟩⟩ ((Sk.of st x.fa.fr.ox).trans sk fa.fr.ox))
  · rw [List.length_append, ← rs.length]; exact hl
  · exact List.nodup_append.mpr ⟨nd, List.nodup_cons.mpr ⟨List.not_mem_nil, .nil⟩, fun w hw u hu e => na (List.mem_singleton.mp hu ▸ e ▸ hw)⟩
theorem dictOf_nodup {prog : Program} {w : World} {h : Heap} {a : Addr} {k1 : List (K × Value)} (x : h.DictOf (kk prog w) a k1) : (k1.map (·.1)).Nodup := by
  obtain ⟨o, es, ep, ho, hc, hd, hk, hp, hn⟩ := x
  exact hn
theorem pairs_snoc {q : K} {u v : V} (hk : keyV u = some q) {ps : List V} : ∀ {kps : List (K × V)}, pairsOf ps = some kps → pairsOf (ps ++ [.tup [u, v]]) = some (kps ++ [(q, v)]) := by
  induction ps with
  | nil =>
    intro kps h
    cases Option.some.inj h
    show ((keyV u).map fun q => (q, v)).bind _ = _
    rw [hk]; rfl
  | cons p r ih =>
    intro kps h
    refine obind h fun q' hq h => omap (C := fun kps => pairsOf (p :: r ++ [.tup [u, v]]) = some (kps ++ [(q, v)])) h fun ks hks => ?_
    show (pairOf p).bind _ = _
    rw [hq]
    show (pairsOf (r ++ [.tup [u, v]])).map _ = _
    rw [ih hks]; rfl
theorem dset_length (q : K) (v : V) (es : List (K × V)) : (dset q v es).length ≤ es.length + 1 := by
  induction es with
  | nil => exact Nat.le_refl _
  | cons p r ih =>
    unfold dset
    by_cases h : q = p.1
    · rw [if_pos h]; exact Nat.le_succ _
    · rw [if_neg h]; exact Nat.succ_le_succ ih
theorem foldD_length (kps : List (K × V)) : (foldD kps).length ≤ kps.length := by
  have key : ∀ (l d : List (K × V)), (l.foldl (fun d p => dset p.1 p.2 d) d).length ≤ d.length + l.length := by
    intro l
    induction l with
    | nil => exact fun d => Nat.le_refl _
    | cons p r ih => exact fun d => Nat.le_trans (ih _) (Nat.le_trans (Nat.add_le_add_right (dset_length p.1 p.2 d) r.length) (Nat.le_of_eq (Nat.succ_add_eq_add_succ d.length r.length)))
  exact Nat.le_trans (key kps []) (Nat.le_of_eq (Nat.zero_add _))
theorem em_dict {c : Cx} {ke ve : Expr} {tk tv : E} (h : SE G c k T ke tk) (h' : SE G c k T ve tv) : EmOk G k T .d (emitD ke ve) fun m => (ev c m tk).bind fun kk => (keyV kk).bind fun _ => (ev c m tv).map fun vv => [.tup [kk, vv]] := fun {A env D Θ s m xs ys Q X} x hv hl hQ => by
  refine obind hv fun u hu hv => obind hv fun q hq hv => omap (C := fun ys => xs.length + ys.length ≤ big → (∀ s', CI G k T A env D .d Θ s' m (xs ++ ys) → Sk G Θ s Θ s' → Q () s') → _) hv (fun v hv hl hQ => ?_) hl hQ
  refine wpAny_bind (h x.at (x.av.ne _) hu fun y s₁ st ry => wpAny_bind (wpAny_holding (h' (x.st st).at (x.av.ne _) hv fun z s₂ st' rz => wpAny_bind (wpAny_standAt (wpAny_holding ?_)))))
  have x₂ := (x.st st).st st'
  have ry := ry.step st.inv st'
  cases hac : x₂.ac with | @dict ps kps ep lp rd =>
  cases rd with | @mk kvs pg ns of l rel =>
  have hlk : kvs.length ≤ xs.length := by rw [← rel.length, ← lp]; exact foldD_length kps
  refine wpAny_dictSet_pairs (knd := kk G.prog G.w) (ry.w.key hq) of (fun g hd hs => ?_) (Nat.le_trans l big_le)
  have hg : ∃ o, g.get? D = some o := by obtain ⟨o, _, _, e, _⟩ := hd; exact ⟨o, e⟩
  obtain ⟨sk, fa⟩ := x₂.fa.wrD (tk := s₂.toks + 1) x.acc (by obtain ⟨o, es, ep, e, hc, _⟩ := of; exact cls_rec e hc.1 rfl) hs hg
  have kw := keep_wr x.acc hs
  have e2 : foldD (kps ++ [(q, v)]) = dset q v (foldD kps) := List.foldl_append
  exact hQ _ ⟨fa, x.av, x.acc, .dict (pairs_snoc hq ep) (by rw [List.length_append, List.length_append, lp]; rfl) (e2 ▸ ⟨pg, ns, hd, Nat.le_trans (stored_length q z kvs) (Nat.le_trans (Nat.succ_le_succ hlk) hl), dset_at (rz.mono kw) (rel.imp fun _ _ => kv_mono kw) (dictOf_nodup of)⟩)⟩ ((Sk.of (st.trans st') x.fa.fr.ox).trans sk fa.fr.ox)
end
noncomputable def turnF (c : Cx) (m : Fr) (tg : Tg) (tifs : Es) (gs : Gs) (kf : Fr → Option (List V)) (x : V) : Option (List V) := (m.bindN tg x).bind fun m' => (evAnd c m' tifs).bind fun z => bif z then evGs c m' gs kf else some []
inductive SGs (G : Gd) (c : Cx) (k : Nat) (T : Tx) : List Comprehension → Gs → Prop
  | nil : SGs G c k T [] .nil
  | cons {t it : Expr} {ifs : List Expr} {r : List Comprehension} {tg : Tg} {ti : It} {tifs : Es} {gr : Gs} {tp : Expr → Prop} (ht : TgOk T t tg) (htp : tp t) (hi : SI G c k T tp it ti) (hfs : ∀ env x, foldedSetIterable it env x = pure x) (hif : SBl G c k T ifs tifs) (hr : SGs G c k T r gr) : SGs G c k T (⟨t, it, ifs, 0⟩ :: r) (.cons tg ti tifs gr)
theorem SGs.next {G : Gd} {c : Cx} {k : Nat} {T : Tx} {gens r : List Comprehension} {gs : Gs} {d : Nat} (h : SGs G c k T r gs) (e : gens.drop d = r) : NextG gens d := by
  have q : gens[d]? = r[0]? := by rw [← e, List.getElem?_drop]; rfl
  induction h with
  | nil => exact .none q
  | cons _ _ _ hfs => exact .some q hfs
theorem all_at {j : Nat} {sl : Slot} {is : List Nat} : ∀ {vs : List V} {m : Fr}, (∀ i ∈ is, i ≠ j) → m.at j = some sl → (bindAll m is vs).at j = some sl := by
  induction is with
  | nil => exact fun _ h => h
  | cons i is ih =>
    intro vs m hj h
    cases vs with
    | nil => exact h
    | cons v vs =>
      refine ih (vs := vs) (fun i hi => hj i (List.mem_cons_of_mem _ hi)) ?_
      show ((List.set m i _)[j]?).join = some sl
      rw [List.getElem?_set_ne (hj i (List.mem_cons_self ..))]
      exact h
theorem bindN_of {m m' : Fr} {t : Tg} {v : V} {C : Prop} (h : m.bindN t v = some m') (k : m.bind t v = some m' → (∀ j sl, m.at j = some sl → m'.at j = some sl) → C) : C := by
  unfold Fr.bindN at h
  cases q : t.ids.all fun i => (m.at i).isNone with
  | false => rw [q] at h; exact nos h
  | true =>
    rw [q] at h
    have h : m.bind t v = some m' := h
    have hn : ∀ j sl, m.at j = some sl → ∀ i ∈ t.ids, i ≠ j := fun j sl e i hi q' => by
      have := List.all_eq_true.mp q i hi
      rw [q', e] at this
      exact Bool.noConfusion this
    refine k h fun j sl e => ?_
    induction t with
    | one i => exact Option.some.inj h ▸ all_at (is := [i]) (vs := [v]) (hn j sl e) e
    | many is => exact obind h fun vs _ h => oif (C := fun m' => Fr.at m' j = some sl) h fun _ => all_at (hn j sl e) e
theorem FR.weak {G : Gd} {ow : List Str} {Θ : Th} {h : Heap} {env : Env} {m m' : Fr} (r : FR G ow Θ h env m') (hm : ∀ j sl, m.at j = some sl → m'.at j = some sl) : FR G ow Θ h env m :=
  ⟨r.loc, r.ns, r.ox, r.new, r.cel, r.fre, r.cells, fun x sl hx e => r.var x sl hx (hm _ _ e)⟩
structure ItC (G : Gd) (Ds : Addr → Prop) (wr : List Addr) (St : Nat → Heap → Prop) (t : Expr) (I : Addr) (items : List V) : Prop where
  frame : ∀ i h h', St i h → Kd Ds h h' → St i h'
  cls : ∀ i h, St i h → ∀ b ∈ wr, ∃ o, h.get? b = some o ∧ o.cls ≠ .type "code"
  tn : ∀ {A O}, A.handled = none → (∀ a, Ds a → a ∉ wr → ¬ O a) → Tn G A O t I wr items St
theorem ItC.liv {G : Gd} {Ds : Addr → Prop} {wr : List Addr} {St : Nat → Heap → Prop} {t : Expr} {I : Addr} {items : List V} (x : ItC G Ds wr St t I items) {i : Nat} {h : Heap} (st : St i h) : ∀ b ∈ wr, ∃ o, h.get? b = some o := fun b hb => by
  obtain ⟨o, e, _⟩ := x.cls i h st b hb
  exact ⟨o, e⟩
section
variable {G : Gd} {c : Cx} {k : Nat} {T : Tx} {A : Around} {env : Env} {D : Addr} {b : AK} {Θ Θ' Θ₀ : Th} {s s' s₀ : Shared} {m m' : Fr} {xs ys : List V} {X : Value → Shared → Prop}
  {e : Expr} {gens : List Comprehension} {emit : Addr → Env → Sem Unit} {kf : Fr → Option (List V)}
noncomputable def ActOk (G : Gd) (c : Cx) (k : Nat) (T : Tx) (e : Expr) (gens : List Comprehension) (emit : Addr → Env → Sem Unit) (b : AK) (kf : Fr → Option (List V)) (gs : Gs) (d : Nat) : Prop := ∀ {A : Around} {env : Env} {D : Addr} {Θ : Th} {s : Shared} {m : Fr} {xs ys : List V} {Q : Unit → Shared → Prop} {X : Value → Shared → Prop},
  CI G k T A env D b Θ s m xs → evGs c m gs kf = some ys → xs.length + ys.length ≤ big → (∀ s', CI G k T A env D b Θ s' m (xs ++ ys) → Sk G Θ s Θ s' → Q () s') → Inner (model G.prog G.w) A e gens (emit D env) d D env Q X s
theorem CI.weak (x : CI G k T A env D b Θ s m' xs) (av : AllV m) (hm : ∀ j sl, m.at j = some sl → m'.at j = some sl) : CI G k T A env D b Θ s m xs := ⟨⟨x.fa.room, x.fa.inv, x.fa.eo, x.fa.fr.weak hm⟩, av, x.acc, x.ac⟩
theorem drop_at {i : Nat} {x : V} (h : xs[i]? = some x) : xs.drop i = x :: xs.drop (i + 1) := by
  rw [List.drop_eq_getElem_cons (get_lt h)]
  exact congrArg (· :: _) (Option.some.inj ((List.getElem?_eq_getElem (get_lt h)).symm.trans h))
inductive Tw (G : Gd) (c : Cx) (k : Nat) (T : Tx) (A : Around) (env : Env) (D : Addr) (b : AK) (Θ₀ : Th) (s₀ : Shared) (wr : List Addr) (Ds : Addr → Prop) (St : Nat → Heap → Prop) (items : List V) (m : Fr) (f : V → Option (List V)) (zs : List V) (Θ : Th) (n : Nat) (s : Shared) : Prop
  | mk {i : Nat} {ac ys : List V} (hn : n = items.length - i) (hle : i ≤ items.length) (lp : Lp G Θ₀ s₀ wr Ds Θ s) (ci : CI G k T A env D b Θ s m ac) (hst : St i s.heap) (hf : fm f (items.drop i) = some ys) (hy : ac ++ ys = zs)
theorem comp_loop (he : CompE e gens emit) {d : Nat} {t iter : Expr} {ifs : List Expr} (hg : gens[d]? = some ⟨t, iter, ifs, 0⟩) (hn : NextG gens (d + 1)) {tg : Tg} (ht : TgOk T t tg) {tifs : Es} (hif : SBl G c k T ifs tifs) {gs : Gs} (act : ActOk G c k T e gens emit b kf gs (d + 1))
    {I : Addr} {wr : List Addr} {Ds : Addr → Prop} {items : List V} {St : Nat → Heap → Prop} (N : ItC G Ds wr St t I items) (i₀ : Inv G s₀) (ox₀ : OX G Θ₀.dom s₀.heap) (lp : Lp G Θ₀ s₀ wr Ds Θ s) (ci : CI G k T A env D b Θ s m xs) (hst : St 0 s.heap)
    (hf : fm (turnF c m tg tifs gs kf) items = some ys) (hl : xs.length + ys.length ≤ big) {R : Result → Shared → Prop} (hR : ∀ s', CI G k T A env D b (Θ.rem wr) s' m (xs ++ ys) → Sk G Θ₀ s₀ (Θ.rem wr) s' → R (.ok .next) s') :
    codeAny (model G.prog G.w) A (.compLoop e d (.ref I) (.ref D) env) R s := by
  refine codeAny_loop (he.quiet ..) (Tw G c k T A env D b Θ₀ s₀ wr Ds St items m (turnF c m tg tifs gs kf) (xs ++ ys) Θ) ?_ (items.length - 0)
    (.mk rfl (Nat.zero_le _) lp ci hst hf rfl)
  intro n s I
  cases I with | @mk i ac ys' hnn hle lp ci hst hf' hy =>
  subst hnn
  rw [he.underL, he.loop]
  refine wpAny_noted (he.turn hg hn ?_)
  have hh := ci.fa.room.handled
  cases hx : items[i]? with
  | none =>
    have hi : i = items.length := Nat.le_antisymm hle (List.getElem?_eq_none_iff.mp hx)
    rw [hi, List.drop_length] at hf'
    cases Option.some.inj hf'
    refine (N.tn hh lp.dd).done (hi ▸ hst) fun h' tk kw => ⟨fun _ => ?_, fun y e => nos e⟩
    obtain ⟨sk, fa⟩ := lp.leave i₀ ox₀ ci.fa kw (lp.inv i₀ ⟨kw, N.cls i _ hst⟩ tk)
    rw [List.append_nil] at hy
    exact hR _ (hy ▸ ci.ex (lp.exR i₀ kw) fa) sk
  | some x =>
    rw [drop_at hx] at hf'
    refine obind hf' fun zs hz hf' => omap (C := fun ys' => ac ++ ys' = xs ++ ys → _) hf' (fun ys'' hf'' hy => ?_) hy
    refine wpAny_mono ((N.tn hh lp.dd).turn hx hst ci.fa.fr.ox fun y h' tk st' kw vr => ?_) (fun r s₁ h => by obtain ⟨y, e, h⟩ := h; exact ⟨fun e' => nos (e'.symm.trans e), fun y' e' => Option.some.inj (e.symm.trans e') ▸ h⟩) fun _ _ x => x
    obtain ⟨lp₂, fa₂⟩ := lp.turn i₀ ci.fa ⟨kw, N.cls i _ hst⟩ (N.liv st') tk
    have ci₂ := ci.ex (s' := { s with heap := h', toks := tk }) (lp.exT i₀ kw) fa₂
    refine obind (o := m.bindN tg x) hz fun m' hb hz => obind hz fun z hz0 hz => bindN_of hb fun hb hm => ?_
    refine assign_any ht fa₂ vr hb fun s₃ bd => ?_
    have ci₃ := ci₂.bd bd (ci.av.bind hb)
    have lp₃ := lp₂.step bd.sk bd.fa.fr.ox
    have st₃ := N.frame _ _ _ st' (lp₂.kd bd.sk)
    refine tests_any ci₃.av hif ci₃.at hz0 fun s₄ st => ?_
    have ci₄ := ci₃.st st
    have sk₄ := Sk.of st ci₃.fa.fr.ox
    have lp₄ := lp₃.step sk₄ ci₄.fa.fr.ox
    have st₄ := N.frame _ _ _ st₃ (lp₃.kd sk₄)
    have back : ∀ s', CI G k T A env D b Θ s' m' (ac ++ zs) → Sk G Θ s₄ Θ s' → Tw G c k T A env D b Θ₀ s₀ wr Ds St items m (turnF c m tg tifs gs kf) (xs ++ ys) Θ (items.length - (i + 1)) s' := fun s' q1 q2 =>
      .mk rfl (get_lt hx) (lp₄.step q2 q1.fa.fr.ox) (q1.weak ci.av hm) (N.frame _ _ _ st₄ (lp₄.kd q2)) hf'' ((List.append_assoc ..).trans hy)
    have lt : items.length - (i + 1) < items.length - i := Nat.sub_lt_sub_left (get_lt hx) (Nat.lt_succ_self i)
    refine ⟨fun hz' => ?_, fun hz' => ?_⟩
    · subst hz'
      cases Option.some.inj hz
      exact ⟨rfl, _, lt, back s₄ ((List.append_nil ac).symm ▸ ci₄) (Sk.of (.refl ci₄.fa.inv) ci₄.fa.fr.ox)⟩
    · subst hz'
      exact act ci₄ hz (by have := congrArg List.length hy; rw [List.length_append, List.length_append, List.length_append] at this; lia) fun s' q1 q2 => ⟨rfl, _, lt, back s' q1 q2⟩
theorem comp_start (he : CompE e gens emit) {d : Nat} {t iter : Expr} {ifs : List Expr} (hg : gens[d]? = some ⟨t, iter, ifs, 0⟩) {it acc : Value} {R : Result → Shared → Prop} (h0 : codeAny (model G.prog G.w) A (.compLoop e d it acc env) R s)
    (hi : ∀ {Q E : Value → Shared → Prop}, Q it s → wpAny (model G.prog G.w) A (pyIter it) Q E s) : codeAny (model G.prog G.w) A (.compStart e d it acc env) R s := by
  refine codeAny_of_tree ?_
  have hq := he.quiet d it acc env
  rw [he.underS, he.start]
  refine wpAny_notedAt ?_
  unfold compStart
  rw [he.clauses, hg]
  show wpAny _ _ (ask >>= _) _ _ s
  refine wpAny_bind (wpAny_askSetting (wpAny_ite ?_))
  split
  · exact wpAny_bind (wpAny_pure (wpAny_pure (And.intro hq h0)))
  · exact wpAny_bind (wpAny_rule (wpAny_bind (wpAny_standAt (wpAny_bind (hi (wpAny_pure (And.intro hq h0)))))))
end
theorem mark_room {A : Around} {k : Nat} (h : Room A k) : Room (A.mark none) k := ⟨h.depth, h.units, by show (none : Option Value).or A.handled = none; rw [h.handled]; rfl⟩
theorem HasIt.itc {G : Gd} {O₀ : Addr → Prop} {tp : Expr → Prop} {s₀ s₂ : Shared} {xs : List V} {it : Value} (x : HasIt G O₀ tp s₀ s₂ xs it) {t : Expr} (ht : tp t) {C : Prop}
    (k : ∀ (I : Addr) (wr : List Addr) (St : Nat → Heap → Prop), it = .ref I → (∀ b ∈ wr, s₀.heap.get? b = none ∧ ∃ o, s₂.heap.get? b = some o) → St 0 s₂.heap → ItC G (Dn G O₀ s₂) wr St t I xs → C) : C := by
  induction x with | mk new st0 fr cls tn => exact k _ _ _ rfl new st0 ⟨fr, cls, fun hh hD => tn hh ht hD⟩
section
variable {G : Gd} {c : Cx} {k : Nat} {T : Tx} {A : Around} {env : Env} {D : Addr} {b : AK} {Θ : Th} {s s' : Shared} {m : Fr} {xs : List V}
  {e : Expr} {gens : List Comprehension} {emit : Addr → Env → Sem Unit} {kf : Fr → Option (List V)}
theorem act_emit (em : EmOk G k T b emit kf) {d : Nat} (hd : gens[d]? = none) : ActOk G c k T e gens emit b kf .nil d := fun ci hv hl hQ => ⟨fun _ => em ci hv hl hQ, fun _ _ _ h => nos (hd.symm.trans h)⟩
theorem act_iter (he : CompE e gens emit) {d : Nat} {t iter : Expr} {ifs : List Expr} (hg : gens[d]? = some ⟨t, iter, ifs, 0⟩) (hn : NextG gens (d + 1)) {tg : Tg} (ht : TgOk T t tg) {tp : Expr → Prop} (htp : tp t) {ti : It} (hi : SI G c k T tp iter ti) {tifs : Es} (hif : SBl G c k T ifs tifs) {gs : Gs} (act : ActOk G c k T e gens emit b kf gs (d + 1)) :
    ActOk G c k T e gens emit b kf (.cons tg ti tifs gs) d := fun {A env D Θ s m xs ys Q X} ci hv hl hQ => by
  refine ⟨fun h => nos (h.symm.trans hg), fun t' it' ifs' h => ?_⟩
  cases Option.some.inj (hg.symm.trans h)
  refine obind hv fun items hit hv => hi ci.at (ci.av.ne _) hit fun it s₁ s₂ st1 st2 hh => hh.itc htp fun I wr St eI new st0 N => ?_
  subst eI
  have st := st1.trans st2
  obtain ⟨lp, fa⟩ := Lp.start ci.fa st rfl new
  have nw : ∀ a w, Θ a = some w → a ∉ wr := fun a w t q => by
    obtain ⟨_, o, e⟩ := ci.fa.fr.ox a ⟨w, t⟩
    exact nos ((new a q).1.symm.trans e)
  have n := itTh_new new
  have ci₂ := ci.ex (n.ex ci.fa.inv st ci.fa.fr.ox) fa
  have ci₃ : CI G k T (A.mark none) env D b _ s₂ m xs := ⟨⟨mark_room fa.room, fa.inv, fa.eo, fa.fr⟩, ci₂.av, ci₂.acc, ci₂.ac⟩
  refine wpAny_runOwn (comp_start he hg (comp_loop he hg hn ht hif act N ci.fa.inv ci.fa.fr.ox lp ci₃ st0 hv hl fun s' q1 q2 => ?_) fun hQ => (N.tn ci₃.fa.room.handled lp.dd).self st0 hQ)
  rw [itTh_rem nw] at q1 q2
  exact hQ s' ⟨⟨ci.fa.room, q1.fa.inv, q1.fa.eo, q1.fa.fr⟩, q1.av, q1.acc, q1.ac⟩ q2
theorem act_all (he : CompE e gens emit) (em : EmOk G k T b emit kf) {r : List Comprehension} {gs : Gs} (h : SGs G c k T r gs) : ∀ {d : Nat}, gens.drop d = r → ActOk G c k T e gens emit b kf gs d := by
  induction h with
  | nil => exact fun hd => act_emit em (List.getElem?_eq_none (List.drop_eq_nil_iff.mp hd))
  | @cons t it ifs r tg ti tifs gr tp ht htp hi hfs hif hr ih =>
    intro d hd
    have q : gens[d]? = some ⟨t, it, ifs, 0⟩ := by
      have := congrArg (·[0]?) hd
      rw [List.getElem?_drop] at this
      exact this
    have hd' : gens.drop (d + 1) = r := by rw [← List.tail_drop, hd]; rfl
    intro A env D Θ s m xs ys Q X
    exact act_iter he q (hr.next hd') ht htp hi hif (ih hd')
end
noncomputable def Tx.inner (T : Tx) (sc : Scope) : Tx := { T with sg := sig sc, cf := cfOf sc, ow := owOf sc }
noncomputable def compB (O : Addr → Prop) (D : Addr) (N : Nat) (wr : List Addr) : Th := open Classical in fun b => if O b then some .out else bif b == D then some (.slot N) else bif wr.contains b then some .it else none
theorem compB_cases {O : Addr → Prop} {D : Addr} {N : Nat} {wr : List Addr} {b : Addr} {w : Owner} {C : Prop} (t : compB O D N wr b = some w) (h1 : O b → w = .out → C) (h2 : b = D → w = .slot N → C) (h3 : b ∈ wr → w = .it → C) : C := by
  unfold compB at t
  by_cases h : O b
  · rw [if_pos h] at t; exact h1 h (Option.some.inj t).symm
  · rw [if_neg h] at t
    cases q : b == D with
    | true => rw [q] at t; exact h2 (eq_of_beq q) (Option.some.inj t).symm
    | false =>
      rw [q] at t
      cases q' : wr.contains b with
      | true => rw [q'] at t; exact h3 (List.contains_iff_mem.mp q') (Option.some.inj t).symm
      | false => rw [q'] at t; exact nos t
theorem new_env_comp {M : Model} {A : Around} {X : Value → Shared → Prop} {s : Shared} {sc : Scope} {cl : List (Str × Addr)} {env : Env} {Q : Env → Shared → Prop}
    (h : Q ⟨sc, s.heap.objs.size, env.globals, cellsFrom (s.heap.push { cls := .type "dict", data := .dict #[] }).objs.size sc.names cl, env.qual, none, env.code, env.frame, env.builtins⟩ { s with heap := pushCells (s.heap.push { cls := .type "dict", data := .dict #[] }) sc.names }) :
    wpAny M A (newFunctionEnv sc env.globals cl [] env.qual none .none (some env)) Q X s := by
  unfold newFunctionEnv
  refine wpAny_bind (wpAny_alloc (wpAny_bind (wpAny_layCells _ (fun name kind cells => rfl) _ _ _ _ (wpAny_bind ?_))))
  rw [List.forIn_nil]
  exact wpAny_pure (wpAny_pure h)
section
variable {G : Gd} {k : Nat} {T : Tx} {A : Around} {env cenv : Env} {D : Addr} {s s₃ : Shared} {m : Fr} {O : Addr → Prop} {sc : Scope} {wr : List Addr}
theorem comp_eo (a : At G k T A env m O s) (S : ScOk T.cf sc) (hsc : cenv.scope = relabel sc env) (h1 : cenv.globals = env.globals) (h2 : cenv.builtins = env.builtins) (h3 : cenv.code = env.code) : EnvOk G (T.inner sc) cenv := by
  have lk : ∀ x, cenv.kindOf x = (sc.names.lookup x).map (reK env x) := fun x => by unfold Env.kindOf; rw [hsc]; exact relabel_lookup sc env x
  have kin : ∀ x k0, (x, k0) ∈ sc.names → cenv.kindOf x = some (reK env x k0) := fun x k0 h => (lk x).trans (by rw [lookup_of S.nd h]; rfl)
  refine ⟨hsc ▸ S.kind, hsc ▸ relabel_sig sc env, h1.trans a.eo.glob, h2.trans a.eo.bts, fun x hx => ?_, fun x h => ?_, fun h => h3 ▸ a.eo.code h, fun x ho => ?_⟩
  · rcases mem_cfOf.mp hx with q | q
    · exact .inl (kin x _ q)
    · rw [kin x _ q]
      exact (reK_cases env x .free).elim (fun e => .inr (congrArg some e)) fun e => .inl (congrArg some e.2)
  · refine omap (C := fun k => k = NameKind.globalExplicit → False) ((lk x).symm.trans h) (fun k0 hk0 e => ?_) rfl
    have hm := lookup_mem hk0
    rcases reK_cases env x k0 with q | q
    · exact S.nx _ hm (q.symm.trans e)
    · exact NameKind.noConfusion (q.2.symm.trans e)
  · rcases mem_owOf.mp ho with q | q
    · exact .inl (kin x _ q)
    · exact .inr (kin x _ q)
theorem comp_frame (a : At G k T A env m O s) (st : St G s s₃) (S : ScOk T.cf sc) (ne : NE m ((capOf (sig sc) T.sg (freeIn sc)).map (·.2))) (hw : ∀ b ∈ wr, s.heap.get? b = none ∧ ∃ o, s₃.heap.get? b = some o) (hD : s.heap.get? D = none ∧ ∃ o, s₃.heap.get? D = some o)
    (hsc : cenv.scope = relabel sc env) (hl : cenv.locals = s₃.heap.objs.size) (hc : cenv.cells = cellsFrom (s₃.heap.push { cls := .type "dict", data := .dict #[] }).objs.size sc.names (clFrom env sc.names [])) :
    NewF G sc (compB O D sc.names.length wr) s₃ ((compB O D sc.names.length wr).new s₃.heap.objs.size sc.names (sig sc) cenv.cells) cenv (m.capture noF (capOf (sig sc) T.sg (freeIn sc)) sc.names.length) (pushCells (s₃.heap.push { cls := .type "dict", data := .dict #[] }) sc.names) := by
  have lk : ∀ x, cenv.kindOf x = (sc.names.lookup x).map (reK env x) := fun x => by unfold Env.kindOf; rw [hsc]; exact relabel_lookup sc env x
  have ox := a.er.ox.step st
  have B0 : ∀ b o, s.heap.get? b = some o → (compB O D sc.names.length wr).dom b → O b := fun b o e d => by
    obtain ⟨w, t⟩ := d
    exact compB_cases t (fun q _ => q) (fun q _ => nos ((q ▸ hD.1).symm.trans e)) fun q _ => nos ((hw b q).1.symm.trans e)
  have kp : Keep O (compB O D sc.names.length wr).dom s.heap s₃.heap := fun b o e c no => ⟨fun d => no (B0 b o e d), st.kp b o (a.inv.notTab e c) e⟩
  refine new_frame st.inv S.nd (fun b d => ?_) (fun b q => ?_) rfl (Heap.Ns.new s₃.heap (.type "dict")) (fun x hx => ?_) hl hc (hsc ▸ relabel_sig sc env) (fun x hx => ?_) (fun x hx => ?_) fun j sl hj => ?_
  · obtain ⟨w, t⟩ := d
    exact compB_cases t (fun q _ => ox b q) (fun q _ => q ▸ ⟨a.inv.freshNotTab hD.1, hD.2⟩) fun q _ => ⟨a.inv.freshNotTab (hw b q).1, (hw b q).2⟩
  · obtain ⟨w, t, n⟩ := q
    exact compB_cases t (fun _ q => absurd q n) (fun q _ => a.inv.new (q ▸ hD.1)) fun q _ => a.inv.new (hw b q).1
  · have hk := a.eo.cf x (S.free x hx)
    cases a.er.cel x hk with | @mk c v e nt hv =>
    obtain ⟨o, g, _⟩ := id hv
    refine ⟨c, v, cl_free hx e, nt, fun q => ?_, cell_kp hv fun o => st.kp c o nt⟩
    obtain ⟨w, t, n⟩ := q
    exact compB_cases t (fun _ q => n q) (fun q _ => nos ((q ▸ hD.1).symm.trans g)) fun q _ => nos ((hw c q).1.symm.trans g)
  · have key : ∀ k', cenv.kindOf x = some k' → k' = .cell ∨ k' = .free → (x, NameKind.cell) ∈ sc.names ∨ x ∈ freeIn sc := fun k' h hk' => omap (C := fun (k' : NameKind) => k' = .cell ∨ k' = .free → (x, NameKind.cell) ∈ sc.names ∨ x ∈ freeIn sc) ((lk x).symm.trans h) (fun k0 hk0 hk' => by
      have hm := lookup_mem hk0
      rcases reK_cases env x k0 with q | q
      · rw [q] at hk'
        exact hk'.imp (fun (e : k0 = .cell) => e ▸ hm) fun (e : k0 = .free) => mem_freeIn.mpr (e ▸ hm)
      · exact .inr (mem_freeIn.mpr (q.1 ▸ hm))) hk'
    exact hx.elim (fun h => key _ h (.inl rfl)) fun h => key _ h (.inr rfl)
  · have q : cenv.kindOf x = some (reK env x .free) := (lk x).trans (by rw [lookup_of S.nd (mem_freeIn.mp hx)]; rfl)
    rw [q]
    exact (reK_cases env x .free).elim (fun e => .inr (congrArg some e)) fun e => .inl (congrArg some e.2)
  · refine captured hj fun x hx e1 e2 hcl => ⟨x, hx, e1, ?_⟩
    have hk := a.eo.cf x (S.free x hx)
    have hno := cap_ne ne hx e2
    rw [← a.eo.sg] at e2
    obtain ⟨y, vi, sr⟩ := a.er.var x sl (hk.elim (fun h => kind_isVar h rfl) fun h => kind_isVar h rfl) e2
    have vc : ∃ c, env.cells.lookup x = some c ∧ ¬ G.Tab c ∧ s.heap.IsCell c (some y) := by
      cases vi with
      | loc h => exact hk.elim (fun h' => NameKind.noConfusion (Option.some.inj (h.symm.trans h'))) fun h' => NameKind.noConfusion (Option.some.inj (h.symm.trans h'))
      | cel _ hc nt hv => exact ⟨_, hc, nt, hv⟩
    obtain ⟨c, ec, nt, hv⟩ := vc
    refine ⟨c, y, cl_free hx ec, cell_kp hv fun o => st.kp c o nt, ?_⟩
    cases sr with
    | v r => exact ⟨.v (r.mono kp), fun a e => no_has rfl e⟩
    | ol => exact Bool.noConfusion hno
    | oll => exact Bool.noConfusion hno
    | od => exact Bool.noConfusion hno
    | clo => exact Bool.noConfusion (hcl _ rfl)
end
noncomputable def outs (O : Addr → Prop) : Th := open Classical in fun a => if O a then some .out else none
theorem outs_of {O : Addr → Prop} {a : Addr} (h : O a) : outs O a = some .out := if_pos h
theorem outs_some {O : Addr → Prop} {a : Addr} {w : Owner} (t : outs O a = some w) : O a ∧ w = .out := by
  unfold outs at t
  by_cases h : O a
  · rw [if_pos h] at t; exact ⟨h, (Option.some.inj t).symm⟩
  · rw [if_neg h] at t; exact nos t
theorem outs_mine {O : Addr → Prop} {a : Addr} : ¬ (outs O).mine a := fun q => by obtain ⟨w, t, n⟩ := q; exact n (outs_some t).2
theorem outs_dom {O : Addr → Prop} {a : Addr} (h : (outs O).dom a) : O a := by obtain ⟨w, t⟩ := h; exact (outs_some t).1
structure CDone (G : Gd) (O : Addr → Prop) (s : Shared) (C D : Addr) (b : AK) (xs : List V) (s' : Shared) : Prop where
  st : St G s s'
  ns : ∃ mm, s'.heap.Ns C mm
  nC : s.heap.get? C = none
  nD : Above s.heap D
  ne : D ≠ C
  ac : Ac G (fun a => O a ∨ a = D ∨ a = C) s'.heap D b xs
noncomputable def NewAc (G : Gd) (b : AK) (newAcc : Sem Value) : Prop := ∀ {A : Around} {s : Shared} {Q X : Value → Shared → Prop}, Inv G s → (∀ o, o.isFreed = false → (∀ O, Ac G O (s.heap.push o) s.heap.objs.size b []) → Q (.ref s.heap.objs.size) { s with heap := s.heap.push o }) → wpAny (model G.prog G.w) A newAcc Q X s
theorem newAc_list {G : Gd} : NewAc G .l (newList []) := fun i h => wpAny_newObj_type (h _ rfl fun O => .list ⟨Heap.get?_push_size _ rfl, Nat.zero_le _, .nil⟩) (fits (ws := []) (Nat.zero_le _))
theorem newAc_rows {G : Gd} : NewAc G .r (newList []) := fun i h => wpAny_newObj_type (h _ rfl fun O => .rows ⟨Heap.get?_push_size _ rfl, Nat.zero_le _, .nil⟩ ⟨[], _, Heap.get?_push_size _ rfl, .nil, fun w hw => absurd hw List.not_mem_nil⟩) (fits (ws := []) (Nat.zero_le _))
theorem newAc_dict {G : Gd} : NewAc G .d newDict := fun i h => by
  unfold newDict newObj
  exact wpAny_bind (wpAny_alloc (wpAny_pure (h _ rfl fun O => .dict rfl rfl ⟨i.fresh _ (get_size _), notSys i, Heap.DictOf.new _, Nat.zero_le _, .nil⟩)))
section
variable {G : Gd} {c : Cx} {k : Nat} {T : Tx} {A : Around} {env : Env} {D : Addr} {b : AK} {s : Shared} {m : Fr} {O : Addr → Prop} {sc : Scope} {xs : List V}
  {e : Expr} {emit : Addr → Env → Sem Unit} {kf : Fr → Option (List V)} {t it : Expr} {ifs : List Expr} {r : List Comprehension} {tg : Tg} {ti : It} {tifs : Es} {gs : Gs} {tp : Expr → Prop}
structure GsOk (G : Gd) (c : Cx) (k : Nat) (T : Tx) (sc : Scope) (t it : Expr) (ifs : List Expr) (r : List Comprehension) (tg : Tg) (ti : It) (tifs : Es) (gs : Gs) (tp : Expr → Prop) : Prop where
  ok : scOk T.cf sc = true
  ht : TgOk (T.inner sc) t tg
  htp : tp t
  hi : SI G c k T tp it ti
  fs : ∀ env x, foldedSetIterable it env x = pure x
  hif : SBl G c k (T.inner sc) ifs tifs
  hr : SGs G c k (T.inner sc) r gs
theorem comp_any (he : CompE e (⟨t, it, ifs, 0⟩ :: r) emit) (g : GsOk G c k T sc t it ifs r tg ti tifs gs tp) (em : EmOk G k (T.inner sc) b emit kf) {newAcc : Sem Value} (ha : NewAc G b newAcc) {pos : Pos} (a : At G k T A env m O s) (n1 : NE m (escIt ti)) (n2 : NE m ((capOf (sig sc) T.sg (freeIn sc)).map (·.2)))
    (hx : evG1 c m (m.capture noF (capOf (sig sc) T.sg (freeIn sc)) sc.names.length) (.cons tg ti tifs gs) kf = some xs) (hl : xs.length ≤ big) {use : Option (Value → Sem Unit)} {Q X : Value → Shared → Prop}
    (fin : ∀ C D s', CDone G O s C D b xs s' → compPost (model G.prog G.w) A X use Q (.ref D) C (.ok .next) s') : wpAny (model G.prog G.w) A (comprehension e sc env pos newAcc false (eval it env) use) Q X s := by
  have S := scOk_of g.ok
  have hclos := closureFor_eq (scope := sc) (env := env) fun x hx => by
    cases a.er.cel x (a.eo.cf x (S.free x hx)) with | mk e => exact ⟨_, e⟩
  refine obind hx fun items hit hx => wpAny_comprehension_free he.clauses (g.fs env) hclos S.kind (fun x hx hk => lookup_of S.nd (show (x.1, NameKind.local) ∈ sc.names from hk ▸ hx)) (g.hi a n1 hit fun it s₁ s₂ st1 st2 hh => hh.itc g.htp fun I wr Si eI new st0 N => ?_)
  subst eI
  have st := st1.trans st2
  refine ha st.inv fun o hf hac => new_env_comp ?_
  have st3 := St.push st.inv o s₂.toks
  have st13 := st.trans st3
  have hD0 : s₂.heap.get? s₂.heap.objs.size = none := get_size _
  have hD := st.fresh st.inv hD0
  generalize hs3 : ({ s₂ with heap := s₂.heap.push o } : Shared) = s₃
  have e3 : s₃.heap = s₂.heap.push o := hs3 ▸ rfl
  have st3 : St G s₂ s₃ := hs3 ▸ st3
  have st13 := st.trans st3
  have keep4 : ∀ b o', s₃.heap.get? b = some o' → (pushCells (s₃.heap.push { cls := .type "dict", data := .dict #[] }) sc.names).get? b = some o' := fun b o' e => pushCells_keeps _ _ b o' (Heap.get?_push_of_some _ e)
  have st4 := St.keeps st3.inv keep4 s₃.toks
  have hD3 : s₃.heap.get? s₂.heap.objs.size = some o := e3 ▸ Heap.get?_push_size _ hf
  have nf := comp_frame (cenv := ⟨relabel sc env, s₃.heap.objs.size, env.globals, cellsFrom (s₃.heap.push { cls := .type "dict", data := .dict #[] }).objs.size sc.names (clFrom env sc.names []), env.qual, none, env.code, env.frame, env.builtins⟩) (D := s₂.heap.objs.size) (wr := wr) a st13 S n2
    (fun b hb => ⟨(new b hb).1, by obtain ⟨o', e⟩ := (new b hb).2; exact ⟨o', st3.kp b o' (a.inv.freshNotTab (new b hb).1) e⟩⟩) ⟨hD, o, hD3⟩ rfl rfl rfl
  have eo := comp_eo (cenv := ⟨relabel sc env, s₃.heap.objs.size, env.globals, cellsFrom (s₃.heap.push { cls := .type "dict", data := .dict #[] }).objs.size sc.names (clFrom env sc.names []), env.qual, none, env.code, env.frame, env.builtins⟩) a S rfl rfl rfl rfl
  have hsig : (sig (relabel sc env)).length = sc.names.length := by rw [relabel_sig]; exact List.length_map ..
  have noD : ¬ O s₂.heap.objs.size := a.er.ox.new hD
  have noW : ∀ b ∈ wr, ¬ O b := fun b hb => a.er.ox.new (new b hb).1
  have neW : ∀ b ∈ wr, (b == s₂.heap.objs.size) = false := fun b hb => beq_no fun q => by obtain ⟨o', e⟩ := (new b hb).2; exact nos ((hD0.symm.trans (q ▸ e)))
  have bD : compB O s₂.heap.objs.size sc.names.length wr s₂.heap.objs.size = some (.slot sc.names.length) := by unfold compB; rw [if_neg noD, beq_self_eq_true]; rfl
  have bW : ∀ b ∈ wr, compB O s₂.heap.objs.size sc.names.length wr b = some .it := fun b hb => by unfold compB; rw [if_neg (noW b hb), neW b hb, List.contains_iff_mem.mpr hb]; rfl
  have bO : ∀ b, O b → compB O s₂.heap.objs.size sc.names.length wr b = some .out := fun b hb => if_pos hb
  generalize (compB O s₂.heap.objs.size sc.names.length wr).new s₃.heap.objs.size sc.names (sig sc) _ = Θ at nf
  have tD := nf.bb _ _ bD
  have nsW : ∀ b, s.heap.get? b = none → s.heap.get? b = none := fun _ h => h
  have Bc : ∀ {b} {C : Prop}, Θ.dom b → (O b → C) → (b = s₂.heap.objs.size → C) → (b ∈ wr → C) → (s₃.heap.get? b = none → C) → C := fun d h1 h2 h3 h4 => (nf.dom _ d).elim (fun d => by obtain ⟨w, t⟩ := d; exact compB_cases t (fun q _ => h1 q) (fun q _ => h2 q) fun q _ => h3 q) h4
  have ci : CI G k (T.inner sc) A _ s₂.heap.objs.size b Θ { s₃ with heap := pushCells (s₃.heap.push { cls := .type "dict", data := .dict #[] }) sc.names } _ [] :=
    ⟨⟨a.room, st4.inv, eo, nf.fr⟩, fun j sl hj => captured hj fun x hx _ e2 _ => cap_ne n2 hx e2, tD.trans (congrArg (fun n => some (Owner.slot n)) hsig.symm), (e3 ▸ hac Θ.dom : Ac G Θ.dom s₃.heap s₂.heap.objs.size b []).map (st4.vk st3.inv) fun o' => keep4 _ o'⟩
  have lp : Lp G (outs O) s wr (Dn G O s₂) Θ { s₃ with heap := pushCells (s₃.heap.push { cls := .type "dict", data := .dict #[] }) sc.names } :=
    ⟨⟨st4.inv, fun b o nt _ e => (st13.trans st4).kp b o nt e, fun b => ⟨fun t => nf.bb _ _ (bO b (outs_some t).1), fun t => outs_of (compB_cases (nf.out b t) (fun q _ => q) (fun _ q => Owner.noConfusion q) fun _ q => Owner.noConfusion q)⟩,
      fun b d => Bc d (fun q => .inl ⟨_, outs_of q⟩) (fun q => .inr (q ▸ hD)) (fun q => .inr (new b q).1) fun q => .inr (st13.fresh st13.inv q), fun b q => absurd q outs_mine, (st13.trans st4).tb, fun b t => Owner.noConfusion (outs_some t).2⟩,
      fun b hb => nf.bb _ _ (bW b hb), fun b q hw d => by
        obtain ⟨q1, q2, o', e⟩ := q
        exact Bc d q1 (fun q => nos (hD0.symm.trans (q ▸ e))) hw fun q => nos (q.symm.trans (st3.kp b o' q2 e)), fun b q => by
        obtain ⟨_, q2, o', e⟩ := q
        exact ⟨q2, o', keep4 _ _ (st3.kp b o' q2 e)⟩, fun b hb => (new b hb).1⟩
  have st04 := N.frame 0 _ (pushCells (s₃.heap.push { cls := .type "dict", data := .dict #[] }) sc.names) st0 fun b o' q e => keep4 _ _ (st3.kp b o' q.2.1 e)
  refine comp_start he rfl (comp_loop (Θ₀ := outs O) he (d := 0) rfl (g.hr.next rfl) g.ht g.hif (act_all he em g.hr rfl) N a.inv (fun b d => a.er.ox b (outs_dom d)) lp ci st04 hx (Nat.le_trans (Nat.le_of_eq (Nat.zero_add _)) hl) fun s' q1 q2 => ?_) fun hQ => (N.tn a.room.handled lp.dd).self st04 hQ
  have tL := q1.fa.fr.loc
  refine fin _ _ s' ⟨⟨q2.inv, fun b o nt e => q2.kp b o nt outs_mine e, q2.tb⟩, q1.fa.fr.ns, st13.fresh st13.inv (get_size _), st.above (above_size _), Nat.ne_of_lt (Heap.lt_size hD3), q1.ac.map (fun a o _ _ no => ⟨fun h => no ?_, ‹_›⟩) fun _ e => e⟩
  rcases h with h | h | h
  · exact ⟨_, (q2.out a).mp (outs_of h)⟩
  · exact ⟨_, h ▸ q1.acc⟩
  · exact ⟨_, h ▸ tL⟩
inductive AcV (G : Gd) : AK → List V → V → Prop
  | list {xs : List V} : AcV G .l xs (.list xs)
  | rows {xs : List V} : AcV G .r xs (.list xs)
  | dict {ps : List V} {kps : List (K × V)} (e : pairsOf ps = some kps) : AcV G .d ps (.dict G.gen (foldD kps))
theorem Ac.own {O' : Addr → Prop} {h : Heap} {b : AK} {v : V} (x : Ac G O' h D b xs) (k : Keep O' (fun a => O a ∨ a = D) h h) (hv : AcV G b xs v) {s s' : Shared} (hs : s'.heap = h) (f : Above s.heap D) : Own G O s s' v (.ref D) := by
  subst hs
  induction hv with
  | list => cases x with | list r => exact .l f (r.mono k fun o e _ => e)
  | rows => cases x with | rows r => exact .l f (r.mono k fun o e _ => e)
  | dict e => cases x with | dict e' _ r => cases Option.some.inj (e.symm.trans e'); exact .d f.none (r.mono k fun o e _ => e)
theorem CDone.own {C : Addr} {s s' : Shared} (i : Inv G s) (x : CDone G O s C D b xs s') {v : V} (hv : AcV G b xs v) {h' : Heap} (hs : Heap.SameBut C s'.heap h') : St G s { s' with heap := h' } ∧ Own G O s { s' with heap := h' } v (.ref D) := by
  obtain ⟨mm, ns⟩ := x.ns
  refine ⟨x.st.butNew (W := fun b => b = C) i (fun b e => e ▸ x.nC) (fun b e => e ▸ ns_rec ns) (fun b o n e => hs.extBut b o n e) s'.toks, ?_⟩
  exact (x.ac.map (O' := fun a => O a ∨ a = D ∨ a = C) (fun a o e _ no => ⟨no, hs.extBut a o (fun q => no (.inr (.inr q))) e⟩) fun o e => hs.extBut _ o x.ne e).own (fun a o e _ no => ⟨fun h => no (h.imp_right .inl), e⟩) hv rfl x.nD
theorem seo_lcomp {elt : Expr} {te : E} {pos : Pos} {cap : List (Nat × Nat)} {n : Nat} (hc : capOf (sig sc) T.sg (freeIn sc) = cap) (hn : sc.names.length = n) (g : GsOk G c k T sc t it ifs r tg ti tifs gs tp) (h : SE G c k (T.inner sc) elt te) :
    SEo G c k T (.ListComp elt (⟨t, it, ifs, 0⟩ :: r) sc pos) (.lcomp te (.cons tg ti tifs gs) cap n) := fun {A env m s O v Q X} a ne hv hQ => by
  subst hc hn
  refine obind hv fun xs hx hv => oif (C := fun v => KO G O s v Q → _) hv (fun hl hQ => ?_) hQ
  refine comp_any compE_list g (em_list h) newAc_list a ne.l ne.r hx hl fun C D s' cd => ?_
  obtain ⟨mm, ns⟩ := cd.ns
  exact ⟨mm, ns, fun h' hs => hQ _ _ (cd.own a.inv .list hs).1 (cd.own a.inv .list hs).2⟩
theorem seo_dcomp {ke ve : Expr} {tk tv : E} {pos : Pos} {cap : List (Nat × Nat)} {n : Nat} (bs : Bs G c k T) (hc : capOf (sig sc) T.sg (freeIn sc) = cap) (hn : sc.names.length = n) (g : GsOk G c k T sc t it ifs r tg ti tifs gs tp) (h : SE G c k (T.inner sc) ke tk) (h' : SE G c k (T.inner sc) ve tv) :
    SEo G c k T (.DictComp ke ve (⟨t, it, ifs, 0⟩ :: r) sc pos) (.dcomp tk tv (.cons tg ti tifs gs) cap n) := fun {A env m s O v Q X} a ne hv hQ => by
  subst hc hn
  refine obind hv fun xs hx hv => ?_
  by_cases hl : xs.length ≤ big
  · rw [if_pos hl] at hv
    refine omap (C := fun v => KO G O s v Q → _) hv (fun kps hk hQ => ?_) hQ
    refine comp_any compE_dict g (em_dict h h') newAc_dict a ne.l ne.r hx hl fun C D s' cd => ?_
    obtain ⟨mm, ns⟩ := cd.ns
    rw [bs.gen] at hQ
    exact ⟨mm, ns, fun h' hs => hQ _ _ (cd.own a.inv (.dict hk) hs).1 (cd.own a.inv (.dict hk) hs).2⟩
  · rw [if_neg hl] at hv; exact nos hv
noncomputable def SEr (G : Gd) (c : Cx) (k : Nat) (T : Tx) (e : Expr) (t : E) : Prop :=
  ∀ {A : Around} {env : Env} {m : Fr} {s : Shared} {O : Addr → Prop} {v : V} {Q : Value → Shared → Prop} {X : Value → Shared → Prop}, At G k T A env m O s → NE m (esc t) → ev c m t = some v →
    (∀ D s', St G s s' → Above s.heap D → VW G O s'.heap v (.ref D) → RowsX s'.heap D → Q (.ref D) s') → wpAny (model G.prog G.w) A (eval e env) Q X s
theorem ser_lcomp {elt : Expr} {te : E} {gs' : Gs} {cap' : List (Nat × Nat)} {n' : Nat} {pos : Pos} {cap : List (Nat × Nat)} {n : Nat} (hc : capOf (sig sc) T.sg (freeIn sc) = cap) (hn : sc.names.length = n) (g : GsOk G c k T sc t it ifs r tg ti tifs gs tp) (h : SEo G c k (T.inner sc) elt (.lcomp te gs' cap' n')) :
    SEr G c k T (.ListComp elt (⟨t, it, ifs, 0⟩ :: r) sc pos) (.lcomp (.lcomp te gs' cap' n') (.cons tg ti tifs gs) cap n) := fun {A env m s O v Q X} a ne hv hQ => by
  subst hc hn
  refine obind hv fun xs hx hv => oif (C := fun v => (∀ D s', St G s s' → Above s.heap D → VW G O s'.heap v (.ref D) → RowsX s'.heap D → Q (.ref D) s') → _) hv (fun hl hQ => ?_) hQ
  refine comp_any compE_list g (em_rows h) newAc_rows a ne.l ne.r hx hl fun C D s' cd => ?_
  obtain ⟨mm, ns⟩ := cd.ns
  refine ⟨mm, ns, fun h' hs => ?_⟩
  have q := cd.own a.inv .rows hs
  refine hQ _ _ q.1 cd.nD (q.2.vr a.er.ox).w ?_
  cases cd.ac with | rows _ x => exact x.kp fun o e => hs.extBut _ o cd.ne e
end
inductive FlR (G : Gd) (O : Addr → Prop) (h : Heap) : Fl → Flow → Prop
  | next : FlR G O h .next .next
  | ret {v : V} {y : Value} (r : VR G O h v y) : FlR G O h (.ret v) (.ret y)
noncomputable def KS (G : Gd) (k : Nat) (T : Tx) (A : Around) (env : Env) (Θ : Th) (s : Shared) (m' : Fr) (fl : Fl) (Q : Flow → Shared → Prop) : Prop := ∀ Θ' s' f, FA G k T A env m' Θ' s' → Sk G Θ s Θ' s' → FlR G Θ'.dom s'.heap fl f → Q f s'
noncomputable def SS (G : Gd) (c : Cx) (k : Nat) (T : Tx) (st : Stmt) (t : S) : Prop :=
  ∀ {A : Around} {env : Env} {m : Fr} {Θ : Th} {s : Shared} {fl : Fl} {m' : Fr} {Q : Flow → Shared → Prop} {X : Value → Shared → Prop}, FA G k T A env m Θ s → ex c t m = some (fl, m') → KS G k T A env Θ s m' fl Q → wpAny (model G.prog G.w) A (exec st env) Q X s
noncomputable def SSs (G : Gd) (c : Cx) (k : Nat) (T : Tx) (st : List Stmt) (t : Ss) : Prop :=
  ∀ {A : Around} {env : Env} {m : Fr} {Θ : Th} {s : Shared} {fl : Fl} {m' : Fr} {Q : Flow → Shared → Prop} {X : Value → Shared → Prop}, FA G k T A env m Θ s → exs c t m = some (fl, m') → KS G k T A env Θ s m' fl Q → wpAny (model G.prog G.w) A (execs st env) Q X s
section
variable {G : Gd} {c : Cx} {k : Nat} {T : Tx} {A : Around} {env : Env} {m m' : Fr} {Θ Θ' : Th} {s s' : Shared} {fl : Fl} {X : Value → Shared → Prop} {Q : Flow → Shared → Prop}
theorem KS.tr (h : KS G k T A env Θ s m' fl Q) (x : Sk G Θ s Θ' s') : KS G k T A env Θ' s' m' fl Q := fun Θ'' s'' f a y r => h Θ'' s'' f a (x.trans y a.fr.ox) r
theorem KS.nx (h : KS G k T A env Θ s m' .next Q) (a : FA G k T A env m' Θ' s') (x : Sk G Θ s Θ' s') : Q .next s' := h _ _ _ a x .next
theorem KS.bd (h : KS G k T A env Θ s m' .next Q) (x : Bd G k T A env Θ s m' s') : Q .next s' := h.nx x.fa x.sk
theorem pair_eq {α β : Type} {p : α × β} {a : α} {b : β} (h : some p = some (a, b)) : p.1 = a ∧ p.2 = b := Option.some.inj h ▸ ⟨rfl, rfl⟩
theorem sss_nil : SSs G c k T [] .nil := fun a h hQ => by
  cases Option.some.inj h
  exact wpAny_execs_nil (hQ.nx a (.of (.refl a.inv) a.fr.ox))
theorem sss_cons {st : Stmt} {r : List Stmt} {t : S} {tr : Ss} (h : SS G c k T st t) (hr : SSs G c k T r tr) : SSs G c k T (st :: r) (.cons t tr) := fun a he hQ => obind he fun p e1 he => wpAny_execs_cons (h a e1 fun Θ₁ s₁ f a₁ k₁ hf => by
  obtain ⟨f1, m1⟩ := p
  cases hf with
  | next => exact hr a₁ he (hQ.tr k₁)
  | ret r =>
    cases Option.some.inj he
    exact hQ _ _ _ a₁ k₁ (.ret r))
theorem ss_ret {e : Expr} {t : E} {p : Pos} (h : SE G c k T e t) : SS G c k T (.Return (some e) p) (.ret t) := fun {A env m Θ s fl m' Q X} a he hQ => by
  refine omap (C := fun p => p = (fl, m') → _) (b := (fl, m')) he (fun v hv e => ?_) rfl
  cases e
  have a₁ := a.frz (esc t)
  exact wpAny_Return_some (h a₁.at (ne_frz _ _) hv fun y s₁ st r => hQ _ _ _ (a₁.step st) ((a.dropSk _).trans (.of st a₁.fr.ox) (a₁.step st).fr.ox) (.ret r))
theorem ss_retN {p : Pos} : SS G c k T (.Return none p) .retN := fun a he hQ => by
  cases Option.some.inj he
  exact wpAny_Return_none (hQ _ _ _ a (.of (.refl a.inv) a.fr.ox) (.ret .none))
theorem ss_ite {e : Expr} {t : E} {x y : List Stmt} {tx ty : Ss} {p : Pos} (h : SB G c k T e t) (hx : SSs G c k T x tx) (hy : SSs G c k T y ty) : SS G c k T (.If e x y p) (.ite t tx ty) := fun {A env m Θ s fl m' Q X} a he hQ => obind he fun v hv he => obind he fun z hz he => by
  have a₁ := a.frz (esc t)
  refine wpAny_If (h a₁.at (ne_frz _ _) hv hz fun s₁ st => ?_)
  have a₂ := a₁.step st
  have hQ := hQ.tr ((a.dropSk _).trans (.of st a₁.fr.ox) a₂.fr.ox)
  cases z with
  | true => exact hx a₂ he hQ
  | false => exact hy a₂ he hQ
noncomputable def oneTh (b : Addr) (w : Owner) : Th := fun a => bif a == b then some w else none
theorem oneTh_at {b : Addr} {w : Owner} : oneTh b w b = some w := congrArg (fun c => bif c then some w else none) (beq_self_eq_true b)
theorem oneTh_some {a b : Addr} {w w' : Owner} (h : oneTh b w a = some w') : a = b ∧ w' = w := by
  unfold oneTh at h
  cases q : a == b with
  | true => rw [q] at h; exact ⟨eq_of_beq q, (Option.some.inj h).symm⟩
  | false => rw [q] at h; exact nos h
theorem oneTh_new {b : Addr} {i : Nat} (f : s.heap.get? b = none) (e : ∃ o, s'.heap.get? b = some o) : NewTh s s' (oneTh b (.slot i)) := ⟨fun a w q => (oneTh_some q).1 ▸ ⟨f, e⟩, fun a q => Owner.noConfusion (oneTh_some q).2⟩
theorem one_keep {b : Addr} {w : Owner} {h : Heap} : Keep (fun a => Θ.dom a ∨ a = b) (Θ.addM (oneTh b w)).dom h h := fun a o e _ no => ⟨fun d => by
  obtain ⟨w', t⟩ := d
  exact addM_cases t (fun q => no (.inr (oneTh_some q).1)) fun q => no (.inl ⟨w', q⟩), e⟩
theorem has_one {h : Heap} {sl : Slot} {b a : Addr} (n : ∀ xss, sl ≠ .oll xss) (x : Has h sl (.ref b) a) : a = b := by
  cases x with
  | top => rfl
  | inn => exact absurd rfl (n _)
theorem sf_ol {h : Heap} {i : Nat} {xs : List V} {b : Addr} (r : LstA (VR G Θ.dom h) h b xs) (t : Θ b = some (.slot i)) : SF G Θ h env i (.ol xs) (.ref b) := ⟨.ol r, fun a x => has_one (fun _ e => Slot.noConfusion e) x ▸ t⟩
theorem sf_od {h : Heap} {i g : Nat} {xs : List (K × V)} {b : Addr} (r : DctA (VR G Θ.dom h) h b G g xs) (t : Θ b = some (.slot i)) : SF G Θ h env i (.od g xs) (.ref b) := ⟨.od r, fun a x => has_one (fun _ e => Slot.noConfusion e) x ▸ t⟩
theorem lst_get {O : Addr → Prop} {a : Addr} {xs : List V} {h : Heap} (r : LstA (VR G O h) h a xs) : ∃ o, h.get? a = some o := by cases r with | mk e => exact ⟨_, e⟩
theorem dct_get {O : Addr → Prop} {a : Addr} {g : Nat} {xs : List (K × V)} {h : Heap} (r : DctA (VR G O h) h a G g xs) : ∃ o, h.get? a = some o := r.obj fun o e _ => ⟨o, e⟩
theorem storeO (a : FA G k T A env m Θ s) (st : St G s s') {x : Str} {i : Nat} (ho : x ∈ T.ow) (hi : idxOf T.sg x = i) {v : V} {y : Value} (r : Own G Θ.dom s s' v y) {Q : Unit → Shared → Prop}
    (h : ∀ Θ' s'', FA G k T A env (m.set i (some (slotOf .o v))) Θ' s'' → Sk G Θ s Θ' s'' → Q () s'') : wpAny (model G.prog G.w) A (storeName env x y) Q X s' := by
  induction r with
  | v nl r => exact storeF (a.step st) ho hi (sf_v r) fun s'' b => h Θ s'' (nl ▸ b.fa) ((Sk.of st a.fr.ox).trans b.sk b.fa.fr.ox)
  | l f r =>
    have n := oneTh_new (i := i) f.none (lst_get r)
    exact storeF (sl := .ol _) ⟨a.room, st.inv, a.eo, a.fr.addM n a.inv st⟩ ho hi (sf_ol (r.mono one_keep fun o e _ => e) (addM_new oneTh_at)) fun s'' b => h _ s'' b.fa ((n.sk st a.fr.ox).trans b.sk b.fa.fr.ox)
  | d f r =>
    have n := oneTh_new (i := i) f (dct_get r)
    exact storeF (sl := .od _ _) ⟨a.room, st.inv, a.eo, a.fr.addM n a.inv st⟩ ho hi (sf_od (r.mono one_keep fun o e _ => e) (addM_new oneTh_at)) fun s'' b => h _ s'' b.fa ((n.sk st a.fr.ox).trans b.sk b.fa.fr.ox)
noncomputable def NoSwap (e : Expr) (x : Str) (px p : Pos) : Prop := ∀ env, swapsWith e (some (.Name x px)) p.line env = pure false
theorem ss_asg {e : Expr} {t : E} {x : Str} {px p : Pos} {i : Nat} (ho : x ∈ T.ow) (hi : idxOf T.sg x = i) (hs : NoSwap e x px p) (h : SE G c k T e t) : SS G c k T (.Assign [.Name x px] e p) (.asg .v i t) := fun {A env m Θ s fl m' Q X} a he hQ => by
  refine omap (C := fun p => p = (fl, m') → _) (b := (fl, m')) he (fun v hv e => ?_) rfl
  cases e
  have a₁ := a.frz (esc t)
  exact wpAny_Assign_Name (h a₁.at (ne_frz _ _) hv fun y s₁ st r => storeF (a₁.step st) ho hi (sf_v r) fun s₂ b => hQ.nx b.fa ((a.dropSk _).trans ((Sk.of st a₁.fr.ox).trans b.sk b.fa.fr.ox) b.fa.fr.ox)) (hs env)
theorem ss_asgO {e : Expr} {t : E} {x : Str} {px p : Pos} {i : Nat} (ho : x ∈ T.ow) (hi : idxOf T.sg x = i) (hs : NoSwap e x px p) (h : SEo G c k T e t) : SS G c k T (.Assign [.Name x px] e p) (.asg .o i t) := fun {A env m Θ s fl m' Q X} a he hQ => by
  refine omap (C := fun p => p = (fl, m') → _) (b := (fl, m')) he (fun v hv e => ?_) rfl
  cases e
  have a₁ := a.frz (esc t)
  exact wpAny_Assign_Name (h a₁.at (ne_frz _ _) hv fun y s₁ st r => storeO a₁ st ho hi r fun Θ' s₂ b sk => hQ.nx b ((a.dropSk _).trans sk b.fr.ox)) (hs env)
theorem ss_asgT {e : Expr} {t : E} {es : List Expr} {kk : Nat} {px p : Pos} {is : List Nat} (hn : Nms T es is) (h1 : ∀ env, swapsWithSole [.Tuple es kk px] e p.line env = pure false) (h2 : ∀ env, swappedStores [.Tuple es kk px] e env = pure none) (h : SE G c k T e t) : SS G c k T (.Assign [.Tuple es kk px] e p) (.asgT is t) := fun {A env m Θ s fl m' Q X} a he hQ => obind he fun v hv he => by
  refine omap (C := fun p => p = (fl, m') → _) (b := (fl, m')) he (fun q hb e => ?_) rfl
  cases e
  have a₁ := a.frz (esc t)
  exact Assign_Tuple (h a₁.at (ne_frz _ _) hv fun y s₁ st r => assign_any (.many hn) (a₁.step st) r hb fun s₂ b => hQ.nx b.fa ((a.dropSk _).trans ((Sk.of st a₁.fr.ox).trans b.sk b.fa.fr.ox) b.fa.fr.ox)) (h1 env) (h2 env)
theorem varIs_fun {h : Heap} {x : Str} {y z : Value} (a : VarIs G h env x y) (b : VarIs G h env x z) : y = z := by
  cases a with
  | loc k1 n1 e1 =>
    cases b with
    | loc k2 n2 e2 => exact Option.some.inj (e1.symm.trans (ns_fun n2 n1 ▸ e2))
    | cel k2 => exact k2.elim (fun h => NameKind.noConfusion (Option.some.inj (k1.symm.trans h))) fun h => NameKind.noConfusion (Option.some.inj (k1.symm.trans h))
  | cel k1 c1 _ v1 =>
    cases b with
    | loc k2 => exact k1.elim (fun h => NameKind.noConfusion (Option.some.inj (k2.symm.trans h))) fun h => NameKind.noConfusion (Option.some.inj (k2.symm.trans h))
    | cel k2 c2 _ v2 =>
      cases Option.some.inj (c1.symm.trans c2)
      obtain ⟨o, g, d⟩ := v1
      obtain ⟨o', g', d'⟩ := v2
      cases Option.some.inj (g.symm.trans g')
      have e := d.symm.trans d'
      injection e with e
      exact Option.some.inj e
theorem FA.wr (a : FA G k T A env m Θ s) {x : Str} {i : Nat} (n : NmOk T x i) {b : Addr} {y : Value} {sl sl' : Slot} (hm : m.at i = some sl) (vi : VarIs G s.heap env x y) (t : Θ b = some (.slot i)) {h' : Heap} {tk : Nat} (hc : ∀ o, s.heap.get? b = some o → ¬ Rec o) (hs : Heap.SameBut b s.heap h') (he : ∃ o, h'.get? b = some o) (sf : SF G Θ h' env i sl' y) :
    FA G k T A env (m.set i (some sl')) Θ { s with heap := h', toks := tk } ∧ Sk G Θ s Θ { s with heap := h', toks := tk } := by
  have sk := sk_wr (tk := tk) a.inv a.fr.ox t (fun e => Owner.noConfusion e) (fun e => Owner.noConfusion e) (a.fr.new b (th_mine t fun e => Owner.noConfusion e)) hc hs he
  have hi : idxOf (sig env.scope) x = i := a.eo.sg ▸ n.i
  refine ⟨⟨a.room, sk.inv, a.eo, a.fr.wrS t hs he fun x' sl0 hx' e => at_set e (fun q e => ⟨fun _ => ?_, fun q' => absurd q q'⟩) fun q e => ⟨fun q' => absurd q' q, fun _ => e⟩⟩, sk⟩
  cases e
  have e : x' = x := idx_inj (isVar_mem hx') (q.trans hi.symm)
  subst e
  rw [hi]
  exact ⟨sl, hm, fun y v _ => varIs_fun vi v ▸ sf⟩
theorem nameF (a : FA G k T A env m Θ s) {x : Str} {i : Nat} (n : NmOk T x i) {p : Pos} {sl : Slot} (hm : m.at i = some sl) {Q : Value → Shared → Prop} (h : ∀ y, VarIs G s.heap env x y → SF G Θ s.heap env i sl y → Q y s) : wpAny (model G.prog G.w) A (eval (.Name x p) env) Q X s := by
  have hi : idxOf (sig env.scope) x = i := a.eo.sg ▸ n.i
  obtain ⟨y, v, r⟩ := a.fr.var x sl (a.eo.sg ▸ n.v) (hi ▸ hm)
  exact wpAny_Name (load_var a.eo.kind v n.cd (h y v (hi ▸ r))) n.d
theorem inter (a : FA G k T A env m Θ s) : interactive env = false := by unfold interactive; rw [a.eo.kind]; rfl
theorem ss_append {x : Str} {px ap p pp : Pos} {e : Expr} {te : E} {i : Nat} (n : NmOk T x i) (hl : (ap.endLine == p.line) = true) (hc : Nc (.Name x px)) (ns : Ns e) (h : SE G c k T e te) : SS G c k T (.Expr (.Call (.Attribute (.Name x px) "append" ap) [e] [] p) pp) (.append i te) := fun {A env m Θ s fl m' Q X} a he hQ => obind he fun v hv he => obind he fun sl hsl he => by
  refine omap (C := fun p => p = (fl, m') → _) (b := (fl, m')) he (fun sl' hp e => ?_) rfl
  cases e
  have a₁ := a.frz (esc te)
  refine wpAny_Expr_any (method_any hl hc (.cons ns .nil) rfl (nameF a₁ n hsl fun y vi sf => ?_)) (inter a) rfl
  obtain ⟨sr, own⟩ := sf
  cases sr with
  | @ol xs b rl =>
    refine oif (C := fun sl' => KS G k T A env Θ s (((m.frz te)).set i (some sl')) .next Q → _) hp (fun hle hQ => ?_) hQ
    have t := own b (.top rfl)
    refine ⟨_, ⟨F.plainAttrs_list, F.slot_list_append, F.type_list_append, lst_type rl, lst_mth rl⟩, spl1 ns (h a₁.at (ne_frz _ _) hv fun y s₁ st ry => ?_)⟩
    have a₂ := a₁.step st
    have vi := vi.step a₁.fr.er.loc st
    have rl := rl.step a₁.inv st
    cases rl with | @mk ws n0 e l rs =>
    refine wpAny_list_append_plain ⟨n0, e⟩ (fun h' hp hs => ?_) (fits l)
    obtain ⟨n', e'⟩ := hp
    rw [push_app] at e'
    have kw := keep_wr t hs
    obtain ⟨fa, sk⟩ := a₂.wr (tk := s₁.toks) (sl' := .ol (xs ++ [v])) n hsl vi t (cls_rec e rfl rfl) hs ⟨_, e'⟩ (sf_ol ⟨e', by rw [List.length_append, ← rs.length]; exact hle, (VRs.mono kw rs).append (.cons (ry.mono kw) .nil)⟩ t)
    exact hQ.nx fa ((a.dropSk _).trans ((Sk.of st a₁.fr.ox).trans sk fa.fr.ox) fa.fr.ox)
  | _ => exact nos hp
theorem ss_reverse {x : Str} {px ap p pp : Pos} {i : Nat} (n : NmOk T x i) (hl : (ap.endLine == p.line) = true) (hc : Nc (.Name x px)) : SS G c k T (.Expr (.Call (.Attribute (.Name x px) "reverse" ap) [] [] p) pp) (.reverse i) := fun {A env m Θ s fl m' Q X} a he hQ => obind he fun sl hsl he => by
  refine omap (C := fun p => p = (fl, m') → _) (b := (fl, m')) he (fun sl' hp e => ?_) rfl
  cases e
  refine wpAny_Expr_any (method_any hl hc .nil rfl (nameF a n hsl fun y vi sf => ?_)) (inter a) rfl
  obtain ⟨sr, own⟩ := sf
  cases sr with
  | @ol xs b rl =>
    have hQ : KS G k T A env Θ s (m.set i (some (.ol xs.reverse))) .next Q := Option.some.inj hp ▸ hQ
    have t := own b (.top rfl)
    refine ⟨_, ⟨F.plainAttrs_list, F.slot_list_reverse, F.type_list_reverse, lst_type rl, lst_mth rl⟩, Calls.spliced_nil ?_⟩
    cases rl with | @mk ws n0 e l rs =>
    refine call_meets F.slot_list_reverse ⟨_, e, rfl⟩ F.entry_list_reverse (F.args_list_reverse_1 _) (AutoListH.list_reverse_list_0 b ws.toArray n0 (fits l)) ⟨e, ?_⟩
    have hm : ∃ n', Obj.mapSeq (fun x => x.reverse) { cls := .type "list", data := .seq ws.toArray n0 } = { cls := .type "list", data := .seq ws.reverse.toArray n' } := by
      simp [Obj.mapSeq]
    obtain ⟨n', hm⟩ := hm
    have e' : (s.heap.update b (Obj.mapSeq fun x => x.reverse)).get? b = some { cls := .type "list", data := .seq ws.reverse.toArray n' } := by
      rw [Heap.get?_update_self _ e (by rw [hm]; rfl), hm]
    have hs : Heap.SameBut b s.heap (s.heap.update b (Obj.mapSeq fun x => x.reverse)) := Heap.SameBut.update ..
    have kw := keep_wr t hs
    obtain ⟨fa, sk⟩ := a.wr (tk := s.toks) (sl' := .ol xs.reverse) n hsl vi t (cls_rec e rfl rfl) hs ⟨_, e'⟩ (sf_ol ⟨e', List.length_reverse.symm ▸ l, (VRs.mono kw rs).reverse⟩ t)
    exact hQ.nx fa sk
  | _ => exact nos hp
end
theorem setItem_plain {prog : Program} {w : World} {A : Around} {E : Value → Shared → Prop} {s : Shared} {l : Addr} {items : Array Value} {n : Nat} {k : Int} {t : Tok} {v : Value} {Q : Unit → Shared → Prop} (hl : IsL s.heap l items n)
    (h0 : 0 ≤ k) (hfit : k < 2 ^ 63) (hn : k < items.size)
    (hQ : ∀ h' n', IsL h' l (items.setIfInBounds k.toNat v) n' → Heap.SameBut l s.heap h' → Q () { s with heap := h' }) :
    wpAny (model prog w) A (PySem.setItem (.ref l) (.int k t) v) Q E s := by
  have hL : s.heap.IsList l items := ⟨_, hl, rfl, _, rfl⟩
  unfold PySem.setItem
  try with_reducible refine wpAny_holding ?_
  first | refine wpAny_bind (wpAny_pure ?_) | skip
  refine wpAny_bind (wpAny_sequenceKey hL.typeIs (by decide) ?_)
  refine wpAny_bind (wpAny_callSpecial?_slot (name := Str.ofString "__setitem__") hL.typeIs slot_list_setitem
    (wpAny_call_entry slot_list_setitem hL.typeIs entry_list_setitem ?_ (args_list_setitem _ _ _)))
  show wpAny _ _ (Builtin.List.listSubscript? (.int k t) >>= _) _ _ s
  refine wpAny_bind (wpAny_listSubscript_int (fitsIndex_of h0 hfit) ?_)
  clear hfit
  obtain ⟨j, rfl⟩ := Int.eq_ofNat_of_zero_le h0
  have hj : j < items.size := by lia
  have hx' : items[j]? = some items[j] := Array.getElem?_eq_getElem hj
  show wpAny _ _ ((seqItemAt l j >>= fun r => pure (r.map (j, ·))) >>= _) _ _ s
  refine wpAny_bind (wpAny_bind (wpAny_seqItemAt hl rfl (wpAny_pure ?_)))
  rw [hx']
  show wpAny _ _ (setSeqItemAt l j v >>= _) _ _ s
  have hm : ∃ n', Obj.mapSeq (·.setIfInBounds j v) { cls := .type "list", data := .seq items n } = { cls := .type "list", data := .seq (items.setIfInBounds j v) n' } := by
    simp [Obj.mapSeq]
  obtain ⟨n', hm⟩ := hm
  have hfin : IsL (s.heap.update l (Obj.mapSeq (·.setIfInBounds j v))) l (items.setIfInBounds j v) n' := by
    show (s.heap.update l _).get? l = _
    rw [Heap.get?_update_self _ hl (by rw [hm]; rfl), hm]
  refine wpAny_bind (wpAny_setSeqItemAt hl rfl ?_)
  first
    | exact wpAny_bind (wpAny_pure (wpAny_pure ⟨.none, rfl, wpAny_pure (hQ _ _ hfin (Heap.SameBut.update ..))⟩))
    | exact wpAny_pure ⟨.none, rfl, wpAny_pure (hQ _ _ hfin (Heap.SameBut.update ..))⟩
theorem oif1 {α : Type} {c : Prop} [Decidable c] {o : Option α} {b : α} {C : α → Prop} (h : (if c then o else none) = some b) (k : c → o = some b → C b) : C b :=
  if q : c then k q ((if_pos q).symm.trans h) else nos ((if_neg q).symm.trans h)
section
variable {G : Gd} {c : Cx} {k : Nat} {T : Tx} {A : Around} {env : Env} {m m' : Fr} {Θ Θ' : Th} {s s' : Shared} {fl : Fl} {X : Value → Shared → Prop}
theorem set_rel {r : V → Value → Prop} {xs : List V} {ws : List Value} (h : All2 r xs ws) {v : V} {y : Value} (x : r v y) (j : Nat) : All2 r (xs.set j v) (ws.toArray.setIfInBounds j y).toList := by
  rw [Array.toList_setIfInBounds]
  exact h.set x j
theorem ok_set (a : FA G k T A env m Θ s) {x : Str} {j : Nat} (n : NmOk T x j) {sl sl' : Slot} {u v : V} {y w z : Value} (hm : m.at j = some sl) (hp : storeS u v sl = some sl') (vi : VarIs G s.heap env x y) (sf : SF G Θ s.heap env j sl y) (ru : VW G Θ.dom s.heap u w) (rv : VR G Θ.dom s.heap v z) {Q : Unit → Shared → Prop}
    (hQ : ∀ s', FA G k T A env (m.set j (some sl')) Θ s' → Sk G Θ s Θ s' → Q () s') : wpAny (model G.prog G.w) A (PySem.setItem y w z) Q X s := by
  obtain ⟨sr, own⟩ := sf
  cases sr with
  | @ol xs b rl =>
    have t := own b (.top rfl)
    refine obind hp fun q hq hp => omap (C := fun sl' => (∀ s', FA G k T A env (m.set j (some sl')) Θ s' → Sk G Θ s Θ s' → Q () s') → _) hp (fun ys hy hQ => ?_) hQ
    refine oif (C := fun ys => (∀ s', FA G k T A env (m.set j (some (.ol ys))) Θ s' → Sk G Θ s Θ s' → Q () s') → _) hy (fun hb hQ => ?_) hQ
    cases ru.oi hq with | mk tk =>
    cases rl with | @mk ws n0 e l rs =>
    have hz : (ws.toArray.size : Int) = xs.length := size_rel rs
    refine setItem_plain e hb.1 (Int.lt_trans hb.2 (hz ▸ fit63 l)) (hz ▸ hb.2) fun h' n' e' hs => ?_
    have kw := keep_wr t hs
    have hl : (ws.toArray.setIfInBounds q.toNat z).toList.length ≤ big := by rw [Array.toList_setIfInBounds, List.length_set]; exact l
    obtain ⟨fa, sk⟩ := a.wr (tk := s.toks) (sl' := .ol (xs.set q.toNat v)) n hm vi t (cls_rec e rfl rfl) hs ⟨_, e'⟩ (sf_ol (.mk (ws := (ws.toArray.setIfInBounds q.toNat z).toList) e' hl (set_rel (VRs.mono kw rs) (rv.mono kw) _)) t)
    exact hQ _ fa sk
  | @od g es b rd =>
    have t := own b (.top rfl)
    refine oif1 (C := fun sl' => (∀ s', FA G k T A env (m.set j (some sl')) Θ s' → Sk G Θ s Θ s' → Q () s') → _) hp (fun hb hp => omap (C := fun sl' => (∀ s', FA G k T A env (m.set j (some sl')) Θ s' → Sk G Θ s Θ s' → Q () s') → _) hp fun q hq hQ => ?_) hQ
    cases rd with | @mk kvs pg ns of l rel =>
    refine wpAny_setItem_pairs (knd := kk G.prog G.w) (ru.key hq) of (fun h' hd hs => ?_) (Nat.le_trans l big_le)
    have hg : ∃ o, h'.get? b = some o := by obtain ⟨o, _, _, e, _⟩ := hd; exact ⟨o, e⟩
    have kw := keep_wr t hs
    obtain ⟨fa, sk⟩ := a.wr (tk := s.toks + 1) (sl' := .od g (dset q v es)) n hm vi t (by obtain ⟨o, es, ep, e, hc, _⟩ := of; exact cls_rec e hc.1 rfl) hs hg (sf_od ⟨pg, ns, hd, Nat.le_trans (stored_length q z kvs) (rel.length ▸ hb), dset_at (rv.mono kw) (rel.imp fun _ _ => kv_mono kw) (dictOf_nodup of)⟩ t)
    exact hQ _ fa sk
  | _ => exact nos hp
theorem frz2 (a : FA G k T A env m Θ s) (l l' : List Nat) : FA G k T A env (frzAt l' 0 (frzAt l 0 m)) ((Θ.drop l.contains).drop l'.contains) s ∧ Sk G Θ s ((Θ.drop l.contains).drop l'.contains) s :=
  ⟨(a.frz l).frz l', (a.dropSk l).trans ((a.frz l).dropSk l') ((a.frz l).frz l').fr.ox⟩
theorem ss_asgS {x : Str} {px pp p : Pos} {i e : Expr} {ti te : E} {j : Nat} (n : NmOk T x j) (hsw : ∀ env, swapsWith e (some (.Subscript (.Name x px) i pp)) p.line env = pure false) (hi : SE G c k T i ti) (h : SE G c k T e te) :
    SS G c k T (.Assign [.Subscript (.Name x px) i pp] e p) (.asgS j ti te) := fun {A env m Θ s fl m' Q X} a he hQ => obind he fun v hv he => obind he fun u hu he => by
  refine omap (C := fun p => p = (fl, m') → _) (b := (fl, m')) he (fun q hst e => ?_) rfl
  cases e
  refine obind hst fun sl hsl hst => omap (C := fun m' => KS G k T A env Θ s m' .next Q → _) hst (fun sl' hp hQ => ?_) hQ
  obtain ⟨a₂, k₂⟩ := frz2 a (esc te) (esc ti)
  refine wpAny_Assign_Subscript (h a₂.at (ne_frz (esc te) m).frz hv fun y s₁ st1 ry => nameF (a₂.step st1) n hsl fun z vi sf => hi (a₂.step st1).at (ne_frz _ _) hu fun w s₂ st2 rw => ?_) (hsw env)
  have a₃ := a₂.step st1
  exact ok_set (a₃.step st2) n hsl hp (vi.step a₃.fr.er.loc st2) (sf.map (st2.vk a₃.inv) (fun b t => ⟨t, fun o => st2.kp b o (a₃.fr.there t).1⟩) st2.tb) rw.w (ry.step a₃.inv st2) fun s' fa sk => hQ.nx fa (k₂.trans ((Sk.of (st1.trans st2) a₂.fr.ox).trans sk fa.fr.ox) fa.fr.ox)
theorem ok_set2 (a : FA G k T A env m Θ s) {x : Str} {j : Nat} (n : NmOk T x j) {xss : List (List Int)} {D b : Addr} {i l : Nat} {w : Int} {xs : List Int} {t1 t2 : Tok} (hm : m.at j = some (.oll xss)) (vi : VarIs G s.heap env x (.ref D)) (sf : SF G Θ s.heap env j (.oll xss) (.ref D)) (hx : xss[i]? = some xs)
    {ws : List Value} {n0 : Nat} (e : IsL s.heap D ws.toArray n0) (hb : ws[i]? = some (.ref b)) (hl : l < xs.length) {Q : Unit → Shared → Prop}
    (hQ : ∀ s', FA G k T A env (m.set j (some (.oll (xss.modify i fun xs => xs.set l w)))) Θ s' → Sk G Θ s Θ s' → Q () s') : wpAny (model G.prog G.w) A (PySem.setItem (.ref b) (.int l t1) (.int w t2)) Q X s := by
  obtain ⟨sr, own⟩ := sf
  cases sr with | oll r =>
  cases r with | @mk ws' n' e' le rel nd =>
  cases seq_fun e e'
  have t := own b (.inn e (List.mem_of_getElem? hb))
  have rb := rel.at hx hb
  cases rb with | @mk _ us n1 e1 l1 rel1 =>
  have hz : us.length = xs.length := rel1.length.symm
  have hz2 : us.toArray.size = us.length := List.size_toArray ..
  refine setItem_plain e1 (Int.natCast_nonneg l) (big63 (Nat.le_trans (Nat.le_of_lt hl) (hz ▸ l1))) (by rw [hz2, hz]; exact Int.ofNat_lt.mpr hl) fun h' n2 e2 hs => ?_
  have nD : D ≠ b := fun q => by
    subst q
    cases seq_fun e e1
    exact rel1.getB hb fun _ _ q => by cases q
  have eD := hs.extBut _ _ nD e
  have hl2 : (us.toArray.setIfInBounds l (.int w t2)).toList.length ≤ big := by rw [Array.toList_setIfInBounds, List.length_set]; exact l1
  have rows : RowsA h' D (xss.modify i fun xs => xs.set l w) := by
    refine ⟨eD, le, ?_, nd⟩
    refine All2.of ((List.length_modify ..).trans rel.length) fun i' y z hy hz' => ?_
    have ei : i' < ws.length := get_lt hz'
    by_cases q : i' = i
    · subst q
      cases Option.some.inj (hb.symm.trans hz')
      rw [List.getElem?_modify_eq, hx] at hy
      cases Option.some.inj hy
      refine .mk (ws := (us.toArray.setIfInBounds l (.int w t2)).toList) e2 hl2 ?_
      rw [Array.toList_setIfInBounds]
      exact rel1.set (.mk t2) l
    · have hy : xss[i']? = some y := by simpa [List.getElem?_modify, Ne.symm q] using hy
      have rr := rel.at hy hz'
      cases rr with | @mk b' us' n3 e3 l3 rel3 =>
      refine .mk (hs.extBut _ _ (fun q' => ?_) e3) l3 rel3
      subst q'
      exact q ((List.getElem?_inj ei nd).mp (hz'.trans hb.symm))
  have own' : ∀ z, Has h' (.oll (xss.modify i fun xs => xs.set l w)) (.ref D) z → Θ z = some (.slot j) := fun z hz => by
    generalize hsl : Slot.oll (xss.modify i fun xs => xs.set l w) = sl at hz
    cases hz with
    | top => exact own D (.top rfl)
    | inn e4 m4 =>
      have q := e4.symm.trans eD
      cases q
      exact own z (.inn e m4)
  obtain ⟨fa, sk⟩ := a.wr (tk := s.toks) (sl' := .oll (xss.modify i fun xs => xs.set l w)) n hm vi t (cls_rec e1 rfl rfl) hs ⟨_, e2⟩ ⟨.oll rows, own'⟩
  exact hQ _ fa sk
theorem ss_asgSS {x : Str} {px pp pq p : Pos} {ei ej e : Expr} {ti tj te : E} {j : Nat} (n : NmOk T x j) (hsb : Sbs ei) (hsw : ∀ env, swapsWith e (some (.Subscript (.Subscript (.Name x px) ei pq) ej pp)) p.line env = pure false) (hi : SE G c k T ei ti) (hj : SE G c k T ej tj) (h : SE G c k T e te) :
    SS G c k T (.Assign [.Subscript (.Subscript (.Name x px) ei pq) ej pp] e p) (.asgSS j ti tj te) := fun {A env m Θ s fl m' Q X} a he hQ => obind he fun v hv he => obind he fun u hu he => obind he fun u2 hu2 he => by
  refine omap (C := fun p => p = (fl, m') → _) (b := (fl, m')) he (fun q hst e => ?_) rfl
  cases e
  refine obind hst fun sl hsl hst => omap (C := fun m' => KS G k T A env Θ s m' .next Q → _) hst (fun sl' hp hQ => ?_) hQ
  obtain ⟨a₂, k₂⟩ := frz2 a (esc te) (esc ti)
  have a₃ := a₂.frz (esc tj)
  have k₃ := k₂.trans (a₂.dropSk (esc tj)) a₃.fr.ox
  cases sl with
  | oll xss =>
    refine obind hp fun i hi' hp => obind hp fun l hl' hp => obind hp fun w hw' hp => oif (C := fun (sl' : Slot) => KS G k T A env Θ s ((((m.frz te).frz ti).frz tj).set j (some sl')) .next Q → _) hp (fun hc hQ => ?_) hQ
    obtain ⟨h0, h1, h2, h3⟩ := hc
    obtain ⟨i, rfl⟩ := Int.eq_ofNat_of_zero_le h0
    obtain ⟨l, rfl⟩ := Int.eq_ofNat_of_zero_le h1
    have h2 : i < xss.length := Int.ofNat_lt.mp h2
    have hx : xss[i]? = some xss[i] := List.getElem?_eq_getElem h2
    have h3 : l < xss[i].length := by
      have := Int.ofNat_lt.mp h3
      rwa [Int.toNat_natCast, List.getD_eq_getElem?_getD, hx] at this
    refine wpAny_Assign_Subscript (h a₃.at (ne_frz (esc te) m).frz.frz hv fun y s₁ st1 ry => Subscript_ (nameF (a₃.step st1) n hsl fun z vi sf => hi (a₃.step st1).at (ne_frz (esc ti) _).frz hu fun z2 s₂ st2 rz2 => ?_)) (hsw env)
    have a4 := a₃.step st1
    have vi := vi.step a4.fr.er.loc st2
    have sf := sf.map (st2.vk a4.inv) (fun b t => ⟨t, fun o => st2.kp b o (a4.fr.there t).1⟩) st2.tb
    have a5 := a4.step st2
    have sf' := sf
    obtain ⟨sr, own⟩ := sf'
    cases sr with | @oll _ D r =>
    cases rz2.w.oi hi' with | mk tk1 =>
    cases r with | @mk ws n' e le rel nd =>
    refine rel.get hx fun yy hyy ryy => ?_
    refine sub_tail hsb ⟨⟨_, e, rfl⟩, slot_list_getitem.lookup⟩ (wpAny_getItem_list ⟨_, e, rfl, _, rfl⟩ (Int.natCast_nonneg i) (big63 (Nat.le_trans (Nat.le_of_lt (get_lt hyy)) le)) (seq_get hyy) ?_)
    refine hj a5.at (ne_frz _ _) hu2 fun z3 s₃ st3 rz3 => ?_
    cases rz3.w.oi hl' with | mk tk2 =>
    have ry := (ry.step a4.inv st2).step a5.inv st3
    cases ry.w.oi hw' with | mk tk3 =>
    cases ryy with | @mk b us n1 e1 l1 rel1 =>
    have e' := st3.kp _ _ (a5.inv.notTab e type_ne) e
    exact ok_set2 (a5.step st3) n hsl (vi.step a5.fr.er.loc st3) (sf.map (st3.vk a5.inv) (fun b t => ⟨t, fun o => st3.kp b o (a5.fr.there t).1⟩) st3.tb) hx e' hyy h3 fun s' fa sk =>
      hQ.nx fa (k₃.trans ((Sk.of ((st1.trans st2).trans st3) a₃.fr.ox).trans sk fa.fr.ox) fa.fr.ox)
  | _ => exact nos hp
theorem ok_iadd (i : Inv G s) {O : Addr → Prop} {u v w : V} {x y : Value} (ru : VW G O s.heap u x) (rv : VW G O s.heap v y) (h : addI u v = some w) {Q : Value → Shared → Prop} (hQ : KV G O s w Q) : wpAny (model G.prog G.w) A (inplaceOp .Add x y) Q X s := by
  refine obind h fun a ha h => omap (C := fun w => KV G O s w Q → _) h (fun b hb hQ => ?_) hQ
  cases ru.oi ha with | mk t =>
  cases rv.oi hb with | mk t' => exact AutoIntOps.iadd_0 (hQ _ _ (.toks i _) (.int _ _))
theorem ss_aug {x : Str} {px p : Pos} {e : Expr} {te : E} {i : Nat} (n : NmOk T x i) (ho : x ∈ T.ow) (h : SE G c k T e te) : SS G c k T (.AugAssign (.Name x px) .Add e p) (.asg .v i (.p2 addI (.var i) te)) := fun {A env m Θ s fl m' Q X} a he hQ => by
  refine omap (C := fun p => p = (fl, m') → _) (b := (fl, m')) he (fun v hv e => ?_) rfl
  cases e
  have a₁ := a.frz (esc (.p2 addI (.var i) te))
  have ne := ne_frz (esc (.p2 addI (.var i) te)) m
  refine obind hv fun u hu hv => obind hu fun sl hsl hu => obind hv fun w hw hv => ?_
  have hi : idxOf (sig env.scope) x = i := a.eo.sg ▸ n.i
  obtain ⟨y, vi, sf⟩ := a₁.fr.var x sl (a.eo.sg ▸ n.v) (hi ▸ hsl)
  exact wpAny_AugAssign_Name (load_var a.eo.kind vi n.cd (h a₁.at ne.r hw fun z s₁ st rz => ok_iadd st.inv ((sf.sr.view hu).step a₁.inv st) rz.w hv fun r s₂ st2 rr =>
    storeF (a₁.step (st.trans st2)) ho n.i (sf_v rr) fun s₃ b => hQ.nx b.fa ((a.dropSk _).trans ((Sk.of (st.trans st2) a₁.fr.ox).trans b.sk b.fa.fr.ox) b.fa.fr.ox)))
theorem ss_augS {x y : Str} {px py pp p : Pos} {e : Expr} {te : E} {i j : Nat} (n : NmOk T x i) (n' : NmOk T y j) (h : SE G c k T e te) : SS G c k T (.AugAssign (.Subscript (.Name x px) (.Name y py) pp) .Add e p) (.asgS i (.var j) (.p2 addI (.pe subV i (.var j)) te)) := fun {A env m Θ s fl m' Q X} a he hQ => obind he fun v hv he => obind he fun u hu he => by
  refine omap (C := fun p => p = (fl, m') → _) (b := (fl, m')) he (fun q hst e => ?_) rfl
  cases e
  refine obind hst fun sl hsl hst => omap (C := fun m' => KS G k T A env Θ s m' .next Q → _) hst (fun sl' hp hQ => ?_) hQ
  obtain ⟨a₂, k₂⟩ := frz2 a (esc (.p2 addI (.pe subV i (.var j)) te)) (esc (.var j))
  have ne := (ne_frz (esc (.p2 addI (.pe subV i (.var j)) te)) m).frz (l' := esc (.var j))
  refine obind hv fun old hold hv => obind hold fun d hd hold => obind hd fun sld hsld hd => obind hold fun u' hu' hold => obind hv fun v2 hv2 hv => ?_
  cases Option.some.inj (hsl.symm.trans hsld)
  cases Option.some.inj (hu.symm.trans hu')
  refine obind hu fun sly hsly hu => ?_
  refine wpAny_AugAssign_Subscript (nameF a₂ n hsl fun z vi sf => nameF a₂ n' hsly fun w _ sfy => ?_)
  have ry := sfy.sr.fro hu (ne_frz _ _ j (List.mem_singleton.mpr rfl) sly hsly)
  refine ok_sub (O := (Θ.drop _).drop _ |>.dom) a₂.inv (sf.sr.view hd) ry.w hold fun z2 s₂ st2 rold => h (a₂.step st2).at ne.r hv2 fun z3 s₃ st3 rz => ok_iadd st3.inv (rold.step st2.inv st3).w rz.w hv fun z4 s₄ st4 r4 => ?_
  have st := (st2.trans st3).trans st4
  have a₃ := a₂.step st
  exact ok_set a₃ n hsl hp (vi.step a₂.fr.er.loc st) (sf.map (st.vk a₂.inv) (fun b t => ⟨t, fun o => st.kp b o (a₂.fr.there t).1⟩) st.tb) (ry.step a₂.inv st).w r4 fun s' fa sk => hQ.nx fa (k₂.trans ((Sk.of st a₂.fr.ox).trans sk fa.fr.ox) fa.fr.ox)
end
inductive FI (G : Gd) (k : Nat) (T : Tx) (A : Around) (env : Env) (Θ₀ : Th) (s₀ : Shared) (wr : List Addr) (Ds : Addr → Prop) (St : Nat → Heap → Prop) (items : List V) (f : V → Fr → Option (Fl × Fr)) (r : Fl × Fr) (n : Nat) (s : Shared) : Prop
  | mk {i : Nat} {Θ : Th} {m : Fr} (hn : n = items.length - i) (hle : i ≤ items.length) (lp : Lp G Θ₀ s₀ wr Ds Θ s) (fa : FA G k T A env m Θ s) (hst : St i s.heap) (hf : forL f (items.drop i) m = some r)
section
variable {G : Gd} {c : Cx} {k : Nat} {T : Tx}
theorem ss_for {t it : Expr} {body : List Stmt} {tg : Tg} {ti : It} {tb : Ss} {p : Pos} {tp : Expr → Prop} (ht : TgOk T t tg) (htp : tp t) (hi : SI G c k T tp it ti) (hfs : ∀ env x, foldedSetIterable it env x = pure x) (hb : SSs G c k T body tb) :
    SS G c k T (.For t it body [] p) (.for tg ti tb) := fun {A env m Θ s fl m' Q X} a he hQ => obind he fun items hit he => by
  have a₁ := a.frz (escIt ti)
  have k₁ := a.dropSk (escIt ti)
  refine wpAny_For (hi a₁.at (ne_frz _ _) hit fun it s₁ s₂ st1 st2 hh => hh.itc htp fun I wr Si eI new st0 N => ?_) (hfs env)
  subst eI
  have st := st1.trans st2
  obtain ⟨lp, fa⟩ := Lp.start a₁ st rfl new
  refine codeAny_forLoop_any (FI G k T A env _ s wr (Dn G _ s₂) Si items (fun v m => (m.bind tg v).bind (exs c tb)) (fl, m')) (fun n s' x => ?_) (items.length - 0) (.mk rfl (Nat.zero_le _) lp fa st0 he)
  cases x with | @mk i Θ' m1 hn hle lp fa hst hf =>
  subst hn
  have hh := a.room.handled
  cases hx : items[i]? with
  | none =>
    have hi : i = items.length := Nat.le_antisymm hle (List.getElem?_eq_none_iff.mp hx)
    rw [hi, List.drop_length] at hf
    obtain ⟨e1, e2⟩ := pair_eq hf
    subst e1; subst e2
    refine (N.tn hh lp.dd).done (hi ▸ hst) fun h' tk kw => wpAny_execs_nil ?_
    obtain ⟨sk, fa⟩ := lp.leave a.inv a₁.fr.ox fa kw (lp.inv a.inv ⟨kw, N.cls i _ hst⟩ tk)
    exact hQ.nx fa (k₁.trans sk fa.fr.ox)
  | some x =>
    rw [drop_at hx] at hf
    refine obind hf fun r hr hf => obind hr fun mb hmb hr => ?_
    refine wpAny_mono ((N.tn hh lp.dd).turn hx hst fa.fr.ox fun y h' tk st' kw vr => ?_) (fun r s₁ h => by obtain ⟨y, e, h⟩ := h; exact e ▸ h) fun _ _ x => x
    obtain ⟨lp₂, fa₂⟩ := lp.turn a.inv fa ⟨kw, N.cls i _ hst⟩ (N.liv st') tk
    refine assign_any ht fa₂ vr hmb fun s₃ bd => ?_
    have lp₃ := lp₂.step bd.sk bd.fa.fr.ox
    have st₃ := N.frame _ _ _ st' (lp₂.kd bd.sk)
    refine hb bd.fa hr fun Θ₄ s₄ f fa₄ sk₄ hfl => ?_
    have lp₄ := lp₃.step sk₄ fa₄.fr.ox
    obtain ⟨f1, m2⟩ := r
    cases hfl with
    | next => exact ⟨_, Nat.sub_lt_sub_left (get_lt hx) (Nat.lt_succ_self i), .mk rfl (get_lt hx) lp₄ fa₄ (N.frame _ _ _ st₃ (lp₃.kd sk₄)) hf⟩
    | ret r =>
      cases Option.some.inj hf
      have kw : Kw wr s₄.heap s₄.heap := fun _ _ _ e => e
      obtain ⟨sk, fa⟩ := lp₄.leave a.inv a₁.fr.ox fa₄ kw (tk := s₄.toks) fa₄.inv
      exact hQ _ _ _ fa (k₁.trans sk fa.fr.ox) (.ret (r.mono ((lp₄.exR a.inv kw).keep fun a o e c => fa₄.inv.notTab e c)))
theorem storeC {A : Around} {env : Env} {m : Fr} {Θ : Th} {s s₁ : Shared} {X : Value → Shared → Prop} {Q : Value → Shared → Prop} (a : FA G k T A env m Θ s) {x : Str} {px : Pos} {i : Nat} (ho : x ∈ T.ow) (hi : idxOf T.sg x = i) {C D : Addr} {xs : List V} (cd : CDone G Θ.dom s C D .l xs s₁)
    (h : ∀ Θ' s', FA G k T A env (m.set i (some (.ol xs))) Θ' s' → Sk G Θ s Θ' s' → Q .none s') : wpAny (model G.prog G.w) A (assign (.Name x px) env (.ref D)) (fun _ s'' => ∃ mm, s''.heap.Ns C mm ∧ ∀ h', Heap.SameBut C s''.heap h' → Q .none { s'' with heap := h' }) X s₁ := by
  obtain ⟨mm, ns⟩ := cd.ns
  have hac := cd.ac
  cases hac with | list rl =>
  have nDC : oneTh C .it D = none := congrArg (fun c => bif c then some Owner.it else none) (beq_no cd.ne)
  have n : NewTh s s₁ ((oneTh D (.slot i)).addM (oneTh C .it)) := ⟨fun a w q => addM_cases q (fun q => (oneTh_some q).1 ▸ ⟨cd.nC, ns_get ns⟩) fun q => (oneTh_some q).1 ▸ ⟨cd.nD.none, lst_get rl⟩, fun a q => addM_cases q (fun q => Owner.noConfusion (oneTh_some q).2) fun q => Owner.noConfusion (oneTh_some q).2⟩
  have tD : (Θ.addM ((oneTh D (.slot i)).addM (oneTh C .it))) D = some (.slot i) := addM_new (by unfold Th.addM; rw [nDC]; exact oneTh_at)
  have tC : (Θ.addM ((oneTh D (.slot i)).addM (oneTh C .it))) C = some .it := addM_new (addM_new oneTh_at)
  have kp : Keep (fun a => Θ.dom a ∨ a = D ∨ a = C) (Θ.addM ((oneTh D (.slot i)).addM (oneTh C .it))).dom s₁.heap s₁.heap := fun a o e _ no => ⟨fun d => by
    obtain ⟨w, t⟩ := d
    exact addM_cases t (fun q => addM_cases q (fun q => no (.inr (.inr (oneTh_some q).1))) fun q => no (.inr (.inl (oneTh_some q).1))) fun q => no (.inl ⟨w, q⟩), e⟩
  have sk0 := n.sk cd.st a.fr.ox
  refine wpAny_assign_Name (storeF (sl := .ol xs) ⟨a.room, cd.st.inv, a.eo, a.fr.addM n a.inv cd.st⟩ ho hi (sf_ol (rl.mono kp fun o e _ => e) tD) fun s' b => ?_)
  have ns' : s'.heap.Ns C mm := ns_kp ns fun o => (b.sk.itk C tC).2 o
  refine ⟨mm, ns', fun h' hs => ?_⟩
  have sk1 := sk0.trans b.sk b.fa.fr.ox
  have lp : Lp G Θ s [C] (fun _ => False) _ s' := ⟨sk1, fun z hz => List.mem_singleton.mp hz ▸ tC, fun _ h => h.elim, fun _ h => h.elim, fun z hz => List.mem_singleton.mp hz ▸ cd.nC⟩
  have inv' : Inv G { s' with heap := h', toks := s'.toks } := b.fa.inv.but (W := fun z => z = C) (fun z e => e ▸ a.inv.new cd.nC) (fun z e => e ▸ a.inv.freshNotTab cd.nC) (fun z e => e ▸ ns_rec ns') (fun z o n e => hs.extBut z o n e) (fun z e _ => e ▸ a.inv.fresh _ cd.nC) s'.toks
  obtain ⟨sk, fa⟩ := lp.leave a.inv a.fr.ox b.fa (h' := h') (tk := s'.toks) (fun z o hz e => hs.extBut z o (fun q => hz (List.mem_singleton.mpr q)) e) inv'
  exact h _ _ fa sk
theorem ss_asgC {elt t it : Expr} {ifs : List Expr} {r : List Comprehension} {sc : Scope} {pos : Pos} {tg : Tg} {ti : It} {tifs : Es} {gs : Gs} {te : E} {cap : List (Nat × Nat)} {n : Nat} {tp : Expr → Prop} {x : Str} {px p : Pos} {i : Nat} (ho : x ∈ T.ow) (hi : idxOf T.sg x = i) (hc : capOf (sig sc) T.sg (freeIn sc) = cap) (hn : sc.names.length = n)
    (g : GsOk G c k T sc t it ifs r tg ti tifs gs tp) (h : SE G c k (T.inner sc) elt te) : SS G c k T (.Assign [.Name x px] (.ListComp elt (⟨t, it, ifs, 0⟩ :: r) sc pos) p) (.asg .o i (.lcomp te (.cons tg ti tifs gs) cap n)) := fun {A env m Θ s fl m' Q X} a he hQ => by
  have hb : ∃ b, swapsWith (.ListComp elt (⟨t, it, ifs, 0⟩ :: r) sc pos) (some (.Name x px)) p.line env = pure b := ⟨_, rfl⟩
  obtain ⟨b, hb⟩ := hb
  refine omap (C := fun p => p = (fl, m') → _) (b := (fl, m')) he (fun v hv e => ?_) rfl
  cases e
  have a₁ := a.frz (esc (.lcomp te (.cons tg ti tifs gs) cap n))
  have ne := ne_frz (esc (.lcomp te (.cons tg ti tifs gs) cap n)) m
  cases b with
  | false => exact wpAny_Assign_Name (seo_lcomp hc hn g h a₁.at ne hv fun y s₁ st r => storeO a₁ st ho hi r fun Θ' s₂ b sk => hQ.nx b ((a.dropSk _).trans sk b.fr.ox)) hb
  | true =>
    subst hc hn
    rw [exec_Assign_Name_used _ _ _ _ hb]
    refine wpAny_bind (wpAny_standAt (wpAny_bind ?_))
    show wpAny _ A (do let _ ← comprehension (.ListComp elt (⟨t, it, ifs, 0⟩ :: r) sc pos) sc env _ (newList []) false (eval it env) (some (assign (.Name x px) env))) _ _ s
    refine obind hv fun xs hx hv => oif (C := fun v => KS G k T A env Θ s (((m.frz _)).set i (some (slotOf .o v))) .next Q → _) hv (fun hl hQ => ?_) hQ
    have key : ∀ {pos' : Pos} {Q' : Value → Shared → Prop}, (∀ s', Q .next s' → Q' .none s') → wpAny (model G.prog G.w) A (comprehension (.ListComp elt (⟨t, it, ifs, 0⟩ :: r) sc pos) sc env pos' (newList []) false (eval it env) (some (assign (.Name x px) env))) Q' X s := fun {pos' Q'} hq =>
      comp_any (pos := pos') (use := some (assign (.Name x px) env)) (Q := Q') compE_list g (em_list h) newAc_list a₁.at ne.l ne.r hx hl fun C D s' cd => storeC (px := px) (Q := Q') a₁ ho hi cd fun Θ' s'' fa sk => hq _ (hQ.nx fa ((a.dropSk _).trans sk fa.fr.ox))
    exact wpAny_bind (key fun s' h => wpAny_pure (wpAny_pure h))
noncomputable def slTh (D : Addr) (ws : List Value) (i : Nat) : Th := open Classical in fun a => if a = D ∨ Value.ref a ∈ ws then some (.slot i) else none
theorem slTh_in {D a : Addr} {ws : List Value} {i : Nat} (h : a = D ∨ Value.ref a ∈ ws) : slTh D ws i a = some (.slot i) := if_pos h
theorem slTh_some {D a : Addr} {ws : List Value} {i : Nat} {w : Owner} (t : slTh D ws i a = some w) : (a = D ∨ Value.ref a ∈ ws) ∧ w = .slot i := by
  unfold slTh at t
  by_cases h : a = D ∨ Value.ref a ∈ ws
  · rw [if_pos h] at t; exact ⟨h, (Option.some.inj t).symm⟩
  · rw [if_neg h] at t; exact nos t
theorem ivs {O : Addr → Prop} {h : Heap} {xs : List V} {ws : List Value} (r : VRs G O h xs ws) : ∀ {ns : List Int}, intsOf xs = some ns → All2 Iv ns ws := by
  induction r with
  | nil => exact fun h => Option.some.inj h ▸ .nil
  | cons x _ ih => exact fun h => obind h fun n hn h => omap (C := fun ns => All2 Iv ns _) h fun ms hm => .cons (x.w.oi hn) (ih hm)
theorem rows_of {O : Addr → Prop} {h : Heap} {xs : List V} {ws : List Value} (r : VRs G O h xs ws) : ∀ {xss : List (List Int)}, rowsOf xs = some xss → All2 (RowA h) xss ws := by
  induction r with
  | nil => exact fun h => Option.some.inj h ▸ .nil
  | cons x _ ih => exact fun h => obind h fun is hi h => omap (C := fun xss => All2 (RowA _) xss _) h fun ms hm => .cons (obind hi fun ys hy hi => by
      cases x.w.ol hy with | mk rl =>
      cases rl with | mk e l rs => exact .mk e l (ivs rs hi)) (ih hm)
theorem rowsF {A : Around} {env : Env} {m : Fr} {Θ : Th} {s s₁ : Shared} (a : FA G k T A env m Θ s) (st : St G s s₁) {D : Addr} {W : List Addr} {O : Addr → Prop} (nD : Above s.heap D) (hW : ∀ b ∈ W, s.heap.get? b = none ∧ ∃ o, s₁.heap.get? b = some o) (hO : ∀ b ∈ W, O b) (hD : D ∉ W) {xs : List V} (rl : LstA (VR G O s₁.heap) s₁.heap D xs) (rx : RowsX s₁.heap D)
    {xss : List (List Int)} (hr : rowsOf xs = some xss) (i : Nat) : ∃ M, NewTh s s₁ M ∧ (∀ b ∈ W, M b = some .it) ∧ SF G (Θ.addM M) s₁.heap env i (.oll xss) (.ref D) := by
  cases rl with | @mk ws n e l rs =>
  obtain ⟨ws', n', e', nd, hi⟩ := rx
  cases seq_fun e e'
  have rows := rows_of rs hr
  have get : ∀ {b}, Value.ref b ∈ ws → b ∉ W ∧ Above s.heap b ∧ ∃ o, s₁.heap.get? b = some o := fun {b} hb => by
    obtain ⟨j, hj⟩ := List.mem_iff_getElem?.mp hb
    obtain ⟨b', eb, lt⟩ := hi _ hb
    cases eb
    exact ⟨rs.getB hj fun v _ r q => r.no (hO b q), fun c o e => Nat.lt_trans (nD c o e) lt, rs.getB hj fun v _ r => r.alive⟩
  have ni : ∀ {b}, b ∉ W → itTh W b = none := fun {b} h => by
    cases q : itTh W b with
    | none => rfl
    | some w => exact absurd (itTh_some q).1 h
  refine ⟨(slTh D ws i).addM (itTh W), ⟨fun b w q => addM_cases q (fun q => hW b (itTh_some q).1) fun q => ?_, fun b q => addM_cases q (fun q => Owner.noConfusion (itTh_some q).2) fun q => Owner.noConfusion (slTh_some q).2⟩, fun b hb => addM_new (itTh_in hb), ⟨.oll ⟨e, l, rows, nd⟩, fun b hb => ?_⟩⟩
  · rcases (slTh_some q).1 with h | h
    · exact h ▸ ⟨nD.none, _, e⟩
    · exact ⟨(get h).2.1.none, (get h).2.2⟩
  · have key : (b = D ∨ Value.ref b ∈ ws) → b ∉ W → (Θ.addM ((slTh D ws i).addM (itTh W))) b = some (.slot i) := fun h hw => addM_new (by unfold Th.addM; rw [ni hw]; exact slTh_in h)
    cases hb with
    | top => exact key (.inl rfl) hD
    | inn e2 m2 =>
      have q := e2.symm.trans e
      cases q
      exact key (.inr m2) (get m2).1
theorem storeR {A : Around} {env : Env} {m : Fr} {Θ : Th} {s s₁ : Shared} {X : Value → Shared → Prop} {Q : Value → Shared → Prop} (a : FA G k T A env m Θ s) {x : Str} {px : Pos} {i : Nat} (ho : x ∈ T.ow) (hi : idxOf T.sg x = i) {C D : Addr} {xs : List V} {xss : List (List Int)} (hr : rowsOf xs = some xss) (cd : CDone G Θ.dom s C D .r xs s₁)
    (h : ∀ Θ' s', FA G k T A env (m.set i (some (.oll xss))) Θ' s' → Sk G Θ s Θ' s' → Q .none s') : wpAny (model G.prog G.w) A (assign (.Name x px) env (.ref D)) (fun _ s'' => ∃ mm, s''.heap.Ns C mm ∧ ∀ h', Heap.SameBut C s''.heap h' → Q .none { s'' with heap := h' }) X s₁ := by
  obtain ⟨mm, ns⟩ := cd.ns
  have hac := cd.ac
  cases hac with | rows rl rx =>
  obtain ⟨M, n, hit, sf⟩ := rowsF a cd.st (W := [C]) cd.nD (fun b hb => List.mem_singleton.mp hb ▸ ⟨cd.nC, ns_get ns⟩) (fun b hb => .inr (.inr (List.mem_singleton.mp hb))) (fun q => cd.ne (List.mem_singleton.mp q)) rl rx hr i
  have tC : (Θ.addM M) C = some .it := addM_new (hit C (List.mem_singleton.mpr rfl))
  have sk0 := n.sk cd.st a.fr.ox
  refine wpAny_assign_Name (storeF (sl := .oll xss) ⟨a.room, cd.st.inv, a.eo, a.fr.addM n a.inv cd.st⟩ ho hi sf fun s' b => ?_)
  have ns' : s'.heap.Ns C mm := ns_kp ns fun o => (b.sk.itk C tC).2 o
  refine ⟨mm, ns', fun h' hs => ?_⟩
  have sk1 := sk0.trans b.sk b.fa.fr.ox
  have lp : Lp G Θ s [C] (fun _ => False) _ s' := ⟨sk1, fun z hz => List.mem_singleton.mp hz ▸ tC, fun _ h => h.elim, fun _ h => h.elim, fun z hz => List.mem_singleton.mp hz ▸ cd.nC⟩
  have inv' : Inv G { s' with heap := h', toks := s'.toks } := b.fa.inv.but (W := fun z => z = C) (fun z e => e ▸ a.inv.new cd.nC) (fun z e => e ▸ a.inv.freshNotTab cd.nC) (fun z e => e ▸ ns_rec ns') (fun z o n e => hs.extBut z o n e) (fun z e _ => e ▸ a.inv.fresh _ cd.nC) s'.toks
  obtain ⟨sk, fa⟩ := lp.leave a.inv a.fr.ox b.fa (h' := h') (tk := s'.toks) (fun z o hz e => hs.extBut z o (fun q => hz (List.mem_singleton.mpr q)) e) inv'
  exact h _ _ fa sk
theorem ss_asgR {elt t it : Expr} {ifs : List Expr} {r : List Comprehension} {sc : Scope} {pos : Pos} {tg : Tg} {ti : It} {tifs : Es} {gs : Gs} {te : E} {gs' : Gs} {cap' : List (Nat × Nat)} {n' : Nat} {cap : List (Nat × Nat)} {n : Nat} {tp : Expr → Prop} {x : Str} {px p : Pos} {i : Nat} (ho : x ∈ T.ow) (hi : idxOf T.sg x = i) (hc : capOf (sig sc) T.sg (freeIn sc) = cap) (hn : sc.names.length = n)
    (g : GsOk G c k T sc t it ifs r tg ti tifs gs tp) (h : SEo G c k (T.inner sc) elt (.lcomp te gs' cap' n')) : SS G c k T (.Assign [.Name x px] (.ListComp elt (⟨t, it, ifs, 0⟩ :: r) sc pos) p) (.asgR i (.lcomp (.lcomp te gs' cap' n') (.cons tg ti tifs gs) cap n)) := fun {A env m Θ s fl m' Q X} a he hQ => by
  have hb : ∃ b, swapsWith (.ListComp elt (⟨t, it, ifs, 0⟩ :: r) sc pos) (some (.Name x px)) p.line env = pure b := ⟨_, rfl⟩
  obtain ⟨b, hb⟩ := hb
  refine obind he fun v hv he => omap (C := fun p => p = (fl, m') → _) (b := (fl, m')) he (fun xss hr e => ?_) rfl
  cases e
  have a₁ := a.frz (esc (.lcomp (.lcomp te gs' cap' n') (.cons tg ti tifs gs) cap n))
  have ne := ne_frz (esc (.lcomp (.lcomp te gs' cap' n') (.cons tg ti tifs gs) cap n)) m
  cases b with
  | false => exact wpAny_Assign_Name (ser_lcomp hc hn g h a₁.at ne hv fun D s₁ st nD r rx => obind hr fun xs hx hr => by
      cases r.ol hx with | mk rl =>
      obtain ⟨M, nw, _, sf⟩ := rowsF a₁ st (W := []) nD (fun b hb => absurd hb List.not_mem_nil) (fun b hb => absurd hb List.not_mem_nil) List.not_mem_nil rl rx hr i
      exact storeF (sl := .oll xss) ⟨a.room, st.inv, a.eo, a₁.fr.addM nw a₁.inv st⟩ ho hi sf fun s'' b => hQ.nx b.fa ((a.dropSk _).trans ((nw.sk st a₁.fr.ox).trans b.sk b.fa.fr.ox) b.fa.fr.ox)) hb
  | true =>
    subst hc hn
    rw [exec_Assign_Name_used _ _ _ _ hb]
    refine wpAny_bind (wpAny_standAt (wpAny_bind ?_))
    show wpAny _ A (do let _ ← comprehension (.ListComp elt (⟨t, it, ifs, 0⟩ :: r) sc pos) sc env _ (newList []) false (eval it env) (some (assign (.Name x px) env))) _ _ s
    refine obind hv fun xs hx hv => oif (C := fun (v : V) => v.ol.bind rowsOf = some xss → _) hv (fun hl hr => ?_) hr
    have key : ∀ {pos' : Pos} {Q' : Value → Shared → Prop}, (∀ s', Q .next s' → Q' .none s') → wpAny (model G.prog G.w) A (comprehension (.ListComp elt (⟨t, it, ifs, 0⟩ :: r) sc pos) sc env pos' (newList []) false (eval it env) (some (assign (.Name x px) env))) Q' X s := fun {pos' Q'} hq =>
      comp_any (pos := pos') (use := some (assign (.Name x px) env)) (Q := Q') compE_list g (em_rows h) newAc_rows a₁.at ne.l ne.r hx hl fun C D s' cd => storeR (px := px) (Q := Q') a₁ ho hi hr cd fun Θ' s'' fa sk => hq _ (hQ.nx fa ((a.dropSk _).trans sk fa.fr.ox))
    exact wpAny_bind (key fun s' h => wpAny_pure (wpAny_pure h))
end
theorem in4 {z TO i1 i2 b : Addr} {C : Prop} (h : b ∈ [z, TO, i1, i2]) (h1 : b = z → C) (h2 : b = TO → C) (h3 : b = i1 → C) (h4 : b = i2 → C) : C :=
  (List.mem_cons.mp h).elim h1 fun h => (List.mem_cons.mp h).elim h2 fun h => fp2 h h3 h4
open Builtin
section
variable {prog : Program} {w : World} {A : Around} {E : Value → Shared → Prop} {s : Shared}
abbrev zt1 (h : Heap) (l1 : Addr) : Heap := h.push { cls := .type "tuple_iterator", data := .fields #[.ref l1, .int 0 0] }
abbrev zt2 (h : Heap) (l1 l2 : Addr) : Heap := (zt1 h l1).push { cls := .type "tuple_iterator", data := .fields #[.ref l2, .int 0 0] }
abbrev zt3 (h : Heap) (l1 l2 : Addr) : Heap := (zt2 h l1 l2).push { cls := .type "tuple", data := .seq #[.ref h.objs.size, .ref (zt1 h l1).objs.size] }
abbrev zt4 (h : Heap) (l1 l2 : Addr) : Heap := (zt3 h l1 l2).push { cls := .type "tuple", data := .seq #[.none, .none] }
abbrev zt5 (h : Heap) (l1 l2 : Addr) : Heap := (zt4 h l1 l2).push { cls := .type "zip", data := .fields #[.none, .bool false, .bool false, .ref (zt2 h l1 l2).objs.size, .ref (zt3 h l1 l2).objs.size] }
theorem meets_zip_newT (l1 l2 : Addr) (xs ys : Array Value) :
    Meets (Builtin.«zip.__new__» ⟨[.type "zip", .ref l1, .ref l2], []⟩) (fun _ R s => s.heap.IsTuple l1 xs ∧ s.heap.IsTuple l2 ys ∧
      R (.ok (.ret (.ref (zt4 s.heap l1 l2).objs.size))) { s with heap := zt5 s.heap l1 l2 }) :=
  .of_wp fun prog w A R s h => by
    obtain ⟨hp, g, d, tk, os⟩ := s; obtain ⟨hl1, hl2, h⟩ := h
    have hsub := sub_zip
    have hL1 : Heap.IsTuple (Shared.heap ⟨hp, g, d, tk, os⟩) l1 xs := hl1
    have hL2 : Heap.IsTuple (Shared.heap ⟨hp.push { cls := .type "tuple_iterator", data := .fields #[.ref l1, .int 0 0] }, g, d, tk, os⟩) l2 ys := hl2.push _
    wp_walk using wpAny_pyIter_tuple hL1, wpAny_pyIter_tuple hL2
    exact ⟨_, rfl, h⟩
theorem call_zipT {l1 l2 : Addr} {xs ys : Array Value} {Q : Value → Shared → Prop} (hl1 : s.heap.IsTuple l1 xs) (hl2 : s.heap.IsTuple l2 ys)
    (h : ∀ h', IsZip h' (s.heap.objs.size + 4) (s.heap.objs.size + 2) (s.heap.objs.size + 3) .none → IsPair h' (s.heap.objs.size + 2) (.ref s.heap.objs.size) (.ref (s.heap.objs.size + 1)) →
      IsPair h' (s.heap.objs.size + 3) .none .none → h'.IsTupleIter s.heap.objs.size l1 0 → h'.IsTupleIter (s.heap.objs.size + 1) l2 0 → h'.objs.size = s.heap.objs.size + 5 →
      (∀ c o, s.heap.get? c = some o → h'.get? c = some o) → Q (.ref (s.heap.objs.size + 4)) { s with heap := h' }) :
    wpAny (model prog w) A (call (.type "zip") [.ref l1, .ref l2]) Q E s := by
  refine callType_new F.called_zip (by decide) (F.typeCall_zip_2 _ _) (F.newCall_zip_2 _ _) (fun obj => F.args_object_init_3 obj _ _) F.entry_zip_new
    (meets_zip_newT l1 l2 xs ys) ⟨hl1, hl2, ?_⟩
  have z1 : (zt1 s.heap l1).objs.size = s.heap.objs.size + 1 := Heap.size_push ..
  have z2 : (zt2 s.heap l1 l2).objs.size = s.heap.objs.size + 2 := by rw [Heap.size_push, z1]
  have z3 : (zt3 s.heap l1 l2).objs.size = s.heap.objs.size + 3 := by rw [Heap.size_push, z2]
  have z4 : (zt4 s.heap l1 l2).objs.size = s.heap.objs.size + 4 := by rw [Heap.size_push, z3]
  have z5 : (zt5 s.heap l1 l2).objs.size = s.heap.objs.size + 5 := by rw [Heap.size_push, z4]
  have g5 : (zt5 s.heap l1 l2).get? (zt4 s.heap l1 l2).objs.size = some _ := Heap.get?_push_size _ rfl
  have g4 : (zt5 s.heap l1 l2).get? (zt3 s.heap l1 l2).objs.size = some _ := Heap.get?_push_of_some _ (Heap.get?_push_size _ rfl)
  have g3 : (zt5 s.heap l1 l2).get? (zt2 s.heap l1 l2).objs.size = some _ := Heap.get?_push_of_some _ (Heap.get?_push_of_some _ (Heap.get?_push_size _ rfl))
  have g2 : (zt5 s.heap l1 l2).get? (zt1 s.heap l1).objs.size = some _ := Heap.get?_push_of_some _ (Heap.get?_push_of_some _ (Heap.get?_push_of_some _ (Heap.get?_push_size _ rfl)))
  have g1 : (zt5 s.heap l1 l2).get? s.heap.objs.size = some _ := Heap.get?_push_of_some _ (Heap.get?_push_of_some _ (Heap.get?_push_of_some _ (Heap.get?_push_of_some _ (Heap.get?_push_size _ rfl))))
  show _ ∧ _
  rw [z2, z3, z4] at g5
  rw [z1, z2] at g3
  rw [z3] at g4
  rw [z1] at g2
  rw [z4]
  exact ⟨⟨_, g5, rfl⟩, h _ g5 g3 g4 ⟨_, g1, rfl, rfl⟩ ⟨_, g2, rfl, rfl⟩ z5 fun c o x =>
    Heap.get?_push_of_some _ (Heap.get?_push_of_some _ (Heap.get?_push_of_some _ (Heap.get?_push_of_some _ (Heap.get?_push_of_some _ x))))⟩
end
noncomputable def BmOk (G : Gd) : Prop := ∃ bm o, G.mg "__builtins__" = some (.ref bm) ∧ bm ≠ builtinsNs ∧ G.h₀.get? bm = some o ∧ o.cls = .type "module" ∧ o.dict = some builtinsNs ∧ o.data = .plain
theorem bm_for {G : Gd} (bm : BmOk G) {A : Around} {s : Shared} {X : Value → Shared → Prop} (i : Inv G s) {g r : Addr} (hg : g = mainGlobals) {Q : Addr → Shared → Prop} (h : Q builtinsNs s) : wpAny (model G.prog G.w) A (builtinsFor g r) Q X s := by
  obtain ⟨bm, ob, e1, e2, e3, e4, e5, e6⟩ := bm
  subst hg
  exact wpAny_builtinsFor i.glob e1 e2 (i.old.get_of_cls e3 (e4 ▸ type_ne)) e4 e5 e6 h
noncomputable def genNames (x y : Str) : List (Str × NameKind) := [(Str.ofString ".0", NameKind.local), (x, NameKind.local), (y, NameKind.local)]
theorem passing_all (n : Nat) : passing (fun _ => true) n 0 = List.range n := by unfold passing; simp
noncomputable def AddAt (zs : List V) (ws us : List Value) : Prop := zs.length = min ws.length us.length ∧ ∀ (i : Nat) va vb, ws[i]? = some va → us[i]? = some vb → ∃ a b t u, va = Value.int a t ∧ vb = Value.int b u ∧ zs[i]? = some (V.int (a + b))
theorem addL_at {G : Gd} {O : Addr → Prop} {h : Heap} {xs : List V} {ws : List Value} (r : VRs G O h xs ws) : ∀ {ys : List V} {us : List Value} {zs : List V}, VRs G O h ys us → addL xs ys = some zs → AddAt zs ws us := by
  induction r with
  | nil => exact fun _ h => Option.some.inj h ▸ ⟨(Nat.zero_min _).symm, fun i va vb e => nos e⟩
  | cons x _ ih =>
    intro ys us zs q
    induction q with
    | nil => exact fun h => Option.some.inj h ▸ ⟨(Nat.min_zero _).symm, fun i va vb _ e => nos e⟩
    | cons y q _ =>
      refine fun h => obind h fun a ha h => obind h fun b hb h => omap (C := fun zs => AddAt zs _ _) h fun zs hz => ?_
      obtain ⟨h1, h2⟩ := ih q hz
      refine ⟨(congrArg (· + 1) h1).trans (Nat.succ_min_succ ..).symm, fun i => ?_⟩
      cases i with
      | zero =>
        intro va vb ea eb
        cases Option.some.inj ea
        cases Option.some.inj eb
        cases x.w.oi ha with | mk t =>
        cases y.w.oi hb with | mk u => exact ⟨a, b, t, u, rfl, rfl, rfl⟩
      | succ i => exact h2 i
theorem in7 {a b c d e f g x : Addr} {C : Prop} (h : x ∈ [a, b, c, d, e, f, g]) (h1 : x = a → C) (h2 : x = b → C) (h3 : x = c → C) (h4 : x = d → C) (h5 : x = e → C) (h6 : x = f → C) (h7 : x = g → C) : C :=
  (List.mem_cons.mp h).elim h1 fun h => (List.mem_cons.mp h).elim h2 fun h => (List.mem_cons.mp h).elim h3 fun h => in4 h h4 h5 h6 h7
section
variable {G : Gd} {c : Cx} {k : Nat} {T : Tx}
theorem se_tzip {f z x y : Str} {pf pz p gp p1 p2 p3 p4 p5 p6 p7 : Pos} {kt : Nat} {a b : Expr} {sc : Scope} {ta tb : E} (bs : Bs G c k T) (bm : BmOk G) (bf : BN T f (.type "tuple")) (bz : BN T z (.type "zip")) (hcd : T.cd = true) (hxy : (x == y) = false) (hxd : (x == ("__debug__" : Str)) = false) (hyd : (y == ("__debug__" : Str)) = false)
    (hk : sc.kind = .function) (hco : sc.isCoroutine = false) (hnm : sc.names = genNames x y) (hlx : sc.names.lookup x = some .local) (hly : sc.names.lookup y = some .local) (nsg : Ns (.GeneratorExp (.BinOp (.Name x p1) .Add (.Name y p2) p3) [⟨.Tuple [.Name x p4, .Name y p5] kt p6, .Call (.Name z pz) [a, b] [] p7, [], 0⟩] sc gp)) (nsa : Ns a) (nsb : Ns b) (ha : SE G c k T a ta) (hb : SE G c k T b tb) :
    SE G c k T (.Call (.Name f pf) [.GeneratorExp (.BinOp (.Name x p1) .Add (.Name y p2) p3) [⟨.Tuple [.Name x p4, .Name y p5] kt p6, .Call (.Name z pz) [a, b] [] p7, [], 0⟩] sc gp] [] p) (.p2 addT ta tb) := fun {A env m s O v Q X} at0 ne hv hQ => obind hv fun v1 e1 hv => obind hv fun v2 e2 hv => by
  obtain ⟨cc, Pt, hcode, hOwn⟩ := at0.eo.code hcd
  have nf : ∀ q ∈ sc.names, q.2 = .local := fun q hq => by
    rw [hnm] at hq
    exact (List.mem_cons.mp hq).elim (fun e => e ▸ rfl) fun hq => (List.mem_cons.mp hq).elim (fun e => e ▸ rfl) fun hq => (List.mem_singleton.mp hq) ▸ rfl
  have hcl : closureFor sc env = pure (clFrom env sc.names []) := closureFor_eq fun p hp => NameKind.noConfusion (nf _ (mem_freeIn.mp hp))
  refine bi_any bs at0 bf (.t _) (.cons nsg .nil) (spl1 nsg ?_)
  refine wpAny_GeneratorExp_walksQT (A := A) at0.room.handled hco hcl (fun y hy e => NameKind.noConfusion ((nf y hy).symm.trans e)) (by rw [hnm]; rfl) hlx hly (beq_eq_false_iff_ne.mp hxy) hk (Nat.lt_of_le_of_lt (Nat.le_add_right _ _) at0.room.depth) ?_ (fun _ => rfl)
  refine bi_any bs at0 bz (.t _) (.cons nsa (.cons nsb .nil)) (spl2 nsa nsb (ha at0 ne.l e1 fun w1 s₁ st₁ r1 => hb (at0.step st₁) ne.r e2 fun w2 s₂ st₂ r2 => ?_))
  refine obind hv fun xs hxs hv => obind hv fun ys hys hv => omap (C := fun v => KV G O s v Q → _) hv (fun zs hz hQ => ?_) hQ
  cases (r1.step st₁.inv st₂).w.ot hxs with | @mk l1 q1 =>
  cases r2.w.ot hys with | @mk l2 q2 =>
  cases q1 with | @mk ws1 n1 g1 hl1 q1 =>
  cases q2 with | @mk ws2 n2 g2 hl2 q2 =>
  obtain ⟨hlen, hint⟩ := addL_at q1 q2 hz
  have lt1 := Heap.lt_size g1
  have lt2 := Heap.lt_size g2
  have st02 := st₁.trans st₂
  refine call_zipT ⟨_, g1, rfl, _, rfl⟩ ⟨_, g2, rfl, _, rfl⟩ fun h' hz' hTI hTO h1 h2 hsz hk' => ?_
  have st₃ : St G s₂ { s₂ with heap := h' } := St.keeps st₂.inv hk' s₂.toks
  have n : ∀ j, s₂.heap.get? (s₂.heap.objs.size + j) = none := fun j => Heap.get?_none_of_le (Nat.le_add_right _ _)
  have nT : ∀ j, ¬ G.Tab (s₂.heap.objs.size + j) := fun j => st₂.inv.freshNotTab (n j)
  refine wpAny_pyIter_zip hz' ⟨st₃.inv.nolim, ?_⟩
  refine gen_code st₃.inv hcode hOwn fun cv s₄ st₄ => ?_
  have st24 := st₃.trans st₄
  refine bm_for bm st₄.inv at0.eo.glob ?_
  have up : ∀ b o, ¬ G.Tab b → h'.get? b = some o → s₄.heap.get? b = some o := fun b o nt e => st₄.kp b o nt e
  have hz4 := up _ _ (nT 4) hz'
  have hTI4 := up _ _ (nT 2) hTI
  have hTO4 := up _ _ (nT 3) hTO
  have g14 := up _ _ (st₂.inv.notTab g1 type_ne) (hk' _ _ g1)
  have g24 := up _ _ (st₂.inv.notTab g2 type_ne) (hk' _ _ g2)
  obtain ⟨o1, i1, c1, d1⟩ := h1
  obtain ⟨o2, i2, c2, d2⟩ := h2
  have i14 := up _ _ (nT 0) i1
  have i24 := up _ _ (nT 1) i2
  have W0 := fun (A' : Around) (hh : A'.handled = none) => (walksZ (prog := G.prog) (w := G.w) (A := A') hh _ _ _ _ _ _ _ (zipApart_new lt1 lt2) (drawsTuple (prog := G.prog) (w := G.w) (A := A'.in1) hh s₂.heap.objs.size l1 (Nat.ne_of_lt lt1) ws1.toArray)
    (drawsTuple (prog := G.prog) (w := G.w) (A := A'.in1) hh (s₂.heap.objs.size + 1) l2 (Nat.ne_of_lt (Nat.lt_succ_of_lt lt2)) ws2.toArray)).toU
  refine ⟨s₂.heap.objs.size + 4, [s₂.heap.objs.size + 4, s₂.heap.objs.size + 2, s₂.heap.objs.size + 3, s₂.heap.objs.size, s₂.heap.objs.size + 1, l1, l2], [s₂.heap.objs.size + 4, s₂.heap.objs.size + 3, s₂.heap.objs.size, s₂.heap.objs.size + 1],
    min ws1.toArray.size ws2.toArray.size, _, _, _, fun _ => true, fun i v => ∃ a t, v = Value.int a t ∧ zs[i]? = some (V.int a), rfl,
    W0, fun i vals q => ?_, ⟨hz4, hTI4, ⟨_, _, hTO4⟩, ⟨⟨o1, i14, c1, d1⟩, ⟨_, g14, rfl, _, rfl⟩⟩, ⟨⟨o2, i24, c2, d2⟩, ⟨_, g24, rfl, _, rfl⟩⟩⟩, fun b hb => ?_, st₄.inv.nolim, fun hb => ?_, fun href hkr => ?_, ?_⟩
  · obtain ⟨xa, xb, _, _, e⟩ := q
    exact ⟨xa, xb, e⟩
  · exact in7 hb (fun e => e ▸ Heap.lt_size hz4) (fun e => e ▸ Heap.lt_size hTI4) (fun e => e ▸ Heap.lt_size hTO4) (fun e => e ▸ Heap.lt_size i14) (fun e => e ▸ Heap.lt_size i24) (fun e => e ▸ Heap.lt_size g14) fun e => e ▸ Heap.lt_size g24
  · obtain ⟨o, e⟩ := at0.inv.gk.lo.2.2
    obtain ⟨o, e⟩ := st₂.inv.old.there _ _ e
    exact in4 hb (fun q => nos ((n 4).symm.trans (q ▸ e))) (fun q => nos ((n 3).symm.trans (q ▸ e))) (fun q => nos ((n 0).symm.trans (q ▸ e))) fun q => nos ((n 1).symm.trans (q ▸ e))
  · refine ⟨fun A' E' i va vb s2 m2 hh hP hn ex ey _ => wpAny_pure ⟨rfl, _, _, rfl, fun _ _ e => e⟩, fun A' E' i va vb s2 m2 hh hP _ hn ex ey _ => ?_⟩
    obtain ⟨x', y', ex', ey', e⟩ := hP
    have e := congrArg Array.toList e
    injection e with e1 e
    injection e with e2 _
    subst e1; subst e2
    obtain ⟨a', b', t, u, e3, e4, ez⟩ := hint i _ _ (List.getElem?_toArray.symm.trans ex') (List.getElem?_toArray.symm.trans ey')
    subst e3; subst e4
    exact wpAny_BinOp (wpAny_Name (wpAny_loadName_local hk hlx hn ex (wpAny_Name (wpAny_loadName_local hk hly hn ey (P.add_int ⟨⟨_, _, rfl, ez⟩, _, _, rfl, fun _ _ e => e⟩)) hyd)) hxd)
  · intro ga h₅ tk gs hbare hga hsz5 hk5 W hst
    rw [passing_all, List.length_range] at W
    have hmin : min ws1.toArray.size ws2.toArray.size = zs.length := by rw [List.size_toArray, List.size_toArray]; exact hlen.symm
    have hbig : zs.length ≤ big := Nat.le_trans (Nat.le_of_eq hlen) (Nat.le_trans (Nat.min_le_left ..) hl1)
    refine call_tuple_gen (hsz := Nat.le_trans (Nat.le_of_eq hmin) (Nat.le_trans hbig big_le)) W.in4_3 (fun i s st => ?_) hst (fun b hb => ?_) (List.mem_cons_self ..) fun s' acc hm hacc => ?_
    · obtain ⟨⟨o, _, _, e, c, _⟩, _⟩ := st
      exact ⟨o, e, c⟩
    · rw [hsz5]
      exact (List.mem_cons.mp hb).elim (fun e => e ▸ Nat.lt_succ_self _) fun hb => (List.mem_cons.mp hb).elim (fun e => e ▸ Nat.lt_succ_of_lt hga) fun hb => Nat.lt_succ_of_lt (Nat.lt_trans (List.mem_range.mp hb) hga)
    · have kp4 : ∀ b o, b ∉ [s₂.heap.objs.size + 4, s₂.heap.objs.size + 3, s₂.heap.objs.size, s₂.heap.objs.size + 1] → s₄.heap.get? b = some o → s'.heap.get? b = some o := fun b o hb e => hm.heap b o (fun hb' => (List.mem_cons.mp hb').elim (fun q => nos ((get_size _).symm.trans (q ▸ e))) hb) (hk5 b o e)
      have fj : ∀ b ∈ [s₂.heap.objs.size + 4, s₂.heap.objs.size + 3, s₂.heap.objs.size, s₂.heap.objs.size + 1], ∃ j, b = s₂.heap.objs.size + j := fun b hb => in4 hb (fun e => ⟨_, e⟩) (fun e => ⟨_, e⟩) (fun e => ⟨0, e⟩) fun e => ⟨_, e⟩
      have stA := (st02.trans st24).butNew (W := fun b => b ∈ [s₂.heap.objs.size + 4, s₂.heap.objs.size + 3, s₂.heap.objs.size, s₂.heap.objs.size + 1]) (h' := s'.heap) at0.inv (fun b hb => by obtain ⟨j, e⟩ := fj b hb; exact e ▸ st02.fresh st₂.inv (n j))
        (fun b hb => in4 hb (fun e => e ▸ cls_rec hz4 rfl rfl) (fun e => e ▸ cls_rec hTO4 rfl rfl) (fun e => e ▸ cls_rec i14 c1 rfl) fun e => e ▸ cls_rec i24 c2 rfl) kp4 s'.toks
      have bare' : AllBare s'.gens := GenOnlyQ.bare hm.gens fun y hy => (AllBare.push st₄.inv.bare hbare) y hy
      have inv2 : Inv G s' := ⟨stA.inv.gk, stA.inv.old, stA.inv.glob, stA.inv.bts, stA.inv.nolim, bare', hm.os.trans st₄.inv.os, stA.inv.tab, stA.inv.fresh⟩
      have stF : St G s s' := ⟨inv2, stA.kp, stA.tb⟩
      have hal : zs.length = acc.toList.length := hmin.symm.trans (hacc.1.symm.trans Array.length_toList.symm)
      have gq : (s'.heap.push { cls := .type "tuple", data := .seq acc }).get? s'.heap.objs.size = some { cls := .type "tuple", data := .seq acc.toList.toArray 0 } := Heap.get?_push_size _ rfl
      refine hQ _ _ (stF.trans (St.push inv2 _ s'.toks)) (.mkT (at0.er.ox.step stF).fresh ⟨gq, hal ▸ hbig, .of hal fun i v w hv hw => ?_⟩)
      obtain ⟨i', e1, a', t, e2, e3⟩ := hacc.2 i w (Array.getElem?_toList.symm.trans hw)
      have hi := get_lt e1
      rw [List.getElem?_range (Nat.lt_of_lt_of_eq hi List.length_range)] at e1
      cases Option.some.inj e1
      cases Option.some.inj (hv.symm.trans e3)
      exact e2 ▸ .int _ _
end
structure ClB (G : Gd) (B : Th) (s : Shared) (mi : Fr) (sc : Scope) (cl : List (Str × Addr)) : Prop where
  ox : OX G B.dom s.heap
  bn : ∀ a, B.mine a → G.h₀.get? a = none
  hcl : ∀ x ∈ freeIn sc, ∃ c v, cl.lookup x = some c ∧ ¬ G.Tab c ∧ ¬ B.mine c ∧ s.heap.IsCell c v
  hm : ∀ j sl, mi.at j = some sl → ∃ x ∈ freeIn sc, idxOf (sig sc) x = j ∧ ∃ c y, cl.lookup x = some c ∧ s.heap.IsCell c (some y) ∧
      ∀ env' : Env, env'.scope = sc → (∀ z ∈ freeIn sc, env'.kindOf z = some .free ∧ env'.cells.lookup z = cl.lookup z) → SF G B s.heap env' j sl y
noncomputable def Back (G : Gd) (Θ' : Th) (h : Heap) (m' : Fr) (sc : Scope) (cl : List (Str × Addr)) : Prop := ∀ x ∈ freeIn sc, ∀ xs, m'.at (idxOf (sig sc) x) = some (.ol xs) → ∃ c b, cl.lookup x = some c ∧ h.IsCell c (some (.ref b)) ∧ Θ' b = some (.slot (idxOf (sig sc) x)) ∧ LstA (VR G Θ'.dom h) h b xs
noncomputable def CloOk (G : Gd) (c : Cx) (k : Nat) : Prop := ∀ {f vs mi v m'}, c.clo f vs mi = some (v, m') → ∀ {N}, G.nest f = some N → ∀ {A s B env a o fd ys} {R : Result → Shared → Prop}, Room A k → Inv G s → CloIs G s.heap env f a o fd N →
  ClB G B s mi N.scope fd.closure → VRs G B.dom s.heap vs ys → (∀ y Θ' s', Sk G B s Θ' s' → VR G Θ'.dom s'.heap v y → Back G Θ' s'.heap m' N.scope fd.closure → R (.ok (.ret y)) s') → codeAny (model G.prog G.w) A (.call (.ref a) ⟨ys, []⟩) R s
noncomputable def NstOk (G : Gd) (T : Tx) : Prop := ∀ x f sg fr, T.nst.lookup x = some (f, sg, fr) → ∃ N, G.nest f = some N ∧ sg = sig N.scope ∧ fr = freeIn N.scope
structure Bz (G : Gd) (c : Cx) (k : Nat) (T : Tx) : Prop extends Bs G c k T where
  clo : CloOk G c k
  nst : NstOk G T
theorem cell_fun {h : Heap} {c : Addr} {v w : Option Value} (x : h.IsCell c v) (y : h.IsCell c w) : v = w := by
  obtain ⟨o, e, d⟩ := x
  obtain ⟨o', e', d'⟩ := y
  cases Option.some.inj (e.symm.trans e')
  have q := d.symm.trans d'
  injection q
theorem isClo_of {f : Nat} {sl : Slot} (h : isClo f sl = true) : sl = .clo f := by
  cases sl with
  | clo g => exact congrArg Slot.clo (eq_of_beq h)
  | _ => exact Bool.noConfusion h
section
variable {G : Gd} {c : Cx} {k : Nat} {T : Tx}
theorem VarIs.cell {h : Heap} {env : Env} {x : Str} {y : Value} (v : VarIs G h env x y) (hk : env.kindOf x = some .cell ∨ env.kindOf x = some .free) : ∃ c, env.cells.lookup x = some c ∧ ¬ G.Tab c ∧ h.IsCell c (some y) := by
  cases v with
  | loc h => exact hk.elim (fun h' => NameKind.noConfusion (Option.some.inj (h.symm.trans h'))) fun h' => NameKind.noConfusion (Option.some.inj (h.symm.trans h'))
  | cel _ hc nt hv => exact ⟨_, hc, nt, hv⟩
theorem CloA.inner {O O' : Addr → Prop} {h : Heap} {env env' : Env} {f : Nat} {y : Value} {N : Nest} {cl : List (Str × Addr)} (hN : G.nest f = some N) (r : CloA G O h env f y) (hO : ∀ a, O' a → O a) (hcl : ∀ z ∈ freeIn N.scope, cl.lookup z = env.cells.lookup z)
    (hz : ∀ z ∈ freeIn N.scope, env'.kindOf z = some .free ∧ env'.cells.lookup z = cl.lookup z) : CloA G O' h env' f y := by
  cases r with | @mk a o fd N' no r =>
  cases Option.some.inj (hN.symm.trans r.nest)
  exact .mk (fun q => no (hO _ q)) ⟨r.get, r.cls, r.data, r.nest, r.params, r.body, r.scope, r.globals, r.builtins, r.defaults, r.code, fun z q => ⟨.inr (hz z q).1, (r.free z q).2.trans ((hcl z q).symm.trans (hz z q).2.symm)⟩⟩
theorem outs_keep {O : Addr → Prop} {h : Heap} : Keep O (outs O).dom h h := fun a o e _ no => ⟨fun d => no (outs_dom d), e⟩
theorem vrs_outs {O : Addr → Prop} {h : Heap} {vs : List V} {ys : List Value} (r : VRs G O h vs ys) : VRs G (outs O).dom h vs ys := VRs.mono outs_keep r
theorem se_clo {f : Str} {pf p : Pos} {es : List Expr} {ts : Es} {kf i n : Nat} {sg : List (Str × Bool)} {fr : List Str} {cap : List (Nat × Nat)} (bs : Bz G c k T) (hn : T.nst.lookup f = some (kf, sg, fr)) (nm : NmOk T f i) (hc : capOf sg T.sg fr = cap) (hl : sg.length = n) (h : SEs G c k T es ts) :
    SE G c k T (.Call (.Name f pf) es [] p) (.clo i kf ts cap n) := fun {A env m s O v Q X} a ne hv hQ => obind hv fun sl hsl hv => by
  subst hc hl
  obtain ⟨N, hN, e1, e2⟩ := bs.nst _ _ _ _ hn
  subst e1 e2
  cases hq : isClo kf sl with
  | false => rw [hq] at hv; exact nos hv
  | true =>
  rw [hq] at hv
  cases isClo_of hq
  refine obind (o := evs c m ts) hv fun vs hvs hv => omap (C := fun v => KV G O s v Q → _) hv (fun r hr hQ => ?_) hQ
  obtain ⟨v, m'⟩ := r
  refine wpAny_Call_ofName (name_any a nm hsl fun y vi sr => ?_)
  cases sr with | clo r =>
  cases r with | @mk fa o fd N' nO ci =>
  cases Option.some.inj (hN.symm.trans ci.nest)
  refine Calls.callWith_function (o := o) (fd := fd) (evalArgs_any h.plain (h.run a ne.l hvs fun xs s₁ st _ rxs => ?_))
  have a₁ := a.step st
  have ci₁ := ci.kp (st.kp _ _ (a.inv.notTab ci.get ci.cls) ci.get) st.tb
  refine ⟨⟨ci₁.get, ci.data⟩, wpAny_call (bs.clo hr hN a.room st.inv ci₁ (B := outs O) ⟨fun b d => a₁.er.ox b (outs_dom d), fun b q => absurd q outs_mine, fun x hx => ?_, fun j sl hj => captured hj fun x hx e1 e2 hg => ⟨x, hx, e1, ?_⟩⟩ (vrs_outs rxs) fun y Θ' s' sk r _ => ?_)⟩
  · obtain ⟨hk, e⟩ := ci.free x hx
    cases a₁.er.cel x hk with | mk e' nt hv => exact ⟨_, _, e.trans e', nt, outs_mine, hv⟩
  · obtain ⟨hk, e⟩ := ci.free x hx
    have hno := cap_ne ne.r hx e2
    rw [← a.eo.sg] at e2
    obtain ⟨y, vi, sr⟩ := a₁.er.var x sl (hk.elim (fun h => kind_isVar h rfl) fun h => kind_isVar h rfl) e2
    obtain ⟨cc, ec, nt, hcell⟩ := vi.cell hk
    refine ⟨cc, y, e.trans ec, hcell, fun env' he hz => ?_⟩
    cases sr with
    | v r => exact ⟨.v (r.mono outs_keep), fun a e => no_has rfl e⟩
    | clo r =>
      cases eq_of_beq (hg _ rfl)
      exact ⟨.clo (r.inner hN (fun b d => outs_dom d) (fun z hz => (ci.free z hz).2) hz), fun a e => no_has rfl e⟩
    | _ => exact Bool.noConfusion hno
  · exact hQ y s' (st.trans ⟨sk.inv, fun b o' nt e => sk.kp b o' nt outs_mine e, sk.tb⟩) (r.mono fun b o' e _ no => ⟨fun d => no ⟨_, (sk.out b).mp (outs_of d)⟩, e⟩)
end
inductive BackI (m' q : Fr) (p : Nat × Nat) : Option Slot → Fr → Prop
  | ol {xs xs' : List V} (e : m'.at p.1 = some (.ol xs')) : BackI m' q p (some (.ol xs)) (q.set p.2 (some (.ol xs')))
  | no {o : Option Slot} (h2 : ∀ s, o = some s → s.isOwn = false) : BackI m' q p o q
theorem backIn_of {m' q r : Fr} {p : Nat × Nat} {o : Option Slot} : backIn m' q p o = some r → BackI m' q p o r := by
  cases o with
  | none => exact fun h => Option.some.inj h ▸ .no (fun _ e => nos e)
  | some s =>
    cases s with
    | ol xs =>
      unfold backIn
      cases e : m'.at p.1 with
      | none => exact nos
      | some s' =>
        cases s' with
        | ol xs' => exact fun h => Option.some.inj h ▸ .ol e
        | _ => exact nos
    | od => exact nos
    | oll => exact nos
    | v => exact fun h => Option.some.inj h ▸ .no (fun _ e => by cases e; rfl)
    | clo => exact fun h => Option.some.inj h ▸ .no (fun _ e => by cases e; rfl)
structure CapB (m' m : Fr) (cap : List (Nat × Nat)) (q : Fr) : Prop where
  od : ∀ p ∈ cap, ∀ s, m.at p.2 = some s → s.isOwn = true → ∃ xs, s = .ol xs
  ol : ∀ p ∈ cap, ∀ xs, m.at p.2 = some (.ol xs) → ∃ xs', m'.at p.1 = some (.ol xs')
  val : ∀ j sl, q.at j = some sl → (m.at j = some sl ∧ ∀ p ∈ cap, p.2 = j → ∀ xs, sl ≠ .ol xs) ∨ ∃ p ∈ cap, p.2 = j ∧ ∃ xs xs', m.at j = some (.ol xs) ∧ m'.at p.1 = some (.ol xs') ∧ sl = .ol xs'
theorem capBack_of {m' m : Fr} {cap : List (Nat × Nat)} : ∀ {q : Fr}, capBack m' m cap = some q → CapB m' m cap q := by
  induction cap with
  | nil => exact fun h => Option.some.inj h ▸ ⟨fun p hp => absurd hp List.not_mem_nil, fun p hp => absurd hp List.not_mem_nil, fun j sl e => .inl ⟨e, fun p hp => absurd hp List.not_mem_nil⟩⟩
  | cons p r ih =>
    intro q h
    refine obind h fun q0 h0 h => ?_
    obtain ⟨i1, i2, i3⟩ := ih h0
    have hb := backIn_of h
    generalize ho : m.at p.2 = o at hb
    cases hb with
    | @ol xs xs' e =>
      refine ⟨fun p' hp => (List.mem_cons.mp hp).elim (fun e' s es _ => ⟨xs, Option.some.inj ((e' ▸ es).symm.trans ho)⟩) (i1 p'), fun p' hp => (List.mem_cons.mp hp).elim (fun e' _ _ => ⟨xs', e' ▸ e⟩) (i2 p'), fun j sl ej => at_set ej (fun jq es => ?_) fun nj ej => ?_⟩
      · cases es; exact .inr ⟨p, List.mem_cons_self .., jq.symm, xs, xs', jq ▸ ho, e, rfl⟩
      · rcases i3 j sl ej with ⟨a, b⟩ | ⟨p', hp', r'⟩
        · exact .inl ⟨a, fun p' hp => (List.mem_cons.mp hp).elim (fun e hj => absurd (e ▸ hj : p.2 = j).symm nj) (b p')⟩
        · exact .inr ⟨p', List.mem_cons_of_mem _ hp', r'⟩
    | no h2 =>
      have h1 : ∀ xs, o ≠ some (.ol xs) := fun xs e => Bool.noConfusion (h2 _ e)
      refine ⟨fun p' hp => (List.mem_cons.mp hp).elim (fun e' s es hs => Bool.noConfusion ((h2 s (ho.symm.trans (e' ▸ es))).symm.trans hs)) (i1 p'), fun p' hp => (List.mem_cons.mp hp).elim (fun e' xs e => absurd ((e' ▸ ho).symm.trans e) (h1 xs)) (i2 p'), fun j sl ej => ?_⟩
      rcases i3 j sl ej with ⟨a, b⟩ | ⟨p', hp', r'⟩
      · exact .inl ⟨a, fun p' hp => (List.mem_cons.mp hp).elim (fun e hj xs es => h1 xs (ho.symm.trans ((e ▸ hj : p.2 = j) ▸ a |>.trans (congrArg some es)))) (b p')⟩
      · exact .inr ⟨p', List.mem_cons_of_mem _ hp', r'⟩
noncomputable def cloTh (Θ : Th) (P : Nat → Addr → Prop) : Th := open Classical in fun b => if Θ.dom b then (if h : ∃ j, P j b then some (.slot (Classical.choose h)) else some .out) else none
section
variable {G : Gd} {c : Cx} {k : Nat} {T : Tx} {A : Around} {env : Env} {m m' q : Fr} {Θ Θ' : Th} {s s' : Shared} {P : Nat → Addr → Prop}
theorem cloTh_at (hu : ∀ {i j b}, P i b → P j b → i = j) {b : Addr} {j : Nat} (d : Θ.dom b) (p : P j b) : cloTh Θ P b = some (.slot j) :=
  (if_pos d).trans ((dif_pos ⟨j, p⟩).trans (congrArg (fun i => some (Owner.slot i)) (hu (Classical.choose_spec (p := fun j => P j b) ⟨j, p⟩) p)))
theorem cloTh_dom {b : Addr} (d : (cloTh Θ P).dom b) : Θ.dom b := by
  obtain ⟨w, e⟩ := d
  by_cases h : Θ.dom b
  · exact h
  · exact nos ((if_neg h).symm.trans e)
theorem cloTh_mine {b : Addr} (x : (cloTh Θ P).mine b) : ∃ j, P j b := by
  have d := cloTh_dom (mine_dom x)
  by_cases h : ∃ j, P j b
  · exact h
  · exact absurd x (not_mine ((if_pos d).trans (dif_neg h)))
theorem cloTh_cases {b : Addr} (d : Θ.dom b) : (cloTh Θ P).mine b ∨ cloTh Θ P b = some .out := by
  by_cases h : ∃ j, P j b
  · exact .inl ⟨_, (if_pos d).trans (dif_pos h), fun e => Owner.noConfusion e⟩
  · exact .inr ((if_pos d).trans (dif_neg h))
theorem cloSk (hP : ∀ {j b}, P j b → ∃ i, Θ b = some (.slot i)) (ox : OX G Θ.dom s.heap) (x : Sk G (cloTh Θ P) s Θ' s') : Sk G Θ s Θ s' := by
  have hm : ∀ b, (cloTh Θ P).mine b → Θ.mine b := fun b q => (cloTh_mine q).elim fun j p => (hP p).elim fun i t => th_mine t fun e => Owner.noConfusion e
  exact ⟨x.inv, fun b o nt n e => x.kp b o nt (fun q => n (hm b q)) e, fun _ => Iff.rfl, fun _ d => .inl d, fun b q => by
    by_cases n : (cloTh Θ P).mine b
    · exact x.liv b n
    · obtain ⟨nt, o, e⟩ := ox b (mine_dom q)
      exact ⟨o, x.kp b o nt n e⟩, x.tb, fun b t => ⟨t, fun o e => x.kp b o (ox b ⟨_, t⟩).1 (fun q => (cloTh_mine q).elim fun j p => (hP p).elim fun i t' => Owner.noConfusion (th_ne t t')) e⟩⟩
inductive CloP (Θ : Th) (m : Fr) (inner outer : List (Str × Bool)) (fr : List Str) (cl : List (Str × Addr)) (h : Heap) (j : Nat) (b : Addr) : Prop
  | mk {x : Str} {xs : List V} {cc : Addr} (hx : x ∈ fr) (hj : idxOf inner x = j) (hm : m.at (idxOf outer x) = some (.ol xs)) (t : Θ b = some (.slot (idxOf outer x))) (hc : cl.lookup x = some cc) (hv : h.IsCell cc (some (.ref b)))
variable {inner : List (Str × Bool)} {fr : List Str} {cl : List (Str × Addr)}
theorem CloP.t {outer : List (Str × Bool)} {h : Heap} {j : Nat} {b : Addr} (p : CloP Θ m inner outer fr cl h j b) : ∃ i, Θ b = some (.slot i) := by cases p with | mk _ _ _ t => exact ⟨_, t⟩
theorem slot_inj {i j : Nat} {b : Addr} (t : Θ b = some (.slot i)) (t' : Θ b = some (.slot j)) : i = j := by
  have e := th_ne t t'
  injection e
theorem CloP.fun {outer : List (Str × Bool)} {h : Heap} (ho : ∀ x ∈ fr, x ∈ outer.map (·.1)) {i j : Nat} {b : Addr} (p : CloP Θ m inner outer fr cl h i b) (q : CloP Θ m inner outer fr cl h j b) : i = j := by
  induction p with | mk hx hj _ t =>
  cases q with | mk hx' hj' _ t' =>
  cases idx_inj (ho _ hx) (slot_inj t t')
  exact hj.symm.trans hj'
theorem cloFr (a : FA G k T A env m Θ s) (ho : ∀ x ∈ fr, x ∈ T.sg.map (·.1)) (hfr : ∀ x ∈ fr, (env.kindOf x = some .cell ∨ env.kindOf x = some .free) ∧ cl.lookup x = env.cells.lookup x) (x : Sk G (cloTh Θ (CloP Θ m inner T.sg fr cl s.heap)) s Θ' s')
    (cb : CapB m' m (capOf inner T.sg fr) q) (bk : ∀ x ∈ fr, ∀ xs, m'.at (idxOf inner x) = some (.ol xs) → ∃ c b, cl.lookup x = some c ∧ s'.heap.IsCell c (some (.ref b)) ∧ Θ' b = some (.slot (idxOf inner x)) ∧ LstA (VR G Θ'.dom s'.heap) s'.heap b xs) : FA G k T A env q Θ s' := by
  have sk := cloSk CloP.t a.fr.ox x
  have cnm : ∀ z c, env.kindOf z = some .cell ∨ env.kindOf z = some .free → env.cells.lookup z = some c → ∀ v, s.heap.IsCell c v → ¬ G.Tab c → s'.heap.IsCell c v := fun z c hk e v hv nt => cell_kp hv fun o g => by
    by_cases hw : z ∈ T.ow
    · have t := a.fr.cel z c hw hk e
      exact x.kp c o nt (fun q => (cloTh_mine q).elim fun j p => p.t.elim fun i t' => Owner.noConfusion (th_ne t t')) g
    · exact sk.kp c o nt (a.fr.fre z c hw hk e) g
  have back : ∀ {z xs b}, z ∈ fr → m.at (idxOf T.sg z) = some (.ol xs) → VarIs G s.heap env z (.ref b) → ∃ xs', m'.at (idxOf inner z) = some (.ol xs') ∧ (∃ i, Θ' b = some (.slot i)) ∧ LstA (VR G Θ'.dom s'.heap) s'.heap b xs' := fun {z xs b} hz hm v => by
    obtain ⟨hk, ek⟩ := hfr z hz
    obtain ⟨xs', e'⟩ := cb.ol _ (List.mem_map_of_mem hz) xs hm
    obtain ⟨c', b', e3, e4, e5, l⟩ := bk z hz xs' e'
    obtain ⟨cc, ec, nt, hv⟩ := v.cell hk
    have ec' := ek.symm.trans e3
    have eb := Value.ref.inj (Option.some.inj (cell_fun (cnm z c' hk ec' _ (Option.some.inj (ec.symm.trans ec') ▸ hv) (Option.some.inj (ec.symm.trans ec') ▸ nt)) e4))
    subst eb
    exact ⟨xs', e', ⟨_, e5⟩, l⟩
  have tdom : ∀ b, Θ.dom b → Θ'.dom b := fun b hb => by
    rcases cloTh_cases (P := CloP Θ m inner T.sg fr cl s.heap) hb with n | t
    · obtain ⟨j, p⟩ := cloTh_mine n
      cases p with | @mk z xs cc hz hj hm t hc hv =>
      obtain ⟨hk, ek⟩ := hfr z hz
      cases a.fr.cells z hk with | mk e' nt hv' =>
      obtain ⟨_, _, ⟨i, t⟩, _⟩ := back hz hm (.cel hk (ek.symm.trans hc) (Option.some.inj (e'.symm.trans (ek.symm.trans hc)) ▸ nt) hv)
      exact ⟨_, t⟩
    · exact ⟨_, (x.out b).mp t⟩
  refine ⟨a.room, x.inv, a.eo, a.fr.map (fun b w t f => ⟨t, fun o e => x.kp b o (a.fr.there t).1 (fun q => (cloTh_mine q).elim fun j p => p.t.elim fun i t' => by
    cases th_ne t t'; cases f) e⟩) (fun b o nt n e => ⟨n, sk.kp b o nt n e⟩) (fun b d => ⟨(a.fr.ox b d).1, ?_⟩) a.fr.new fun z sl hz hm => ?_⟩
  · rcases dom_cases d with t | n
    · obtain ⟨nt, o, e⟩ := a.fr.ox b d
      exact ⟨o, sk.kp b o nt (not_mine t) e⟩
    · exact sk.liv b n
  · rw [a.eo.sg] at hm hz ⊢
    rcases cb.val _ sl hm with ⟨e, nc⟩ | ⟨p, hp, ej, xs0, xs', e1, e2, es⟩
    · refine ⟨sl, e, fun y _ r => r.map (sk.keep a.inv) (fun b t => ⟨t, fun o g => x.kp b o (a.fr.there t).1 (fun q => ?_) g⟩) sk.tb⟩
      obtain ⟨j, p⟩ := cloTh_mine q
      cases p with | @mk z' xs cc hz' hj hm' t' =>
      have ei := slot_inj t' t
      exact nc _ (List.mem_map_of_mem hz') ei xs (Option.some.inj (e.symm.trans (ei ▸ hm')))
    · obtain ⟨z', hz', ep⟩ := List.mem_map.mp hp
      subst ep es
      cases idx_inj (ho z' hz') ej
      refine ⟨.ol xs0, e1, fun y v r => ?_⟩
      obtain ⟨sr, own⟩ := r
      cases sr with | ol r =>
      obtain ⟨xs'', e3, _, l⟩ := back hz' e1 v
      cases e2.symm.trans e3
      exact ⟨.ol (l.mono (fun b o e _ n => ⟨fun d => n (tdom b d), e⟩) fun o e _ => e), fun b h => has_one (fun _ e => Slot.noConfusion e) h ▸ own _ (.top rfl)⟩
theorem ss_cloS {f : Str} {pf p pp : Pos} {es : List Expr} {ts : Es} {kf i n : Nat} {sg : List (Str × Bool)} {fr : List Str} {cap : List (Nat × Nat)} (bs : Bz G c k T) (hn : T.nst.lookup f = some (kf, sg, fr)) (nm : NmOk T f i) (hc : capOf sg T.sg fr = cap) (hl : sg.length = n) (h : SEs G c k T es ts) :
    SS G c k T (.Expr (.Call (.Name f pf) es [] p) pp) (.cloS i kf ts cap n) := fun {A env m Θ s fl m' Q X} a he hQ => obind he fun sl hsl he => by
  subst hc hl
  obtain ⟨N, hN, e1, e2⟩ := bs.nst _ _ _ _ hn
  subst e1 e2
  cases hq : isClo kf sl with
  | false => rw [hq] at he; exact nos he
  | true =>
  rw [hq] at he
  cases isClo_of hq
  refine obind (o := evs c (m.frzs ts) ts) he fun vs hvs he => obind he fun r hr he => ?_
  refine omap (C := fun p => p = (fl, m') → _) (b := (fl, m')) he (fun q hcb e => ?_) rfl
  cases e
  have cb := capBack_of hcb
  have a₁ := a.frz (escs ts)
  refine wpAny_Expr_any (wpAny_Call_ofName (nameF a₁ nm hsl fun y vi sf => ?_)) (inter a) rfl
  obtain ⟨sr, _⟩ := sf
  cases sr with | clo r =>
  cases r with | @mk fa o fd N' nO ci =>
  cases Option.some.inj (hN.symm.trans ci.nest)
  refine Calls.callWith_function (o := o) (fd := fd) (evalArgs_any h.plain (h.run a₁.at (ne_frz _ _) hvs fun xs s₁ st _ rxs => ?_))
  have a₂ := a₁.step st
  have ci₁ := ci.kp (st.kp _ _ (a.inv.notTab ci.get ci.cls) ci.get) st.tb
  have ho : ∀ x ∈ freeIn N.scope, x ∈ T.sg.map (·.1) := fun x hx => isVar_mem (a.eo.sg ▸ (ci.free x hx).1.elim (fun h => kind_isVar h rfl) fun h => kind_isVar h rfl)
  have hfr := ci.free
  refine ⟨⟨ci₁.get, ci.data⟩, wpAny_call (bs.clo hr hN a.room st.inv ci₁ (B := cloTh (Θ.drop (escs ts).contains) (CloP (Θ.drop (escs ts).contains) (frzAt (escs ts) 0 m) (sig N.scope) T.sg (freeIn N.scope) fd.closure s₁.heap)) ⟨fun b d => a₂.fr.ox b (cloTh_dom d), fun b q => ?_, fun x hx => ?_, fun j sl hj => captured hj fun x hx e1 e2 hg => ?_⟩ (VRs.mono (fun b o e _ n => ⟨fun d => n (cloTh_dom d), e⟩) rxs) fun y Θ' s' sk r bk => ?_)⟩
  · obtain ⟨j, p⟩ := cloTh_mine q
    obtain ⟨i, t⟩ := p.t
    exact a₂.fr.new b (th_mine t fun e => Owner.noConfusion e)
  · obtain ⟨hk, e⟩ := hfr x hx
    cases a₂.fr.cells x hk with | @mk cc v e' nt hv =>
    refine ⟨cc, _, e.trans e', nt, fun q => ?_, hv⟩
    obtain ⟨j, p⟩ := cloTh_mine q
    obtain ⟨i, t⟩ := p.t
    by_cases hw : x ∈ T.ow
    · exact Owner.noConfusion (th_ne (a₂.fr.cel x cc hw hk e') t)
    · exact a₂.fr.fre x cc hw hk e' (th_mine t fun e => Owner.noConfusion e)
  · obtain ⟨hk, e⟩ := hfr x hx
    have e2' := e2
    rw [← a.eo.sg] at e2
    obtain ⟨y, vi, sf⟩ := a₂.fr.var x sl (hk.elim (fun h => kind_isVar h rfl) fun h => kind_isVar h rfl) e2
    obtain ⟨cc, ec, nt, hcell⟩ := vi.cell hk
    refine ⟨x, hx, e1, cc, y, e.trans ec, hcell, fun env' he hz => ?_⟩
    obtain ⟨sr, own⟩ := sf
    have kp : Keep (Th.dom (Θ.drop (escs ts).contains)) (cloTh (Θ.drop (escs ts).contains) (CloP (Θ.drop (escs ts).contains) (frzAt (escs ts) 0 m) (sig N.scope) T.sg (freeIn N.scope) fd.closure s₁.heap)).dom s₁.heap s₁.heap := fun b o e _ n => ⟨fun d => n (cloTh_dom d), e⟩
    cases sr with
    | v r => exact ⟨.v (r.mono kp), fun a e => no_has rfl e⟩
    | clo r =>
      cases eq_of_beq (hg _ rfl)
      exact ⟨.clo (r.inner hN (fun b d => cloTh_dom d) (fun z hz => (hfr z hz).2) hz), fun a e => no_has rfl e⟩
    | ol r =>
      refine ⟨.ol (r.mono kp fun o e _ => e), fun b' x' => ?_⟩
      have e' := has_one (fun _ e => Slot.noConfusion e) x'
      subst e'
      have t := own _ (.top rfl)
      exact cloTh_at (CloP.fun ho) ⟨_, t⟩ (e1 ▸ .mk hx rfl e2' (a.eo.sg ▸ t) (e.trans ec) hcell)
    | od r => obtain ⟨xs, e⟩ := cb.od _ (List.mem_map_of_mem hx) _ e2' rfl; cases e
    | oll r => obtain ⟨xs, e⟩ := cb.od _ (List.mem_map_of_mem hx) _ e2' rfl; cases e
  · have fa := cloFr a₂ ho hfr sk cb bk
    exact hQ.nx fa ((a.dropSk _).trans ((Sk.of st a₁.fr.ox).trans (cloSk CloP.t a₂.fr.ox sk) fa.fr.ox) fa.fr.ox)
end
structure ArgOk (a : Arguments) (sc : Scope) : Prop where
  po : a.posonlyargs = []
  va : a.vararg = none
  ko : a.kwonlyargs = []
  ka : a.kwarg = none
  df : a.defaults = []
  kd : a.kw_defaults = []
  an : ∀ x ∈ a.args, x.annotation = none
  ow : ∀ x ∈ a.args, x.arg ∈ owOf sc
  nd : (a.args.map (·.arg)).Nodup
theorem argOk_of {a : Arguments} {sc : Scope} (h : argOk a sc = true) : ArgOk a sc := by
  unfold argOk at h
  obtain ⟨h, h8⟩ := Bool.and_eq_true_iff.mp h
  obtain ⟨h, h7⟩ := Bool.and_eq_true_iff.mp h
  obtain ⟨h, h6⟩ := Bool.and_eq_true_iff.mp h
  obtain ⟨h, h5⟩ := Bool.and_eq_true_iff.mp h
  obtain ⟨h, h4⟩ := Bool.and_eq_true_iff.mp h
  obtain ⟨h, h3⟩ := Bool.and_eq_true_iff.mp h
  obtain ⟨h1, h2⟩ := Bool.and_eq_true_iff.mp h
  have h7 := fun x hx => Bool.and_eq_true_iff.mp (List.all_eq_true.mp h7 x hx)
  exact ⟨List.isEmpty_iff.mp h1, Option.isNone_iff_eq_none.mp h2, List.isEmpty_iff.mp h3, Option.isNone_iff_eq_none.mp h4, List.isEmpty_iff.mp h5, List.isEmpty_iff.mp h6, fun x hx => Option.isNone_iff_eq_none.mp (h7 x hx).1, fun x hx => List.contains_iff_mem.mp (h7 x hx).2, of_decide_eq_true h8⟩
theorem ann_args {env : Env} {l : List Arg} : (∀ x ∈ l, x.annotation = none) → annotationsOf l env = [] := by
  induction l with
  | nil => exact fun _ => rfl
  | cons x r ih =>
    intro h
    obtain ⟨n, an, p⟩ := x
    cases (h _ (List.mem_cons_self ..) : an = none)
    exact ih fun y hy => h y (List.mem_cons_of_mem _ hy)
theorem ann_nil {args : Arguments} {sc : Scope} (h : ArgOk args sc) (env : Env) : annTrees args none env = [] := by
  obtain ⟨po, a, va, ko, kd, kwa, df⟩ := args
  cases (h.po : po = [])
  cases (h.va : va = none)
  cases (h.ko : ko = [])
  cases (h.ka : kwa = none)
  have e : annotationsOf (a ++ [] ++ [] ++ [] ++ []) env = [] := by
    rw [List.append_nil, List.append_nil, List.append_nil, List.append_nil]
    exact ann_args h.an
  exact congrArg (· ++ []) e
section
variable {G : Gd} {c : Cx} {k : Nat} {T : Tx}
theorem ss_defn {name : Str} {args : Arguments} {body : List Stmt} {sc : Scope} {p : Pos} {f i : Nat} (bm : BmOk G) (hx : name ∈ T.ow) (hi : idxOf T.sg name = i) (hcd : T.cd = true) (hsc : scOk T.cf sc = true) (ha : argOk args sc = true) (hN : G.nest f = some ⟨args, body, sc⟩) :
    SS G c k T (.FunctionDef name args body [] none [] sc none name p) (.defn i f) := fun {A env m Θ s fl m' Q X} a he hQ => by
  cases Option.some.inj he
  have hsc := scOk_of hsc
  have ha := argOk_of ha
  obtain ⟨cc, P, hcode, hO⟩ := a.eo.code hcd
  have hfree : ∀ x ∈ freeIn sc, ∃ c, env.cells.lookup x = some c := fun x hx => by
    cases a.fr.cells x (a.eo.cf x (hsc.free x hx)) with | mk e => exact ⟨_, e⟩
  refine W.nestDef_K ha.df ha.kd (ann_nil ha env) ?_
  rw [makeFunction_eq, List.zip_nil_right]
  refine wpAny_bind (wpAny_pure ?_)
  refine wpAny_bind (wpAny_pure ?_)
  refine wpAny_bind (wpAny_pure ?_)
  -- what the object is, once the code is there
  have fin : ∀ {s₁ : Shared} {fd : FuncData} {tk : Nat}, St G s s₁ → fd.params = args → fd.body = .stmts body → fd.scope = sc → fd.globals = env.globals → fd.builtins = builtinsNs → fd.defaults = .none → fd.closure = clFrom env sc.names [] → Entry s₁.heap P p fd.code →
      wpAny (model G.prog G.w) A (storeName env name (.ref s₁.heap.objs.size)) (fun _ => Q .next) X { s₁ with heap := s₁.heap.push { cls := .type "function", data := .func fd }, toks := tk } := fun {s₁ fd tk} st e1 e2 e3 e4 e5 e6 e7 en => by
    have st2 : St G s₁ { s₁ with heap := s₁.heap.push { cls := .type "function", data := .func fd }, toks := tk } := St.push st.inv _ tk
    have st3 := st.trans st2
    refine storeF (a.step st3) hx hi (sl := .clo f) ⟨.clo (.mk (o := { cls := .type "function", data := .func fd }) (fd := fd) (N := ⟨args, body, sc⟩) (a.fr.ox.step st).fresh ⟨Heap.get?_push_size _ rfl, type_ne, rfl, hN, e1, e2, e3, e4.trans a.eo.glob, e5, e6, ⟨cc, P, p, hO, st2.tb P p _ ⟨cc, hO⟩ en⟩, fun z hz => ⟨a.eo.cf z (hsc.free z hz), ?_⟩⟩), fun a e => no_has rfl e⟩ fun s' b => hQ.nx b.fa ((Sk.of st3 a.fr.ox).trans b.sk b.fa.fr.ox)
    obtain ⟨c0, e0⟩ := hfree z hz
    rw [e0, e7]
    exact cl_free hz e0
  -- the code, and the rest
  have tail : ∀ (s₀ : Shared) (ct : Value), St G s s₀ → wpAny (model G.prog G.w) A (do
      let cv ← functionCode env p p.line name (qualnameIn env name name) args sc (.stmts body)
      let bi ← builtinsFor env.globals env.builtins
      let pm ← nsGet env.globals "__name__"
      let doc ← (match docOf body with | some s => mkText s | none => pure .none : Sem Value)
      newObj (.type "function") (.func { name, qualname := qualnameIn env name name, params := args, body := .stmts body, scope := sc, globals := env.globals, closure := clFrom env sc.names [], closureTuple := ct, code := cv, builtins := bi, defaults := .none, kwdefaults := .none, annotations := none, pyModule := pm.getD .none, doc := doc }))
      (fun v s' => wpAny (model G.prog G.w) A (storeName env name v) (fun _ => Q .next) X s') X s₀ := fun s₀ ct st0 => by
    refine wpAny_bind (fn_code st0.inv hcode hO fun cv s₁ st hen => ?_)
    have st1 := st0.trans st
    refine wpAny_bind (bm_for bm st1.inv a.eo.glob (wpAny_bind (wpAny_nsGet (a.eo.glob.symm ▸ st1.inv.glob) ?_)))
    cases hdoc : docOf body with
    | none => exact wpAny_bind (wpAny_pure (wpAny_newObj_type (fin (s₁ := s₁) st1 rfl rfl rfl rfl rfl rfl rfl hen) (by size_fits)))
    | some t => exact wpAny_bind (wpAny_mkText (wpAny_newObj_type (fin (s₁ := s₁) st1 rfl rfl rfl rfl rfl rfl rfl hen) (by size_fits)))
  unfold makeTail
  rw [closureFor_eq hfree]
  refine wpAny_bind (wpAny_pure ?_)
  cases hcs : (clFrom env sc.names []).isEmpty with
  | true => exact wpAny_bind (wpAny_pure (tail s .none (.refl a.inv)))
  | false => exact wpAny_bind (wpAny_newTextTuple (tail _ _ (St.push a.inv _ s.toks)))
end
theorem zip_lookup {x : Str} {ns : List Str} : ∀ {xs : List Value}, ns.length = xs.length → x ∈ ns → ((ns.zip xs).lookup x).isNone = false := by
  induction ns with
  | nil => exact fun _ h => absurd h List.not_mem_nil
  | cons n ns ih =>
    intro xs hl h
    cases xs with
    | nil => exact Nat.noConfusion hl
    | cons y xs =>
      rw [List.zip_cons_cons, List.lookup_cons]
      cases q : x == n with
      | true => rfl
      | false => exact (List.mem_cons.mp h).elim (fun e => absurd (beq_iff_eq.mpr e) (Bool.eq_false_iff.mp q)) (ih (Nat.succ.inj hl))
theorem zip_filterMap {ns : List Str} : ∀ {xs : List Value} {l : List (Str × Value)}, ns.length = xs.length → ns.Nodup → (∀ n y, (ns.zip xs).lookup n = some y → l.lookup n = some y) → ns.filterMap (fun n => (l.lookup n).map (n, ·)) = ns.zip xs := by
  induction ns with
  | nil => exact fun _ _ _ => rfl
  | cons n ns ih =>
    intro xs l hl hn h
    cases xs with
    | nil => exact Nat.noConfusion hl
    | cons y xs =>
      have hn := List.nodup_cons.mp hn
      have e0 : l.lookup n = some y := h n y lk_hit
      have hl := Nat.succ.inj hl
      rw [List.filterMap_cons, e0]
      refine congrArg ((n, y) :: ·) (ih hl hn.2 fun z w e => h z w ?_)
      rw [List.zip_cons_cons, List.lookup_cons]
      cases q : z == n with
      | false => exact e
      | true => exact absurd (eq_of_beq q ▸ (List.of_mem_zip (lookup_mem e)).1) hn.1
theorem bindArgs_plain {fd : FuncData} {sc : Scope} (h : ArgOk fd.params sc) (hd : fd.defaults = .none) {xs : List Value} (hl : (fd.params.args.map (·.arg)).length = xs.length) : bindArgs fd ⟨xs, []⟩ = pure ((fd.params.args.map (·.arg)).zip xs) := by
  have hmiss : ((fd.params.args.map (·.arg)).take (fd.params.args.map (·.arg)).length).filter (fun n => (((fd.params.args.map (·.arg)).zip xs).lookup n).isNone) = [] := by
    rw [List.take_length]
    exact List.filter_eq_nil_iff.mpr fun n hn q => Bool.noConfusion ((zip_lookup hl hn).symm.trans q)
  have hf := zip_filterMap (l := (fd.params.args.map (·.arg)).zip xs) hl h.nd fun _ _ e => e
  have e1 : ¬ (xs.length > (fd.params.args.map (·.arg)).length) := hl ▸ Nat.lt_irrefl _
  have e2 : notAStandIn Value.none = pure () := by rfl
  simp only [bindArgs, h.po, h.va, h.ko, h.ka, hd, List.map_nil, List.nil_append, List.append_nil, List.forIn_nil, pure_bind, seqItems?, e2, Option.getD_none, List.length_nil, Nat.sub_zero, List.drop_nil, Nat.zero_sub, Option.isNone_none, Bool.and_true, List.isEmpty_nil, if_true, e1, decide_false, Bool.false_eq_true, if_false, hmiss, Bool.not_true, List.drop_length, List.zip_nil_left, List.zip_nil_right, hf]
section
variable {G : Gd} {Θ B : Th} {env : Env}
theorem store_all {A : Around} {X : Value → Shared → Prop} {ow : List Str} (hk : env.scope.kind = .function) (hb : ∀ x, x ∈ ow → env.kindOf x = some .local ∨ env.kindOf x = some .cell) {f : Str × Value → PUnit → Sem (ForInStep PUnit)} (hf : ∀ n v u, f (n, v) u = (do storeName env n v; pure (.yield ⟨⟩))) {ns : List Str} :
    ∀ {vs : List V} {ys : List Value} {m : Fr} {s : Shared} {Q : PUnit → Shared → Prop}, (∀ n ∈ ns, n ∈ ow) → Inv G s → FR G ow Θ s.heap env m → ns.length = vs.length → VRs G Θ.dom s.heap vs ys →
    (∀ s', FR G ow Θ s'.heap env (bindAll m (ns.map (idxOf (sig env.scope))) vs) → Sk G Θ s Θ s' → Q ⟨⟩ s') → wpAny (model G.prog G.w) A (forIn (ns.zip ys) ⟨⟩ f) Q X s := by
  induction ns with
  | nil =>
    intro vs ys m s Q _ i r hl hv h
    induction hv with
    | nil => exact wpAny_pure (h s r (.of (.refl i) r.ox))
    | cons => exact Nat.noConfusion hl
  | cons n ns ih =>
    intro vs ys m s Q ho i r hl hv h
    induction hv with
    | nil => exact Nat.noConfusion hl
    | cons v vs =>
      rw [List.zip_cons_cons, List.forIn_cons, hf]
      exact wpAny_bind (wpAny_bind (store_any i hk r (ho n (List.mem_cons_self ..)) (hb n (ho n (List.mem_cons_self ..))) (sf_v v) fun h' tk r' sk _ => wpAny_pure
        (ih (fun z hz => ho z (List.mem_cons_of_mem _ hz)) sk.inv r' (Nat.succ.inj hl) (VRs.mono (sk.keep i) vs) fun s' r'' sk' => h s' r'' (sk.trans sk' r''.ox))))
theorem new_env_fn {M : Model} {A : Around} {X : Value → Shared → Prop} {s : Shared} {sc : Scope} {globals builtins : Addr} {cl : List (Str × Addr)} {ns : List Str} {ys : List Value} {qual : Str} {func : Option Addr} {code : Value} {Q : Env → Shared → Prop} {e : Env}
    (he : e = ⟨sc, s.heap.objs.size, globals, cellsFrom (s.heap.push { cls := .type "frame", data := .dict #[] }).objs.size sc.names cl, qual, func, code, some s.heap.objs.size, builtins⟩)
    (h : ∀ f : Str × Value → PUnit → Sem (ForInStep PUnit), (∀ n v u, f (n, v) u = (do storeName e n v; pure (.yield ⟨⟩))) → wpAny M A (forIn (ns.zip ys) ⟨⟩ f) (fun _ s' => Q e s') X { s with heap := pushCells (s.heap.push { cls := .type "frame", data := .dict #[] }) sc.names }) :
    wpAny M A (newFunctionEnv sc globals cl (ns.zip ys) qual func code none builtins) Q X s := by
  subst he
  unfold newFunctionEnv
  exact wpAny_bind (wpAny_alloc (wpAny_bind (wpAny_layCells _ (fun name kind cells => rfl) _ _ _ _ (wpAny_bind (wpAny_mono (h _ fun _ _ _ => rfl) (fun _ _ x => wpAny_pure x) fun _ _ x => x)))))
structure FnF (G : Gd) (sc : Scope) (globals builtins : Addr) (cl : List (Str × Addr)) (code : Value) (B : Th) (s : Shared) (m : Fr) (env : Env) (s' : Shared) (Θ : Th) : Prop where
  es : env.scope = sc
  eg : env.globals = globals
  eb : env.builtins = builtins
  ec : env.code = code
  fr : FR G (owOf sc) Θ s'.heap env m
  sk : Sk G B s Θ s'
  free : ∀ x ∈ freeIn sc, env.kindOf x = some .free ∧ env.cells.lookup x = cl.lookup x
theorem fn_frame {A : Around} {X : Value → Shared → Prop} {s : Shared} (i : Inv G s) {cf : List Str} {sc : Scope} (S : ScOk cf sc) {cl : List (Str × Addr)} {mi : Fr} (b : ClB G B s mi sc cl) {ns : List Str} {vs : List V} {ys : List Value} (hns : ∀ n ∈ ns, n ∈ owOf sc) (hlen : ns.length = vs.length) (hv : VRs G B.dom s.heap vs ys)
    {globals builtins : Addr} {qual : Str} {func : Option Addr} {code : Value} {Q : Env → Shared → Prop} (h : ∀ env s' Θ, FnF G sc globals builtins cl code B s (bindAll mi (ns.map (idxOf (sig sc))) vs) env s' Θ → Q env s') :
    wpAny (model G.prog G.w) A (newFunctionEnv sc globals cl (ns.zip ys) qual func code none builtins) Q X s := by
  refine new_env_fn (e := ⟨sc, s.heap.objs.size, globals, cellsFrom (s.heap.push { cls := .type "frame", data := .dict #[] }).objs.size sc.names cl, qual, func, code, some s.heap.objs.size, builtins⟩) rfl fun f hf => ?_
  generalize he : (⟨sc, s.heap.objs.size, globals, cellsFrom (s.heap.push { cls := .type "frame", data := .dict #[] }).objs.size sc.names cl, qual, func, code, some s.heap.objs.size, builtins⟩ : Env) = env at hf ⊢
  have e1 : env.scope = sc := he ▸ rfl
  have e2 : env.cells = cellsFrom (s.heap.push { cls := .type "frame", data := .dict #[] }).objs.size sc.names cl := he ▸ rfl
  have kd : ∀ x k, (x, k) ∈ sc.names → env.kindOf x = some k := fun x k hx => by unfold Env.kindOf; rw [e1]; exact lookup_of S.nd hx
  have kb : ∀ {x k}, env.kindOf x = some k → (x, k) ∈ sc.names := fun {x k} hx => by unfold Env.kindOf at hx; rw [e1] at hx; exact lookup_mem hx
  have free : ∀ x ∈ freeIn sc, env.kindOf x = some .free ∧ env.cells.lookup x = cl.lookup x := fun x hx => ⟨kd x _ (mem_freeIn.mp hx), e2 ▸ cells_old (fun h => NameKind.noConfusion (one_kind S.nd h (mem_freeIn.mp hx))) _ _⟩
  have keep : ∀ b o', s.heap.get? b = some o' → (pushCells (s.heap.push { cls := .type "frame", data := .dict #[] }) sc.names).get? b = some o' := fun b o' e => pushCells_keeps _ _ b o' (Heap.get?_push_of_some _ e)
  have st := St.keeps i keep s.toks
  have F := new_frame (env := env) i S.nd b.ox b.bn rfl (Heap.Ns.new s.heap (.type "frame")) b.hcl (he ▸ rfl) e2 (e1 ▸ rfl) (fun x hx => hx.imp kb fun h => mem_freeIn.mpr (kb h)) (fun x hx => .inr (free x hx).1) fun j sl hj => by
    obtain ⟨x, hx, q, c, y, e, hc, sf⟩ := b.hm j sl hj
    exact ⟨x, hx, q, c, y, e, hc, sf env e1 free⟩
  have sk : Sk G B s _ { s with heap := pushCells (s.heap.push { cls := .type "frame", data := .dict #[] }) sc.names } := ⟨st.inv, fun b o nt _ e => st.kp b o nt e, fun a => ⟨F.bb a _, F.out a⟩, F.dom, fun a q => (b.ox a (mine_dom q)).elim fun _ q => q.elim fun o e => ⟨o, keep _ _ e⟩, st.tb, fun a t => ⟨F.bb a _ t, keep a⟩⟩
  exact store_all (e1 ▸ S.kind) (fun x hx => (mem_owOf.mp hx).imp (kd x _) (kd x _)) hf hns st.inv F.fr hlen (VRs.mono (sk.keep i) hv) fun s' fr' sk' => h env s' _ ⟨e1, he ▸ rfl, he ▸ rfl, he ▸ rfl, e1 ▸ fr', sk.trans sk' fr'.ox, free⟩
theorem call_fn {prog : Program} {w : World} {A : Around} {s : Shared} {R : Result → Shared → Prop} {a : Addr} {args : Args} {o : Obj} {fd : FuncData} {body : List Stmt} {q : Str} (hroom : A.depth < recursionLimit)
    (ho : s.heap.get? a = some o) (hd' : o.data = .func fd) (hco : fd.scope.isCoroutine = false) (hgen : fd.scope.isGenerator = false) (hbody : fd.body = .stmts body) (hcd : s.heap.CodeRec fd.code q)
    (h : wpAny (model prog w) A.in1 (bindArgs fd args) (fun binds s₁ =>
      wpAny (model prog w) A.in1 (newFunctionEnv fd.scope fd.globals fd.closure binds (q ++ ".<locals>.") (some a) fd.code none fd.builtins)
        (fun env s₂ => s₂.heap.NoLimit ∧ codeAny (model prog w) A (.func body env) R s₂) (fun e s' => R (.error e) s') s₁) (fun e s' => R (.error e) s') s) :
    codeAny (model prog w) A (.call (.ref a) args) R s := by
  refine codeAny_of_tree ?_
  show wpAny _ A.in1 (callAny (.ref a) args) _ _ s
  unfold callAny
  refine wpAny_bind (wpAny_load ho ?_)
  obtain ⟨c, oc, vs, tq, hc, hoc, hdc, hq⟩ := hcd
  simp only [hd', callFunction, hco, hgen, hbody, hc]
  rw [hc] at h
  refine wpAny_bind (m := field (.ref c) 1) (wpAny_field hoc hdc hq (wpAny_bind (wpAny_pure ?_)))
  exact wpAny_bind (wpAny_mono h (fun binds s₁ h₁ => wpAny_bind (wpAny_mono h₁ (fun env s₂ h₂ => wpAny_bind (wpAny_enterFrame h₂.1 hroom
    (wpAny_pure (And.intro rfl h₂.2)))) fun _ _ h' => h')) fun _ _ h' => h')
end
section
variable {G : Gd} {c : Cx} {k : Nat} {T : Tx}
theorem Room.deeper {A : Around} {k : Nat} (r : Room A (k + 1)) (env : Env) : Room (A.deeper env) k where
  depth := by have := r.depth; show A.depth + 1 + k < _; lia
  units := by have := r.units; show A.units + 3 + 10 * k + 1000 < _; lia
  handled := r.handled
structure FnOk (cf : List Str) (args : Arguments) (sc : Scope) (fn : Fn) (T : Tx) : Prop where
  pr : args.args.map (fun a => idxOf (sig sc) a.arg) = fn.params
  so : scOk cf sc = true
  ar : argOk args sc = true
  t1 : T.sg = sig sc
  t2 : T.cf = cfOf sc
  t3 : T.ow = owOf sc
structure FnO (G : Gd) (s : Shared) (o : Obj) (fd : FuncData) (P : Arguments) (body : List Stmt) (sc : Scope) (cd : Bool) : Prop where
  d : o.data = .func fd
  p : fd.params = P
  b : fd.body = .stmts body
  es : fd.scope = sc
  g : fd.globals = mainGlobals
  bi : fd.builtins = builtinsNs
  df : fd.defaults = .none
  cr : ∃ q, s.heap.CodeRec fd.code q
  cd : cd = true → ∃ c P, fd.code = .ref c ∧ G.Own c P
theorem call_raw {A : Around} {s : Shared} (hr : Room A (k + 1)) (i : Inv G s) {a : Addr} {o : Obj} {fd : FuncData} {P : Arguments} {body : List Stmt} {sc : Scope} (ho : s.heap.get? a = some o) (fo : FnO G s o fd P body sc T.cd) {cf : List Str} {fn : Fn} (fk : FnOk cf P sc fn T) {B : Th} {mi m : Fr} (clb : ClB G B s mi sc fd.closure) {vs : List V} {ys : List Value}
    (hv : VRs G B.dom s.heap vs ys) (hm : Fr.args mi fn.params vs = some m) {R : Result → Shared → Prop}
    (hB : ∀ env s₁ Θ X, FnF G sc fd.globals fd.builtins fd.closure fd.code B s m env s₁ Θ → FA G k T (A.deeper env) env m Θ s₁ → wpAny (model G.prog G.w) (A.deeper env) (execs body env) (fun f s' => R (.ok (.ret (match f with | .ret v => v | _ => .none))) s') X s₁) : codeAny (model G.prog G.w) A (.call (.ref a) ⟨ys, []⟩) R s := by
  have es := fo.es
  subst es
  have S := scOk_of fk.so
  have ar := argOk_of fk.ar
  refine oif (C := fun m => (∀ env s₁ Θ X, FnF G fd.scope fd.globals fd.builtins fd.closure fd.code B s m env s₁ Θ → FA G k T (A.deeper env) env m Θ s₁ → wpAny (model G.prog G.w) (A.deeper env) (execs body env) (fun f s' => R (.ok (.ret (match f with | .ret v => v | _ => .none))) s') X s₁) → _) hm (fun hl hB => ?_) hB
  have ep := fo.p
  subst ep
  rw [← fk.pr, List.length_map] at hl
  have hl' : (fd.params.args.map (·.arg)).length = vs.length := (List.length_map ..).trans hl
  obtain ⟨q, cr⟩ := fo.cr
  refine call_fn (Nat.lt_of_le_of_lt (Nat.le_add_right _ _) hr.depth) ho fo.d S.co S.gen fo.b cr ?_
  rw [bindArgs_plain ar fo.df (hl'.trans hv.length)]
  refine wpAny_pure (fn_frame (A := A.in1) i S clb (fun n hn => ?_) hl' hv fun env s₁ Θ F => ⟨F.sk.inv.nolim, ?_⟩)
  · obtain ⟨x, hx, e⟩ := List.mem_map.mp hn
    exact e ▸ ar.ow x hx
  have kinds : ∀ x kd, (x, kd) ∈ fd.scope.names → env.kindOf x = some kd := fun x kd hx => by unfold Env.kindOf; rw [F.es]; exact lookup_of S.nd hx
  have e0 : (fd.params.args.map (·.arg)).map (idxOf (sig fd.scope)) = fn.params := List.map_map.trans fk.pr
  rw [e0] at F
  have fr := F.fr
  rw [← fk.t3] at fr
  have eo : EnvOk G T env := ⟨F.es ▸ S.kind, (congrArg sig F.es).trans fk.t1.symm, F.eg.trans fo.g, F.eb.trans fo.bi, fun x hx => (mem_cfOf.mp (fk.t2 ▸ hx)).imp (kinds x _) (kinds x _), fun x e => ?_, fun h => ?_, fun x hx => (mem_owOf.mp (fk.t3 ▸ hx)).imp (kinds x _) (kinds x _)⟩
  rotate_left
  · unfold Env.kindOf at e
    rw [F.es] at e
    exact S.nx _ (lookup_mem e) rfl
  · obtain ⟨c, P, e, w⟩ := fo.cd h
    exact ⟨c, P, F.ec.trans e, w⟩
  exact codeAny_func (hB env s₁ Θ _ F ⟨hr.deeper env, F.sk.inv, eo, fr⟩)
theorem call_core {A : Around} {s : Shared} (hr : Room A (k + 1)) (i : Inv G s) {a : Addr} {o : Obj} {fd : FuncData} {P : Arguments} {body : List Stmt} {sc : Scope} (ho : s.heap.get? a = some o) (fo : FnO G s o fd P body sc T.cd) {cf : List Str} {fn : Fn} (fk : FnOk cf P sc fn T) {B : Th} {mi m : Fr} (clb : ClB G B s mi sc fd.closure) {vs : List V} {ys : List Value}
    (hv : VRs G B.dom s.heap vs ys) (hm : Fr.args mi fn.params vs = some m) (hbody : SSs G c k T body fn.body) {r : Fl × Fr} (he : exs c fn.body m = some r) {R : Result → Shared → Prop}
    (hR : ∀ y Θ' s', Sk G B s Θ' s' → VR G Θ'.dom s'.heap r.1.val y → Back G Θ' s'.heap r.2 sc fd.closure → R (.ok (.ret y)) s') : codeAny (model G.prog G.w) A (.call (.ref a) ⟨ys, []⟩) R s := by
  refine call_raw hr i ho fo fk clb hv hm fun env s₁ Θ X F a₁ => ?_
  obtain ⟨fl, m'⟩ := r
  refine hbody a₁ he fun Θ' s₂ f a₂ sk hf => ?_
  have sk' := F.sk.trans sk a₂.fr.ox
  have back : Back G Θ' s₂.heap m' sc fd.closure := fun x hx xs hm => by
    obtain ⟨hkf, hcl⟩ := F.free x hx
    obtain ⟨y', vi, sf⟩ := a₂.fr.var x (.ol xs) (kind_isVar hkf rfl) (F.es ▸ hm)
    obtain ⟨sr, own⟩ := sf
    cases sr with | ol r =>
    obtain ⟨cc, ec, _, hcell⟩ := vi.cell (.inr hkf)
    exact ⟨cc, _, hcl.symm.trans ec, hcell, F.es ▸ own _ (.top rfl), r⟩
  cases hf with
  | next => exact hR _ _ _ sk' .none back
  | ret r => exact hR _ _ _ sk' r back
end
theorem code_rec {G : Gd} {s : Shared} (i : Inv G s) {c P : Addr} {q : Str} (hO : G.Own c P) (h : G.h₀.CodeRec (.ref c) q) : s.heap.CodeRec (.ref c) q := by
  obtain ⟨ps, ⟨⟨o, vs, e, hc, hd, _⟩, _⟩⟩ := i.gk.tab0 c P hO
  obtain ⟨c', o', vs', t, e1, e2, e3, e4⟩ := h
  cases e1
  cases Option.some.inj (e.symm.trans e2)
  exact ⟨c, o, vs', t, rfl, i.old.get_of_cls e (hc ▸ type_ne), e3, e4⟩
inductive FnI (G : Gd) (name : Str) (args : Arguments) (body : List Stmt) (sc : Scope) : Prop
  | mk {fa : Addr} {o : Obj} {fd : FuncData} {q : Str} {c P : Addr} (e1 : G.mg name = some (.ref fa)) (e2 : G.h₀.get? fa = some o) (e3 : fa ≠ cStatics) (e4 : o.data = .func fd) (e5 : fd.params = args) (e6 : fd.body = .stmts body) (e7 : fd.scope = sc) (e8 : fd.globals = mainGlobals)
    (e9 : fd.builtins = builtinsNs) (e10 : fd.defaults = .none) (e12 : G.h₀.CodeRec fd.code q) (e13 : fd.code = .ref c) (e14 : G.Own c P)
structure FD where
  name : Str
  args : Arguments
  body : List Stmt
  sc : Scope
structure Bk (G : Gd) (c : Cx) (k : Nat) (T : Tx) : Prop extends Bz G c k T where
  bm : BmOk G
inductive FnT (G : Gd) (gl : List Str) (gc : List (Str × Int)) (cf : List Str) (args : Arguments) (body : List Stmt) (sc : Scope) (cd : Bool) (fn : Fn) : Prop
  | mk {T : Tx} (fk : FnOk cf args sc fn T) (t1 : T.gl = gl) (t2 : T.gc = gc) (t3 : T.cd = cd) (ns : NstOk G T) (h : ∀ c k, Bk G c k T → SSs G c k T body fn.body)
structure PgOk (G : Gd) (p : Prog) (gl : List Str) (gc : List (Str × Int)) : Prop where
  consts : ∀ x i, gc.lookup x = some i → ∃ t, G.mg x = some (.int i t)
  bv : ∀ p ∈ biNames, G.mg p.1 = none ∧ G.mb p.1 = some p.2
  bm : BmOk G
  fns : ∀ (f : Nat) fn name, p.fns[f]? = some fn → gl[f]? = some name → ∃ d : FD, FnI G name d.args d.body d.sc ∧ FnT G gl gc [] d.args d.body d.sc true fn
  nested : ∀ (f : Nat) fn N, p.nested[f]? = some fn → G.nest f = some N → ∃ cf, FnT G gl gc cf N.params N.body N.scope false fn
section
variable {G : Gd} {p : Prog} {gl : List Str} {gc : List (Str × Int)}
theorem PgOk.bk (h : PgOk G p gl gc) {k : Nat} (hc : CallOk G (run p G.gen k) k gl) (hq : CloOk G (run p G.gen k) k) {T : Tx} (h1 : T.gl = gl) (h2 : T.gc = gc) (hn : NstOk G T) : Bk G (run p G.gen k) k T :=
  ⟨⟨⟨(by cases k <;> rfl), h1.symm ▸ hc, h2.symm ▸ h.consts, h.bv⟩, hq, hn⟩, h.bm⟩
theorem outs_st {O : Addr → Prop} {s s' : Shared} {Θ' : Th} (sk : Sk G (outs O) s Θ' s') : St G s s' := ⟨sk.inv, fun b o nt e => sk.kp b o nt outs_mine e, sk.tb⟩
theorem outs_vr {O : Addr → Prop} {s s' : Shared} {Θ' : Th} (sk : Sk G (outs O) s Θ' s') {v : V} {y : Value} (r : VR G Θ'.dom s'.heap v y) : VR G O s'.heap v y := r.mono fun b o' e _ no => ⟨fun d => no ⟨_, (sk.out b).mp (outs_of d)⟩, e⟩
theorem callOk_succ (h : PgOk G p gl gc) {k : Nat} (hc : CallOk G (run p G.gen k) k gl) (hq : CloOk G (run p G.gen k) k) : CallOk G (run p G.gen (k + 1)) (k + 1) gl := fun f vs v name hv hn =>
  obind (C := ∃ fa, _) hv fun fn hf hv => obind (C := ∃ fa, _) hv fun m hm hv => by
    obtain ⟨d, fi, ft⟩ := h.fns f fn name hf hn
    cases fi with | @mk fa o fd q cc P e1 e2 e3 e4 e5 e6 e7 e8 e9 e10 e12 e13 e14 =>
    cases ft with | @mk T fk t1 t2 t3 ns hd =>
    refine ⟨fa, ⟨e1, o, fd, e2, e3, e4⟩, fun {A s O xs R} hr i ox rxs hR => omap (C := fun v => (∀ y s', St G s s' → VR G O s'.heap v y → R (.ok (.ret y)) s') → _) hv (fun r hx hR => ?_) hR⟩
    have nofree : ∀ x, x ∉ freeIn d.sc := fun x hx => List.not_mem_nil ((scOk_of fk.so).free x hx)
    exact call_core hr i (o := o) (fd := fd) (old_func i.old e2 e4 e3) ⟨e4, e5, e6, e7, e8, e9, e10, ⟨q, e13.symm ▸ code_rec i e14 (e13 ▸ e12)⟩, fun _ => ⟨cc, P, e13, e14⟩⟩ fk (B := outs O)
      ⟨fun b d => ox b (outs_dom d), fun b q => absurd q outs_mine, fun x hx => absurd hx (nofree x), fun j sl hj => at_none hj⟩ (vrs_outs rxs) hm (hd _ _ (h.bk hc hq t1 t2 ns)) hx fun y Θ' s' sk ry _ => hR y s' (outs_st sk) (outs_vr sk ry)
theorem cloOk_succ (h : PgOk G p gl gc) {k : Nat} (hc : CallOk G (run p G.gen k) k gl) (hq : CloOk G (run p G.gen k) k) : CloOk G (run p G.gen (k + 1)) (k + 1) := fun {f vs mi v m'} hv {N} hN {A s B env a o fd ys R} hr i ci clb rxs hR =>
  obind hv fun fn hf hv => obind hv fun m hm hv => by
    obtain ⟨cf, ft⟩ := h.nested f fn N hf hN
    cases ft with | @mk T fk t1 t2 t3 ns hd =>
    refine omap (C := fun p => p = (v, m') → _) (b := (v, m')) hv (fun r hx e => ?_) rfl
    cases e
    obtain ⟨cc, P, pos, w, en⟩ := ci.code
    cases en with | mk ep hent =>
    cases i.tab cc P w with | mk u1 u2 u3 =>
    have hps := tab_fun u2.2 ep
    subst hps
    have cr : ∃ q, s.heap.CodeRec fd.code q := by
      have x := u3 pos _ hent
      generalize fd.code = cv at x
      cases x with | mk _ _ r => exact ⟨_, r⟩
    exact call_core hr i ci.get ⟨ci.data, ci.params, ci.body, ci.scope, ci.globals, ci.builtins, ci.defaults, cr, fun e => Bool.noConfusion (t3.symm.trans e)⟩ fk clb rxs hm (hd _ _ (h.bk hc hq t1 t2 ns)) hx hR
theorem calls_ok (h : PgOk G p gl gc) (k : Nat) : CallOk G (run p G.gen k) k gl ∧ CloOk G (run p G.gen k) k := by
  induction k with
  | zero => exact ⟨fun _ _ _ _ hv => nos hv, fun hv => nos hv⟩
  | succ k ih => exact ⟨callOk_succ h ih.1 ih.2, cloOk_succ h ih.1 ih.2⟩
end
end Mine
end
section
set_option maxRecDepth 100000
set_option genSizeOf false
set_option genInjectivity false
namespace Mine
open PySem PySem.W PySem.Calls PyProof.Rows SeqAt
inductive OwnF (mg : Str → Option Value) (h : Heap) (ds : List DefRec) (c P : Addr) : Prop
  | mk {d : DefRec} {a : Addr} {o : Obj} {fd : FuncData} (hd : d ∈ ds) (e1 : mg d.name = some (.ref a)) (e2 : h.get? a = some o) (e3 : o.data = .func fd) (e4 : fd.code = .ref c) (e5 : h.IsCode c P #[]) (e6 : h.TableAt c P #[])
noncomputable def gd (gn : Nat) (P : Nat → Addr → Prop) (p : Program) (w : World) (s : Shared) (mg mb : Str → Option Value) (view : Program) (nests : List Nest) : Gd := ⟨p, w, gn, P, s.heap, s.os, mg, mb, OwnF mg s.heap (recsOf view), fun f => nests[f]?⟩
noncomputable def isInt (i : Int) : Option PyData → Bool
  | some (.int j) => j == i
  | _ => false
theorem isInt_of {i : Int} {o : Option PyData} (h : isInt i o = true) : o = some (.int i) := by
  cases o with
  | none => exact Bool.noConfusion h
  | some l =>
    cases l with
    | int j => exact congrArg (fun j => some (PyData.int j)) (eq_of_beq h)
    | _ => exact Bool.noConfusion h
noncomputable def constOk (view : Program) (p : Str × Int) : Bool := isInt p.2 (valOf view p.1)
section
variable {p view : Program} {w : World} {s : Shared} {mg mb : Str → Option Value} {loose : List Str} {mean : ExcName → Option Value} {nests : List Nest} {gn : Nat} {P : Nat → Addr → Prop}
theorem gd_inv (hP : ∀ a, P gn a) (T : Top view loose mean mg mb s.heap) (hgens : AllBare s.gens) : Inv (gd gn P p w s mg mb view nests) s := by
  have key : ∀ b m, s.heap.Ns b m → ¬ (gd gn P p w s mg mb view nests).Tab b := fun b m hn ht => by
    obtain ⟨c, x⟩ := ht
    cases x with | mk _ _ _ _ _ _ h6 =>
    obtain ⟨o, es, ep, e, hd, _⟩ := hn
    cases Option.some.inj (e.symm.trans h6.2)
    exact Data.noConfusion hd
  obtain ⟨mc, hc, hm⟩ := T.nolimit
  refine ⟨⟨fun c P x => ?_, ⟨key _ _ T.g, key _ _ T.b, key _ _ hc⟩, ⟨ns_get T.g, ns_get T.b, ns_get hc⟩⟩, .refl _, T.g, T.b, ⟨mc, hc, hm⟩, hgens, rfl, fun c P x => ?_, fun a _ => hP a⟩
  · cases x with | mk _ _ _ _ _ _ h6 => exact ⟨_, h6⟩
  · cases x with | mk _ _ _ _ _ h5 h6 => exact ⟨h5, h6, fun pos v h => nos h⟩
theorem gd_fn (T : Top view loose mean mg mb s.heap) {d : DefRec} (hd : d ∈ recsOf view) : FnI (gd gn P p w s mg mb view nests) d.name d.params d.body d.scope := by
  obtain ⟨a, o, pm, code, doc, h1, h2, h3, h4⟩ := T.fn d hd
  obtain ⟨a', o', fd', c, P, k1, k2, k3, k4, k5, k6⟩ := T.tab d hd
  cases Option.some.inj (h1.symm.trans k1)
  cases Option.some.inj (h2.symm.trans k2)
  have q := h3.symm.trans k3
  injection q with q
  subst q
  have hst : a ≠ cStatics := fun e => by
    subst e
    obtain ⟨mc, ⟨o', es, ep, g, hd', _⟩, _⟩ := T.nodigits
    cases Option.some.inj (h2.symm.trans g)
    exact Data.noConfusion (h3.symm.trans hd')
  exact .mk h1 h2 hst h3 rfl rfl rfl rfl rfl rfl h4 k4 (.mk hd h1 h2 h3 k4 k5 k6)
noncomputable def freeOk (view : Program) (loose : List Str) (x : Str) : Bool := !startupNames.contains x && (!loose.contains x && (!((recsOf view).map (·.name)).contains x && (!((litsOf view).map (·.1)).contains x && (!((clssOf view loose).map (·.name)).contains x && x != ("__name__" : Str)))))
theorem not_in {x : Str} {l : List Str} (h : (!l.contains x) = true) : x ∉ l := fun q => Bool.noConfusion ((congrArg not (List.contains_iff_mem.mpr q)).symm.trans h)
theorem gd_bv (T : Top view loose mean mg mb s.heap) (hfree : (biNames.all fun q => freeOk view loose q.1) = true) (hb : ∀ q ∈ biNames, bootBuiltins q.1 = some q.2) : ∀ q ∈ biNames, mg q.1 = none ∧ mb q.1 = some q.2 := fun q hq => by
  have h := List.all_eq_true.mp hfree q hq
  unfold freeOk at h
  obtain ⟨a1, h⟩ := Bool.and_eq_true_iff.mp h
  obtain ⟨a2, h⟩ := Bool.and_eq_true_iff.mp h
  obtain ⟨a3, h⟩ := Bool.and_eq_true_iff.mp h
  obtain ⟨a4, h⟩ := Bool.and_eq_true_iff.mp h
  obtain ⟨a5, a6⟩ := Bool.and_eq_true_iff.mp h
  exact ⟨T.free q.1 (not_in a1) (not_in a2) (not_in a3) (not_in a4) (not_in a5), (T.builtins q.1 (bne_iff_ne.mp a6)).trans (hb q hq)⟩
theorem gd_const (T : Top view loose mean mg mb s.heap) {gc : List (Str × Int)} (hconst : gc.all (constOk view) = true) {x : Str} {i : Int} (hx : gc.lookup x = some i) : ∃ t, mg x = some (.int i t) := by
  obtain ⟨v, e, r⟩ := T.const x _ (isInt_of (List.all_eq_true.mp hconst _ (lookup_mem hx)))
  have := r s.heap
  cases this
  exact ⟨_, e⟩
theorem ints_vrs {G : Gd} {O : Addr → Prop} {h : Heap} {vs : List Value} {ns : List Int} (x : IntsAre vs ns) : VRs G O h (ns.map .int) vs := by
  induction x with
  | nil => exact .nil
  | cons n t _ ih => exact .cons (.int n t) ih
theorem callerA_room {k : Nat} (hk : k ≤ 64) : Room callerA k :=
  ⟨Nat.lt_of_le_of_lt (Nat.add_le_add_left hk _) (by decide : callerA.depth + 64 < recursionLimit), Nat.lt_of_le_of_lt (Nat.add_le_add_right (Nat.add_le_add_left (Nat.mul_le_mul_left 10 hk) _) _) (by decide : callerA.units + 10 * 64 + 1000 < cLine), rfl⟩
theorem well_ints {P : Params} {h : Heap} {ns : List Int} : ∀ {vs : List Value}, WellAll P h vs (ofPys (ns.map PyData.int)) → IntsAre vs ns := by
  induction ns with
  | nil => intro vs x; cases x; exact .nil
  | cons n ns ih =>
    intro vs x
    cases x with
    | cons a b =>
      cases a
      exact .cons _ _ (ih b)
end
end Mine
end
section
set_option maxRecDepth 100000
set_option genSizeOf false
set_option genInjectivity false
namespace Mine
open PySem PyProof.Rows SeqAt
section
variable {G : Gd} {c : Cx} {k : Nat} {T : Tx} {sc : Scope}
theorem Bs.inner (b : Bs G c k T) : Bs G c k (T.inner sc) := ⟨b.gen, b.call, b.consts, b.bv⟩
theorem Bz.inner (b : Bz G c k T) : Bz G c k (T.inner sc) := ⟨b.toBs.inner, b.clo, b.nst⟩
theorem sss_bad {st : List Stmt} {t : Ss} : SSs G c k T st (.cons .bad t) := fun _ h _ => nos h
theorem gs_ok {t it : Expr} {ifs : List Expr} {r : List Comprehension} {tg : Tg} {ti : It} {tifs : Es} {gs : Gs} {tp : Expr → Prop} (hi : SI G c k T tp it ti) (htp : tp t) (ok : scOk T.cf sc = true) (ht : TgOk (T.inner sc) t tg) (fs : ∀ env x, foldedSetIterable it env x = pure x)
    (hif : SBl G c k (T.inner sc) ifs tifs) (hr : SGs G c k (T.inner sc) r gs) : GsOk G c k T sc t it ifs r tg ti tifs gs tp := ⟨ok, ht, htp, hi, fs, hif, hr⟩
theorem sgs_cons {t it : Expr} {ifs : List Expr} {r : List Comprehension} {tg : Tg} {ti : It} {tifs : Es} {gr : Gs} {tp : Expr → Prop} (hi : SI G c k T tp it ti) (htp : tp t) (ht : TgOk T t tg) (hfs : ∀ env x, foldedSetIterable it env x = pure x) (hif : SBl G c k T ifs tifs) (hr : SGs G c k T r gr) :
    SGs G c k T (⟨t, it, ifs, 0⟩ :: r) (.cons tg ti tifs gr) := .cons ht htp hi hfs hif hr
theorem ss_for' {t it : Expr} {body : List Stmt} {tg : Tg} {ti : It} {tb : Ss} {p : Pos} {tp : Expr → Prop} (hi : SI G c k T tp it ti) (htp : tp t) (ht : TgOk T t tg) (hfs : ∀ env x, foldedSetIterable it env x = pure x) (hb : SSs G c k T body tb) :
    SS G c k T (.For t it body [] p) (.for tg ti tb) := ss_for ht htp hi hfs hb
end
end Mine
end
section
set_option maxRecDepth 100000
set_option genSizeOf false
set_option genInjectivity false
namespace Mine
open PySem
noncomputable def nn0 : Fn := ⟨[0, 1, 2], 10, .cons (.ite (.p2 (cmpV .Eq) (.p2 (binV .Add) (.var 1) (.cst (.int 1))) (.var 2)) (.cons (.asgS 7 (.var 1) (.var 0)) (.cons .retN .nil)) .nil) (.cons (.asg .v 3 (.p2 (binV .RShift) (.p2 (binV .Add) (.var 1) (.var 2)) (.cst (.int 1)))) (.cons (.asg .v 4 (.p2 (binV .Mult) (.p2 (binV .Sub) (.var 3) (.var 1)) (.var 9))) (.cons (.asg .v 5 (.p2 (binV .RShift) (.var 0) (.var 4))) (.cons (.asg .v 6 (.p2 (binV .BitXor) (.var 0) (.p2 (binV .LShift) (.var 5) (.var 4)))) (.cons (.cloS 8 0 (.cons (.var 6) (.cons (.var 1) (.cons (.var 3) .nil))) [(7, 7), (8, 8), (9, 9)] 10) (.cons (.cloS 8 0 (.cons (.var 5) (.cons (.var 3) (.cons (.var 2) .nil))) [(7, 7), (8, 8), (9, 9)] 10) .nil))))))⟩
noncomputable def nn1 : Fn := ⟨[0, 1], 7, .cons (.ite (.p2 (cmpV .Eq) (.p2 (binV .Add) (.var 0) (.cst (.int 1))) (.var 1)) (.cons (.ret (.pe subV 4 (.var 0))) .nil) .nil) (.cons (.asg .v 2 (.p2 (binV .RShift) (.p2 (binV .Add) (.var 0) (.var 1)) (.cst (.int 1)))) (.cons (.asg .v 3 (.p2 (binV .Mult) (.p2 (binV .Sub) (.var 2) (.var 0)) (.var 6))) (.cons (.ret (.p2 (binV .Add) (.p2 (binV .LShift) (.clo 5 1 (.cons (.var 2) (.cons (.var 1) .nil)) [(4, 4), (5, 5), (6, 6)] 7) (.var 3)) (.clo 5 1 (.cons (.var 0) (.cons (.var 2) .nil)) [(4, 4), (5, 5), (6, 6)] 7))) .nil)))⟩
noncomputable def fn0 : Fn := ⟨[0, 1], 13, .cons (.asgT [2, 3, 4, 5, 6] (.var 1)) (.cons (.asgT [7, 8, 9, 10, 11] (.var 0)) (.cons (.ret (.pn tupN (.cons (.p2 (binV .Add) (.var 2) (.var 7)) (.cons (.p2 (binV .Add) (.var 3) (.var 8)) (.cons (.p2 (binV .Add) (.var 4) (.var 9)) (.cons (.p2 (binV .Add) (.var 5) (.var 10)) (.cons (.call 1 (.cons (.var 11) (.cons (.var 6) .nil))) .nil))))))) .nil))⟩
noncomputable def fn1 : Fn := ⟨[0, 1], 8, .cons (.asg .o 2 (.dct .nil .nil)) (.cons (.for (.many [3, 4]) (.one pairsV (.var 0)) (.cons (.asgS 2 (.var 3) (.var 4)) .nil)) (.cons (.for (.many [3, 4]) (.one pairsV (.var 1)) (.cons (.ite (.pe inV 2 (.var 3)) (.cons (.ite (.pv isTupV 4) (.cons (.asgS 2 (.var 3) (.p2 addT (.var 4) (.pe subV 2 (.var 3)))) .nil) (.cons (.asgS 2 (.var 3) (.p2 addI (.pe subV 2 (.var 3)) (.var 4))) .nil)) .nil) (.cons (.asgS 2 (.var 3) (.var 4)) .nil)) .nil)) (.cons (.ret (.var 2)) .nil)))⟩
noncomputable def fn2 : Fn := ⟨[0], 3, .cons (.asg .v 1 (.cst (.int 0))) (.cons (.for (.one 2) (.one valuesV (.var 0)) (.cons (.asg .v 1 (.p2 addI (.var 1) (.var 2))) .nil)) (.cons (.ret (.var 1)) .nil))⟩
noncomputable def fn3 : Fn := ⟨[0, 1, 2], 14, .cons (.ite (.p2 (cmpV .LtE) (.p2 (binV .Sub) (.pv bitlenV 0) (.var 2)) (.cst (.int 4000))) (.cons (.ret (.pe divmV 0 (.var 1))) .nil) .nil) (.cons .bad .nil)⟩
noncomputable def fn4 : Fn := ⟨[0, 1, 2, 3, 4, 5], 9, .cons .bad .nil⟩
noncomputable def fn5 : Fn := ⟨[0, 1], 5, .cons (.asg .o 2 (.p2 (binV .Mult) (.pn lstN (.cons (.cst (.int 0)) .nil)) (.p2 (binV .FloorDiv) (.p2 (binV .Sub) (.p2 (binV .Add) (.pv bitlenV 0) (.var 1)) (.cst (.int 1))) (.var 1)))) (.cons (.defn 3 0) (.cons (.ite (.var 0) (.cons (.cloS 3 0 (.cons (.var 0) (.cons (.cst (.int 0)) (.cons (.pv lenV 2) .nil))) [(7, 2), (8, 3), (9, 1)] 10) .nil) .nil) (.cons (.ret (.var 2)) .nil)))⟩
noncomputable def fn6 : Fn := ⟨[0, 1], 4, .cons (.defn 2 1) (.cons (.ret (.ite (.var 0) (.clo 2 1 (.cons (.cst (.int 0)) (.cons (.pv lenV 0) .nil)) [(4, 0), (5, 2), (6, 1)] 7) (.cst (.int 0)))) .nil)⟩
noncomputable def fn7 : Fn := ⟨[0, 1], 13, .cons (.asg .v 2 (.pv bitlenV 1)) (.cons (.asg .v 3 (.call 5 (.cons (.var 0) (.cons (.var 2) .nil)))) (.cons (.asg .v 4 (.cst (.int 0))) (.cons (.asg .o 5 (.pn lstN .nil)) (.cons (.for (.one 6) (.one revV (.var 3)) (.cons (.asgT [7, 4] (.call 3 (.cons (.p2 (binV .Add) (.p2 (binV .LShift) (.var 4) (.var 2)) (.var 6)) (.cons (.var 1) (.cons (.var 2) .nil))))) (.cons (.append 5 (.var 7)) .nil))) (.cons (.reverse 5) (.cons (.asg .v 8 (.call 6 (.cons (.var 5) (.cons (.var 2) .nil)))) (.cons (.ret (.pn tupN (.cons (.var 8) (.cons (.var 4) .nil)))) .nil)))))))⟩
noncomputable def fn8 : Fn := ⟨[0, 1], 7, .cons (.ite (.p2 (cmpV .Eq) (.var 1) (.cst (.int 0))) (.cons .bad .nil) (.cons (.ite (.p2 (cmpV .Lt) (.var 1) (.cst (.int 0))) (.cons (.asgT [2, 3] (.call 8 (.cons (.pv negV 0) (.cons (.pv negV 1) .nil)))) (.cons (.ret (.pn tupN (.cons (.var 2) (.cons (.pv negV 3) .nil)))) .nil)) (.cons (.ite (.p2 (cmpV .Lt) (.var 0) (.cst (.int 0))) (.cons (.asgT [2, 3] (.call 8 (.cons (.pv invV 0) (.cons (.var 1) .nil)))) (.cons (.ret (.pn tupN (.cons (.pv invV 2) (.cons (.p2 (binV .Add) (.var 1) (.pv invV 3)) .nil)))) .nil)) (.cons (.ret (.call 7 (.cons (.var 0) (.cons (.var 1) .nil)))) .nil)) .nil)) .nil)) .nil⟩
noncomputable def fn9 : Fn := ⟨[0, 1, 2], 4, .cons (.ret (.p2 cutTo (.p2 (binV .Add) (.p2 cutFrom (.var 0) (.var 1)) (.p2 cutFrom (.var 2) (.p1 lenV (.p2 cutFrom (.var 0) (.var 1))))) (.pv lenV 2))) .nil⟩
noncomputable def fn10 : Fn := ⟨[0], 8, .cons (.asg .o 1 (.dct .nil .nil)) (.cons (.for (.many [2, 3, 4]) (.one itemsOf (.var 0)) (.cons (.asg .v 5 (.p2 idxV (.cst (.str "abcde")) (.var 2))) (.cons (.asg .v 6 (.pn tupN (.cons (.ite (.p2 (cmpV .Eq) (.var 2) (.var 3)) (.cst (.int 0)) (.cst (.int 1))) (.cons (.cst (.int 1)) (.cons (.p2 (binV .Pow) (.cst (.int 16)) (.var 5)) (.cons (.var 4) (.cons (.dct (.cons (.var 2) (.cons (.p2 subV (.cst (.str "ABCDE")) (.var 5)) .nil)) (.cons (.cst (.int 1)) (.cons (.pn tupN (.cons (.cst (.int 1)) (.cons (.var 4) .nil))) .nil))) .nil))))))) (.cons (.asgS 1 (.var 3) (.call 0 (.cons (.pe getV 1 (.pn tupN (.cons (.var 3) (.cons (.pn tupN (.cons (.cst (.int 0)) (.cons (.cst (.int 0)) (.cons (.cst (.int 0)) (.cons (.cst (.int 0)) (.cons (.dct .nil .nil) .nil)))))) .nil)))) (.cons (.var 6) .nil)))) .nil)))) (.cons (.ret (.var 1)) .nil))⟩
noncomputable def fn11 : Fn := ⟨[0], 5, .cons (.asg .o 1 (.dct .nil .nil)) (.cons (.for (.one 2) (.one itemsOf (.var 0)) (.cons (.for (.one 3) (.one itemsOf (.var 2)) (.cons (.asgS 1 (.var 3) (.call 0 (.cons (.pe getV 1 (.pn tupN (.cons (.var 3) (.cons (.pn tupN (.cons (.cst (.int 0)) (.cons (.cst (.int 0)) (.cons (.cst (.int 0)) (.cons (.cst (.int 0)) (.cons (.dct .nil .nil) .nil)))))) .nil)))) (.cons (.pe subV 2 (.var 3)) .nil)))) .nil)) .nil)) (.cons (.ret (.var 1)) .nil))⟩
noncomputable def fn12 : Fn := ⟨[0], 1, .cons (.ret (.lcomp (.pn tupN (.cons (.var 1) (.cons (.p2 cutTo (.pe subV 3 (.var 1)) (.cst (.int 4))) (.cons (.p1 listItems (.p2 subV (.pe subV 3 (.var 1)) (.cst (.int 4)))) .nil)))) (.cons (.one 1) (.one itemsOf (.var 0)) .nil .nil) [(3, 0)] 4)) .nil⟩
noncomputable def fn13 : Fn := ⟨[0], 2, .cons (.ret (.lcomp (.var 2) (.cons (.many [1, 2]) (.one enumV (.var 0)) (.cons (.p2 ninV (.var 2) (.p2 cutTo (.var 3) (.var 1))) .nil) .nil) [(3, 0)] 4)) .nil⟩
noncomputable def fn14 : Fn := ⟨[0], 11, .cons (.asg .o 1 (.pn lstN .nil)) (.cons (.for (.one 2) (.one itemsOf (.call 13 (.cons (.lcomp (.pe subV 1 (.cst (.int 1))) (.cons (.one 1) (.one itemsOf (.var 0)) .nil .nil) [] 2) .nil))) (.cons (.asg .o 3 (.lcomp (.var 1) (.cons (.one 1) (.one itemsOf (.var 0)) (.cons (.p2 (cmpV .Eq) (.pe subV 1 (.cst (.int 1))) (.var 2)) .nil) .nil) [(2, 2)] 3)) (.cons (.asg .o 4 (.lcomp (.pe subV 1 (.cst (.int 0))) (.cons (.one 1) (.one itemsOf (.var 3)) .nil .nil) [] 2)) (.cons (.asg .v 5 (.pn lstN .nil)) (.cons (.for (.one 6) (.one itemsOf (.call 13 (.cons (.var 4) .nil))) (.cons (.asg .o 7 (.lcomp (.pe subV 1 (.cst (.int 2))) (.cons (.one 1) (.one itemsOf (.var 3)) (.cons (.p2 (cmpV .Eq) (.pe subV 1 (.cst (.int 0))) (.var 2)) .nil) .nil) [(2, 6)] 3)) (.cons (.asg .v 5 (.p2 (binV .Add) (.var 5) (.pn lstN (.cons (.pn tupN (.cons (.var 6) (.cons (.pv lenV 7) .nil))) (.cons (.pn tupN (.cons (.p2 subV (.cst (.str "ABCDE")) (.p2 idxV (.cst (.str "abcde")) (.var 6))) (.cons (.pn tupN (.cons (.pv lenV 7) (.cons (.pv sumV 7) .nil))) .nil))) .nil))))) .nil))) (.cons (.append 1 (.pn tupN (.cons (.var 2) (.cons (.pn tupN (.cons (.p2 (binV .Sub) (.pv lenV 3) (.p2 countV (.var 4) (.var 2))) (.cons (.pv lenV 3) (.cons (.p1 sumV (.lcomp (.p2 (binV .Pow) (.cst (.int 16)) (.p2 idxV (.cst (.str "abcde")) (.var 1))) (.cons (.one 1) (.one itemsOf (.var 4)) .nil .nil) [] 2)) (.cons (.p1 sumV (.lcomp (.pe subV 1 (.cst (.int 2))) (.cons (.one 1) (.one itemsOf (.var 3)) .nil .nil) [] 2)) .nil))))) (.cons (.var 5) .nil))))) .nil)))))) (.cons (.ret (.var 1)) .nil))⟩
noncomputable def fn15 : Fn := ⟨[0], 15, .cons (.asg .o 2 (.lcomp (.pn tupN (.cons (.pe subV 2 (.p2 (binV .Sub) (.var 1) (.cst (.int 1)))) (.cons (.pe subV 2 (.var 1)) .nil))) (.cons (.one 1) (.one itemsOf (.p2 rngV (.cst (.int 1)) (.pv lenV 0))) .nil .nil) [(2, 0)] 3)) (.cons (.asg .v 3 (.call 13 (.cons (.var 2) .nil))) (.cons (.asg .v 4 (.dct (.cons (.p1 sumV (.lcomp (.p2 (binV .Mult) (.p2 (binV .Pow) (.cst (.int 10)) (.var 1)) (.p2 countV (.var 3) (.pe subV 2 (.var 1)))) (.cons (.one 1) (.one itemsOf (.p1 (rngV (.int 0)) (.pv lenV 3))) .nil .nil) [(2, 3), (3, 2)] 4)) .nil) (.cons (.pn tupN (.cons (.pe subV 0 (.cst (.int 0))) (.cons (.cst (.int 1)) .nil))) .nil))) (.cons (.for (.one 5) (.one itemsOf (.p1 (rngV (.int 0)) (.pv lenV 2))) (.cons (.asg .o 6 (.dct .nil .nil)) (.cons (.for (.one 7) (.one itemsOf (.var 4)) (.cons (.asgT [8, 9] (.pe subV 4 (.var 7))) (.cons (.for (.one 1) (.one itemsOf (.p1 (rngV (.int 0)) (.pv lenV 3))) (.cons (.ite (.ite (.p2 (cmpV .Eq) (.p2 subV (.pe subV 3 (.var 1)) (.cst (.int 0))) (.var 8)) (.p2 (cmpV .Gt) (.p2 (binV .Mod) (.p2 (binV .FloorDiv) (.var 7) (.p2 (binV .Pow) (.cst (.int 10)) (.var 1))) (.cst (.int 10))) (.cst (.int 0))) (.cst (.bool false))) (.cons (.asg .v 10 (.p2 (binV .Sub) (.var 7) (.p2 (binV .Pow) (.cst (.int 10)) (.var 1)))) (.cons (.asgS 6 (.var 10) (.pn tupN (.cons (.p2 subV (.pe subV 3 (.var 1)) (.cst (.int 1))) (.cons (.p2 (binV .Add) (.var 9) (.ite (.pe inV 6 (.var 10)) (.p2 subV (.pe subV 6 (.var 10)) (.cst (.int 1))) (.cst (.int 0)))) .nil)))) .nil)) .nil) .nil)) .nil))) (.cons (.asg .v 4 (.var 6)) .nil)))) (.cons (.ret (.p2 subV (.pe subV 4 (.cst (.int 0))) (.cst (.int 1)))) .nil))))⟩
noncomputable def fn16 : Fn := ⟨[0], 3, .cons (.asg .v 1 (.cst (.int 1))) (.cons (.for (.one 2) (.one itemsOf (.var 0)) (.cons (.asg .v 1 (.p2 (binV .Mult) (.var 1) (.var 2))) .nil)) (.cons (.ret (.var 1)) .nil))⟩
noncomputable def fn17 : Fn := ⟨[0, 1], 12, .cons (.asg .o 2 (.lcomp (.var 1) (.cons (.one 1) (.one itemsOf (.var 0)) (.cons (.p2 (cmpV .NotEq) (.var 1) (.var 2)) .nil) .nil) [(2, 1)] 3)) (.cons (.asgR 3 (.lcomp (.lcomp (.ite (.p2 (cmpV .Eq) (.var 3) (.var 1)) (.p2 subV (.pe subV 2 (.var 1)) (.cst (.int 0))) (.p1 negV (.p2 getV (.p2 subV (.pe subV 2 (.var 1)) (.cst (.int 4))) (.pn tupN (.cons (.var 3) (.cons (.cst (.int 0)) .nil)))))) (.cons (.one 1) (.one itemsOf (.var 3)) .nil .nil) [(2, 2), (3, 1)] 4) (.cons (.one 1) (.one itemsOf (.var 2)) .nil .nil) [(2, 0), (3, 2)] 4)) (.cons (.asg .v 4 (.cst (.int 1))) (.cons (.for (.one 5) (.one itemsOf (.p1 (rngV (.int 0)) (.pv lenV 2))) (.cons (.for (.many [6, 7]) (.one itemsOf (.lcomp (.pn tupN (.cons (.var 1) (.cons (.var 2) .nil))) (.cons (.one 1) (.one itemsOf (.p2 rngV (.p2 (binV .Add) (.var 5) (.cst (.int 1))) (.pv lenV 2))) .nil (.cons (.one 2) (.one itemsOf (.p2 rngV (.p2 (binV .Add) (.var 5) (.cst (.int 1))) (.pv lenV 6))) .nil .nil)) [(5, 5), (6, 2)] 7)) (.cons (.asg .v 8 (.call 8 (.cons (.p2 (binV .Sub) (.p2 (binV .Mult) (.pe sub2V 3 (.pn tupN (.cons (.var 5) (.cons (.var 5) .nil)))) (.pe sub2V 3 (.pn tupN (.cons (.var 6) (.cons (.var 7) .nil))))) (.p2 (binV .Mult) (.pe sub2V 3 (.pn tupN (.cons (.var 6) (.cons (.var 5) .nil)))) (.pe sub2V 3 (.pn tupN (.cons (.var 5) (.cons (.var 7) .nil)))))) (.cons (.var 4) .nil)))) (.cons (.ite (.p2 (cmpV .NotEq) (.pe subV 8 (.cst (.int 1))) (.cst (.int 0))) (.cons (.ret (.cst (.int 0))) .nil) .nil) (.cons (.asgSS 3 (.var 6) (.var 7) (.pe subV 8 (.cst (.int 0)))) .nil)))) (.cons (.asg .v 4 (.pe sub2V 3 (.pn tupN (.cons (.var 5) (.cons (.var 5) .nil))))) .nil))) (.cons (.ret (.var 4)) .nil))))⟩
noncomputable def fn18 : Fn := ⟨[0], 10, .cons (.asg .o 1 (.lcomp (.p2 getV (.pe subV 2 (.cst (.int 4))) (.pn tupN (.cons (.var 1) (.cons (.cst (.int 0)) .nil)))) (.cons (.one 1) (.one itemsOf (.cst (.str "abcde"))) .nil .nil) [(2, 0)] 3)) (.cons (.asg .v 2 (.p1 maxV (.lcomp (.p2 (binV .Add) (.var 1) (.cst (.int 1))) (.cons (.one 1) (.one itemsOf (.p1 (rngV (.int 0)) (.cst (.int 5)))) (.cons (.p2 (cmpV .Gt) (.pe subV 2 (.var 1)) (.cst (.int 0))) .nil) .nil) [(2, 1)] 3))) (.cons (.asg .v 3 (.pn tupN (.cons (.p2 (binV .FloorDiv) (.pe subV 0 (.cst (.int 3))) (.pe subV 0 (.cst (.int 1)))) (.cons (.p2 (binV .Mod) (.pe subV 0 (.cst (.int 3))) (.pe subV 0 (.cst (.int 1)))) .nil)))) (.cons (.ite (.or (.p2 (cmpV .NotEq) (.call 5 (.cons (.pe subV 0 (.cst (.int 2))) (.cons (.cst (.int 4)) .nil))) (.p2 cutTo (.var 1) (.var 2))) (.or (.p2 (cmpV .NotEq) (.call 6 (.cons (.var 1) (.cons (.cst (.int 4)) .nil))) (.pe subV 0 (.cst (.int 2)))) (.p2 (cmpV .NotEq) (.call 8 (.cons (.pe subV 0 (.cst (.int 3))) (.cons (.pe subV 0 (.cst (.int 1))) .nil))) (.var 3)))) (.cons (.ret (.cst (.bool false))) .nil) .nil) (.cons (.ret (.p2 (cmpV .Eq) (.call 2 (.cons (.dcomp (.var 1) (.p2 subV (.pe subV 2 (.cst (.int 4))) (.var 1)) (.cons (.one 1) (.one itemsOf (.pe subV 0 (.cst (.int 4)))) (.cons (.p2 insV (.var 1) (.cst (.str "abcde"))) .nil) .nil) [(2, 0)] 3) .nil)) (.pe subV 0 (.cst (.int 1))))) .nil))))⟩
noncomputable def fn19 : Fn := ⟨[0], 2, .cons .bad .nil⟩
noncomputable def lw0 : S := .asg .v 1 (.call 9 (.cons (.var 0) (.cons (.cst (.int 0)) (.cons (.pn lstN (.cons (.cst (.int 5)) (.cons (.cst (.int 1)) (.cons (.p1 negV (.cst (.int 3))) (.cons (.cst (.int 8)) (.cons (.cst (.int 6)) (.cons (.cst (.int 2)) (.cons (.p1 negV (.cst (.int 1))) (.cons (.cst (.int 3)) (.cons (.cst (.int 9)) .nil)))))))))) .nil))))
noncomputable def lw1 : S := .asg .o 2 (.lcomp (.p2 subV (.cst (.str "abcde")) (.p2 (binV .Mod) (.var 1) (.cst (.int 5)))) (.cons (.one 1) (.one itemsOf (.var 1)) .nil .nil) [] 2)
noncomputable def lw2 : S := .asg .o 3 (.lcomp (.pn tupN (.cons (.pe subV 3 (.p2 (binV .Sub) (.var 1) (.cst (.int 1)))) (.cons (.pe subV 3 (.var 1)) (.cons (.pe subV 2 (.var 1)) .nil)))) (.cons (.one 1) (.one itemsOf (.p1 (rngV (.int 0)) (.cst (.int 9)))) .nil .nil) [(2, 1), (3, 2)] 4)
noncomputable def lw3 : S := .asgT [4, 5] (.call 9 (.cons (.var 0) (.cons (.cst (.int 9)) (.cons (.pn lstN (.cons (.cst (.int 4)) (.cons (.cst (.int 3)) .nil))) .nil))))
noncomputable def lw4 : S := .asg .v 6 (.pn lstN (.cons (.call 10 (.cons (.p2 cutTo (.var 3) (.p2 (binV .Mod) (.var 4) (.cst (.int 10)))) .nil)) (.cons (.call 10 (.cons (.p2 cutFrom (.var 3) (.p2 (binV .Mod) (.var 4) (.cst (.int 10)))) .nil)) .nil)))
noncomputable def lw5 : S := .asg .v 7 (.call 11 (.cons (.var 6) .nil))
noncomputable def lw6 : S := .ite (.or (.p2 (cmpV .NotEq) (.call 12 (.cons (.var 7) .nil)) (.call 14 (.cons (.var 3) .nil))) (.p2 (cmpV .NotEq) (.lcomp (.var 1) (.cons (.one 1) (.one itemsOf (.var 7)) (.cons (.p1 notV (.call 18 (.cons (.pe subV 3 (.var 1)) .nil))) .nil) .nil) [(3, 7)] 4) (.pn lstN .nil))) (.cons (.ret (.cst (.bool false))) .nil) .nil
noncomputable def lw7 : S := .asg .o 8 (.lcomp (.p2 subV (.p2 subV (.pe subV 3 (.var 1)) (.cst (.int 4))) (.var 2)) (.cons (.one 1) (.one itemsOf (.var 7)) .nil (.cons (.one 2) (.one itemsOf (.p2 subV (.pe subV 3 (.var 1)) (.cst (.int 4)))) (.cons (.p2 insV (.var 2) (.cst (.str "abcde"))) .nil) .nil)) [(3, 7)] 4)
noncomputable def lw8 : S := .asg .v 9 (.p2 (binV .Mult) (.call 16 (.cons (.lcomp (.call 16 (.cons (.p2 rngV (.cst (.int 1)) (.p2 subV (.pe subV 4 (.var 1)) (.cst (.int 1)))) .nil)) (.cons (.one 1) (.one itemsOf (.var 7)) .nil .nil) [(4, 7)] 5) .nil)) (.p2 subV (.p2 subV (.pe subV 7 (.pe subV 2 (.cst (.int 0)))) (.cst (.int 4))) (.pe subV 2 (.p1 negV (.cst (.int 1))))))
noncomputable def lw9 : S := .asg .v 10 (.call 16 (.cons (.lcomp (.call 16 (.cons (.p2 rngV (.cst (.int 1)) (.p2 (binV .Add) (.var 1) (.cst (.int 1)))) .nil)) (.cons (.one 1) (.one itemsOf (.var 8)) .nil .nil) [] 4) .nil))
noncomputable def lw10 : S := .asg .v 11 (.pn tupN (.cons (.call 15 (.cons (.var 2) .nil)) (.cons (.cst (.int 0)) .nil)))
noncomputable def lw11 : S := .for (.one 12) (.one itemsOf (.pn tupN (.cons (.pe subV 2 (.cst (.int 0))) (.cons (.p2 subV (.p1 keysV (.var 7)) (.p2 (binV .Mod) (.var 5) (.pv lenV 7))) .nil)))) (.cons (.ite (.p2 (cmpV .NotEq) (.call 8 (.cons (.p2 (binV .Mult) (.call 17 (.cons (.var 7) (.cons (.var 12) .nil))) (.var 9)) (.cons (.var 10) .nil))) (.var 11)) (.cons (.ret (.cst (.bool false))) .nil) .nil) .nil)
noncomputable def lw13 : S := .ret (.p2 (cmpV .Eq) (.lcomp (.call 12 (.cons (.var 1) .nil)) (.cons (.one 1) (.one itemsOf (.var 6)) .nil .nil) [] 3) (.pn lstN (.cons (.call 14 (.cons (.p2 cutTo (.var 3) (.p2 (binV .Mod) (.var 4) (.cst (.int 10)))) .nil)) (.cons (.call 14 (.cons (.p2 cutFrom (.var 3) (.p2 (binV .Mod) (.var 4) (.cst (.int 10)))) .nil)) .nil))))
noncomputable def fn20 : Fn := ⟨[0], 26, .cons .bad .nil⟩
noncomputable def p1 : Prog := ⟨[fn0, fn1, fn2, fn3, fn4, fn5, fn6, fn7, fn8, fn9, fn10, fn11, fn12, fn13, fn14, fn15, fn16, fn17, fn18, fn19, fn20], [nn0, nn1]⟩
end Mine
end
section
set_option maxRecDepth 100000
set_option genSizeOf false
set_option genInjectivity false
namespace Mine
open PySem PyProof.Rows SeqAt
noncomputable def fdOf : Stmt → Option FD
  | .FunctionDef name args b _ _ _ sc _ _ _ => some ⟨name, args, b, sc⟩
  | _ => none
noncomputable def body1 : List Stmt := PySem.Challenge.pw_ph0108_01.main.body
noncomputable def nilFD : FD := ⟨"", ⟨[], [], none, [], [], none, []⟩, [], { kind := .function, names := [], isGenerator := false, isCoroutine := false }⟩
noncomputable def fds1 : List FD := body1.filterMap fdOf
noncomputable def fd1 (i : Nat) : FD := fds1.getD i nilFD
noncomputable def nf1 (i : Nat) : FD := ((fd1 i).body.filterMap fdOf).getD 0 nilFD
noncomputable def gc1 : List (Str × Int) := [("_DIV_LIMIT", 4000)]
noncomputable def gl1 : List Str := fds1.map (·.name)
noncomputable def Tf (cd : Bool) (nst : List (Str × Nat × List (Str × Bool) × List Str)) (sc : Scope) : Tx := ⟨gl1, gc1, sig sc, cfOf sc, owOf sc, cd, nst⟩
noncomputable def inn (f : Nat) (sc : Scope) : List (Str × Nat × List (Str × Bool) × List Str) := [("inner", f, sig sc, freeIn sc)]
noncomputable def T1 (i : Nat) : Tx := Tf true [] (fd1 i).sc
noncomputable def TI (i f : Nat) : Tx := Tf true (inn f (nf1 i).sc) (fd1 i).sc
noncomputable def TN (i f : Nat) : Tx := Tf false (inn f (nf1 i).sc) (nf1 i).sc
noncomputable def nst1 : List Nest := [⟨(nf1 5).args, (nf1 5).body, (nf1 5).sc⟩, ⟨(nf1 6).args, (nf1 6).body, (nf1 6).sc⟩]
noncomputable def lst1 (i : Nat) : Stmt := (fd1 20).body.getD i (.Pass ⟨0, 0, 0, 0⟩)
noncomputable def Ds (G : Gd) (T : Tx) (b : Stmt) (t : S) : Prop := ∀ c k, Bk G c k T → SS G c k T b t
noncomputable def Dr (G : Gd) (T : Tx) (b : List Stmt) (t : Ss) : Prop := ∀ c k, Bk G c k T → SSs G c k T b t
noncomputable def nmB (T : Tx) (x : Str) (i : Nat) : Bool := isVar T.sg x && (idxOf T.sg x == i && (!(x == ("__debug__" : Str)) && !(x == ("__classdict__" : Str))))
theorem not_eq {b : Bool} (h : (!b) = true) : b = false := by
  cases b with
  | false => rfl
  | true => exact Bool.noConfusion h
theorem nm_ok {T : Tx} {x : Str} {i : Nat} (h : nmB T x i = true) : NmOk T x i := by
  obtain ⟨h1, h⟩ := Bool.and_eq_true_iff.mp h
  obtain ⟨h2, h⟩ := Bool.and_eq_true_iff.mp h
  obtain ⟨h3, h4⟩ := Bool.and_eq_true_iff.mp h
  exact ⟨h1, eq_of_beq h2, not_eq h3, not_eq h4⟩
noncomputable def gnB (T : Tx) (x : Str) : Bool := T.sg.lookup x == some false && !(x == ("__debug__" : Str))
theorem gn_ok {T : Tx} {x : Str} (h : gnB T x = true) : GnOk T x := by
  obtain ⟨h1, h2⟩ := Bool.and_eq_true_iff.mp h
  exact ⟨h1, not_eq h2⟩
theorem ow_ok {T : Tx} {x : Str} (h : T.ow.contains x = true) : x ∈ T.ow := List.contains_iff_mem.mp h
theorem ix_ok {T : Tx} {x : Str} {i : Nat} (h : (idxOf T.sg x == i) = true) : idxOf T.sg x = i := eq_of_beq h
theorem lk5 : (TI 5 0).nst.lookup (Str.ofString "inner") = some (0, sig (nf1 5).sc, freeIn (nf1 5).sc) := by kernel_rfl
theorem lk6 : (TI 6 1).nst.lookup (Str.ofString "inner") = some (1, sig (nf1 6).sc, freeIn (nf1 6).sc) := by kernel_rfl
theorem lkn5 : (TN 5 0).nst.lookup (Str.ofString "inner") = some (0, sig (nf1 5).sc, freeIn (nf1 5).sc) := by kernel_rfl
theorem lkn6 : (TN 6 1).nst.lookup (Str.ofString "inner") = some (1, sig (nf1 6).sc, freeIn (nf1 6).sc) := by kernel_rfl
set_option maxHeartbeats 8000000
section
variable {G : Gd}
section
variable {c : Cx} {k : Nat} {T : Tx} {x : Str} {i n : Nat} {p p' pp ap : Pos} {e e' it tn : Expr} {es ifs : List Expr} {t tb : E} {ts tifs : Es} {is : List Nat} {f : V → Option V} {g : V → V → Option V} {sc : Scope} {r : List Comprehension} {tg : Tg} {ti : It} {gs : Gs} {tp : Expr → Prop} {cap : List (Nat × Nat)} {op : CmpOp}
theorem zv (h : nmB T x i = true := by kernel_rfl) : SE G c k T (.Name x p) (.var i) := se_var p (nm_ok h)
theorem za (h : nmB T x i = true := by kernel_rfl) : SA G c k T (.Name x p) f (.pv f i) := sa_var (nm_ok h)
theorem zw (hb : SE G c k T e' tb) (h : nmB T x i = true := by kernel_rfl) : SA2 G c k T (.Name x p) e' g (.pe g i tb) := sa2_var (nm_ok h) hb
theorem zi {j : Int} : SE G c k T (.Constant (.int j) n p) (.cst (.int j)) := se_int j n p
theorem zs {y : Str} : SE G c k T (.Constant (.str y) n p) (.cst (.str y)) := se_str y n p
theorem zn (r : Nms T es is) (ho : T.ow.contains x = true := by kernel_rfl) (hi : (idxOf T.sg x == i) = true := by kernel_rfl) : Nms T (.Name x p :: es) (i :: is) := .cons (ow_ok ho) (ix_ok hi) r
theorem zo (ho : T.ow.contains x = true := by kernel_rfl) (hi : (idxOf T.sg x == i) = true := by kernel_rfl) : TgOk T (.Name x p) (.one i) := .one (ow_ok ho) (ix_ok hi)
theorem ya (h : SE G c k T e t) (ho : T.ow.contains x = true := by kernel_rfl) (hi : (idxOf T.sg x == i) = true := by kernel_rfl) (hs : NoSwap e x p p' := by exact fun _ => rfl) : SS G c k T (.Assign [.Name x p] e p') (.asg .v i t) := ss_asg (ow_ok ho) (ix_ok hi) hs h
theorem yo (h : SEo G c k T e t) (ho : T.ow.contains x = true := by kernel_rfl) (hi : (idxOf T.sg x == i) = true := by kernel_rfl) (hs : NoSwap e x p p' := by exact fun _ => rfl) : SS G c k T (.Assign [.Name x p] e p') (.asg .o i t) := ss_asgO (ow_ok ho) (ix_ok hi) hs h
theorem yc (g : GsOk G c k T sc tn it ifs r tg ti tifs gs tp) (h : SE G c k (T.inner sc) e t) (ho : T.ow.contains x = true := by kernel_rfl) (hi : (idxOf T.sg x == i) = true := by kernel_rfl) (hc : capOf (sig sc) T.sg (freeIn sc) = cap := by kernel_rfl) (hn : sc.names.length = n := by kernel_rfl) :
    SS G c k T (.Assign [.Name x p] (.ListComp e (⟨tn, it, ifs, 0⟩ :: r) sc pp) p') (.asg .o i (.lcomp t (.cons tg ti tifs gs) cap n)) := ss_asgC (ow_ok ho) (ix_ok hi) hc hn g h
theorem yt (hn : Nms T es is) (h : SE G c k T e t) (h1 : ∀ env, swapsWithSole [.Tuple es n p] e p'.line env = pure false := by exact fun _ => rfl) (h2 : ∀ env, swappedStores [.Tuple es n p] e env = pure none := by exact fun _ => rfl) : SS G c k T (.Assign [.Tuple es n p] e p') (.asgT is t) := ss_asgT hn h1 h2 h
theorem ys (hi : SE G c k T e' tb) (h : SE G c k T e t) (n : nmB T x i = true := by kernel_rfl) (hsw : ∀ env, swapsWith e (some (.Subscript (.Name x p) e' pp)) p'.line env = pure false := by exact fun _ => rfl) : SS G c k T (.Assign [.Subscript (.Name x p) e' pp] e p') (.asgS i tb t) := ss_asgS (nm_ok n) hsw hi h
theorem zx (h : SE G c k T e t) (r : SEs G c k T es ts) (n : Ns e := by exact fun _ _ _ => rfl) : SEs G c k T (e :: es) (.cons t ts) := .cons n h r
theorem zb (h : SA2 G c k T e e' subV t) (hs : Sbs e' := by exact fun _ _ => ⟨_, rfl⟩) : SE G c k T (.Subscript e e' p) t := se_sub hs h
theorem zt (h : SEs G c k T es ts) (hl : decide (es.length ≤ 1000) = true := by kernel_rfl) : SE G c k T (.Tuple es n p) (.pn tupN ts) := se_tup hl h
theorem zl (h : SEs G c k T es ts) (hl : decide (es.length ≤ 1000) = true := by kernel_rfl) : SEo G c k T (.List es p) (.pn lstN ts) := seo_lst hl h
theorem zd (ha : SE G c k T e t) (hb : SE G c k T e' tb) (hm : behindInMarks op e' = false := by kernel_rfl) : SB G c k T (.Compare e [op] [e'] p) (.p2 (cmpV op) t tb) := sb_cmp hm (sr2 ha hb)
theorem z2 {op : Operator} (ha : SE G c k T e t) (hb : SE G c k T e' tb) : SE G c k T (.BinOp e op e' p) (.p2 (binV op) t tb) := SEo.se (seo_bin (sr2 ha hb))
theorem yp (h : SE G c k T e t) (n : nmB T x i = true := by kernel_rfl) (hl : (ap.endLine == p.line) = true := by kernel_rfl) (hc : Nc (.Name x p') := by exact fun _ _ => rfl) (ns : Ns e := by exact fun _ _ _ => rfl) : SS G c k T (.Expr (.Call (.Attribute (.Name x p') "append" ap) [e] [] p) pp) (.append i t) := ss_append (nm_ok n) hl hc ns h
theorem zj (ha : SE G c k T e t) (hb : SE G c k T e' tb) (hl : (ap.endLine == p.line) = true := by kernel_rfl) (hc : Nc e := by exact fun _ _ => rfl) (n : Ns e' := by exact fun _ _ _ => rfl) : SE G c k T (.Call (.Attribute e "index" ap) [e'] [] p) (.p2 idxV t tb) := se_index hl hc n ha hb
theorem zk (ha : SE G c k T e t) (hb : SE G c k T e' tb) (hl : (ap.endLine == p.line) = true := by kernel_rfl) (hc : Nc e := by exact fun _ _ => rfl) (n : Ns e' := by exact fun _ _ _ => rfl) : SE G c k T (.Call (.Attribute e "count" ap) [e'] [] p) (.p2 countV t tb) := se_count hl hc n ha hb
theorem zl2 (g : GsOk G c k T sc tn it ifs r tg ti tifs gs tp) (h : SE G c k (T.inner sc) e t) (hc : capOf (sig sc) T.sg (freeIn sc) = cap := by kernel_rfl) (hn : sc.names.length = n := by kernel_rfl) : SEo G c k T (.ListComp e (⟨tn, it, ifs, 0⟩ :: r) sc pp) (.lcomp t (.cons tg ti tifs gs) cap n) := seo_lcomp hc hn g h
theorem zf (b : Bk G c k T) (h : SEs G c k T es ts) (gn : gnB T x = true := by kernel_rfl) (hn : T.gl[n]? = some x := by kernel_rfl) : SE G c k T (.Call (.Name x p) es [] p') (.call n ts) := se_call b.toBs (gn_ok gn) hn h
theorem bi_ok {b : Value} (gn : gnB T x = true) (h : biNames.lookup x = some b) : BN T x b := ⟨gn_ok gn, h⟩
theorem zu {b : Value} (bs : Bs G c k T) (ok : Ok1 G k b f) (h : SA G c k T e f t) (gn : gnB T x = true := by kernel_rfl) (hv : biNames.lookup x = some b := by kernel_rfl) (ns : Ns e := by exact fun _ _ _ => rfl) (hb : Bi b := by constructor) : SE G c k T (.Call (.Name x p) [e] [] p') t := se_bi1 bs hb ok (bi_ok gn hv) ns h
theorem zg (h : SE G c k T it t) (hif : SBl G c k (T.inner sc) ifs tifs) (hr : SGs G c k (T.inner sc) r gs) (ok : scOk T.cf sc = true := by kernel_rfl) (ht : TgOk (T.inner sc) (.Name x p) (.one i) := by exact zo) (fs : ∀ env x, foldedSetIterable it env x = pure x := by exact fun _ _ => rfl) : GsOk G c k T sc (.Name x p) it ifs r (.one i) (.one itemsOf t) tifs gs Tgt := gs_ok (si_plain h) .name ok ht fs hif hr
theorem yf {body : List Stmt} {bt : Ss} (h : SE G c k T it t) (hb : SSs G c k T body bt) (ht : TgOk T (.Name x p) (.one i) := by exact zo) (fs : ∀ env x, foldedSetIterable it env x = pure x := by exact fun _ _ => rfl) : SS G c k T (.For (.Name x p) it body [] p') (.for (.one i) (.one itemsOf t) bt) := ss_for' (si_plain h) .name ht fs hb
theorem y1 {st : Stmt} {r : List Stmt} {t : S} {tr : Ss} (h : SS G c k T st t) (hr : SSs G c k T r tr) : SSs G c k T (st :: r) (.cons t tr) := sss_cons h hr
theorem y0 : SSs G c k T [] .nil := sss_nil
end
theorem d1_0 : Dr G (T1 0) (fd1 0).body fn0.body := fun c k b => (y1 (yt (zn (zn (zn (zn (zn .nil))))) zv) (y1 (yt (zn (zn (zn (zn (zn .nil))))) zv) (y1 (ss_ret (zt (zx (z2 zv zv) (zx (z2 zv zv) (zx (z2 zv zv) (zx (z2 zv zv) (zx (zf b (zx zv (zx zv .nil))) .nil))))))) y0)))
theorem d1_1 : Dr G (T1 1) (fd1 1).body fn1.body := fun c k b => (y1 (yo (seo_dct0 b.toBs)) (y1 (ss_for' (si_items (by kernel_rfl) (by exact fun _ _ => rfl) zv) .tup (.many (zn (zn .nil))) (by exact fun _ _ => rfl) (y1 (ys zv zv) y0)) (y1 (ss_for' (si_items (by kernel_rfl) (by exact fun _ _ => rfl) zv) .tup (.many (zn (zn .nil))) (by exact fun _ _ => rfl) (y1 (ss_ite (sb_in (by kernel_rfl) (sin_var (nm_ok (by kernel_rfl)) zv)) (y1 (ss_ite (sb_value (by exact fun _ _ => rfl) (se_isTup b.toBs ⟨gn_ok (by kernel_rfl), (by kernel_rfl)⟩ ⟨gn_ok (by kernel_rfl), (by kernel_rfl)⟩ (by exact fun _ _ _ => rfl) (by exact fun _ _ _ => rfl) za)) (y1 (ys zv (se_tzip b.toBs b.bm ⟨gn_ok (by kernel_rfl), (by kernel_rfl)⟩ ⟨gn_ok (by kernel_rfl), (by kernel_rfl)⟩ (by kernel_rfl) (by kernel_rfl) (by kernel_rfl) (by kernel_rfl) (by kernel_rfl) (by kernel_rfl) (by kernel_rfl) (by kernel_rfl) (by kernel_rfl) (by exact fun _ _ _ => rfl) (by exact fun _ _ _ => rfl) (by exact fun _ _ _ => rfl) zv (zb (zw zv)))) y0) (y1 (ss_augS (nm_ok (by kernel_rfl)) (nm_ok (by kernel_rfl)) zv) y0)) y0) (y1 (ys zv zv) y0)) y0)) (y1 (ss_ret zv) y0))))
theorem d1_2 : Dr G (T1 2) (fd1 2).body fn2.body := fun c k b => (y1 (ya zi) (y1 (ss_for' (si_values (by kernel_rfl) (by exact fun _ _ => rfl) zv) .name zo (by exact fun _ _ => rfl) (y1 (ss_aug (nm_ok (by kernel_rfl)) (ow_ok (by kernel_rfl)) zv) y0)) (y1 (ss_ret zv) y0)))
theorem d1_3 : Dr G (T1 3) (fd1 3).body fn3.body := fun c k b => (y1 (ss_ite (zd (z2 (se_bitlen (by kernel_rfl) (by exact fun _ _ => rfl) za) zv) (se_gc _ b.toBs (gn_ok (by kernel_rfl)) (by kernel_rfl))) (y1 (ss_ret (se_bi2 b.toBs (.b _) ok2_divmod ⟨gn_ok (by kernel_rfl), (by kernel_rfl)⟩ (by exact fun _ _ _ => rfl) (by exact fun _ _ _ => rfl) (zw zv))) y0) y0) sss_bad)
theorem d1_4 : Dr G (T1 4) (fd1 4).body fn4.body := fun c k b => sss_bad
theorem d1_5 (n : G.nest 0 = some ⟨(nf1 5).args, (nf1 5).body, (nf1 5).sc⟩) : Dr G (TI 5 0) (fd1 5).body fn5.body := fun c k b => have l := lk5; (y1 (yo (seo_bin (sr2 (SEo.se (zl (zx zi .nil))) (z2 (z2 (z2 (se_bitlen (by kernel_rfl) (by exact fun _ _ => rfl) za) zv) zi) zv)))) (y1 (ss_defn b.bm (ow_ok (by kernel_rfl)) (ix_ok (by kernel_rfl)) (by kernel_rfl) (by kernel_rfl) (by kernel_rfl) n) (y1 (ss_ite (sb_value (by exact fun _ _ => rfl) zv) (y1 (ss_cloS b.toBz l (nm_ok (by kernel_rfl)) (by kernel_rfl) (by kernel_rfl) (zx zv (zx zi (zx (zu b.toBs ok1_len za) .nil)))) y0) y0) (y1 (ss_ret zv) y0))))
theorem d1_6 (n : G.nest 1 = some ⟨(nf1 6).args, (nf1 6).body, (nf1 6).sc⟩) : Dr G (TI 6 1) (fd1 6).body fn6.body := fun c k b => have l := lk6; (y1 (ss_defn b.bm (ow_ok (by kernel_rfl)) (ix_ok (by kernel_rfl)) (by kernel_rfl) (by kernel_rfl) (by kernel_rfl) n) (y1 (ss_ret (se_ite (sb_value (by exact fun _ _ => rfl) zv) (se_clo b.toBz l (nm_ok (by kernel_rfl)) (by kernel_rfl) (by kernel_rfl) (zx zi (zx (zu b.toBs ok1_len za) .nil))) zi)) y0))
theorem d1_7 : Dr G (T1 7) (fd1 7).body fn7.body := fun c k b => (y1 (ya (se_bitlen (by kernel_rfl) (by exact fun _ _ => rfl) za)) (y1 (ya (zf b (zx zv (zx zv .nil)))) (y1 (ya zi) (y1 (yo (zl .nil)) (y1 (ss_for' (si_rev b.toBs ⟨gn_ok (by kernel_rfl), (by kernel_rfl)⟩ (by exact fun _ _ _ => rfl) zv) .name zo (by exact fun _ _ => rfl) (y1 (yt (zn (zn .nil)) (zf b (zx (z2 (z2 zv zv) zv) (zx zv (zx zv .nil))))) (y1 (yp zv) y0))) (y1 (ss_reverse (nm_ok (by kernel_rfl)) (by kernel_rfl) (by exact fun _ _ => rfl)) (y1 (ya (zf b (zx zv (zx zv .nil)))) (y1 (ss_ret (zt (zx zv (zx zv .nil)))) y0))))))))
theorem d1_8 : Dr G (T1 8) (fd1 8).body fn8.body := fun c k b => (y1 (ss_ite (zd zv zi) sss_bad (y1 (ss_ite (zd zv zi) (y1 (yt (zn (zn .nil)) (zf b (zx (se_neg za) (zx (se_neg za) .nil)))) (y1 (ss_ret (zt (zx zv (zx (se_neg za) .nil)))) y0)) (y1 (ss_ite (zd zv zi) (y1 (yt (zn (zn .nil)) (zf b (zx (se_inv za) (zx zv .nil)))) (y1 (ss_ret (zt (zx (se_inv za) (zx (z2 zv (se_inv za)) .nil)))) y0)) (y1 (ss_ret (zf b (zx zv (zx zv .nil)))) y0)) y0)) y0)) y0)
theorem d1_9 : Dr G (T1 9) (fd1 9).body fn9.body := fun c k b => (y1 (ss_ret (se_cutTo (by exact fun _ _ => ⟨_, rfl⟩) (z2 (se_cutFrom (by exact fun _ _ => ⟨_, rfl⟩) zv zv) (se_cutFrom (by exact fun _ _ => ⟨_, rfl⟩) zv (zu b.toBs ok1_len (sa_of (se_cutFrom (by exact fun _ _ => ⟨_, rfl⟩) zv zv))))) (zu b.toBs ok1_len za))) y0)
theorem d1_10 : Dr G (T1 10) (fd1 10).body fn10.body := fun c k b => (y1 (yo (seo_dct0 b.toBs)) (y1 (ss_for' (si_plain zv) .tup (.many (zn (zn (zn .nil)))) (by exact fun _ _ => rfl) (y1 (ya (zj zs zv)) (y1 (ya (zt (zx (se_ite (zd zv zv) zi zi) (zx zi (zx (z2 zi zv) (zx zv (zx (SEo.se (seo_dct2 b.toBs zv zi (zb (sa2_of (sr2 zs zv))) (zt (zx zi (zx zv .nil))))) .nil))))))) (y1 (ys zv (zf b (zx (se_getV (nm_ok (by kernel_rfl)) (by kernel_rfl) (by exact fun _ _ => rfl) (by exact fun _ _ _ => rfl) (by exact fun _ _ _ => rfl) zv (zt (zx zi (zx zi (zx zi (zx zi (zx (SEo.se (seo_dct0 b.toBs)) .nil))))))) (zx zv .nil)))) y0)))) (y1 (ss_ret zv) y0)))
theorem d1_11 : Dr G (T1 11) (fd1 11).body fn11.body := fun c k b => (y1 (yo (seo_dct0 b.toBs)) (y1 (yf zv (y1 (yf zv (y1 (ys zv (zf b (zx (se_getV (nm_ok (by kernel_rfl)) (by kernel_rfl) (by exact fun _ _ => rfl) (by exact fun _ _ _ => rfl) (by exact fun _ _ _ => rfl) zv (zt (zx zi (zx zi (zx zi (zx zi (zx (SEo.se (seo_dct0 b.toBs)) .nil))))))) (zx (zb (zw zv)) .nil)))) y0)) y0)) (y1 (ss_ret zv) y0)))
theorem d1_12 : Dr G (T1 12) (fd1 12).body fn12.body := fun c k b => (y1 (ss_ret (SEo.se (zl2 (zg zv .nil .nil) (zt (zx zv (zx (se_cutTo (by exact fun _ _ => ⟨_, rfl⟩) (zb (zw zv)) zi) (zx (se_listI b.toBs.inner ⟨gn_ok (by kernel_rfl), (by kernel_rfl)⟩ (by kernel_rfl) (by exact fun _ _ => rfl) (by exact fun _ _ _ => rfl) (zb (sa2_of (sr2 (zb (zw zv)) zi)))) .nil))))))) y0)
theorem d1_13 : Dr G (T1 13) (fd1 13).body fn13.body := fun c k b => (y1 (ss_ret (SEo.se (zl2 (gs_ok (si_enum b.toBs ⟨gn_ok (by kernel_rfl), (by kernel_rfl)⟩ (by exact fun _ _ _ => rfl) zv) .tup (by kernel_rfl) (.many (zn (zn .nil))) (by exact fun _ _ => rfl) (.cons (sb_nin (by kernel_rfl) (sr2 zv (se_cutTo (by exact fun _ _ => ⟨_, rfl⟩) zv zv))) .nil) .nil) zv))) y0)
theorem d1_14 : Dr G (T1 14) (fd1 14).body fn14.body := fun c k b => (y1 (yo (zl .nil)) (y1 (yf (zf b (zx (SEo.se (zl2 (zg zv .nil .nil) (zb (zw zi)))) .nil)) (y1 (yc (zg zv (.cons (zd (zb (zw zi)) zv) .nil) .nil) zv) (y1 (yc (zg zv .nil .nil) (zb (zw zi))) (y1 (ya (SEo.se (zl .nil))) (y1 (yf (zf b (zx zv .nil)) (y1 (yc (zg zv (.cons (zd (zb (zw zi)) zv) .nil) .nil) (zb (zw zi))) (y1 (ya (z2 zv (SEo.se (zl (zx (zt (zx zv (zx (zu b.toBs ok1_len za) .nil))) (zx (zt (zx (zb (sa2_of (sr2 zs (zj zs zv)))) (zx (zt (zx (zu b.toBs ok1_len za) (zx (zu b.toBs ok1_sum za) .nil))) .nil))) .nil)))))) y0))) (y1 (yp (zt (zx zv (zx (zt (zx (z2 (zu b.toBs ok1_len za) (zk zv zv)) (zx (zu b.toBs ok1_len za) (zx (zu b.toBs ok1_sum (sa_of (SEo.se (zl2 (zg zv .nil .nil) (z2 zi (zj zs zv)))))) (zx (zu b.toBs ok1_sum (sa_of (SEo.se (zl2 (zg zv .nil .nil) (zb (zw zi)))))) .nil))))) (zx zv .nil))))) y0)))))) (y1 (ss_ret zv) y0)))
theorem d1_15 : Dr G (T1 15) (fd1 15).body fn15.body := fun c k b => (y1 (yc (zg (se_bi2 b.toBs (.t _) ok2_range ⟨gn_ok (by kernel_rfl), (by kernel_rfl)⟩ (by exact fun _ _ _ => rfl) (by exact fun _ _ _ => rfl) (sa2_of (sr2 zi (zu b.toBs ok1_len za)))) .nil .nil) (zt (zx (zb (zw (z2 zv zi))) (zx (zb (zw zv)) .nil)))) (y1 (ya (zf b (zx zv .nil))) (y1 (ya (SEo.se (seo_dct1 b.toBs (zu b.toBs ok1_sum (sa_of (SEo.se (zl2 (zg (zu b.toBs ok1_range (sa_of (zu b.toBs ok1_len za))) .nil .nil) (z2 (z2 zi zv) (zk zv (zb (zw zv)))))))) (zt (zx (zb (zw zi)) (zx zi .nil)))))) (y1 (yf (zu b.toBs ok1_range (sa_of (zu b.toBs ok1_len za))) (y1 (yo (seo_dct0 b.toBs)) (y1 (yf zv (y1 (yt (zn (zn .nil)) (zb (zw zv))) (y1 (yf (zu b.toBs ok1_range (sa_of (zu b.toBs ok1_len za))) (y1 (ss_ite (sb_and (zd (zb (sa2_of (sr2 (zb (zw zv)) zi))) zv) (zd (z2 (z2 zv (z2 zi zv)) zi) zi)) (y1 (ya (z2 zv (z2 zi zv))) (y1 (ys zv (zt (zx (zb (sa2_of (sr2 (zb (zw zv)) zi))) (zx (z2 zv (se_ite (sb_in (by kernel_rfl) (sin_var (nm_ok (by kernel_rfl)) zv)) (zb (sa2_of (sr2 (zb (zw zv)) zi))) zi)) .nil)))) y0)) y0) y0)) y0))) (y1 (ya zv) y0)))) (y1 (ss_ret (zb (sa2_of (sr2 (zb (zw zi)) zi)))) y0)))))
theorem d1_16 : Dr G (T1 16) (fd1 16).body fn16.body := fun c k b => (y1 (ya zi) (y1 (yf zv (y1 (ya (z2 zv zv)) y0)) (y1 (ss_ret zv) y0)))
theorem d1_17 : Dr G (T1 17) (fd1 17).body fn17.body := fun c k b => (y1 (yc (zg zv (.cons (zd zv zv) .nil) .nil) zv) (y1 (ss_asgR (ow_ok (by kernel_rfl)) (ix_ok (by kernel_rfl)) (by kernel_rfl) (by kernel_rfl) (zg zv .nil .nil) (zl2 (zg zv .nil .nil) (se_ite (zd zv zv) (zb (sa2_of (sr2 (zb (zw zv)) zi))) (se_neg (sa_of (se_getE (by kernel_rfl) (by exact fun _ _ => rfl) (by exact fun _ _ _ => rfl) (by exact fun _ _ _ => rfl) (zb (sa2_of (sr2 (zb (zw zv)) zi))) zv zi)))))) (y1 (ya zi) (y1 (yf (zu b.toBs ok1_range (sa_of (zu b.toBs ok1_len za))) (y1 (ss_for' (si_plain (SEo.se (zl2 (zg (se_bi2 b.toBs (.t _) ok2_range ⟨gn_ok (by kernel_rfl), (by kernel_rfl)⟩ (by exact fun _ _ _ => rfl) (by exact fun _ _ _ => rfl) (sa2_of (sr2 (z2 zv zi) (zu b.toBs ok1_len za)))) .nil (sgs_cons (si_plain (se_bi2 b.toBs.inner (.t _) ok2_range ⟨gn_ok (by kernel_rfl), (by kernel_rfl)⟩ (by exact fun _ _ _ => rfl) (by exact fun _ _ _ => rfl) (sa2_of (sr2 (z2 zv zi) (se_bi1 b.toBs.inner (.b _) ok1_len ⟨gn_ok (by kernel_rfl), (by kernel_rfl)⟩ (by exact fun _ _ _ => rfl) za))))) .name zo (by exact fun _ _ => rfl) .nil .nil)) (zt (zx zv (zx zv .nil)))))) .tup (.many (zn (zn .nil))) (by exact fun _ _ => rfl) (y1 (ya (zf b (zx (z2 (z2 (se_sub2 (nm_ok (by kernel_rfl)) (by exact fun _ _ => ⟨_, rfl⟩) (by exact fun _ _ => ⟨_, rfl⟩) zv zv) (se_sub2 (nm_ok (by kernel_rfl)) (by exact fun _ _ => ⟨_, rfl⟩) (by exact fun _ _ => ⟨_, rfl⟩) zv zv)) (z2 (se_sub2 (nm_ok (by kernel_rfl)) (by exact fun _ _ => ⟨_, rfl⟩) (by exact fun _ _ => ⟨_, rfl⟩) zv zv) (se_sub2 (nm_ok (by kernel_rfl)) (by exact fun _ _ => ⟨_, rfl⟩) (by exact fun _ _ => ⟨_, rfl⟩) zv zv))) (zx zv .nil)))) (y1 (ss_ite (zd (zb (zw zi)) zi) (y1 (ss_ret zi) y0) y0) (y1 (ss_asgSS (nm_ok (by kernel_rfl)) (by exact fun _ _ => ⟨_, rfl⟩) (by exact fun _ => rfl) zv zv (zb (zw zi))) y0)))) (y1 (ya (se_sub2 (nm_ok (by kernel_rfl)) (by exact fun _ _ => ⟨_, rfl⟩) (by exact fun _ _ => ⟨_, rfl⟩) zv zv)) y0))) (y1 (ss_ret zv) y0)))))
theorem d1_18 : Dr G (T1 18) (fd1 18).body fn18.body := fun c k b => (y1 (yc (zg zs .nil .nil) (se_getE (by kernel_rfl) (by exact fun _ _ => rfl) (by exact fun _ _ _ => rfl) (by exact fun _ _ _ => rfl) (zb (zw zi)) zv zi)) (y1 (ya (zu b.toBs ok1_max (sa_of (SEo.se (zl2 (zg (zu b.toBs ok1_range (sa_of zi)) (.cons (zd (zb (zw zv)) zi) .nil) .nil) (z2 zv zi)))))) (y1 (ya (zt (zx (z2 (zb (zw zi)) (zb (zw zi))) (zx (z2 (zb (zw zi)) (zb (zw zi))) .nil)))) (y1 (ss_ite (sb_or3 (zd (zf b (zx (zb (zw zi)) (zx zi .nil))) (se_cutTo (by exact fun _ _ => ⟨_, rfl⟩) zv zv)) (zd (zf b (zx zv (zx zi .nil))) (zb (zw zi))) (zd (zf b (zx (zb (zw zi)) (zx (zb (zw zi)) .nil))) zv)) (y1 (ss_ret (se_bool _ _ _)) y0) y0) (y1 (ss_ret (se_cmp (by kernel_rfl) (sr2 (zf b (zx (SEo.se (seo_dcomp b.toBs (by kernel_rfl) (by kernel_rfl) (zg (zb (zw zi)) (.cons (sb_ins (by kernel_rfl) (sr2 zv zs)) .nil) .nil) zv (zb (sa2_of (sr2 (zb (zw zi)) zv))))) .nil)) (zb (zw zi))))) y0)))))
theorem d1_19 : Dr G (T1 19) (fd1 19).body fn19.body := fun c k b => sss_bad
theorem e1_0 : Dr G (TN 5 0) (nf1 5).body nn0.body := fun c k b => have l := lkn5; (y1 (ss_ite (zd (z2 zv zi) zv) (y1 (ys zv zv) (y1 ss_retN y0)) y0) (y1 (ya (z2 (z2 zv zv) zi)) (y1 (ya (z2 (z2 zv zv) zv)) (y1 (ya (z2 zv zv)) (y1 (ya (z2 zv (z2 zv zv))) (y1 (ss_cloS b.toBz l (nm_ok (by kernel_rfl)) (by kernel_rfl) (by kernel_rfl) (zx zv (zx zv (zx zv .nil)))) (y1 (ss_cloS b.toBz l (nm_ok (by kernel_rfl)) (by kernel_rfl) (by kernel_rfl) (zx zv (zx zv (zx zv .nil)))) y0)))))))
theorem e1_1 : Dr G (TN 6 1) (nf1 6).body nn1.body := fun c k b => have l := lkn6; (y1 (ss_ite (zd (z2 zv zi) zv) (y1 (ss_ret (zb (zw zv))) y0) y0) (y1 (ya (z2 (z2 zv zv) zi)) (y1 (ya (z2 (z2 zv zv) zv)) (y1 (ss_ret (z2 (z2 (se_clo b.toBz l (nm_ok (by kernel_rfl)) (by kernel_rfl) (by kernel_rfl) (zx zv (zx zv .nil))) zv) (se_clo b.toBz l (nm_ok (by kernel_rfl)) (by kernel_rfl) (by kernel_rfl) (zx zv (zx zv .nil))))) y0))))
theorem l1_0 : Ds G (T1 20) (lst1 0) lw0 := fun c k b => (ya (zf b (zx zv (zx zi (zx (SEo.se (zl (zx zi (zx zi (zx (se_neg (sa_of zi)) (zx zi (zx zi (zx zi (zx (se_neg (sa_of zi)) (zx zi (zx zi .nil))))))))))) .nil)))))
theorem l1_1 : Ds G (T1 20) (lst1 1) lw1 := fun c k b => (yc (zg zv .nil .nil) (zb (sa2_of (sr2 zs (z2 zv zi)))))
theorem l1_2 : Ds G (T1 20) (lst1 2) lw2 := fun c k b => (yc (zg (zu b.toBs ok1_range (sa_of zi)) .nil .nil) (zt (zx (zb (zw (z2 zv zi))) (zx (zb (zw zv)) (zx (zb (zw zv)) .nil)))))
theorem l1_3 : Ds G (T1 20) (lst1 3) lw3 := fun c k b => (yt (zn (zn .nil)) (zf b (zx zv (zx zi (zx (SEo.se (zl (zx zi (zx zi .nil)))) .nil)))))
theorem l1_4 : Ds G (T1 20) (lst1 4) lw4 := fun c k b => (ya (SEo.se (zl (zx (zf b (zx (se_cutTo (by exact fun _ _ => ⟨_, rfl⟩) zv (z2 zv zi)) .nil)) (zx (zf b (zx (se_cutFrom (by exact fun _ _ => ⟨_, rfl⟩) zv (z2 zv zi)) .nil)) .nil)))))
theorem l1_5 : Ds G (T1 20) (lst1 5) lw5 := fun c k b => (ya (zf b (zx zv .nil)))
theorem l1_6 : Ds G (T1 20) (lst1 6) lw6 := fun c k b => (ss_ite (sb_or (zd (zf b (zx zv .nil)) (zf b (zx zv .nil))) (zd (SEo.se (zl2 (zg zv (.cons (sb_not (sb_value (by exact fun _ _ => rfl) (se_call b.toBs.inner (gn_ok (by kernel_rfl)) (by kernel_rfl) (zx (zb (zw zv)) .nil)))) .nil) .nil) zv)) (SEo.se (zl .nil)))) (y1 (ss_ret (se_bool _ _ _)) y0) y0)
theorem l1_7 : Ds G (T1 20) (lst1 7) lw7 := fun c k b => (yc (zg zv .nil (sgs_cons (si_plain (zb (sa2_of (sr2 (zb (zw zv)) zi)))) .name zo (by exact fun _ _ => rfl) (.cons (sb_ins (by kernel_rfl) (sr2 zv zs)) .nil) .nil)) (zb (sa2_of (sr2 (zb (sa2_of (sr2 (zb (zw zv)) zi))) zv))))
theorem l1_8 : Ds G (T1 20) (lst1 8) lw8 := fun c k b => (ya (z2 (zf b (zx (SEo.se (zl2 (zg zv .nil .nil) (se_call b.toBs.inner (gn_ok (by kernel_rfl)) (by kernel_rfl) (zx (se_bi2 b.toBs.inner (.t _) ok2_range ⟨gn_ok (by kernel_rfl), (by kernel_rfl)⟩ (by exact fun _ _ _ => rfl) (by exact fun _ _ _ => rfl) (sa2_of (sr2 zi (zb (sa2_of (sr2 (zb (zw zv)) zi)))))) .nil)))) .nil)) (zb (sa2_of (sr2 (zb (sa2_of (sr2 (zb (zw (zb (zw zi)))) zi))) (zb (zw (se_neg (sa_of zi)))))))))
theorem l1_9 : Ds G (T1 20) (lst1 9) lw9 := fun c k b => (ya (zf b (zx (SEo.se (zl2 (zg zv .nil .nil) (se_call b.toBs.inner (gn_ok (by kernel_rfl)) (by kernel_rfl) (zx (se_bi2 b.toBs.inner (.t _) ok2_range ⟨gn_ok (by kernel_rfl), (by kernel_rfl)⟩ (by exact fun _ _ _ => rfl) (by exact fun _ _ _ => rfl) (sa2_of (sr2 zi (z2 zv zi)))) .nil)))) .nil)))
theorem l1_10 : Ds G (T1 20) (lst1 10) lw10 := fun c k b => (ya (zt (zx (zf b (zx zv .nil)) (zx zi .nil))))
theorem l1_11 : Ds G (T1 20) (lst1 11) lw11 := fun c k b => (yf (zt (zx (zb (zw zi)) (zx (zb (sa2_of (sr2 (se_listD b.toBs ⟨gn_ok (by kernel_rfl), (by kernel_rfl)⟩ (by exact fun _ _ _ => rfl) zv) (z2 zv (zu b.toBs ok1_len za))))) .nil))) (y1 (ss_ite (zd (zf b (zx (z2 (zf b (zx zv (zx zv .nil))) zv) (zx zv .nil))) zv) (y1 (ss_ret (se_bool _ _ _)) y0) y0) y0))
theorem l1_13 : Ds G (T1 20) (lst1 13) lw13 := fun c k b => (ss_ret (se_cmp (by kernel_rfl) (sr2 (SEo.se (zl2 (zg zv .nil .nil) (se_call b.toBs.inner (gn_ok (by kernel_rfl)) (by kernel_rfl) (zx zv .nil)))) (SEo.se (zl (zx (zf b (zx (se_cutTo (by exact fun _ _ => ⟨_, rfl⟩) zv (z2 zv zi)) .nil)) (zx (zf b (zx (se_cutFrom (by exact fun _ _ => ⟨_, rfl⟩) zv (z2 zv zi)) .nil)) .nil)))))))
end
end Mine
end
section
set_option maxRecDepth 100000
set_option genSizeOf false
set_option genInjectivity false
namespace Mine
open PySem PySem.W PySem.Calls PyProof.Rows SeqAt
noncomputable def fkB (cf : List Str) (args : Arguments) (sc : Scope) (fn : Fn) : Bool := (args.args.map (fun a => idxOf (sig sc) a.arg) == fn.params) && (scOk cf sc && argOk args sc)
theorem fk_ok {cf : List Str} {args : Arguments} {sc : Scope} {fn : Fn} {cd : Bool} {nst : List (Str × Nat × List (Str × Bool) × List Str)} (h : fkB cf args sc fn = true) : FnOk cf args sc fn (Tf cd nst sc) := by
  obtain ⟨h1, h⟩ := Bool.and_eq_true_iff.mp h
  obtain ⟨h2, h3⟩ := Bool.and_eq_true_iff.mp h
  exact ⟨eq_of_beq h1, h2, h3, rfl, rfl, rfl⟩
section
variable {G : Gd}
theorem nst_nil {sc : Scope} {cd : Bool} : NstOk G (Tf cd [] sc) := fun x f sg fr e => nos e
theorem nst_one {sc sc' : Scope} {cd : Bool} {f : Nat} {N : Nest} (hs : N.scope = sc') (hN : G.nest f = some N) : NstOk G (Tf cd (inn f sc') sc) := fun x g sg fr e => by
  have q := lookup_mem (l := inn f sc') e
  cases List.mem_singleton.mp q
  exact ⟨N, hN, hs ▸ rfl, hs ▸ rfl⟩
noncomputable def Df (G : Gd) (fn : Fn) (d : FD) : Prop := FnT G gl1 gc1 [] d.args d.body d.sc true fn
theorem df0 {d : FD} {fn : Fn} (h : fkB [] d.args d.sc fn = true) (r : Dr G (Tf true [] d.sc) d.body fn.body) : Df G fn d := .mk (fk_ok h) rfl rfl rfl nst_nil r
theorem df1 {d : FD} {fn : Fn} {f : Nat} {N : Nest} (h : fkB [] d.args d.sc fn = true) (hN : G.nest f = some N) (r : Dr G (Tf true (inn f N.scope) d.sc) d.body fn.body) : Df G fn d := .mk (fk_ok h) rfl rfl rfl (nst_one rfl hN) r
theorem dfN {cf : List Str} {fn : Fn} {f : Nat} {N : Nest} (h : fkB cf N.params N.scope fn = true) (hN : G.nest f = some N) (r : Dr G (Tf false (inn f N.scope) N.scope) N.body fn.body) : FnT G gl1 gc1 cf N.params N.body N.scope false fn := .mk (fk_ok h) rfl rfl rfl (nst_one rfl hN) r
inductive Al (P : Fn → Nat → Prop) : List Fn → Nat → Prop
  | nil {n : Nat} : Al P [] n
  | cons {f : Fn} {n : Nat} {r : List Fn} (h : P f n) (t : Al P r (n + 1)) : Al P (f :: r) n
theorem Al.get {P : Fn → Nat → Prop} {l : List Fn} {n : Nat} (h : Al P l n) : ∀ {i : Nat} {f : Fn}, l[i]? = some f → P f (n + i) := by
  induction h with
  | nil => exact fun e => nos e
  | cons h _ ih =>
    intro i f e
    induction i with
    | zero => exact Option.some.inj e ▸ h
    | succ i => exact Nat.succ_add_eq_add_succ .. ▸ ih e
theorem dfs1 (h0 : G.nest 0 = some ⟨(nf1 5).args, (nf1 5).body, (nf1 5).sc⟩) (h1 : G.nest 1 = some ⟨(nf1 6).args, (nf1 6).body, (nf1 6).sc⟩) : Al (fun fn i => Df G fn (fd1 i)) p1.fns 0 :=
  .cons (df0 (by kernel_rfl) d1_0) (.cons (df0 (by kernel_rfl) d1_1) (.cons (df0 (by kernel_rfl) d1_2) (.cons (df0 (by kernel_rfl) d1_3) (.cons (df0 (by kernel_rfl) d1_4) (.cons (df1 (by kernel_rfl) h0 (d1_5 h0)) (.cons (df1 (by kernel_rfl) h1 (d1_6 h1)) (.cons (df0 (by kernel_rfl) d1_7) (.cons (df0 (by kernel_rfl) d1_8) (.cons (df0 (by kernel_rfl) d1_9) (.cons (df0 (by kernel_rfl) d1_10) (.cons (df0 (by kernel_rfl) d1_11) (.cons (df0 (by kernel_rfl) d1_12) (.cons (df0 (by kernel_rfl) d1_13) (.cons (df0 (by kernel_rfl) d1_14) (.cons (df0 (by kernel_rfl) d1_15) (.cons (df0 (by kernel_rfl) d1_16) (.cons (df0 (by kernel_rfl) d1_17) (.cons (df0 (by kernel_rfl) d1_18) (.cons (df0 (by kernel_rfl) d1_19) (.cons (df0 (by kernel_rfl) fun c k b => sss_bad) .nil))))))))))))))))))))
end
theorem fds_get {l : List FD} {f : Nat} {x : Str} (h : (l.map (·.name))[f]? = some x) : l.getD f nilFD ∈ l ∧ (l.getD f nilFD).name = x := by
  rw [List.getElem?_map] at h
  refine omap (C := fun x => _ ∧ (l.getD f nilFD).name = x) (o := l[f]?) h (fun d hd => ?_)
  rw [List.getD_eq_getElem?_getD, hd]
  exact ⟨List.mem_of_getElem? hd, rfl⟩
theorem fi1 {gn : Nat} {P : Nat → Addr → Prop} {p view : Program} {w : World} {s : Shared} {mg mb : Str → Option Value} {loose : List Str} {mean : ExcName → Option Value} (T : Top view loose mean mg mb s.heap) (hrec : (recsOf view).map (fun d => (⟨d.name, d.params, d.body, d.scope⟩ : FD)) = fds1) {f : Nat} (hm : fd1 f ∈ fds1) :
    FnI (gd gn P p w s mg mb view nst1) (fd1 f).name (fd1 f).args (fd1 f).body (fd1 f).sc := by
  generalize fd1 f = x at hm
  rw [← hrec] at hm
  obtain ⟨d, hd, e⟩ := List.mem_map.mp hm
  have z := gd_fn (p := p) (w := w) (nests := nst1) (gn := gn) (P := P) T hd
  exact e ▸ z
theorem pg1 {gn : Nat} {P : Nat → Addr → Prop} {p view : Program} {w : World} {s : Shared} {mg mb : Str → Option Value} {loose : List Str} {mean : ExcName → Option Value} (T : Top view loose mean mg mb s.heap) (hrec : (recsOf view).map (fun d => (⟨d.name, d.params, d.body, d.scope⟩ : FD)) = fds1)
    (hconst : gc1.all (constOk view) = true) (hfree : (biNames.all fun q => freeOk view loose q.1) = true) (hb : ∀ q ∈ biNames, bootBuiltins q.1 = some q.2) : PgOk (gd gn P p w s mg mb view nst1) p1 gl1 gc1 where
  consts := fun x i hx => gd_const T hconst hx
  bv := gd_bv T hfree hb
  bm := by obtain ⟨bm, ob, r⟩ := T.bmain; exact ⟨bm, ob, r⟩
  fns := fun f fn name hf hn => by
    obtain ⟨hm, e⟩ := fds_get hn
    subst e
    have q := (dfs1 (G := gd gn P p w s mg mb view nst1) rfl rfl).get hf
    rw [Nat.zero_add] at q
    exact ⟨fd1 f, fi1 T hrec hm, q⟩
  nested := fun f fn N hf hN => by
    induction f with
    | zero => cases hf; cases hN; exact ⟨cfOf (fd1 5).sc, dfN (f := 0) (by kernel_rfl) rfl e1_0⟩
    | succ f _ =>
      induction f with
      | zero => cases hf; cases hN; exact ⟨cfOf (fd1 6).sc, dfN (f := 1) (by kernel_rfl) rfl e1_1⟩
      | succ f _ => exact nos hf
end Mine
end
section
set_option maxRecDepth 100000
set_option genSizeOf false
set_option genInjectivity false
namespace Mine
open PySem PyProof.Rows SeqAt
noncomputable def Gd.sw (G : Gd) (gn : Nat) (P : Nat → Addr → Prop) : Gd := ⟨G.prog, G.w, gn, P, G.h₀, G.os₀, G.mg, G.mb, G.Own, G.nest⟩
section
variable {G : Gd} {gn : Nat} {P : Nat → Addr → Prop} {O : Addr → Prop} {h : Heap} {s s' : Shared}
theorem vr_sw (hP : ∀ g a o, G.P g a → h.get? a = some o → P g a) {v : V} {x : Value} (r : VR G O h v x) : VR (G.sw gn P) O h v x := by
  induction r with
  | none => exact .none
  | bool b => exact .bool b
  | int i t => exact .int i t
  | str i t => exact .str i t
  | tup no e l hl _ ih => exact .tup no e l hl ih
  | list no e l hl _ ih => exact .list no e l hl ih
  | dict no p ns d l hl hk _ ih =>
    have d' := d
    obtain ⟨o, _, _, ho, _⟩ := d'
    exact .dict no (hP _ _ o p ho) ns d l hl hk ih
  | rng no e => exact .rng no e
theorem inv_sw (hP : ∀ a, s.heap.get? a = none → P gn a) (i : Inv G s) : Inv (G.sw gn P) s :=
  ⟨⟨i.gk.tab0, i.gk.nt, i.gk.lo⟩, i.old, i.glob, i.bts, i.nolim, i.bare, i.os, i.tab, hP⟩
theorem eo_sw {T : Tx} {env : Env} (e : EnvOk G T env) : EnvOk (G.sw gn P) T env := ⟨e.kind, e.sg, e.glob, e.bts, e.cf, e.nx, e.code, e.bnd⟩
theorem sr_sw (hP : ∀ g a o, G.P g a → h.get? a = some o → P g a) {env : Env} {sl : Slot} {y : Value} (r : SR G O h env sl y) : SR (G.sw gn P) O h env sl y := by
  cases r with
  | v r => exact .v (vr_sw hP r)
  | ol r => cases r with | mk e l rel => exact .ol ⟨e, l, rel.imp fun _ _ => vr_sw hP⟩
  | od r => cases r with | mk p ns of l rel =>
    have d' := of
    obtain ⟨o, _, _, ho, _⟩ := d'
    exact .od ⟨hP _ _ o p ho, ns, of, l, rel.imp fun _ _ r => by cases r with | mk r => exact .mk (vr_sw hP r)⟩
  | clo r => cases r with | mk no c => exact .clo (.mk no ⟨c.get, c.cls, c.data, c.nest, c.params, c.body, c.scope, c.globals, c.builtins, c.defaults, c.code, c.free⟩)
  | oll r => exact .oll r
theorem vi_sw {env : Env} {x : Str} {y : Value} (r : VarIs G h env x y) : VarIs (G.sw gn P) h env x y := by
  cases r with
  | loc hk hn e => exact .loc hk hn e
  | cel hk hc nt hv => exact .cel hk hc nt hv
theorem fr_sw (hP : ∀ g a o, G.P g a → h.get? a = some o → P g a) {ow : List Str} {Θ : Th} {env : Env} {m : Fr} (r : FR G ow Θ h env m) : FR (G.sw gn P) ow Θ h env m where
  loc := r.loc
  ns := r.ns
  ox := r.ox
  new := r.new
  cel := r.cel
  fre := r.fre
  cells := fun x hx => by cases r.cells x hx with | mk a b c => exact ⟨a, b, c⟩
  var := fun x sl hx hm => by
    obtain ⟨y, v, q⟩ := r.var x sl hx hm
    exact ⟨y, vi_sw v, sr_sw hP q.sr, q.own⟩
theorem fa_sw {k : Nat} {T : Tx} {A : Around} {env : Env} {m : Fr} {Θ : Th} (h1 : ∀ g a o, G.P g a → s.heap.get? a = some o → P g a) (h2 : ∀ a, s.heap.get? a = none → P gn a) (a : FA G k T A env m Θ s) : FA (G.sw gn P) k T A env m Θ s :=
  ⟨a.room, inv_sw h2 a.inv, eo_sw a.eo, fr_sw h1 a.fr⟩
end
inductive Old : V → Prop
  | none : Old .none
  | bool (b : Bool) : Old (.bool b)
  | int (i : Int) : Old (.int i)
  | str (x : Str) : Old (.str x)
  | tup {vs : List V} (h : ∀ v ∈ vs, Old v) : Old (.tup vs)
  | list {vs : List V} (h : ∀ v ∈ vs, Old v) : Old (.list vs)
  | dict {es : List (K × V)} (h : ∀ p ∈ es, Old p.2) : Old (.dict 0 es)
theorem Old.tupE {vs : List V} (h : Old (.tup vs)) : ∀ v ∈ vs, Old v := by cases h with | tup h => exact h
theorem Old.listE {vs : List V} (h : Old (.list vs)) : ∀ v ∈ vs, Old v := by cases h with | list h => exact h
theorem vr_old {G : Gd} {O : Addr → Prop} {h h' : Heap} {W : Addr → Prop} (hd : ∀ b, W b → ¬ G.P 0 b) (hc : ∀ b o, W b → h.get? b = some o → o.cls = .type "dict") (k : ∀ b o, h.get? b = some o → o.cls ≠ .none → ¬ W b → h'.get? b = some o) {v : V} {x : Value} (r : VR G O h v x) : Old v → VR G O h' v x := by
  have kt : ∀ {b : Addr} {o : Obj} {t : String}, h.get? b = some o → o.cls = .type t → (t == "dict") = false → h'.get? b = some o := fun {b o t} e c n => k b o e (c ▸ type_ne) fun w => by
    have q := c.symm.trans (hc b o w e)
    injection q with q
    rw [q] at n
    exact Bool.noConfusion n
  induction r with
  | none => exact fun _ => .none
  | bool b => exact fun _ => .bool b
  | int i t => exact fun _ => .int i t
  | str i t => exact fun _ => .str i t
  | tup no e l hl _ ih => exact fun o => .tup no (kt e rfl rfl) l hl fun i a b ea eb => ih i a b ea eb (o.tupE a (List.mem_of_getElem? ea))
  | list no e l hl _ ih => exact fun o => .list no (kt e rfl rfl) l hl fun i a b ea eb => ih i a b ea eb (o.listE a (List.mem_of_getElem? ea))
  | dict no p ns d l hl hk _ ih =>
    intro o
    cases o with | dict ho =>
    obtain ⟨ob, es, ep, g, hcl, r⟩ := d
    exact .dict no p ns ⟨ob, es, ep, k _ _ g (hcl.1 ▸ type_ne) fun w => hd _ w p, hcl, r⟩ l hl hk fun i a b ea eb => ih i a b ea eb (ho a (List.mem_of_getElem? ea))
  | rng no e => exact fun o => by cases o
theorem va_mem {kvs : List (K × Value)} : (kvs.map (·.1)).Nodup → ∀ p ∈ kvs, valueAt kvs p.1 = some p.2 := by
  induction kvs with
  | nil => exact fun _ p hp => absurd hp List.not_mem_nil
  | cons q r ih =>
    intro hn p hp
    have hn := List.nodup_cons.mp hn
    rcases List.mem_cons.mp hp with e | hp
    · exact e ▸ va_hit
    · exact (va_miss (k₁ := q.1) (k := p.1) (y := q.2) fun e => hn.1 (show q.1 ∈ _ from e ▸ List.mem_map_of_mem (f := fun x : K × Value => x.1) hp)).trans (ih hn.2 p hp)
section
variable {G : Gd} {A : Around} {O : Addr → Prop} {s₀ s : Shared} {X Q : Value → Shared → Prop}
theorem it_keys (hh : A.handled = none) (i : Inv G s) (st₀ : St G s₀ s) (ox : OX G O s.heap) {a : Addr} {kvs : List (K × Value)} (no : ¬ O a) (ns : (a == sysModules) = false) (of : s.heap.DictOf (kk G.prog G.w) a kvs) (hQ : KI G O Tgt s₀ s (kvs.map fun p => vKey p.1) Q) : wpAny (model G.prog G.w) A (pyIter (.ref a)) Q X s := by
  refine dictAt_of of fun ep o e hc hat => ?_
  exact wpAny_pyIter_dict ns hat (hQ _ _ (St.push i _ _) (it_walks (nm := "dict_keyiterator") (ys := []) (ws := []) hh i st₀ ox rfl type_ne rfl rfl (fun A hh => Walks.dictKeys hh _ a (lt_ne e) kvs ep) (List.length_map ..).symm
    ⟨⟨_, Heap.get?_push_size _ rfl, rfl, rfl⟩, hat.push _⟩ (fps i no e (hc ▸ type_ne)) (fun j h st => by obtain ⟨⟨o, e, c, _⟩, _⟩ := st; exact ⟨o, e, c⟩) .nil fun j v h x hv _ hx => by
      obtain ⟨q, y, e1, e2⟩ := hv
      refine map_get (C := fun x => VR G _ h x v) hx fun p hp => ?_
      cases Option.some.inj (hp.symm.trans e1)
      exact vkey_vr e2))
end
structure TBp (G : Gd) (O : Addr → Prop) (d : Addr) (h : Heap) (b : Addr) : Prop where
  p : G.P 1 b
  o : ¬ O b
  d : b ≠ d
  s : (b == sysModules) = false
  c : ∃ kvs, h.DictOf (kk G.prog G.w) b kvs ∧ kvs.length ≤ big
structure MJ (G : Gd) (TB : Addr → Prop) (L : Addr) (wr : List Addr) (s₀ : Shared) (y : Value) (n : Nat) (t : Shared) : Prop where
  inv : Inv G t
  kp : ∀ b o, ¬ G.Tab b → ¬ TB b → b ≠ L → b ∉ wr → s₀.heap.get? b = some o → t.heap.get? b = some o
  tbl : ∀ b, TB b → ∃ kvs, t.heap.DictOf (kk G.prog G.w) b kvs ∧ kvs.length ≤ big + n
  loc : ∃ mm, t.heap.Ns L mm ∧ mm "book" = some y
  tb : ∀ P pos v, G.Tab P → Entry s₀.heap P pos v → Entry t.heap P pos v
structure MD (G : Gd) (TB : Addr → Prop) (L : Addr) (wr : List Addr) : Prop where
  l : ¬ G.Tab L ∧ ¬ TB L ∧ L ∉ wr ∧ G.h₀.get? L = none
  t : ∀ b, TB b → ¬ G.Tab b ∧ b ∉ wr ∧ G.h₀.get? b = none
  w : ∀ b ∈ wr, ¬ G.Tab b ∧ G.h₀.get? b = none ∧ G.P G.gen b
section
variable {G : Gd} {A : Around} {TB : Addr → Prop} {L : Addr} {wr : List Addr} {s₀ t t' : Shared} {y : Value} {n : Nat} {X : Value → Shared → Prop}
theorem MJ.st (d : MD G TB L wr) (j : MJ G TB L wr s₀ y n t) (st : St G t t') : MJ G TB L wr s₀ y n t' where
  inv := st.inv
  kp := fun b o h1 h2 h3 h4 e => st.kp b o h1 (j.kp b o h1 h2 h3 h4 e)
  tbl := fun b hb => by
    obtain ⟨kvs, e, l⟩ := j.tbl b hb
    exact ⟨kvs, dct_kp e fun o => st.kp b o (d.t b hb).1, l⟩
  loc := by
    obtain ⟨mm, e, q⟩ := j.loc
    exact ⟨mm, ns_kp e fun o => st.kp L o d.l.1, q⟩
  tb := fun P pos v hP e => st.tb P pos v hP (j.tb P pos v hP e)
theorem MJ.more (j : MJ G TB L wr s₀ y n t) : MJ G TB L wr s₀ y (n + 1) t := ⟨j.inv, j.kp, fun b hb => by
  obtain ⟨kvs, e, l⟩ := j.tbl b hb
  exact ⟨kvs, e, Nat.le_succ_of_le l⟩, j.loc, j.tb⟩
theorem tb_but {W : Addr → Prop} {h h' : Heap} (nt : ∀ b, W b → ¬ G.Tab b) (k : ∀ b o, ¬ W b → h.get? b = some o → h'.get? b = some o) : ∀ P pos v, G.Tab P → Entry h P pos v → Entry h' P pos v := fun P pos v hP en => by
  induction en with | mk e hv => exact ⟨k P _ (fun q => nt P q hP) e, hv⟩
theorem MJ.store (d : MD G TB L wr) (j : MJ G TB L wr s₀ y n t) {h' : Heap} {tk : Nat} {mm' : Str → Option Value} (hn : h'.Ns L mm') (hb : mm' "book" = some y) (hs : Heap.SameBut L t.heap h') : MJ G TB L wr s₀ y n { t with heap := h', toks := tk } where
  inv := j.inv.but (W := fun b => b = L) (fun b e => e ▸ d.l.2.2.2) (fun b e => e ▸ d.l.1) (fun b e => e ▸ (by obtain ⟨mm, q, _⟩ := j.loc; exact ns_rec q)) (fun b o n e => hs.extBut b o n e) (fun b e q => by subst e; obtain ⟨o, e⟩ := ns_get hn; exact nos (q.symm.trans e)) tk
  kp := fun b o h1 h2 h3 h4 e => hs.extBut b o h3 (j.kp b o h1 h2 h3 h4 e)
  tbl := fun b hb => by
    obtain ⟨kvs, e, l⟩ := j.tbl b hb
    exact ⟨kvs, dct_kp e fun o => hs.extBut b o fun q => d.l.2.1 (q ▸ hb), l⟩
  loc := ⟨mm', hn, hb⟩
  tb := fun P pos v hP e => tb_but (W := fun b => b = L) (fun b e => e ▸ d.l.1) (fun b o n e => hs.extBut b o n e) P pos v hP (j.tb P pos v hP e)
theorem MJ.set (d : MD G TB L wr) (j : MJ G TB L wr s₀ y n t) {a : Addr} (ha : TB a) {h' : Heap} {tk : Nat} {kvs : List (K × Value)} (e0 : t.heap.DictOf (kk G.prog G.w) a kvs) {q : K} {z : Value} (l0 : kvs.length ≤ big + n) (e1 : h'.DictOf (kk G.prog G.w) a (stored kvs q z)) (hs : Heap.SameBut a t.heap h') : MJ G TB L wr s₀ y (n + 1) { t with heap := h', toks := tk } where
  inv := j.inv.but (W := fun b => b = a) (fun b e => e ▸ (d.t a ha).2.2) (fun b e => e ▸ (d.t a ha).1) (fun b e => e ▸ (by obtain ⟨o, es, ep, e, hc, _⟩ := e0; exact cls_rec e hc.1 rfl)) (fun b o n e => hs.extBut b o n e) (fun b e q => by subst e; obtain ⟨o, _, _, e, _⟩ := e1; exact nos (q.symm.trans e)) tk
  kp := fun b o h1 h2 h3 h4 e => hs.extBut b o (fun q => h2 (q ▸ ha)) (j.kp b o h1 h2 h3 h4 e)
  tbl := fun b hb => by
    by_cases q : b = a
    · subst q; exact ⟨_, e1, Nat.le_trans (stored_length _ _ _) (Nat.succ_le_succ l0)⟩
    · obtain ⟨kvs, e, l⟩ := j.tbl b hb
      exact ⟨kvs, dct_kp e fun o => hs.extBut b o q, Nat.le_succ_of_le l⟩
  loc := by
    obtain ⟨mm, e, q⟩ := j.loc
    exact ⟨mm, ns_kp e fun o => hs.extBut L o fun q => d.l.2.1 (q ▸ ha), q⟩
  tb := fun P pos v hP e => tb_but (W := fun b => b = a) (fun b e => e ▸ (d.t a ha).1) (fun b o n e => hs.extBut b o n e) P pos v hP (j.tb P pos v hP e)
theorem MJ.kw (d : MD G TB L wr) (j : MJ G TB L wr s₀ y n t) (was : ∀ b ∈ wr, ∃ o, t.heap.get? b = some o ∧ o.cls ≠ .type "code") {h' : Heap} {tk : Nat} (k : Kw wr t.heap h') : MJ G TB L wr s₀ y n { t with heap := h', toks := tk } where
  inv := j.inv.but (W := fun b => b ∈ wr) (fun b e => (d.w b e).2.1) (fun b e => (d.w b e).1) (fun b e o g q => by
    obtain ⟨o', g', c⟩ := was b e
    cases Option.some.inj (g.symm.trans g')
    exact c q.1) (fun b o n e => k b o n e) (fun b e _ => (d.w b e).2.2) tk
  kp := fun b o h1 h2 h3 h4 e => k b o h4 (j.kp b o h1 h2 h3 h4 e)
  tbl := fun b hb => by
    obtain ⟨kvs, e, l⟩ := j.tbl b hb
    exact ⟨kvs, dct_kp e fun o => k b o (d.t b hb).2.1, l⟩
  loc := by
    obtain ⟨mm, e, q⟩ := j.loc
    exact ⟨mm, ns_kp e fun o => k L o d.l.2.2.1, q⟩
  tb := fun P pos v hP e => tb_but (W := fun b => b ∈ wr) (fun b e => (d.w b e).1) (fun b o n e => k b o n e) P pos v hP (j.tb P pos v hP e)
end
theorem pairs_fun {prog : Program} {w : World} {l : List DictEntry} {k1 : List (K × Value)} (h : Pairs (kk prog w) l k1) : ∀ {k2}, Pairs (kk prog w) l k2 → k1 = k2 := by
  induction h with
  | nil => intro k2 h; cases h; rfl
  | @cons e kv es kvs i1 v1 r1 ih =>
    intro k2 h
    cases h with | @cons _ kv' _ _ i2 v2 r2 =>
    have e1 : kv = kv' := Prod.ext ((kk prog w).inj _ _ _ i1 i2) (v1.symm.trans v2)
    rw [e1, ih r2]
theorem dictOf_fun {prog : Program} {w : World} {h : Heap} {a : Addr} {k1 k2 : List (K × Value)} (x : h.DictOf (kk prog w) a k1) (y : h.DictOf (kk prog w) a k2) : k1 = k2 := by
  obtain ⟨o, es, ep, ho, _, hd, _, hp, _⟩ := x
  obtain ⟨o', es', ep', ho', _, hd', _, hp', _⟩ := y
  have e := Option.some.inj (ho.symm.trans ho')
  subst e
  have e := hd.symm.trans hd'
  injection e with e _
  subst e
  exact pairs_fun hp hp'
inductive Ent : V → Prop
  | mk {vs : List V} {tb : List (K × V)} (e : vs[4]? = some (.dict 1 tb)) (f : ∀ q ∈ tb, flat q.2 = true) : Ent (.tup vs)
section
variable {G : Gd} {A : Around} {O : Addr → Prop} {s : Shared} {env : Env} {X : Value → Shared → Prop}
theorem not_flat {h : Heap} {vs : List V} {tb : List (K × V)} {u : V} {y : Value} (r : VR G O h (.tup vs) y) (q : VR G O h u y) (e : vs[4]? = some (.dict 1 tb)) : flat u ≠ true := fun f => by
  cases r.w.ot rfl with | mk rt =>
  cases rt with | @mk ws n g _ rel =>
  cases q with
  | @tup us ws' _ n' _ g' _ hl' r' =>
    cases seq_fun g g'
    refine rel.get e fun z hz rz => ?_
    refine (All2.of hl' r').getB hz fun w hw rw => ?_
    have fw := List.all_eq_true.mp f w (List.mem_of_getElem? hw)
    cases rz with | dict =>
    cases rw <;> exact Bool.noConfusion fw
  | list => exact Bool.noConfusion f
  | dict => exact Bool.noConfusion f
  | rng => exact Bool.noConfusion f
theorem tab_of {d : Addr} {es : List (K × V)} {kvs : List (K × Value)} (of : s.heap.DictOf (kk G.prog G.w) d kvs) (rel : All2 (Kv (VR G O s.heap)) es kvs) (sh : ∀ p ∈ es, Ent p.2) {i : Nat} {q : K × Value} (hq : kvs[i]? = some q) {C : Prop}
    (k : ∀ u ws n b, q.2 = .ref u → IsT s.heap u ws n → ws[4]? = some (.ref b) → TBp G O d s.heap b → C) : C := by
  refine rel.getB hq fun p hp r => ?_
  have hs := sh p (List.mem_of_getElem? hp)
  obtain ⟨p1, p2⟩ := p
  cases r with | mk r =>
  cases hs with | @mk vs tb e f =>
  have r0 := r
  cases r.w.ot rfl with | mk rt =>
  cases rt with | @mk ws n g _ rl =>
  refine rl.get e fun z hz rz => ?_
  cases rz with | @dict _ _ kb b no p ns ob lb hl hk hr =>
  refine k _ _ _ b rfl g (seq_get hz) ⟨p, no, fun ebd => ?_, ns, kb, ob, lb⟩
  subst ebd
  cases dictOf_fun of ob
  have hi : i < tb.length := Nat.lt_of_lt_of_eq (get_lt hq) hl.symm
  have et : tb[i]? = some tb[i] := List.getElem?_eq_getElem hi
  exact not_flat r0 (hr i _ _ et hq) e (f _ (List.mem_of_getElem? et))
noncomputable def markedFor (p1 p2 p3 p4 p5 p6 p7 p8 p9 p10 p11 p12 : Pos) : Stmt :=
  .For (.Name "name" p1) (.Name "book" p2) [.Assign [.Subscript (.Subscript (.Subscript (.Name "book" p3) (.Name "name" p4) p5) (.Constant (.int 4) 0 p6) p7) (.Constant (.str "f") 0 p8) p9] (.Constant (.int 1) 0 p10) p11] [] p12
theorem name_in {x : Str} {y : Value} {p : Pos} {mm : Str → Option Value} (hk : env.scope.kind = .function) (kx : env.kindOf x = some .local) (hn : s.heap.Ns env.locals mm) (e : mm x = some y) (h1 : (x == ("__classdict__" : Str)) = false) (h2 : (x == ("__debug__" : Str)) = false) {Q : Value → Shared → Prop} (h : Q y s) : wpAny (model G.prog G.w) A (eval (.Name x p) env) Q X s :=
  wpAny_Name (load_var (G := G) hk (.loc kx hn e) h1 h) h2
theorem mark_for {p1 p2 p3 p4 p5 p6 p7 p8 p9 p10 p11 p12 : Pos} {d : Addr} {es : List (K × V)} {kvs : List (K × Value)} {mm : Str → Option Value} (hh : A.handled = none) (i : Inv G s) (ox : OX G O s.heap) (hL : O env.locals) (h0 : G.h₀.get? env.locals = none)
    (hk : env.scope.kind = .function) (kb : env.kindOf "book" = some .local) (kn : env.kindOf "name" = some .local) (hns : s.heap.Ns env.locals mm) (hmm : mm "book" = some (.ref d)) (nd : ¬ O d) (nsd : (d == sysModules) = false)
    (of : s.heap.DictOf (kk G.prog G.w) d kvs) (hl : es.length ≤ 1000) (rel : All2 (Kv (VR G O s.heap)) es kvs) (sh : ∀ p ∈ es, Ent p.2) (hp1 : ∀ b, G.P 1 b → ¬ G.Tab b ∧ G.h₀.get? b = none)
    {Q : Flow → Shared → Prop} (hQ : ∀ wr n t, (∀ b ∈ wr, s.heap.get? b = none) → MJ G (TBp G O d s.heap) env.locals wr s (.ref d) n t → Q .next t) : wpAny (model G.prog G.w) A (exec (markedFor p1 p2 p3 p4 p5 p6 p7 p8 p9 p10 p11 p12) env) Q X s := by
  have tbA : ∀ b, TBp G O d s.heap b → ∃ o, s.heap.get? b = some o := fun b hb => by obtain ⟨kvs, ⟨o, _, _, e, _⟩, _⟩ := hb.c; exact ⟨o, e⟩
  have dAl : ∃ o, s.heap.get? d = some o ∧ o.cls = .type "dict" := by obtain ⟨o, _, _, e, hc, _⟩ := of; exact ⟨o, e, hc.1⟩
  have oxK : OX G (fun b => TBp G O d s.heap b ∨ b = env.locals) s.heap := fun b hb => hb.elim (fun hb => ⟨(hp1 b hb.p).1, tbA b hb⟩) fun e => e ▸ ox _ hL
  unfold markedFor
  refine wpAny_For (name_in hk kb hns hmm rfl rfl (it_keys hh i (.refl i) oxK (fun h => h.elim (fun h => h.d rfl) fun e => nd (e ▸ hL)) nsd of fun it s₂ st q => q.itc (t := .Name "name" p1) .name fun I wr Si eI new st0 N => ?_)) (fun _ => rfl)
  subst eI
  have dw : ∀ b ∈ wr, s.heap.get? b = none := fun b hb => (new b hb).1
  have nw : ∀ b o, s.heap.get? b = some o → b ∉ wr := fun b o e hb => nos ((dw b hb).symm.trans e)
  have md : MD G (TBp G O d s.heap) env.locals wr := ⟨⟨(ox _ hL).1, fun h => h.o hL, by obtain ⟨_, o, e⟩ := ox _ hL; exact nw _ o e, h0⟩, fun b hb => ⟨(hp1 b hb.p).1, (by obtain ⟨o, e⟩ := tbA b hb; exact nw b o e), (hp1 b hb.p).2⟩, fun b hb => ⟨i.freshNotTab (dw b hb), i.new (dw b hb), i.fresh b (dw b hb)⟩⟩
  have j0 : MJ G (TBp G O d s.heap) env.locals wr s (.ref d) 0 s := ⟨i, fun _ _ _ _ _ _ e => e, fun b hb => hb.c, ⟨mm, hns, hmm⟩, fun _ _ _ _ e => e⟩
  have hlen : kvs.length ≤ 1000 := rel.length ▸ hl
  refine codeAny_forLoop_any (fun n t => ∃ i, n = (kvs.map fun p => vKey p.1).length - i ∧ i ≤ (kvs.map fun p => vKey p.1).length ∧ MJ G (TBp G O d s.heap) env.locals wr s (.ref d) i t ∧ Si i t.heap) (fun n t x => ?_) _ ⟨0, rfl, Nat.zero_le _, j0.st md st, st0⟩
  obtain ⟨i', hn, hle, j, hst⟩ := x
  subst hn
  cases hx : (kvs.map fun p => vKey p.1)[i']? with
  | none =>
    have hi : i' = (kvs.map fun p => vKey p.1).length := Nat.le_antisymm hle (List.getElem?_eq_none_iff.mp hx)
    exact (N.tn hh (O := fun _ => False) fun _ _ _ h => h).done (hi ▸ hst) fun h' tk kw => wpAny_execs_nil (hQ wr i' _ dw (j.kw md (N.cls i' _ hst) kw))
  | some x =>
    refine wpAny_mono ((N.tn hh (O := fun _ => False) fun _ _ _ h => h).turn hx hst (fun _ h => h.elim) fun yk h' tk st' kw vr => ?_) (fun r s₁ h => by obtain ⟨y, e, h⟩ := h; exact e ▸ h) fun _ _ x => x
    have j1 := j.kw md (N.cls i' _ hst) (tk := tk) kw
    obtain ⟨mm1, n1, e1⟩ := j1.loc
    refine wpAny_assign_Name (wpAny_storeName_local kn n1 (fun h2 hn2 hs2 => ?_) (hk ▸ rfl))
    have j2 := j1.store md (tk := tk + 1) hn2 ((if_neg (by decide)).trans e1) hs2
    have st2 := N.frame _ _ _ st' (fun b o q e => hs2.extBut b o (fun e => q.1 (.inr e)) e : Kd _ h' h2)
    refine map_get (C := fun x => VR G (fun _ => False) h' x yk → _) hx (fun qk hqk vr => ?_) vr
    refine tab_of of rel sh hqk fun u ws n b eu gu hb tb => ?_
    have keep : ∀ {b o} {c : String}, s.heap.get? b = some o → o.cls = .type c → ¬ TBp G O d s.heap b → ¬ O b → h2.get? b = some o := fun {b o c} e hc h1 h2 => j2.kp b o (i.notTab e (hc ▸ type_ne)) h1 (fun e => h2 (e ▸ hL)) (nw b o e) e
    have of2 : h2.DictOf (kk G.prog G.w) d kvs := dct_kp of fun o e => by
      obtain ⟨o', e', c⟩ := dAl
      cases Option.some.inj (e.symm.trans e')
      exact keep e c (fun h => h.d rfl) nd
    have gu2 : IsT h2 u ws n := j2.kp u _ (i.notTab gu type_ne) (fun h => by
      obtain ⟨_, ⟨o, _, _, e, hc, _⟩, _⟩ := h.c
      cases Option.some.inj (gu.symm.trans e)
      have := hc.1
      injection this with q
      exact absurd q (by decide)) (fun e => by
      obtain ⟨o, es', ep, g, hd, _⟩ := hns
      rw [← e] at g
      cases Option.some.inj (gu.symm.trans g)
      exact Data.noConfusion hd) (nw u _ gu) gu
    obtain ⟨kb2, ob, lb⟩ := j2.tbl b tb
    have hv := va_mem (dictOf_nodup of) _ (List.mem_of_getElem? hqk)
    refine wpAny_execs_cons (wpAny_Assign_Subscript (wpAny_Constant_int (Subscript_ (Subscript_ (name_in hk kb hn2 ((if_neg (by decide)).trans e1) rfl rfl (name_in hk kn hn2 (if_pos rfl) rfl rfl (sub_tail (fun _ _ => ⟨_, rfl⟩) ⟨of2.typeIs, slot_dict_getitem.lookup⟩
      (wpAny_getItem_of (knd := kk G.prog G.w) (k := qk.1) ((vr.w.key (k := qk.1)) (by cases qk.1 <;> rfl)) of2.mapOf hv ?_))))))))
    rw [eu]
    have h4 : 4 < ws.size := by
      rcases Nat.lt_or_ge 4 ws.size with q | q
      · exact q
      · exact nos ((Array.getElem?_eq_none q).symm.trans hb)
    refine wpAny_Constant_int (sub_tail (fun _ _ => ⟨_, rfl⟩) ⟨⟨_, gu2, rfl⟩, F.slot_tuple_getitem.lookup⟩ (P.getItem_tuple gu2 (by decide) (by decide) (seqI h4) hb ?_))
    refine wpAny_Constant_str (wpAny_setItem_pairs (knd := kk G.prog G.w) (k := .inl "f") (beq_self_eq_true _) ob (fun h3 hd3 hs3 => wpAny_execs_nil ?_) (Nat.le_trans lb (Nat.le_trans (Nat.add_le_add_left (Nat.le_trans hle (List.length_map (as := kvs) _ ▸ hlen)) _) (by decide))))
    exact ⟨_, Nat.sub_lt_sub_left (get_lt hx) (Nat.lt_succ_self i'), i' + 1, rfl, get_lt hx, j2.set md tb ob lb hd3 hs3, N.frame _ _ _ st2 fun c o q e => hs3.extBut c o (fun e => q.1 (.inl (e ▸ tb))) e⟩
end
end Mine
end
section
set_option maxRecDepth 100000
set_option genSizeOf false
set_option genInjectivity false
namespace Mine
open PySem PySem.W PyProof.Rows SeqAt
noncomputable def Wd (G : Gd) (Θ : Th) (h : Heap) (b : Addr) : Prop := G.P 1 b ∧ ¬ Θ.dom b ∧ ∃ o, h.get? b = some o ∧ o.cls = .type "dict" ∧ ∃ es ep, o.data = .dict es ep
structure MK (G : Gd) (Θ : Th) (s s' : Shared) : Prop where
  inv : Inv G s'
  kp : ∀ b o, ¬ G.Tab b → ¬ Wd G Θ s.heap b → s.heap.get? b = some o → s'.heap.get? b = some o
  liv : ∀ b o, s.heap.get? b = some o → ∃ o, s'.heap.get? b = some o
  tb : ∀ P pos v, G.Tab P → Entry s.heap P pos v → Entry s'.heap P pos v
theorem body19 : (fd1 19).body = [markedFor ⟨169, 8, 169, 12⟩ ⟨169, 16, 169, 20⟩ ⟨170, 8, 170, 12⟩ ⟨170, 13, 170, 17⟩ ⟨170, 8, 170, 18⟩ ⟨170, 19, 170, 20⟩ ⟨170, 8, 170, 21⟩ ⟨170, 22, 170, 25⟩ ⟨170, 8, 170, 26⟩ ⟨170, 29, 170, 30⟩ ⟨170, 8, 170, 30⟩ ⟨169, 4, 170, 30⟩] := by kernel_rfl
theorem stmt12 : lst1 12 = .Expr (.Call (.Name "_law_marked" ⟨187, 4, 187, 15⟩) [.Name "book" ⟨187, 16, 187, 20⟩] [] ⟨187, 4, 187, 21⟩) ⟨187, 4, 187, 21⟩ := by kernel_rfl
section
variable {G : Gd} {A : Around} {env : Env} {m : Fr} {Θ : Th} {s : Shared} {X : Value → Shared → Prop} {k : Nat}
theorem mark_stmt (fi : FnI G (fd1 19).name (fd1 19).args (fd1 19).body (fd1 19).sc) (a : FA G (k + 1) (T1 20) A env m Θ s) {es : List (K × V)} (hm : m.at 7 = some (.v (.dict 1 es))) (sh : ∀ p ∈ es, Ent p.2) (hl : es.length ≤ 1000)
    (hp1 : ∀ b, G.P 1 b → ¬ G.Tab b ∧ G.h₀.get? b = none) {Q : Flow → Shared → Prop} (hQ : ∀ s', MK G Θ s s' → Q .next s') : wpAny (model G.prog G.w) A (exec (lst1 12) env) Q X s := by
  rw [stmt12]
  cases fi with | @mk fa o fd q cc P e1 e2 e3 e4 e5 e6 e7 e8 e9 e10 e12 e13 e14 =>
  have fk : FnOk [] (fd1 19).args (fd1 19).sc fn19 (T1 19) := fk_ok (by kernel_rfl)
  have nofree : ∀ x, x ∉ freeIn (fd1 19).sc := fun x hx => List.not_mem_nil ((scOk_of fk.so).free x hx)
  have nm7 : NmOk (T1 20) "book" 7 := nm_ok (by kernel_rfl)
  have gn12 : GnOk (T1 20) "_law_marked" := gn_ok (by kernel_rfl)
  have e1 : G.mg "_law_marked" = some (.ref fa) := e1
  refine wpAny_Expr_any (wpAny_Call_ofName (name_global a.at gn12 (Calls.loadGlobal_global (mg := G.mg) (a.eo.glob ▸ a.inv.glob) e1 (Calls.callWith_function (o := o) (fd := fd) (evalArgs_any (.cons (fun _ _ _ => rfl) .nil) (spl1 (fun _ _ _ => rfl) (nameF a nm7 hm fun y vi sf => ⟨⟨old_func a.inv.old e2 e4 e3, e4⟩, wpAny_call ?_⟩))))))) (inter a) rfl
  have ry : VR G Θ.dom s.heap (.dict 1 es) y := by cases sf.sr with | v r => exact r
  refine call_raw (k := k) (T := T1 19) (sc := (fd1 19).sc) (P := (fd1 19).args) (body := (fd1 19).body) (fn := fn19) (vs := [.dict 1 es]) (B := outs Θ.dom) (mi := List.replicate 2 none) a.room a.inv (old_func a.inv.old e2 e4 e3) ⟨e4, e5, e6, e7, e8, e9, e10, ⟨q, e13.symm ▸ code_rec a.inv e14 (e13 ▸ e12)⟩, fun _ => ⟨cc, P, e13, e14⟩⟩ fk
    ⟨fun b d => a.fr.ox b (outs_dom d), fun b q => absurd q outs_mine, fun x hx => absurd hx (nofree x), fun j sl hj => at_none (n := 2) hj⟩ (vrs_outs (.cons ry .nil)) rfl fun env' s₁ Θ₁ X' F a₁ => ?_
  have kb : env'.kindOf "book" = some .local := by unfold Env.kindOf; rw [F.es]; kernel_rfl
  have kn : env'.kindOf "name" = some .local := by unfold Env.kindOf; rw [F.es]; kernel_rfl
  obtain ⟨y', vi', sf'⟩ := a₁.fr.var "book" (.v (.dict 1 es)) (a₁.eo.sg ▸ (by kernel_rfl)) (a₁.eo.sg ▸ (by kernel_rfl))
  have r1 : VR G Θ₁.dom s₁.heap (.dict 1 es) y' := by cases sf'.sr with | v r => exact r
  cases r1.w.od rfl with | @mk g d rd =>
  have nd := r1.no
  cases rd with | @mk kvs pd nsd of ld rel =>
  cases vi' with
  | cel k1 => exact k1.elim (fun h => NameKind.noConfusion (Option.some.inj (kb.symm.trans h))) fun h => NameKind.noConfusion (Option.some.inj (kb.symm.trans h))
  | loc hk hns hmm =>
  rw [body19]
  have hL := a₁.fr.loc
  refine wpAny_execs_cons (mark_for (O := Θ₁.dom) (es := es) a₁.room.handled a₁.inv a₁.fr.ox ⟨_, hL⟩ (a₁.fr.new _ (th_mine hL fun e => Owner.noConfusion e)) a₁.eo.kind kb kn hns hmm nd nsd of hl rel sh hp1 fun wr n t hw j => wpAny_execs_nil (hQ _ ?_))
  have old : ∀ b o, ¬ G.Tab b → s.heap.get? b = some o → s₁.heap.get? b = some o := fun b o nt e => F.sk.kp b o nt outs_mine e
  have nL : ∀ b o, s.heap.get? b = some o → b ≠ env'.locals := fun b o e q => by
    subst q
    rcases F.sk.new _ ⟨_, hL⟩ with d | e'
    · obtain ⟨w, t⟩ := d
      have t' := (F.sk.out _).mp ((outs_some t).2 ▸ t)
      exact Owner.noConfusion (th_ne hL t')
    · exact nos (e'.symm.trans e)
  have nw : ∀ b o, s₁.heap.get? b = some o → b ∉ wr := fun b o e q => nos ((hw b q).symm.trans e)
  have wd : ∀ b o, ¬ G.Tab b → s.heap.get? b = some o → TBp G Θ₁.dom d s₁.heap b → Wd G Θ s.heap b := fun b o nt e t => by
    obtain ⟨kv, ⟨o', es', ep, e', hc, hd, _⟩, _⟩ := t.c
    cases Option.some.inj ((old b o nt e).symm.trans e')
    exact ⟨t.p, fun q => t.o ⟨_, (F.sk.out b).mp (outs_of q)⟩, o, e, hc.1, es', ep, hd⟩
  exact ⟨j.inv, fun b o nt nW e => j.kp b o nt (fun t => nW (wd b o nt e t)) (nL b o e) (nw b o (old b o nt e)) (old b o nt e), fun b o e => by
    by_cases nt : G.Tab b
    · obtain ⟨ps, e'⟩ := j.inv.tabObj nt; exact ⟨_, e'⟩
    · by_cases t : TBp G Θ₁.dom d s₁.heap b
      · obtain ⟨kv, ⟨o', _, _, e', _⟩, _⟩ := j.tbl b t; exact ⟨_, e'⟩
      · exact ⟨o, j.kp b o nt t (nL b o e) (nw b o (old b o nt e)) (old b o nt e)⟩, fun P pos v hP e => j.tb P pos v hP (F.sk.tb P pos v hP e)⟩
theorem fr_mark {T : Tx} (a : FA G k T A env m Θ s) {s' : Shared} (mk : MK G Θ s s') (hP : ∀ b, G.P 1 b → ¬ G.P 0 b) {mC : Fr} (hm : ∀ j sl, mC.at j = some sl → m.at j = some sl ∧ ∃ v, sl = .v v ∧ Old v) : FA G k T A env mC Θ s' := by
  have kd : ∀ b o, Θ.dom b → s.heap.get? b = some o → s'.heap.get? b = some o := fun b o d e => mk.kp b o (a.fr.ox b d).1 (fun w => w.2.1 d) e
  have kc : ∀ c v, ¬ G.Tab c → s.heap.IsCell c v → s'.heap.IsCell c v := fun c v nt x => cell_kp x fun o e => mk.kp c o nt (fun w => by
    obtain ⟨_, _, o', e', _, es, ep, hd⟩ := w
    obtain ⟨o2, e2, d2⟩ := x
    cases Option.some.inj (e'.symm.trans e2)
    exact Data.noConfusion (hd.symm.trans d2)) e
  refine ⟨a.room, mk.inv, a.eo, ⟨a.fr.loc, ?_, fun b d => ?_, a.fr.new, a.fr.cel, a.fr.fre, fun x hx => ?_, fun x sl hx he => ?_⟩⟩
  · obtain ⟨mm, n⟩ := a.fr.ns
    exact ⟨mm, ns_kp n fun o => kd _ o ⟨_, a.fr.loc⟩⟩
  · obtain ⟨nt, o, e⟩ := a.fr.ox b d
    exact ⟨nt, o, kd b o d e⟩
  · cases a.fr.cells x hx with | mk e nt hv => exact ⟨e, nt, kc _ _ nt hv⟩
  · obtain ⟨e, v, es, ov⟩ := hm _ _ he
    subst es
    obtain ⟨y, vi, sf⟩ := a.fr.var x _ hx e
    refine ⟨y, ?_, ?_⟩
    · cases vi with
      | loc hk hn e => exact .loc hk (ns_kp hn fun o => kd _ o ⟨_, a.fr.loc⟩) e
      | cel hk hc nt hv => exact .cel hk hc nt (kc _ _ nt hv)
    · cases sf.sr with | v r =>
      exact sf_v (vr_old (W := Wd G Θ s.heap) (fun b w => hP b w.1) (fun b o w e => by
        obtain ⟨_, _, o', e', c, _⟩ := w
        cases Option.some.inj (e.symm.trans e')
        exact c) (fun b o e c nw => mk.kp b o (a.inv.notTab e c) nw e) r ov)
end
end Mine
end
section
set_option maxRecDepth 100000
set_option genSizeOf false
set_option genInjectivity false
namespace Mine
open PySem PySem.W PySem.Calls PyProof.Rows SeqAt
inductive Runs (c : Cx) : List S → Fr → Fr → Prop
  | nil {m : Fr} : Runs c [] m m
  | cons {t : S} {ts : List S} {m m' m'' : Fr} (e : ex c t m = some (.next, m')) (r : Runs c ts m' m'') : Runs c (t :: ts) m m''
inductive SL (G : Gd) (c : Cx) (k : Nat) (T : Tx) : List Stmt → List S → Prop
  | nil : SL G c k T [] []
  | cons {st : Stmt} {sts : List Stmt} {t : S} {ts : List S} (h : SS G c k T st t) (r : SL G c k T sts ts) : SL G c k T (st :: sts) (t :: ts)
theorem runs_ok {G : Gd} {c : Cx} {k : Nat} {T : Tx} {A : Around} {env : Env} {rest : List Stmt} {Q : Flow → Shared → Prop} {X : Value → Shared → Prop} {sts : List Stmt} {ts : List S} (h : SL G c k T sts ts) : ∀ {m m' : Fr} {Θ : Th} {s : Shared}, Runs c ts m m' → FA G k T A env m Θ s →
    (∀ Θ' s', FA G k T A env m' Θ' s' → Sk G Θ s Θ' s' → wpAny (model G.prog G.w) A (execs rest env) Q X s') → wpAny (model G.prog G.w) A (execs (sts ++ rest) env) Q X s := by
  induction h with
  | nil =>
    intro m m' Θ s r a hQ
    cases r
    exact hQ Θ s a (.of (.refl a.inv) a.fr.ox)
  | cons h _ ih =>
    intro m m' Θ s r a hQ
    cases r with | cons e r =>
    refine wpAny_execs_cons (h a e fun Θ₁ s₁ f a₁ k₁ hf => ?_)
    cases hf
    exact ih r a₁ fun Θ' s' a' k' => hQ Θ' s' a' (k₁.trans k' a'.fr.ox)
noncomputable def m0 (ns : List Int) : Fr := (List.replicate 26 none).set 0 (some (.v (.list (ns.map .int))))
noncomputable def mC (calls cut parts : V) : Fr := (((List.replicate 26 none).set 3 (some (.v calls))).set 4 (some (.v cut))).set 6 (some (.v parts))
structure RunOk (ns : List Int) : Prop where
  ok : ∃ mA mB es calls cut parts mD, Runs (run p1 0 63) [lw0, lw1, lw2, lw3, lw4] (m0 ns) mA ∧ Runs (run p1 1 63) [lw5, lw6, lw7, lw8, lw9, lw10, lw11] mA mB ∧ mB.at 7 = some (.v (.dict 1 es)) ∧ (∀ p ∈ es, Ent p.2) ∧ es.length ≤ 1000 ∧
    mB.at 3 = some (.v calls) ∧ mB.at 4 = some (.v cut) ∧ mB.at 6 = some (.v parts) ∧ Old calls ∧ Old cut ∧ Old parts ∧ ex (run p1 1 63) lw13 (mC calls cut parts) = some (.ret (.bool true), mD)
theorem at_mC {calls cut parts : V} {j : Nat} {sl : Slot} (h : (mC calls cut parts).at j = some sl) {C : Prop} (h3 : j = 3 → sl = .v calls → C) (h4 : j = 4 → sl = .v cut → C) (h6 : j = 6 → sl = .v parts → C) : C :=
  at_set h (fun e q => h6 e (Option.some.inj q).symm) fun _ h => at_set h (fun e q => h4 e (Option.some.inj q).symm) fun _ h => at_set h (fun e q => h3 e (Option.some.inj q).symm) fun _ h => by
    have h := h
    unfold Fr.at at h
    rcases Nat.lt_or_ge j 26 with q | q
    · rw [List.getElem?_replicate, if_pos q] at h; exact nos h
    · rw [List.getElem?_replicate, if_neg (Nat.not_lt.mpr q)] at h; exact nos h
theorem body20 : (fd1 20).body = [lst1 0, lst1 1, lst1 2, lst1 3, lst1 4] ++ ([lst1 5, lst1 6, lst1 7, lst1 8, lst1 9, lst1 10, lst1 11] ++ [lst1 12, lst1 13]) := by kernel_rfl
theorem in19 : fd1 19 ∈ fds1 := List.mem_of_getElem? (i := 19) (by kernel_rfl)
theorem in20 : fd1 20 ∈ fds1 := List.mem_of_getElem? (i := 20) (by kernel_rfl)
section
variable {p view : Program} {w : World} {s : Shared} {mg mb : Str → Option Value} {loose : List Str} {mean : ExcName → Option Value}
theorem bk1 {gn : Nat} {P : Nat → Addr → Prop} (T : Top view loose mean mg mb s.heap) (hrec : (recsOf view).map (fun d => (⟨d.name, d.params, d.body, d.scope⟩ : FD)) = fds1) (hconst : gc1.all (constOk view) = true) (hfree : (biNames.all fun q => freeOk view loose q.1) = true) (hb : ∀ q ∈ biNames, bootBuiltins q.1 = some q.2) (k : Nat) :
    Bk (gd gn P p w s mg mb view nst1) (run p1 gn k) k (T1 20) := by
  have h := pg1 (p := p) (w := w) (gn := gn) (P := P) T hrec hconst hfree hb
  exact h.bk (calls_ok h k).1 (calls_ok h k).2 rfl rfl nst_nil
theorem law_top (T : Top view loose mean mg mb s.heap) (hgens : AllBare s.gens) (hrec : (recsOf view).map (fun d => (⟨d.name, d.params, d.body, d.scope⟩ : FD)) = fds1) (hconst : gc1.all (constOk view) = true) (hfree : (biNames.all fun q => freeOk view loose q.1) = true) (hb : ∀ q ∈ biNames, bootBuiltins q.1 = some q.2)
    {fa : Addr} (hm : mg "law" = some (.ref fa)) {a : Addr} {ns : List Int} (hw : Well w.params s.heap (.ref a) (ofPy (PyData.list (ns.map PyData.int)))) (hlen : ns.length ≤ 63) (hrun : RunOk ns)
    {cw : ClaimW} {cl : Str → Option Addr} {mn : ExcName → Option Value} {args : List WData} (hra : ∀ cls, cw.raises args cls = false) (hpost : cw.post args (.bool true) args = true) :
    codeAny (model p w) callerA (.call (.ref fa) ⟨[.ref a], []⟩) (GoodWG cw cl mn args s) s := by
  have fi := fi1 (p := p) (w := w) (gn := 0) (P := fun g _ => g = 0) T hrec in20
  cases hw with | list e r =>
  have hi := well_ints r
  have hr := ints_vrs (G := gd 0 (fun g _ => g = 0) p w s mg mb view nst1) (O := fun _ => False) (h := s.heap) hi
  have hl := hr.length
  have hl := (List.length_map (as := ns) V.int).symm.trans hl
  have i0 : Inv (gd 0 (fun g _ => g = 0) p w s mg mb view nst1) s := gd_inv (fun _ => rfl) T hgens
  cases fi with | @mk fa' o fd q cc P e1 e2 e3 e4 e5 e6 e7 e8 e9 e10 e12 e13 e14 =>
  cases Option.some.inj (hm.symm.trans e1)
  have fk : FnOk [] (fd1 20).args (fd1 20).sc fn20 (T1 20) := fk_ok (by kernel_rfl)
  have nofree : ∀ x, x ∉ freeIn (fd1 20).sc := fun x hx => List.not_mem_nil ((scOk_of fk.so).free x hx)
  obtain ⟨mA, mB, es, calls, cut, parts, mD, hA, hB, h7, sh, hle, h3, h4, h6, o3, o4, o6, hD⟩ := hrun.ok
  refine call_raw (G := gd 0 (fun g _ => g = 0) p w s mg mb view nst1) (k := 63) (T := T1 20) (sc := (fd1 20).sc) (P := (fd1 20).args) (body := (fd1 20).body) (fn := fn20) (vs := [.list (ns.map .int)]) (B := outs fun _ => False) (mi := List.replicate 26 none) (m := m0 ns) (callerA_room (Nat.le_refl _)) i0 e2 ⟨e4, e5, e6, e7, e8, e9, e10, ⟨q, e13.symm ▸ code_rec i0 e14 (e13 ▸ e12)⟩, fun _ => ⟨cc, P, e13, e14⟩⟩ fk
    ⟨fun b d => (outs_dom d).elim, fun b q => absurd q outs_mine, fun x hx => absurd hx (nofree x), fun j sl hj => at_none (n := 26) hj⟩ (vrs_outs (.cons (.mkL (fun h => h) ⟨e, hl ▸ Nat.le_trans hlen (by decide), hr⟩) .nil)) rfl fun env s₁ Θ X' F a₁ => ?_
  have b0 := bk1 (p := p) (w := w) (gn := 0) (P := fun g _ => g = 0) T hrec hconst hfree hb 63
  rw [body20]
  refine runs_ok (.cons (l1_0 _ _ b0) (.cons (l1_1 _ _ b0) (.cons (l1_2 _ _ b0) (.cons (l1_3 _ _ b0) (.cons (l1_4 _ _ b0) .nil))))) hA a₁ fun Θ5 s5 a5 k5 => ?_
  have a5' := fa_sw (gn := 1) (P := fun g b => (g = 0 ∧ ∃ o, s5.heap.get? b = some o) ∨ (g = 1 ∧ s5.heap.get? b = none)) (fun g b o hp e => .inl ⟨hp, o, e⟩) (fun b e => .inr ⟨rfl, e⟩) a5
  have b1 := bk1 (p := p) (w := w) (gn := 1) (P := fun g b => (g = 0 ∧ ∃ o, s5.heap.get? b = some o) ∨ (g = 1 ∧ s5.heap.get? b = none)) T hrec hconst hfree hb 63
  have fi19 := fi1 (p := p) (w := w) (gn := 1) (P := fun g b => (g = 0 ∧ ∃ o, s5.heap.get? b = some o) ∨ (g = 1 ∧ s5.heap.get? b = none)) T hrec in19
  refine runs_ok (G := gd 1 (fun g b => (g = 0 ∧ ∃ o, s5.heap.get? b = some o) ∨ (g = 1 ∧ s5.heap.get? b = none)) p w s mg mb view nst1) (.cons (l1_5 _ _ b1) (.cons (l1_6 _ _ b1) (.cons (l1_7 _ _ b1) (.cons (l1_8 _ _ b1) (.cons (l1_9 _ _ b1) (.cons (l1_10 _ _ b1) (.cons (l1_11 _ _ b1) .nil))))))) hB a5' fun Θ6 s6 a6 k6 => ?_
  have one : ∀ {b : Addr}, ((1 : Nat) = 0 ∧ ∃ o, s5.heap.get? b = some o) ∨ ((1 : Nat) = 1 ∧ s5.heap.get? b = none) → s5.heap.get? b = none := fun h => h.elim (fun h => absurd h.1 (by decide)) fun h => h.2
  refine wpAny_execs_cons (mark_stmt (k := 62) fi19 a6 h7 sh hle (fun b hp => ⟨a5.inv.freshNotTab (one hp), a5.inv.new (one hp)⟩) fun s7 mk => ?_)
  have a7 := fr_mark (mC := mC calls cut parts) a6 mk (fun b hp hq => hq.elim (fun h => by obtain ⟨_, o, e⟩ := h; exact nos ((one hp).symm.trans e)) fun h => absurd h.1 (by decide)) fun j sl hj => at_mC hj (fun ej es => ⟨ej ▸ es ▸ h3, _, es, o3⟩) (fun ej es => ⟨ej ▸ es ▸ h4, _, es, o4⟩) fun ej es => ⟨ej ▸ es ▸ h6, _, es, o6⟩
  refine wpAny_execs_cons (l1_13 _ _ b1 a7 hD fun Θ8 s8 f a8 k8 hf => ?_)
  cases hf with | ret ry =>
  cases ry
  exact ⟨.inl ⟨_, _, [], rfl, hra, .bool true, hpost, fun _ => ⟨.nil, fun _ h => absurd h List.not_mem_nil⟩⟩, a8.inv.old, a8.inv.os, a8.inv.bare⟩
end
end Mine
end
section
set_option maxRecDepth 100000
set_option genSizeOf false
set_option genInjectivity false
namespace Mine
section
variable {α : Type} {l : List α} {f g : α → Nat}
noncomputable def gsum : List α → (α → Nat) → Nat
  | [], _ => 0
  | x :: r, f => f x + gsum r f
noncomputable def gprod : List α → (α → Nat) → Nat
  | [], _ => 1
  | x :: r, f => f x * gprod r f
theorem gsum_congr : (∀ x ∈ l, f x = g x) → gsum l f = gsum l g := by
  induction l with
  | nil => exact fun _ => rfl
  | cons x r ih => exact fun h => (congrArg (· + gsum r f) (h x (List.mem_cons_self ..))).trans (congrArg (g x + ·) (ih fun y hy => h y (List.mem_cons_of_mem _ hy)))
theorem gprod_congr : (∀ x ∈ l, f x = g x) → gprod l f = gprod l g := by
  induction l with
  | nil => exact fun _ => rfl
  | cons x r ih => exact fun h => (congrArg (· * gprod r f) (h x (List.mem_cons_self ..))).trans (congrArg (g x * ·) (ih fun y hy => h y (List.mem_cons_of_mem _ hy)))
theorem gsum_upd {x : α} {c : Nat} : l.Nodup → x ∈ l → (∀ y ∈ l, y ≠ x → f y = g y) → f x = g x + c → gsum l f = gsum l g + c := by
  induction l with
  | nil => exact fun _ h => absurd h List.not_mem_nil
  | cons y r ih =>
    intro hn hx h hc
    have hn := List.nodup_cons.mp hn
    show f y + gsum r f = g y + gsum r g + c
    by_cases e : x = y
    · subst e
      rw [hc, gsum_congr fun z hz => h z (List.mem_cons_of_mem _ hz) fun e => hn.1 (e ▸ hz), Nat.add_right_comm]
    · rw [ih hn.2 ((List.mem_cons.mp hx).resolve_left e) (fun z hz => h z (List.mem_cons_of_mem _ hz)) hc, h y (List.mem_cons_self ..) (Ne.symm e), Nat.add_assoc]
theorem gprod_upd {x : α} {c : Nat} : l.Nodup → x ∈ l → (∀ y ∈ l, y ≠ x → f y = g y) → f x = c * g x → gprod l f = c * gprod l g := by
  induction l with
  | nil => exact fun _ h => absurd h List.not_mem_nil
  | cons y r ih =>
    intro hn hx h hc
    have hn := List.nodup_cons.mp hn
    show f y * gprod r f = c * (g y * gprod r g)
    by_cases e : x = y
    · subst e
      rw [hc, gprod_congr fun z hz => h z (List.mem_cons_of_mem _ hz) fun e => hn.1 (e ▸ hz), Nat.mul_assoc]
    · rw [ih hn.2 ((List.mem_cons.mp hx).resolve_left e) (fun z hz => h z (List.mem_cons_of_mem _ hz)) hc, h y (List.mem_cons_self ..) (Ne.symm e), Nat.mul_left_comm]
theorem gsum_zero : gsum l f = 0 → ∀ x ∈ l, f x = 0 := by
  induction l with
  | nil => exact fun _ _ h => absurd h List.not_mem_nil
  | cons y r ih =>
    intro h x hx
    have h : f y + gsum r f = 0 := h
    exact (List.mem_cons.mp hx).elim (fun e => e ▸ Nat.eq_zero_of_add_eq_zero_right h) (ih (Nat.eq_zero_of_add_eq_zero_left h) x)
theorem gsum_mul {c : Nat} : gsum l f * c = gsum l fun x => f x * c := by
  induction l with
  | nil => exact Nat.zero_mul _
  | cons y r ih => exact (Nat.add_mul ..).trans (congrArg (f y * c + ·) ih)
end
noncomputable def fct : Nat → Nat
  | 0 => 1
  | n + 1 => (n + 1) * fct n
theorem fct_pos {n : Nat} (h : 0 < n) : fct n = n * fct (n - 1) := by
  cases n with
  | zero => exact absurd h (Nat.lt_irrefl _)
  | succ n => rfl
section
variable {α : Type} [DecidableEq α]
abbrev Gr (α : Type) := α → α → Nat
noncomputable def dec (m : Gr α) (a v : α) : Gr α := fun x y => if x = a ∧ y = v then m a v - 1 else m x y
noncomputable def walks (VS : List α) : Nat → Gr α → α → Nat
  | 0, _, _ => 1
  | n + 1, m, a => gsum VS fun v => if 0 < m a v then walks VS n (dec m a v) v else 0
noncomputable def outD (VS : List α) (m : Gr α) (u : α) : Nat := gsum VS (m u)
noncomputable def innD (VS : List α) (m : Gr α) (u : α) : Nat := gsum VS fun w => m w u
noncomputable def totD (VS : List α) (m : Gr α) : Nat := gsum VS (outD VS m)
noncomputable def one (u a : α) : Nat := if u = a then 1 else 0
noncomputable def Bal (VS : List α) (m : Gr α) (a b : α) : Prop := ∀ u ∈ VS, outD VS m u + one u b = innD VS m u + one u a
noncomputable def perms (VS : List α) (m : Gr α) : Nat := gprod VS fun u => gprod VS fun v => fct (m u v)
variable {VS : List α} {m : Gr α} {a v : α}
theorem dec_hit : dec m a v a v = m a v - 1 := if_pos ⟨rfl, rfl⟩
theorem dec_row {x y : α} (h : x ≠ a) : dec m a v x y = m x y := if_neg fun e => h e.1
theorem dec_col {x y : α} (h : y ≠ v) : dec m a v x y = m x y := if_neg fun e => h e.2
theorem one_hit {a : α} : one a a = 1 := if_pos rfl
theorem one_no {u a : α} (h : u ≠ a) : one u a = 0 := if_neg h
theorem out_hit (hn : VS.Nodup) (hv : v ∈ VS) (h : 0 < m a v) : outD VS m a = outD VS (dec m a v) a + 1 :=
  gsum_upd hn hv (fun y _ hy => (dec_col hy).symm) (by rw [dec_hit]; exact (Nat.sub_add_cancel h).symm)
theorem out_no {u : α} (hu : u ≠ a) : outD VS (dec m a v) u = outD VS m u := gsum_congr fun y _ => dec_row hu
theorem inn_hit (hn : VS.Nodup) (ha : a ∈ VS) (h : 0 < m a v) : innD VS m v = innD VS (dec m a v) v + 1 :=
  gsum_upd hn ha (fun y _ hy => (dec_row hy).symm) (by rw [dec_hit]; exact (Nat.sub_add_cancel h).symm)
theorem inn_no {u : α} (hu : u ≠ v) : innD VS (dec m a v) u = innD VS m u := gsum_congr fun y _ => dec_col hu
theorem bal_step {b : α} (hn : VS.Nodup) (ha : a ∈ VS) (hv : v ∈ VS) (h : 0 < m a v) (B : Bal VS m a b) : Bal VS (dec m a v) v b := fun u hu => by
  have := B u hu
  by_cases e : u = a
  · subst e
    rw [out_hit hn hv h, one_hit] at this
    by_cases e' : u = v
    · subst e'
      rw [inn_hit hn ha h] at this
      rw [one_hit]; lia
    · rw [inn_no e', one_no e']; lia
  · rw [one_no e] at this
    rw [out_no e]
    by_cases e' : u = v
    · subst e'
      rw [inn_hit hn ha h] at this
      rw [one_hit]; lia
    · rw [inn_no e', one_no e']; lia
theorem tot_step (hn : VS.Nodup) (ha : a ∈ VS) (hv : v ∈ VS) (h : 0 < m a v) : totD VS m = totD VS (dec m a v) + 1 :=
  gsum_upd hn ha (fun y _ hy => (out_no hy).symm) (out_hit hn hv h)
theorem perms_step (hn : VS.Nodup) (ha : a ∈ VS) (hv : v ∈ VS) (h : 0 < m a v) : perms VS m = m a v * perms VS (dec m a v) :=
  gprod_upd hn ha (fun y _ hy => gprod_congr fun z _ => by rw [dec_row hy]) (gprod_upd hn hv (fun y _ hy => by rw [dec_col hy]) (by rw [dec_hit]; exact fct_pos h))
noncomputable def det3 (A : α → α → Int) (r s t x y z : α) : Int := A r x * (A s y * A t z - A s z * A t y) - A r y * (A s x * A t z - A s z * A t x) + A r z * (A s x * A t y - A s y * A t x)
noncomputable def det4 (A : α → α → Int) (p q r s : α) : Int := A p p * det3 A q r s q r s - A p q * det3 A q r s p r s + A p r * det3 A q r s p q s - A p s * det3 A q r s p q r
noncomputable def lap (VS : List α) (m : Gr α) (u x : α) : Int := if outD VS m u = 0 then (one u x : Int) else (outD VS m u : Int) * one u x - m u x
theorem det4_swap1 {A : α → α → Int} {p q r s : α} : det4 A p q r s = det4 A q p r s := by unfold det4 det3; grind
theorem det4_swap2 {A : α → α → Int} {p q r s : α} : det4 A p q r s = det4 A r q p s := by unfold det4 det3; grind
theorem det4_swap3 {A : α → α → Int} {p q r s : α} : det4 A p q r s = det4 A s q r p := by unfold det4 det3; grind
theorem det4_ker {A : α → α → Int} {p q r s : α} {x : α → Int} (h1 : A p p * x p + A p q * x q + A p r * x r + A p s * x s = 0) (h2 : A q p * x p + A q q * x q + A q r * x r + A q s * x s = 0)
    (h3 : A r p * x p + A r q * x q + A r r * x r + A r s * x s = 0) (h4 : A s p * x p + A s q * x q + A s r * x r + A s s * x s = 0) (hx : x p = 1) : det4 A p q r s = 0 := by
  unfold det4 det3; grind
end
section
variable {α : Type} [DecidableEq α] {VS : List α} {p q r s b : α} {m : Gr α} {n : Nat}
structure Vs (VS : List α) (p q r s b : α) : Prop where
  nd : VS.Nodup
  sum : ∀ f : α → Nat, gsum VS f = f p + f q + f r + f s + f b
  all : ∀ u ∈ VS, u = p ∨ u = q ∨ u = r ∨ u = s ∨ u = b
  mp : p ∈ VS
  mq : q ∈ VS
  mr : r ∈ VS
  ms : s ∈ VS
  mb : b ∈ VS
  pq : p ≠ q
  pr : p ≠ r
  ps : p ≠ s
  pb : p ≠ b
  qr : q ≠ r
  qs : q ≠ s
  qb : q ≠ b
  rs : r ≠ s
  rb : r ≠ b
  sb : s ≠ b
theorem Vs.swap1 (H : Vs VS p q r s b) : Vs VS q p r s b := ⟨H.nd, fun f => by rw [H.sum]; lia, fun u hu => (H.all u hu).elim (fun e => .inr (.inl e)) fun h => h.elim .inl fun h => .inr (.inr h), H.mq, H.mp, H.mr, H.ms, H.mb, H.pq.symm, H.qr, H.qs, H.qb, H.pr, H.ps, H.pb, H.rs, H.rb, H.sb⟩
theorem Vs.swap2 (H : Vs VS p q r s b) : Vs VS r q p s b := ⟨H.nd, fun f => by rw [H.sum]; lia, fun u hu => (H.all u hu).elim (fun e => .inr (.inr (.inl e))) fun h => h.elim (fun e => .inr (.inl e)) fun h => h.elim .inl fun h => .inr (.inr (.inr h)), H.mr, H.mq, H.mp, H.ms, H.mb, H.qr.symm, H.pr.symm, H.rs, H.rb, H.pq.symm, H.qs, H.qb, H.ps, H.pb, H.sb⟩
theorem Vs.swap3 (H : Vs VS p q r s b) : Vs VS s q r p b := ⟨H.nd, fun f => by rw [H.sum]; lia, fun u hu => (H.all u hu).elim (fun e => .inr (.inr (.inr (.inl e)))) fun h => h.elim (fun e => .inr (.inl e)) fun h => h.elim (fun e => .inr (.inr (.inl e))) fun h => h.elim .inl fun h => .inr (.inr (.inr (.inr h))), H.ms, H.mq, H.mr, H.mp, H.mb, H.qs.symm, H.rs.symm, H.ps.symm, H.sb, H.qr, H.pq.symm, H.qb, H.pr.symm, H.rb, H.pb⟩
noncomputable def Qf (VS : List α) (m : Gr α) (p q r s b : α) : Nat := fct (outD VS m p - 1) * (fct (outD VS m q - 1) * fct (outD VS m r - 1) * fct (outD VS m s - 1) * fct (outD VS m b))
noncomputable def Dt4 (VS : List α) (m : Gr α) (p q r s : α) : Int := det4 (lap VS m) p q r s
theorem lap_row {a v u x : α} (h : u ≠ a) : lap VS (dec m a v) u x = lap VS m u x := by
  unfold lap
  rw [out_no h, dec_row h]
theorem det3_congr {A B : α → α → Int} {x y z : α} (h1 : ∀ x, A q x = B q x) (h2 : ∀ x, A r x = B r x) (h3 : ∀ x, A s x = B s x) : det3 A q r s x y z = det3 B q r s x y z := by
  unfold det3
  simp only [h1, h2, h3]
theorem det3_dec {v x y z : α} (H : Vs VS p q r s b) : det3 (lap VS (dec m p v)) q r s x y z = det3 (lap VS m) q r s x y z := det3_congr (fun _ => lap_row H.pq.symm) (fun _ => lap_row H.pr.symm) fun _ => lap_row H.ps.symm
theorem det3_col {A : α → α → Int} {y z : α} (h1 : A q p = 0) (h2 : A r p = 0) (h3 : A s p = 0) : det3 A q r s p y z = 0 := by
  unfold det3; rw [h1, h2, h3]; grind
noncomputable def Cl (VS : List α) (p q r s b : α) (n : Nat) : Prop := ∀ (m : Gr α) (a : α), totD VS m = n → a ∈ VS → Bal VS m a b → ((walks VS n m a * perms VS m : Nat) : Int) = Dt4 VS m p q r s * Qf VS m p q r s b
theorem walk_sum (H : Vs VS p q r s b) (IH : Cl VS p q r s b n) {a : α} (ha : a ∈ VS) (ht : totD VS m = n + 1) (B : Bal VS m a b) (R : α → Int) (hR : ∀ v ∈ VS, 0 < m a v → Dt4 VS (dec m a v) p q r s * Qf VS (dec m a v) p q r s b = R v) :
    ((walks VS (n + 1) m a * perms VS m : Nat) : Int) = m a p * R p + m a q * R q + m a r * R r + m a s * R s + m a b * R b := by
  have key : ∀ v ∈ VS, (((if 0 < m a v then walks VS n (dec m a v) v else 0) * perms VS m : Nat) : Int) = m a v * R v := fun v hv => by
    by_cases h : 0 < m a v
    · rw [if_pos h, perms_step H.nd ha hv h, ← hR v hv h, ← IH _ v (by have := tot_step H.nd ha hv h; lia) hv (bal_step H.nd ha hv h B), Nat.mul_left_comm]
      exact Int.natCast_mul ..
    · rw [if_neg h, Nat.zero_mul, Nat.eq_zero_of_not_pos h]
      exact (Int.zero_mul _).symm
  show ((gsum VS (fun v => if 0 < m a v then walks VS n (dec m a v) v else 0) * perms VS m : Nat) : Int) = _
  rw [gsum_mul, H.sum, Int.natCast_add, Int.natCast_add, Int.natCast_add, Int.natCast_add, key _ H.mp, key _ H.mq, key _ H.mr, key _ H.ms, key _ H.mb]
theorem Qf_dec {v : α} (H : Vs VS p q r s b) (hv : v ∈ VS) (h : 0 < m p v) {d : Nat} (hd : outD VS m p = d + 1) : Qf VS (dec m p v) p q r s b = fct (d - 1) * (fct (outD VS m q - 1) * fct (outD VS m r - 1) * fct (outD VS m s - 1) * fct (outD VS m b)) := by
  have e := out_hit H.nd hv h
  unfold Qf
  rw [out_no H.pq.symm, out_no H.pr.symm, out_no H.ps.symm, out_no H.pb.symm, show outD VS (dec m p v) p = d by lia]
theorem Df_dec {v : α} (H : Vs VS p q r s b) : Dt4 VS (dec m p v) p q r s = lap VS (dec m p v) p p * det3 (lap VS m) q r s q r s - lap VS (dec m p v) p q * det3 (lap VS m) q r s p r s + lap VS (dec m p v) p r * det3 (lap VS m) q r s p q s - lap VS (dec m p v) p s * det3 (lap VS m) q r s p q r := by
  unfold Dt4 det4
  rw [det3_dec H, det3_dec H, det3_dec H, det3_dec H]
theorem lap_pos {u x : α} {d : Nat} (h : outD VS m u = d + 1) : lap VS m u x = (d + 1) * one u x - m u x := by
  unfold lap
  rw [if_neg (by rw [h]; exact Nat.succ_ne_zero d), h]
  rfl
theorem step_p (H : Vs VS p q r s b) (IH : Cl VS p q r s b n) (ht : totD VS m = n + 1) (B : Bal VS m p b) : ((walks VS (n + 1) m p * perms VS m : Nat) : Int) = Dt4 VS m p q r s * Qf VS m p q r s b := by
  have hB := B p H.mp
  rw [one_no H.pb, one_hit] at hB
  obtain ⟨d, hd⟩ : ∃ d, outD VS m p = d + 1 := ⟨innD VS m p, hB⟩
  have hsum : outD VS m p = m p p + m p q + m p r + m p s + m p b := H.sum _
  have lpp : lap VS m p p = (d + 1) - m p p := by rw [lap_pos hd, one_hit]; grind
  have lpx : ∀ x, p ≠ x → lap VS m p x = - m p x := fun x hx => by rw [lap_pos hd, one_no hx]; grind
  have hD : Dt4 VS m p q r s = (d + 1 - m p p) * det3 (lap VS m) q r s q r s + m p q * det3 (lap VS m) q r s p r s - m p r * det3 (lap VS m) q r s p q s + m p s * det3 (lap VS m) q r s p q r := by
    unfold Dt4 det4
    rw [lpp, lpx q H.pq, lpx r H.pr, lpx s H.ps]
    grind
  cases d with
  | zero =>
    have hin : innD VS m p = 0 := by lia
    have col : ∀ u, u ∈ VS → u ≠ p → lap VS m u p = 0 := fun u hu hup => by
      unfold lap
      rw [one_no hup, gsum_zero hin u hu]
      split <;> rfl
    have c0 := col q H.mq H.pq.symm
    have c1 := col r H.mr H.pr.symm
    have c2 := col s H.ms H.ps.symm
    have hpp : m p p = 0 := gsum_zero hin p H.mp
    rw [walk_sum H IH H.mp ht B (fun _ => det3 (lap VS m) q r s q r s * Qf VS m p q r s b) fun v hv h => ?_]
    · rw [hD, det3_col c0 c1 c2, det3_col c0 c1 c2, det3_col c0 c1 c2]
      have hs : (m p p : Int) + m p q + m p r + m p s + m p b = 1 := by lia
      generalize (Qf VS m p q r s b : Int) = Q
      generalize det3 (lap VS m) q r s q r s = c
      rw [hpp] at hs ⊢
      grind
    · have e := out_hit H.nd hv h
      have ho : outD VS (dec m p v) p = 0 := by lia
      have lx : ∀ x, lap VS (dec m p v) p x = one p x := fun x => by unfold lap; rw [if_pos ho]
      rw [Df_dec H, Qf_dec H hv h hd, lx, lx, lx, lx, one_hit, one_no H.pq, one_no H.pr, one_no H.ps]
      unfold Qf
      rw [hd]
      show _ = det3 (lap VS m) q r s q r s * ((fct 0 * _ : Nat) : Int)
      grind
  | succ e =>
    rw [walk_sum H IH H.mp ht B (fun v => ((e + 1 - (m p p - one p v)) * det3 (lap VS m) q r s q r s + (m p q - one q v) * det3 (lap VS m) q r s p r s - (m p r - one r v) * det3 (lap VS m) q r s p q s + (m p s - one s v) * det3 (lap VS m) q r s p q r) *
      (fct e * (fct (outD VS m q - 1) * fct (outD VS m r - 1) * fct (outD VS m s - 1) * fct (outD VS m b)) : Nat)) fun v hv h => ?_]
    · rw [hD]
      have hQ : (Qf VS m p q r s b : Int) = (e + 1) * (fct e * (fct (outD VS m q - 1) * fct (outD VS m r - 1) * fct (outD VS m s - 1) * fct (outD VS m b)) : Nat) := by
        unfold Qf
        rw [hd]
        show (((e + 1) * fct e * _ : Nat) : Int) = _
        rw [Nat.mul_assoc, Int.natCast_mul]
        rfl
      rw [hQ]
      generalize ((fct e * (fct (outD VS m q - 1) * fct (outD VS m r - 1) * fct (outD VS m s - 1) * fct (outD VS m b)) : Nat) : Int) = Q
      generalize det3 (lap VS m) q r s q r s = c0
      generalize det3 (lap VS m) q r s p r s = c1
      generalize det3 (lap VS m) q r s p q s = c2
      generalize det3 (lap VS m) q r s p q r = c3
      rw [one_hit, one_hit, one_hit, one_hit, one_no H.pq, one_no H.pr, one_no H.ps, one_no H.pb, one_no H.pq.symm, one_no H.qr, one_no H.qs, one_no H.qb, one_no H.pr.symm, one_no H.qr.symm, one_no H.rs, one_no H.rb, one_no H.ps.symm, one_no H.qs.symm, one_no H.rs.symm, one_no H.sb]
      have hs : (e : Int) + 2 = m p p + m p q + m p r + m p s + m p b := by lia
      generalize (m p p : Int) = x0 at hs ⊢
      generalize (m p q : Int) = x1 at hs ⊢
      generalize (m p r : Int) = x2 at hs ⊢
      generalize (m p s : Int) = x3 at hs ⊢
      generalize (m p b : Int) = x4 at hs ⊢
      grind
    · have e1 := out_hit H.nd hv h
      have ho : outD VS (dec m p v) p = e + 1 := by lia
      have hm : ∀ x, ((dec m p v p x : Nat) : Int) = m p x - one x v := fun x => by
        by_cases hx : x = v
        · subst hx
          rw [dec_hit, one_hit]; lia
        · rw [dec_col hx, one_no hx]; exact (Int.sub_zero _).symm
      have l1 : lap VS (dec m p v) p p = e + 1 - (m p p - one p v) := by rw [lap_pos ho, one_hit, hm]; grind
      have l2 : ∀ x, p ≠ x → lap VS (dec m p v) p x = - (m p x - one x v) := fun x hx => by rw [lap_pos ho, one_no hx, hm]; grind
      rw [Df_dec H, Qf_dec H hv h hd, l1, l2 q H.pq, l2 r H.pr, l2 s H.ps]
      show _ * ((fct e * _ : Nat) : Int) = _
      grind
end
section
variable {α : Type} [DecidableEq α] {VS : List α} {p q r s b : α} {m : Gr α} {n : Nat}
theorem one_sum (H : Vs VS p q r s b) (f : α → Int) {u : α} (hu : u ∈ VS) (hb : u ≠ b) : one u p * f p + one u q * f q + one u r * f r + one u s * f s = f u := by
  rcases H.all u hu with e | e | e | e | e
  · subst e; rw [one_hit, one_no H.pq, one_no H.pr, one_no H.ps]; grind
  · subst e; rw [one_hit, one_no H.pq.symm, one_no H.qr, one_no H.qs]; grind
  · subst e; rw [one_hit, one_no H.pr.symm, one_no H.qr.symm, one_no H.rs]; grind
  · subst e; rw [one_hit, one_no H.ps.symm, one_no H.qs.symm, one_no H.rs.symm]; grind
  · exact absurd e hb
noncomputable def pos (VS : List α) (m : Gr α) (u : α) : Int := if outD VS m u = 0 then 0 else 1
theorem ker_row (H : Vs VS p q r s b) (B : Bal VS m b b) (h0 : outD VS m b = 0) {u : α} (hu : u ∈ VS) (hb : u ≠ b) :
    lap VS m u p * pos VS m p + lap VS m u q * pos VS m q + lap VS m u r * pos VS m r + lap VS m u s * pos VS m s = 0 := by
  have io : ∀ y ∈ VS, outD VS m y = 0 → m u y = 0 := fun y hy h => gsum_zero (show innD VS m y = 0 by have := B y hy; lia) u hu
  have mx : ∀ y ∈ VS, (m u y : Int) * pos VS m y = m u y := fun y hy => by
    unfold pos
    by_cases h : outD VS m y = 0
    · rw [io y hy h]; exact Int.zero_mul _
    · rw [if_neg h]; exact Int.mul_one _
  have hs := one_sum H (pos VS m) hu hb
  by_cases h : outD VS m u = 0
  · have hl : ∀ x, lap VS m u x = one u x := fun x => by unfold lap; rw [if_pos h]
    rw [hl, hl, hl, hl, hs]
    unfold pos
    rw [if_pos h]
  · obtain ⟨d, hd⟩ : ∃ d, outD VS m u = d + 1 := ⟨outD VS m u - 1, by lia⟩
    have hsum : outD VS m u = m u p + m u q + m u r + m u s + m u b := H.sum _
    rw [io b H.mb h0] at hsum
    have hx : pos VS m u = 1 := by unfold pos; rw [if_neg h]
    rw [lap_pos hd, lap_pos hd, lap_pos hd, lap_pos hd]
    have h1 := mx p H.mp
    have h2 := mx q H.mq
    have h3 := mx r H.mr
    have h4 := mx s H.ms
    rw [hx] at hs
    have h5 : (d : Int) + 1 = m u p + m u q + m u r + m u s := by lia
    generalize pos VS m p = x0 at *
    generalize pos VS m q = x1 at *
    generalize pos VS m r = x2 at *
    generalize pos VS m s = x3 at *
    generalize (m u p : Int) = y0 at *
    generalize (m u q : Int) = y1 at *
    generalize (m u r : Int) = y2 at *
    generalize (m u s : Int) = y3 at *
    generalize (one u p : Int) = z0 at *
    generalize (one u q : Int) = z1 at *
    generalize (one u r : Int) = z2 at *
    generalize (one u s : Int) = z3 at *
    clear mx io
    grind
theorem ker_det (H : Vs VS p q r s b) (B : Bal VS m b b) (h0 : outD VS m b = 0) (h : outD VS m p ≠ 0) : Dt4 VS m p q r s = 0 :=
  det4_ker (ker_row H B h0 H.mp H.pb) (ker_row H B h0 H.mq H.qb) (ker_row H B h0 H.mr H.rb) (ker_row H B h0 H.ms H.sb) (if_neg h)
theorem Df_b {v : α} (H : Vs VS p q r s b) : Dt4 VS (dec m b v) p q r s = Dt4 VS m p q r s := by
  have l : ∀ u x, u ≠ b → lap VS (dec m b v) u x = lap VS m u x := fun u x h => lap_row h
  unfold Dt4 det4
  rw [det3_congr (fun x => l q x H.qb) (fun x => l r x H.rb) (fun x => l s x H.sb), det3_congr (fun x => l q x H.qb) (fun x => l r x H.rb) (fun x => l s x H.sb), det3_congr (fun x => l q x H.qb) (fun x => l r x H.rb) (fun x => l s x H.sb), det3_congr (fun x => l q x H.qb) (fun x => l r x H.rb) (fun x => l s x H.sb),
    l p p H.pb, l p q H.pb, l p r H.pb, l p s H.pb]
theorem step_b (H : Vs VS p q r s b) (IH : Cl VS p q r s b n) (ht : totD VS m = n + 1) (B : Bal VS m b b) : ((walks VS (n + 1) m b * perms VS m : Nat) : Int) = Dt4 VS m p q r s * Qf VS m p q r s b := by
  cases ho : outD VS m b with
  | zero =>
    have hz : ∀ v ∈ VS, m b v = 0 := gsum_zero ho
    rw [walk_sum H IH H.mb ht B (fun _ => 0) fun v hv h => absurd h (by rw [hz v hv]; exact Nat.lt_irrefl 0)]
    have hd : Dt4 VS m p q r s = 0 := by
      have hs : totD VS m = outD VS m p + outD VS m q + outD VS m r + outD VS m s + outD VS m b := H.sum _
      by_cases h1 : outD VS m p = 0
      · by_cases h2 : outD VS m q = 0
        · by_cases h3 : outD VS m r = 0
          · exact det4_swap3.trans (ker_det H.swap3 B ho (by lia))
          · exact det4_swap2.trans (ker_det H.swap2 B ho h3)
        · exact det4_swap1.trans (ker_det H.swap1 B ho h2)
      · exact ker_det H B ho h1
    rw [hd]
    grind
  | succ d =>
    rw [walk_sum H IH H.mb ht B (fun _ => Dt4 VS m p q r s * (fct (outD VS m p - 1) * (fct (outD VS m q - 1) * fct (outD VS m r - 1) * fct (outD VS m s - 1) * fct d) : Nat)) fun v hv h => ?_]
    · have hs : outD VS m b = m b p + m b q + m b r + m b s + m b b := H.sum _
      have hQ : (Qf VS m p q r s b : Int) = (d + 1) * (fct (outD VS m p - 1) * (fct (outD VS m q - 1) * fct (outD VS m r - 1) * fct (outD VS m s - 1) * fct d) : Nat) := by
        unfold Qf
        rw [ho]
        show ((fct (outD VS m p - 1) * (fct (outD VS m q - 1) * fct (outD VS m r - 1) * fct (outD VS m s - 1) * ((d + 1) * fct d)) : Nat) : Int) = _
        rw [show fct (outD VS m p - 1) * (fct (outD VS m q - 1) * fct (outD VS m r - 1) * fct (outD VS m s - 1) * ((d + 1) * fct d)) = (d + 1) * (fct (outD VS m p - 1) * (fct (outD VS m q - 1) * fct (outD VS m r - 1) * fct (outD VS m s - 1) * fct d)) by
          rw [Nat.mul_left_comm (fct (outD VS m q - 1) * fct (outD VS m r - 1) * fct (outD VS m s - 1)), Nat.mul_left_comm]]
        exact Int.natCast_mul ..
      rw [hQ]
      have hs : (d : Int) + 1 = m b p + m b q + m b r + m b s + m b b := by lia
      generalize ((fct (outD VS m p - 1) * (fct (outD VS m q - 1) * fct (outD VS m r - 1) * fct (outD VS m s - 1) * fct d) : Nat) : Int) = Q
      generalize Dt4 VS m p q r s = D
      grind
    · have e := out_hit H.nd hv h
      rw [Df_b H]
      unfold Qf
      rw [out_no H.pb, out_no H.qb, out_no H.rb, out_no H.sb, show outD VS (dec m b v) b = d by lia]
theorem Qf_swap {p q r s : α} : Qf VS m p q r s b = Qf VS m q p r s b := by
  unfold Qf
  ac_rfl
theorem Cl.swap1 (c : Cl VS p q r s b n) : Cl VS q p r s b n := fun m a h1 h2 h3 => (c m a h1 h2 h3).trans (by unfold Dt4; rw [det4_swap1, Qf_swap])
theorem Qf_swap2 {p q r s : α} : Qf VS m p q r s b = Qf VS m r q p s b := by
  unfold Qf
  ac_rfl
theorem Qf_swap3 {p q r s : α} : Qf VS m p q r s b = Qf VS m s q r p b := by
  unfold Qf
  ac_rfl
theorem Cl.swap2 (c : Cl VS p q r s b n) : Cl VS r q p s b n := fun m a h1 h2 h3 => (c m a h1 h2 h3).trans (by unfold Dt4; rw [det4_swap2, Qf_swap2])
theorem Cl.swap3 (c : Cl VS p q r s b n) : Cl VS s q r p b n := fun m a h1 h2 h3 => (c m a h1 h2 h3).trans (by unfold Dt4; rw [det4_swap3, Qf_swap3])
theorem gprod_one {β : Type} {l : List β} {f : β → Nat} : (∀ x ∈ l, f x = 1) → gprod l f = 1 := by
  induction l with
  | nil => exact fun _ => rfl
  | cons x r ih => exact fun h => (congrArg (· * gprod r f) (h x (List.mem_cons_self ..))).trans ((Nat.one_mul _).trans (ih fun y hy => h y (List.mem_cons_of_mem _ hy)))
theorem best (H : Vs VS p q r s b) (n : Nat) : Cl VS p q r s b n := by
  induction n with
  | zero =>
    intro m a ht ha B
    have ho : ∀ u ∈ VS, outD VS m u = 0 := gsum_zero ht
    have hm : ∀ u ∈ VS, ∀ v ∈ VS, m u v = 0 := fun u hu => gsum_zero (ho u hu)
    have hl : ∀ u ∈ VS, ∀ x, lap VS m u x = one u x := fun u hu x => by unfold lap; rw [if_pos (ho u hu)]
    have hP : perms VS m = 1 := gprod_one fun u hu => gprod_one fun v hv => by rw [hm u hu v hv]; rfl
    have hQ : Qf VS m p q r s b = 1 := by
      unfold Qf
      rw [ho p H.mp, ho q H.mq, ho r H.mr, ho s H.ms, ho b H.mb]
      rfl
    have hD : Dt4 VS m p q r s = 1 := by
      unfold Dt4 det4 det3
      rw [hl p H.mp, hl p H.mp, hl p H.mp, hl p H.mp, hl q H.mq, hl q H.mq, hl q H.mq, hl q H.mq, hl r H.mr, hl r H.mr, hl r H.mr, hl r H.mr, hl s H.ms, hl s H.ms, hl s H.ms, hl s H.ms]
      rw [one_hit, one_hit, one_hit, one_hit, one_no H.pq, one_no H.pr, one_no H.ps, one_no H.pq.symm, one_no H.qr, one_no H.qs, one_no H.pr.symm, one_no H.qr.symm, one_no H.rs, one_no H.ps.symm, one_no H.qs.symm, one_no H.rs.symm]
      rfl
    rw [hP, hQ, hD]
    rfl
  | succ n ih =>
    intro m a ht ha B
    rcases H.all a ha with e | e | e | e | e
    · subst e; exact step_p H ih ht B
    · subst e; exact (step_p H.swap1 ih.swap1 ht B).trans (by unfold Dt4; rw [det4_swap1, Qf_swap])
    · subst e; exact (step_p H.swap2 ih.swap2 ht B).trans (by unfold Dt4; rw [det4_swap2, Qf_swap2])
    · subst e; exact (step_p H.swap3 ih.swap3 ht B).trans (by unfold Dt4; rw [det4_swap3, Qf_swap3])
    · subst e; exact step_b H ih ht B
end
theorem zrow {a b p q r x y z : Int} (h : b + p + x * q + y * r + z * a = 0) : b = - (p + x * q + y * r + z * a) := by grind
section
variable {α : Type} [DecidableEq α] {VS : List α} {p q r s b : α} {m : Gr α}
theorem root1 {A : α → α → Int} {x y z : Int} (rb : A b b + A p b + x * A q b + y * A r b + z * A s b = 0) (rq : A b q + A p q + x * A q q + y * A r q + z * A s q = 0) (rr : A b r + A p r + x * A q r + y * A r r + z * A s r = 0) (rs : A b s + A p s + x * A q s + y * A r s + z * A s s = 0)
    (cp : A p b + A p p + x * A p q + y * A p r + z * A p s = 0) (cq : A q b + A q p + x * A q q + y * A q r + z * A q s = 0) (cr : A r b + A r p + x * A r q + y * A r r + z * A r s = 0) (cs : A s b + A s p + x * A s q + y * A s r + z * A s s = 0) : det4 A b q r s = det4 A p q r s := by
  have h1 := zrow rb
  have h2 := zrow rq
  have h3 := zrow rr
  have h4 := zrow rs
  have h5 := zrow cp
  have h6 := zrow cq
  have h7 := zrow cr
  have h8 := zrow cs
  have e1 : det4 A b q r s = - (A p b * det3 A q r s q r s - A p q * det3 A q r s b r s + A p r * det3 A q r s b q s - A p s * det3 A q r s b q r) := by
    unfold det4
    rw [h1, h2, h3, h4]
    unfold det3
    generalize A q b = a1
    generalize A r b = a2
    generalize A s b = a3
    grind
  rw [e1]
  unfold det4 det3
  rw [h5, h6, h7, h8]
  grind
theorem det4_abs {A : α → α → Int} (h1 : A s p = 0) (h2 : A s q = 0) (h3 : A s r = 0) (h4 : A s s = 1) : det4 A p q r s = det3 A p q r p q r := by
  unfold det4 det3; rw [h1, h2, h3, h4]; grind
noncomputable def det2 (A : α → α → Int) (p q : α) : Int := A p p * A q q - A p q * A q p
theorem det3_abs {A : α → α → Int} (h1 : A r p = 0) (h2 : A r q = 0) (h4 : A r r = 1) : det3 A p q r p q r = det2 A p q := by
  unfold det3 det2; rw [h1, h2, h4]; grind
theorem det2_abs {A : α → α → Int} (h1 : A q p = 0) (h4 : A q q = 1) : det2 A p q = A p p := by
  unfold det2; rw [h1, h4]; grind
theorem syl3 {A : α → α → Int} {p q r : α} {a c : α} : (A p p * A q q - A q p * A p q) * (A p p * A a c - A a p * A p c) - (A p p * A a q - A a p * A p q) * (A p p * A q c - A q p * A p c) = A p p * det3 A p q a p q c := by unfold det3; grind
theorem syl4 {A : α → α → Int} {p q r s : α} : det3 A p q r p q r * det3 A p q s p q s - det3 A p q s p q r * det3 A p q r p q s = det2 A p q * det4 A p q r s := by unfold det4 det3 det2; grind
end
end Mine
end
section
set_option maxRecDepth 100000
set_option genSizeOf false
set_option genInjectivity false
set_option backward.defeqAttrib.useBackward true
namespace Mine
open PySem
structure Sh (p : Prog) : Prop where
  f0 : p.fns[0]? = some fn0
  f1 : p.fns[1]? = some fn1
  f2 : p.fns[2]? = some fn2
  f3 : p.fns[3]? = some fn3
  f5 : p.fns[5]? = some fn5
  f6 : p.fns[6]? = some fn6
  f7 : p.fns[7]? = some fn7
  f8 : p.fns[8]? = some fn8
  f9 : p.fns[9]? = some fn9
  n0 : p.nested[0]? = some nn0
  n1 : p.nested[1]? = some nn1
section
variable {c : Cx} {m : Fr} {e a b t : E} {es : Es} {f : V → Option V} {f2 : V → V → Option V} {fl : List V → Option V} {i j n : Nat} {v : V}
theorem xv_bad : ev c m .bad = none := rfl
theorem xv_cst : ev c m (.cst v) = some v := rfl
theorem xv_var : ev c m (.var i) = (m.at i).bind Slot.view := rfl
theorem xv_p1 : ev c m (.p1 f e) = (ev c m e).bind f := rfl
theorem xv_pv : ev c m (.pv f i) = ((m.at i).bind Slot.view).bind f := rfl
theorem xv_p2 : ev c m (.p2 f2 a b) = (ev c m a).bind fun x => (ev c m b).bind (f2 x) := rfl
theorem xv_pe : ev c m (.pe f2 i b) = ((m.at i).bind Slot.view).bind fun x => (ev c m b).bind (f2 x) := rfl
theorem xv_pn : ev c m (.pn fl es) = (evs c m es).bind fl := rfl
theorem xv_dct {ks vs : Es} : ev c m (.dct ks vs) = (evs c m ks).bind fun kv => (evs c m vs).bind fun vv => (keysOf kv).map fun ks => .dict c.gen (dsets ks vv) := rfl
theorem xv_ite : ev c m (.ite t a b) = (ev c m t).bind fun v => (truth v).bind fun z => bif z then ev c m a else ev c m b := rfl
theorem xv_or : ev c m (.or a b) = (ev c m a).bind fun v => (truth v).bind fun z => bif z then some (.bool true) else (ev c m b).bind fun u => (truth u).map .bool := rfl
theorem xv_call : ev c m (.call i es) = (evs c m es).bind (c.call i) := rfl
theorem xv_clo {x : Nat} {cap : List (Nat × Nat)} : ev c m (.clo x i es cap n) = (m.at x).bind fun sl => bif isClo i sl then (evs c m es).bind fun vs => (c.clo i vs (m.capture (· == i) cap n)).map (·.1) else none := rfl
theorem evs_nil : evs c m .nil = some [] := rfl
theorem evs_cons : evs c m (.cons e es) = (ev c m e).bind fun v => (evs c m es).map (v :: ·) := rfl
theorem evA_nil : evAnd c m .nil = some true := rfl
theorem evA_cons : evAnd c m (.cons e es) = (ev c m e).bind fun v => (truth v).bind fun z => bif z then evAnd c m es else some false := rfl
theorem evI_one {f : V → Option (List V)} : evIt c m (.one f e) = (ev c m e).bind f := rfl
theorem evI_two {f : V → V → Option (List V)} : evIt c m (.two f a b) = (ev c m a).bind fun x => (ev c m b).bind (f x) := rfl
theorem ex_asg {k : Mk} : ex c (.asg k i e) m = (ev c (m.frz e) e).map fun v => (.next, (m.frz e).set i (some (slotOf k v))) := rfl
theorem ex_asgT {xs : List Nat} : ex c (.asgT xs e) m = (ev c (m.frz e) e).bind fun v => ((m.frz e).bind (.many xs) v).map fun q => (.next, q) := rfl
theorem ex_asgS : ex c (.asgS i a e) m = (ev c ((m.frz e).frz a) e).bind fun v => (ev c ((m.frz e).frz a) a).bind fun k => (storeAt ((m.frz e).frz a) i k v).map fun q => (.next, q) := rfl
theorem ex_asgSS {j : E} : ex c (.asgSS i a j e) m = (ev c (((m.frz e).frz a).frz j) e).bind fun v => (ev c (((m.frz e).frz a).frz j) a).bind fun k => (ev c (((m.frz e).frz a).frz j) j).bind fun l => (storeAtS (((m.frz e).frz a).frz j) i k l v).map fun q => (.next, q) := rfl
theorem ex_asgR : ex c (.asgR i e) m = (ev c (m.frz e) e).bind fun v => (v.ol.bind rowsOf).map fun xss => (.next, (m.frz e).set i (some (.oll xss))) := rfl
theorem ex_app : ex c (.append i e) m = (ev c (m.frz e) e).bind fun v => ((m.frz e).at i).bind fun s => (pushS v s).map fun s => (.next, (m.frz e).set i (some s)) := rfl
theorem ex_rev : ex c (.reverse i) m = (m.at i).bind fun s => (revS s).map fun s => (.next, m.set i (some s)) := rfl
theorem ex_cloS {cap : List (Nat × Nat)} : ex c (.cloS i j es cap n) m = ((m.frzs es).at i).bind fun sl => bif isClo j sl then (evs c (m.frzs es) es).bind fun vs => (c.clo j vs ((m.frzs es).capture (· == j) cap n)).bind fun r => (capBack r.2 (m.frzs es) cap).map fun q => (.next, q) else none := rfl
theorem ex_ite {x y : Ss} : ex c (.ite t x y) m = (ev c (m.frz t) t).bind fun v => (truth v).bind fun z => bif z then exs c x (m.frz t) else exs c y (m.frz t) := rfl
theorem ex_ret : ex c (.ret e) m = (ev c (m.frz e) e).map fun v => (.ret v, m.frz e) := rfl
theorem ex_retN : ex c .retN m = some (.ret .none, m) := rfl
theorem ex_defn : ex c (.defn i j) m = some (.next, m.set i (some (.clo j))) := rfl
theorem exs_nil : exs c .nil m = some (.next, m) := rfl
theorem exs_cons {s : S} {r : Ss} : exs c (.cons s r) m = (ex c s m).bind (flK (exs c r)) := rfl
theorem flK_next {f : Fr → Option (Fl × Fr)} : flK f (.next, m) = f m := rfl
theorem flK_ret {f : Fr → Option (Fl × Fr)} : flK f (.ret v, m) = some (.ret v, m) := rfl
theorem frz_def : m.frz e = frzAt (esc e) 0 m := rfl
theorem frzs_def : m.frzs es = frzAt (escs es) 0 m := rfl
theorem frzIt_def {t : It} : m.frzIt t = frzAt (escIt t) 0 m := rfl
theorem esc_bad : esc .bad = [] := rfl
theorem esc_cst : esc (.cst v) = [] := rfl
theorem esc_var : esc (.var i) = [i] := rfl
theorem esc_p1 : esc (.p1 f e) = esc e := rfl
theorem esc_pv : esc (.pv f i) = [] := rfl
theorem esc_p2 : esc (.p2 f2 a b) = esc a ++ esc b := rfl
theorem esc_pe : esc (.pe f2 i b) = esc b := rfl
theorem esc_pn : esc (.pn fl es) = escs es := rfl
theorem esc_dct {ks vs : Es} : esc (.dct ks vs) = escs ks ++ escs vs := rfl
theorem esc_ite : esc (.ite t a b) = esc t ++ (esc a ++ esc b) := rfl
theorem esc_or : esc (.or a b) = esc a ++ esc b := rfl
theorem esc_call : esc (.call i es) = escs es := rfl
theorem esc_clo {x : Nat} {cap : List (Nat × Nat)} : esc (.clo x i es cap n) = escs es ++ cap.map (·.2) := rfl
theorem esc_lc {gs : Gs} {cap : List (Nat × Nat)} : esc (.lcomp e gs cap n) = escG gs ++ cap.map (·.2) := rfl
theorem esc_dc {gs : Gs} {cap : List (Nat × Nat)} : esc (.dcomp a b gs cap n) = escG gs ++ cap.map (·.2) := rfl
theorem escs_nil : escs .nil = [] := rfl
theorem escs_cons : escs (.cons e es) = esc e ++ escs es := rfl
theorem escI_one {f : V → Option (List V)} : escIt (.one f e) = esc e := rfl
theorem escI_two {f : V → V → Option (List V)} : escIt (.two f a b) = esc a ++ esc b := rfl
theorem escG_nil : escG .nil = [] := rfl
theorem escG_cons {t : Tg} {it : It} {ifs : Es} {r : Gs} : escG (.cons t it ifs r) = escIt it := rfl
end
section
variable {l : List Nat} {i j k q n : Nat} {r m : Fr} {s : Slot} {x y : Option Slot} {v u w z o p : V} {xs ys : List V} {g : Nat} {es : List (K × V)} {f : Nat → Bool}
theorem fz_nil : frzAt l i [] = [] := rfl
theorem fz_none : frzAt l i (none :: r) = none :: frzAt l (i + 1) r := rfl
theorem fz_v : frzAt l i (some (.v v) :: r) = some (.v v) :: frzAt l (i + 1) r := rfl
theorem fz_clo : frzAt l i (some (.clo j) :: r) = some (.clo j) :: frzAt l (i + 1) r := rfl
theorem fz_ol : frzAt l i (some (.ol xs) :: r) = some (bif l.contains i then .v (.list xs) else .ol xs) :: frzAt l (i + 1) r := rfl
theorem fz_od : frzAt l i (some (.od g es) :: r) = some (bif l.contains i then .v (.dict g es) else .od g es) :: frzAt l (i + 1) r := rfl
theorem fz_oll {xss : List (List Int)} : frzAt l i (some (.oll xss) :: r) = some (bif l.contains i then .v (.list (xss.map fun xs => .list (xs.map .int))) else .oll xss) :: frzAt l (i + 1) r := rfl
theorem cn_nil : ([] : List Nat).contains i = false := rfl
theorem cn_cons : (j :: l).contains i = (i == j || l.contains i) := rfl
theorem at_z : Fr.at (x :: r) 0 = x := rfl
theorem at_s : Fr.at (x :: r) (n + 1) = Fr.at r n := rfl
theorem st_z : (x :: r).set 0 y = y :: r := rfl
theorem st_s : (x :: r).set (n + 1) y = x :: r.set n y := rfl
theorem args_1 : Fr.args m [i] [v] = some (m.set i (some (.v v))) := rfl
theorem args_2 : Fr.args m [i, j] [v, u] = some ((m.set i (some (.v v))).set j (some (.v u))) := rfl
theorem args_3 : Fr.args m [i, j, k] [v, u, w] = some (((m.set i (some (.v v))).set j (some (.v u))).set k (some (.v w))) := rfl
theorem args_4 : Fr.args m [i, j, k, q] [v, u, w, z] = some ((((m.set i (some (.v v))).set j (some (.v u))).set k (some (.v w))).set q (some (.v z))) := rfl
theorem args_5 : Fr.args m [i, j, k, q, n] [v, u, w, z, o] = some (((((m.set i (some (.v v))).set j (some (.v u))).set k (some (.v w))).set q (some (.v z))).set n (some (.v o))) := rfl
theorem args_6 {n' : Nat} : Fr.args m [i, j, k, q, n, n'] [v, u, w, z, o, p] = some ((((((m.set i (some (.v v))).set j (some (.v u))).set k (some (.v w))).set q (some (.v z))).set n (some (.v o))).set n' (some (.v p))) := rfl
theorem bind_1 : Fr.bind m (.one i) v = some (m.set i (some (.v v))) := rfl
theorem bind_2 : Fr.bind m (.many [i, j]) (.tup [v, u]) = some ((m.set i (some (.v v))).set j (some (.v u))) := rfl
theorem bind_3 : Fr.bind m (.many [i, j, k]) (.tup [v, u, w]) = some (((m.set i (some (.v v))).set j (some (.v u))).set k (some (.v w))) := rfl
theorem bind_5 : Fr.bind m (.many [i, j, k, q, n]) (.tup [v, u, w, z, o]) = some (((((m.set i (some (.v v))).set j (some (.v u))).set k (some (.v w))).set q (some (.v z))).set n (some (.v o))) := rfl
theorem bindN_1 : Fr.bindN m (.one i) v = bif (m.at i).isNone && true then m.bind (.one i) v else none := rfl
theorem bindN_2 {is : List Nat} : Fr.bindN m (.many is) v = bif is.all (fun i => (m.at i).isNone) then m.bind (.many is) v else none := rfl
theorem cap_def {cap : List (Nat × Nat)} : m.capture f cap n = cap.foldl (fun q p => q.set p.1 (capIn f (m.at p.2))) (List.replicate n none) := rfl
theorem cap_nil : ([] : List (Nat × Nat)).foldl (fun (q : Fr) p => q.set p.1 (capIn f (m.at p.2))) r = r := rfl
theorem cap_cons {cap : List (Nat × Nat)} : ((i, j) :: cap).foldl (fun (q : Fr) p => q.set p.1 (capIn f (m.at p.2))) r = cap.foldl (fun (q : Fr) p => q.set p.1 (capIn f (m.at p.2))) (r.set i (capIn f (m.at j))) := rfl
theorem ci_none : capIn f none = none := rfl
theorem ci_v : capIn f (some (.v v)) = some (.v v) := rfl
theorem ci_ol : capIn f (some (.ol xs)) = some (.ol xs) := rfl
theorem ci_od : capIn f (some (.od g es)) = some (.od g es) := rfl
theorem ci_clo : capIn f (some (.clo i)) = bif f i then some (.clo i) else none := rfl
theorem noF_eq : noF i = false := rfl
theorem isClo_eq : isClo i (.clo j) = (j == i) := rfl
theorem sl_v : slotOf .v v = .v v := rfl
theorem sl_int {i : Int} : slotOf .o (.int i) = .v (.int i) := rfl
theorem sl_bool {b : Bool} : slotOf .o (.bool b) = .v (.bool b) := rfl
theorem sl_tup : slotOf .o (.tup xs) = .v (.tup xs) := rfl
theorem sl_str {x : Str} : slotOf .o (.str x) = .v (.str x) := rfl
theorem sl_list : slotOf .o (.list xs) = .ol xs := rfl
theorem sl_dict : slotOf .o (.dict g es) = .od g es := rfl
theorem vw_v : Slot.view (.v v) = some v := rfl
theorem vw_ol : Slot.view (.ol xs) = some (.list xs) := rfl
theorem vw_od : Slot.view (.od g es) = some (.dict g es) := rfl
theorem vw_oll {xss : List (List Int)} : Slot.view (.oll xss) = some (.rows xss) := rfl
theorem vw_clo : Slot.view (.clo i) = none := rfl
theorem sS_ol {a : Int} : storeS (.int a) v (.ol xs) = (setItem xs a v).map .ol := rfl
theorem sS_od : storeS u v (.od g es) = if es.length + 1 ≤ big then (keyV u).map fun q => .od g (dset q v es) else none := rfl
theorem stA_def : storeAt m i u v = (m.at i).bind fun s => (storeS u v s).map fun s => m.set i (some s) := rfl
theorem push_ol : pushS v (.ol xs) = if xs.length + 1 ≤ big then some (.ol (xs ++ [v])) else none := rfl
theorem rev_ol : revS (.ol xs) = some (.ol xs.reverse) := rfl
theorem val_ret : Fl.val (.ret v) = v := rfl
theorem val_next : Fl.val .next = .none := rfl
theorem kv_int {a : Int} : keyV (.int a) = some (.inr a) := rfl
theorem kv_str {a : Str} : keyV (.str a) = some (.inl a) := rfl
theorem vk_int {a : Int} : vKey (.inr a) = .int a := rfl
theorem vk_str {a : Str} : vKey (.inl a) = .str a := rfl
theorem ks_nil : keysOf [] = some [] := rfl
theorem ks_cons : keysOf (v :: xs) = (keyV v).bind fun k => (keysOf xs).map (k :: ·) := rfl
theorem cb_nil : capBack m r [] = some r := rfl
theorem cb_cons {cap : List (Nat × Nat)} : capBack m r ((i, j) :: cap) = (capBack m r cap).bind fun q => backIn m q (i, j) (r.at j) := rfl
theorem bk_ol : backIn m r (i, j) (some (.ol xs)) = match m.at i with | some (.ol xs) => some (r.set j (some (.ol xs))) | _ => none := rfl
theorem bk_v : backIn m r (i, j) (some (.v v)) = some r := rfl
theorem bk_none : backIn m r (i, j) none = some r := rfl
theorem bk_clo : backIn m r (i, j) (some (.clo k)) = some r := rfl
end
section
variable {b : Bool} {α : Type} {x y : α}
theorem mp_nil {β : Type} {f : α → β} : [].map f = [] := rfl
theorem mp_cons {β : Type} {f : α → β} {l : List α} : (x :: l).map f = f x :: l.map f := rfl
theorem ap_nil {l : List α} : [] ++ l = l := rfl
theorem ap_cons {l r : List α} : (x :: l) ++ r = x :: (l ++ r) := rfl
theorem al_nil {f : α → Bool} : [].all f = true := rfl
theorem al_cons {f : α → Bool} {l : List α} : (x :: l).all f = (f x && l.all f) := rfl
theorem or_f : (false || b) = b := rfl
theorem or_t : (true || b) = true := rfl
theorem an_f : (false && b) = false := rfl
theorem an_t : (true && b) = b := rfl
theorem nt_t : (!true) = false := rfl
theorem nt_f : (!false) = true := rfl
theorem cd_t : (bif true then x else y) = x := rfl
theorem cd_f : (bif false then x else y) = y := rfl
end
noncomputable def oS (x : Option V) : Option Slot := x.map .v
theorem fz_oS {x : Option V} {l : List Nat} {i : Nat} {r : Fr} : frzAt l i (oS x :: r) = oS x :: frzAt l (i + 1) r := by
  cases x with
  | none => rfl
  | some v =>
    rfl
theorem fm_mapF {α : Type} {f : V → Option (List V)} {e : α → V} {g : α → List V} {xs : List α} : (∀ x ∈ xs, f (e x) = some (g x)) → fm f (xs.map e) = some (xs.flatMap g) := by
  induction xs with
  | nil => exact fun _ => rfl
  | cons x r ih =>
    intro h
    rw [List.map_cons]
    unfold fm
    rw [h x (List.mem_cons_self ..), ih fun y hy => h y (List.mem_cons_of_mem _ hy)]
    rfl
theorem flat_one {α β : Type} {g : α → β} {xs : List α} : (xs.flatMap fun x => [g x]) = xs.map g := by
  induction xs with
  | nil => rfl
  | cons x r ih => exact congrArg (g x :: ·) ih
theorem forL_run {α σ : Type} {f : V → Fr → Option (Fl × Fr)} {e : α → V} {F : σ → Fr} {step : σ → α → σ} (P : List α → σ → Prop) (h : ∀ x r s, P (x :: r) s → f (e x) (F s) = some (.next, F (step s x)) ∧ P r (step s x)) {xs : List α} : ∀ {s : σ}, P xs s →
    forL f (xs.map e) (F s) = some (.next, F (xs.foldl step s)) ∧ P [] (xs.foldl step s) := by
  induction xs with
  | nil => exact fun hs => ⟨rfl, hs⟩
  | cons x r ih =>
    intro s hs
    obtain ⟨e1, e2⟩ := h x r s hs
    obtain ⟨i1, i2⟩ := ih e2
    refine ⟨?_, i2⟩
    rw [List.map_cons]
    unfold forL
    rw [e1]
    exact i1
theorem for_run {α σ : Type} {c : Cx} {t : Tg} {it : It} {body : Ss} {m : Fr} (xs : List α) (e : α → V) (F : σ → Fr) (step : σ → α → σ) (P : List α → σ → Prop) (s : σ) (hit : evIt c (m.frzIt it) it = some (xs.map e)) (hm : m.frzIt it = F s) (hP : P xs s)
    (h : ∀ x r s, P (x :: r) s → ((F s).bind t (e x)).bind (exs c body) = some (.next, F (step s x)) ∧ P r (step s x)) : ex c (.for t it body) m = some (.next, F (xs.foldl step s)) ∧ P [] (xs.foldl step s) := by
  have q := forL_run (f := fun v m => (m.bind t v).bind (exs c body)) P h hP
  refine ⟨?_, q.2⟩
  show (evIt c (m.frzIt it) it).bind (fun xs => forL (fun v m => (m.bind t v).bind (exs c body)) xs (m.frzIt it)) = _
  rw [hit, hm]
  exact q.1
theorem lc_run {α : Type} {c : Cx} {m : Fr} {elt : E} {t : Tg} {it : It} {ifs : Es} {cap : List (Nat × Nat)} {n : Nat} (xs : List α) (e : α → V) (g : α → List V) (hit : evIt c m it = some (xs.map e))
    (h : ∀ x ∈ xs, (((m.capture noF cap n).bindN t (e x)).bind fun m' => (evAnd c m' ifs).bind fun z => bif z then (ev c m' elt).map (fun v => [v]) else some []) = some (g x)) (hl : (xs.flatMap g).length ≤ big) : ev c m (.lcomp elt (.cons t it ifs .nil) cap n) = some (.list (xs.flatMap g)) := by
  show ((evIt c m it).bind (fm _)).bind _ = _
  rw [hit, Option.bind_some, fm_mapF h, Option.bind_some, if_pos hl]
theorem lc_map {α : Type} {c : Cx} {m : Fr} {elt : E} {t : Tg} {it : It} {cap : List (Nat × Nat)} {n : Nat} (xs : List α) (e : α → V) (g : α → V) (hit : evIt c m it = some (xs.map e))
    (h : ∀ x ∈ xs, ((m.capture noF cap n).bindN t (e x)).bind (fun m' => ev c m' elt) = some (g x)) (hl : xs.length ≤ big) : ev c m (.lcomp elt (.cons t it .nil .nil) cap n) = some (.list (xs.map g)) := by
  rw [← flat_one]
  refine lc_run xs e _ hit (fun x hx => ?_) (by rw [flat_one, List.length_map]; exact hl)
  have := h x hx
  cases q : (m.capture noF cap n).bindN t (e x) with
  | none => rw [q] at this; exact nos this
  | some m' =>
    rw [q] at this
    show (ev c m' elt).map _ = _
    rw [show ev c m' elt = some (g x) from this]
    rfl
section
variable {a b i : Int} {n : Nat} {xs ys r : List V} {g : Nat} {es : List (K × V)} {x k d e f h : V} {z : Bool}
theorem bi_add : binI .Add a b = some (.int (a + b)) := rfl
theorem bi_sub : binI .Sub a b = some (.int (a - b)) := rfl
theorem bin_ii {o : Operator} : binV o (.int a) (.int b) = binI o a b := rfl
theorem addI_ii : addI (.int a) (.int b) = some (.int (a + b)) := rfl
theorem nn_if (n : Nat) {α : Type} (o : Option α) : (if (0 : Int) ≤ (n : Int) then o else none) = o := if_pos (Int.natCast_nonneg n)
theorem nn_if' (n : Nat) {α : Type} (o o' : Option α) : (if (0 : Int) ≤ (n : Int) then o else o') = o := if_pos (Int.natCast_nonneg n)
theorem cutF_l : cutFrom (.list xs) (.int n) = some (.list (xs.drop n)) := nn_if n _
theorem cutT_l : cutTo (.list xs) (.int n) = some (.list (xs.take n)) := nn_if n _
theorem len_list : lenV (.list xs) = some (.int xs.length) := rfl
theorem len_tup : lenV (.tup xs) = some (.int xs.length) := rfl
theorem ceq_ss {a b : Str} : cmpV .Eq (.str a) (.str b) = some (.bool (a == b)) := rfl
theorem cne_ss {a b : Str} : cmpV .NotEq (.str a) (.str b) = some (.bool (!(a == b))) := rfl
theorem ceq : cmpV .Eq (.int a) (.int b) = some (.bool (a == b)) := rfl
theorem cne : cmpV .NotEq (.int a) (.int b) = some (.bool (!(a == b))) := rfl
theorem clt : cmpV .Lt (.int a) (.int b) = some (.bool (decide (a < b))) := rfl
theorem cle : cmpV .LtE (.int a) (.int b) = some (.bool (decide (a ≤ b))) := rfl
theorem cgt : cmpV .Gt (.int a) (.int b) = some (.bool (decide (b < a))) := rfl
theorem cge : cmpV .GtE (.int a) (.int b) = some (.bool (decide (b ≤ a))) := rfl
theorem tr_int : truth (.int a) = some (a != 0) := rfl
theorem tr_bool' : truth (.bool z) = some z := rfl
theorem tr_list : truth (.list xs) = some (!xs.isEmpty) := rfl
theorem not_bool : notV (.bool z) = some (.bool (!z)) := rfl
theorem neg_int : negV (.int a) = some (.int (-a)) := rfl
theorem inv_int : invV (.int a) = some (.int (-a - 1)) := rfl
theorem bl_int : bitlenV (.int a) = some (.int (bits a)) := rfl
theorem tup_list : tupV (.list xs) = some (.tup xs) := rfl
theorem tupN_eq : tupN xs = some (.tup xs) := rfl
theorem lstN_eq : lstN xs = some (.list xs) := rfl
theorem isT_tup : isTupV (.tup xs) = some (.bool true) := rfl
theorem isT_int : isTupV (.int a) = some (.bool false) := rfl
theorem sub_list : subV (.list xs) (.int n) = xs[n]? := by
  show item xs n = _
  unfold item
  exact nn_if' n _ _
theorem sub_dict : subV (.dict g es) k = (keyV k).bind fun q => dget q es := rfl
theorem rng1_int : rngV (.int 0) (.int b) = some (.rng 0 b) := rfl
theorem rng2_int : rngV (.int a) (.int b) = some (.rng a b) := rfl
theorem itm_list : itemsOf (.list xs) = some xs := rfl
theorem itm_tup : itemsOf (.tup xs) = some xs := rfl
theorem itm_dict : itemsOf (.dict g es) = some (es.map fun p => vKey p.1) := rfl
theorem prs_dict : pairsV (.dict g es) = some (es.map fun p => .tup [vKey p.1, p.2]) := rfl
theorem vls_dict : valuesV (.dict g es) = some (es.map (·.2)) := rfl
theorem rev_list : revV (.list xs) = some xs.reverse := rfl
theorem get_dict : getV (.dict g es) (.tup [k, x]) = (keyV k).map fun q => (dget q es).getD x := rfl
theorem keys_dict : keysV (.dict g es) = some (.list (es.map fun p => vKey p.1)) := rfl
theorem enum_list : enumV (.list xs) = some (enumL 0 xs) := rfl
theorem len_dict : lenV (.dict g es) = some (.int es.length) := rfl
theorem li_dict : listItems (.dict g es) = some (.list (es.map fun p => .tup [vKey p.1, p.2])) := rfl
theorem sub_t0 : subV (.tup (d :: r)) (.int 0) = some d := rfl
theorem sub_t1 : subV (.tup (d :: e :: r)) (.int 1) = some e := rfl
theorem sub_t2 : subV (.tup (d :: e :: f :: r)) (.int 2) = some f := rfl
theorem sub_t3 : subV (.tup (d :: e :: f :: h :: r)) (.int 3) = some h := rfl
theorem sub_t4 : subV (.tup (d :: e :: f :: h :: x :: r)) (.int 4) = some x := rfl
theorem sub_l0 : subV (.list (d :: r)) (.int 0) = some d := rfl
theorem sub_l1 : subV (.list (d :: e :: r)) (.int 1) = some e := rfl
theorem sub_l2 : subV (.list (d :: e :: f :: r)) (.int 2) = some f := rfl
theorem sub_l3 : subV (.list (d :: e :: f :: h :: r)) (.int 3) = some h := rfl
theorem sub_l4 : subV (.list (d :: e :: f :: h :: x :: r)) (.int 4) = some x := rfl
end
theorem bits_le {a : Int} {n : Nat} (h : a.natAbs < 2 ^ n) : bits a ≤ n := by
  unfold bits
  split
  · exact Nat.zero_le _
  · rename_i h0
    have : a.natAbs ≠ 0 := by lia
    exact (Nat.log2_lt this).mpr h
theorem lt_of_bits {a : Int} {n : Nat} (h : bits a ≤ n) : a.natAbs < 2 ^ n := by
  unfold bits at h
  split at h
  · rename_i e; subst e; exact Nat.two_pow_pos n
  · have : a.natAbs ≠ 0 := by lia
    exact (Nat.log2_lt this).mp h
theorem bits_lt {a : Int} : a.natAbs < 2 ^ bits a := lt_of_bits (Nat.le_refl _)
theorem bits_add {a b : Int} {n : Nat} (h : bits a ≤ n) (h' : bits b ≤ n) : bits (a + b) ≤ n + 1 := bits_le (by
  have := lt_of_bits h; have := lt_of_bits h'
  rw [Nat.pow_succ]; omega)
theorem bits_mul {a b : Int} {m n : Nat} (h : bits a ≤ m) (h' : bits b ≤ n) : bits (a * b) ≤ m + n := bits_le (by
  have h1 := lt_of_bits h; have h2 := lt_of_bits h'
  rw [Int.natAbs_mul, Nat.pow_add]
  exact Nat.mul_lt_mul'' h1 h2)
theorem bits_neg {a : Int} : bits (-a) = bits a := by unfold bits; simp
theorem bits_mono {a b : Int} (h : a.natAbs ≤ b.natAbs) : bits a ≤ bits b := bits_le (Nat.lt_of_le_of_lt h bits_lt)
theorem mul_ok {a b : Int} (h : bits a + bits b ≤ big) : binI .Mult a b = some (.int (a * b)) := if_pos h
theorem shr_ok {a : Int} {n : Nat} : binI .RShift a n = some (.int (a.fdiv (2 ^ n))) := nn_if n _
theorem shl_ok {a : Int} {n : Nat} (h : bits a + n ≤ big) : binI .LShift a n = some (.int (a * 2 ^ n)) := if_pos ⟨Int.natCast_nonneg n, Int.ofNat_le.mpr h⟩
theorem pow_ok {a : Int} {n : Nat} (h : bits a * n ≤ big) : binI .Pow a n = some (.int (a ^ n)) := if_pos ⟨Int.natCast_nonneg n, Int.ofNat_le.mpr h⟩
theorem mod_ok {a b : Int} (h : b ≠ 0) : binI .Mod a b = some (.int (a.fmod b)) := if_neg h
theorem fdiv_ok {a b : Int} (h : b ≠ 0) (h' : b.natAbs < 1073741824) : binI .FloorDiv a b = some (.int (a.fdiv b)) := if_neg fun q => q.elim h (Nat.not_le_of_lt h')
theorem fdiv_nat (a b : Nat) : (a : Int).fdiv b = ((a / b : Nat) : Int) := by simp [Int.fdiv_eq_ediv_of_nonneg]
theorem fmod_nat (a b : Nat) : (a : Int).fmod b = ((a % b : Nat) : Int) := by simp [Int.fmod_eq_emod_of_nonneg]
theorem xor_high (x s : Nat) : Builtin.bitXor x ((x / 2 ^ s : Nat) * 2 ^ s : Int) = ((x % 2 ^ s : Nat) : Int) := by
  have e : ((x / 2 ^ s : Nat) * 2 ^ s : Int) = ((x / 2 ^ s * 2 ^ s : Nat) : Int) := by push_cast; rfl
  rw [e]
  generalize hy : x / 2 ^ s * 2 ^ s = y
  have hle : y ≤ x := by rw [← hy]; exact Nat.div_mul_le_self x _
  have hmod : x = y + x % 2 ^ s := by rw [← hy, Nat.mul_comm]; exact (Nat.div_add_mod x _).symm
  have hand : x &&& y = y := by
    apply Nat.eq_of_testBit_eq
    intro i
    rw [Nat.testBit_and]
    have ty : y.testBit i = (decide (s ≤ i) && x.testBit i) := by
      rw [← hy, ← Nat.shiftLeft_eq, Nat.testBit_shiftLeft, Nat.testBit_div_two_pow]
      by_cases h : s ≤ i
      · simp [h, Nat.sub_add_cancel h]
      · simp [h]
    rw [ty]
    cases x.testBit i <;> simp
  have hor : x ||| y = x := by
    apply Nat.eq_of_testBit_eq
    intro i
    have := congrArg (fun z => Nat.testBit z i) hand
    simp only [Nat.testBit_and] at this
    rw [Nat.testBit_or, ← this]
    cases x.testBit i <;> simp
  have n1 : ¬ (0 ≤ Builtin.bitNot (x : Int)) := by unfold Builtin.bitNot; lia
  have n2 : ¬ (0 ≤ Builtin.bitNot (y : Int)) := by unfold Builtin.bitNot; lia
  have b1 : (Builtin.bitNot (Builtin.bitNot (x : Int))).toNat = x := by unfold Builtin.bitNot; lia
  have b2 : (Builtin.bitNot (Builtin.bitNot (y : Int))).toNat = y := by unfold Builtin.bitNot; lia
  have o : Builtin.bitOr (x : Int) (y : Int) = ((x ||| y : Nat) : Int) := by
    unfold Builtin.bitOr Builtin.bitAnd
    simp only [n1, n2, decide_false, b1, b2]
    unfold Builtin.bitNot; lia
  have a : Builtin.bitAnd (x : Int) (y : Int) = ((x &&& y : Nat) : Int) := by
    unfold Builtin.bitAnd
    simp
  unfold Builtin.bitXor
  rw [o, a, hand, hor]
  lia
theorem itm_rng {n : Nat} (h : n ≤ big) : itemsOf (.rng 0 n) = some ((List.range n).map fun (k : Nat) => V.int (k : Int)) := by
  have e : rngList 0 n = (List.range n).map fun (k : Nat) => V.int (k : Int) := by
    unfold rngList
    rw [Int.sub_zero, Int.toNat_natCast]
    exact congrArg (fun f => (List.range n).map f) (funext fun k => congrArg V.int (Int.zero_add _))
  refine (if_pos ⟨?_, Nat.zero_le _, h⟩).trans (congrArg some e)
  rw [Int.sub_zero]
  exact Int.ofNat_le.mpr h
theorem cat_ok {xs ys : List V} (h : xs.length + ys.length ≤ big) : catS xs ys = some (xs ++ ys) := if_pos h
theorem list_add {xs ys : List V} (h : xs.length + ys.length ≤ big) : binV .Add (.list xs) (.list ys) = some (.list (xs ++ ys)) := congrArg (Option.map V.list) (cat_ok h)
theorem rep_ok {x : V} {n : Nat} (h : n ≤ big) : binV .Mult (.list [x]) (.int n) = some (.list (List.replicate n x)) :=
  congrArg (Option.map V.list) (if_pos ⟨Int.ofNat_le.mpr h, Int.le_trans (Int.neg_nonpos_of_nonneg (Int.natCast_nonneg _)) (Int.natCast_nonneg _)⟩)
set_option hygiene false in
local macro_rules | `(tactic| walk_at "EV") => `(tactic| dsimp only [xv_bad, xv_cst, xv_var, xv_p1, xv_pv, xv_p2, xv_pe, xv_pn, xv_dct, xv_ite, xv_or, xv_call, xv_clo, evs_nil, evs_cons, evA_nil, evA_cons, evI_one, evI_two, ex_asg, ex_asgT, ex_asgS, ex_app, ex_rev, ex_cloS, ex_ite, ex_ret, ex_retN, ex_defn, exs_nil, exs_cons, flK_next, flK_ret, frz_def, frzs_def, frzIt_def, esc_bad, esc_cst, esc_var, esc_p1, esc_pv, esc_p2, esc_pe, esc_pn, esc_dct, esc_ite, esc_or, esc_call, esc_clo, esc_lc, esc_dc, escs_nil, escs_cons, escI_one, escI_two, escG_nil, escG_cons, fz_nil, fz_none, fz_v, fz_clo, fz_ol, fz_od, at_z, at_s, st_z, st_s, List.replicate_zero, List.replicate_succ, args_1, args_2, args_3, args_4, args_5, args_6, bind_1, bind_2, bind_3, bind_5, bindN_1, bindN_2, al_nil, al_cons, cap_nil, cap_cons, cap_def, ci_none, ci_v, ci_ol, ci_od, ci_clo, noF_eq, isClo_eq, sl_v, sl_int, sl_bool, sl_tup, sl_list, sl_dict, vw_v, vw_ol, vw_od, vw_clo, sS_ol, sS_od, stA_def, push_ol, rev_ol, Option.bind_some, Option.bind_none, Option.map_some, cn_nil, cn_cons, Nat.reduceBEq, or_f, or_t, an_f, an_t, nt_t, nt_f, cd_t, cd_f, Nat.reduceAdd, mp_nil, mp_cons, ap_nil, ap_cons, Option.isNone_none, Option.isNone_some, val_ret, val_next, bi_add, bi_sub, bin_ii, addI_ii, len_list, len_tup, ceq, cne, clt, cle, cgt, cge, tr_int, tr_bool', tr_list, not_bool, neg_int, inv_int, bl_int, tup_list, tupN_eq, lstN_eq, isT_tup, isT_int, sub_dict, sub_t0, sub_t1, sub_t2, sub_t3, sub_t4, sub_l0, sub_l1, sub_l2, sub_l3, sub_l4, rng1_int, rng2_int, itm_list, itm_tup, itm_dict, prs_dict, vls_dict, rev_list, li_dict, Int.reduceLE, Int.reduceLT, Int.reduceToNat, Int.reduceAdd, Int.reduceSub, Int.reduceMul, Int.reduceNeg, Int.reduceBEq, Int.reduceBNe, kv_int, ks_nil, ks_cons, cb_nil, cb_cons, bk_ol, bk_v, bk_none, bk_clo, kv_str, vk_int, vk_str, ex_asgSS, ex_asgR, fz_oll, vw_oll, sl_str, get_dict, keys_dict, enum_list, len_dict, ceq_ss, cne_ss])
section
variable {p : Prog} {g k : Nat}
theorem run_call {f : Nat} {vs : List V} : (run p g (k + 1)).call f vs = (p.fns[f]?).bind fun fn => (Fr.args (List.replicate fn.n none) fn.params vs).bind fun m => (exs (run p g k) fn.body m).map fun r => r.1.val := rfl
theorem run_clo {f : Nat} {vs : List V} {m : Fr} : (run p g (k + 1)).clo f vs m = (p.nested[f]?).bind fun fn => (Fr.args m fn.params vs).bind fun m => (exs (run p g k) fn.body m).map fun r => (r.1.val, r.2) := rfl
theorem mb {α β γ : Type} {o : Option α} {a : α} {q : α → Option β} {f : β → γ} {r : Option γ} (h : o = some a) (e : Option.map f (q a) = r) : Option.map f (o.bind q) = r := h ▸ e
theorem mfor {α σ γ : Type} {c : Cx} {t : Tg} {it : It} {body : Ss} {m : Fr} {f : Fl × Fr → γ} {q : Fl × Fr → Option (Fl × Fr)} {r : Option γ} (xs : List α) (e : α → V) (F : σ → Fr) (step : σ → α → σ) (P : List α → σ → Prop) (s : σ) (hit : evIt c (m.frzIt it) it = some (xs.map e)) (hm : m.frzIt it = F s) (hP : P xs s)
    (h : ∀ x r s, P (x :: r) s → ((F s).bind t (e x)).bind (exs c body) = some (.next, F (step s x)) ∧ P r (step s x)) (k : P [] (xs.foldl step s) → Option.map f (q (.next, F (xs.foldl step s))) = r) : Option.map f ((ex c (.for t it body) m).bind q) = r :=
  have z := for_run xs e F step P s hit hm hP h
  mb z.1 (k z.2)
theorem bb {α β : Type} {o : Option α} {a : α} {q : α → Option β} {r : Option β} (h : o = some a) (e : q a = r) : o.bind q = r := h ▸ e
theorem bfor {α σ : Type} {c : Cx} {t : Tg} {it : It} {body : Ss} {m : Fr} {q : Fl × Fr → Option (Fl × Fr)} {r : Option (Fl × Fr)} (xs : List α) (e : α → V) (F : σ → Fr) (step : σ → α → σ) (P : List α → σ → Prop) (s : σ) (hit : evIt c (m.frzIt it) it = some (xs.map e)) (hm : m.frzIt it = F s) (hP : P xs s)
    (h : ∀ x r s, P (x :: r) s → ((F s).bind t (e x)).bind (exs c body) = some (.next, F (step s x)) ∧ P r (step s x)) (k : P [] (xs.foldl step s) → q (.next, F (xs.foldl step s)) = r) : (ex c (.for t it body) m).bind q = r :=
  have z := for_run xs e F step P s hit hm hP h
  bb z.1 (k z.2)
theorem filled_ok (h : Sh p) {xs sp : List V} {n : Nat} (hl : xs.length ≤ 1000) (hs : sp.length ≤ 1000) :
    (run p g (k + 1)).call 9 [.list xs, .int n, .list sp] = some (.list ((xs.drop n ++ sp.drop (xs.drop n).length).take sp.length)) := by
  have hb : (xs.drop n).length + (sp.drop (xs.drop n).length).length ≤ big := by rw [big_eq]; simp only [List.length_drop]; omega
  rw [run_call, h.f9]
  dsimp only [fn9]
  walk_at "EV"
  rw [cutF_l]
  walk_at "EV"
  rw [cutF_l, Option.bind_some, list_add hb, Option.bind_some, cutT_l]
  rfl
theorem add_ok (h : Sh p) {a b c d a' b' c' d' : Int} {t t' r : V} (hc : (run p g k).call 1 [t, t'] = some r) :
    (run p g (k + 1)).call 0 [.tup [.int a, .int b, .int c, .int d, t], .tup [.int a', .int b', .int c', .int d', t']] = some (.tup [.int (a' + a), .int (b' + b), .int (c' + c), .int (d' + d), r]) := by
  rw [run_call, h.f0]
  dsimp only [fn0]
  walk_at "EV"
  rw [hc]
  rfl
theorem div2_ok (h : Sh p) {a b n : Int} (hb : b ≠ 0) (hb' : b.natAbs < 1073741824) (hn : (bits a : Int) - n ≤ 4000) :
    (run p g (k + 1)).call 3 [.int a, .int b, .int n] = some (.tup [.int (a.fdiv b), .int (a.fmod b)]) := by
  rw [run_call, h.f3]
  dsimp only [fn3]
  walk_at "EV"
  rw [decide_eq_true hn]
  walk_at "EV"
  rw [show divmV (.int a) (.int b) = some (.tup [.int (a.fdiv b), .int (a.fmod b)]) from if_neg fun q => q.elim hb (Nat.not_le_of_lt hb')]
  rfl
end
theorem shr1 {a : Int} : binI .RShift a 1 = some (.int (a.fdiv 2)) := rfl
theorem mod_div_mod {x S a b : Nat} (h : a + b ≤ S) : x % 2 ^ S / 2 ^ a % 2 ^ b = x / 2 ^ a % 2 ^ b := by
  apply Nat.eq_of_testBit_eq
  intro i
  simp only [Nat.testBit_mod_two_pow, Nat.testBit_div_two_pow]
  by_cases hi : i < b
  · have : i + a < S := by lia
    simp [hi, this]
  · simp [hi]
noncomputable def Laid (n : Nat) (xs : List V) (L R x : Nat) (ys : List V) : Prop := ys.length = xs.length ∧ ∀ i, ys[i]? = if L ≤ i ∧ i < R then some (.int ((x / 2 ^ (n * (i - L)) % 2 ^ n : Nat) : Int)) else xs[i]?
section
variable {p : Prog} {g : Nat}
theorem set_ok {xs : List V} {L : Nat} {v : V} (h : L < xs.length) : setItem xs (L : Int) v = some (xs.set L v) := if_pos ⟨Int.natCast_nonneg L, Int.ofNat_lt.mpr h⟩
noncomputable def InOk (p : Prog) (g k n x L R : Nat) (xs : List V) : Prop := ∃ m' ys, (run p g (k + 1)).clo 0 [.int x, .int L, .int R] [none, none, none, none, none, none, none, some (.ol xs), some (.clo 0), some (.v (.int n))] = some (.none, m') ∧ m'.at 7 = some (.ol ys) ∧ Laid n xs L R x ys
theorem inner_one (h : Sh p) {k n x L : Nat} {xs : List V} (h3 : x < 2 ^ n) (h4 : L + 1 ≤ xs.length) : InOk p g k n x L (L + 1) xs := by
  have e1 : ((L : Int) + 1 == ((L + 1 : Nat) : Int)) = true := beq_self_eq_true _
  have e2 := set_ok (v := .int x) h4
  refine ⟨[some (.v (.int x)), some (.v (.int L)), some (.v (.int ((L + 1 : Nat) : Int))), none, none, none, none, some (.ol (xs.set L (.int x))), some (.clo 0), some (.v (.int n))], xs.set L (.int x), ?_, rfl, ?_⟩
  · rw [run_clo, h.n0]
    dsimp only [nn0]
    walk_at "EV"
    rw [e1]
    walk_at "EV"
    rw [e2]
    rfl
  · refine ⟨List.length_set .., fun i => ?_⟩
    rw [List.getElem?_set]
    by_cases hi : L = i
    · subst hi
      rw [if_pos rfl, if_pos (show L < xs.length from h4), if_pos ⟨Nat.le_refl _, Nat.lt_succ_self _⟩, Nat.sub_self, Nat.mul_zero, Nat.pow_zero, Nat.div_one, Nat.mod_eq_of_lt h3]
    · rw [if_neg hi, if_neg fun q => hi (Nat.le_antisymm q.1 (Nat.le_of_lt_succ q.2))]
theorem halves {n k L R : Nat} (hn : 1 ≤ n) (h1 : L < R) (h2 : R - L ≤ 2 ^ (k + 1)) (h5 : n * (R - L) ≤ 2 ^ 22) (hR : ¬ R = L + 1) : ∃ M S, L < M ∧ M < R ∧ S = n * (M - L) ∧ n * (R - L) = S + n * (R - M) ∧ M - L ≤ 2 ^ k ∧ R - M ≤ 2 ^ k ∧ ((L : Int) + 1 == (R : Int)) = false ∧ ((L : Int) + R).fdiv 2 = (M : Int) ∧ binI .Mult ((M : Int) - L) n = some (.int S) := by
  have e : ∃ u r, 0 < u ∧ r < 2 ∧ R = L + (u + (u + r)) :=
    ⟨(R - L) / 2, (R - L) % 2, Nat.div_pos (Nat.le_sub_of_add_le' (Nat.lt_of_le_of_ne h1 (Ne.symm hR))) (by decide), Nat.mod_lt _ (by decide), by rw [← Nat.add_assoc (_ / _), ← Nat.two_mul, Nat.div_add_mod, Nat.add_sub_of_le (Nat.le_of_lt h1)]⟩
  obtain ⟨u, r, hu, hr, e⟩ := e
  subst e
  have ev : L + (u + (u + r)) - (L + u) = u + r := (Nat.add_sub_add_left ..).trans (Nat.add_sub_cancel_left ..)
  have eu : L + u - L = u := Nat.add_sub_cancel_left ..
  rw [Nat.add_sub_cancel_left] at h2 h5
  have hv : u + r ≤ 2 ^ k := by
    rw [Nat.pow_succ] at h2
    clear h5 ev eu hR h1 hn hu
    generalize 2 ^ k = P at *
    omega
  have a1 : bits (u : Int) ≤ 23 := bits_le (Nat.lt_of_le_of_lt (Nat.le_trans (Nat.le_trans (Nat.le_add_right ..) (Nat.le_mul_of_pos_left _ hn)) h5) (by decide))
  have a2 : bits (n : Int) ≤ 23 := bits_le (Nat.lt_of_le_of_lt (Nat.le_trans (Nat.le_mul_of_pos_right _ (Nat.add_pos_left hu _)) h5) (by decide))
  refine ⟨L + u, n * u, Nat.lt_add_of_pos_right hu, Nat.add_lt_add_left (Nat.lt_add_of_pos_right (Nat.add_pos_left hu r)) L, by rw [eu], by rw [Nat.add_sub_cancel_left, ev, Nat.mul_add], Nat.le_trans (Nat.le_of_eq eu) (Nat.le_trans (Nat.le_add_right ..) hv), Nat.le_trans (Nat.le_of_eq ev) hv, beq_eq_false_iff_ne.mpr fun q => hR (Int.ofNat.inj q).symm, (fdiv_nat (L + (L + (u + (u + r)))) 2).trans (congrArg _ ?_), ?_⟩
  · rw [show L + (L + (u + (u + r))) = r + 2 * (L + u) by clear h1 h2 h5 a1 a2 hv hR hn hu ev eu hr; omega, Nat.add_mul_div_left _ _ (by decide), Nat.div_eq_of_lt hr, Nat.zero_add]
  · rw [Int.natCast_add, Int.add_comm, Int.add_sub_cancel, mul_ok (Nat.le_trans (Nat.add_le_add a1 a2) (by decide)), Nat.mul_comm, Int.natCast_mul]
theorem inner_ok (h : Sh p) {n : Nat} (hn : 1 ≤ n) : ∀ (k x L R : Nat) (xs : List V), L < R → R - L ≤ 2 ^ k → x < 2 ^ (n * (R - L)) → R ≤ xs.length → n * (R - L) ≤ 2 ^ 22 → InOk p g k n x L R xs := by
  intro k
  have base : ∀ (k x L R : Nat) (xs : List V), x < 2 ^ (n * (R - L)) → R ≤ xs.length → R = L + 1 → InOk p g k n x L R xs := fun k x L R xs h3 h4 e => by
    subst e
    exact inner_one h (by rw [Nat.add_sub_cancel_left, Nat.mul_one] at h3; exact h3) h4
  induction k with
  | zero => exact fun x L R xs h1 h2 h3 h4 h5 => base 0 x L R xs h3 h4 (Nat.le_antisymm (Nat.sub_le_iff_le_add'.mp h2) h1)
  | succ k ih =>
    intro x L R xs h1 h2 h3 h4 h5
    by_cases hR : R = L + 1
    · exact base (k + 1) x L R xs h3 h4 hR
    · obtain ⟨M, S, hLM, hMR, hS, hs, u1, u2, e1, e2, e3⟩ := halves hn h1 h2 h5 hR
      have s1 := Nat.le_trans (Nat.le_add_right S (n * (R - M))) (hs ▸ h5)
      have s2 := Nat.le_trans (Nat.le_add_left (n * (R - M)) S) (hs ▸ h5)
      have hxb : bits (x : Int) ≤ n * (R - L) := bits_le h3
      have e4 : (x : Int).fdiv (2 ^ S) = ((x / 2 ^ S : Nat) : Int) := by exact_mod_cast fdiv_nat x (2 ^ S)
      have hub : bits ((x / 2 ^ S : Nat) : Int) + S ≤ big := Nat.le_trans (Nat.add_le_add (Nat.le_trans (bits_mono (Nat.div_le_self _ _)) (Nat.le_trans hxb h5)) s1) (by decide)
      have e5 : binI .LShift ((x / 2 ^ S : Nat) : Int) S = some (.int (((x / 2 ^ S : Nat) : Int) * 2 ^ S)) := shl_ok hub
      have e6 : binI .BitXor (x : Int) (((x / 2 ^ S : Nat) : Int) * 2 ^ S) = some (.int ((x % 2 ^ S : Nat) : Int)) := congrArg (fun y => some (V.int y)) (xor_high ..)
      obtain ⟨m1, y1, c1, c2, c3, c4⟩ := ih (x % 2 ^ S) L M xs hLM u1 (hS ▸ Nat.mod_lt _ (Nat.two_pow_pos _)) (Nat.le_trans (Nat.le_of_lt hMR) h4) (hS ▸ s1)
      obtain ⟨m2, y2, d1, d2, d3, d4⟩ := ih (x / 2 ^ S) M R y1 hMR u2 (Nat.div_lt_of_lt_mul (by rw [← Nat.pow_add, ← hs]; exact h3)) (c3.symm ▸ h4) s2
      refine ⟨[some (.v (.int x)), some (.v (.int L)), some (.v (.int R)), some (.v (.int M)), some (.v (.int S)), some (.v (.int ((x / 2 ^ S : Nat) : Int))), some (.v (.int ((x % 2 ^ S : Nat) : Int))), some (.ol y2), some (.clo 0), some (.v (.int n))], y2, ?_, rfl, d3.trans c3, fun i => ?_⟩
      · rw [run_clo, h.n0]
        dsimp only [nn0]
        walk_at "EV"
        rw [e1]
        walk_at "EV"
        rw [shr1, e2]
        walk_at "EV"
        rw [e3]
        walk_at "EV"
        simp only [shr_ok, e4]
        walk_at "EV"
        rw [e5]
        walk_at "EV"
        rw [e6]
        walk_at "EV"
        rw [c1]
        walk_at "EV"
        rw [c2]
        walk_at "EV"
        rw [d1]
        walk_at "EV"
        rw [d2]
        walk_at "EV"
      · rw [d4 i, c4 i]
        by_cases g1 : M ≤ i ∧ i < R
        · rw [if_pos g1, if_pos ⟨Nat.le_trans (Nat.le_of_lt hLM) g1.1, g1.2⟩, Nat.div_div_eq_div_mul, ← Nat.pow_add, hS, ← Nat.mul_add, Nat.add_comm (M - L), Nat.sub_add_sub_cancel g1.1 (Nat.le_of_lt hLM)]
        · rw [if_neg g1]
          by_cases g2 : L ≤ i ∧ i < M
          · rw [if_pos g2, if_pos ⟨g2.1, Nat.lt_trans g2.2 hMR⟩, mod_div_mod]
            rw [hS, ← Nat.mul_succ, ← Nat.succ_sub g2.1]
            exact Nat.mul_le_mul_left _ (Nat.sub_le_sub_right g2.2 L)
          · rw [if_neg g2, if_neg fun q => (Nat.lt_or_ge i M).elim (fun l => g2 ⟨q.1, l⟩) fun l => g1 ⟨l, q.2⟩]
noncomputable def digs (n len a : Nat) : List Int := (List.range len).map fun i => ((a / 2 ^ (n * i) % 2 ^ n : Nat) : Int)
theorem nat_bits (a : Nat) : a < 2 ^ bits (a : Int) := by have := bits_lt (a := (a : Int)); simpa using this
theorem nz {b : Nat} (h : 1 ≤ b) : (b : Int) ≠ 0 := fun e => absurd h (Int.ofNat.inj e ▸ Nat.not_succ_le_zero 0)
theorem lenL {A n len : Nat} (hn : 1 ≤ n) (e : len = (A + n - 1) / n) : len * n ≤ A + n ∧ A ≤ len * n ∧ len ≤ A := by
  subst e
  obtain ⟨m, e⟩ : ∃ m, n = m + 1 := ⟨n - 1, (Nat.sub_add_cancel hn).symm⟩
  subst e
  refine ⟨Nat.le_trans (Nat.div_mul_le_self ..) (Nat.sub_le ..), ?_, ?_⟩
  · have h := Nat.lt_mul_div_succ (A + (m + 1) - 1) (Nat.succ_pos m)
    rw [Nat.mul_succ, Nat.mul_comm] at h
    exact Nat.le_of_lt_succ (Nat.lt_of_add_lt_add_right (n := m) (Nat.lt_of_lt_of_eq h (Nat.add_right_comm _ m 1)))
  · cases A with
    | zero => exact Nat.le_of_eq (Nat.div_eq_of_lt (by rw [Nat.zero_add]; exact Nat.lt_succ_self m))
    | succ B => exact Nat.div_le_of_le_mul (by rw [Nat.succ_mul]; exact Nat.le_trans (Nat.le_of_eq (Nat.add_comm ..)) (Nat.add_le_add_right (Nat.le_mul_of_pos_right m (Nat.succ_pos B)) _))
theorem i2d_ok (h : Sh p) {n a len k : Nat} (hn : 1 ≤ n) (ha : bits (a : Int) + n ≤ 2 ^ 22) (hl : len = (bits (a : Int) + n - 1) / n) (hk : len ≤ 2 ^ k) :
    (run p g (k + 2)).call 5 [.int a, .int n] = some (.list ((digs n len a).map .int)) := by
  obtain ⟨l1, l2, l3⟩ := lenL hn hl
  have e1 : ((bits (a : Int) : Int) + n - 1) = ((bits (a : Int) + n - 1 : Nat) : Int) := (Int.ofNat_sub (Nat.le_trans hn (Nat.le_add_left ..))).symm
  have e2 : binI .FloorDiv ((bits (a : Int) : Int) + n - 1) n = some (.int len) := by
    rw [fdiv_ok (nz hn) (Nat.lt_of_le_of_lt (Nat.le_trans (Nat.le_add_left ..) ha) (by decide)), e1, fdiv_nat, hl]
  have e3 : binV .Mult (.list [.int 0]) (.int len) = some (.list (List.replicate len (.int 0))) := rep_ok (Nat.le_trans l3 (Nat.le_trans (Nat.le_add_right ..) (Nat.le_trans ha (by decide))))
  rw [run_call, h.f5]
  dsimp only [fn5]
  walk_at "EV"
  rw [e2]
  walk_at "EV"
  rw [e3]
  walk_at "EV"
  by_cases h0 : a = 0
  · subst h0
    have b0 : bits ((0 : Nat) : Int) = 0 := by decide
    have l0 : len = 0 := Nat.le_zero.mp (b0 ▸ l3)
    subst l0
    have e4 : (((0 : Nat) : Int) != 0) = false := by decide
    rw [e4]
    walk_at "EV"
    simp [digs]
  · have e4 : ((a : Int) != 0) = true := by simpa using h0
    have hlpos : 0 < len := Nat.pos_of_ne_zero fun q => h0 (Nat.lt_one_iff.mp (Nat.lt_of_lt_of_le (nat_bits a) (show 2 ^ bits (a : Int) ≤ 2 ^ 0 from Nat.pow_le_pow_right (by decide) (by rw [q, Nat.zero_mul] at l2; exact l2))))
    obtain ⟨m', ys, c1, c2, c3, c4⟩ := inner_ok (g := g) h hn k a 0 len (List.replicate len (.int 0)) hlpos hk (Nat.lt_of_lt_of_le (nat_bits a) (Nat.pow_le_pow_right (by decide) (Nat.mul_comm .. ▸ l2))) (by rw [List.length_replicate]; exact Nat.le_refl _) (Nat.mul_comm .. ▸ Nat.le_trans l1 ha)
    rw [e4]
    walk_at "EV"
    simp only [List.length_replicate]
    have c1' : (run p g (k + 1)).clo 0 [.int a, .int 0, .int len] [none, none, none, none, none, none, none, some (.ol (List.replicate len (.int 0))), some (.clo 0), some (.v (.int n))] = some (.none, m') := c1
    rw [c1']
    walk_at "EV"
    rw [c2]
    walk_at "EV"
    refine congrArg (fun l => some (V.list l)) (List.ext_getElem? fun i => ?_)
    rw [c4 i]
    unfold digs
    by_cases hi : i < len
    · rw [if_pos ⟨Nat.zero_le _, hi⟩]
      simp [hi]
    · rw [if_neg fun q => hi q.2]
      simp [hi]
end
noncomputable def valN (n : Nat) : List Nat → Nat
  | [] => 0
  | d :: r => d + 2 ^ n * valN n r
theorem valN_append (n : Nat) (xs ys : List Nat) : valN n (xs ++ ys) = valN n xs + 2 ^ (n * xs.length) * valN n ys := by
  induction xs with
  | nil => exact ((Nat.zero_add _).trans ((congrArg (fun z => 2 ^ z * valN n ys) (Nat.mul_zero n)).trans (Nat.one_mul _))).symm
  | cons x xs ih =>
    show x + 2 ^ n * valN n (xs ++ ys) = x + 2 ^ n * valN n xs + 2 ^ (n * (xs.length + 1)) * valN n ys
    rw [ih, Nat.mul_add, ← Nat.mul_assoc, ← Nat.pow_add, Nat.mul_add n, Nat.mul_one, Nat.add_comm (n * xs.length) n, Nat.add_assoc]
theorem valN_lt {n : Nat} {xs : List Nat} : (∀ d ∈ xs, d < 2 ^ n) → valN n xs < 2 ^ (n * xs.length) := by
  induction xs with
  | nil => exact fun _ => Nat.two_pow_pos _
  | cons x xs ih =>
    intro h
    have ih := ih fun d hd => h d (List.mem_cons_of_mem _ hd)
    show x + 2 ^ n * valN n xs < 2 ^ (n * (xs.length + 1))
    rw [Nat.mul_add, Nat.mul_one, Nat.pow_add, Nat.mul_comm (2 ^ (n * xs.length))]
    calc x + 2 ^ n * valN n xs < 2 ^ n + 2 ^ n * valN n xs := Nat.add_lt_add_right (h x (List.mem_cons_self ..)) _
      _ = 2 ^ n * (valN n xs + 1) := by rw [Nat.mul_add, Nat.mul_one, Nat.add_comm]
      _ ≤ 2 ^ n * 2 ^ (n * xs.length) := Nat.mul_le_mul_left _ ih
noncomputable def dV (ds : List Nat) : List V := ds.map fun (d : Nat) => V.int (d : Int)
section
variable {p : Prog} {g : Nat}
theorem inner2_ok (h : Sh p) {n : Nat} {ds : List Nat} (hn : 1 ≤ n) (hd : ∀ d ∈ ds, d < 2 ^ n) : ∀ (k L R : Nat), L < R → R - L ≤ 2 ^ k → R ≤ ds.length → n * (R - L) ≤ 2 ^ 22 →
    ∃ m', (run p g (k + 1)).clo 1 [.int L, .int R] [none, none, none, none, some (.v (.list (dV ds))), some (.clo 1), some (.v (.int n))] = some (.int (valN n ((ds.drop L).take (R - L))), m') := by
  have base : ∀ k L R, R ≤ ds.length → R = L + 1 → ∃ m', (run p g (k + 1)).clo 1 [.int L, .int R] [none, none, none, none, some (.v (.list (dV ds))), some (.clo 1), some (.v (.int n))] = some (.int (valN n ((ds.drop L).take (R - L))), m') := by
    intro k L R hL e
    subst e
    have e1 : ((L : Int) + 1 == ((L + 1 : Nat) : Int)) = true := by simp
    have e2 : (dV ds)[L]? = some (.int (ds[L] : Nat)) := by simp [dV, Nat.lt_of_succ_le hL]
    have e3 : valN n ((ds.drop L).take (L + 1 - L)) = ds[L] := by
      rw [Nat.add_sub_cancel_left, List.drop_eq_getElem_cons hL, List.take_succ_cons, List.take_zero]
      simp [valN]
    rw [e3]
    refine ⟨[some (.v (.int L)), some (.v (.int ((L + 1 : Nat) : Int))), none, none, some (.v (.list (dV ds))), some (.clo 1), some (.v (.int n))], ?_⟩
    rw [run_clo, h.n1]
    dsimp only [nn1]
    walk_at "EV"
    rw [e1]
    walk_at "EV"
    rw [sub_list, e2]
    rfl
  intro k
  induction k with
  | zero => exact fun L R h1 h2 h3 h4 => base 0 L R h3 (Nat.le_antisymm (Nat.sub_le_iff_le_add'.mp h2) h1)
  | succ k ih =>
    intro L R h1 h2 h3 h4
    by_cases hR : R = L + 1
    · exact base (k + 1) L R h3 hR
    · obtain ⟨M, S, hLM, hMR, hS, hs, u1, u2, e1, e2, e3⟩ := halves hn h1 h2 h4 hR
      have s1 := Nat.le_trans (Nat.le_add_right S (n * (R - M))) (hs ▸ h4)
      have s2 := Nat.le_trans (Nat.le_add_left (n * (R - M)) S) (hs ▸ h4)
      obtain ⟨m1, c1⟩ := ih L M hLM u1 (Nat.le_trans (Nat.le_of_lt hMR) h3) (hS ▸ s1)
      obtain ⟨m2, c2⟩ := ih M R hMR u2 h3 s2
      have hlt : valN n ((ds.drop M).take (R - M)) < 2 ^ (n * (R - M)) := by
        have := valN_lt (n := n) (xs := (ds.drop M).take (R - M)) fun d hd' => hd d (List.mem_of_mem_drop (List.mem_of_mem_take hd'))
        rw [List.length_take, List.length_drop, Nat.min_eq_left (Nat.sub_le_sub_right h3 M)] at this
        exact this
      have e4 : binI .LShift (valN n ((ds.drop M).take (R - M)) : Nat) S = some (.int ((valN n ((ds.drop M).take (R - M)) : Nat) * 2 ^ S)) := shl_ok (Nat.le_trans (Nat.add_le_add (bits_le (n := n * (R - M)) hlt) (Nat.le_refl S)) (by rw [Nat.add_comm, ← hs]; exact Nat.le_trans h4 (by decide)))
      have e5 : (ds.drop L).take (R - L) = (ds.drop L).take (M - L) ++ (ds.drop M).take (R - M) := by
        rw [← Nat.sub_add_sub_cancel (Nat.le_of_lt hMR) (Nat.le_of_lt hLM), Nat.add_comm, List.take_add, List.drop_drop, Nat.add_sub_of_le (Nat.le_of_lt hLM)]
      have e6 : ((valN n ((ds.drop M).take (R - M)) : Nat) : Int) * 2 ^ S + (valN n ((ds.drop L).take (M - L)) : Nat) = (valN n ((ds.drop L).take (R - L)) : Nat) := by
        rw [e5, valN_append, List.length_take, List.length_drop, Nat.min_eq_left (Nat.sub_le_sub_right (Nat.le_trans (Nat.le_of_lt hMR) h3) L), hS]
        push_cast
        rw [Int.mul_comm, Int.add_comm]
      refine ⟨[some (.v (.int L)), some (.v (.int R)), some (.v (.int M)), some (.v (.int S)), some (.v (.list (dV ds))), some (.clo 1), some (.v (.int n))], ?_⟩
      rw [run_clo, h.n1]
      dsimp only [nn1]
      walk_at "EV"
      rw [e1]
      walk_at "EV"
      rw [shr1, e2]
      walk_at "EV"
      rw [e3]
      walk_at "EV"
      rw [c2]
      walk_at "EV"
      rw [e4]
      walk_at "EV"
      rw [c1]
      walk_at "EV"
      simp only [e6]
theorem d2i_ok (h : Sh p) {n k : Nat} {ds : List Nat} (hn : 1 ≤ n) (hd : ∀ d ∈ ds, d < 2 ^ n) (hk : ds.length ≤ 2 ^ k) (hl : n * ds.length ≤ 2 ^ 22) :
    (run p g (k + 2)).call 6 [.list (dV ds), .int n] = some (.int (valN n ds)) := by
  rw [run_call, h.f6]
  dsimp only [fn6]
  walk_at "EV"
  cases ds with
  | nil => rfl
  | cons d r =>
    obtain ⟨m', c⟩ := inner2_ok (g := g) h hn hd k 0 (d :: r).length (by simp) (by simpa using hk) (Nat.le_refl _) (by simpa using hl)
    have e1 : (dV (d :: r)).length = (d :: r).length := by simp [dV]
    have e2 : (!(dV (d :: r)).isEmpty) = true := by simp [dV]
    have c' : (run p g (k + 1)).clo 1 [.int 0, .int (d :: r).length] [none, none, none, none, some (.v (.list (dV (d :: r)))), some (.clo 1), some (.v (.int n))] = some (.int (valN n (((d :: r).drop 0).take ((d :: r).length - 0))), m') := c
    rw [e2]
    walk_at "EV"
    rw [e1, c']
    walk_at "EV"
    simp
end
noncomputable def natDigs (n len a : Nat) : List Nat := (List.range len).map fun i => a / 2 ^ (n * i) % 2 ^ n
theorem digs_eq (n len a : Nat) : (digs n len a).map V.int = dV (natDigs n len a) := by simp [digs, natDigs, dV]
theorem natDigs_succ (n len a : Nat) : natDigs n (len + 1) a = a % 2 ^ n :: natDigs n len (a / 2 ^ n) := by
  unfold natDigs
  rw [List.range_succ_eq_map, List.map_cons, List.map_map, Nat.mul_zero, Nat.pow_zero, Nat.div_one]
  refine congrArg (_ :: ·) (List.map_congr_left fun i _ => ?_)
  show a / 2 ^ (n * (i + 1)) % 2 ^ n = _
  rw [Nat.div_div_eq_div_mul, ← Nat.pow_add, Nat.mul_add, Nat.mul_one, Nat.add_comm n]
theorem valN_digs (n : Nat) {len : Nat} : ∀ {a : Nat}, a < 2 ^ (n * len) → valN n (natDigs n len a) = a := by
  induction len with
  | zero => exact fun h => (Nat.lt_one_iff.mp h).symm
  | succ len ih =>
    intro a h
    have ih := ih (a := a / 2 ^ n) (Nat.div_lt_of_lt_mul (by rw [← Nat.pow_add, Nat.add_comm]; exact h))
    rw [natDigs_succ]
    show a % 2 ^ n + 2 ^ n * valN n _ = a
    rw [ih, Nat.mod_add_div]
theorem natDigs_lt {n len a d : Nat} (h : d ∈ natDigs n len a) : d < 2 ^ n := by
  obtain ⟨i, _, rfl⟩ := List.mem_map.mp h
  exact Nat.mod_lt _ (Nat.two_pow_pos _)
section
variable {p : Prog} {g : Nat}
structure QR where
  qs : List Nat
  r : Nat
  d : Option V
  q : Option V
noncomputable def qrStep (n b : Nat) (s : QR) (d : Nat) : QR := ⟨s.qs ++ [(s.r * 2 ^ n + d) / b], (s.r * 2 ^ n + d) % b, some (.int d), some (.int ((s.r * 2 ^ n + d) / b : Nat))⟩
noncomputable def qrF (a b n : Nat) (ds : List V) (s : QR) : Fr := [some (.v (.int a)), some (.v (.int b)), some (.v (.int n)), some (.v (.list ds)), some (.v (.int s.r)), some (.ol (dV s.qs)), oS s.d, oS s.q, none, none, none, none, none]
noncomputable def qrP (n b len a : Nat) (rem : List Nat) (s : QR) : Prop := s.r < b ∧ (∀ q ∈ s.qs, q < 2 ^ n) ∧ s.qs.length + rem.length = len ∧ (∀ d ∈ rem, d < 2 ^ n) ∧ (valN n s.qs.reverse * b + s.r) * 2 ^ (n * rem.length) + valN n rem.reverse = a
theorem pos_ok (h : Sh p) {a b k : Nat} (hb : 1 ≤ b) (hb' : b < 1073741824) (ha : bits (a : Int) ≤ 2 ^ 21) (hk : 21 ≤ k) :
    (run p g (k + 3)).call 7 [.int a, .int b] = some (.tup [.int ((a / b : Nat) : Int), .int ((a % b : Nat) : Int)]) := by
  obtain ⟨n, hn⟩ : ∃ n, n = bits (b : Int) := ⟨_, rfl⟩
  have hbn : b < 2 ^ n := by rw [hn]; exact nat_bits b
  have hn1 : 1 ≤ n := Nat.pos_of_ne_zero fun q => absurd hb (Nat.not_le_of_lt (by rw [q] at hbn; exact hbn))
  have hn30 : n ≤ 30 := by rw [hn]; exact bits_le hb'
  obtain ⟨len, hlen⟩ : ∃ len, len = (bits (a : Int) + n - 1) / n := ⟨_, rfl⟩
  obtain ⟨hl1, hl2, hle⟩ := lenL hn1 hlen
  have hle := Nat.le_trans hle ha
  have hk2 : len ≤ 2 ^ k := Nat.le_trans hle (Nat.pow_le_pow_right (by decide) hk)
  have han : bits (a : Int) + n ≤ 2 ^ 22 := Nat.le_trans (Nat.add_le_add ha hn30) (by decide)
  have nn : n + n ≤ 60 := Nat.add_le_add hn30 hn30
  have c5 : (run p g (k + 2)).call 5 [.int a, .int n] = some (.list (dV (natDigs n len a))) := by rw [← digs_eq]; exact i2d_ok h hn1 han hlen hk2
  have hdl : (natDigs n len a).length = len := by simp [natDigs]
  have hval : valN n (natDigs n len a) = a := valN_digs n (Nat.lt_of_lt_of_le (nat_bits a) (Nat.pow_le_pow_right (by decide) (by rw [Nat.mul_comm]; exact hl2)))
  have hrev : (dV (natDigs n len a)).reverse = ((natDigs n len a).reverse).map fun (d : Nat) => V.int (d : Int) := by simp [dV]
  rw [run_call, h.f7]
  dsimp only [fn7]
  walk_at "EV"
  simp only [← hn]
  rw [c5]
  walk_at "EV"
  have P0 : qrP n b len a (natDigs n len a).reverse ⟨[], 0, none, none⟩ := by
    refine ⟨hb, fun _ q => absurd q List.not_mem_nil, by simp [hdl], fun d hd => natDigs_lt (List.mem_reverse.mp hd), ?_⟩
    simp [valN, hval]
  have key := fun hit hm hstep => for_run (c := run p g (k + 2)) (t := .one 6) (it := .one revV (.var 3)) (body := .cons (.asgT [7, 4] (.call 3 (.cons (.p2 (binV .Add) (.p2 (binV .LShift) (.var 4) (.var 2)) (.var 6)) (.cons (.var 1) (.cons (.var 2) .nil))))) (.cons (.append 5 (.var 7)) .nil)) (m := qrF a b n (dV (natDigs n len a)) ⟨[], 0, none, none⟩)
    ((natDigs n len a).reverse) (fun (d : Nat) => V.int (d : Int)) (qrF a b n (dV (natDigs n len a))) (qrStep n b) (qrP n b len a) ⟨[], 0, none, none⟩ hit hm P0 hstep
  obtain ⟨k1, k2⟩ := key (by
    simp only [qrF]
    walk_at "EV"
    rw [hrev]) (by
    rfl) (by
    rintro x r ⟨qs, rr, d0, q0⟩ ⟨p1, p2, p3, p4, p5⟩
    simp only at p1 p2 p3 p5
    have hx := p4 x (List.mem_cons_self ..)
    have hlt : rr * 2 ^ n + x < b * 2 ^ n := Nat.lt_of_lt_of_le (Nat.add_lt_add_left hx _) (Nat.le_trans (Nat.le_of_eq (Nat.succ_mul ..).symm) (Nat.mul_le_mul_right _ p1))
    have hq : (rr * 2 ^ n + x) / b < 2 ^ n := Nat.div_lt_of_lt_mul hlt
    have e1 : binI .LShift (rr : Int) n = some (.int ((rr : Int) * 2 ^ n)) := shl_ok (Nat.le_trans (Nat.add_le_add_right (bits_le (Nat.lt_trans p1 hbn)) n) (Nat.le_trans nn (by decide)))
    have e2 : (rr : Int) * 2 ^ n + x = ((rr * 2 ^ n + x : Nat) : Int) := by push_cast; rfl
    have e3 : (run p g (k + 2)).call 3 [.int ((rr * 2 ^ n + x : Nat) : Int), .int b, .int n] = some (.tup [.int (((rr * 2 ^ n + x) / b : Nat) : Int), .int (((rr * 2 ^ n + x) % b : Nat) : Int)]) := by
      have : bits ((rr * 2 ^ n + x : Nat) : Int) ≤ n + n := bits_le (by
        rw [Nat.pow_add]
        exact Nat.lt_of_lt_of_le hlt (Nat.mul_le_mul_right _ (Nat.le_of_lt hbn)))
      rw [div2_ok h (nz hb) hb' (Int.le_trans (Int.sub_le_self _ (Int.natCast_nonneg n)) (Int.ofNat_le.mpr (Nat.le_trans this (Nat.le_trans nn (by decide))))), fdiv_nat, fmod_nat]
    have e4 : qs.length + 1 ≤ big := Nat.le_trans (Nat.le_trans (Nat.add_le_add_left (Nat.le_add_left 1 r.length) _) (Nat.le_of_eq p3)) (Nat.le_trans hle (by decide))
    refine ⟨?_, Nat.mod_lt _ hb, fun q hq' => ?_, ?_, fun d hd => p4 d (List.mem_cons_of_mem _ hd), ?_⟩
    · dsimp only [qrF, qrStep]
      walk_at "EV"
      simp only [fz_oS]
      walk_at "EV"
      rw [e1]
      walk_at "EV"
      rw [e2, e3]
      walk_at "EV"
      rw [if_pos (show (dV qs).length + 1 ≤ big by unfold dV; rw [List.length_map]; exact e4)]
      walk_at "EV"
      rw [show dV qs ++ [V.int ((rr * 2 ^ n + x) / b : Nat)] = dV (qs ++ [(rr * 2 ^ n + x) / b]) from (List.map_append (f := fun (d : Nat) => V.int (d : Int)) (l₁ := qs) (l₂ := [(rr * 2 ^ n + x) / b])).symm]
      rfl
    · exact (List.mem_append.mp hq').elim (p2 q) fun e => List.mem_singleton.mp e ▸ hq
    · exact (congrArg (· + r.length) List.length_append).trans ((Nat.add_right_comm _ 1 _).trans p3)
    · simp only [qrStep, List.reverse_append, List.reverse_cons, List.reverse_nil, List.nil_append, List.cons_append, valN] at p5 ⊢
      rw [← p5, valN_append, List.length_reverse, List.length_cons, Nat.mul_add, Nat.mul_one, Nat.pow_add]
      simp only [valN, Nat.mul_zero, Nat.add_zero]
      generalize valN n qs.reverse = Q
      generalize valN n r.reverse = W
      generalize hA : 2 ^ (n * r.length) = A
      have hdm := Nat.div_add_mod (rr * 2 ^ n + x) b
      generalize (rr * 2 ^ n + x) / b = q at hdm
      generalize (rr * 2 ^ n + x) % b = s at hdm
      generalize 2 ^ n = N at hdm
      have : (q + N * Q) * b + s = (Q * b + rr) * N + x := by
        have h1 : (q + N * Q) * b = b * q + Q * b * N := by rw [Nat.add_mul, Nat.mul_comm q b, Nat.mul_comm N Q, Nat.mul_assoc, Nat.mul_comm N b, ← Nat.mul_assoc]
        rw [h1, Nat.add_mul, Nat.add_right_comm, hdm, Nat.add_comm, Nat.add_assoc]
      rw [this, Nat.add_mul, Nat.mul_assoc, Nat.mul_comm N A, Nat.mul_comm x A]
      exact (Nat.add_right_comm ..).trans (Nat.add_assoc ..))
  refine mb k1 ?_
  clear k1 key
  generalize (natDigs n len a).reverse.foldl (qrStep n b) ⟨[], 0, none, none⟩ = s at k2 ⊢
  obtain ⟨qs, r, d0, q0⟩ := s
  obtain ⟨p1, p2, p3, p4, p5⟩ := k2
  simp only at p1 p2 p3 p5
  simp only [valN, List.reverse_nil, List.length_nil, Nat.mul_zero, Nat.pow_zero, Nat.mul_one, Nat.add_zero] at p5 p3
  dsimp only [qrF]
  walk_at "EV"
  have e1 : (dV qs).reverse = dV qs.reverse := by simp [dV]
  have hq : qs.reverse.length = len := List.length_reverse.trans p3
  have e2 : (run p g (k + 2)).call 6 [.list (dV qs.reverse), .int n] = some (.int (valN n qs.reverse)) := d2i_ok h hn1 (fun d hd => p2 d (List.mem_reverse.mp hd)) (hq ▸ hk2) (by rw [hq, Nat.mul_comm]; exact Nat.le_trans hl1 han)
  simp only [fz_oS]
  walk_at "EV"
  rw [e1, e2]
  walk_at "EV"
  simp only [fz_oS]
  walk_at "EV"
  have d1 : a / b = valN n qs.reverse := by rw [← p5, Nat.mul_comm, Nat.mul_add_div hb, Nat.div_eq_of_lt p1, Nat.add_zero]
  have d2 : a % b = r := by rw [← p5, Nat.mul_comm, Nat.mul_add_mod, Nat.mod_eq_of_lt p1]
  rw [d1, d2]
theorem dm_nn (h : Sh p) {a b k : Nat} (hb : 1 ≤ b) (hb' : b < 1073741824) (ha : bits (a : Int) ≤ 2 ^ 21) (hk : 21 ≤ k) :
    (run p g (k + 4)).call 8 [.int a, .int b] = some (.tup [.int ((a / b : Nat) : Int), .int ((a % b : Nat) : Int)]) := by
  have c := pos_ok (g := g) h hb hb' ha hk
  rw [run_call, h.f8]
  dsimp only [fn8]
  walk_at "EV"
  rw [beq_eq_false_iff_ne.mpr (nz hb)]
  walk_at "EV"
  rw [decide_eq_false (Int.not_lt.mpr (Int.natCast_nonneg b))]
  walk_at "EV"
  rw [decide_eq_false (Int.not_lt.mpr (Int.natCast_nonneg a))]
  walk_at "EV"
  rw [c]
  walk_at "EV"
theorem dm_pos (h : Sh p) {a : Int} {b k : Nat} (hb : 1 ≤ b) (hb' : b < 1073741824) (ha : bits a ≤ 2 ^ 21) (hk : 21 ≤ k) :
    (run p g (k + 5)).call 8 [.int a, .int b] = some (.tup [.int (a.fdiv b), .int (a.fmod b)]) := by
  cases a with
  | ofNat n =>
    show _ = some (V.tup [.int ((n : Int).fdiv b), .int ((n : Int).fmod b)])
    rw [fdiv_nat, fmod_nat]
    exact dm_nn (k := k + 1) h hb hb' ha (Nat.le_succ_of_le hk)
  | negSucc n =>
    have c := dm_nn (g := g) (a := n) h hb hb' (Nat.le_trans (bits_mono (b := Int.negSucc n) (Nat.le_succ n)) ha) hk
    have hn : -(Int.negSucc n) - 1 = (n : Int) := Int.add_sub_cancel (n : Int) 1
    have hq : (Int.negSucc n).fdiv b = -((n / b : Nat) : Int) - 1 := by
      obtain ⟨m, e⟩ : ∃ m, b = m + 1 := ⟨b - 1, (Nat.sub_add_cancel hb).symm⟩
      subst e
      exact (Int.negSucc_eq _).trans Int.neg_add
    have hr : (Int.negSucc n).fmod b = b + (-((n % b : Nat) : Int) - 1) := Int.subNatNat_eq_coe.trans (Int.sub_eq_add_neg.trans (congrArg (HAdd.hAdd (b : Int)) (Int.neg_add (a := (n % b : Nat)) (b := 1))))
    rw [run_call, h.f8]
    dsimp only [fn8]
    walk_at "EV"
    rw [beq_eq_false_iff_ne.mpr (nz hb)]
    walk_at "EV"
    rw [decide_eq_false (Int.not_lt.mpr (Int.natCast_nonneg b))]
    walk_at "EV"
    rw [decide_eq_true (Int.negSucc_lt_zero n)]
    walk_at "EV"
    rw [hn, c]
    walk_at "EV"
    rw [hq, hr]
theorem dm_ok (h : Sh p) {a b : Int} {k : Nat} (hb : b ≠ 0) (hb' : b.natAbs < 1073741824) (ha : bits a ≤ 2 ^ 21) (hk : 21 ≤ k) :
    (run p g (k + 6)).call 8 [.int a, .int b] = some (.tup [.int (a.fdiv b), .int (a.fmod b)]) := by
  cases b with
  | ofNat n => exact dm_pos (k := k + 1) h (Nat.pos_of_ne_zero fun q => hb (congrArg Int.ofNat q)) hb' ha (Nat.le_succ_of_le hk)
  | negSucc m =>
    have c := dm_pos (g := g) (a := -a) (b := m + 1) h (Nat.succ_pos m) hb' (by rw [bits_neg]; exact ha) hk
    have hn : -Int.negSucc m = ((m + 1 : Nat) : Int) := rfl
    have hq : (-a).fdiv ((m + 1 : Nat) : Int) = a.fdiv (Int.negSucc m) := Int.neg_fdiv_neg a (Int.negSucc m)
    have hr : -((-a).fmod ((m + 1 : Nat) : Int)) = a.fmod (Int.negSucc m) := by
      rw [← hn, Int.fmod_def, Int.fmod_def, Int.neg_fdiv_neg, Int.neg_mul, Int.neg_sub, Int.sub_eq_add_neg, Int.neg_neg, Int.add_comm, Int.sub_eq_add_neg]
    rw [run_call, h.f8]
    dsimp only [fn8]
    walk_at "EV"
    rw [beq_eq_false_iff_ne.mpr hb]
    walk_at "EV"
    rw [decide_eq_true (Int.negSucc_lt_zero m)]
    walk_at "EV"
    rw [hn, c]
    walk_at "EV"
    rw [hq, hr]
end
inductive Cm (α : Type) where
  | one (n : Int)
  | two (n : Int) (z : α)
abbrev Mi := Cm Int
noncomputable def encM : Mi → V
  | .one n => .int n
  | .two n z => .tup [.int n, .int z]
abbrev At' (β : Type) := List (K × β)
abbrev Tb (α : Type) := At' (Cm α)
abbrev Ti := Tb Int
section
variable {α : Type}
noncomputable def Cm.kind : Cm α → Bool
  | .one _ => false
  | .two _ _ => true
noncomputable def addM (ad : α → α → α) : Cm α → Cm α → Cm α
  | .one a, q => match q with
    | .one b => .one (a + b)
    | .two _ _ => .one a
  | .two a c, q => match q with
    | .two b d => .two (b + a) (ad d c)
    | .one _ => .two a c
noncomputable def tget {β : Type} (k : K) : At' β → Option (β)
  | [] => none
  | p :: r => if k = p.1 then some p.2 else tget k r
noncomputable def tset {β : Type} (k : K) (v : β) : At' β → At' β
  | [] => [(k, v)]
  | p :: r => if k = p.1 then (p.1, v) :: r else p :: tset k v r
theorem tget_hit {β : Type} {k : K} {p : K × β} {r : At' β} (h : k = p.1) : tget k (p :: r) = some p.2 := if_pos h
theorem tget_no {β : Type} {k : K} {p : K × β} {r : At' β} (h : k ≠ p.1) : tget k (p :: r) = tget k r := if_neg h
theorem tset_hit {β : Type} {k : K} {v : β} {p : K × β} {r : At' β} (h : k = p.1) : tset k v (p :: r) = (p.1, v) :: r := if_pos h
theorem tset_no {β : Type} {k : K} {v : β} {p : K × β} {r : At' β} (h : k ≠ p.1) : tset k v (p :: r) = p :: tset k v r := if_neg h
end
noncomputable def iadd (x y : Int) : Int := x + y
noncomputable def encP (p : K × Mi) : K × V := (p.1, encM p.2)
noncomputable def encT (t : Ti) : List (K × V) := t.map encP
theorem dget_encT (k : K) (t : Ti) : dget k (encT t) = (tget k t).map encM := by
  induction t with
  | nil => rfl
  | cons p r ih =>
    by_cases h : k = p.1
    · rw [tget_hit h]; exact if_pos h
    · rw [tget_no h]; exact (if_neg h).trans ih
theorem dset_encT (k : K) (v : Mi) (t : Ti) : dset k (encM v) (encT t) = encT (tset k v t) := by
  induction t with
  | nil => rfl
  | cons p r ih =>
    by_cases h : k = p.1
    · rw [tset_hit h]; exact if_pos h
    · rw [tset_no h]; exact (if_neg h).trans (congrArg (encP p :: ·) ih)
section
variable {α : Type} {ad : α → α → α}
theorem tset_len {β : Type} (k : K) (v : β) (t : At' β) : (tset k v t).length ≤ t.length + 1 := by
  induction t with
  | nil => exact Nat.le_refl _
  | cons p r ih =>
    by_cases h : k = p.1
    · rw [tset_hit h]; exact Nat.le_succ _
    · rw [tset_no h]; exact Nat.succ_le_succ ih
theorem tset_new {β : Type} (k : K) (v : β) (t : At' β) : k ∉ t.map (·.1) → tset k v t = t ++ [(k, v)] := by
  induction t with
  | nil => exact fun _ => rfl
  | cons p r ih =>
    intro h
    rw [tset_no fun (e : k = p.1) => h (List.mem_cons.mpr (.inl e)), ih fun m => h (List.mem_cons_of_mem _ m)]
    rfl
theorem tget_mem {β : Type} {k : K} {u : β} {t : At' β} : tget k t = some u → (k, u) ∈ t := by
  induction t with
  | nil => exact nos
  | cons p r ih =>
    by_cases h : k = p.1
    · rw [tget_hit h]
      intro e
      cases e
      exact h ▸ List.mem_cons_self ..
    · rw [tget_no h]
      exact fun e => List.mem_cons_of_mem _ (ih e)
theorem tset_mem {β : Type} {k : K} {v : β} {q : K × β} {t : At' β} : q ∈ tset k v t → q ∈ t ∨ q = (k, v) := by
  induction t with
  | nil => exact fun h => .inr (List.mem_singleton.mp h)
  | cons p r ih =>
    by_cases h : k = p.1
    · rw [tset_hit h]
      exact fun m => (List.mem_cons.mp m).elim (fun e => .inr (h ▸ e)) fun m => .inl (List.mem_cons_of_mem _ m)
    · rw [tset_no h]
      exact fun m => (List.mem_cons.mp m).elim (fun e => .inl (e ▸ List.mem_cons_self ..)) fun m => (ih m).imp (List.mem_cons_of_mem _) id
noncomputable def addStep (ad : α → α → α) (acc : Tb α) (q : K × Cm α) : Tb α := tset q.1 (match tget q.1 acc with
  | some u => addM ad u q.2
  | none => q.2) acc
noncomputable def addTb (ad : α → α → α) (t s : Tb α) : Tb α := s.foldl (addStep ad) t
noncomputable def Kdd (kd : K → Bool) (t : Tb α) : Prop := ∀ q ∈ t, q.2.kind = kd q.1
theorem addM_kind {a b : Cm α} : (addM ad a b).kind = a.kind := by cases a <;> cases b <;> rfl
theorem Kdd.step {kd : K → Bool} {acc : Tb α} (h : Kdd kd acc) {q : K × Cm α} (hq : q.2.kind = kd q.1) : Kdd kd (addStep ad acc q) := fun z hz => (tset_mem hz).elim (h z) fun y => by
  subst y
  cases hu : tget q.1 acc with
  | none => exact hq
  | some u => exact addM_kind.trans (h _ (tget_mem hu))
theorem addStep_len (acc : Tb α) (q : K × Cm α) : (addStep ad acc q).length ≤ acc.length + 1 := tset_len ..
end
structure AC where
  acc : Ti
  k : Option V
  v : Option V
noncomputable def acF (g : Nat) (t s : V) (x : AC) : Fr := [some (.v t), some (.v s), some (.od g (encT x.acc)), oS x.k, oS x.v, none, none, none]
noncomputable def acCopy (x : AC) (q : K × Mi) : AC := ⟨tset q.1 q.2 x.acc, some (vKey q.1), some (encM q.2)⟩
noncomputable def acAdd (x : AC) (q : K × Mi) : AC := ⟨addStep iadd x.acc q, some (vKey q.1), some (encM q.2)⟩
theorem run_gen {p : Prog} {g k : Nat} : (run p g k).gen = g := by cases k <;> rfl
theorem items_encT (t : Ti) : (encT t).map (fun p => V.tup [vKey p.1, p.2]) = t.map fun q => V.tup [vKey q.1, encM q.2] := List.map_map
theorem copy_all (t : Ti) : ∀ (x : AC), (t.map (·.1)).Nodup → (∀ q ∈ t, q.1 ∉ x.acc.map (·.1)) → (t.foldl acCopy x).acc = x.acc ++ t := by
  induction t with
  | nil => exact fun x _ _ => (List.append_nil _).symm
  | cons q r ih =>
    intro x hn hd
    have hn := List.nodup_cons.mp hn
    have e : (acCopy x q).acc = x.acc ++ [q] := tset_new _ _ _ (hd q (List.mem_cons_self ..))
    rw [List.foldl_cons, ih (acCopy x q) hn.2 fun z hz hm => ?_, e, List.append_assoc]
    · rfl
    · rw [e, List.map_append] at hm
      refine (List.mem_append.mp hm).elim (hd z (List.mem_cons_of_mem _ hz)) fun hm => hn.1 ?_
      exact List.mem_map.mpr ⟨z, hz, List.mem_singleton.mp hm⟩
theorem add_all (s : Ti) : ∀ (x : AC), (s.foldl acAdd x).acc = addTb iadd x.acc s := by
  induction s with
  | nil => exact fun x => rfl
  | cons q r ih => exact fun x => ih (acAdd x q)
section
variable {p : Prog} {g k : Nat}
theorem inV_dict {es : List (K × V)} {u : V} : inV (.dict g es) u = (keyV u).map fun q => .bool (dget q es).isSome := rfl
theorem kv_vk (q : K) : keyV (vKey q) = some q := by cases q <;> rfl
theorem enc_fit {acc : Ti} (h : acc.length + 1 ≤ 1000) : (encT acc).length + 1 ≤ big := by
  unfold encT
  rw [List.length_map]
  exact Nat.le_trans h (by decide)
theorem addc_ok (h : Sh p) {t s : Ti} {g1 g2 : Nat} {kd : K → Bool} (hn : (t.map (·.1)).Nodup) (ht : Kdd kd t) (hs : Kdd kd s) (hl : t.length + s.length ≤ 1000) :
    (run p g (k + 1)).call 1 [.dict g1 (encT t), .dict g2 (encT s)] = some (.dict g (encT (addTb iadd t s))) := by
  rw [run_call, h.f1]
  dsimp only [fn1]
  walk_at "EV"
  rw [run_gen]
  refine mfor t (fun q => V.tup [vKey q.1, encM q.2]) (acF g (.dict g1 (encT t)) (.dict g2 (encT s))) acCopy (fun rem x => x.acc.length + rem.length ≤ 1000) ⟨[], none, none⟩ (congrArg some (items_encT t)) rfl (Nat.le_trans (Nat.le_of_eq (Nat.zero_add _)) (Nat.le_trans (Nat.le_add_right _ _) hl)) (fun q r x hP => ⟨?_, ?_⟩) fun _ => ?_
  · obtain ⟨q1, q2⟩ := q
    obtain ⟨acc, k0, v0⟩ := x
    dsimp only [acF, acCopy]
    walk_at "EV"
    rw [if_pos (enc_fit (Nat.le_trans (Nat.add_le_add_left (Nat.le_add_left _ _) _) hP)), kv_vk, Option.map_some, dset_encT]
    rfl
  · exact Nat.le_trans (Nat.add_le_add_right (tset_len ..) _) (Nat.le_trans (Nat.le_of_eq (Nat.add_right_comm ..)) hP)
  have hcp : (t.foldl acCopy ⟨[], none, none⟩).acc = t := copy_all t _ hn fun _ _ => List.not_mem_nil
  generalize t.foldl acCopy ⟨[], none, none⟩ = x1 at hcp ⊢
  rw [flK_next, exs_cons]
  refine mfor s (fun q => V.tup [vKey q.1, encM q.2]) (acF g (.dict g1 (encT t)) (.dict g2 (encT s))) acAdd (fun rem x => x.acc.length + rem.length ≤ 1000 ∧ Kdd kd x.acc ∧ Kdd kd rem) x1 (congrArg some (items_encT s)) ?_ ⟨hcp.symm ▸ hl, hcp.symm ▸ ht, hs⟩ (fun q r x hx => ⟨?_, ?_, hx.2.1.step (hx.2.2 q (List.mem_cons_self ..)), fun z hz => hx.2.2 z (List.mem_cons_of_mem _ hz)⟩) fun _ => ?_
  · dsimp only [acF]
    walk_at "EV"
    simp only [fz_oS]
    rfl
  · obtain ⟨q1, q2⟩ := q
    obtain ⟨acc, k0, v0⟩ := x
    obtain ⟨hP, ha, hr⟩ := hx
    have hq : q2.kind = kd q1 := hr (q1, q2) (List.mem_cons_self ..)
    have hle := enc_fit (Nat.le_trans (Nat.add_le_add_left (Nat.le_add_left _ _) _) hP)
    dsimp only [acF, acAdd, addStep]
    walk_at "EV"
    rw [inV_dict, kv_vk, Option.map_some, dget_encT]
    cases hg : tget q1 acc with
    | none =>
      dsimp only [Option.map_none, Option.isSome_none]
      walk_at "EV"
      rw [if_pos hle, dset_encT]
      rfl
    | some u =>
      dsimp only [Option.map_some, Option.isSome_some]
      walk_at "EV"
      have hu : u.kind = kd q1 := ha _ (tget_mem hg)
      rw [← hq] at hu
      cases u with
      | one u =>
        cases q2 with
        | two => exact Bool.noConfusion hu
        | one v =>
          dsimp only [encM]
          rw [dget_encT, hg]
          dsimp only [Option.map_some, encM]
          walk_at "EV"
          rw [if_pos hle]
          rw [show V.int (u + v) = encM (.one (u + v)) from rfl, dset_encT]
          rfl
      | two u u' =>
        cases q2 with
        | one => exact Bool.noConfusion hu
        | two v v' =>
          dsimp only [encM]
          rw [dget_encT, hg]
          dsimp only [Option.map_some, encM]
          walk_at "EV"
          rw [show addT (.tup [.int v, .int v']) (.tup [.int u, .int u']) = some (encM (.two (v + u) (v' + u'))) from rfl]
          walk_at "EV"
          rw [if_pos hle, dset_encT]
          rfl
  · exact Nat.le_trans (Nat.add_le_add_right (addStep_len ..) _) (Nat.le_trans (Nat.le_of_eq (Nat.add_right_comm ..)) hx.1)
  have hfin : (s.foldl acAdd x1).acc = addTb iadd t s := (add_all s x1).trans (hcp.symm ▸ rfl)
  rw [← hfin]
  dsimp only [acF]
  walk_at "EV"
theorem add2_ok (h : Sh p) {t s : Ti} {g1 g2 : Nat} {kd : K → Bool} (hn : (t.map (·.1)).Nodup) (ht : Kdd kd t) (hs : Kdd kd s) (hl : t.length + s.length ≤ 1000) {a b c d a' b' c' d' : Int} :
    (run p g (k + 2)).call 0 [.tup [.int a, .int b, .int c, .int d, .dict g1 (encT t)], .tup [.int a', .int b', .int c', .int d', .dict g2 (encT s)]] = some (.tup [.int (a' + a), .int (b' + b), .int (c' + c), .int (d' + d),   .dict g (encT (addTb iadd t s))]) :=
  add_ok h (addc_ok h hn ht hs hl)
theorem cc_ok (h : Sh p) {es : List (K × Int)} {g' : Nat} : (run p g (k + 1)).call 2 [.dict g' (es.map fun q => (q.1, .int q.2))] = some (.int (es.map (·.2)).sum) := by
  rw [run_call, h.f2]
  dsimp only [fn2]
  walk_at "EV"
  refine mfor es (fun q => V.int q.2) (fun (x : Int × Option V) => [some (.v (.dict g' (es.map fun q => (q.1, .int q.2)))), some (.v (.int x.1)), oS x.2]) (fun x q => (x.1 + q.2, some (.int q.2))) (fun rem x => x.1 + (rem.map (·.2)).sum = (es.map (·.2)).sum) (0, none) (congrArg some List.map_map) rfl (Int.zero_add _) (fun q r x hP => ⟨?_, ?_⟩) fun k2 => ?_
  · obtain ⟨q1, q2⟩ := q
    obtain ⟨x1, x2⟩ := x
    dsimp only
    walk_at "EV"
    rfl
  · exact (Int.add_assoc ..).trans hP
  generalize es.foldl _ _ = x at k2 ⊢
  rw [← k2]
  walk_at "EV"
  exact congrArg (fun z => some (V.int z)) (Int.add_zero _).symm
end
section
variable {α : Type} [DecidableEq α]
noncomputable def fs : List α → List α → List α
  | _, [] => []
  | pre, x :: r => if x ∈ pre then fs (pre ++ [x]) r else x :: fs (pre ++ [x]) r
theorem fs_in {pre r : List α} {x : α} (h : x ∈ pre) : fs pre (x :: r) = fs (pre ++ [x]) r := if_pos h
theorem fs_no {pre r : List α} {x : α} (h : x ∉ pre) : fs pre (x :: r) = x :: fs (pre ++ [x]) r := if_neg h
theorem fs_congr {l : List α} : ∀ {pre pre' : List α}, (∀ x, x ∈ pre ↔ x ∈ pre') → fs pre l = fs pre' l := by
  induction l with
  | nil => exact fun _ => rfl
  | cons x r ih =>
    intro pre pre' h
    have h' : ∀ y, y ∈ pre ++ [x] ↔ y ∈ pre' ++ [x] := fun y => by rw [List.mem_append, List.mem_append, h y]
    by_cases q : x ∈ pre
    · rw [fs_in q, fs_in ((h x).mp q), ih h']
    · rw [fs_no q, fs_no fun z => q ((h x).mpr z), ih h']
theorem fs_mem {l : List α} : ∀ {pre : List α} {x : α}, x ∈ fs pre l ↔ x ∈ l ∧ x ∉ pre := by
  induction l with
  | nil => exact ⟨fun h => absurd h List.not_mem_nil, fun h => absurd h.1 List.not_mem_nil⟩
  | cons y r ih =>
    intro pre x
    by_cases q : y ∈ pre
    · rw [fs_in q, ih, List.mem_append, List.mem_singleton, List.mem_cons]
      constructor
      · exact fun h => ⟨.inr h.1, fun z => h.2 (.inl z)⟩
      · rintro ⟨h | h, n⟩
        · exact absurd (h ▸ q) n
        · exact ⟨h, fun z => z.elim n fun e => n (e ▸ q)⟩
    · rw [fs_no q, List.mem_cons, ih, List.mem_append, List.mem_singleton, List.mem_cons]
      constructor
      · rintro (h | h)
        · exact ⟨.inl h, h ▸ q⟩
        · exact ⟨.inr h.1, fun z => h.2 (.inl z)⟩
      · rintro ⟨h | h, n⟩
        · exact .inl h
        · by_cases e : x = y
          · exact .inl e
          · exact .inr ⟨h, fun z => z.elim n e⟩
theorem fs_nodup {l : List α} : ∀ {pre : List α}, (fs pre l).Nodup := by
  induction l with
  | nil => exact .nil
  | cons y r ih =>
    intro pre
    by_cases q : y ∈ pre
    · rw [fs_in q]; exact ih
    · rw [fs_no q]; exact List.nodup_cons.mpr ⟨fun h => (fs_mem.mp h).2 (List.mem_append_right _ (List.mem_singleton.mpr rfl)), ih⟩
theorem fs_append {l r : List α} : ∀ {pre : List α}, fs pre (l ++ r) = fs pre l ++ fs (pre ++ l) r := by
  induction l with
  | nil => intro pre; rw [List.append_nil]; rfl
  | cons y l ih =>
    intro pre
    have e : pre ++ y :: l = pre ++ [y] ++ l := by rw [List.append_assoc]; rfl
    rw [List.cons_append, e]
    by_cases q : y ∈ pre
    · rw [fs_in q, fs_in q, ih]
    · rw [fs_no q, fs_no q, ih]; rfl
theorem fs_fs {l : List α} : ∀ {p q : List α}, (∀ x ∈ q, x ∈ p) → fs p (fs q l) = fs p l := by
  induction l with
  | nil => exact fun _ => rfl
  | cons y r ih =>
    intro p q h
    have h' : ∀ x ∈ q ++ [y], x ∈ p ++ [y] := fun x hx => (List.mem_append.mp hx).elim (fun hx => List.mem_append_left _ (h x hx)) fun hx => List.mem_append_right _ hx
    by_cases hq : y ∈ q
    · have hp := h y hq
      rw [fs_in hq, fs_in hp, ← ih h']
      exact fs_congr fun x => ⟨fun hx => List.mem_append_left _ hx, fun hx => (List.mem_append.mp hx).elim id fun e => List.mem_singleton.mp e ▸ hp⟩
    · rw [fs_no hq]
      by_cases hp : y ∈ p
      · rw [fs_in hp, fs_in hp, ih h']
      · rw [fs_no hp, fs_no hp, ih h']
theorem fs_all {l : List α} : ∀ {p : List α}, l.Nodup → (∀ x ∈ l, x ∉ p) → fs p l = l := by
  induction l with
  | nil => exact fun _ _ => rfl
  | cons y r ih =>
    intro p hn h
    have hn := List.nodup_cons.mp hn
    rw [fs_no (h y (List.mem_cons_self ..)), ih hn.2 fun x hx m => (List.mem_append.mp m).elim (h x (List.mem_cons_of_mem _ hx)) fun e => hn.1 ((List.mem_singleton.mp e : x = y) ▸ hx)]
theorem fs_map {β : Type} [DecidableEq β] {f : α → β} {l : List α} : ∀ {p : List α}, (∀ x ∈ l, ∀ y ∈ p ++ l, f x = f y → x = y) → fs (p.map f) (l.map f) = (fs p l).map f := by
  induction l with
  | nil => exact fun _ => rfl
  | cons x r ih =>
    intro p hi
    have e : p.map f ++ [f x] = (p ++ [x]).map f := by rw [List.map_append]; rfl
    have hi' : ∀ z ∈ r, ∀ y ∈ p ++ [x] ++ r, f z = f y → z = y := fun z hz y hy => hi z (List.mem_cons_of_mem _ hz) y (by rw [List.append_assoc] at hy; exact hy)
    have im : f x ∈ p.map f ↔ x ∈ p := ⟨fun h => by
      obtain ⟨y, hy, e⟩ := List.mem_map.mp h
      exact hi x (List.mem_cons_self ..) y (List.mem_append_left _ hy) e.symm ▸ hy, List.mem_map_of_mem⟩
    rw [List.map_cons]
    by_cases q : x ∈ p
    · rw [fs_in (im.mpr q), fs_in q, e, ih hi']
    · rw [fs_no fun h => q (im.mp h), fs_no q, e, ih hi']; rfl
end
section
open Classical
variable {β : Type} {ad : β → β → β} {F H : K → β}
noncomputable def mkK (ks : List K) (F : K → β) : At' β := ks.map fun k => (k, F k)
theorem mkK_keys {ks : List K} : (mkK ks F).map (·.1) = ks := by
  unfold mkK
  rw [List.map_map]
  exact List.map_id _
theorem mkK_congr {ks : List K} (h : ∀ k ∈ ks, F k = H k) : mkK ks F = mkK ks H := List.map_congr_left fun k hk => congrArg (k, ·) (h k hk)
theorem tget_mk {ks : List K} {k : K} : tget k (mkK ks F) = if k ∈ ks then some (F k) else none := by
  induction ks with
  | nil => exact (if_neg List.not_mem_nil).symm
  | cons x r ih =>
    unfold mkK at ih ⊢
    rw [List.map_cons]
    by_cases q : k = x
    · subst q; rw [tget_hit (p := (k, F k)) rfl, if_pos (List.mem_cons_self ..)]
    · rw [tget_no q, ih]
      by_cases m : k ∈ r
      · rw [if_pos m, if_pos (List.mem_cons_of_mem _ m)]
      · rw [if_neg m, if_neg fun h => (List.mem_cons.mp h).elim q m]
theorem tset_mk {ks : List K} {k : K} {z : β} (hk : k ∈ ks) (hn : ks.Nodup) : tset k z (mkK ks F) = mkK ks fun x => if x = k then z else F x := by
  induction ks with
  | nil => exact absurd hk List.not_mem_nil
  | cons x r ih =>
    have hn := List.nodup_cons.mp hn
    unfold mkK at ih ⊢
    rw [List.map_cons, List.map_cons]
    by_cases q : k = x
    · subst q
      rw [tset_hit (p := (k, F k)) rfl]
      dsimp only
      rw [if_pos rfl]
      refine congrArg (_ :: ·) (List.map_congr_left fun y hy => ?_)
      rw [if_neg fun (e : y = k) => hn.1 (e ▸ hy)]
    · rw [tset_no q]
      dsimp only
      rw [if_neg (Ne.symm q), ih ((List.mem_cons.mp hk).elim (fun e => absurd e q) id) hn.2]
noncomputable def gstep (ad : β → β → β) (d : At' β) (q : K × β) : At' β := tset q.1 (match tget q.1 d with
  | some a => ad a q.2
  | none => q.2) d
theorem fold_mk {r : List K} : ∀ {ks : List K} {F : K → β}, ks.Nodup → r.Nodup → (mkK r H).foldl (gstep ad) (mkK ks F) = mkK (ks ++ fs ks r) fun k => if k ∈ r then (if k ∈ ks then ad (F k) (H k) else H k) else F k := by
  induction r with
  | nil =>
    intro ks F _ _
    show mkK ks F = mkK (ks ++ []) _
    rw [List.append_nil]
    exact mkK_congr fun k _ => (if_neg List.not_mem_nil).symm
  | cons x r ih =>
    intro ks F hk hr
    have hr := List.nodup_cons.mp hr
    show (mkK r H).foldl (gstep ad) (tset x (match tget x (mkK ks F) with
      | some a => ad a (H x)
      | none => H x) (mkK ks F)) = _
    rw [tget_mk]
    by_cases q : x ∈ ks
    · rw [if_pos q]
      dsimp only
      rw [tset_mk q hk, ih hk hr.2, fs_in q]
      have e : fs (ks ++ [x]) r = fs ks r := fs_congr fun y => ⟨fun h => (List.mem_append.mp h).elim id fun e => List.mem_singleton.mp e ▸ q, fun h => List.mem_append_left _ h⟩
      rw [e]
      refine mkK_congr fun k _ => ?_
      by_cases ek : k = x
      · subst ek
        rw [if_neg hr.1, if_pos rfl, if_pos (List.mem_cons_self ..), if_pos q]
      · by_cases m : k ∈ r
        · rw [if_pos m, if_pos (List.mem_cons_of_mem _ m), if_neg ek]
        · rw [if_neg m, if_neg ek, if_neg fun h => (List.mem_cons.mp h).elim ek m]
    · rw [if_neg q]
      dsimp only
      have en : tset x (H x) (mkK ks F) = mkK (ks ++ [x]) fun k => if k = x then H x else F k := by
        rw [tset_new _ _ _ (by rw [mkK_keys]; exact q)]
        unfold mkK
        rw [List.map_append]
        refine congr (congrArg _ (List.map_congr_left fun y hy => ?_)) ?_
        · dsimp only; rw [if_neg fun (e : y = x) => q (e ▸ hy)]
        · rw [List.map_singleton]; dsimp only; rw [if_pos rfl]
      have hk' : (ks ++ [x]).Nodup := List.nodup_append.mpr ⟨hk, List.nodup_cons.mpr ⟨List.not_mem_nil, .nil⟩, fun a ha b hb e => q (List.mem_singleton.mp hb ▸ e ▸ ha)⟩
      rw [en, ih hk' hr.2, fs_no q, List.append_assoc]
      refine mkK_congr fun k _ => ?_
      by_cases ek : k = x
      · subst ek
        rw [if_neg hr.1, if_pos rfl, if_pos (List.mem_cons_self ..), if_neg q]
      · by_cases m : k ∈ r
        · rw [if_pos m, if_pos (List.mem_cons_of_mem _ m), if_neg ek]
          by_cases mk : k ∈ ks
          · rw [if_pos (List.mem_append_left _ mk), if_pos mk]
          · rw [if_neg fun h => (List.mem_append.mp h).elim mk fun e => ek (List.mem_singleton.mp e), if_neg mk]
        · rw [if_neg m, if_neg ek, if_neg fun h => (List.mem_cons.mp h).elim ek m]
end
noncomputable def ls (u : Nat) : Str := ⟨#[97 + u]⟩
noncomputable def us (u : Nat) : Str := ⟨#[65 + u]⟩
noncomputable def lk (u : Nat) : K := .inl (ls u)
noncomputable def uk (u : Nat) : K := .inl (us u)
noncomputable def cu : K → Nat
  | .inl s => s.cps.getD 0 0
  | .inr _ => 0
theorem cu_lk {u : Nat} : cu (lk u) = 97 + u := rfl
theorem cu_uk {u : Nat} : cu (uk u) = 65 + u := rfl
theorem lk_inj {u w : Nat} (h : lk u = lk w) : u = w := Nat.add_left_cancel (congrArg cu h : 97 + u = 97 + w)
theorem uk_inj {u w : Nat} (h : uk u = uk w) : u = w := Nat.add_left_cancel (congrArg cu h : 65 + u = 65 + w)
theorem lk_uk {u w : Nat} (hw : w < 5) (h : lk u = uk w) : False := by
  have : 97 + u = 65 + w := congrArg cu h
  lia
structure Ca where
  u : Nat
  v : Nat
  t : Int
noncomputable def CaOk (c : Ca) : Prop := c.u < 5 ∧ c.v < 5
noncomputable def CsOk (cs : List Ca) : Prop := ∀ c ∈ cs, CaOk c
theorem CsOk.l {a b : List Ca} (h : CsOk (a ++ b)) : CsOk a := fun c hc => h c (List.mem_append_left _ hc)
theorem CsOk.r {a b : List Ca} (h : CsOk (a ++ b)) : CsOk b := fun c hc => h c (List.mem_append_right _ hc)
theorem CsOk.app {a b : List Ca} (h : CsOk a) (h' : CsOk b) : CsOk (a ++ b) := fun c hc => (List.mem_append.mp hc).elim (h c) (h' c)
theorem CsOk.filter {a : List Ca} {f : Ca → Bool} (h : CsOk a) : CsOk (a.filter f) := fun c hc => h c (List.mem_filter.mp hc).1
noncomputable def cnt (u : Nat) (m : List Ca) : Nat := m.countP fun c => c.u == u
noncomputable def tms (u : Nat) (m : List Ca) : Int := ((m.filter fun c => c.u == u).map (·.t)).sum
theorem cnt_app {u : Nat} {a b : List Ca} : cnt u (a ++ b) = cnt u a + cnt u b := List.countP_append
theorem tms_app {u : Nat} {a b : List Ca} : tms u (a ++ b) = tms u a + tms u b := by
  unfold tms
  rw [List.filter_append, List.map_append, List.sum_append]
theorem no_u {u : Nat} {m : List Ca} (h : u ∉ m.map (·.u)) : (m.filter fun c => c.u == u) = [] := List.filter_eq_nil_iff.mpr fun c hc e => h (List.mem_map.mpr ⟨c, hc, eq_of_beq e⟩)
theorem cnt_no {u : Nat} {m : List Ca} (h : u ∉ m.map (·.u)) : cnt u m = 0 := by
  unfold cnt
  rw [List.countP_eq_length_filter, no_u h]
  rfl
theorem tms_no {u : Nat} {m : List Ca} (h : u ∉ m.map (·.u)) : tms u m = 0 := by
  unfold tms
  rw [no_u h]
  rfl
noncomputable def tk (l : List Nat) : List K := l.flatMap fun u => [lk u, uk u]
noncomputable def Sm (l : List Nat) : Prop := ∀ u ∈ l, u < 5
theorem tk_cons {u : Nat} {r : List Nat} : tk (u :: r) = lk u :: uk u :: tk r := rfl
theorem tk_app {a b : List Nat} : tk (a ++ b) = tk a ++ tk b := List.flatMap_append
theorem mem_tk {k : K} {l : List Nat} {C : Prop} (h : k ∈ tk l) (f : ∀ u ∈ l, k = lk u → C) (g : ∀ u ∈ l, k = uk u → C) : C := by
  obtain ⟨u, hu, h⟩ := List.mem_flatMap.mp h
  exact (List.mem_cons.mp h).elim (f u hu) fun h => g u hu (List.mem_singleton.mp h)
theorem lk_tk {u : Nat} {l : List Nat} (hl : Sm l) : lk u ∈ tk l ↔ u ∈ l := ⟨fun h => mem_tk h (fun w hw e => lk_inj e ▸ hw) fun w hw e => (lk_uk (hl w hw) e).elim, fun h => List.mem_flatMap.mpr ⟨u, h, List.mem_cons_self ..⟩⟩
theorem uk_tk {u : Nat} {l : List Nat} (hu : u < 5) : uk u ∈ tk l ↔ u ∈ l := ⟨fun h => mem_tk h (fun w hw e => (lk_uk hu e.symm).elim) fun w hw e => uk_inj e ▸ hw, fun h => List.mem_flatMap.mpr ⟨u, h, List.mem_cons_of_mem _ (List.mem_singleton.mpr rfl)⟩⟩
theorem fs_tk {l : List Nat} : ∀ {p : List Nat}, Sm p → Sm l → fs (tk p) (tk l) = tk (fs p l) := by
  induction l with
  | nil => exact fun _ _ => rfl
  | cons u r ih =>
    intro p hp hl
    have hu := hl u (List.mem_cons_self ..)
    have hr : Sm r := fun w hw => hl w (List.mem_cons_of_mem _ hw)
    have hp' : Sm (p ++ [u]) := fun w hw => (List.mem_append.mp hw).elim (hp w) fun e => List.mem_singleton.mp e ▸ hu
    have e : tk p ++ [lk u] ++ [uk u] = tk (p ++ [u]) := by rw [tk_app, List.append_assoc]; rfl
    rw [tk_cons]
    by_cases q : u ∈ p
    · rw [fs_in ((lk_tk hp).mpr q), fs_in (List.mem_append_left _ ((uk_tk hu).mpr q)), e, ih hp' hr, fs_in q]
    · rw [fs_no fun h => q ((lk_tk hp).mp h), fs_no fun h => (List.mem_append.mp h).elim (fun h => q ((uk_tk hu).mp h)) fun h => lk_uk hu (List.mem_singleton.mp h).symm, e, ih hp' hr, fs_no q, tk_cons]
theorem tk_nodup {l : List Nat} (hl : Sm l) (hn : l.Nodup) : (tk l).Nodup := by
  have h := fs_tk (p := []) (fun _ h => absurd h List.not_mem_nil) hl
  rw [fs_all hn fun _ _ => List.not_mem_nil] at h
  exact h ▸ fs_nodup
theorem fs_two {α : Type} [DecidableEq α] {a b : List α} : fs [] a ++ fs (fs [] a) (fs [] b) = fs [] (a ++ b) := by
  rw [fs_append, fs_fs fun _ h => absurd h List.not_mem_nil]
  exact congrArg _ (fs_congr fun x => ⟨fun h => (fs_mem.mp h).1, fun h => fs_mem.mpr ⟨h, List.not_mem_nil⟩⟩)
theorem fs_len {α : Type} [DecidableEq α] {l : List α} : ∀ {p : List α}, (fs p l).length ≤ l.length := by
  induction l with
  | nil => exact Nat.le_refl _
  | cons x r ih =>
    intro p
    by_cases q : x ∈ p
    · rw [fs_in q]; exact Nat.le_succ_of_le ih
    · rw [fs_no q]; exact Nat.succ_le_succ ih
noncomputable def FT (m : List Ca) (k : K) : Mi := if 97 ≤ cu k then .one (cnt (cu k - 97) m) else .two (cnt (cu k - 65) m) (tms (cu k - 65) m)
theorem FT_lk {m : List Ca} {u : Nat} : FT m (lk u) = .one (cnt u m) := by
  unfold FT
  rw [cu_lk, if_pos (Nat.le_add_right _ _), Nat.add_sub_cancel_left]
theorem FT_uk {m : List Ca} {u : Nat} (hu : u < 5) : FT m (uk u) = .two (cnt u m) (tms u m) := by
  unfold FT
  rw [cu_uk, if_neg (by lia), Nat.add_sub_cancel_left]
noncomputable def kdT (k : K) : Bool := !decide (97 ≤ cu k)
theorem FT_kind {m : List Ca} {k : K} : (FT m k).kind = kdT k := by
  unfold FT kdT
  by_cases h : 97 ≤ cu k
  · rw [if_pos h, decide_eq_true h]; rfl
  · rw [if_neg h, decide_eq_false h]; rfl
noncomputable def callers (m : List Ca) : List Nat := fs [] (m.map (·.u))
theorem callers_sm {m : List Ca} (h : CsOk m) : Sm (callers m) := fun u hu => by
  obtain ⟨c, hc, e⟩ := List.mem_map.mp (fs_mem.mp hu).1
  exact e ▸ (h c hc).1
theorem mem_callers {m : List Ca} {u : Nat} : u ∈ callers m ↔ u ∈ m.map (·.u) := ⟨fun h => (fs_mem.mp h).1, fun h => fs_mem.mpr ⟨h, List.not_mem_nil⟩⟩
noncomputable def tabOf (m : List Ca) : Ti := mkK (tk (callers m)) (FT m)
theorem tab_keys {m : List Ca} (h : CsOk m) : ((tabOf m).map (·.1)).Nodup := by
  unfold tabOf
  rw [mkK_keys]
  exact tk_nodup (callers_sm h) fs_nodup
theorem tab_kdd {m : List Ca} : Kdd kdT (tabOf m) := fun q hq => by
  obtain ⟨k, _, e⟩ := List.mem_map.mp hq
  exact e ▸ FT_kind
theorem tk_len {l : List Nat} : (tk l).length = 2 * l.length := by
  induction l with
  | nil => rfl
  | cons u r ih => rw [tk_cons, List.length_cons, List.length_cons, ih, List.length_cons]; lia
theorem tab_len {m : List Ca} : (tabOf m).length ≤ 2 * m.length := by
  unfold tabOf mkK callers
  rw [List.length_map, tk_len]
  exact Nat.mul_le_mul_left 2 (Nat.le_trans fs_len (Nat.le_of_eq (List.length_map ..)))
theorem addTb_g {t s : Ti} : addTb iadd t s = s.foldl (gstep (addM iadd)) t := by
  unfold addTb
  refine congrArg (fun f => s.foldl f t) (funext fun d => funext fun q => ?_)
  unfold addStep gstep
  cases tget q.1 d <;> rfl
theorem tab_app {a b : List Ca} (ha : CsOk a) (hb : CsOk b) : addTb iadd (tabOf a) (tabOf b) = tabOf (a ++ b) := by
  have h := fold_mk (ad := addM iadd) (H := FT b) (F := FT a) (ks := tk (callers a)) (r := tk (callers b)) (tk_nodup (callers_sm ha) fs_nodup) (tk_nodup (callers_sm hb) fs_nodup)
  refine addTb_g.trans (Eq.trans h ?_)
  have e : tk (callers a) ++ fs (tk (callers a)) (tk (callers b)) = tk (callers (a ++ b)) := by
    rw [fs_tk (callers_sm ha) (callers_sm hb), ← tk_app]
    unfold callers
    rw [fs_two, List.map_append]
  rw [e]
  refine mkK_congr fun k hk => mem_tk hk (fun u hu ek => ?_) fun u hu ek => ?_
  · subst ek
    rw [FT_lk, FT_lk, FT_lk, cnt_app]
    by_cases qb : u ∈ callers b
    · rw [if_pos ((lk_tk (callers_sm hb)).mpr qb)]
      by_cases qa : u ∈ callers a
      · rw [if_pos ((lk_tk (callers_sm ha)).mpr qa)]
        exact congrArg Cm.one (Int.natCast_add ..).symm
      · rw [if_neg fun h => qa ((lk_tk (callers_sm ha)).mp h), cnt_no fun h => qa (mem_callers.mpr h), Nat.zero_add]
    · rw [if_neg fun h => qb ((lk_tk (callers_sm hb)).mp h), cnt_no (m := b) fun h => qb (mem_callers.mpr h), Nat.add_zero]
  · subst ek
    have hu5 := callers_sm (ha.app hb) u hu
    rw [FT_uk hu5, FT_uk hu5, FT_uk hu5, cnt_app, tms_app]
    by_cases qb : u ∈ callers b
    · rw [if_pos ((uk_tk hu5).mpr qb)]
      by_cases qa : u ∈ callers a
      · rw [if_pos ((uk_tk hu5).mpr qa)]
        exact congr (congrArg Cm.two ((Int.add_comm ..).trans (Int.natCast_add ..).symm)) (Int.add_comm ..)
      · rw [if_neg fun h => qa ((uk_tk hu5).mp h), cnt_no fun h => qa (mem_callers.mpr h), tms_no fun h => qa (mem_callers.mpr h), Nat.zero_add, Int.zero_add]
    · rw [if_neg fun h => qb ((uk_tk hu5).mp h), cnt_no (m := b) fun h => qb (mem_callers.mpr h), tms_no (m := b) fun h => qb (mem_callers.mpr h), Nat.add_zero, Int.add_zero]
structure Ei where
  a : Int
  b : Int
  c : Int
  d : Int
  t : Ti
noncomputable def adE (e f : Ei) : Ei := ⟨f.a + e.a, f.b + e.b, f.c + e.c, f.d + e.d, addTb iadd e.t f.t⟩
noncomputable def entOf (m : List Ca) : Ei := ⟨m.countP fun c => !(c.u == c.v), m.length, (m.map fun c => ((16 ^ c.u : Nat) : Int)).sum, (m.map (·.t)).sum, tabOf m⟩
theorem ent_app {a b : List Ca} (ha : CsOk a) (hb : CsOk b) : adE (entOf a) (entOf b) = entOf (a ++ b) := by
  unfold adE entOf
  rw [tab_app ha hb, List.countP_append, List.length_append, List.map_append, List.map_append, List.sum_append, List.sum_append]
  exact congr (congr (congr (congr (congrArg Ei.mk ((Int.add_comm ..).trans (Int.natCast_add ..).symm)) ((Int.add_comm ..).trans (Int.natCast_add ..).symm)) (Int.add_comm ..)) (Int.add_comm ..)) rfl
noncomputable def FB (cs : List Ca) (k : K) : Ei := entOf (cs.filter fun c => c.v == cu k - 97)
theorem FB_lk {cs : List Ca} {v : Nat} : FB cs (lk v) = entOf (cs.filter fun c => c.v == v) := by
  unfold FB
  rw [cu_lk, Nat.add_sub_cancel_left]
noncomputable def callees (cs : List Ca) : List Nat := fs [] (cs.map (·.v))
theorem mem_callees {m : List Ca} {u : Nat} : u ∈ callees m ↔ u ∈ m.map (·.v) := ⟨fun h => (fs_mem.mp h).1, fun h => fs_mem.mpr ⟨h, List.not_mem_nil⟩⟩
noncomputable def profOf (cs : List Ca) : At' Ei := mkK ((callees cs).map lk) (FB cs)
theorem lks_nodup {l : List Nat} (h : l.Nodup) : (l.map lk).Nodup := List.Pairwise.map _ (fun _ _ ne e => ne (lk_inj e)) h
theorem no_v {v : Nat} {m : List Ca} (h : v ∉ m.map (·.v)) : (m.filter fun c => c.v == v) = [] := List.filter_eq_nil_iff.mpr fun c hc e => h (List.mem_map.mpr ⟨c, hc, eq_of_beq e⟩)
theorem lk_map {v : Nat} {l : List Nat} : lk v ∈ l.map lk ↔ v ∈ l := ⟨fun h => by
  obtain ⟨w, hw, e⟩ := List.mem_map.mp h
  exact lk_inj e ▸ hw, List.mem_map_of_mem⟩
theorem prof_app {a b : List Ca} (ha : CsOk a) (hb : CsOk b) : (profOf b).foldl (gstep adE) (profOf a) = profOf (a ++ b) := by
  have h := fold_mk (ad := adE) (H := FB b) (F := FB a) (ks := (callees a).map lk) (r := (callees b).map lk) (lks_nodup fs_nodup) (lks_nodup fs_nodup)
  refine Eq.trans h ?_
  have e : (callees a).map lk ++ fs ((callees a).map lk) ((callees b).map lk) = (callees (a ++ b)).map lk := by
    rw [fs_map fun _ _ _ _ e => lk_inj e, ← List.map_append]
    unfold callees
    rw [fs_two, List.map_append]
  rw [e]
  refine mkK_congr fun k hk => ?_
  obtain ⟨v, hv, ek⟩ := List.mem_map.mp hk
  subst ek
  rw [FB_lk, FB_lk, FB_lk, List.filter_append]
  by_cases qb : v ∈ callees b
  · rw [if_pos (lk_map.mpr qb)]
    by_cases qa : v ∈ callees a
    · rw [if_pos (lk_map.mpr qa)]
      exact ent_app ha.filter hb.filter
    · rw [if_neg fun h => qa (lk_map.mp h), no_v fun h => qa (mem_callees.mpr h)]; rfl
  · rw [if_neg fun h => qb (lk_map.mp h), no_v (m := b) fun h => qb (mem_callees.mpr h), List.append_nil]
structure Sh1 (p : Prog) : Prop extends Sh p where
  f10 : p.fns[10]? = some fn10
  f11 : p.fns[11]? = some fn11
  f12 : p.fns[12]? = some fn12
  f13 : p.fns[13]? = some fn13
  f14 : p.fns[14]? = some fn14
  f15 : p.fns[15]? = some fn15
  f16 : p.fns[16]? = some fn16
  f17 : p.fns[17]? = some fn17
  f18 : p.fns[18]? = some fn18
theorem sh1 : Sh1 p1 := ⟨⟨rfl, rfl, rfl, rfl, rfl, rfl, rfl, rfl, rfl, rfl, rfl⟩, rfl, rfl, rfl, rfl, rfl, rfl, rfl, rfl, rfl⟩
theorem lt5 {P : Nat → Prop} (h0 : P 0) (h1 : P 1) (h2 : P 2) (h3 : P 3) (h4 : P 4) : ∀ {u : Nat}, u < 5 → P u := fun {u} h => by
  match u, h with
  | 0, _ => exact h0
  | 1, _ => exact h1
  | 2, _ => exact h2
  | 3, _ => exact h3
  | 4, _ => exact h4
theorem idx_ok {u : Nat} (h : u < 5) : idxV (.str "abcde") (.str (ls u)) = some (.int u) := lt5 (P := fun u => idxV (.str "abcde") (.str (ls u)) = some (.int u)) (by kernel_rfl) (by kernel_rfl) (by kernel_rfl) (by kernel_rfl) (by kernel_rfl) h
theorem upS_ok {u : Nat} (h : u < 5) : subV (.str "ABCDE") (.int u) = some (.str (us u)) := lt5 (P := fun u => subV (.str "ABCDE") (.int u) = some (.str (us u))) (by kernel_rfl) (by kernel_rfl) (by kernel_rfl) (by kernel_rfl) (by kernel_rfl) h
theorem lowS_ok {u : Nat} (h : u < 5) : subV (.str "abcde") (.int u) = some (.str (ls u)) := lt5 (P := fun u => subV (.str "abcde") (.int u) = some (.str (ls u))) (by kernel_rfl) (by kernel_rfl) (by kernel_rfl) (by kernel_rfl) (by kernel_rfl) h
theorem pow16_ok {u : Nat} (h : u < 5) : binI .Pow 16 (u : Int) = some (.int ((16 ^ u : Nat) : Int)) := lt5 (P := fun u => binI .Pow 16 (u : Int) = some (.int ((16 ^ u : Nat) : Int))) (by kernel_rfl) (by kernel_rfl) (by kernel_rfl) (by kernel_rfl) (by kernel_rfl) h
theorem ls_inj {u w : Nat} (h : ls u = ls w) : u = w := lk_inj (congrArg Sum.inl h)
theorem ls_beq {u w : Nat} : (ls u == ls w) = (u == w) := by
  by_cases h : u = w
  · subst h; rw [beq_self_eq_true, beq_self_eq_true]
  · rw [beq_no h, beq_no fun e => h (ls_inj e)]
theorem dget_map {β : Type} {f : β → V} (k : K) (t : At' β) : dget k (t.map fun q => (q.1, f q.2)) = (tget k t).map f := by
  induction t with
  | nil => rfl
  | cons p r ih =>
    by_cases h : k = p.1
    · rw [tget_hit h]; exact if_pos h
    · rw [tget_no h]; exact (if_neg h).trans ih
theorem dset_map {β : Type} {f : β → V} (k : K) (v : β) (t : At' β) : dset k (f v) (t.map fun q => (q.1, f q.2)) = (tset k v t).map fun q => (q.1, f q.2) := by
  induction t with
  | nil => rfl
  | cons p r ih =>
    by_cases h : k = p.1
    · rw [tset_hit h]; exact if_pos h
    · rw [tset_no h]; exact (if_neg h).trans (congrArg ((p.1, f p.2) :: ·) ih)
noncomputable def encE (g : Nat) (e : Ei) : V := .tup [.int e.a, .int e.b, .int e.c, .int e.d, .dict g (encT e.t)]
noncomputable def encB (g : Nat) (b : At' Ei) : List (K × V) := b.map fun q => (q.1, encE g q.2)
noncomputable def caV (c : Ca) : V := .tup [.str (ls c.u), .str (ls c.v), .int c.t]
theorem tab_one {c : Ca} (h : c.u < 5) : dsets [lk c.u, uk c.u] [.int 1, .tup [.int 1, .int c.t]] = encT (tabOf [c]) := by
  have e1 : callers [c] = [c.u] := rfl
  unfold tabOf
  rw [e1]
  unfold mkK encT tk
  show dsets _ _ = [encP (lk c.u, FT [c] (lk c.u)), encP (uk c.u, FT [c] (uk c.u))]
  rw [FT_lk, FT_uk h]
  have c1 : cnt c.u [c] = 1 := by simp [cnt]
  have t1 : tms c.u [c] = c.t := by simp [tms]
  rw [c1, t1]
  have ne : ¬ uk c.u = lk c.u := fun e => lk_uk h e.symm
  show (if uk c.u = lk c.u then _ else _) = _
  rw [if_neg ne]
  rfl
theorem ent_nil {m : List Ca} (h : CsOk m) : adE (entOf []) (entOf m) = entOf m := ent_app (a := []) (fun _ h => absurd h List.not_mem_nil) h
theorem prof_one {c : Ca} : profOf [c] = [(lk c.v, entOf [c])] := by
  have e1 : callees [c] = [c.v] := rfl
  unfold profOf
  rw [e1]
  show [(lk c.v, FB [c] (lk c.v))] = _
  have e2 : ([c].filter fun z => z.v == c.v) = [c] := by simp
  rw [FB_lk, e2]
theorem upd_eq {d : At' Ei} {k : K} {m : List Ca} (h : CsOk m) : tset k (adE ((tget k d).getD (entOf [])) (entOf m)) d = gstep adE d (k, entOf m) := by
  unfold gstep
  cases e : tget k d with
  | none => exact congrArg (fun z => tset k z d) (ent_nil h)
  | some a => rfl
noncomputable def EntOk (e : Ei) (n : Nat) : Prop := ((e.t.map (·.1)).Nodup ∧ Kdd kdT e.t) ∧ e.t.length ≤ 2 * n
theorem ent_ok {m : List Ca} {n : Nat} (h : CsOk m) (hn : m.length ≤ n) : EntOk (entOf m) n := ⟨⟨tab_keys h, tab_kdd⟩, Nat.le_trans tab_len (Nat.mul_le_mul_left 2 hn)⟩
theorem prof_ent {cs : List Ca} (h : CsOk cs) {n : Nat} (hn : cs.length ≤ n) {k : K} : EntOk ((tget k (profOf cs)).getD (entOf [])) n := by
  unfold profOf
  rw [tget_mk]
  split
  · exact ent_ok h.filter (Nat.le_trans (List.length_filter_le ..) hn)
  · exact ent_ok (fun _ h => absurd h List.not_mem_nil) (Nat.zero_le _)
section
variable {p : Prog} {g k : Nat}
theorem adE_ok (h : Sh p) {e f : Ei} {g1 g2 n : Nat} (he : EntOk e n) (hf : EntOk f n) (hn : n ≤ 100) : (run p g (k + 2)).call 0 [encE g1 e, encE g2 f] = some (encE g (adE e f)) :=
  add2_ok h he.1.1 he.1.2 hf.1.2 (Nat.le_trans (Nat.add_le_add he.2 hf.2) (by lia))
structure BS where
  done : List Ca
  last : Option Ca
noncomputable def seenV (g : Nat) (c : Ca) : V := .tup [.int (if c.u = c.v then 0 else 1), .int 1, .int ((16 ^ c.u : Nat) : Int), .int c.t, .dict g (encT (tabOf [c]))]
theorem seen_eq {c : Ca} : seenV g c = encE g (entOf [c]) := by
  unfold seenV encE entOf
  by_cases q : c.u = c.v
  · rw [if_pos q]; simp [q]
  · rw [if_neg q]; simp [q]
noncomputable def bkF (g : Nat) (cs : V) (x : BS) : Fr := [some (.v cs), some (.od g (encB g (profOf x.done))), oS (x.last.map fun c => .str (ls c.u)), oS (x.last.map fun c => .str (ls c.v)), oS (x.last.map fun c => .int c.t), oS (x.last.map fun c => .int c.u), oS (x.last.map (seenV g)), none]
noncomputable def bkS (x : BS) (c : Ca) : BS := ⟨x.done ++ [c], some c⟩
theorem prof_len {cs : List Ca} : (profOf cs).length ≤ cs.length := by
  unfold profOf mkK callees
  rw [List.length_map, List.length_map]
  exact Nat.le_trans fs_len (Nat.le_of_eq (List.length_map ..))
theorem encB_fit {b : At' Ei} (h : b.length ≤ 1000) : (encB g b).length + 1 ≤ big := by
  unfold encB
  rw [List.length_map]
  exact Nat.le_trans (Nat.succ_le_succ h) (by decide)
theorem bk_all (l : List Ca) : ∀ x : BS, (l.foldl bkS x).done = x.done ++ l := by
  induction l with
  | nil => exact fun x => (List.append_nil _).symm
  | cons c r ih =>
    intro x
    rw [List.foldl_cons, ih]
    show x.done ++ [c] ++ r = _
    rw [List.append_assoc]
    rfl
theorem book_ok (h : Sh1 p) {cs : List Ca} (hc : CsOk cs) (hl : cs.length ≤ 50) : (run p g (k + 3)).call 10 [.list (cs.map caV)] = some (.dict g (encB g (profOf cs))) := by
  rw [run_call, h.f10]
  dsimp only [fn10]
  walk_at "EV"
  rw [run_gen]
  refine mfor cs caV (bkF g (.list (cs.map caV))) bkS (fun rem x => x.done ++ rem = cs) ⟨[], none⟩ rfl rfl rfl (fun c r x hP => ⟨?_, ?_⟩) fun hx => ?_
  · obtain ⟨done, last⟩ := x
    have hcs : CsOk (done ++ c :: r) := hP ▸ hc
    have hd := hcs.l
    have ho : CaOk c := hcs.r c (List.mem_cons_self ..)
    have h1 : CsOk [c] := fun z hz => List.mem_singleton.mp hz ▸ ho
    have hdl : done.length ≤ 50 := Nat.le_trans (by rw [← hP, List.length_append]; exact Nat.le_add_right _ _) hl
    dsimp only [bkF, bkS, caV]
    walk_at "EV"
    rw [idx_ok ho.1]
    walk_at "EV"
    simp only [fz_oS]
    walk_at "EV"
    rw [ls_beq, pow16_ok ho.1, upS_ok ho.1]
    walk_at "EV"
    simp only [fz_oS]
    walk_at "EV"
    have eb : (bif c.u == c.v then some (V.int 0) else some (V.int 1)) = some (.int (if c.u = c.v then 0 else 1)) := by
      by_cases q : c.u = c.v
      · rw [q, beq_self_eq_true, if_pos rfl]; rfl
      · rw [beq_no q, if_neg q]; rfl
    rw [eb, run_gen, show dsets [Sum.inl (ls c.u), Sum.inl (us c.u)] [V.int 1, V.tup [V.int 1, V.int c.t]] = encT (tabOf [c]) from tab_one ho.1]
    walk_at "EV"
    rw [show dget (Sum.inl (ls c.v)) (encB g (profOf done)) = (tget (lk c.v) (profOf done)).map (encE g) from dget_map _ _]
    have ez : ∀ o : Option Ei, (o.map (encE g)).getD (.tup [.int 0, .int 0, .int 0, .int 0, .dict (run p g (k + 2)).gen (dsets [] [])]) = encE g (o.getD (entOf [])) := fun o => by
      rw [run_gen]
      cases o <;> rfl
    rw [ez, show V.tup [V.int (if c.u = c.v then 0 else 1), V.int 1, V.int ((16 ^ c.u : Nat) : Int), V.int c.t, V.dict g (encT (tabOf [c]))] = encE g (entOf [c]) from seen_eq]
    rw [adE_ok h.toSh (prof_ent hd hdl) (ent_ok (n := 50) h1 (show 1 ≤ 50 by decide)) (by decide)]
    walk_at "EV"
    rw [if_pos (encB_fit (Nat.le_trans prof_len (Nat.le_trans hdl (by decide))))]
    rw [show dset (Sum.inl (ls c.v)) _ (encB g (profOf done)) = encB g _ from dset_map (f := encE g) (lk c.v) (adE ((tget (lk c.v) (profOf done)).getD (entOf [])) (entOf [c])) (profOf done), upd_eq h1]
    have ep : gstep adE (profOf done) (lk c.v, entOf [c]) = profOf (done ++ [c]) := by
      rw [← prof_app hd h1, prof_one]
      rfl
    rw [ep, ← seen_eq]
    rfl
  · show x.done ++ [c] ++ r = cs
    rw [List.append_assoc]
    exact hP
  · have e := bk_all cs ⟨[], none⟩
    generalize cs.foldl bkS ⟨[], none⟩ = x at e
    obtain ⟨done, last⟩ := x
    have e : done = cs := e
    subst e
    dsimp only [bkF]
    walk_at "EV"
end
theorem tget_tset {β : Type} {k k' : K} {z : β} (h : k ≠ k') (t : At' β) : tget k (tset k' z t) = tget k t := by
  induction t with
  | nil => exact if_neg h
  | cons p r ih =>
    by_cases q : k' = p.1
    · rw [tset_hit q, tget_no (p := (p.1, z)) fun e => h (e.trans q.symm), tget_no fun e => h (e.trans q.symm)]
    · rw [tset_no q]
      by_cases q' : k = p.1
      · rw [tget_hit q', tget_hit q']
      · rw [tget_no q', tget_no q', ih]
structure AS where
  done : List Ca
  part : Option (List Ca)
  name : Option V
noncomputable def dV2 (g : Nat) (cs : List Ca) : V := .dict g (encB g (profOf cs))
noncomputable def adF (g g0 : Nat) (parts : V) (x : AS) : Fr := [some (.v parts), some (.od g (encB g (profOf x.done))), oS (x.part.map (dV2 g0)), oS x.name, none]
noncomputable def inF (g g0 : Nat) (parts : V) (cs : List Ca) (x : At' Ei × Option V) : Fr := [some (.v parts), some (.od g (encB g x.1)), some (.v (dV2 g0 cs)), oS x.2, none]
noncomputable def inS (cs : List Ca) (x : At' Ei × Option V) (v : Nat) : At' Ei × Option V := (gstep adE x.1 (lk v, FB cs (lk v)), some (.str (ls v)))
noncomputable def adS (x : AS) (cs : List Ca) : AS := ⟨x.done ++ cs, some cs, ((callees cs).foldl (inS cs) (profOf x.done, x.name)).2⟩
theorem in_all (cs : List Ca) (l : List Nat) : ∀ x : At' Ei × Option V, (l.foldl (inS cs) x).1 = ((l.map lk).map fun k => (k, FB cs k)).foldl (gstep adE) x.1 := by
  induction l with
  | nil => exact fun _ => rfl
  | cons v r ih => exact fun x => ih (inS cs x v)
theorem gstep_len {d : At' Ei} {q : K × Ei} : (gstep adE d q).length ≤ d.length + 1 := tset_len ..
theorem ad_all (l : List (List Ca)) : ∀ x : AS, (l.foldl adS x).done = x.done ++ l.flatten := by
  induction l with
  | nil => exact fun x => (List.append_nil _).symm
  | cons c r ih =>
    intro x
    rw [List.foldl_cons, ih]
    show x.done ++ c ++ r.flatten = _
    rw [List.append_assoc]
    rfl
theorem keys_V {g : Nat} {cs : List Ca} : itemsOf (dV2 g cs) = some ((callees cs).map fun v => .str (ls v)) := by
  show some ((encB g (profOf cs)).map _) = _
  unfold encB profOf mkK
  rw [List.map_map, List.map_map, List.map_map]
  rfl
section
variable {p : Prog} {g k : Nat}
theorem added_ok (h : Sh1 p) {g0 : Nat} {parts : List (List Ca)} (hc : CsOk parts.flatten) (hl : parts.flatten.length ≤ 50) : (run p g (k + 3)).call 11 [.list (parts.map (dV2 g0))] = some (.dict g (encB g (profOf parts.flatten))) := by
  rw [run_call, h.f11]
  dsimp only [fn11]
  walk_at "EV"
  rw [run_gen]
  refine mfor parts (dV2 g0) (adF g g0 (.list (parts.map (dV2 g0)))) adS (fun rem x => x.done ++ rem.flatten = parts.flatten) ⟨[], none, none⟩ rfl rfl rfl (fun cs r x hP => ⟨?_, ?_⟩) fun hx => ?_
  · obtain ⟨done, part, name⟩ := x
    have hP : done ++ (cs ++ r.flatten) = parts.flatten := hP
    have hcs : CsOk (done ++ (cs ++ r.flatten)) := hP ▸ hc
    have hd := hcs.l
    have hcc := hcs.r.l
    have hlen : done.length + cs.length ≤ 50 := by rw [← hP, List.length_append, List.length_append] at hl; lia
    dsimp only [adF]
    walk_at "EV"
    refine bfor (callees cs) (fun v => V.str (ls v)) (inF g g0 (.list (parts.map (dV2 g0))) cs) (inS cs) (fun rem x => (rem.Nodup ∧ ∀ v ∈ rem, v ∈ callees cs ∧ tget (lk v) x.1 = tget (lk v) (profOf done)) ∧ x.1.length + rem.length ≤ 100) (profOf done, name) ?_ ?_ ⟨⟨fs_nodup, fun v hv => ⟨hv, rfl⟩⟩, ?_⟩ (fun v r x hx => ⟨?_, ?_⟩) fun hx => ?_
    · walk_at "EV"
      exact keys_V
    · walk_at "EV"
      simp only [fz_oS]
      walk_at "EV"
      rfl
    · have h1 := prof_len (cs := done)
      have h2 : (callees cs).length ≤ cs.length := Nat.le_trans fs_len (Nat.le_of_eq (List.length_map ..))
      exact Nat.le_trans (Nat.add_le_add h1 h2) (Nat.le_trans hlen (by decide))
    · obtain ⟨d, nm⟩ := x
      obtain ⟨⟨hn, hv⟩, hle⟩ := hx
      obtain ⟨hvc, hv⟩ := hv v (List.mem_cons_self ..)
      have hv : tget (lk v) d = tget (lk v) (profOf done) := hv
      dsimp only [inF, inS]
      walk_at "EV"
      rw [run_gen, show dget (Sum.inl (ls v)) (encB g d) = (tget (lk v) d).map (encE g) from dget_map _ _, hv]
      have ez : ∀ o : Option Ei, (o.map (encE g)).getD (.tup [.int 0, .int 0, .int 0, .int 0, .dict g (dsets [] [])]) = encE g (o.getD (entOf [])) := fun o => by cases o <;> rfl
      have es : subV (dV2 g0 cs) (.str (ls v)) = some (encE g0 (FB cs (lk v))) := by
        show dget (lk v) (encB g0 (profOf cs)) = _
        unfold encB
        rw [dget_map]
        unfold profOf
        rw [tget_mk, if_pos (lk_map.mpr hvc)]
        rfl
      rw [ez, es]
      walk_at "EV"
      have h1 : CsOk (cs.filter fun c => c.v == v) := hcc.filter
      have hdl : done.length ≤ 50 := Nat.le_trans (Nat.le_add_right _ _) hlen
      have hfl : (cs.filter fun c => c.v == v).length ≤ 50 := Nat.le_trans (List.length_filter_le ..) (Nat.le_trans (Nat.le_add_left _ _) hlen)
      rw [FB_lk, adE_ok h.toSh (prof_ent hd hdl) (ent_ok h1 hfl) (by decide)]
      walk_at "EV"
      have hfit : d.length ≤ 1000 := Nat.le_trans (Nat.le_add_right _ _) (Nat.le_trans hle (by decide))
      rw [if_pos (encB_fit hfit)]
      rw [show dset (Sum.inl (ls v)) _ (encB g d) = encB g _ from dset_map (f := encE g) (lk v) (adE ((tget (lk v) (profOf done)).getD (entOf [])) (entOf (cs.filter fun c => c.v == v))) d, ← hv, upd_eq h1]
      rfl
    · obtain ⟨⟨hn, hv⟩, hle⟩ := hx
      have hn := List.nodup_cons.mp hn
      refine ⟨⟨hn.2, fun w hw => ⟨(hv w (List.mem_cons_of_mem _ hw)).1, ?_⟩⟩, ?_⟩
      · exact (tget_tset (fun e : lk w = lk v => hn.1 ((lk_inj e : w = v) ▸ hw)) _).trans (hv w (List.mem_cons_of_mem _ hw)).2
      · have := gstep_len (d := x.1) (q := (lk v, FB cs (lk v)))
        have hle : x.1.length + (r.length + 1) ≤ 100 := hle
        show (gstep adE x.1 (lk v, FB cs (lk v))).length + r.length ≤ 100
        lia
    · have e := in_all cs (callees cs) (profOf done, name)
      have e2 : ((callees cs).foldl (inS cs) (profOf done, name)).1 = profOf (done ++ cs) := e.trans (prof_app hd hcc)
      unfold adS
      dsimp only
      generalize (callees cs).foldl (inS cs) (profOf done, name) = z at e2
      obtain ⟨z1, z2⟩ := z
      have e2 : z1 = profOf (done ++ cs) := e2
      subst e2
      rfl
  · show x.done ++ cs ++ r.flatten = _
    rw [List.append_assoc]
    exact hP
  · have e := ad_all parts ⟨[], none, none⟩
    generalize parts.foldl adS ⟨[], none, none⟩ = x at e
    obtain ⟨done, part, name⟩ := x
    have e : done = parts.flatten := e
    subst e
    dsimp only [adF]
    walk_at "EV"
end
noncomputable def itemsV (t : Ti) : V := .list ((encT t).map fun p => .tup [vKey p.1, p.2])
noncomputable def lisV (v : Nat) (e : Ei) : V := .tup [.str (ls v), .tup [.int e.a, .int e.b, .int e.c, .int e.d], itemsV e.t]
noncomputable def entAt (cs : List Ca) (v : Nat) : Ei := entOf (cs.filter fun c => c.v == v)
noncomputable def lisP (cs : List Ca) : V := .list ((callees cs).map fun v => lisV v (entAt cs v))
theorem sub_prof {g : Nat} {cs : List Ca} {v : Nat} (hv : v ∈ callees cs) : dget (Sum.inl (ls v)) (encB g (profOf cs)) = some (encE g (entAt cs v)) := by
  show dget (lk v) (encB g (profOf cs)) = _
  unfold encB
  rw [dget_map]
  unfold profOf
  rw [tget_mk, if_pos (lk_map.mpr hv), FB_lk]
  rfl
theorem callees_len {cs : List Ca} : (callees cs).length ≤ cs.length := Nat.le_trans fs_len (Nat.le_of_eq (List.length_map ..))
theorem callers_len {cs : List Ca} : (callers cs).length ≤ cs.length := Nat.le_trans fs_len (Nat.le_of_eq (List.length_map ..))
section
variable {p : Prog} {g k : Nat}
theorem listed_ok (h : Sh1 p) {g0 : Nat} {cs : List Ca} (hl : cs.length ≤ 50) : (run p g (k + 1)).call 12 [.dict g0 (encB g0 (profOf cs))] = some (lisP cs) := by
  rw [run_call, h.f12]
  dsimp only [fn12]
  walk_at "EV"
  rw [lc_map (callees cs) (fun v => V.str (ls v)) (fun v => lisV v (entAt cs v)) ?_ (fun v hv => ?_) (Nat.le_trans callees_len (Nat.le_trans hl (by decide)))]
  · rfl
  · walk_at "EV"
    exact keys_V
  · walk_at "EV"
    rw [sub_prof hv]
    rfl
structure Enc {α : Type} [DecidableEq α] (e : α → V) : Prop where
  fl : ∀ x, flat (e x) = true
  eq : ∀ x y, eqN 16 (e y) (e x) = some (decide (y = x))
variable {α : Type} [DecidableEq α] {e : α → V}
theorem eqAll_ok (he : Enc e) (x : α) (l : List α) : eqAll (e x) (l.map e) = some (l.map fun y => decide (y = x)) := by
  induction l with
  | nil => rfl
  | cons y r ih =>
    rw [List.map_cons]
    unfold eqAll
    rw [he.fl y, he.eq x y, ih]
    rfl
theorem nin_ok (he : Enc e) {x : α} {l : List α} : ninV (e x) (.list (l.map e)) = some (.bool (!decide (x ∈ l))) := by
  show (eqAll (e x) (l.map e)).map _ = _
  rw [eqAll_ok he]
  refine congrArg (fun b => some (V.bool (!b))) ?_
  rw [List.any_map]
  induction l with
  | nil => rfl
  | cons y r ih =>
    rw [List.any_cons, ih]
    by_cases q : y = x
    · subst q; simp
    · have q' : ¬ x = y := fun e => q e.symm
      simp [q, q']
theorem count_ok (he : Enc e) {x : α} {l : List α} : countV (.list (l.map e)) (e x) = some (.int ((l.countP fun y => decide (y = x) : Nat) : Int)) := by
  show (eqAll (e x) (l.map e)).map _ = _
  rw [eqAll_ok he]
  refine congrArg (fun n : Nat => some (V.int n)) ?_
  rw [List.countP_map]
  rfl
noncomputable def en : Nat → List α → List (Nat × α)
  | _, [] => []
  | n, x :: r => (n, x) :: en (n + 1) r
omit [DecidableEq α] in
theorem en_V {l : List α} : ∀ {n : Nat}, enumL n (l.map e) = (en n l).map fun q => .tup [.int q.1, e q.2] := by
  induction l with
  | nil => exact rfl
  | cons x r ih => exact congrArg (_ :: ·) ih
theorem en_fs {l : List α} : ∀ {r pre : List α}, l = pre ++ r → ((en pre.length r).flatMap fun q => if q.2 ∈ l.take q.1 then [] else [e q.2]) = (fs pre r).map e := by
  intro r
  induction r with
  | nil => exact fun _ => rfl
  | cons x r ih =>
    intro pre hl
    show (if x ∈ l.take pre.length then [] else [e x]) ++ (en (pre.length + 1) r).flatMap _ = _
    have ht : l.take pre.length = pre := by rw [hl, List.take_left]
    have hi := ih (pre := pre ++ [x]) (by rw [hl, List.append_assoc]; rfl)
    rw [List.length_append, List.length_singleton] at hi
    rw [hi, ht]
    by_cases q : x ∈ pre
    · rw [if_pos q, fs_in q]; rfl
    · rw [if_neg q, fs_no q]; rfl
theorem firsts_ok (h : Sh1 p) (he : Enc e) {xs : List α} (hl : xs.length ≤ 1000) : (run p g (k + 1)).call 13 [.list (xs.map e)] = some (.list ((fs [] xs).map e)) := by
  rw [run_call, h.f13]
  dsimp only [fn13]
  walk_at "EV"
  have ef := en_fs (e := e) (l := xs) (r := xs) (pre := []) rfl
  rw [lc_run (en 0 xs) (fun q => V.tup [.int q.1, e q.2]) (fun q => if q.2 ∈ xs.take q.1 then [] else [e q.2]) ?hit (fun q _ => ?st) ?len]
  case hit =>
    walk_at "EV"
    exact congrArg some en_V
  case len =>
    rw [show ((en 0 xs).flatMap fun q => if q.2 ∈ xs.take q.1 then [] else [e q.2]) = (fs [] xs).map e from ef, List.length_map]
    exact Nat.le_trans fs_len (Nat.le_trans hl (by decide))
  case st =>
    obtain ⟨n, x⟩ := q
    walk_at "EV"
    rw [cutT_l, ← List.map_take]
    walk_at "EV"
    rw [nin_ok he]
    walk_at "EV"
    by_cases q : x ∈ xs.take n
    · rw [decide_eq_true q, if_pos q]; rfl
    · rw [decide_eq_false q, if_neg q]; rfl
  · rw [show ((en 0 xs).flatMap fun q => if q.2 ∈ xs.take q.1 then [] else [e q.2]) = (fs [] xs).map e from ef]
    rfl
end
noncomputable def lV (u : Nat) : V := .str (ls u)
theorem enc_l : Enc lV := ⟨fun _ => rfl, fun x y => by
  show some (ls y == ls x) = _
  rw [ls_beq]
  rfl⟩
noncomputable def pV (q : Nat × Nat) : V := .tup [.str (ls q.1), .str (ls q.2)]
theorem enc_p : Enc pV := ⟨fun _ => rfl, fun x y => by
  show some ((ls y.1 == ls x.1) && ((ls y.2 == ls x.2) && true)) = _
  rw [ls_beq, ls_beq, Bool.and_true]
  refine congrArg some ?_
  obtain ⟨a, b⟩ := x
  obtain ⟨c, d⟩ := y
  by_cases h : c = a
  · by_cases h' : d = b
    · subst h; subst h'; simp
    · simp [h, h']
  · simp [h]⟩
noncomputable def oL (x : Option (List V)) : Option Slot := x.map .ol
noncomputable def oLb (b : Bool) (x : Option (List V)) : Option Slot := x.map fun xs => bif b then .v (.list xs) else .ol xs
theorem fz_oL {x : Option (List V)} {l : List Nat} {i : Nat} {r : Fr} : frzAt l i (oL x :: r) = oLb (l.contains i) x :: frzAt l (i + 1) r := by
  cases x with
  | none => rfl
  | some xs => rfl
theorem oLb_f {x : Option (List V)} : oLb false x = oL x := rfl
theorem map_map_v {α β : Type} (f : β → V) (g : α → β) (l : List α) : l.map (fun x => f (g x)) = (l.map g).map f := by rw [List.map_map]; rfl
theorem intsOf_map (xs : List Int) : intsOf (xs.map .int) = some xs := by
  induction xs with
  | nil => rfl
  | cons x r ih =>
    rw [List.map_cons]
    show (intsOf (r.map .int)).map (x :: ·) = _
    rw [ih]; rfl
theorem sum_ints (xs : List Int) : sumV (.list (xs.map .int)) = some (.int xs.sum) := congrArg (Option.map fun ns : List Int => V.int ns.sum) (intsOf_map xs)
theorem sum_map {α : Type} {g : α → Int} {l : List α} : sumV (.list (l.map fun d => V.int (g d))) = some (.int (l.map g).sum) := (congrArg (fun z => sumV (.list z)) List.map_map.symm).trans (sum_ints _)
theorem flat_filter {α : Type} {c : α → Bool} {f : α → V} (xs : List α) : (xs.flatMap fun x => bif c x then [f x] else []) = (xs.filter c).map f := by
  induction xs with
  | nil => rfl
  | cons x r ih =>
    rw [List.flatMap_cons, ih]
    cases q : c x with
    | true => rw [List.filter_cons_of_pos q]; rfl
    | false => rw [List.filter_cons_of_neg (by rw [q]; exact Bool.false_ne_true)]; rfl
theorem lc_filt {α : Type} {c : Cx} {m : Fr} {elt : E} {t : Tg} {it : It} {ifs : Es} {cap : List (Nat × Nat)} {n : Nat} (xs : List α) (e : α → V) (p : α → Bool) (f : α → V) (hit : evIt c m it = some (xs.map e))
    (h : ∀ x ∈ xs, (((m.capture noF cap n).bindN t (e x)).bind fun m' => (evAnd c m' ifs).bind fun z => bif z then (ev c m' elt).map (fun v => [v]) else some []) = some (bif p x then [f x] else [])) (hl : xs.length ≤ big) : ev c m (.lcomp elt (.cons t it ifs .nil) cap n) = some (.list ((xs.filter p).map f)) := by
  rw [← flat_filter]
  refine lc_run xs e _ hit h ?_
  rw [flat_filter, List.length_map]
  exact Nat.le_trans (List.length_filter_le ..) hl
noncomputable def entryV (u : Nat) (m : List Ca) : List V := [.tup [lV u, .int (cnt u m)], .tup [.str (us u), .tup [.int (cnt u m), .int (tms u m)]]]
theorem tab_items {m : List Ca} (h : CsOk m) : itemsV (tabOf m) = .list ((callers m).flatMap fun u => entryV u m) := by
  unfold itemsV tabOf mkK encT tk
  refine congrArg V.list ?_
  have hs := callers_sm h
  generalize callers m = l at hs
  induction l with
  | nil => rfl
  | cons u r ih =>
    rw [List.flatMap_cons, List.flatMap_cons, ← ih fun w hw => hs w (List.mem_cons_of_mem _ hw)]
    simp only [List.map_append, List.map_cons, List.map_nil, encP, FT_lk, FT_uk (hs u (List.mem_cons_self ..))]
    rfl
structure CI2 where
  tb : List V
  o : Option V
  ti : Option (List V)
noncomputable def ciS (m : List Ca) (x : CI2) (u : Nat) : CI2 := ⟨x.tb ++ entryV u m, some (lV u), some ((m.filter fun c => c.u == u).map fun c => .int c.t)⟩
noncomputable def inC (calls : V) (told : List V) (v : Nat) (m : List Ca) (x : CI2) : Fr := [some (.v calls), some (.ol told), some (.v (lV v)), some (.v (.list (m.map caV))), some (.v (.list (m.map fun c => lV c.u))), some (.v (.list x.tb)), oS x.o, oL x.ti, none, none, none]
theorem ci_all (m : List Ca) (l : List Nat) : ∀ x : CI2, (l.foldl (ciS m) x).tb = x.tb ++ l.flatMap fun u => entryV u m := by
  induction l with
  | nil => exact fun x => (List.append_nil _).symm
  | cons u r ih =>
    intro x
    rw [List.foldl_cons, ih, List.flatMap_cons]
    show x.tb ++ entryV u m ++ _ = _
    rw [List.append_assoc]
structure CSt where
  told : List V
  n : Option V
  m : Option V
  c : Option V
  t : Option V
  o : Option V
  ti : Option (List V)
noncomputable def coF (calls : V) (x : CSt) : Fr := [some (.v calls), some (.ol x.told), oS x.n, oS x.m, oS x.c, oS x.t, oS x.o, oL x.ti, none, none, none]
noncomputable def mineOf (cs : List Ca) (v : Nat) : List Ca := cs.filter fun c => c.v == v
noncomputable def coS (cs : List Ca) (x : CSt) (v : Nat) : CSt :=
  let z := (callers (mineOf cs v)).foldl (ciS (mineOf cs v)) ⟨[], x.o, x.ti⟩
  ⟨x.told ++ [lisV v (entAt cs v)], some (lV v), some (.list ((mineOf cs v).map caV)), some (.list ((mineOf cs v).map fun c => lV c.u)), some (.list z.tb), z.o, z.ti⟩
theorem co_all (cs : List Ca) (l : List Nat) : ∀ x : CSt, (l.foldl (coS cs) x).told = x.told ++ l.map fun v => lisV v (entAt cs v) := by
  induction l with
  | nil => exact fun x => (List.append_nil _).symm
  | cons u r ih =>
    intro x
    rw [List.foldl_cons, ih, List.map_cons]
    show x.told ++ [_] ++ _ = _
    rw [List.append_assoc]
    rfl
theorem mine_len {cs : List Ca} {v : Nat} : (mineOf cs v).length ≤ cs.length := List.length_filter_le ..
theorem sub_int {a b : Nat} (h : b ≤ a) : ((a : Int) - b) = ((a - b : Nat) : Int) := (Int.natCast_sub h).symm
theorem others {v : Nat} {m : List Ca} (h : ∀ c ∈ m, c.v = v) : ((m.length : Int) - ((m.map (·.u)).countP fun y => decide (y = v) : Nat)) = ((m.countP fun c => !(c.u == c.v) : Nat) : Int) := by
  induction m with
  | nil => rfl
  | cons c r ih =>
    have ih := ih fun z hz => h z (List.mem_cons_of_mem _ hz)
    have hv := h c (List.mem_cons_self ..)
    rw [List.map_cons, List.countP_cons, List.countP_cons, List.length_cons, hv]
    by_cases q : c.u = v
    · rw [if_pos (decide_eq_true q), q, beq_self_eq_true]
      show _ = ((r.countP _ + 0 : Nat) : Int)
      lia
    · rw [if_neg (by rw [decide_eq_true_iff]; exact q), beq_no q]
      show _ = ((r.countP _ + 1 : Nat) : Int)
      lia
section
variable {p : Prog} {g k : Nat}
theorem counted_ok (h : Sh1 p) {cs : List Ca} (hc : CsOk cs) (hl : cs.length ≤ 50) : (run p g (k + 2)).call 14 [.list (cs.map caV)] = some (lisP cs) := by
  have hbig : cs.length ≤ big := Nat.le_trans hl (by decide)
  rw [run_call, h.f14]
  dsimp only [fn14]
  walk_at "EV"
  refine mfor (callees cs) lV (coF (.list (cs.map caV))) (coS cs) (fun rem x => (∀ v ∈ rem, v ∈ callees cs) ∧ x.told.length + rem.length ≤ 1000) ⟨[], none, none, none, none, none, none⟩ ?hit rfl ⟨fun v hv => hv, ?_⟩ (fun v r x hP => ⟨?st, ?_⟩) fun hx => ?fin
  case hit =>
    walk_at "EV"
    rw [lc_map cs caV (fun c => lV c.v) rfl (fun c _ => rfl) hbig]
    walk_at "EV"
    rw [map_map_v lV (fun c : Ca => c.v), firsts_ok h enc_l (by rw [List.length_map]; exact Nat.le_trans hl (by decide))]
    rfl
  · exact Nat.le_trans (Nat.le_of_eq (Nat.zero_add _)) (Nat.le_trans callees_len (Nat.le_trans hl (by decide)))
  case st =>
    obtain ⟨told, n0, m0, c0, t0, o0, ti0⟩ := x
    obtain ⟨hvs, hle⟩ := hP
    have hv := hvs v (List.mem_cons_self ..)
    have hle : told.length + (r.length + 1) ≤ 1000 := hle
    have hmb : (mineOf cs v).length ≤ big := Nat.le_trans mine_len hbig
    have hmc : CsOk (mineOf cs v) := hc.filter
    dsimp only [coF, coS, lV]
    walk_at "EV"
    simp only [fz_oS, fz_oL, cn_nil, cn_cons, Nat.reduceBEq, or_f, or_t, oLb_f]
    walk_at "EV"
    rw [lc_filt cs caV (fun c => c.v == v) caV rfl (fun c _ => ?m1) hbig]
    case m1 =>
      dsimp only [caV]
      walk_at "EV"
      rw [ls_beq]
      cases c.v == v <;> rfl
    walk_at "EV"
    simp only [fz_oS, fz_oL, cn_nil, cn_cons, Nat.reduceBEq, or_f, or_t, oLb_f]
    walk_at "EV"
    rw [show (cs.filter fun c => c.v == v).map caV = (mineOf cs v).map caV from rfl]
    rw [lc_map (mineOf cs v) caV (fun c => lV c.u) rfl (fun c _ => rfl) hmb]
    walk_at "EV"
    simp only [fz_oS, fz_oL, cn_nil, cn_cons, Nat.reduceBEq, or_f, or_t, oLb_f]
    walk_at "EV"
    refine bfor (callers (mineOf cs v)) lV (inC (.list (cs.map caV)) told v (mineOf cs v)) (ciS (mineOf cs v)) (fun rem x => (∀ u ∈ rem, u < 5) ∧ x.tb.length + 2 * rem.length ≤ 1000) ⟨[], o0, ti0⟩ ?hit2 ?frm ⟨callers_sm hmc, ?ln⟩ (fun u r2 x2 hx2 => ⟨?st2, ?nx2⟩) fun hx2 => ?fin2
    case hit2 =>
      walk_at "EV"
      rw [map_map_v lV (fun c : Ca => c.u), firsts_ok h enc_l (by rw [List.length_map]; exact Nat.le_trans mine_len (Nat.le_trans hl (by decide)))]
      rfl
    case frm =>
      walk_at "EV"
      simp only [fz_oS, fz_oL, cn_nil, cn_cons, Nat.reduceBEq, or_f, or_t, oLb_f]
      walk_at "EV"
      rfl
    case ln =>
      have := callers_len (cs := mineOf cs v)
      have := mine_len (cs := cs) (v := v)
      show 0 + 2 * (callers (mineOf cs v)).length ≤ 1000
      lia
    case st2 =>
      obtain ⟨tb, o1, ti1⟩ := x2
      obtain ⟨h5, hle2⟩ := hx2
      have hu := h5 u (List.mem_cons_self ..)
      have hle2 : tb.length + 2 * (r2.length + 1) ≤ 1000 := hle2
      dsimp only [inC, ciS, lV]
      walk_at "EV"
      simp only [fz_oS, fz_oL, cn_nil, cn_cons, Nat.reduceBEq, or_f, or_t, oLb_f]
      walk_at "EV"
      rw [lc_filt (mineOf cs v) caV (fun c => c.u == u) (fun c => V.int c.t) rfl (fun c _ => ?m2) hmb]
      case m2 =>
        dsimp only [caV]
        walk_at "EV"
        rw [ls_beq]
        cases c.u == u <;> rfl
      walk_at "EV"
      rw [idx_ok hu]
      walk_at "EV"
      rw [upS_ok hu]
      walk_at "EV"
      rw [sum_map]
      walk_at "EV"
      rw [list_add (by rw [big_eq]; show tb.length + 2 ≤ _; lia)]
      have el : ((mineOf cs v).filter fun c => c.u == u).length = cnt u (mineOf cs v) := List.countP_eq_length_filter.symm
      rw [List.length_map, el]
      rfl
    case nx2 =>
      obtain ⟨h5, hle2⟩ := hx2
      refine ⟨fun w hw => h5 w (List.mem_cons_of_mem _ hw), ?_⟩
      have hle2 : x2.tb.length + 2 * (r2.length + 1) ≤ 1000 := hle2
      show (x2.tb ++ entryV u (mineOf cs v)).length + 2 * r2.length ≤ 1000
      rw [List.length_append]
      show x2.tb.length + 2 + 2 * r2.length ≤ 1000
      lia
    case fin2 =>
      have ez := ci_all (mineOf cs v) (callers (mineOf cs v)) ⟨[], o0, ti0⟩
      generalize (callers (mineOf cs v)).foldl (ciS (mineOf cs v)) ⟨[], o0, ti0⟩ = z at ez
      obtain ⟨z1, z2, z3⟩ := z
      have ez : z1 = (callers (mineOf cs v)).flatMap fun u => entryV u (mineOf cs v) := ez
      have ez2 : itemsV (tabOf (mineOf cs v)) = .list z1 := ez ▸ tab_items hmc
      dsimp only [inC, lV]
      walk_at "EV"
      simp only [fz_oS, fz_oL, cn_nil, cn_cons, Nat.reduceBEq, or_f, or_t, oLb_f]
      walk_at "EV"
      rw [show countV (.list ((mineOf cs v).map fun c => V.str (ls c.u))) (.str (ls v)) = _ from (congrArg (fun z => countV (.list z) (lV v)) (map_map_v lV (fun c : Ca => c.u) (mineOf cs v))).trans (count_ok enc_l)]
      walk_at "EV"
      rw [lc_map (mineOf cs v) (fun c => lV c.u) (fun c => V.int ((16 ^ c.u : Nat) : Int)) rfl (fun c hcm => ?m3) hmb]
      case m3 =>
        dsimp only [lV]
        walk_at "EV"
        rw [idx_ok (hmc c hcm).1]
        walk_at "EV"
        rw [pow16_ok (hmc c hcm).1]
      walk_at "EV"
      rw [sum_map]
      walk_at "EV"
      rw [lc_map (mineOf cs v) caV (fun c => V.int c.t) rfl (fun c _ => rfl) hmb]
      walk_at "EV"
      rw [sum_map]
      walk_at "EV"
      rw [if_pos (show told.length + 1 ≤ big by rw [big_eq]; lia)]
      have ho : ∀ c ∈ mineOf cs v, c.v = v := fun c hcm => eq_of_beq (List.mem_filter.mp hcm).2
      rw [List.length_map, others ho, ← ez2, oLb_f]
      rfl
  · obtain ⟨hvs, hle⟩ := hP
    refine ⟨fun w hw => hvs w (List.mem_cons_of_mem _ hw), ?_⟩
    have hle : x.told.length + (r.length + 1) ≤ 1000 := hle
    show (x.told ++ [_]).length + r.length ≤ 1000
    rw [List.length_append, List.length_singleton]
    lia
  case fin =>
    have ez := co_all cs (callees cs) ⟨[], none, none, none, none, none, none⟩
    generalize (callees cs).foldl (coS cs) ⟨[], none, none, none, none, none, none⟩ = z at ez
    obtain ⟨z1, z2, z3, z4, z5, z6, z7⟩ := z
    have ez : z1 = (callees cs).map fun v => lisV v (entAt cs v) := ez
    subst ez
    dsimp only [coF]
    walk_at "EV"
    rfl
end
noncomputable def okV : Nat → V → Prop
  | 0, _ => False
  | n + 1, v => match v with
    | .int _ => True
    | .str _ => True
    | .tup xs => ∀ x ∈ xs, okV n x
    | .list xs => ∀ x ∈ xs, okV n x
    | _ => False
theorem eqL_self {f : V → V → Option Bool} {xs : List V} : (∀ x ∈ xs, f x x = some true) → eqL f xs xs = some true := by
  induction xs with
  | nil => exact fun _ => rfl
  | cons x r ih =>
    intro h
    show (f x x).bind _ = _
    rw [h x (List.mem_cons_self ..)]
    exact congrArg (Option.map (true && ·)) (ih fun y hy => h y (List.mem_cons_of_mem _ hy))
theorem eqN_self {n : Nat} : ∀ {v : V}, okV n v → eqN n v v = some true := by
  induction n with
  | zero => exact fun h => h.elim
  | succ n ih =>
    intro v h
    cases v with
    | int i => exact congrArg some (beq_self_eq_true i)
    | str i => exact congrArg some (beq_self_eq_true i)
    | tup xs => exact eqL_self fun x hx => ih (h x hx)
    | list xs =>
      show (bif xs.length == xs.length then eqL (eqN n) xs xs else some false) = _
      rw [beq_self_eq_true]
      exact eqL_self fun x hx => ih (h x hx)
    | _ => exact h.elim
theorem ne_self {v : V} (h : okV 16 v) : cmpV .NotEq v v = some (.bool false) := congrArg (Option.map fun c => V.bool (!c)) (eqN_self h)
theorem eq_self' {v : V} (h : okV 16 v) : cmpV .Eq v v = some (.bool true) := congrArg (Option.map V.bool) (eqN_self h)
theorem okV_ints {n : Nat} {xs : List Int} : ∀ x ∈ xs.map V.int, okV (n + 1) x := fun x hx => by
  obtain ⟨i, _, e⟩ := List.mem_map.mp hx
  subst e
  trivial
theorem okV_two {n : Nat} {x y : V} (h : okV n x) (h' : okV n y) : okV (n + 1) (.tup [x, y]) := fun z hz => (List.mem_cons.mp hz).elim (fun e => e ▸ h) fun hz => List.mem_singleton.mp hz ▸ h'
theorem dset_new (k : K) (v : V) (t : List (K × V)) : k ∉ t.map (·.1) → dset k v t = t ++ [(k, v)] := by
  induction t with
  | nil => exact fun _ => rfl
  | cons p r ih => exact fun h => (if_neg fun (e : k = p.1) => h (List.mem_cons.mpr (.inl e))).trans (congrArg (p :: ·) (ih fun m => h (List.mem_cons_of_mem _ m)))
theorem foldD_new {l : List (K × V)} : ∀ {d : List (K × V)}, (l.map (·.1)).Nodup → (∀ x ∈ l, x.1 ∉ d.map (·.1)) → l.foldl (fun d p => dset p.1 p.2 d) d = d ++ l := by
  induction l with
  | nil => exact fun _ _ => (List.append_nil _).symm
  | cons q r ih =>
    intro d hn hd
    have hn := List.nodup_cons.mp hn
    rw [List.foldl_cons, dset_new _ _ _ (hd q (List.mem_cons_self ..)), ih hn.2 fun z hz hm => ?_, List.append_assoc]
    · rfl
    · rw [List.map_append] at hm
      exact (List.mem_append.mp hm).elim (hd z (List.mem_cons_of_mem _ hz)) fun hm => hn.1 (List.mem_map.mpr ⟨z, hz, List.mem_singleton.mp hm⟩)
theorem pairs_map {α : Type} {kf : α → K} {vf : α → V} (l : List α) : pairsOf (l.map fun x => V.tup [vKey (kf x), vf x]) = some (l.map fun x => (kf x, vf x)) := by
  induction l with
  | nil => rfl
  | cons x r ih =>
    show (pairOf (.tup [vKey (kf x), vf x])).bind _ = _
    rw [show pairOf (.tup [vKey (kf x), vf x]) = some (kf x, vf x) from congrArg (Option.map fun q => (q, vf x)) (kv_vk (kf x))]
    exact congrArg (Option.map ((kf x, vf x) :: ·)) ih
theorem dc_filt {α : Type} {c : Cx} {m : Fr} {ke ve : E} {t : Tg} {it : It} {ifs : Es} {cap : List (Nat × Nat)} {n : Nat} (xs : List α) (e : α → V) (p : α → Bool) (kf : α → K) (vf : α → V) (hit : evIt c m it = some (xs.map e))
    (h : ∀ x ∈ xs, (((m.capture noF cap n).bindN t (e x)).bind fun m' => (evAnd c m' ifs).bind fun z => bif z then (ev c m' ke).bind fun kk => (keyV kk).bind fun _ => (ev c m' ve).map fun vv => [V.tup [kk, vv]] else some []) = some (bif p x then [.tup [vKey (kf x), vf x]] else [])) (hn : (xs.map kf).Nodup) (hl : xs.length ≤ big) :
    ev c m (.dcomp ke ve (.cons t it ifs .nil) cap n) = some (.dict c.gen ((xs.filter p).map fun x => (kf x, vf x))) := by
  show ((evIt c m it).bind (fm _)).bind _ = _
  rw [hit, Option.bind_some, fm_mapF h, flat_filter (f := fun x => V.tup [vKey (kf x), vf x]), Option.bind_some, if_pos (by rw [List.length_map]; exact Nat.le_trans (List.length_filter_le ..) hl), pairs_map]
  refine congrArg (fun d => some (V.dict c.gen d)) ((foldD_new ?_ fun _ _ => List.not_mem_nil).trans (List.nil_append _))
  rw [List.map_map]
  exact (List.filter_sublist.map kf).nodup hn
noncomputable def prodI (ns : List Int) : Int := ns.foldl (· * ·) 1
theorem itm_rng1 {n : Nat} (h : n + 1 ≤ big) : itemsOf (.rng 1 (n + 1 : Nat)) = some ((List.range n).map fun (k : Nat) => V.int ((k + 1 : Nat) : Int)) := by
  have e : rngList 1 ((n + 1 : Nat) : Int) = (List.range n).map fun (k : Nat) => V.int ((k + 1 : Nat) : Int) := by
    unfold rngList
    rw [show (((n + 1 : Nat) : Int) - 1).toNat = n by lia]
    exact congrArg (fun f => (List.range n).map f) (funext fun k => congrArg V.int (by lia))
  refine (if_pos ⟨?_, by decide, ?_⟩).trans (congrArg some e)
  · lia
  · show n + 1 ≤ big
    exact h
section
variable {p : Prog} {g k : Nat}
theorem product_ok (h : Sh1 p) {v : V} {ns : List Int} (hit : itemsOf v = some (ns.map .int)) (hb : (ns.map bits).sum ≤ 1000) : (run p g (k + 1)).call 16 [v] = some (.int (prodI ns)) := by
  rw [run_call, h.f16]
  dsimp only [fn16]
  walk_at "EV"
  refine mfor ns V.int (fun (x : Int × Option V) => [some (.v v), some (.v (.int x.1)), oS x.2]) (fun x n => (x.1 * n, some (.int n))) (fun rem x => bits x.1 + (rem.map bits).sum ≤ 1001) (1, none) ?_ rfl ?_ (fun n r x hP => ⟨?_, ?_⟩) fun k2 => ?_
  · walk_at "EV"
    exact hit
  · show bits 1 + _ ≤ 1001
    have : bits 1 = 1 := by decide
    lia
  · obtain ⟨x1, x2⟩ := x
    have hP : bits x1 + (bits n + (r.map bits).sum) ≤ 1001 := hP
    dsimp only
    walk_at "EV"
    rw [mul_ok (by rw [big_eq]; lia)]
    rfl
  · have hP : bits x.1 + (bits n + (r.map bits).sum) ≤ 1001 := hP
    have := bits_mul (a := x.1) (b := n) (Nat.le_refl _) (Nat.le_refl _)
    show bits (x.1 * n) + (r.map bits).sum ≤ 1001
    lia
  have e : ∀ (l : List Int) (x : Int × Option V), (l.foldl (fun x n => (x.1 * n, some (V.int n))) x).1 = l.foldl (· * ·) x.1 := fun l => by
    induction l with
    | nil => exact fun _ => rfl
    | cons n r ih => exact fun x => ih _
  have e := e ns (1, none)
  generalize ns.foldl (fun x n => (x.1 * n, some (V.int n))) (1, none) = z at e
  obtain ⟨z1, z2⟩ := z
  have e : z1 = prodI ns := e
  subst e
  walk_at "EV"
end
theorem natDigs_val {w : Nat} {cs : List Nat} : (∀ d ∈ cs, d < 2 ^ w) → natDigs w cs.length (valN w cs) = cs := by
  induction cs with
  | nil => exact fun _ => rfl
  | cons d r ih =>
    intro h
    have hd := h d (List.mem_cons_self ..)
    show natDigs w (r.length + 1) (d + 2 ^ w * valN w r) = _
    rw [natDigs_succ, Nat.add_mul_mod_self_left, Nat.mod_eq_of_lt hd, Nat.add_mul_div_left _ _ (Nat.two_pow_pos w), Nat.div_eq_of_lt hd, Nat.zero_add, ih fun x hx => h x (List.mem_cons_of_mem _ hx)]
theorem maxI_ok {l : List Int} (hl : l ≠ []) : ∃ h, maxI l = some h ∧ h ∈ l ∧ ∀ x ∈ l, x ≤ h := by
  cases l with
  | nil => exact absurd rfl hl
  | cons x r =>
    have key : ∀ (r : List Int) (x : Int), (r.foldl max x = x ∨ r.foldl max x ∈ r) ∧ x ≤ r.foldl max x ∧ ∀ y ∈ r, y ≤ r.foldl max x := fun r => by
      induction r with
      | nil => exact fun x => ⟨.inl rfl, Int.le_refl _, fun y h => absurd h List.not_mem_nil⟩
      | cons a r ih =>
        intro x
        obtain ⟨h1, h2, h3⟩ := ih (max x a)
        rw [List.foldl_cons]
        refine ⟨?_, Int.le_trans (Int.le_max_left ..) h2, fun y hy => (List.mem_cons.mp hy).elim (fun e => by rw [e]; exact Int.le_trans (Int.le_max_right ..) h2) (h3 y)⟩
        rcases h1 with h1 | h1
        · rcases Int.le_total x a with q | q
          · rw [Int.max_eq_right q] at h1
            exact .inr (List.mem_cons.mpr (.inl (by rw [Int.max_eq_right q]; exact h1)))
          · rw [Int.max_eq_left q] at h1
            exact .inl (by rw [Int.max_eq_left q]; exact h1)
        · exact .inr (List.mem_cons_of_mem _ h1)
    obtain ⟨h1, h2, h3⟩ := key r x
    exact ⟨_, rfl, h1.elim (fun e => List.mem_cons.mpr (.inl e)) fun h => List.mem_cons_of_mem _ h, fun y hy => (List.mem_cons.mp hy).elim (fun e => by rw [e]; exact h2) (h3 y)⟩
noncomputable def cN (m : List Ca) : List Nat := (List.range 5).map fun u => cnt u m
noncomputable def sN (m : List Ca) : Nat := (m.map fun c => 16 ^ c.u).sum
theorem sN_val {m : List Ca} (h : CsOk m) : sN m = valN 4 (cN m) := by
  induction m with
  | nil => rfl
  | cons c r ih =>
    have e : sN (c :: r) = 16 ^ c.u + sN r := rfl
    rw [e, ih fun z hz => h z (List.mem_cons_of_mem _ hz)]
    have hu := (h c (List.mem_cons_self ..)).1
    have hc : ∀ u, cnt u (c :: r) = cnt u r + if c.u == u then 1 else 0 := fun u => List.countP_cons
    show _ = cnt 0 (c :: r) + 16 * (cnt 1 (c :: r) + 16 * (cnt 2 (c :: r) + 16 * (cnt 3 (c :: r) + 16 * (cnt 4 (c :: r) + 16 * 0))))
    rw [hc 0, hc 1, hc 2, hc 3, hc 4]
    show _ + (cnt 0 r + 16 * (cnt 1 r + 16 * (cnt 2 r + 16 * (cnt 3 r + 16 * (cnt 4 r + 16 * 0))))) = _
    generalize c.u = u at hu ⊢
    generalize cnt 0 r = a0
    generalize cnt 1 r = a1
    generalize cnt 2 r = a2
    generalize cnt 3 r = a3
    generalize cnt 4 r = a4
    refine lt5 (P := fun u => 16 ^ u + (a0 + 16 * (a1 + 16 * (a2 + 16 * (a3 + 16 * (a4 + 16 * 0))))) = a0 + (if u == 0 then 1 else 0) + 16 * (a1 + (if u == 1 then 1 else 0) + 16 * (a2 + (if u == 2 then 1 else 0) + 16 * (a3 + (if u == 3 then 1 else 0) + 16 * (a4 + (if u == 4 then 1 else 0) + 16 * 0))))) ?_ ?_ ?_ ?_ ?_ hu <;> simp <;> lia
theorem valN_zero {w : Nat} {l : List Nat} : (∀ d ∈ l, d = 0) → valN w l = 0 := by
  induction l with
  | nil => exact fun _ => rfl
  | cons d r ih =>
    intro h
    show d + 2 ^ w * valN w r = 0
    rw [h d (List.mem_cons_self ..), ih fun x hx => h x (List.mem_cons_of_mem _ hx), Nat.mul_zero]
theorem valN_top {w : Nat} {l : List Nat} {d : Nat} (hd : 1 ≤ d) : 2 ^ (w * l.length) ≤ valN w (l ++ [d]) := by
  rw [valN_append]
  refine Nat.le_trans ?_ (Nat.le_add_left ..)
  show _ ≤ 2 ^ (w * l.length) * (d + 2 ^ w * 0)
  rw [Nat.mul_zero, Nat.add_zero]
  exact Nat.le_mul_of_pos_right _ hd
theorem bits_ge {a n : Nat} (h : 2 ^ n ≤ a) : n < bits (a : Int) := by
  rcases Nat.lt_or_ge n (bits (a : Int)) with q | q
  · exact q
  · have := lt_of_bits q
    rw [Int.natAbs_natCast] at this
    lia
structure Top (m : List Ca) (K : Nat) : Prop where
  lt : K < 5
  pos : 1 ≤ cnt K m
  zero : ∀ u, K < u → u < 5 → cnt u m = 0
theorem top_len {m : List Ca} {K : Nat} (h : CsOk m) (t : Top m K) (h9 : m.length ≤ 9) : (bits (sN m : Int) + 4 - 1) / 4 = K + 1 ∧ natDigs 4 (K + 1) (sN m) = (cN m).take (K + 1) ∧ bits (sN m : Int) ≤ 20 := by
  have lt16 : ∀ d ∈ cN m, d < 2 ^ 4 := fun d hd => by
    obtain ⟨u, _, e⟩ := List.mem_map.mp hd
    have : cnt u m ≤ m.length := List.countP_le_length
    lia
  have split : cN m = (cN m).take (K + 1) ++ (cN m).drop (K + 1) := (List.take_append_drop ..).symm
  have hlen : (cN m).length = 5 := by unfold cN; rw [List.length_map, List.length_range]
  have hK := t.lt
  have z : ∀ d ∈ (cN m).drop (K + 1), d = 0 := fun d hd => by
    obtain ⟨i, hi⟩ := List.mem_iff_getElem?.mp hd
    rw [List.getElem?_drop] at hi
    have hi5 : K + 1 + i < 5 := hlen ▸ (List.getElem?_eq_some_iff.mp hi).1
    unfold cN at hi
    rw [List.getElem?_map, List.getElem?_range hi5] at hi
    exact (Option.some.inj hi).symm.trans (t.zero _ (by lia) hi5)
  have ev : sN m = valN 4 ((cN m).take (K + 1)) := by
    rw [sN_val h]
    conv => lhs; rw [split]
    rw [valN_append, valN_zero z, Nat.mul_zero, Nat.add_zero]
  have tl : ((cN m).take (K + 1)).length = K + 1 := by rw [List.length_take, hlen]; lia
  have lt1 : ∀ d ∈ (cN m).take (K + 1), d < 2 ^ 4 := fun d hd => lt16 d (List.mem_of_mem_take hd)
  have up := valN_lt lt1
  rw [tl, ← ev] at up
  have lo : 2 ^ (4 * K) ≤ sN m := by
    have e : (cN m).take (K + 1) = (cN m).take K ++ [cnt K m] := by
      rw [List.take_add_one]
      unfold cN
      rw [List.getElem?_map, List.getElem?_range hK]
      rfl
    have q := valN_top (w := 4) (l := (cN m).take K) t.pos
    rw [← e, ← ev, List.length_take, hlen, Nat.min_eq_left (by lia)] at q
    exact q
  have b1 := bits_ge lo
  have b2 : bits (sN m : Int) ≤ 4 * (K + 1) := bits_le (by rw [Int.natAbs_natCast]; exact up)
  refine ⟨by lia, ?_, by lia⟩
  have q := natDigs_val lt1
  rw [tl, ← ev] at q
  exact q
theorem sum_sN {m : List Ca} : (m.map fun c => ((16 ^ c.u : Nat) : Int)).sum = (sN m : Int) := by
  induction m with
  | nil => rfl
  | cons c r ih =>
    rw [List.map_cons, List.sum_cons, ih]
    exact (Int.natCast_add ..).symm
theorem dget_tab {m : List Ca} (h : CsOk m) {u : Nat} : (dget (Sum.inl (ls u)) (encT (tabOf m))).getD (.int 0) = .int (cnt u m) := by
  rw [show dget (Sum.inl (ls u)) (encT (tabOf m)) = (tget (lk u) (tabOf m)).map encM from dget_encT _ _]
  unfold tabOf
  rw [tget_mk]
  by_cases q : u ∈ callers m
  · rw [if_pos ((lk_tk (callers_sm h)).mpr q), FT_lk]; rfl
  · rw [if_neg fun z => q ((lk_tk (callers_sm h)).mp z), cnt_no fun z => q (mem_callers.mpr z)]; rfl
theorem ins_l {u : Nat} (h : u < 5) : insV (.str (ls u)) (.str "abcde") = some (.bool true) := lt5 (P := fun u => insV (.str (ls u)) (.str "abcde") = some (.bool true)) (by kernel_rfl) (by kernel_rfl) (by kernel_rfl) (by kernel_rfl) (by kernel_rfl) h
theorem ins_u {u : Nat} (h : u < 5) : insV (.str (us u)) (.str "abcde") = some (.bool false) := lt5 (P := fun u => insV (.str (us u)) (.str "abcde") = some (.bool false)) (by kernel_rfl) (by kernel_rfl) (by kernel_rfl) (by kernel_rfl) (by kernel_rfl) h
noncomputable def low (k : K) : Bool := decide (97 ≤ cu k)
theorem ins_key {k : K} {l : List Nat} (hl : Sm l) (hk : k ∈ tk l) : insV (vKey k) (.str "abcde") = some (.bool (low k)) := mem_tk hk (fun u hu e => by
  subst e
  rw [show low (lk u) = true from decide_eq_true (Nat.le_add_right ..)]
  exact ins_l (hl u hu)) fun u hu e => by
  subst e
  have := hl u hu
  rw [show low (uk u) = false from decide_eq_false (by rw [cu_uk]; lia)]
  exact ins_u this
theorem low_tk {l : List Nat} (hl : Sm l) : (tk l).filter low = l.map lk := by
  induction l with
  | nil => rfl
  | cons u r ih =>
    have := hl u (List.mem_cons_self ..)
    rw [tk_cons, List.filter_cons_of_pos (show low (lk u) = true from decide_eq_true (Nat.le_add_right ..)), List.filter_cons_of_neg (by rw [show low (uk u) = false from decide_eq_false (by rw [cu_uk]; lia)]; exact Bool.false_ne_true), ih fun w hw => hl w (List.mem_cons_of_mem _ hw)]
    rfl
theorem sum_cnt {l : List Nat} (hn : l.Nodup) {m : List Ca} : (∀ c ∈ m, c.u ∈ l) → (l.map fun u => cnt u m).sum = m.length := by
  induction m with
  | nil =>
    intro _
    clear hn
    have z : ∀ l : List Nat, (l.map fun u => cnt u []).sum = 0 := fun l => by
      induction l with
      | nil => rfl
      | cons u r ih => rw [List.map_cons, List.sum_cons, ih]; rfl
    exact z l
  | cons c r ih =>
    intro h
    rw [List.length_cons, ← ih fun z hz => h z (List.mem_cons_of_mem _ hz)]
    have hc := h c (List.mem_cons_self ..)
    clear ih h
    induction l with
    | nil => exact absurd hc List.not_mem_nil
    | cons u l ih =>
      have hn := List.nodup_cons.mp hn
      rw [List.map_cons, List.sum_cons, List.map_cons, List.sum_cons]
      have e : ∀ u, cnt u (c :: r) = cnt u r + if c.u == u then 1 else 0 := fun u => List.countP_cons
      rcases List.mem_cons.mp hc with q | q
      · rw [e u, if_pos (by rw [q]; exact beq_self_eq_true u)]
        have e2 : l.map (fun u => cnt u (c :: r)) = l.map fun u => cnt u r := List.map_congr_left fun w hw => by
          rw [e w, if_neg (fun z => hn.1 (q ▸ (eq_of_beq z : c.u = w).symm ▸ hw)), Nat.add_zero]
        rw [e2]
        lia
      · rw [e u, if_neg (fun z => hn.1 ((eq_of_beq z : c.u = u) ▸ q)), ih hn.2 q]
        lia
theorem abc_ok : itemsOf (.str "abcde") = some ((List.range 5).map lV) := by kernel_rfl
theorem cN_V {m : List Ca} : ((List.range 5).map fun u => V.int (cnt u m)) = dV (cN m) := by
  unfold dV cN
  rw [List.map_map]
  rfl
theorem top_of {m : List Ca} (h : CsOk m) (h1 : 1 ≤ m.length) : ∃ K, Top m K ∧ maxV (.list (((List.range 5).filter fun k => decide (0 < cnt k m)).map fun (k : Nat) => V.int ((k : Int) + 1))) = some (.int ((K + 1 : Nat) : Int)) := by
  have hne : ((List.range 5).filter fun k => decide (0 < cnt k m)).map (fun k : Nat => ((k : Int) + 1)) ≠ [] := fun e => by
    cases m with
    | nil => exact absurd h1 (Nat.not_succ_le_zero 0)
    | cons c r =>
      have hc : c.u ∈ (List.range 5).filter fun k => decide (0 < cnt k (c :: r)) := List.mem_filter.mpr ⟨List.mem_range.mpr (h c (List.mem_cons_self ..)).1, decide_eq_true (List.countP_pos_iff.mpr ⟨c, List.mem_cons_self .., beq_self_eq_true _⟩)⟩
      rw [List.map_eq_nil_iff] at e
      rw [e] at hc
      exact absurd hc List.not_mem_nil
  obtain ⟨hm, e1, e2, e3⟩ := maxI_ok hne
  obtain ⟨K, hK, eK⟩ := List.mem_map.mp e2
  obtain ⟨q1, q2⟩ := List.mem_filter.mp hK
  refine ⟨K, ⟨List.mem_range.mp q1, of_decide_eq_true q2, fun u hu h5 => ?_⟩, ?_⟩
  · rcases Nat.eq_zero_or_pos (cnt u m) with q | q
    · exact q
    · have := e3 ((u : Int) + 1) (List.mem_map.mpr ⟨u, List.mem_filter.mpr ⟨List.mem_range.mpr h5, decide_eq_true q⟩, rfl⟩)
      lia
  · show (intsOf _).bind _ = _
    rw [map_map_v V.int (fun k : Nat => ((k : Int) + 1)), intsOf_map, Option.bind_some, e1, ← eK]
    rfl
section
variable {p : Prog} {g k : Nat}
theorem told_ok (h : Sh1 p) {g0 : Nat} {m : List Ca} (hm : CsOk m) (h1 : 1 ≤ m.length) (h9 : m.length ≤ 9) (hd : bits (m.map (·.t)).sum ≤ 2 ^ 21) (hk : 21 ≤ k) : (run p g (k + 8)).call 18 [encE g0 (entOf m)] = some (.bool true) := by
  obtain ⟨K, tK, eK⟩ := top_of hm h1
  obtain ⟨t1, t2, t3⟩ := top_len hm tK h9
  have hb : (m.length : Int) ≠ 0 := by lia
  have hb' : ((m.length : Int)).natAbs < 1073741824 := by rw [Int.natAbs_natCast]; lia
  have hS : (entOf m).c = (sN m : Int) := sum_sN
  generalize hD : (m.map (·.t)).sum = D at hd
  have hDd : (entOf m).d = D := hD
  rw [run_call, h.f18]
  dsimp only [fn18, encE]
  walk_at "EV"
  rw [lc_map (List.range 5) lV (fun u => V.int (cnt u m)) ?hit (fun u hu => ?st) (by decide)]
  case hit =>
    walk_at "EV"
    exact abc_ok
  case st =>
    dsimp only [lV]
    walk_at "EV"
    exact congrArg some (dget_tab hm)
  walk_at "EV"
  rw [lc_filt (List.range 5) (fun k : Nat => V.int (k : Int)) (fun k => decide (0 < cnt k m)) (fun k => V.int ((k : Int) + 1)) ?hit2 (fun u hu => ?st2) (by decide)]
  case hit2 =>
    walk_at "EV"
    exact itm_rng (n := 5) (by decide)
  case st2 =>
    walk_at "EV"
    rw [sub_list, List.getElem?_map, List.getElem?_range (List.mem_range.mp hu)]
    walk_at "EV"
    by_cases q : 0 < cnt u m
    · rw [decide_eq_true q, decide_eq_true (show (0 : Int) < (cnt u m : Int) by lia)]; rfl
    · rw [decide_eq_false q, decide_eq_false (show ¬ (0 : Int) < (cnt u m : Int) by lia)]; rfl
  walk_at "EV"
  rw [eK]
  walk_at "EV"
  rw [show (entOf m).b = (m.length : Int) from rfl, hDd, hS, fdiv_ok hb hb', mod_ok hb]
  walk_at "EV"
  have hK := tK.lt
  have lt16 : ∀ d ∈ cN m, d < 2 ^ 4 := fun d hd => by
    obtain ⟨u, _, e⟩ := List.mem_map.mp hd
    have : cnt u m ≤ m.length := List.countP_le_length
    lia
  have hlen : (cN m).length = 5 := by unfold cN; rw [List.length_map, List.length_range]
  have p5 : (2 : Nat) ^ 5 ≤ 2 ^ (k + 5) := Nat.pow_le_pow_right (by decide) (by lia)
  have e5 : (run p g (k + 7)).call 5 [.int (sN m : Nat), .int 4] = some (.list (dV ((cN m).take (K + 1)))) := by
    have q := i2d_ok (p := p) (g := g) (k := k + 5) h.toSh (n := 4) (a := sN m) (len := K + 1) (by decide) (by lia) t1.symm (by lia)
    rw [digs_eq, t2] at q
    exact q
  have e6 : (run p g (k + 7)).call 6 [.list (dV (cN m)), .int 4] = some (.int (sN m : Nat)) := by
    have q := d2i_ok (p := p) (g := g) (k := k + 5) h.toSh (n := 4) (ds := cN m) (by decide) lt16 (by rw [hlen]; lia) (by rw [hlen]; decide)
    rw [← sN_val hm] at q
    exact q
  have e8 : (run p g (k + 7)).call 8 [.int D, .int m.length] = some (.tup [.int (D.fdiv m.length), .int (D.fmod m.length)]) := dm_ok (k := k + 1) h.toSh hb hb' hd (by lia)
  have ec : cutTo (.list (dV (cN m))) (.int ((K + 1 : Nat) : Int)) = some (.list (dV ((cN m).take (K + 1)))) := by
    rw [cutT_l]
    unfold dV
    rw [← List.map_take]
  have n1 : cmpV .NotEq (.list (dV ((cN m).take (K + 1)))) (.list (dV ((cN m).take (K + 1)))) = some (.bool false) := ne_self (show okV 16 (.list _) from fun x hx => by
    obtain ⟨i, _, e⟩ := List.mem_map.mp hx
    subst e
    trivial)
  have n3 : cmpV .NotEq (.tup [.int (D.fdiv m.length), .int (D.fmod m.length)]) (.tup [.int (D.fdiv m.length), .int (D.fmod m.length)]) = some (.bool false) := ne_self (okV_two (n := 15) trivial trivial)
  rw [cN_V, e5, ec]
  walk_at "EV"
  rw [n1]
  walk_at "EV"
  rw [e6]
  walk_at "EV"
  rw [beq_self_eq_true]
  walk_at "EV"
  rw [e8]
  walk_at "EV"
  rw [n3]
  walk_at "EV"
  have hs := callers_sm hm
  rw [dc_filt (tk (callers m)) vKey low id (fun k => encM (FT m k)) ?hit3 (fun q hq => ?st3) ?nd ?ln]
  case hit3 =>
    walk_at "EV"
    show some ((encT (tabOf m)).map _) = _
    unfold tabOf encT mkK
    rw [List.map_map, List.map_map]
    rfl
  case nd =>
    rw [List.map_id]
    exact tk_nodup hs fs_nodup
  case ln =>
    have := callers_len (cs := m)
    rw [tk_len, big_eq]
    lia
  case st3 =>
    walk_at "EV"
    rw [ins_key hs hq]
    walk_at "EV"
    have e4 : dget q (encT (entOf m).t) = some (encM (FT m q)) := by
      show dget q (encT (tabOf m)) = _
      rw [dget_encT]
      unfold tabOf
      rw [tget_mk, if_pos hq]
      rfl
    rw [kv_vk, Option.bind_some, Option.bind_some, e4]
    cases low q <;> rfl
  rw [low_tk hs, run_gen]
  have el : ((callers m).map lk).map (fun x => (id x, encM (FT m x))) = ((callers m).map fun u => (lk u, (cnt u m : Int))).map fun q => (q.1, .int q.2) := by
    rw [List.map_map, List.map_map]
    refine List.map_congr_left fun u _ => ?_
    show (lk u, encM (FT m (lk u))) = _
    rw [FT_lk]
    rfl
  have es : (((callers m).map fun u => (lk u, (cnt u m : Int))).map (·.2)).sum = (m.length : Int) := by
    have q := sum_cnt (l := callers m) fs_nodup (m := m) fun c hc => mem_callers.mpr (List.mem_map.mpr ⟨c, hc, rfl⟩)
    rw [← q, List.map_map]
    generalize callers m = l
    clear q
    induction l with
    | nil => rfl
    | cons u r ih =>
      rw [List.map_cons, List.map_cons, List.sum_cons, List.sum_cons, ih]
      exact (Int.natCast_add ..).symm
  rw [el]
  walk_at "EV"
  rw [cc_ok h.toSh, es]
  walk_at "EV"
  rw [beq_self_eq_true]
end
section
variable {α β : Type}
theorem gsum_add {l : List α} {f g : α → Nat} : gsum l (fun x => f x + g x) = gsum l f + gsum l g := by
  induction l with
  | nil => rfl
  | cons x r ih =>
    show f x + g x + gsum r _ = f x + gsum r f + (g x + gsum r g)
    rw [ih]
    lia
theorem gsum_null {l : List α} : gsum l (fun _ => 0) = 0 := by
  induction l with
  | nil => rfl
  | cons x r ih => exact (Nat.zero_add _).trans ih
theorem gsum_comm {l : List α} {r : List β} {f : α → β → Nat} : gsum l (fun x => gsum r (f x)) = gsum r fun y => gsum l fun x => f x y := by
  induction l with
  | nil => exact gsum_null.symm
  | cons x l ih =>
    show gsum r (f x) + gsum l _ = gsum r fun y => f x y + gsum l fun x => f x y
    rw [gsum_add, ih]
theorem gsum_map {l : List α} {g : α → β} {f : β → Nat} : gsum (l.map g) f = gsum l fun x => f (g x) := by
  induction l with
  | nil => rfl
  | cons x r ih => exact congrArg (f (g x) + ·) ih
theorem gsum_one [DecidableEq α] {l : List α} {y : α} {g : Nat} (hn : l.Nodup) : gsum l (fun x => if x = y then g else 0) = if y ∈ l then g else 0 := by
  induction l with
  | nil => exact (if_neg List.not_mem_nil).symm
  | cons x r ih =>
    have hn := List.nodup_cons.mp hn
    show (if x = y then g else 0) + gsum r _ = _
    rw [ih hn.2]
    by_cases q : x = y
    · subst q
      rw [if_pos rfl, if_neg hn.1, if_pos (List.mem_cons_self ..)]
      rfl
    · rw [if_neg q, Nat.zero_add]
      by_cases m : y ∈ r
      · rw [if_pos m, if_pos (List.mem_cons_of_mem _ m)]
      · rw [if_neg m, if_neg fun h => (List.mem_cons.mp h).elim (fun e => q e.symm) m]
theorem range_getD {l : List α} {d : α} : (List.range l.length).map (fun k => l.getD k d) = l := by
  apply List.ext_getElem
  · rw [List.length_map, List.length_range]
  · intro i h1 h2
    rw [List.getElem_map, List.getElem_range, List.getD_eq_getElem?_getD, List.getElem?_eq_getElem h2]
    rfl
theorem gsum_range {l : List α} {d : α} {f : α → Nat} : gsum (List.range l.length) (fun k => f (l.getD k d)) = gsum l f := by
  rw [← gsum_map (g := fun k => l.getD k d), range_getD]
end
abbrev Pr := Nat × Nat
noncomputable def dgL (CL : List Pr) (ds : List Nat) : Gr Nat := fun u v => if (u, v) ∈ CL then ds.getD (CL.idxOf (u, v)) 0 else 0
noncomputable def dcr (ds : List Nat) (k : Nat) : List Nat := ds.set k (ds.getD k 0 - 1)
theorem dcr_len {ds : List Nat} {k : Nat} : (dcr ds k).length = ds.length := List.length_set
theorem dcr_same {ds : List Nat} {k : Nat} (h : k < ds.length) : (dcr ds k).getD k 0 = ds.getD k 0 - 1 := by
  unfold dcr
  rw [List.getD_eq_getElem?_getD, List.getElem?_set_self h]
  rfl
theorem dcr_ne {ds : List Nat} {k j : Nat} (h : j ≠ k) : (dcr ds k).getD j 0 = ds.getD j 0 := by
  unfold dcr
  rw [List.getD_eq_getElem?_getD, List.getElem?_set_ne (Ne.symm h), ← List.getD_eq_getElem?_getD]
section
variable {CL : List Pr} {ds : List Nat}
theorem dg_at (hn : CL.Nodup) {k : Nat} (hk : k < CL.length) : dgL CL ds (CL.getD k (0, 0)).1 (CL.getD k (0, 0)).2 = ds.getD k 0 := by
  have e : CL.getD k (0, 0) = CL[k] := by rw [List.getD_eq_getElem?_getD, List.getElem?_eq_getElem hk]; rfl
  unfold dgL
  rw [e, if_pos (List.getElem_mem hk)]
  exact congrArg (fun i => ds.getD i 0) (hn.idxOf_getElem k hk)
theorem dg_dec (hn : CL.Nodup) (hl : ds.length = CL.length) {k : Nat} (hk : k < CL.length) : dgL CL (dcr ds k) = dec (dgL CL ds) (CL.getD k (0, 0)).1 (CL.getD k (0, 0)).2 := by
  have e : CL.getD k (0, 0) = CL[k] := by rw [List.getD_eq_getElem?_getD, List.getElem?_eq_getElem hk]; rfl
  funext x y
  unfold dec
  by_cases q : x = (CL.getD k (0, 0)).1 ∧ y = (CL.getD k (0, 0)).2
  · rw [if_pos q, dg_at hn hk, q.1, q.2, dg_at hn hk, dcr_same (hl ▸ hk)]
  · rw [if_neg q]
    unfold dgL
    by_cases m : (x, y) ∈ CL
    · rw [if_pos m, if_pos m]
      refine dcr_ne fun ei => q ?_
      have h1 := List.getElem_idxOf (List.idxOf_lt_length_of_mem m)
      have h2 : (x, y) = CL.getD k (0, 0) := by rw [e]; rw [← h1]; exact getElem_congr_idx ei
      rw [← h2]
      exact ⟨rfl, rfl⟩
    · rw [if_neg m, if_neg m]
abbrev Wy := List Nat × (Nat × Nat)
noncomputable def wget (k : List Nat) : List Wy → Option (Nat × Nat)
  | [] => none
  | p :: r => if k = p.1 then some p.2 else wget k r
noncomputable def wset (k : List Nat) (v : Nat × Nat) : List Wy → List Wy
  | [] => [(k, v)]
  | p :: r => if k = p.1 then (p.1, v) :: r else p :: wset k v r
theorem wget_mem {k : List Nat} {u : Nat × Nat} {t : List Wy} : wget k t = some u → (k, u) ∈ t := by
  induction t with
  | nil => exact nos
  | cons p r ih =>
    unfold wget
    by_cases h : k = p.1
    · rw [if_pos h]
      intro e
      cases e
      exact h ▸ List.mem_cons_self ..
    · rw [if_neg h]
      exact fun e => List.mem_cons_of_mem _ (ih e)
theorem wset_mem {k : List Nat} {v : Nat × Nat} {q : Wy} {t : List Wy} : q ∈ wset k v t → q ∈ t ∨ q = (k, v) := by
  induction t with
  | nil => exact fun h => .inr (List.mem_singleton.mp h)
  | cons p r ih =>
    unfold wset
    by_cases h : k = p.1
    · rw [if_pos h]
      exact fun m => (List.mem_cons.mp m).elim (fun e => .inr (h ▸ e)) fun m => .inl (List.mem_cons_of_mem _ m)
    · rw [if_neg h]
      exact fun m => (List.mem_cons.mp m).elim (fun e => .inl (e ▸ List.mem_cons_self ..)) fun m => (ih m).imp (List.mem_cons_of_mem _) id
theorem wset_keys {k : List Nat} {v : Nat × Nat} {t : List Wy} : (t.map (·.1)).Nodup → ((wset k v t).map (·.1)).Nodup := by
  induction t with
  | nil => exact fun _ => List.nodup_cons.mpr ⟨List.not_mem_nil, .nil⟩
  | cons p r ih =>
    intro h
    have hn := List.nodup_cons.mp h
    unfold wset
    by_cases q : k = p.1
    · rw [if_pos q]; exact h
    · rw [if_neg q]
      refine List.nodup_cons.mpr ⟨fun m => ?_, ih hn.2⟩
      obtain ⟨z, hz, e⟩ := List.mem_map.mp m
      exact (wset_mem hz).elim (fun hz => hn.1 (List.mem_map.mpr ⟨z, hz, e⟩)) fun ez => q ((congrArg Prod.fst ez).symm.trans e)
theorem wset_len {k : List Nat} {v : Nat × Nat} {t : List Wy} : (wset k v t).length ≤ t.length + 1 := by
  induction t with
  | nil => exact Nat.le_refl _
  | cons p r ih =>
    unfold wset
    by_cases q : k = p.1
    · rw [if_pos q]; exact Nat.le_succ _
    · rw [if_neg q]; exact Nat.succ_le_succ ih
noncomputable def Phi (VS : List Nat) (CL : List Pr) (n : Nat) (ws : List Wy) : Nat := gsum ws fun w => w.2.2 * walks VS n (dgL CL w.1) w.2.1
theorem phi_set {VS : List Nat} {n : Nat} {k : List Nat} {v c : Nat} {t : List Wy} (h : ∀ q, wget k t = some q → q.1 = v) : Phi VS CL n (wset k (v, c + ((wget k t).elim 0 (·.2))) t) = Phi VS CL n t + c * walks VS n (dgL CL k) v := by
  induction t with
  | nil => exact Nat.add_comm ..
  | cons p r ih =>
    obtain ⟨p1, p2, p3⟩ := p
    by_cases q : k = p1
    · subst q
      have e : wget k ((k, p2, p3) :: r) = some (p2, p3) := if_pos rfl
      have ev : p2 = v := h _ e
      subst ev
      rw [e]
      have e2 : wset k (p2, c + (some (p2, p3)).elim 0 (·.2)) ((k, p2, p3) :: r) = (k, p2, c + p3) :: r := if_pos rfl
      rw [e2]
      show (c + p3) * walks VS n (dgL CL k) p2 + gsum r _ = p3 * walks VS n (dgL CL k) p2 + gsum r _ + c * walks VS n (dgL CL k) p2
      rw [Nat.add_mul]
      lia
    · have e : wget k ((p1, p2, p3) :: r) = wget k r := if_neg q
      rw [e] at h ⊢
      have e2 : ∀ z, wset k z ((p1, p2, p3) :: r) = (p1, p2, p3) :: wset k z r := fun z => if_neg q
      rw [e2]
      show _ + Phi VS CL n (wset k _ r) = _ + Phi VS CL n r + _
      rw [ih h, Nat.add_assoc]
structure WOk (VS : List Nat) (CL : List Pr) (b n : Nat) (w : Wy) : Prop where
  len : w.1.length = CL.length
  lt : ∀ d ∈ w.1, d < 10
  mem : w.2.1 ∈ VS
  bal : Bal VS (dgL CL w.1) w.2.1 b
  tot : totD VS (dgL CL w.1) = n
structure WsOk (VS : List Nat) (CL : List Pr) (b n : Nat) (ws : List Wy) : Prop where
  each : ∀ w ∈ ws, WOk VS CL b n w
  nd : (ws.map (·.1)).Nodup
structure CLk (VS : List Nat) (CL : List Pr) : Prop where
  vn : VS.Nodup
  cn : CL.Nodup
  mem : ∀ c ∈ CL, c.1 ∈ VS ∧ c.2 ∈ VS
noncomputable def kstep (CL : List Pr) (w : Wy) (f : List Wy) (k : Nat) : List Wy := if (CL.getD k (0, 0)).1 = w.2.1 ∧ 0 < w.1.getD k 0 then wset (dcr w.1 k) ((CL.getD k (0, 0)).2, w.2.2 + ((wget (dcr w.1 k) f).elim 0 (·.2))) f else f
noncomputable def wturn (CL : List Pr) (ws : List Wy) : List Wy := ws.foldl (fun f w => (List.range CL.length).foldl (kstep CL w) f) []
variable {VS : List Nat} {b n : Nat}
theorem bal_fun {m : Gr Nat} {x y : Nat} (h : Bal VS m x b) (h' : Bal VS m y b) (hx : x ∈ VS) : x = y := by
  have e1 := h x hx
  have e2 := h' x hx
  rw [one_hit] at e1
  by_cases q : x = y
  · exact q
  · rw [one_no q] at e2; lia
theorem getD_mem' {l : List Pr} {k : Nat} (h : k < l.length) : l.getD k (0, 0) ∈ l := by
  rw [List.getD_eq_getElem?_getD, List.getElem?_eq_getElem h]
  exact List.getElem_mem h
theorem kstep_ok (C : CLk VS CL) {w : Wy} (hw : WOk VS CL b (n + 1) w) {f : List Wy} (hf : WsOk VS CL b n f) {k : Nat} (hk : k < CL.length) :
    WsOk VS CL b n (kstep CL w f k) ∧ Phi VS CL n (kstep CL w f k) = Phi VS CL n f + w.2.2 * (if (CL.getD k (0, 0)).1 = w.2.1 ∧ 0 < w.1.getD k 0 then walks VS n (dec (dgL CL w.1) w.2.1 (CL.getD k (0, 0)).2) (CL.getD k (0, 0)).2 else 0) := by
  unfold kstep
  by_cases q : (CL.getD k (0, 0)).1 = w.2.1 ∧ 0 < w.1.getD k 0
  · rw [if_pos q, if_pos q]
    have hm := C.mem _ (getD_mem' hk)
    have hp : 0 < dgL CL w.1 w.2.1 (CL.getD k (0, 0)).2 := by rw [← q.1, dg_at C.cn hk]; exact q.2
    have ed : dgL CL (dcr w.1 k) = dec (dgL CL w.1) w.2.1 (CL.getD k (0, 0)).2 := q.1 ▸ dg_dec C.cn hw.len hk
    have nw : ∀ c, WOk VS CL b n (dcr w.1 k, (CL.getD k (0, 0)).2, c) := fun c => ⟨dcr_len.trans hw.len, fun d hd => by
      obtain ⟨j, hj⟩ := List.mem_iff_getElem?.mp hd
      have hd' : (dcr w.1 k).getD j 0 = d := by rw [List.getD_eq_getElem?_getD, hj]; rfl
      have hjl : j < w.1.length := dcr_len ▸ (List.getElem?_eq_some_iff.mp hj).1
      have g : w.1.getD j 0 < 10 := hw.lt _ (by rw [List.getD_eq_getElem?_getD, List.getElem?_eq_getElem hjl]; exact List.getElem_mem hjl)
      by_cases e : j = k
      · subst e; rw [dcr_same hjl] at hd'; lia
      · rw [dcr_ne e] at hd'; lia, hm.2, ed ▸ bal_step C.vn hw.mem hm.2 hp hw.bal, by
      have := tot_step C.vn hw.mem hm.2 hp
      rw [hw.tot] at this
      show totD VS (dgL CL (dcr w.1 k)) = n
      rw [ed]
      lia⟩
    have fun' : ∀ q', wget (dcr w.1 k) f = some q' → q'.1 = (CL.getD k (0, 0)).2 := fun q' e => by
      have h1 := hf.each _ (wget_mem e)
      exact bal_fun h1.bal (nw 0).bal h1.mem
    exact ⟨⟨fun z hz => (wset_mem hz).elim (hf.each z) fun e => e ▸ nw _, wset_keys hf.nd⟩, by rw [phi_set fun', ed]⟩
  · rw [if_neg q, if_neg q]
    exact ⟨hf, rfl⟩
theorem gsum_mulL {α : Type} {l : List α} {c : Nat} {f : α → Nat} : gsum l (fun x => c * f x) = c * gsum l f := by
  induction l with
  | nil => exact (Nat.mul_zero _).symm
  | cons x r ih => exact (congrArg (c * f x + ·) ih).trans (Nat.mul_add ..).symm
theorem hits (C : CLk VS CL) {ds : List Nat} {a : Nat} {W : Nat → Nat} : gsum (List.range CL.length) (fun k => if (CL.getD k (0, 0)).1 = a ∧ 0 < ds.getD k 0 then W (CL.getD k (0, 0)).2 else 0) = gsum VS fun v => if 0 < dgL CL ds a v then W v else 0 := by
  have e1 : gsum (List.range CL.length) (fun k => if (CL.getD k (0, 0)).1 = a ∧ 0 < ds.getD k 0 then W (CL.getD k (0, 0)).2 else 0) = gsum (List.range CL.length) fun k => (fun c : Pr => if c.1 = a ∧ 0 < dgL CL ds c.1 c.2 then W c.2 else 0) (CL.getD k (0, 0)) := gsum_congr fun k hk => by
    dsimp only
    rw [dg_at C.cn (List.mem_range.mp hk)]
  rw [e1, gsum_range (d := (0, 0)) (f := fun c : Pr => if c.1 = a ∧ 0 < dgL CL ds c.1 c.2 then W c.2 else 0)]
  have e2 : gsum CL (fun c => if c.1 = a ∧ 0 < dgL CL ds c.1 c.2 then W c.2 else 0) = gsum CL fun c => gsum VS fun v => if c = (a, v) then (if 0 < dgL CL ds a v then W v else 0) else 0 := gsum_congr fun c hc => by
    obtain ⟨c1, c2⟩ := c
    have hm := (C.mem _ hc).2
    by_cases q : c1 = a
    · subst q
      have e3 : gsum VS (fun v => if (c1, c2) = (c1, v) then (if 0 < dgL CL ds c1 v then W v else 0) else 0) = gsum VS fun v => if v = c2 then (if 0 < dgL CL ds c1 c2 then W c2 else 0) else 0 := gsum_congr fun v _ => by
        by_cases ev : v = c2
        · subst ev; rw [if_pos rfl, if_pos rfl]
        · rw [if_neg fun e => ev (congrArg Prod.snd e).symm, if_neg ev]
      rw [e3, gsum_one C.vn, if_pos hm]
      by_cases z : 0 < dgL CL ds c1 c2
      · rw [if_pos ⟨rfl, z⟩, if_pos z]
      · rw [if_neg fun h => z h.2, if_neg z]
    · rw [if_neg fun h => q h.1]
      exact (gsum_null.symm.trans (gsum_congr fun v _ => (if_neg fun e => q (congrArg Prod.fst e)).symm))
  rw [e2, gsum_comm]
  refine gsum_congr fun v hv => ?_
  rw [gsum_one C.cn]
  by_cases m : (a, v) ∈ CL
  · rw [if_pos m]
  · rw [if_neg m]
    have z : dgL CL ds a v = 0 := if_neg m
    rw [z, if_neg (Nat.lt_irrefl 0)]
theorem kfold_ok (C : CLk VS CL) {w : Wy} (hw : WOk VS CL b (n + 1) w) {f : List Wy} (hf : WsOk VS CL b n f) :
    WsOk VS CL b n ((List.range CL.length).foldl (kstep CL w) f) ∧ Phi VS CL n ((List.range CL.length).foldl (kstep CL w) f) = Phi VS CL n f + w.2.2 * walks VS (n + 1) (dgL CL w.1) w.2.1 := by
  have key : ∀ (l : List Nat) (f : List Wy), (∀ k ∈ l, k < CL.length) → WsOk VS CL b n f → WsOk VS CL b n (l.foldl (kstep CL w) f) ∧ Phi VS CL n (l.foldl (kstep CL w) f) = Phi VS CL n f + w.2.2 * gsum l fun k => if (CL.getD k (0, 0)).1 = w.2.1 ∧ 0 < w.1.getD k 0 then walks VS n (dec (dgL CL w.1) w.2.1 (CL.getD k (0, 0)).2) (CL.getD k (0, 0)).2 else 0 := fun l => by
    induction l with
    | nil => exact fun f _ hf => ⟨hf, rfl⟩
    | cons k r ih =>
      intro f hk hf
      obtain ⟨h1, h2⟩ := kstep_ok C hw hf (hk k (List.mem_cons_self ..))
      obtain ⟨h3, h4⟩ := ih _ (fun j hj => hk j (List.mem_cons_of_mem _ hj)) h1
      refine ⟨h3, h4.trans ?_⟩
      rw [h2, Nat.add_assoc, ← Nat.mul_add]
      rfl
  obtain ⟨h1, h2⟩ := key _ f (fun k hk => List.mem_range.mp hk) hf
  refine ⟨h1, h2.trans ?_⟩
  rw [hits C (ds := w.1) (a := w.2.1) (W := fun v => walks VS n (dec (dgL CL w.1) w.2.1 v) v)]
  rfl
theorem wturn_ok (C : CLk VS CL) {ws : List Wy} (h : WsOk VS CL b (n + 1) ws) : WsOk VS CL b n (wturn CL ws) ∧ Phi VS CL n (wturn CL ws) = Phi VS CL (n + 1) ws := by
  have key : ∀ (l : List Wy) (f : List Wy), (∀ w ∈ l, WOk VS CL b (n + 1) w) → WsOk VS CL b n f → WsOk VS CL b n (l.foldl (fun f w => (List.range CL.length).foldl (kstep CL w) f) f) ∧ Phi VS CL n (l.foldl (fun f w => (List.range CL.length).foldl (kstep CL w) f) f) = Phi VS CL n f + Phi VS CL (n + 1) l := fun l => by
    induction l with
    | nil => exact fun f _ hf => ⟨hf, rfl⟩
    | cons w r ih =>
      intro f hl hf
      obtain ⟨h1, h2⟩ := kfold_ok C (hl w (List.mem_cons_self ..)) hf
      obtain ⟨h3, h4⟩ := ih _ (fun j hj => hl j (List.mem_cons_of_mem _ hj)) h1
      refine ⟨h3, h4.trans ?_⟩
      rw [h2, Nat.add_assoc]
      rfl
  obtain ⟨h1, h2⟩ := key ws [] h.each ⟨fun w hw => absurd hw List.not_mem_nil, .nil⟩
  exact ⟨h1, h2.trans (Nat.zero_add _)⟩
end
noncomputable def val10 : List Nat → Nat
  | [] => 0
  | d :: r => d + 10 * val10 r
noncomputable def Vd (L : Nat) (ds : List Nat) : Prop := ds.length = L ∧ ∀ d ∈ ds, d < 10
theorem v10_inj {a : List Nat} : ∀ {b : List Nat}, a.length = b.length → (∀ d ∈ a, d < 10) → (∀ d ∈ b, d < 10) → val10 a = val10 b → a = b := by
  induction a with
  | nil =>
    intro b h _ _ _
    cases b with
    | nil => rfl
    | cons => exact Nat.noConfusion h
  | cons x r ih =>
    intro b h ha hb e
    cases b with
    | nil => exact Nat.noConfusion h
    | cons y s =>
      have hx := ha x (List.mem_cons_self ..)
      have hy := hb y (List.mem_cons_self ..)
      have e : x + 10 * val10 r = y + 10 * val10 s := e
      have e1 : x = y := by lia
      have e2 : val10 r = val10 s := by lia
      rw [e1, ih (Nat.succ.inj h) (fun d hd => ha d (List.mem_cons_of_mem _ hd)) (fun d hd => hb d (List.mem_cons_of_mem _ hd)) e2]
theorem v10_digit {ds : List Nat} : ∀ {k : Nat}, (∀ d ∈ ds, d < 10) → val10 ds / 10 ^ k % 10 = ds.getD k 0 := by
  induction ds with
  | nil =>
    intro k _
    show 0 / 10 ^ k % 10 = 0
    rw [Nat.zero_div]
  | cons d r ih =>
    intro k h
    have hd := h d (List.mem_cons_self ..)
    have hr : ∀ d ∈ r, d < 10 := fun z hz => h z (List.mem_cons_of_mem _ hz)
    cases k with
    | zero =>
      show (d + 10 * val10 r) / 1 % 10 = d
      rw [Nat.div_one]
      lia
    | succ k =>
      show (d + 10 * val10 r) / 10 ^ (k + 1) % 10 = r.getD k 0
      rw [← ih hr, Nat.pow_succ, Nat.mul_comm (10 ^ k), ← Nat.div_div_eq_div_mul, show (d + 10 * val10 r) / 10 = val10 r by lia]
theorem v10_dec {ds : List Nat} : ∀ {k : Nat}, 0 < ds.getD k 0 → val10 (dcr ds k) + 10 ^ k = val10 ds := by
  induction ds with
  | nil => exact fun h => absurd h (Nat.lt_irrefl 0)
  | cons d r ih =>
    intro k h
    cases k with
    | zero =>
      have h : 0 < d := h
      show d - 1 + 10 * val10 r + 1 = d + 10 * val10 r
      lia
    | succ k =>
      have h : 0 < r.getD k 0 := h
      have e := ih h
      show d + 10 * val10 (dcr r k) + 10 ^ (k + 1) = d + 10 * val10 r
      rw [Nat.pow_succ]
      lia
theorem v10_zero {n : Nat} : val10 (List.replicate n 0) = 0 := by
  induction n with
  | zero => rfl
  | succ n ih => rw [List.replicate_succ]; show 0 + 10 * val10 _ = 0; rw [ih]
theorem v10_sum {ds : List Nat} : val10 ds = gsum (List.range ds.length) fun k => 10 ^ k * ds.getD k 0 := by
  induction ds with
  | nil => rfl
  | cons d r ih =>
    rw [List.length_cons, List.range_succ_eq_map]
    show d + 10 * val10 r = 10 ^ 0 * d + gsum ((List.range r.length).map Nat.succ) _
    rw [gsum_map, ih, Nat.pow_zero, Nat.one_mul, ← gsum_mulL]
    refine congrArg (d + ·) (gsum_congr fun k _ => ?_)
    show 10 * (10 ^ k * r.getD k 0) = 10 ^ (k + 1) * r.getD k 0
    rw [Nat.pow_succ, ← Nat.mul_assoc, Nat.mul_comm 10]
noncomputable def gr (PR : List Pr) : Gr Nat := fun u v => PR.countP fun q => decide (q = (u, v))
noncomputable def cnts (CL PR : List Pr) : List Nat := CL.map fun c => PR.countP fun q => decide (q = c)
theorem dg_gr {CL PR : List Pr} (hn : CL.Nodup) (h : ∀ q ∈ PR, q ∈ CL) : dgL CL (cnts CL PR) = gr PR := by
  funext u v
  unfold dgL gr cnts
  by_cases m : (u, v) ∈ CL
  · rw [if_pos m, List.getD_eq_getElem?_getD, List.getElem?_map, List.getElem?_eq_getElem (List.idxOf_lt_length_of_mem m), List.getElem_idxOf]
    rfl
  · rw [if_neg m]
    refine (List.countP_eq_zero.mpr fun q hq e => m ?_).symm
    exact of_decide_eq_true e ▸ h q hq
theorem gsum_le {α : Type} {l : List α} {f : α → Nat} {x : α} (h : x ∈ l) : f x ≤ gsum l f := by
  induction l with
  | nil => exact absurd h List.not_mem_nil
  | cons y r ih => exact (List.mem_cons.mp h).elim (fun e => e ▸ Nat.le_add_right ..) fun h => Nat.le_trans (ih h) (Nat.le_add_left ..)
inductive Path (VS : List Nat) : Nat → List Pr → Nat → Prop
  | nil {a : Nat} : Path VS a [] a
  | cons {a v z : Nat} {r : List Pr} (hv : v ∈ VS) (h : Path VS v r z) : Path VS a ((a, v) :: r) z
theorem gr_dec {a v : Nat} {r : List Pr} : dec (gr ((a, v) :: r)) a v = gr r := by
  funext x y
  unfold dec gr
  by_cases q : x = a ∧ y = v
  · rw [if_pos q, List.countP_cons, if_pos (decide_eq_true rfl), q.1, q.2]
    rfl
  · rw [if_neg q, List.countP_cons, if_neg (fun e => q ?_)]
    · rfl
    · have := of_decide_eq_true e
      exact ⟨(congrArg Prod.fst this).symm, (congrArg Prod.snd this).symm⟩
theorem gr_hit {a v : Nat} {r : List Pr} : 0 < gr ((a, v) :: r) a v := by
  unfold gr
  rw [List.countP_cons, if_pos (decide_eq_true rfl)]
  exact Nat.succ_pos _
theorem path_walks {VS : List Nat} {a z : Nat} {r : List Pr} (h : Path VS a r z) : 0 < walks VS r.length (gr r) a := by
  induction h with
  | nil => exact Nat.one_pos
  | @cons a v z r hv _ ih =>
    refine Nat.lt_of_lt_of_le ?_ (gsum_le (f := fun w => if 0 < gr ((a, v) :: r) a w then walks VS r.length (dec (gr ((a, v) :: r)) a w) w else 0) hv)
    rw [if_pos gr_hit, gr_dec]
    exact ih
theorem path_bal {VS : List Nat} (hn : VS.Nodup) {a z : Nat} {r : List Pr} (h : Path VS a r z) : a ∈ VS → Bal VS (gr r) a z ∧ totD VS (gr r) = r.length := by
  induction h with
  | nil =>
    intro ha
    have e : ∀ u, outD VS (gr []) u = 0 := fun u => gsum_null
    refine ⟨fun u _ => ?_, (gsum_congr fun u _ => e u).trans gsum_null⟩
    rw [e u]
    have e2 : innD VS (gr []) u = 0 := gsum_null
    rw [e2]
  | @cons a v z r hv _ ih =>
    intro ha
    obtain ⟨i1, i2⟩ := ih hv
    refine ⟨fun u hu => ?_, ?_⟩
    · have i1 := i1 u hu
      have d := gr_dec (a := a) (v := v) (r := r)
      by_cases q1 : u = a
      · have o := out_hit (m := gr ((a, v) :: r)) hn hv gr_hit
        rw [d] at o
        by_cases q2 : u = v
        · have n := inn_hit (m := gr ((a, v) :: r)) hn ha gr_hit
          rw [d] at n
          subst q1; subst q2
          lia
        · have n := inn_no (VS := VS) (m := gr ((a, v) :: r)) (a := a) q2
          rw [d] at n
          subst q1
          rw [one_hit]
          rw [one_no q2] at i1
          lia
      · have o := out_no (VS := VS) (m := gr ((a, v) :: r)) (v := v) q1
        rw [d] at o
        rw [one_no q1]
        by_cases q2 : u = v
        · have n := inn_hit (m := gr ((a, v) :: r)) hn ha gr_hit
          rw [d] at n
          subst q2
          rw [one_hit] at i1
          lia
        · have n := inn_no (VS := VS) (m := gr ((a, v) :: r)) (a := a) q2
          rw [d] at n
          rw [one_no q2] at i1
          lia
    · have t := tot_step (m := gr ((a, v) :: r)) hn ha hv gr_hit
      rw [gr_dec, i2] at t
      exact t
theorem all_zero {VS : List Nat} {CL : List Pr} (C : CLk VS CL) {ds : List Nat} (hl : ds.length = CL.length) (h : totD VS (dgL CL ds) = 0) : ds = List.replicate CL.length 0 := by
  refine List.eq_replicate_iff.mpr ⟨hl, fun d hd => ?_⟩
  obtain ⟨k, hk⟩ := List.mem_iff_getElem?.mp hd
  have hkl : k < CL.length := hl ▸ (List.getElem?_eq_some_iff.mp hk).1
  have hm := C.mem _ (getD_mem' hkl)
  have e := dg_at (ds := ds) C.cn hkl
  have e1 := gsum_zero (gsum_zero h _ hm.1) _ hm.2
  have e2 : ds.getD k 0 = d := by rw [List.getD_eq_getElem?_getD, hk]; rfl
  exact e2.symm.trans (e.symm.trans e1)
theorem ways_end {VS : List Nat} {CL : List Pr} (C : CLk VS CL) {b : Nat} {ws : List Wy} (h : WsOk VS CL b 0 ws) (hp : 0 < Phi VS CL 0 ws) : ∃ x, ws = [(List.replicate CL.length 0, x, Phi VS CL 0 ws)] := by
  cases ws with
  | nil => exact absurd hp (Nat.lt_irrefl 0)
  | cons w r =>
    have hw := h.each w (List.mem_cons_self ..)
    have ew := all_zero C hw.len hw.tot
    cases r with
    | nil =>
      obtain ⟨d, x, c⟩ := w
      have ew : d = _ := ew
      subst ew
      refine ⟨x, ?_⟩
      show _ = [(_, x, c * 1 + 0)]
      rw [Nat.mul_one]
      rfl
    | cons w2 r =>
      have hw2 := h.each w2 (List.mem_cons_of_mem _ (List.mem_cons_self ..))
      have ew2 := all_zero C hw2.len hw2.tot
      have hn := List.nodup_cons.mp h.nd
      exact absurd (List.mem_map.mpr ⟨w2, List.mem_cons_self .., ew2.trans ew.symm⟩) hn.1
theorem nodup5 {l : List Nat} (hn : l.Nodup) (h : ∀ x ∈ l, x < 5) : l.length ≤ 5 := by
  have e1 : l.length = gsum l fun x => gsum (List.range 5) fun v => if v = x then 1 else 0 := by
    have : ∀ l : List Nat, (∀ x ∈ l, x < 5) → l.length = gsum l fun x => gsum (List.range 5) fun v => if v = x then 1 else 0 := fun l => by
      induction l with
      | nil => exact fun _ => rfl
      | cons x r ih =>
        intro h
        rw [List.length_cons, ih fun y hy => h y (List.mem_cons_of_mem _ hy)]
        show _ = gsum (List.range 5) (fun v => if v = x then 1 else 0) + _
        rw [gsum_one List.nodup_range, if_pos (List.mem_range.mpr (h x (List.mem_cons_self ..))), Nat.add_comm]
    exact this l h
  rw [e1, gsum_comm]
  have e2 : ∀ v, gsum l (fun x => if v = x then 1 else 0) ≤ 1 := fun v => by
    have : gsum l (fun x => if v = x then 1 else 0) = gsum l fun x => if x = v then 1 else 0 := gsum_congr fun x _ => by
      by_cases q : x = v
      · rw [if_pos q, if_pos q.symm]
      · rw [if_neg q, if_neg fun e => q e.symm]
    rw [this, gsum_one hn]
    split
    · exact Nat.le_refl _
    · exact Nat.zero_le _
  have h0 := e2 0
  have h1 := e2 1
  have h2 := e2 2
  have h3 := e2 3
  have h4 := e2 4
  exact Nat.le_trans (Nat.add_le_add h0 (Nat.add_le_add h1 (Nat.add_le_add h2 (Nat.add_le_add h3 (Nat.add_le_add h4 (Nat.le_refl 0)))))) (Nat.le_refl 5)
theorem next5 {CL : List Pr} (hn : CL.Nodup) (h : ∀ c ∈ CL, c.2 < 5) (a : Nat) : (List.range CL.length).countP (fun k => decide ((CL.getD k (0, 0)).1 = a)) ≤ 5 := by
  have e : (List.range CL.length).countP (fun k => decide ((CL.getD k (0, 0)).1 = a)) = CL.countP fun c => decide (c.1 = a) := by
    conv => rhs; rw [← range_getD (l := CL) (d := (0, 0))]
    rw [List.countP_map]
    rfl
  rw [e, List.countP_eq_length_filter, ← List.length_map (f := Prod.snd)]
  refine nodup5 ?_ fun x hx => ?_
  · refine List.pairwise_map.mpr (List.Pairwise.imp_of_mem (fun {x y} hx hy ne e => ne ?_) (hn.filter _))
    have h1 := of_decide_eq_true (List.mem_filter.mp hx).2
    have h2 := of_decide_eq_true (List.mem_filter.mp hy).2
    exact Prod.ext (h1.trans h2.symm) e
  · obtain ⟨c, hc, e⟩ := List.mem_map.mp hx
    exact e ▸ h c (List.mem_filter.mp hc).1
noncomputable def wV (q : Nat × Nat) : V := .tup [lV q.1, .int q.2]
noncomputable def encW (ws : List Wy) : List (K × V) := ws.map fun w => (.inr (val10 w.1 : Nat), wV w.2)
theorem v10_key {a b : List Nat} {L : Nat} (ha : Vd L a) (hb : Vd L b) (h : (Sum.inr (val10 a : Nat) : K) = .inr (val10 b : Nat)) : a = b := by
  have e : ((val10 a : Nat) : Int) = val10 b := by injection h
  exact v10_inj (ha.1.trans hb.1.symm) ha.2 hb.2 (Int.ofNat.inj e)
theorem dget_W {L : Nat} {d : List Nat} (hd : Vd L d) {ws : List Wy} (h : ∀ w ∈ ws, Vd L w.1) : dget (.inr (val10 d : Nat)) (encW ws) = (wget d ws).map wV := by
  induction ws with
  | nil => rfl
  | cons w r ih =>
    have i := ih fun z hz => h z (List.mem_cons_of_mem _ hz)
    unfold wget
    by_cases q : d = w.1
    · rw [if_pos q, q]; exact if_pos rfl
    · rw [if_neg q]; exact (if_neg fun e => q (v10_key hd (h w (List.mem_cons_self ..)) e)).trans i
theorem dset_W {L : Nat} {d : List Nat} (hd : Vd L d) {v : Nat × Nat} {ws : List Wy} (h : ∀ w ∈ ws, Vd L w.1) : dset (.inr (val10 d : Nat)) (wV v) (encW ws) = encW (wset d v ws) := by
  induction ws with
  | nil => rfl
  | cons w r ih =>
    have i := ih fun z hz => h z (List.mem_cons_of_mem _ hz)
    unfold wset
    by_cases q : d = w.1
    · rw [if_pos q, q]; exact if_pos rfl
    · rw [if_neg q]; exact (if_neg fun e => q (v10_key hd (h w (List.mem_cons_self ..)) e)).trans (congrArg (_ :: ·) i)
theorem vd_dcr {L : Nat} {ds : List Nat} (h : Vd L ds) {k : Nat} : Vd L (dcr ds k) := ⟨dcr_len.trans h.1, fun d hd => by
  obtain ⟨j, hj⟩ := List.mem_iff_getElem?.mp hd
  have hd' : (dcr ds k).getD j 0 = d := by rw [List.getD_eq_getElem?_getD, hj]; rfl
  have hjl : j < ds.length := dcr_len ▸ (List.getElem?_eq_some_iff.mp hj).1
  have g : ds.getD j 0 < 10 := h.2 _ (by rw [List.getD_eq_getElem?_getD, List.getElem?_eq_getElem hjl]; exact List.getElem_mem hjl)
  by_cases e : j = k
  · subst e; rw [dcr_same hjl] at hd'; omega
  · rw [dcr_ne e] at hd'; omega⟩
theorem pow10_ok {k : Nat} (h : k ≤ 8) : binI .Pow 10 (k : Int) = some (.int ((10 ^ k : Nat) : Int)) := by
  rw [pow_ok (show bits 10 * k ≤ big by rw [big_eq, show bits 10 = 4 by decide]; lia)]
  exact congrArg (fun z => some (V.int z)) (Int.natCast_pow 10 k).symm
theorem p10_lt {k : Nat} (h : k ≤ 8) : 10 ^ k ≤ 100000000 := Nat.pow_le_pow_right (n := 10) (by decide) h
theorem mul10_ok {k c : Nat} (h : k ≤ 8) (hc : c ≤ 100) : binI .Mult ((10 ^ k : Nat) : Int) (c : Int) = some (.int ((10 ^ k * c : Nat) : Int)) := by
  have b1 : bits ((10 ^ k : Nat) : Int) ≤ 30 := bits_le (by rw [Int.natAbs_natCast]; have := p10_lt h; lia)
  have b2 : bits (c : Int) ≤ 30 := bits_le (by rw [Int.natAbs_natCast]; lia)
  rw [mul_ok (by rw [big_eq]; lia)]
  exact congrArg (fun z => some (V.int z)) (Int.natCast_mul ..).symm
structure X3 where
  f : List Wy
  k : Option V
  l : Option V
structure X2 where
  f : List Wy
  k : Option V
  r : Option V
  h : Option V
  m : Option V
  l : Option V
structure X1 where
  ws : List Wy
  k : Option V
  t : Option V
  f : Option V
  r : Option V
  h : Option V
  m : Option V
  l : Option V
noncomputable def s3 (CL : List Pr) (w : Wy) (x : X3) (k : Nat) : X3 := ⟨kstep CL w x.f k, some (.int k), if (CL.getD k (0, 0)).1 = w.2.1 ∧ 0 < w.1.getD k 0 then some (.int (val10 (dcr w.1 k) : Nat)) else x.l⟩
noncomputable def s2 (CL : List Pr) (x : X2) (w : Wy) : X2 :=
  let z := (List.range CL.length).foldl (s3 CL w) ⟨x.f, x.k, x.l⟩
  ⟨z.f, z.k, some (.int (val10 w.1 : Nat)), some (lV w.2.1), some (.int w.2.2), z.l⟩
noncomputable def s1 (g : Nat) (CL : List Pr) (x : X1) (t : Nat) : X1 :=
  let z := x.ws.foldl (s2 CL) ⟨[], x.k, x.r, x.h, x.m, x.l⟩
  ⟨z.f, z.k, some (.int t), some (.dict g (encW z.f)), z.r, z.h, z.m, z.l⟩
noncomputable def f3 (g : Nat) (ring pairs : V) (CL : List Pr) (ways turn : V) (w : Wy) (x : X3) : Fr := [some (.v ring), oS x.k, some (.v pairs), some (.v (.list (CL.map pV))), some (.v ways), some (.v turn), some (.od g (encW x.f)), some (.v (.int (val10 w.1 : Nat))), some (.v (lV w.2.1)), some (.v (.int w.2.2)), oS x.l, none, none, none, none]
noncomputable def f2 (g : Nat) (ring pairs : V) (CL : List Pr) (ways turn : V) (x : X2) : Fr := [some (.v ring), oS x.k, some (.v pairs), some (.v (.list (CL.map pV))), some (.v ways), some (.v turn), some (.od g (encW x.f)), oS x.r, oS x.h, oS x.m, oS x.l, none, none, none, none]
noncomputable def f1 (g : Nat) (ring pairs : V) (CL : List Pr) (x : X1) : Fr := [some (.v ring), oS x.k, some (.v pairs), some (.v (.list (CL.map pV))), some (.v (.dict g (encW x.ws))), oS x.t, oS x.f, oS x.r, oS x.h, oS x.m, oS x.l, none, none, none, none]
theorem s3_f (CL : List Pr) (w : Wy) (l : List Nat) : ∀ x : X3, (l.foldl (s3 CL w) x).f = l.foldl (kstep CL w) x.f := by
  induction l with
  | nil => exact fun _ => rfl
  | cons k r ih => exact fun x => ih (s3 CL w x k)
theorem s2_f (CL : List Pr) (l : List Wy) : ∀ x : X2, (l.foldl (s2 CL) x).f = l.foldl (fun f w => (List.range CL.length).foldl (kstep CL w) f) x.f := by
  induction l with
  | nil => exact fun _ => rfl
  | cons w r ih =>
    intro x
    rw [List.foldl_cons, List.foldl_cons, ih]
    exact congrArg (fun z => List.foldl _ z r) (s3_f CL w _ _)
theorem s1_ws (g : Nat) (CL : List Pr) (x : X1) (t : Nat) : (s1 g CL x t).ws = wturn CL x.ws := s2_f CL x.ws _
theorem kstep_len {CL : List Pr} {w : Wy} {f : List Wy} {k : Nat} : (kstep CL w f k).length ≤ f.length + if decide ((CL.getD k (0, 0)).1 = w.2.1) = true then 1 else 0 := by
  unfold kstep
  by_cases q : (CL.getD k (0, 0)).1 = w.2.1 ∧ 0 < w.1.getD k 0
  · rw [if_pos q, if_pos (decide_eq_true q.1)]; exact wset_len
  · rw [if_neg q]; exact Nat.le_add_right ..
theorem kstep_vd {CL : List Pr} {w : Wy} {f : List Wy} {k L : Nat} (hw : Vd L w.1) (hf : ∀ z ∈ f, Vd L z.1) : ∀ z ∈ kstep CL w f k, Vd L z.1 := by
  unfold kstep
  split
  · exact fun z hz => (wset_mem hz).elim (hf z) fun e => e ▸ vd_dcr hw
  · exact hf
section
variable {p : Prog} {g k : Nat} {c : Cx} {CL : List Pr}
theorem run3 (hL : CL.length ≤ 8) {ring pairs ways turn : V} {w : Wy} (hw : Vd CL.length w.1) {x : X3} (hx : ∀ z ∈ x.f, Vd CL.length z.1) (hl : x.f.length ≤ 4000000) {j : Nat} (hj : j < CL.length) :
    ((f3 g ring pairs CL ways turn w x).bind (.one 1) (.int j)).bind (exs c (.cons (.ite (.ite (.p2 (cmpV .Eq) (.p2 subV (.pe subV 3 (.var 1)) (.cst (.int 0))) (.var 8)) (.p2 (cmpV .Gt) (.p2 (binV .Mod) (.p2 (binV .FloorDiv) (.var 7) (.p2 (binV .Pow) (.cst (.int 10)) (.var 1))) (.cst (.int 10))) (.cst (.int 0))) (.cst (.bool false))) (.cons (.asg .v 10 (.p2 (binV .Sub) (.var 7) (.p2 (binV .Pow) (.cst (.int 10)) (.var 1)))) (.cons (.asgS 6 (.var 10) (.pn tupN (.cons (.p2 subV (.pe subV 3 (.var 1)) (.cst (.int 1))) (.cons (.p2 (binV .Add) (.var 9) (.ite (.pe inV 6 (.var 10)) (.p2 subV (.pe subV 6 (.var 10)) (.cst (.int 1))) (.cst (.int 0)))) .nil)))) .nil)) .nil) .nil)) = some (.next, f3 g ring pairs CL ways turn w (s3 CL w x j)) := by
  obtain ⟨f, k0, l0⟩ := x
  obtain ⟨wd, wh, wm⟩ := w
  have hl : f.length ≤ 4000000 := hl
  have hj8 : j ≤ 8 := by lia
  have ec : (CL.map pV)[j]? = some (pV (CL.getD j (0, 0))) := by
    rw [List.getElem?_map, List.getD_eq_getElem?_getD, List.getElem?_eq_getElem hj]; rfl
  generalize hc : CL.getD j (0, 0) = cc at ec
  obtain ⟨c1, c2⟩ := cc
  have hp := p10_lt hj8
  have hp1 : 0 < 10 ^ j := Nat.pow_pos (by decide)
  have ed : binI .FloorDiv (val10 wd : Nat) ((10 ^ j : Nat) : Int) = some (.int ((val10 wd / 10 ^ j : Nat) : Int)) := by
    rw [fdiv_ok (by lia) (by rw [Int.natAbs_natCast]; lia), fdiv_nat]
  have em : binI .Mod ((val10 wd / 10 ^ j : Nat) : Int) 10 = some (.int (wd.getD j 0 : Nat)) := by
    rw [mod_ok (by decide), show (10 : Int) = ((10 : Nat) : Int) from rfl, fmod_nat, v10_digit hw.2]
  dsimp only [f3, s3, lV]
  walk_at "EV"
  simp only [fz_oS]
  walk_at "EV"
  rw [sub_list, ec]
  dsimp only [pV]
  walk_at "EV"
  rw [ls_beq]
  unfold kstep
  dsimp only
  rw [hc]
  by_cases q1 : c1 = wh
  · rw [q1, beq_self_eq_true]
    walk_at "EV"
    rw [pow10_ok hj8]
    walk_at "EV"
    rw [ed]
    walk_at "EV"
    rw [em]
    walk_at "EV"
    by_cases q2 : 0 < wd.getD j 0
    · rw [decide_eq_true (show (0 : Int) < (wd.getD j 0 : Nat) by lia), if_pos ⟨rfl, q2⟩, if_pos ⟨rfl, q2⟩]
      walk_at "EV"
      have es : ((val10 wd : Nat) : Int) - ((10 ^ j : Nat) : Int) = (val10 (dcr wd j) : Nat) := by
        have := v10_dec q2
        lia
      rw [es]
      have e2 : inV (.dict g (encW f)) (.int (val10 (dcr wd j) : Nat)) = some (.bool (wget (dcr wd j) f).isSome) := by
        show some (V.bool (dget (.inr (val10 (dcr wd j) : Nat)) (encW f)).isSome) = _
        rw [dget_W (vd_dcr hw) hx]
        cases wget (dcr wd j) f <;> rfl
      rw [sub_list, ec, e2]
      dsimp only [pV]
      walk_at "EV"
      rw [show dget (Sum.inr ((val10 (dcr wd j) : Nat) : Int)) (encW f) = (wget (dcr wd j) f).map wV from dget_W (vd_dcr hw) hx]
      have e3 : (((bif (wget (dcr wd j) f).isSome then ((wget (dcr wd j) f).map wV).bind fun x => subV x (.int 1) else some (.int 0)).bind (binV .Add (.int wm))) : Option V) = some (.int ((wm + (wget (dcr wd j) f).elim 0 (·.2) : Nat) : Int)) := by
        cases wget (dcr wd j) f with
        | none => exact congrArg (fun z => some (V.int z)) (Int.natCast_add wm 0).symm
        | some u => exact congrArg (fun z => some (V.int z)) (Int.natCast_add wm u.2).symm
      rw [e3]
      walk_at "EV"
      have hfit : (encW f).length + 1 ≤ big := by unfold encW; rw [List.length_map, big_eq]; lia
      rw [if_pos hfit, show dset (Sum.inr ((val10 (dcr wd j) : Nat) : Int)) (.tup [.str (ls c2), .int ((wm + (wget (dcr wd j) f).elim 0 (·.2) : Nat) : Int)]) (encW f) = _ from dset_W (vd_dcr hw) (v := (c2, wm + (wget (dcr wd j) f).elim 0 (·.2))) hx]
      rfl
    · rw [decide_eq_false (show ¬ (0 : Int) < (wd.getD j 0 : Nat) by lia), if_neg fun h => q2 h.2, if_neg fun h => q2 h.2]
      rfl
  · rw [beq_no q1, if_neg fun h => q1 h.1, if_neg fun h => q1 h.1]
    rfl
theorem kfold_len (hn : CL.Nodup) (h5 : ∀ c ∈ CL, c.2 < 5) {w : Wy} {f : List Wy} : ((List.range CL.length).foldl (kstep CL w) f).length ≤ f.length + 5 := by
  have key : ∀ (l : List Nat) (f : List Wy), (l.foldl (kstep CL w) f).length ≤ f.length + l.countP fun k => decide ((CL.getD k (0, 0)).1 = w.2.1) := fun l => by
    induction l with
    | nil => exact fun f => Nat.le_refl _
    | cons k r ih =>
      intro f
      have h1 := ih (kstep CL w f k)
      have h2 := kstep_len (CL := CL) (w := w) (f := f) (k := k)
      rw [List.countP_cons, List.foldl_cons]
      lia
  exact Nat.le_trans (key _ f) (Nat.add_le_add_left (next5 hn h5 _) _)
theorem wturn_len (hn : CL.Nodup) (h5 : ∀ c ∈ CL, c.2 < 5) {ws : List Wy} : (wturn CL ws).length ≤ 5 * ws.length := by
  have key : ∀ (l f : List Wy), (l.foldl (fun f w => (List.range CL.length).foldl (kstep CL w) f) f).length ≤ f.length + 5 * l.length := fun l => by
    induction l with
    | nil => exact fun f => Nat.le_refl _
    | cons w r ih =>
      intro f
      have h1 := ih ((List.range CL.length).foldl (kstep CL w) f)
      have h2 := kfold_len hn h5 (w := w) (f := f)
      rw [List.foldl_cons, List.length_cons]
      lia
  exact Nat.le_trans (key ws []) (Nat.le_of_eq (Nat.zero_add _))
theorem kfold_vd {w : Wy} {L : Nat} (hw : Vd L w.1) (l : List Nat) : ∀ f : List Wy, (∀ z ∈ f, Vd L z.1) → ∀ z ∈ l.foldl (kstep CL w) f, Vd L z.1 := by
  induction l with
  | nil => exact fun _ h => h
  | cons k r ih => exact fun f h => ih _ (kstep_vd hw h)
theorem wget_of {ws : List Wy} (hn : (ws.map (·.1)).Nodup) {w : Wy} (h : w ∈ ws) : wget w.1 ws = some w.2 := by
  induction ws with
  | nil => exact absurd h List.not_mem_nil
  | cons q r ih =>
    have hn := List.nodup_cons.mp hn
    unfold wget
    rcases List.mem_cons.mp h with e | e
    · subst e; exact if_pos rfl
    · rw [if_neg fun (e' : w.1 = q.1) => hn.1 (List.mem_map.mpr ⟨w, e, e'⟩), ih hn.2 e]
noncomputable def body3 : Ss := .cons (.ite (.ite (.p2 (cmpV .Eq) (.p2 subV (.pe subV 3 (.var 1)) (.cst (.int 0))) (.var 8)) (.p2 (cmpV .Gt) (.p2 (binV .Mod) (.p2 (binV .FloorDiv) (.var 7) (.p2 (binV .Pow) (.cst (.int 10)) (.var 1))) (.cst (.int 10))) (.cst (.int 0))) (.cst (.bool false))) (.cons (.asg .v 10 (.p2 (binV .Sub) (.var 7) (.p2 (binV .Pow) (.cst (.int 10)) (.var 1)))) (.cons (.asgS 6 (.var 10) (.pn tupN (.cons (.p2 subV (.pe subV 3 (.var 1)) (.cst (.int 1))) (.cons (.p2 (binV .Add) (.var 9) (.ite (.pe inV 6 (.var 10)) (.p2 subV (.pe subV 6 (.var 10)) (.cst (.int 1))) (.cst (.int 0)))) .nil)))) .nil)) .nil) .nil
noncomputable def body2 : Ss := .cons (.asgT [8, 9] (.pe subV 4 (.var 7))) (.cons (.for (.one 1) (.one itemsOf (.p1 (rngV (.int 0)) (.pv lenV 3))) body3) .nil)
theorem run2 (hL : CL.length ≤ 8) (hn : CL.Nodup) (h5 : ∀ c ∈ CL, c.2 < 5) {ring pairs turn : V} {ws : List Wy} (hws : ∀ z ∈ ws, Vd CL.length z.1) (hnd : (ws.map (·.1)).Nodup) {w : Wy} (hw : w ∈ ws) {x : X2} (hx : ∀ z ∈ x.f, Vd CL.length z.1) (hl : x.f.length ≤ 3000000) :
    ((f2 g ring pairs CL (.dict g (encW ws)) turn x).bind (.one 7) (.int (val10 w.1 : Nat))).bind (exs c body2) = some (.next, f2 g ring pairs CL (.dict g (encW ws)) turn (s2 CL x w)) := by
  have eg : dget (Sum.inr ((val10 w.1 : Nat) : Int)) (encW ws) = some (wV w.2) := by
    rw [show dget (Sum.inr ((val10 w.1 : Nat) : Int)) (encW ws) = _ from dget_W (hws w hw) hws, wget_of hnd hw]
    rfl
  obtain ⟨f, k0, r0, h0, m0, l0⟩ := x
  have hl : f.length ≤ 3000000 := hl
  dsimp only [f2, body2]
  walk_at "EV"
  simp only [fz_oS]
  walk_at "EV"
  rw [eg]
  dsimp only [wV]
  walk_at "EV"
  simp only [fz_oS]
  walk_at "EV"
  refine bfor (List.range CL.length) (fun (k : Nat) => V.int (k : Int)) (f3 g ring pairs CL (.dict g (encW ws)) turn w) (s3 CL w) (fun rem x => (∀ j ∈ rem, j < CL.length) ∧ (∀ z ∈ x.f, Vd CL.length z.1) ∧ x.f.length + rem.countP (fun k => decide ((CL.getD k (0, 0)).1 = w.2.1)) ≤ 4000000) ⟨f, k0, l0⟩ ?hit ?frm ⟨fun j hj => List.mem_range.mp hj, hx, ?ln⟩ (fun j r y hy => ⟨?st, ?nx⟩) fun hy => ?fin
  case hit =>
    walk_at "EV"
    simp only [fz_oS]
    walk_at "EV"
    rw [List.length_map]
    exact itm_rng (by rw [big_eq]; lia)
  case frm =>
    walk_at "EV"
    simp only [fz_oS]
    walk_at "EV"
    try simp only [fz_oS]
    try walk_at "EV"
    rfl
  case ln =>
    have := next5 hn h5 w.2.1
    show f.length + _ ≤ _
    lia
  case st => exact run3 hL (hws w hw) hy.2.1 (Nat.le_trans (Nat.le_add_right _ _) hy.2.2) (hy.1 j (List.mem_cons_self ..))
  case nx =>
    refine ⟨fun i hi => hy.1 i (List.mem_cons_of_mem _ hi), kstep_vd (hws w hw) hy.2.1, ?_⟩
    have h1 := kstep_len (CL := CL) (w := w) (f := y.f) (k := j)
    have h2 := hy.2.2
    rw [List.countP_cons] at h2
    show (kstep CL w y.f j).length + _ ≤ _
    lia
  case fin => rfl
noncomputable def bodyW : Ss := .cons (.asg .o 6 (.dct .nil .nil)) (.cons (.for (.one 7) (.one itemsOf (.var 4)) body2) (.cons (.asg .v 4 (.var 6)) .nil))
theorem run1 (hg : c.gen = g) (hL : CL.length ≤ 8) (hn : CL.Nodup) (h5 : ∀ c ∈ CL, c.2 < 5) {ring pairs : V} {t : Nat} {x : X1} (hws : ∀ z ∈ x.ws, Vd CL.length z.1) (hnd : (x.ws.map (·.1)).Nodup) (hl : x.ws.length ≤ 400000) :
    ((f1 g ring pairs CL x).bind (.one 5) (.int t)).bind (exs c bodyW) = some (.next, f1 g ring pairs CL (s1 g CL x t)) := by
  obtain ⟨ws, k0, t0, f0, r0, h0, m0, l0⟩ := x
  have hl : ws.length ≤ 400000 := hl
  dsimp only [f1, bodyW]
  walk_at "EV"
  simp only [fz_oS]
  walk_at "EV"
  rw [hg]
  refine bfor ws (fun w => V.int (val10 w.1 : Nat)) (f2 g ring pairs CL (.dict g (encW ws)) (.int t)) (s2 CL) (fun rem x => (∀ w ∈ rem, w ∈ ws) ∧ (∀ z ∈ x.f, Vd CL.length z.1) ∧ x.f.length + 5 * rem.length ≤ 2000000) ⟨[], k0, r0, h0, m0, l0⟩ ?hit ?frm ⟨fun w hw => hw, fun z hz => absurd hz List.not_mem_nil, ?ln⟩ (fun w r y hy => ⟨?st, ?nx⟩) fun hy => ?fin
  case hit =>
    walk_at "EV"
    simp only [fz_oS]
    walk_at "EV"
    unfold encW
    rw [List.map_map]
    rfl
  case frm =>
    walk_at "EV"
    simp only [fz_oS]
    walk_at "EV"
    try simp only [fz_oS]
    try walk_at "EV"
    rfl
  case ln =>
    show 0 + 5 * ws.length ≤ _
    lia
  case st => exact run2 hL hn h5 hws hnd (hy.1 w (List.mem_cons_self ..)) hy.2.1 (by have := hy.2.2; lia)
  case nx =>
    have hw := hws w (hy.1 w (List.mem_cons_self ..))
    have e : (s2 CL y w).f = (List.range CL.length).foldl (kstep CL w) y.f := s3_f CL w _ _
    refine ⟨fun i hi => hy.1 i (List.mem_cons_of_mem _ hi), ?_, ?_⟩
    · rw [e]; exact kfold_vd hw _ _ hy.2.1
    · rw [e]
      have h1 := kfold_len hn h5 (w := w) (f := y.f)
      have h2 := hy.2.2
      rw [List.length_cons] at h2
      lia
  case fin =>
    unfold s1
    dsimp only
    generalize ws.foldl (s2 CL) ⟨[], k0, r0, h0, m0, l0⟩ = z
    obtain ⟨z1, z2, z3, z4, z5, z6⟩ := z
    dsimp only [f2]
    walk_at "EV"
    simp only [fz_oS]
    walk_at "EV"
    simp only [fz_oS]
    rfl
end
abbrev VS5 : List Nat := List.range 5
noncomputable def prs : List Nat → List Pr
  | [] => []
  | a :: r => match r with
    | [] => []
    | b :: _ => (a, b) :: prs r
theorem prs_range {rs : List Nat} : ∀ {n : Nat}, rs.length = n + 1 → prs rs = (List.range n).map fun i => (rs.getD i 0, rs.getD (i + 1) 0) := by
  induction rs with
  | nil => exact fun h => Nat.noConfusion h
  | cons a r ih =>
    intro n h
    cases r with
    | nil =>
      have : n = 0 := (Nat.succ.inj h).symm
      subst this
      rfl
    | cons b r =>
      cases n with
      | zero => exact Nat.noConfusion (Nat.succ.inj h)
      | succ n =>
        show (a, b) :: prs (b :: r) = _
        rw [ih (Nat.succ.inj h), List.range_succ_eq_map, List.map_cons, List.map_map]
        rfl
theorem prs_path {rs : List Nat} (h5 : ∀ r ∈ rs, r < 5) : ∀ {n : Nat}, rs.length = n + 1 → Path VS5 (rs.getD 0 0) (prs rs) (rs.getD n 0) := by
  induction rs with
  | nil => exact fun h => Nat.noConfusion h
  | cons a r ih =>
    intro n h
    cases r with
    | nil =>
      have : n = 0 := (Nat.succ.inj h).symm
      subst this
      exact .nil
    | cons b r =>
      cases n with
      | zero => exact Nat.noConfusion (Nat.succ.inj h)
      | succ n => exact .cons (List.mem_range.mpr (h5 b (List.mem_cons_of_mem _ (List.mem_cons_self ..)))) (ih (fun z hz => h5 z (List.mem_cons_of_mem _ hz)) (Nat.succ.inj h))
theorem prs_len {rs : List Nat} {n : Nat} (h : rs.length = n + 1) : (prs rs).length = n := by rw [prs_range h, List.length_map, List.length_range]
theorem prs_mem {rs : List Nat} (h5 : ∀ r ∈ rs, r < 5) : ∀ c ∈ prs rs, c.1 < 5 ∧ c.2 < 5 := by
  induction rs with
  | nil => exact fun c hc => absurd hc List.not_mem_nil
  | cons a r ih =>
    cases r with
    | nil => exact fun c hc => absurd hc List.not_mem_nil
    | cons b r =>
      intro c hc
      rcases List.mem_cons.mp hc with e | hc
      · subst e; exact ⟨h5 a (List.mem_cons_self ..), h5 b (List.mem_cons_of_mem _ (List.mem_cons_self ..))⟩
      · exact ih (fun z hz => h5 z (List.mem_cons_of_mem _ hz)) c hc
theorem sum_nat {l : List Nat} {f : Nat → Nat} : (l.map fun k => ((f k : Nat) : Int)).sum = ((gsum l f : Nat) : Int) := by
  induction l with
  | nil => rfl
  | cons x r ih =>
    rw [List.map_cons, List.sum_cons, ih]
    exact (Int.natCast_add ..).symm
section
variable {p : Prog} {g k : Nat}
theorem runs_run (h : Sh1 p) {rs : List Nat} (h5 : ∀ r ∈ rs, r < 5) {n : Nat} (hlen : rs.length = n + 1) (hn8 : n ≤ 8) : (run p g (k + 2)).call 15 [.list (rs.map lV)] = some (.int (walks VS5 n (gr (prs rs)) (rs.getD 0 0) : Nat)) := by
  have hPl := prs_len hlen
  have hCn : (fs [] (prs rs)).Nodup := fs_nodup
  have hCl : (fs [] (prs rs)).length ≤ 8 := Nat.le_trans fs_len (hPl ▸ hn8)
  have hCm : ∀ c ∈ fs [] (prs rs), c.1 < 5 ∧ c.2 < 5 := fun c hc => prs_mem h5 c (fs_mem.mp hc).1
  have hPC : ∀ q ∈ prs rs, q ∈ fs [] (prs rs) := fun q hq => fs_mem.mpr ⟨hq, List.not_mem_nil⟩
  have C : CLk VS5 (fs [] (prs rs)) := ⟨List.nodup_range, hCn, fun c hc => ⟨List.mem_range.mpr (hCm c hc).1, List.mem_range.mpr (hCm c hc).2⟩⟩
  have ha : rs.getD 0 0 ∈ VS5 := by
    cases rs with
    | nil => exact Nat.noConfusion hlen
    | cons a r => exact List.mem_range.mpr (h5 a (List.mem_cons_self ..))
  have hp := prs_path h5 hlen
  obtain ⟨hB, hT⟩ := path_bal List.nodup_range hp ha
  have hW := path_walks hp
  rw [hPl] at hT hW
  have hdg := dg_gr hCn hPC
  rw [run_call, h.f15]
  dsimp only [fn15]
  walk_at "EV"
  rw [lc_map (List.range n) (fun (i : Nat) => V.int ((i + 1 : Nat) : Int)) (fun i => pV (rs.getD i 0, rs.getD (i + 1) 0)) ?hit (fun i hi => ?st) (by rw [List.length_range, big_eq]; lia)]
  case hit =>
    walk_at "EV"
    rw [List.length_map, hlen]
    exact itm_rng1 (by rw [big_eq]; lia)
  case st =>
    have hi := List.mem_range.mp hi
    have g1 : ∀ j, j < n + 1 → (rs.map lV)[j]? = some (lV (rs.getD j 0)) := fun j hj => by
      rw [List.getElem?_map, List.getD_eq_getElem?_getD, List.getElem?_eq_getElem (hlen ▸ hj)]; rfl
    walk_at "EV"
    rw [show ((i + 1 : Nat) : Int) - 1 = (i : Nat) by lia, sub_list, g1 i (by lia), sub_list, g1 (i + 1) (by lia)]
    rfl
  rw [map_map_v pV (fun i => (rs.getD i 0, rs.getD (i + 1) 0)), ← prs_range hlen]
  generalize hPR : prs rs = PR at *
  generalize hCL : fs [] PR = CL at *
  walk_at "EV"
  rw [firsts_ok h enc_p (by lia), hCL]
  walk_at "EV"
  have ec : ∀ j, j < CL.length → (CL.map pV)[j]? = some (pV (CL.getD j (0, 0))) := fun j hj => by
    rw [List.getElem?_map, List.getD_eq_getElem?_getD, List.getElem?_eq_getElem hj]; rfl
  have hcl : (cnts CL PR).length = CL.length := List.length_map ..
  have hcg : ∀ j, j < CL.length → (cnts CL PR).getD j 0 = PR.countP fun q => decide (q = CL.getD j (0, 0)) := fun j hj => by
    unfold cnts
    rw [List.getD_eq_getElem?_getD, List.getElem?_map, List.getD_eq_getElem?_getD, List.getElem?_eq_getElem hj]
    rfl
  rw [lc_map (List.range CL.length) (fun (i : Nat) => V.int (i : Int)) (fun i => V.int ((10 ^ i * (cnts CL PR).getD i 0 : Nat) : Int)) ?hit2 (fun i hi => ?st2) (by rw [List.length_range, big_eq]; lia)]
  case hit2 =>
    walk_at "EV"
    rw [List.length_map]
    exact itm_rng (by rw [big_eq]; lia)
  case st2 =>
    have hi := List.mem_range.mp hi
    have hc9 : (cnts CL PR).getD i 0 ≤ 100 := by
      rw [hcg i hi]
      have : PR.countP (fun q => decide (q = CL.getD i (0, 0))) ≤ PR.length := List.countP_le_length
      lia
    walk_at "EV"
    rw [pow10_ok (by lia), sub_list, ec i hi]
    walk_at "EV"
    rw [count_ok enc_p, ← hcg i hi]
    walk_at "EV"
    rw [mul10_ok (by lia) hc9]
  have ev : sumV (.list ((List.range CL.length).map fun i => V.int ((10 ^ i * (cnts CL PR).getD i 0 : Nat) : Int))) = some (.int (val10 (cnts CL PR) : Nat)) := by
    rw [sum_map, sum_nat, v10_sum, hcl]
  have e0 : (rs.map lV)[0]? = some (lV (rs.getD 0 0)) := by
    rw [List.getElem?_map, List.getD_eq_getElem?_getD, List.getElem?_eq_getElem (by lia)]; rfl
  walk_at "EV"
  rw [ev]
  walk_at "EV"
  rw [show subV (.list (rs.map lV)) (.int 0) = some (lV (rs.getD 0 0)) from (sub_list (n := 0)).trans e0]
  walk_at "EV"
  rw [run_gen]
  generalize hW0 : walks VS5 n (gr PR) (rs.getD 0 0) = W at *
  refine mfor (List.range n) (fun (i : Nat) => V.int (i : Int)) (f1 g (.list (rs.map lV)) (.list (PR.map pV)) CL) (s1 g CL) (fun rem x => WsOk VS5 CL (rs.getD n 0) rem.length x.ws ∧ Phi VS5 CL rem.length x.ws = W ∧ x.ws.length * 5 ^ rem.length ≤ 400000) ⟨[(cnts CL PR, rs.getD 0 0, 1)], none, none, none, none, none, none, none⟩ ?hit3 rfl ?p0 (fun t r x hx => ⟨?st3, ?nx3⟩) fun hx => ?fin
  case hit3 =>
    walk_at "EV"
    rw [List.length_map, hPl]
    exact itm_rng (by rw [big_eq]; lia)
  case p0 =>
    rw [List.length_range]
    refine ⟨⟨fun w hw => ?_, List.nodup_cons.mpr ⟨List.not_mem_nil, .nil⟩⟩, ?_, ?_⟩
    · cases List.mem_singleton.mp hw
      refine ⟨hcl, fun d hd => ?_, ha, ?_, ?_⟩
      · obtain ⟨c, _, e⟩ := List.mem_map.mp hd
        have : PR.countP (fun q => decide (q = c)) ≤ PR.length := List.countP_le_length
        lia
      · show Bal VS5 (dgL CL (cnts CL PR)) _ _
        rw [hdg]; exact hB
      · show totD VS5 (dgL CL (cnts CL PR)) = n
        rw [hdg]; exact hT
    · show 1 * walks VS5 n (dgL CL (cnts CL PR)) (rs.getD 0 0) + 0 = W
      rw [hdg, hW0, Nat.one_mul]
      rfl
    · have : 5 ^ n ≤ 5 ^ 8 := Nat.pow_le_pow_right (by decide) hn8
      show 1 * 5 ^ n ≤ 400000
      lia
  case st3 =>
    obtain ⟨x1, x2, x3⟩ := hx
    have hl : x.ws.length ≤ 400000 := Nat.le_trans (Nat.le_mul_of_pos_right _ (Nat.pow_pos (by decide))) x3
    exact run1 run_gen hCl hCn (fun c hc => (hCm c hc).2) (fun z hz => ⟨(x1.each z hz).len, (x1.each z hz).lt⟩) x1.nd hl
  case nx3 =>
    obtain ⟨x1, x2, x3⟩ := hx
    have q := wturn_ok C x1
    rw [s1_ws]
    refine ⟨q.1, q.2.trans x2, ?_⟩
    have q3 := wturn_len hCn (fun c hc => (hCm c hc).2) (ws := x.ws)
    have x3 : x.ws.length * 5 ^ (r.length + 1) ≤ 400000 := x3
    rw [Nat.pow_succ] at x3
    have : (wturn CL x.ws).length * 5 ^ r.length ≤ 5 * x.ws.length * 5 ^ r.length := Nat.mul_le_mul_right _ q3
    have e : 5 * x.ws.length * 5 ^ r.length = x.ws.length * (5 ^ r.length * 5) := by rw [Nat.mul_comm 5, Nat.mul_assoc, Nat.mul_comm 5]
    lia
  case fin =>
    generalize (List.range n).foldl (s1 g CL) _ = z at hx
    obtain ⟨x1, x2, _⟩ := hx
    obtain ⟨y, e⟩ := ways_end C x1 (by rw [show Phi VS5 CL 0 z.ws = W from x2]; exact hW)
    rw [show Phi VS5 CL 0 z.ws = W from x2] at e
    obtain ⟨zw, z2, z3, z4, z5, z6, z7, z8⟩ := z
    have e : zw = _ := e
    subst e
    dsimp only [f1]
    walk_at "EV"
    simp only [fz_oS]
    walk_at "EV"
    have ed : dget (Sum.inr 0) (encW [(List.replicate CL.length 0, y, W)]) = some (wV (y, W)) := by
      show (if (Sum.inr 0 : K) = .inr ((val10 (List.replicate CL.length 0) : Nat) : Int) then _ else _) = _
      rw [v10_zero]
      exact if_pos rfl
    rw [ed]
    rfl
end
noncomputable def mat (n : Nat) (f : Nat → Nat → Int) : List (List Int) := (List.range n).map fun i => (List.range n).map (f i)
noncomputable def upd (f : Nat → Nat → Int) (i j : Nat) (v : Int) : Nat → Nat → Int := fun a b => if a = i ∧ b = j then v else f a b
theorem mat_row {n i : Nat} {f : Nat → Nat → Int} (h : i < n) : (mat n f)[i]? = some ((List.range n).map (f i)) := by
  unfold mat
  rw [List.getElem?_map, List.getElem?_range h]
  rfl
theorem mat_len {n : Nat} {f : Nat → Nat → Int} : (mat n f).length = n := by unfold mat; rw [List.length_map, List.length_range]
theorem mat_at {n i j : Nat} {f : Nat → Nat → Int} (hi : i < n) (hj : j < n) : sub2V (.rows (mat n f)) (.tup [.int i, .int j]) = some (.int (f i j)) := by
  show (if (0 : Int) ≤ (i : Nat) ∧ (0 : Int) ≤ (j : Nat) then ((mat n f)[((i : Nat) : Int).toNat]?).bind fun r => (r[((j : Nat) : Int).toNat]?).map V.int else none) = _
  rw [if_pos ⟨Int.natCast_nonneg i, Int.natCast_nonneg j⟩, Int.toNat_natCast, Int.toNat_natCast, mat_row hi, Option.bind_some, List.getElem?_map, List.getElem?_range hj]
  rfl
theorem row_set {n i j : Nat} {f : Nat → Nat → Int} {v : Int} : ((List.range n).map (f i)).set j v = (List.range n).map (upd f i j v i) := by
  refine List.ext_getElem? fun b => ?_
  rcases Nat.lt_or_ge b n with h | h
  · by_cases q : j = b
    · subst q
      rw [List.getElem?_set_self (by rw [List.length_map, List.length_range]; exact h), List.getElem?_map, List.getElem?_range h]
      exact congrArg some (if_pos ⟨rfl, rfl⟩).symm
    · rw [List.getElem?_set_ne q, List.getElem?_map, List.getElem?_map, List.getElem?_range h]
      exact congrArg some (if_neg fun e => q e.2.symm).symm
  · rw [List.getElem?_eq_none (by rw [List.length_set, List.length_map, List.length_range]; exact h), List.getElem?_eq_none (by rw [List.length_map, List.length_range]; exact h)]
theorem mat_set {n i j : Nat} {f : Nat → Nat → Int} {v : Int} : (mat n f).modify i (fun xs => xs.set j v) = mat n (upd f i j v) := by
  refine List.ext_getElem? fun a => ?_
  rw [List.getElem?_modify]
  rcases Nat.lt_or_ge a n with h | h
  · rw [mat_row h, mat_row h]
    show some (if i = a then ((List.range n).map (f a)).set j v else (List.range n).map (f a)) = _
    refine congrArg some ?_
    by_cases q : i = a
    · subst q
      rw [if_pos rfl]
      exact row_set
    · rw [if_neg q]
      refine List.map_congr_left fun b _ => ?_
      unfold upd
      rw [if_neg fun e => q e.1.symm]
  · rw [List.getElem?_eq_none (by rw [mat_len]; exact h), List.getElem?_eq_none (by rw [mat_len]; exact h)]
    rfl
theorem upd_hit {f : Nat → Nat → Int} {i j : Nat} {v : Int} : upd f i j v i j = v := if_pos ⟨rfl, rfl⟩
theorem upd_no {f : Nat → Nat → Int} {i j a b : Nat} {v : Int} (h : ¬ (a = i ∧ b = j)) : upd f i j v a b = f a b := if_neg h
theorem lc_two {α : Type} {c : Cx} {m : Fr} {elt : E} {t t2 : Tg} {it it2 : It} {cap : List (Nat × Nat)} {n : Nat} (xs : List α) (e : α → V) (g : α → List V) (hit : evIt c m it = some (xs.map e))
    (h : ∀ x ∈ xs, ((m.capture noF cap n).bindN t (e x)).bind (fun m' => (evIt c m' it2).bind (fm fun y => (m'.bindN t2 y).bind fun m'' => (ev c m'' elt).map fun v => [v])) = some (g x)) (hl : (xs.flatMap g).length ≤ big) : ev c m (.lcomp elt (.cons t it .nil (.cons t2 it2 .nil .nil)) cap n) = some (.list (xs.flatMap g)) := by
  show ((evIt c m it).bind (fm _)).bind _ = _
  rw [hit, Option.bind_some, fm_mapF h, Option.bind_some, if_pos hl]
noncomputable def PK (n k : Nat) : List Pr := (List.range (n - (k + 1))).flatMap fun a => (List.range (n - (k + 1))).map fun b => (k + 1 + a, k + 1 + b)
theorem PK_mem {n k : Nat} {q : Pr} : q ∈ PK n k ↔ (k < q.1 ∧ q.1 < n) ∧ (k < q.2 ∧ q.2 < n) := by
  constructor
  · intro h
    obtain ⟨a, ha, h⟩ := List.mem_flatMap.mp h
    obtain ⟨b, hb, e⟩ := List.mem_map.mp h
    subst e
    exact ⟨⟨Nat.lt_add_right a (Nat.lt_succ_self k), Nat.add_lt_of_lt_sub' (List.mem_range.mp ha)⟩, Nat.lt_add_right b (Nat.lt_succ_self k), Nat.add_lt_of_lt_sub' (List.mem_range.mp hb)⟩
  · intro h
    exact List.mem_flatMap.mpr ⟨q.1 - (k + 1), List.mem_range.mpr (Nat.sub_lt_sub_right h.1.1 h.1.2), List.mem_map.mpr ⟨q.2 - (k + 1), List.mem_range.mpr (Nat.sub_lt_sub_right h.2.1 h.2.2), Prod.ext (Nat.add_sub_of_le h.1.1) (Nat.add_sub_of_le h.2.1)⟩⟩
theorem PK_nodup {n k : Nat} : (PK n k).Nodup := by
  unfold PK
  refine List.pairwise_flatMap.mpr ⟨fun a _ => ?_, ?_⟩
  · refine List.pairwise_map.mpr (List.nodup_range.imp fun {x y} ne e => ne ?_)
    have := congrArg Prod.snd e
    dsimp only at this
    omega
  · refine List.nodup_range.imp fun {x y} ne z1 h1 z2 h2 e => ne ?_
    subst e
    obtain ⟨_, _, e1⟩ := List.mem_map.mp h1
    obtain ⟨_, _, e2⟩ := List.mem_map.mp h2
    have := congrArg Prod.fst (e1.trans e2.symm)
    dsimp only at this
    omega
theorem itm_rng2 {k n : Nat} (h : n ≤ 1000) (hk : k ≤ 1000) : itemsOf (.rng ((k : Int) + 1) n) = some ((List.range (n - (k + 1))).map fun (a : Nat) => V.int ((k + 1 + a : Nat) : Int)) := by
  have e : rngList ((k : Int) + 1) n = (List.range (n - (k + 1))).map fun (a : Nat) => V.int ((k + 1 + a : Nat) : Int) := by
    unfold rngList
    rw [show ((n : Int) - ((k : Int) + 1)).toNat = n - (k + 1) by omega]
    exact congrArg (fun f => (List.range (n - (k + 1))).map f) (funext fun a => congrArg V.int (by omega))
  refine (if_pos ⟨?_, ?_, ?_⟩).trans (congrArg some e) <;> rw [big_eq] <;> omega
structure Bx (n : Nat) (B : Nat → Nat → Nat → Int) (l : Nat → Int) : Prop where
  l0 : l 0 = 1
  ls : ∀ k, l (k + 1) = B k k k
  ex : ∀ k i j, k < i → i < n → k < j → j < n → B (k + 1) i j * l k = B k k k * B k i j - B k i k * B k k j
  nz : ∀ k, k + 1 < n → l k ≠ 0
  sm : ∀ k i j, i < n → j < n → (B k i j).natAbs ≤ 1048576
  sl : ∀ k, (l k).natAbs ≤ 1048576
structure D2 where
  f : Nat → Nat → Int
  i : Option V
  j : Option V
  t : Option V
noncomputable def d2F (n : Nat) (book out names : V) (l : Int) (k : Nat) (x : D2) : Fr := [some (.v book), some (.v out), some (.v names), some (.oll (mat n x.f)), some (.v (.int l)), some (.v (.int k)), oS x.i, oS x.j, oS x.t, none, none, none]
noncomputable def d2S (B : Nat → Nat → Nat → Int) (k : Nat) (x : D2) (q : Pr) : D2 := ⟨upd x.f q.1 q.2 (B (k + 1) q.1 q.2), some (.int q.1), some (.int q.2), some (.tup [.int (B (k + 1) q.1 q.2), .int 0])⟩
noncomputable def bodyD : Ss := .cons (.asg .v 8 (.call 8 (.cons (.p2 (binV .Sub) (.p2 (binV .Mult) (.pe sub2V 3 (.pn tupN (.cons (.var 5) (.cons (.var 5) .nil)))) (.pe sub2V 3 (.pn tupN (.cons (.var 6) (.cons (.var 7) .nil))))) (.p2 (binV .Mult) (.pe sub2V 3 (.pn tupN (.cons (.var 6) (.cons (.var 5) .nil)))) (.pe sub2V 3 (.pn tupN (.cons (.var 5) (.cons (.var 7) .nil)))))) (.cons (.var 4) .nil)))) (.cons (.ite (.p2 (cmpV .NotEq) (.pe subV 8 (.cst (.int 1))) (.cst (.int 0))) (.cons (.ret (.cst (.int 0))) .nil) .nil) (.cons (.asgSS 3 (.var 6) (.var 7) (.pe subV 8 (.cst (.int 0)))) .nil))
noncomputable def eltsD : E := .lcomp (.pn tupN (.cons (.var 1) (.cons (.var 2) .nil))) (.cons (.one 1) (.one itemsOf (.p2 rngV (.p2 (binV .Add) (.var 5) (.cst (.int 1))) (.pv lenV 2))) .nil (.cons (.one 2) (.one itemsOf (.p2 rngV (.p2 (binV .Add) (.var 5) (.cst (.int 1))) (.pv lenV 6))) .nil .nil)) [(5, 5), (6, 2)] 7
structure I2 (n : Nat) (B : Nat → Nat → Nat → Int) (k : Nat) (rem : List Pr) (f : Nat → Nat → Int) : Prop where
  old : ∀ i j, i < n → j < n → (i, j) ∈ rem ∨ ¬ (k < i ∧ k < j) → f i j = B (min k (min i j)) i j
  new : ∀ i j, i < n → j < n → (i, j) ∉ rem → k < i → k < j → f i j = B (k + 1) i j
section
variable {p : Prog} {g k0 n : Nat} {B : Nat → Nat → Nat → Int} {l : Nat → Int}
theorem bit20 {a : Int} (h : a.natAbs ≤ 1048576) : bits a ≤ 21 := bits_le (by lia)
theorem exact_div {y l : Int} (h : l ≠ 0) : (y * l).fdiv l = y ∧ (y * l).fmod l = 0 := ⟨Int.mul_fdiv_cancel _ h, Int.mul_fmod_left ..⟩
theorem storeSS_ok {n i j : Nat} {f : Nat → Nat → Int} {v : Int} (hi : i < n) (hj : j < n) : storeSS (.int i) (.int j) (.int v) (.oll (mat n f)) = some (.oll (mat n (upd f i j v))) := by
  have e : ((mat n f).getD ((i : Nat) : Int).toNat []).length = n := by
    rw [Int.toNat_natCast, List.getD_eq_getElem?_getD, mat_row hi]
    show ((List.range n).map (f i)).length = n
    rw [List.length_map, List.length_range]
  refine (if_pos ⟨Int.natCast_nonneg i, Int.natCast_nonneg j, ?_, ?_⟩).trans ?_
  · rw [Int.toNat_natCast, Int.toNat_natCast, mat_set]
  · rw [mat_len]; exact Int.ofNat_lt.mpr hi
  · rw [e]; exact Int.ofNat_lt.mpr hj
theorem stSS_def {m : Fr} {x : Nat} {i j v : V} : storeAtS m x i j v = (m.at x).bind fun s => (storeSS i j v s).map fun s => m.set x (some s) := rfl
theorem runD2 (h : Sh1 p) (hk0 : 21 ≤ k0) (X : Bx n B l) {book out names : V} {k : Nat} {x : D2} {q : Pr} {r : List Pr} (hn : (q :: r).Nodup) (hq : (k < q.1 ∧ q.1 < n) ∧ (k < q.2 ∧ q.2 < n)) (I : I2 n B k (q :: r) x.f) :
    ((d2F n book out names (l k) k x).bind (.many [6, 7]) (.tup [.int q.1, .int q.2])).bind (exs (run p g (k0 + 6)) bodyD) = some (.next, d2F n book out names (l k) k (d2S B k x q)) := by
  obtain ⟨f, i0, j0, t0⟩ := x
  obtain ⟨i, j⟩ := q
  obtain ⟨⟨h1, h2⟩, h3, h4⟩ := hq
  have I : I2 n B k ((i, j) :: r) f := I
  have h1 : k < i := h1
  have h2 : i < n := h2
  have h3 : k < j := h3
  have h4 : j < n := h4
  have hk : k < n := Nat.lt_trans h1 h2
  have f1 : f k k = B k k k := by rw [I.old k k hk hk (.inr fun e => Nat.lt_irrefl _ e.1), Nat.min_self, Nat.min_self]
  have f2 : f i j = B k i j := by rw [I.old i j h2 h4 (.inl (List.mem_cons_self ..)), Nat.min_eq_left (Nat.le_min.mpr ⟨Nat.le_of_lt h1, Nat.le_of_lt h3⟩)]
  have f3 : f i k = B k i k := by rw [I.old i k h2 hk (.inr fun e => Nat.lt_irrefl _ e.2), Nat.min_eq_right (Nat.le_of_lt h1), Nat.min_self]
  have f4 : f k j = B k k j := by rw [I.old k j hk h4 (.inr fun e => Nat.lt_irrefl _ e.1), Nat.min_eq_left (Nat.le_of_lt h3), Nat.min_self]
  have nz := X.nz k (by lia)
  have ex := X.ex k i j h1 h2 h3 h4
  have b1 := bit20 (X.sm k k k hk hk)
  have b2 := bit20 (X.sm k i j h2 h4)
  have b3 := bit20 (X.sm k i k h2 hk)
  have b4 := bit20 (X.sm k k j hk h4)
  have b5 := bit20 (X.sm (k + 1) i j h2 h4)
  have b6 := bit20 (X.sl k)
  have bp : bits (B (k + 1) i j * l k) ≤ 2 ^ 21 := Nat.le_trans (bits_mul b5 b6) (by decide)
  dsimp only [d2F, bodyD]
  walk_at "EV"
  simp only [fz_oS]
  walk_at "EV"
  rw [mat_at hk hk, mat_at h2 h4, mat_at h2 hk, mat_at hk h4, f1, f2, f3, f4]
  walk_at "EV"
  rw [mul_ok (by rw [big_eq]; lia), mul_ok (by rw [big_eq]; lia)]
  walk_at "EV"
  rw [← ex, dm_ok (k := k0) h.toSh nz (by have := X.sl k; lia) bp hk0, (exact_div nz).1, (exact_div nz).2]
  dsimp only [d2S]
  walk_at "EV"
  rw [stSS_def]
  walk_at "EV"
  rw [storeSS_ok h2 h4]
  rfl
theorem I2_next {k : Nat} {q : Pr} {r : List Pr} {f : Nat → Nat → Int} (hn : (q :: r).Nodup) (hq : (k < q.1 ∧ q.1 < n) ∧ (k < q.2 ∧ q.2 < n)) (I : I2 n B k (q :: r) f) : I2 n B k r (upd f q.1 q.2 (B (k + 1) q.1 q.2)) where
  old := fun i j hi hj h => by
    have ne : ¬ (i = q.1 ∧ j = q.2) := fun e => h.elim (fun m => (List.nodup_cons.mp hn).1 (by rw [e.1, e.2] at m; exact m)) fun m => m (by rw [e.1, e.2]; exact ⟨hq.1.1, hq.2.1⟩)
    rw [upd_no ne]
    exact I.old i j hi hj (h.imp_left (List.mem_cons_of_mem _))
  new := fun i j hi hj hr h1 h2 => by
    by_cases e : i = q.1 ∧ j = q.2
    · rw [e.1, e.2, upd_hit]
    · rw [upd_no e]
      exact I.new i j hi hj (fun m => (List.mem_cons.mp m).elim (fun z => e ⟨congrArg Prod.fst z, congrArg Prod.snd z⟩) hr) h1 h2
structure D1 where
  f : Nat → Nat → Int
  l : Int
  k : Option V
  i : Option V
  j : Option V
  t : Option V
noncomputable def d1F (n : Nat) (book out names : V) (x : D1) : Fr := [some (.v book), some (.v out), some (.v names), some (.oll (mat n x.f)), some (.v (.int x.l)), oS x.k, oS x.i, oS x.j, oS x.t, none, none, none]
noncomputable def d1S (n : Nat) (B : Nat → Nat → Nat → Int) (x : D1) (k : Nat) : D1 :=
  let z := (PK n k).foldl (d2S B k) ⟨x.f, x.i, x.j, x.t⟩
  ⟨z.f, B k k k, some (.int k), z.i, z.j, z.t⟩
noncomputable def bodyE : Ss := .cons (.for (.many [6, 7]) (.one itemsOf eltsD) bodyD) (.cons (.asg .v 4 (.pe sub2V 3 (.pn tupN (.cons (.var 5) (.cons (.var 5) .nil))))) .nil)
theorem runD1 (h : Sh1 p) (hk0 : 21 ≤ k0) (X : Bx n B l) (hn4 : n ≤ 4) {book out : V} {ns : List V} (hns : ns.length = n) {k : Nat} (hk : k < n) {x : D1} (hl : x.l = l k) (I : ∀ i j, i < n → j < n → x.f i j = B (min k (min i j)) i j) :
    ((d1F n book out (.list ns) x).bind (.one 5) (.int k)).bind (exs (run p g (k0 + 6)) bodyE) = some (.next, d1F n book out (.list ns) (d1S n B x k)) ∧ ∀ i j, i < n → j < n → (d1S n B x k).f i j = B (min (k + 1) (min i j)) i j := by
  have fin : ∀ (r : List Pr) (y : D2), r.Nodup → (∀ q ∈ r, (k < q.1 ∧ q.1 < n) ∧ (k < q.2 ∧ q.2 < n)) → I2 n B k r y.f → I2 n B k [] (r.foldl (d2S B k) y).f := fun r => by
    induction r with
    | nil => exact fun y _ _ I => I
    | cons q r ih => exact fun y hn hq I => ih (d2S B k y q) (List.nodup_cons.mp hn).2 (fun z hz => hq z (List.mem_cons_of_mem _ hz)) (I2_next hn (hq q (List.mem_cons_self ..)) I)
  have I0 : I2 n B k (PK n k) x.f := ⟨fun i j hi hj _ => I i j hi hj, fun i j hi hj hr h1 h2 => absurd (PK_mem.mpr ⟨⟨h1, hi⟩, h2, hj⟩) hr⟩
  have I3 := fin (PK n k) ⟨x.f, x.i, x.j, x.t⟩ PK_nodup (fun q hq => PK_mem.mp hq) I0
  refine ⟨?_, fun i j hi hj => ?_⟩
  · obtain ⟨f, l0, k1, i0, j0, t0⟩ := x
    have hl : l0 = l k := hl
    subst hl
    dsimp only [d1F, bodyE]
    walk_at "EV"
    refine bfor (PK n k) (fun q => V.tup [.int q.1, .int q.2]) (d2F n book out (.list ns) (l k) k) (d2S B k) (fun rem y => (rem.Nodup ∧ ∀ q ∈ rem, (k < q.1 ∧ q.1 < n) ∧ (k < q.2 ∧ q.2 < n)) ∧ I2 n B k rem y.f) ⟨f, i0, j0, t0⟩ ?hit ?frm ⟨⟨PK_nodup, fun q hq => PK_mem.mp hq⟩, I0⟩ (fun q r y hy => ⟨?st, ?nx⟩) fun hy => ?fin
    case hit =>
      dsimp only [eltsD]
      walk_at "EV"
      simp only [fz_oS]
      walk_at "EV"
      rw [lc_two (List.range (n - (k + 1))) (fun (a : Nat) => V.int ((k + 1 + a : Nat) : Int)) (fun a => (List.range (n - (k + 1))).map fun b => V.tup [.int ((k + 1 + a : Nat) : Int), .int ((k + 1 + b : Nat) : Int)]) ?h1 (fun a ha => ?h2) ?h3]
      case h1 =>
        walk_at "EV"
        rw [hns]
        exact itm_rng2 (by lia) (by lia)
      case h2 =>
        walk_at "EV"
        rw [hns, itm_rng2 (by lia) (by lia), Option.bind_some, fm_mapF (g := fun b : Nat => [V.tup [.int ((k + 1 + a : Nat) : Int), .int ((k + 1 + b : Nat) : Int)]]) fun b _ => rfl, flat_one]
      case h3 =>
        have e : ((List.range (n - (k + 1))).flatMap fun a => (List.range (n - (k + 1))).map fun b => V.tup [.int ((k + 1 + a : Nat) : Int), .int ((k + 1 + b : Nat) : Int)]) = (PK n k).map fun q => V.tup [.int q.1, .int q.2] := by
          unfold PK
          rw [List.map_flatMap]
          refine congrArg (fun f => List.flatMap f _) (funext fun a => ?_)
          rw [List.map_map]
          rfl
        rw [e, List.length_map]
        have hl : ∀ l : List Nat, (l.flatMap fun a => (List.range (n - (k + 1))).map fun b => (k + 1 + a, k + 1 + b)).length = l.length * (n - (k + 1)) := fun l => by
          induction l with
          | nil => exact (Nat.zero_mul _).symm
          | cons x r ih => rw [List.flatMap_cons, List.length_append, ih, List.length_map, List.length_range, List.length_cons, Nat.succ_mul, Nat.add_comm]
        have hp : (PK n k).length = (n - (k + 1)) * (n - (k + 1)) := (hl _).trans (by rw [List.length_range])
        have : (n - (k + 1)) * (n - (k + 1)) ≤ 4 * 4 := Nat.mul_le_mul (by lia) (by lia)
        rw [hp, big_eq]
        lia
      show some _ = _
      unfold PK
      rw [List.map_flatMap]
      refine congrArg (fun f => some (List.flatMap f _)) (funext fun a => ?_)
      rw [List.map_map]
      rfl
    case frm =>
      dsimp only [eltsD]
      walk_at "EV"
      simp only [fz_oS]
      walk_at "EV"
      rfl
    case st => exact runD2 h hk0 X hy.1.1 (hy.1.2 q (List.mem_cons_self ..)) hy.2
    case nx => exact ⟨⟨(List.nodup_cons.mp hy.1.1).2, fun z hz => hy.1.2 z (List.mem_cons_of_mem _ hz)⟩, I2_next hy.1.1 (hy.1.2 q (List.mem_cons_self ..)) hy.2⟩
    case fin =>
      have ek := I3.old k k hk hk (.inr fun e => Nat.lt_irrefl _ e.1)
      rw [Nat.min_self, Nat.min_self] at ek
      unfold d1S
      dsimp only at ek ⊢
      generalize (PK n k).foldl (d2S B k) ⟨f, i0, j0, t0⟩ = z at ek
      obtain ⟨z1, z2, z3, z4⟩ := z
      have ek : z1 k k = B k k k := ek
      dsimp only [d2F]
      walk_at "EV"
      rw [mat_at hk hk, ek]
      simp only [fz_oS]
      rfl
  · show ((PK n k).foldl (d2S B k) ⟨x.f, x.i, x.j, x.t⟩).f i j = _
    by_cases q : k < i ∧ k < j
    · rw [I3.new i j hi hj List.not_mem_nil q.1 q.2, Nat.min_eq_left (Nat.le_min.mpr ⟨q.1, q.2⟩)]
    · rw [I3.old i j hi hj (.inr q)]
      congr 1
      lia
end
noncomputable def Aij (cs : List Ca) (one two : Nat) : Int := if one = two then (entAt cs two).a else -(cnt one (mineOf cs two) : Int)
noncomputable def nms (cs : List Ca) (out : Nat) : List Nat := (callees cs).filter fun v => !(v == out)
theorem rowsOf_ok {α : Type} {f : α → List Int} (l : List α) : rowsOf (l.map fun x => .list ((f x).map .int)) = some (l.map f) := by
  induction l with
  | nil => rfl
  | cons x r ih =>
    show (intsOf ((f x).map .int)).bind _ = _
    rw [intsOf_map, Option.bind_some, ih]
    rfl
theorem mat_of {l : List Nat} {A : Nat → Nat → Int} : (l.map fun x => l.map (A x)) = mat l.length fun i j => A (l.getD i 0) (l.getD j 0) := by
  unfold mat
  conv => lhs; rw [← range_getD (l := l) (d := 0)]
  rw [List.map_map]
  simp only [Function.comp_def]
  refine List.map_congr_left fun i _ => ?_
  rw [List.map_map]
  rfl
section
variable {p : Prog} {g k0 : Nat} {B : Nat → Nat → Nat → Int} {l : Nat → Int}
theorem det_run (h : Sh1 p) (hk0 : 21 ≤ k0) {g0 : Nat} {cs : List Ca} (hc : CsOk cs) (hl : cs.length ≤ 9) {out : Nat} (hn4 : (nms cs out).length ≤ 4) (X : Bx (nms cs out).length B l) (hB : ∀ i j, i < (nms cs out).length → j < (nms cs out).length → B 0 i j = Aij cs ((nms cs out).getD i 0) ((nms cs out).getD j 0)) :
    (run p g (k0 + 7)).call 17 [.dict g0 (encB g0 (profOf cs)), lV out] = some (.int (l (nms cs out).length)) := by
  have hcb : (callees cs).length ≤ big := Nat.le_trans callees_len (Nat.le_trans hl (by decide))
  have hnb : (nms cs out).length ≤ big := Nat.le_trans hn4 (by decide)
  rw [run_call, h.f17]
  dsimp only [fn17, lV]
  walk_at "EV"
  rw [lc_filt (callees cs) lV (fun v => !(v == out)) lV ?hit (fun v hv => ?st) hcb]
  case hit =>
    walk_at "EV"
    exact keys_V
  case st =>
    dsimp only [lV]
    walk_at "EV"
    rw [ls_beq]
    cases v == out <;> rfl
  walk_at "EV"
  rw [show (callees cs).filter (fun v => !(v == out)) = nms cs out from rfl]
  have hmem : ∀ v ∈ nms cs out, v ∈ callees cs := fun v hv => (List.mem_filter.mp hv).1
  rw [lc_map (nms cs out) lV (fun one => V.list (((nms cs out).map (Aij cs one)).map V.int)) ?hit2 (fun one h1 => ?st2) hnb]
  case hit2 =>
    walk_at "EV"
  case st2 =>
    dsimp only [lV]
    walk_at "EV"
    rw [lc_map (nms cs out) lV (fun two => V.int (Aij cs one two)) ?hit3 (fun two h2 => ?st3) hnb]
    case hit3 =>
      walk_at "EV"
    case st3 =>
      dsimp only [lV]
      walk_at "EV"
      rw [ls_beq]
      unfold Aij
      by_cases q : one = two
      · rw [q, beq_self_eq_true, if_pos rfl]
        walk_at "EV"
        rw [sub_prof (hmem two h2)]
        rfl
      · rw [beq_no q, if_neg q]
        walk_at "EV"
        rw [sub_prof (hmem two h2)]
        unfold encE
        walk_at "EV"
        rw [show (entAt cs two).t = tabOf (mineOf cs two) from rfl, dget_tab (m := mineOf cs two) hc.filter]
        rfl
    rw [List.map_map]
    rfl
  have er : (V.list ((nms cs out).map fun one => V.list (((nms cs out).map (Aij cs one)).map V.int))).ol.bind rowsOf = some (mat (nms cs out).length fun i j => Aij cs ((nms cs out).getD i 0) ((nms cs out).getD j 0)) := by
    show rowsOf _ = _
    rw [rowsOf_ok (f := fun one => (nms cs out).map (Aij cs one)), mat_of]
  rw [Option.bind_some, er]
  generalize hn : nms cs out = nm at *
  generalize hnn : nm.length = n at *
  walk_at "EV"
  refine mfor (List.range n) (fun (k : Nat) => V.int (k : Int)) (d1F n (.dict g0 (encB g0 (profOf cs))) (lV out) (.list (nm.map lV))) (d1S n B) (fun rem x => ∃ k, k ≤ n ∧ rem = List.range' k (n - k) ∧ x.l = l k ∧ ∀ i j, i < n → j < n → x.f i j = B (min k (min i j)) i j) ⟨fun i j => Aij cs (nm.getD i 0) (nm.getD j 0), 1, none, none, none, none⟩ ?hit4 rfl ⟨0, Nat.zero_le _, by rw [List.range_eq_range']; rfl, X.l0.symm, fun i j hi hj => ?p0⟩ (fun k r x hx => ⟨?st4, ?nx4⟩) fun hx => ?fin
  case hit4 =>
    walk_at "EV"
    rw [List.length_map, hnn]
    exact itm_rng (by rw [big_eq]; lia)
  case p0 =>
    rw [Nat.zero_min]
    exact (hB i j hi hj).symm
  case st4 =>
    obtain ⟨k2, hk, hr, hl2, I⟩ := hx
    have hlt : k2 < n := by
      rcases Nat.lt_or_ge k2 n with q | q
      · exact q
      · rw [show n - k2 = 0 by lia] at hr; exact List.noConfusion rfl (heq_of_eq hr)
    rw [show n - k2 = (n - (k2 + 1)) + 1 by lia, List.range'_succ] at hr
    have e1 : k = k2 := congrArg (fun l => l.headD 0) hr
    subst e1
    exact (runD1 h hk0 X hn4 (by rw [List.length_map, hnn]) hlt hl2 I).1
  case nx4 =>
    obtain ⟨k2, hk, hr, hl2, I⟩ := hx
    have hlt : k2 < n := by
      rcases Nat.lt_or_ge k2 n with q | q
      · exact q
      · rw [show n - k2 = 0 by lia] at hr; exact List.noConfusion rfl (heq_of_eq hr)
    rw [show n - k2 = (n - (k2 + 1)) + 1 by lia, List.range'_succ] at hr
    have e1 : k = k2 := congrArg (fun l => l.headD 0) hr
    subst e1
    exact ⟨k + 1, hlt, congrArg List.tail hr, (X.ls k).symm, (runD1 (p := p) (g := g) (ns := nm.map lV) (book := .none) (out := .none) h hk0 X hn4 (by rw [List.length_map, hnn]) hlt hl2 I).2⟩
  case fin =>
    generalize (List.range n).foldl (d1S n B) _ = z at hx
    obtain ⟨k2, hk, hr, hl2, I⟩ := hx
    have e : k2 = n := by
      have := congrArg List.length hr
      rw [List.length_range'] at this
      have this : 0 = n - k2 := this
      lia
    subst e
    obtain ⟨z1, z2, z3, z4, z5, z6⟩ := z
    have hl2 : z2 = l k2 := hl2
    subst hl2
    dsimp only [d1F]
    walk_at "EV"
end
theorem nb_mul {a b : Int} {m n : Nat} (ha : a.natAbs ≤ m) (hb : b.natAbs ≤ n) : (a * b).natAbs ≤ m * n := by
  rw [Int.natAbs_mul]; exact Nat.mul_le_mul ha hb
theorem nb_sub {a b : Int} {m n : Nat} (ha : a.natAbs ≤ m) (hb : b.natAbs ≤ n) : (a - b).natAbs ≤ m + n := by omega
theorem nb_add {a b : Int} {m n : Nat} (ha : a.natAbs ≤ m) (hb : b.natAbs ≤ n) : (a + b).natAbs ≤ m + n := by omega
section
variable {A : Nat → Nat → Int}
theorem nb_det2 {a b c d : Int} (ha : a.natAbs ≤ 9) (hb : b.natAbs ≤ 9) (hc : c.natAbs ≤ 9) (hd : d.natAbs ≤ 9) : (a * b - c * d).natAbs ≤ 162 := nb_sub (nb_mul ha hb) (nb_mul hc hd)
theorem nb_det3 (h : ∀ i j, (A i j).natAbs ≤ 9) {r s t x y z : Nat} : (det3 A r s t x y z).natAbs ≤ 4374 :=
  nb_add (nb_sub (nb_mul (h ..) (nb_det2 (h ..) (h ..) (h ..) (h ..))) (nb_mul (h ..) (nb_det2 (h ..) (h ..) (h ..) (h ..)))) (nb_mul (h ..) (nb_det2 (h ..) (h ..) (h ..) (h ..)))
theorem nb_det4 (h : ∀ i j, (A i j).natAbs ≤ 9) {p q r s : Nat} : (det4 A p q r s).natAbs ≤ 157464 :=
  nb_sub (nb_add (nb_sub (nb_mul (h ..) (nb_det3 h)) (nb_mul (h ..) (nb_det3 h))) (nb_mul (h ..) (nb_det3 h))) (nb_mul (h ..) (nb_det3 h))
noncomputable def stB (A : Nat → Nat → Int) (q : Nat → Nat) : Nat → Nat → Nat → Int
  | 0, i, j => A (q i) (q j)
  | 1, i, j => A (q 0) (q 0) * A (q i) (q j) - A (q i) (q 0) * A (q 0) (q j)
  | 2, i, j => det3 A (q 0) (q 1) (q i) (q 0) (q 1) (q j)
  | 3, _, _ => det4 A (q 0) (q 1) (q 2) (q 3)
  | _, _, _ => 0
noncomputable def stL (A : Nat → Nat → Int) (q : Nat → Nat) : Nat → Int
  | 0 => 1
  | k + 1 => stB A q k k k
theorem st_ok {q : Nat → Nat} {n : Nat} (h : ∀ i j, (A i j).natAbs ≤ 9) (hn : n ≤ 4) (h1 : 3 ≤ n → A (q 0) (q 0) ≠ 0) (h2 : n = 4 → det2 A (q 0) (q 1) ≠ 0) : Bx n (stB A q) (stL A q) := by
  have sm : ∀ k i j, (stB A q k i j).natAbs ≤ 1048576 := fun k i j => by
    match k with
    | 0 => exact Nat.le_trans (h ..) (by decide)
    | 1 => exact Nat.le_trans (nb_det2 (h ..) (h ..) (h ..) (h ..)) (by decide)
    | 2 => exact Nat.le_trans (nb_det3 h) (by decide)
    | 3 => exact Nat.le_trans (nb_det4 h) (by decide)
    | k + 4 => exact Nat.zero_le _
  refine ⟨rfl, fun _ => rfl, fun k i j hi hin hj hjn => ?_, fun k hk => ?_, fun k i j _ _ => sm k i j, fun k => ?_⟩
  · match k with
    | 0 => exact (Int.mul_one _).trans rfl
    | 1 =>
      refine Eq.trans ?_ (syl3 (A := A) (p := q 0) (q := q 1) (r := q 1) (a := q i) (c := q j)).symm
      exact Int.mul_comm ..
    | 2 =>
      have ei : i = 3 := by lia
      have ej : j = 3 := by lia
      subst ei; subst ej
      refine Eq.trans ?_ (syl4 (A := A) (p := q 0) (q := q 1) (r := q 2) (s := q 3)).symm
      refine (Int.mul_comm ..).trans (congrArg (· * _) ?_)
      show A (q 0) (q 0) * A (q 1) (q 1) - A (q 1) (q 0) * A (q 0) (q 1) = A (q 0) (q 0) * A (q 1) (q 1) - A (q 0) (q 1) * A (q 1) (q 0)
      rw [Int.mul_comm (A (q 1) (q 0))]
    | k + 3 => lia
  · match k with
    | 0 => exact (by decide : (1 : Int) ≠ 0)
    | 1 => exact h1 (by lia)
    | 2 =>
      refine fun e => h2 (by lia) (Eq.trans ?_ e)
      show A (q 0) (q 0) * A (q 1) (q 1) - A (q 0) (q 1) * A (q 1) (q 0) = A (q 0) (q 0) * A (q 1) (q 1) - A (q 1) (q 0) * A (q 0) (q 1)
      rw [Int.mul_comm (A (q 1) (q 0))]
    | k + 3 => lia
  · match k with
    | 0 => exact (by decide : (1 : Int).natAbs ≤ 1048576)
    | k + 1 => exact sm k k k
theorem stL_det {q : Nat → Nat} {n : Nat} (hn : n ≤ 4) (h : ∀ i, n ≤ i → i < 4 → ∀ j, j ≤ i → A (q i) (q j) = if j = i then 1 else 0) : stL A q n = det4 A (q 0) (q 1) (q 2) (q 3) := by
  have r4 : n ≤ 3 → det4 A (q 0) (q 1) (q 2) (q 3) = det3 A (q 0) (q 1) (q 2) (q 0) (q 1) (q 2) := fun e => det4_abs (h 3 e (by lia) 0 (by lia)) (h 3 e (by lia) 1 (by lia)) (h 3 e (by lia) 2 (by lia)) (h 3 e (by lia) 3 (by lia))
  have r3 : n ≤ 2 → det3 A (q 0) (q 1) (q 2) (q 0) (q 1) (q 2) = det2 A (q 0) (q 1) := fun e => det3_abs (h 2 e (by lia) 0 (by lia)) (h 2 e (by lia) 1 (by lia)) (h 2 e (by lia) 2 (by lia))
  have r2 : n ≤ 1 → det2 A (q 0) (q 1) = A (q 0) (q 0) := fun e => det2_abs (h 1 e (by lia) 0 (by lia)) (h 1 e (by lia) 1 (by lia))
  have r1 : n ≤ 0 → A (q 0) (q 0) = 1 := fun e => h 0 e (by lia) 0 (by lia)
  match n with
  | 4 => rfl
  | 3 => exact (r4 (by lia)).symm
  | 2 =>
    rw [r4 (by lia), r3 (by lia)]
    show A (q 0) (q 0) * A (q 1) (q 1) - A (q 1) (q 0) * A (q 0) (q 1) = A (q 0) (q 0) * A (q 1) (q 1) - A (q 0) (q 1) * A (q 1) (q 0)
    rw [Int.mul_comm (A (q 1) (q 0))]
  | 1 => rw [r4 (by lia), r3 (by lia), r2 (by lia)]; rfl
  | 0 => rw [r4 (by lia), r3 (by lia), r2 (by lia), r1 (by lia)]; rfl
end
theorem five_mem {l : List Nat} (hn : l.Nodup) (h : ∀ x ∈ l, x < 5) (hl : l.length = 5) {u : Nat} (hu : u < 5) : u ∈ l := by
  by_cases q : u ∈ l
  · exact q
  · have := nodup5 (l := u :: l) (List.nodup_cons.mpr ⟨q, hn⟩) fun x hx => (List.mem_cons.mp hx).elim (fun e => e ▸ hu) (h x)
    rw [List.length_cons] at this
    lia
theorem gsum_perm {α : Type} {l r : List α} {f : α → Nat} (h : l.Perm r) : gsum l f = gsum r f := by
  induction h with
  | nil => rfl
  | cons x _ ih => exact congrArg (f x + ·) ih
  | swap x y l => exact Nat.add_left_comm ..
  | trans _ _ i1 i2 => exact i1.trans i2
theorem five_vs {p q r s b : Nat} (hn : [p, q, r, s, b].Nodup) (h : ∀ x ∈ [p, q, r, s, b], x < 5) : Vs VS5 p q r s b := by
  have pm : VS5.Perm [p, q, r, s, b] := (List.perm_ext_iff_of_nodup List.nodup_range hn).mpr fun u => ⟨fun hu => five_mem hn h rfl (List.mem_range.mp hu), fun hu => List.mem_range.mpr (h u hu)⟩
  have hm : ∀ x ∈ [p, q, r, s, b], x ∈ VS5 := fun x hx => pm.mem_iff.mpr hx
  have h1 := List.nodup_cons.mp hn
  have h2 := List.nodup_cons.mp h1.2
  have h3 := List.nodup_cons.mp h2.2
  have h4 := List.nodup_cons.mp h3.2
  have i1 : ∀ {x y : Nat} {l : List Nat}, x ∉ y :: l → x ≠ y := fun h e => h (e ▸ List.mem_cons_self ..)
  have i2 : ∀ {x y : Nat} {l : List Nat}, x ∉ y :: l → x ∉ l := fun h e => h (List.mem_cons_of_mem _ e)
  refine ⟨List.nodup_range, fun f => ?_, fun u hu => ?_, hm _ (by simp), hm _ (by simp), hm _ (by simp), hm _ (by simp), hm _ (by simp), i1 h1.1, i1 (i2 h1.1), i1 (i2 (i2 h1.1)), i1 (i2 (i2 (i2 h1.1))), i1 h2.1, i1 (i2 h2.1), i1 (i2 (i2 h2.1)), i1 h3.1, i1 (i2 h3.1), i1 h4.1⟩
  · rw [gsum_perm pm]
    show f p + (f q + (f r + (f s + (f b + 0)))) = _
    lia
  · have := pm.mem_iff.mp hu
    simpa using this
section
variable {α : Type} [DecidableEq α]
theorem gprod_sub {VS : List α} (hv : VS.Nodup) {f : α → Nat} {l : List α} : l.Nodup → (∀ x ∈ l, x ∈ VS) → gprod VS (fun x => if x ∈ l then f x else 1) = gprod l f := by
  induction l with
  | nil => exact fun _ _ => gprod_one fun x _ => if_neg List.not_mem_nil
  | cons y r ih =>
    intro hn hm
    have hn := List.nodup_cons.mp hn
    refine (gprod_upd (c := f y) (g := fun x => if x ∈ r then f x else 1) hv (hm y (List.mem_cons_self ..)) (fun x _ ne => ?_) ?_).trans (congrArg (f y * ·) (ih hn.2 fun x hx => hm x (List.mem_cons_of_mem _ hx)))
    · by_cases q : x ∈ r
      · rw [if_pos q, if_pos (List.mem_cons_of_mem _ q)]
      · rw [if_neg q, if_neg fun h => (List.mem_cons.mp h).elim ne q]
    · rw [if_pos (List.mem_cons_self ..), if_neg hn.1, Nat.mul_one]
theorem gprod_part {VS l : List α} {f : α → Nat} (hv : VS.Nodup) (hn : l.Nodup) (hm : ∀ x ∈ l, x ∈ VS) (h1 : ∀ x ∈ VS, x ∉ l → f x = 1) : gprod l f = gprod VS f := by
  rw [← gprod_sub hv hn hm]
  refine gprod_congr fun x hx => ?_
  by_cases q : x ∈ l
  · rw [if_pos q]
  · rw [if_neg q, h1 x hx q]
theorem fct_add {a b : Nat} : fct a * fct b ≤ fct (a + b) := by
  induction b with
  | zero => exact Nat.le_of_eq (Nat.mul_one _)
  | succ b ih =>
    have e1 : fct (b + 1) = (b + 1) * fct b := rfl
    have e2 : fct (a + (b + 1)) = (a + b + 1) * fct (a + b) := rfl
    rw [e1, e2, Nat.mul_left_comm]
    exact Nat.mul_le_mul (by lia) ih
theorem fct_gsum {l : List α} {f : α → Nat} : gprod l (fun x => fct (f x)) ≤ fct (gsum l f) := by
  induction l with
  | nil => exact Nat.le_refl _
  | cons x r ih => exact Nat.le_trans (Nat.mul_le_mul_left _ ih) fct_add
theorem fct_gt {n : Nat} : 0 < fct n := by
  induction n with
  | zero => exact Nat.one_pos
  | succ n ih => exact Nat.mul_pos (Nat.succ_pos n) ih
theorem gprod_gt {l : List α} {f : α → Nat} (h : ∀ x ∈ l, 0 < f x) : 0 < gprod l f := by
  induction l with
  | nil => exact Nat.one_pos
  | cons x r ih => exact Nat.mul_pos (h x (List.mem_cons_self ..)) (ih fun y hy => h y (List.mem_cons_of_mem _ hy))
theorem gprod_le {l : List α} {f g : α → Nat} (h : ∀ x ∈ l, f x ≤ g x) : gprod l f ≤ gprod l g := by
  induction l with
  | nil => exact Nat.le_refl _
  | cons x r ih => exact Nat.mul_le_mul (h x (List.mem_cons_self ..)) (ih fun y hy => h y (List.mem_cons_of_mem _ hy))
theorem perms_le {VS : List α} {m : Gr α} : perms VS m ≤ fct (totD VS m) := Nat.le_trans (gprod_le fun u _ => fct_gsum) fct_gsum
theorem perms_gt {VS : List α} {m : Gr α} : 0 < perms VS m := gprod_gt fun _ _ => gprod_gt fun _ _ => fct_gt
theorem perms_swap {VS : List α} {m : Gr α} : perms VS m = gprod VS fun v => gprod VS fun u => fct (m u v) := by
  unfold perms
  have : ∀ (l r : List α) (f : α → α → Nat), gprod l (fun x => gprod r (f x)) = gprod r fun y => gprod l fun x => f x y := fun l r f => by
    induction l with
    | nil => exact (gprod_one fun _ _ => rfl).symm
    | cons x l ih =>
      show gprod r (f x) * gprod l _ = gprod r fun y => f x y * gprod l fun x => f x y
      rw [ih]
      clear ih
      induction r with
      | nil => rfl
      | cons y r ih =>
        show f x y * gprod r (f x) * ((gprod l fun x => f x y) * gprod r fun y => gprod l fun x => f x y) = f x y * (gprod l fun x => f x y) * gprod r fun y => f x y * gprod l fun x => f x y
        rw [← ih]
        ac_rfl
  exact this ..
end
section
variable {α : Type} [DecidableEq α] {VS : List α} {p q r s b : α} {m : Gr α}
theorem Vs.rot (H : Vs VS b q r s p) : Vs VS p q r s b := ⟨H.nd, fun f => by rw [H.sum]; lia, fun u hu => (H.all u hu).elim (fun e => .inr (.inr (.inr (.inr e)))) fun h => h.elim (fun e => .inr (.inl e)) fun h => h.elim (fun e => .inr (.inr (.inl e))) fun h => h.elim (fun e => .inr (.inr (.inr (.inl e)))) .inl,
  H.mb, H.mq, H.mr, H.ms, H.mp, H.qb.symm, H.rb.symm, H.sb.symm, H.pb.symm, H.qr, H.qs, H.pq.symm, H.rs, H.pr.symm, H.ps.symm⟩
noncomputable def Ev (VS : List α) (m : Gr α) : Prop := ∀ u ∈ VS, outD VS m u = innD VS m u
theorem m_out {u x : α} (hx : x ∈ VS) (h : outD VS m u = 0) : m u x = 0 := gsum_zero h x hx
theorem m_inn {u x : α} (E : Ev VS m) (hu : u ∈ VS) (hx : x ∈ VS) (h : outD VS m x = 0) : m u x = 0 := gsum_zero ((E x hx).symm.trans h) u hu
theorem lap_l {u x : α} (hx : x ∈ VS) : pos VS m u * lap VS m u x = ((outD VS m u * one u x : Nat) : Int) - m u x := by
  unfold pos lap
  by_cases h : outD VS m u = 0
  · rw [if_pos h, if_pos h, h, m_out hx h, Nat.zero_mul, Int.zero_mul]; rfl
  · rw [if_neg h, if_neg h, Int.one_mul, Int.natCast_mul]
theorem lap_r {u x : α} (E : Ev VS m) (hu : u ∈ VS) (hx : x ∈ VS) : lap VS m u x * pos VS m x = pos VS m u * lap VS m u x := by
  by_cases q : u = x
  · subst q; exact Int.mul_comm ..
  · unfold pos lap
    rw [one_no q]
    by_cases h : outD VS m u = 0
    · rw [if_pos h, if_pos h]
      exact (Int.zero_mul _).trans (Int.zero_mul _).symm
    · rw [if_neg h, if_neg h]
      by_cases h' : outD VS m x = 0
      · rw [if_pos h', m_inn E hu hx h']
        simp
      · rw [if_neg h', Int.mul_comm]
theorem one_colN {x : α} (hn : VS.Nodup) (hx : x ∈ VS) {f : α → Nat} : gsum VS (fun u => f u * one u x) = f x := by
  refine ((gsum_congr fun u _ => ?_).trans (gsum_one (y := x) (g := f x) hn)).trans (if_pos hx)
  unfold one
  by_cases q : u = x
  · rw [if_pos q, if_pos q, q, Nat.mul_one]
  · rw [if_neg q, if_neg q, Nat.mul_zero]
theorem one_rowN {u : α} (hn : VS.Nodup) (hu : u ∈ VS) {c : Nat} : gsum VS (fun x => c * one u x) = c := by
  refine ((gsum_congr fun x _ => ?_).trans (gsum_one (y := u) (g := c) hn)).trans (if_pos hu)
  unfold one
  by_cases q : u = x
  · rw [if_pos q, if_pos q.symm, Nat.mul_one]
  · rw [if_neg q, if_neg fun e => q e.symm, Nat.mul_zero]
theorem lap_col (H : Vs VS p q r s b) (E : Ev VS m) {x : α} (hx : x ∈ VS) : pos VS m b * lap VS m b x + pos VS m p * lap VS m p x + pos VS m q * lap VS m q x + pos VS m r * lap VS m r x + pos VS m s * lap VS m s x = 0 := by
  have e1 := one_colN (f := outD VS m) H.nd hx
  have e2 := E x hx
  unfold innD at e2
  rw [H.sum] at e1 e2
  rw [lap_l hx, lap_l hx, lap_l hx, lap_l hx, lap_l hx]
  generalize outD VS m p * one p x = a1 at *
  generalize outD VS m q * one q x = a2 at *
  generalize outD VS m r * one r x = a3 at *
  generalize outD VS m s * one s x = a4 at *
  generalize outD VS m b * one b x = a5 at *
  lia
theorem lap_rows (H : Vs VS p q r s b) (E : Ev VS m) {u : α} (hu : u ∈ VS) : lap VS m u b * pos VS m b + lap VS m u p * pos VS m p + lap VS m u q * pos VS m q + lap VS m u r * pos VS m r + lap VS m u s * pos VS m s = 0 := by
  have e1 := one_rowN (c := outD VS m u) H.nd hu
  have e2 : outD VS m u = gsum VS (m u) := rfl
  rw [H.sum] at e1 e2
  rw [lap_r E hu H.mb, lap_r E hu H.mp, lap_r E hu H.mq, lap_r E hu H.mr, lap_r E hu H.ms, lap_l H.mb, lap_l H.mp, lap_l H.mq, lap_l H.mr, lap_l H.ms]
  generalize outD VS m u * one u p = a1 at *
  generalize outD VS m u * one u q = a2 at *
  generalize outD VS m u * one u r = a3 at *
  generalize outD VS m u * one u s = a4 at *
  generalize outD VS m u * one u b = a5 at *
  lia
theorem pos_one {u : α} (h : outD VS m u ≠ 0) : pos VS m u = 1 := if_neg h
theorem root_ok (H : Vs VS p q r s b) (E : Ev VS m) (hb : outD VS m b ≠ 0) (hp : outD VS m p ≠ 0) : det4 (lap VS m) b q r s = det4 (lap VS m) p q r s := by
  have col : ∀ x ∈ VS, lap VS m b x + lap VS m p x + pos VS m q * lap VS m q x + pos VS m r * lap VS m r x + pos VS m s * lap VS m s x = 0 := fun x hx => by
    have := lap_col H E hx
    rw [pos_one hb, pos_one hp, Int.one_mul, Int.one_mul] at this
    exact this
  have row : ∀ u ∈ VS, lap VS m u b + lap VS m u p + pos VS m q * lap VS m u q + pos VS m r * lap VS m u r + pos VS m s * lap VS m u s = 0 := fun u hu => by
    have := lap_rows H E hu
    rw [pos_one hb, pos_one hp, Int.mul_one, Int.mul_one, Int.mul_comm _ (pos VS m q), Int.mul_comm _ (pos VS m r), Int.mul_comm _ (pos VS m s)] at this
    exact this
  exact root1 (col b H.mb) (col q H.mq) (col r H.mr) (col s H.ms) (row p H.mp) (row q H.mq) (row r H.mr) (row s H.ms)
theorem piv_diag (H : Vs VS p q r s b) (h : outD VS m p ≠ 0) : lap VS m p p = ((m p q + m p r + m p s + m p b : Nat) : Int) := by
  have e2 : outD VS m p = gsum VS (m p) := rfl
  rw [H.sum] at e2
  unfold lap
  rw [if_neg h, one_hit, e2]
  lia
theorem piv_off (h : outD VS m p ≠ 0) (hq : p ≠ q) : lap VS m p q = - (m p q : Int) := by
  unfold lap
  rw [if_neg h, one_no hq]
  simp
end
theorem path_all {VS : List Nat} {S : Nat → Prop} {a z : Nat} {r : List Pr} (h : Path VS a r z) : (∀ q ∈ r, S q.1 → S q.2) → S a → S z ∧ ∀ q ∈ r, S q.2 := by
  induction h with
  | nil => exact fun _ h => ⟨h, fun _ h => absurd h List.not_mem_nil⟩
  | @cons a v z r hv _ ih =>
    intro hc ha
    have h1 := hc (a, v) (List.mem_cons_self ..) ha
    have i := ih (fun q hq => hc q (List.mem_cons_of_mem _ hq)) h1
    exact ⟨i.1, fun q hq => (List.mem_cons.mp hq).elim (fun e => e ▸ h1) (i.2 q)⟩
theorem path_some {VS : List Nat} {S : Nat → Prop} {a z : Nat} {r : List Pr} (h : Path VS a r z) : (∀ q ∈ r, S q.1 → S q.2) → (∃ q ∈ r, S q.2) → S z := by
  induction h with
  | nil => exact fun _ ⟨_, h, _⟩ => absurd h List.not_mem_nil
  | @cons a v z r hv h ih =>
    intro hc ⟨q, hq, hs⟩
    have hc' : ∀ q ∈ r, S q.1 → S q.2 := fun q hq => hc q (List.mem_cons_of_mem _ hq)
    refine (List.mem_cons.mp hq).elim (fun e => ?_) fun m => ih hc' ⟨q, m, hs⟩
    subst e
    exact (path_all h hc' hs).1
theorem ring_all {VS : List Nat} {S : Nat → Prop} {a b : Nat} {r : List Pr} (h : Path VS a r b) (hc : ∀ q ∈ (b, a) :: r, S q.1 → S q.2) (hs : ∃ q ∈ (b, a) :: r, S q.2) : ∀ q ∈ (b, a) :: r, S q.2 := by
  have hc' : ∀ q ∈ r, S q.1 → S q.2 := fun q hq => hc q (List.mem_cons_of_mem _ hq)
  obtain ⟨q, hq, hs⟩ := hs
  have ha : S a := (List.mem_cons.mp hq).elim (fun e => by subst e; exact hs) fun m => hc (b, a) (List.mem_cons_self ..) (path_some h hc' ⟨q, m, hs⟩)
  exact fun q hq => (List.mem_cons.mp hq).elim (fun e => by subst e; exact ha) ((path_all h hc' ha).2 q)
theorem gr_mem {L : List Pr} {u v : Nat} (h : (u, v) ∈ L) : gr L u v ≠ 0 := fun e => List.countP_eq_zero.mp e _ h (decide_eq_true rfl)
theorem gr_no {L : List Pr} {u v : Nat} (h : gr L u v ≠ 0) : (u, v) ∈ L := by
  have h := Nat.pos_of_ne_zero h
  obtain ⟨q, hq, e⟩ := List.countP_pos_iff.mp h
  exact of_decide_eq_true e ▸ hq
theorem gr_cons {q : Pr} {L : List Pr} {u v : Nat} : gr (q :: L) u v = gr L u v + if v = q.2 then (if u = q.1 then 1 else 0) else 0 := by
  unfold gr
  rw [List.countP_cons]
  congr 1
  obtain ⟨x, y⟩ := q
  by_cases h : v = y
  · by_cases h' : u = x
    · subst h; subst h'; simp
    · rw [if_pos h, if_neg h', if_neg fun e => h' (congrArg Prod.fst (of_decide_eq_true e)).symm]
  · rw [if_neg h, if_neg fun e => h (congrArg Prod.snd (of_decide_eq_true e)).symm]
theorem out_le {VS : List Nat} (hn : VS.Nodup) {L : List Pr} {u : Nat} : outD VS (gr L) u ≤ L.length := by
  induction L with
  | nil => exact Nat.le_of_eq gsum_null
  | cons q L ih =>
    have e : outD VS (gr (q :: L)) u = outD VS (gr L) u + gsum VS fun v => if v = q.2 then (if u = q.1 then 1 else 0) else 0 := (gsum_congr fun v _ => gr_cons).trans gsum_add
    rw [e, gsum_one hn, List.length_cons]
    refine Nat.add_le_add ih ?_
    split
    · split <;> decide
    · decide
theorem lap_le {VS : List Nat} (hn : VS.Nodup) {L : List Pr} (hl : L.length ≤ 9) {u x : Nat} : (lap VS (gr L) u x).natAbs ≤ 9 := by
  have h1 := out_le hn (L := L) (u := u)
  have h2 : gr L u x ≤ L.length := List.countP_le_length
  unfold lap
  generalize outD VS (gr L) u = o at *
  generalize gr L u x = g at *
  by_cases q : u = x
  · subst q
    rw [one_hit]
    split <;> lia
  · rw [one_no q]
    split <;> lia
structure Rg (PR : List Pr) (a b : Nat) : Prop where
  path : Path VS5 a PR b
  len : PR.length = 8
  ha : a ∈ VS5
  hb : b ∈ VS5
section
variable {PR : List Pr} {a b : Nat} {p q r s : Nat}
theorem Rg.bal (R : Rg PR a b) : Bal VS5 (gr PR) a b ∧ totD VS5 (gr PR) = 8 := R.len ▸ path_bal List.nodup_range R.path R.ha
theorem Rg.hit (R : Rg PR a b) : 0 < gr ((b, a) :: PR) b a := gr_hit
theorem Rg.even (R : Rg PR a b) : Ev VS5 (gr ((b, a) :: PR)) := fun u hu => by
  have B := R.bal.1 u hu
  have d := gr_dec (a := b) (v := a) (r := PR)
  have o : outD VS5 (gr ((b, a) :: PR)) u = outD VS5 (gr PR) u + one u b := by
    by_cases q : u = b
    · rw [q, one_hit]
      exact (out_hit (m := gr ((b, a) :: PR)) List.nodup_range R.ha gr_hit).trans (congrArg (fun m => outD VS5 m b + 1) d)
    · rw [one_no q]
      exact (out_no (VS := VS5) (m := gr ((b, a) :: PR)) (v := a) q).symm.trans (congrArg (fun m => outD VS5 m u) d)
  have i : innD VS5 (gr ((b, a) :: PR)) u = innD VS5 (gr PR) u + one u a := by
    by_cases q : u = a
    · rw [q, one_hit]
      exact (inn_hit (m := gr ((b, a) :: PR)) List.nodup_range R.hb gr_hit).trans (congrArg (fun m => innD VS5 m a + 1) d)
    · rw [one_no q]
      exact (inn_no (VS := VS5) (m := gr ((b, a) :: PR)) (a := b) q).symm.trans (congrArg (fun m => innD VS5 m u) d)
  exact o.trans (B.trans i.symm)
theorem Rg.tot (R : Rg PR a b) : totD VS5 (gr ((b, a) :: PR)) = 9 := by
  have t := tot_step (m := gr ((b, a) :: PR)) List.nodup_range R.hb R.ha gr_hit
  rw [gr_dec, R.bal.2] at t
  exact t
theorem Rg.outb (R : Rg PR a b) : outD VS5 (gr ((b, a) :: PR)) b ≠ 0 := fun e => Nat.ne_of_gt R.hit (gsum_zero e a R.ha)
noncomputable def ordN (PR : List Pr) (a b : Nat) : Nat := gprod VS5 (fun v => fct (outD VS5 (gr ((b, a) :: PR)) v - 1)) * gr ((b, a) :: PR) b a
noncomputable def wayN (PR : List Pr) (a : Nat) : Nat := walks VS5 8 (gr PR) a
theorem q_all {f : Nat → Nat} (H : Vs VS5 p q r s b) : gprod VS5 f = f p * (f q * f r * f s * f b) := by
  have pm : VS5.Perm [p, q, r, s, b] := (List.perm_ext_iff_of_nodup List.nodup_range (by
    have := H.pq; have := H.pr; have := H.ps; have := H.pb; have := H.qr; have := H.qs; have := H.qb; have := H.rs; have := H.rb; have := H.sb
    simp_all)).mpr fun u => ⟨fun hu => by have := H.all u hu; simpa using this, fun hu => by
      have hu : u = p ∨ u = q ∨ u = r ∨ u = s ∨ u = b := by simpa using hu
      exact hu.elim (fun e => e ▸ H.mp) fun h => h.elim (fun e => e ▸ H.mq) fun h => h.elim (fun e => e ▸ H.mr) fun h => h.elim (fun e => e ▸ H.ms) fun e => e ▸ H.mb⟩
  have : ∀ {l r : List Nat}, l.Perm r → gprod l f = gprod r f := fun h => by
    induction h with
    | nil => rfl
    | cons x _ ih => exact congrArg (f x * ·) ih
    | swap x y l => exact Nat.mul_left_comm ..
    | trans _ _ i1 i2 => exact i1.trans i2
  rw [this pm]
  show f p * (f q * (f r * (f s * (f b * 1)))) = _
  ac_rfl
theorem tree_b (R : Rg PR a b) (H : Vs VS5 p q r s b) : ((wayN PR a * perms VS5 (gr ((b, a) :: PR)) : Nat) : Int) = det4 (lap VS5 (gr ((b, a) :: PR))) p q r s * (ordN PR a b : Nat) := by
  have h := best H 8 (gr PR) a R.bal.2 R.ha R.bal.1
  have d := gr_dec (a := b) (v := a) (r := PR)
  have hp := perms_step (m := gr ((b, a) :: PR)) List.nodup_range R.hb R.ha gr_hit
  rw [d] at hp
  have eD : Dt4 VS5 (gr PR) p q r s = det4 (lap VS5 (gr ((b, a) :: PR))) p q r s := by
    have e := Df_b (m := gr ((b, a) :: PR)) (v := a) H
    rw [d] at e
    exact e
  have eo : ∀ u, u ≠ b → outD VS5 (gr PR) u = outD VS5 (gr ((b, a) :: PR)) u := fun u hu => by
    have := out_no (VS := VS5) (m := gr ((b, a) :: PR)) (v := a) hu
    rw [d] at this
    exact this
  have eb : outD VS5 (gr PR) b = outD VS5 (gr ((b, a) :: PR)) b - 1 := by
    have := out_hit (m := gr ((b, a) :: PR)) List.nodup_range R.ha gr_hit
    rw [d] at this
    exact (Nat.sub_eq_of_eq_add this).symm
  have eQ : Qf VS5 (gr PR) p q r s b = gprod VS5 (fun v => fct (outD VS5 (gr ((b, a) :: PR)) v - 1)) := by
    rw [q_all H]
    unfold Qf
    rw [eo p H.pb, eo q H.qb, eo r H.rb, eo s H.sb, eb]
  rw [eD, eQ] at h
  unfold ordN wayN
  rw [hp, Nat.mul_left_comm, Int.natCast_mul, h, Int.natCast_mul]
  rw [Int.mul_comm, Int.mul_assoc]
theorem tree_x {x : Nat} (R : Rg PR a b) (H : Vs VS5 b q r s x) (hx : outD VS5 (gr ((b, a) :: PR)) x ≠ 0) : ((wayN PR a * perms VS5 (gr ((b, a) :: PR)) : Nat) : Int) = det4 (lap VS5 (gr ((b, a) :: PR))) b q r s * (ordN PR a b : Nat) := by
  rw [root_ok H.rot R.even R.outb hx]
  exact tree_b R H.rot
theorem tree_all {x : Nat} (R : Rg PR a b) (H : Vs VS5 p q r s x) (hx : outD VS5 (gr ((b, a) :: PR)) x ≠ 0) : ((wayN PR a * perms VS5 (gr ((b, a) :: PR)) : Nat) : Int) = det4 (lap VS5 (gr ((b, a) :: PR))) p q r s * (ordN PR a b : Nat) := by
  refine (H.all b R.hb).elim (fun e => ?_) fun h => h.elim (fun e => ?_) fun h => h.elim (fun e => ?_) fun h => h.elim (fun e => ?_) fun e => ?_
  · subst e; exact tree_x R H hx
  · subst e; rw [det4_swap1]; exact tree_x R H.swap1 hx
  · subst e; rw [det4_swap2]; exact tree_x R H.swap2 hx
  · subst e; rw [det4_swap3]; exact tree_x R H.swap3 hx
  · subst e; exact tree_b R H
theorem there {u : Nat} (R : Rg PR a b) (hu : u ∈ VS5) (h : outD VS5 (gr ((b, a) :: PR)) u ≠ 0) : ∃ q ∈ (b, a) :: PR, q.2 = u := by
  rw [R.even u hu] at h
  have hw : ∃ w ∈ VS5, gr ((b, a) :: PR) w u ≠ 0 := Classical.byContradiction fun n => h ((gsum_congr fun w hw => Classical.byContradiction fun e => n ⟨w, hw, e⟩).trans gsum_null)
  obtain ⟨w, _, e⟩ := hw
  exact ⟨(w, u), gr_no e, rfl⟩
theorem sec_mem (R : Rg PR a b) : ∀ q ∈ (b, a) :: PR, q.2 ∈ VS5 := by
  have : ∀ {a b : Nat} {r : List Pr}, Path VS5 a r b → ∀ q ∈ r, q.2 ∈ VS5 := fun h => by
    induction h with
    | nil => exact fun _ h => absurd h List.not_mem_nil
    | cons hv _ ih => exact fun q hq => (List.mem_cons.mp hq).elim (fun e => e ▸ hv) (ih q)
  exact fun q hq => (List.mem_cons.mp hq).elim (fun e => by subst e; exact R.ha) (this R.path q)
theorem piv1 {x : Nat} (R : Rg PR a b) (H : Vs VS5 p q r s x) (hp : outD VS5 (gr ((b, a) :: PR)) p ≠ 0) (hq : outD VS5 (gr ((b, a) :: PR)) q ≠ 0) : lap VS5 (gr ((b, a) :: PR)) p p ≠ 0 := fun e => by
  rw [piv_diag H hp] at e
  have z : ∀ y ∈ VS5, y ≠ p → gr ((b, a) :: PR) p y = 0 := fun y hy ne => (H.all y hy).elim (fun e => absurd e ne) fun h => h.elim (fun e => by subst e; lia) fun h => h.elim (fun e => by subst e; lia) fun h => h.elim (fun e => by subst e; lia) fun e => by subst e; lia
  have all := ring_all (S := fun u => u = p) R.path (fun c hc e => Classical.byContradiction fun ne => gr_mem (show (p, c.2) ∈ (b, a) :: PR from e ▸ hc) (z _ (sec_mem R c hc) ne)) (there R H.mp hp)
  obtain ⟨c, hc, ec⟩ := there R H.mq hq
  exact H.pq ((all c hc).symm.trans ec)
theorem piv2 {x : Nat} (R : Rg PR a b) (H : Vs VS5 p q r s x) (hp : outD VS5 (gr ((b, a) :: PR)) p ≠ 0) (hq : outD VS5 (gr ((b, a) :: PR)) q ≠ 0) (hr : outD VS5 (gr ((b, a) :: PR)) r ≠ 0) : det2 (lap VS5 (gr ((b, a) :: PR))) p q ≠ 0 := fun e => by
  have np := piv1 R H hp hq
  have nq := piv1 R H.swap1 hq hp
  unfold det2 at e
  rw [piv_off hp H.pq, piv_off hq H.pq.symm] at e
  rw [piv_diag H hp] at e np
  rw [piv_diag H.swap1 hq] at e nq
  have np : gr ((b, a) :: PR) p q + gr ((b, a) :: PR) p r + gr ((b, a) :: PR) p s + gr ((b, a) :: PR) p x ≠ 0 := fun h => np (congrArg Nat.cast h)
  have nq : gr ((b, a) :: PR) q p + gr ((b, a) :: PR) q r + gr ((b, a) :: PR) q s + gr ((b, a) :: PR) q x ≠ 0 := fun h => nq (congrArg Nat.cast h)
  have key : ∀ {u u2 u3 u4 v v2 v3 v4 : Nat}, u + u2 + u3 + u4 ≠ 0 → v + v2 + v3 + v4 ≠ 0 → ((u + u2 + u3 + u4 : Nat) : Int) * ((v + v2 + v3 + v4 : Nat) : Int) - (-(u : Int)) * (-(v : Int)) = 0 → u2 + u3 + u4 = 0 ∧ v2 + v3 + v4 = 0 := fun {u u2 u3 u4 v v2 v3 v4} h1 h2 h => by
    rw [Int.neg_mul_neg, ← Int.natCast_mul, ← Int.natCast_mul] at h
    have h : (u + u2 + u3 + u4) * (v + v2 + v3 + v4) = u * v := Int.ofNat.inj (Int.sub_eq_zero.mp h)
    rw [show u + u2 + u3 + u4 = u + (u2 + u3 + u4) by lia, show v + v2 + v3 + v4 = v + (v2 + v3 + v4) by lia] at *
    generalize u2 + u3 + u4 = U at *
    generalize v2 + v3 + v4 = W at *
    rw [Nat.add_mul, Nat.mul_add] at h
    have z1 : u * W = 0 := by lia
    have z2 : U * (v + W) = 0 := by lia
    have z3 : U = 0 := (Nat.mul_eq_zero.mp z2).elim id fun e => absurd e h2
    subst z3
    exact ⟨rfl, (Nat.mul_eq_zero.mp z1).elim (fun e => absurd e h1) id⟩
  obtain ⟨k1, k2⟩ := key np nq e
  have z1 : ∀ y ∈ VS5, y ≠ p → y ≠ q → gr ((b, a) :: PR) p y = 0 := fun y hy ne ne2 => (H.all y hy).elim (fun e => absurd e ne) fun h => h.elim (fun e => absurd e ne2) fun h => h.elim (fun e => by subst e; lia) fun h => h.elim (fun e => by subst e; lia) fun e => by subst e; lia
  have z2 : ∀ y ∈ VS5, y ≠ p → y ≠ q → gr ((b, a) :: PR) q y = 0 := fun y hy ne ne2 => (H.all y hy).elim (fun e => absurd e ne) fun h => h.elim (fun e => absurd e ne2) fun h => h.elim (fun e => by subst e; lia) fun h => h.elim (fun e => by subst e; lia) fun e => by subst e; lia
  obtain ⟨c, hc, ec⟩ := there R H.mp hp
  have all := ring_all (S := fun u => u = p ∨ u = q) R.path (fun c hc e => Classical.byContradiction fun ne => by
    have n1 : c.2 ≠ p := fun e => ne (.inl e)
    have n2 : c.2 ≠ q := fun e => ne (.inr e)
    exact e.elim (fun e => gr_mem (show (p, c.2) ∈ (b, a) :: PR from e ▸ hc) (z1 _ (sec_mem R c hc) n1 n2)) fun e => gr_mem (show (q, c.2) ∈ (b, a) :: PR from e ▸ hc) (z2 _ (sec_mem R c hc) n1 n2)) ⟨c, hc, .inl ec⟩
  obtain ⟨d, hd, ed⟩ := there R H.mr hr
  exact (all d hd).elim (fun e => H.pr (e.symm.trans ed)) fun e => H.qr (e.symm.trans ed)
end
structure Rgc (cs : List Ca) (PR : List Pr) (a b : Nat) : Prop where
  ok : CsOk cs
  uv : cs.map (fun c => (c.u, c.v)) = (b, a) :: PR
  rg : Rg PR a b
section
variable {cs : List Ca} {PR : List Pr} {a b : Nat}
theorem cnt_uv {u v : Nat} : cnt u (mineOf cs v) = gr (cs.map fun c => (c.u, c.v)) u v := by
  unfold cnt mineOf gr
  rw [List.countP_filter, List.countP_map]
  refine congrArg (fun f => List.countP f cs) (funext fun c => ?_)
  show (c.u == u && c.v == v) = decide ((c.u, c.v) = (u, v))
  by_cases h : c.u = u
  · by_cases h' : c.v = v
    · subst h; subst h'; simp
    · rw [decide_eq_false fun e => h' (congrArg Prod.snd e), beq_no h', Bool.and_false]
  · rw [decide_eq_false fun e => h (congrArg Prod.fst e), beq_no h]; rfl
theorem Rgc.cnt (R : Rgc cs PR a b) {u v : Nat} : cnt u (mineOf cs v) = gr ((b, a) :: PR) u v := R.uv ▸ cnt_uv
theorem cnt_len {l : List Ca} (h : CsOk l) : gsum VS5 (fun w => cnt w l) = l.length := by
  induction l with
  | nil => exact gsum_null
  | cons c r ih =>
    have e : ∀ w, Mine.cnt w (c :: r) = Mine.cnt w r + (if w = c.u then 1 else 0) := fun w => by
      unfold Mine.cnt
      rw [List.countP_cons]
      refine congrArg (fun z => List.countP (fun c => c.u == w) r + z) ?_
      by_cases q : w = c.u
      · rw [if_pos q, if_pos (beq_iff_eq.mpr q.symm)]
      · rw [if_neg q, if_neg fun e => q (eq_of_beq e).symm]
    rw [(gsum_congr (g := fun w => Mine.cnt w r + (if w = c.u then 1 else 0)) fun w _ => e w).trans gsum_add, ih fun c hc => h c (List.mem_cons_of_mem _ hc), gsum_one List.nodup_range, if_pos (List.mem_range.mpr (h c (List.mem_cons_self ..)).1)]
    rfl
theorem Rgc.len (R : Rgc cs PR a b) {v : Nat} (hv : v ∈ VS5) : (mineOf cs v).length = outD VS5 (gr ((b, a) :: PR)) v := by
  rw [R.rg.even v hv, ← cnt_len (l := mineOf cs v) R.ok.filter]
  exact gsum_congr fun w _ => R.cnt
theorem Rgc.mem (R : Rgc cs PR a b) {v : Nat} (hv : v ∈ VS5) : v ∈ callees cs ↔ outD VS5 (gr ((b, a) :: PR)) v ≠ 0 := by
  rw [← R.len hv, mem_callees]
  refine ⟨fun h e => ?_, fun h => Classical.byContradiction fun n => h (congrArg List.length (no_v n))⟩
  obtain ⟨c, hc, ec⟩ := List.mem_map.mp h
  have := List.length_eq_zero_iff.mp e
  have m : c ∈ mineOf cs v := List.mem_filter.mpr ⟨hc, beq_iff_eq.mpr ec⟩
  rw [this] at m
  exact List.not_mem_nil m
theorem Rgc.sm (R : Rgc cs PR a b) {v : Nat} (h : v ∈ callees cs) : v ∈ VS5 := by
  obtain ⟨c, hc, ec⟩ := List.mem_map.mp (mem_callees.mp h)
  exact List.mem_range.mpr (ec ▸ (R.ok c hc).2)
theorem Rgc.aij (R : Rgc cs PR a b) {u v : Nat} (hu : u ∈ callees cs) (hv : v ∈ callees cs) : lap VS5 (gr ((b, a) :: PR)) u v = Aij cs u v := by
  have h := (R.mem (R.sm hu)).mp hu
  unfold lap Aij
  rw [if_neg h]
  by_cases q : u = v
  · subst q
    rw [if_pos rfl, one_hit, ← R.len (R.sm hu), ← R.cnt]
    show _ = (((mineOf cs u).countP fun c => !(c.u == c.v) : Nat) : Int)
    have e := List.length_eq_countP_add_countP (l := mineOf cs u) (fun c => !(c.u == c.v))
    have e2 : (mineOf cs u).countP (fun c => decide ¬(!(c.u == c.v)) = true) = Mine.cnt u (mineOf cs u) := List.countP_congr fun c hc => by
      have hc := eq_of_beq (List.mem_filter.mp hc).2
      rw [hc]
      simp
    rw [e2] at e
    lia
  · rw [if_neg q, one_no q, R.cnt]
    simp
noncomputable def oth (cs : List Ca) (out : Nat) : List Nat := nms cs out ++ VS5.filter fun v => !decide (v ∈ callees cs)
theorem Rgc.oth_nd (R : Rgc cs PR a b) {out : Nat} (ho : out ∈ callees cs) : (oth cs out ++ [out]).Nodup ∧ (∀ x ∈ oth cs out ++ [out], x < 5) ∧ (oth cs out).length = 4 := by
  have m1 : ∀ {x}, x ∈ nms cs out ↔ x ∈ callees cs ∧ x ≠ out := fun {x} => by unfold nms; rw [List.mem_filter]; simp
  have m2 : ∀ {x}, x ∈ VS5.filter (fun v => !decide (v ∈ callees cs)) ↔ x ∈ VS5 ∧ x ∉ callees cs := fun {x} => by rw [List.mem_filter]; simp
  have hn : (oth cs out ++ [out]).Nodup := by
    unfold oth
    refine List.nodup_append.mpr ⟨List.nodup_append.mpr ⟨fs_nodup.filter _, List.nodup_range.filter _, fun x hx y hy e => ?_⟩, List.nodup_cons.mpr ⟨List.not_mem_nil, .nil⟩, fun x hx y hy e => ?_⟩
    · subst e; exact (m2.mp hy).2 (m1.mp hx).1
    · subst e
      have hy := List.mem_singleton.mp hy
      subst hy
      exact (List.mem_append.mp hx).elim (fun h => (m1.mp h).2 rfl) fun h => (m2.mp h).2 ho
  have hm : ∀ x, x ∈ oth cs out ++ [out] ↔ x ∈ VS5 := fun x => by
    constructor
    · intro h
      refine (List.mem_append.mp h).elim (fun h => (List.mem_append.mp h).elim (fun h => R.sm (m1.mp h).1) fun h => (m2.mp h).1) fun h => ?_
      exact List.mem_singleton.mp h ▸ R.sm ho
    · intro h
      by_cases q : x ∈ callees cs
      · by_cases q2 : x = out
        · exact List.mem_append_right _ (List.mem_singleton.mpr q2)
        · exact List.mem_append_left _ (List.mem_append_left _ (m1.mpr ⟨q, q2⟩))
      · exact List.mem_append_left _ (List.mem_append_right _ (m2.mpr ⟨h, q⟩))
  have pm := (List.perm_ext_iff_of_nodup hn List.nodup_range).mpr hm
  refine ⟨hn, fun x hx => List.mem_range.mp ((hm x).mp hx), ?_⟩
  have := pm.length_eq
  rw [List.length_append] at this
  have e5 : (VS5).length = 5 := rfl
  have e1 : [out].length = 1 := rfl
  have e5' : VS5 = List.range 5 := rfl
  rw [e5'] at e5
  lia
theorem list4 {l : List Nat} (h : l.length = 4) : l = [l.getD 0 0, l.getD 1 0, l.getD 2 0, l.getD 3 0] := by
  match l, h with
  | [_, _, _, _], _ => rfl
theorem Rgc.tree (R : Rgc cs PR a b) (hl : cs.length = 9) {out : Nat} (ho : out ∈ callees cs) :
    ∃ B l, Bx (nms cs out).length B l ∧ (nms cs out).length ≤ 4 ∧ (∀ i j, i < (nms cs out).length → j < (nms cs out).length → B 0 i j = Aij cs ((nms cs out).getD i 0) ((nms cs out).getD j 0)) ∧ l (nms cs out).length * (ordN PR a b : Nat) = ((wayN PR a * perms VS5 (gr ((b, a) :: PR)) : Nat) : Int) ∧ (l (nms cs out).length).natAbs ≤ 1048576 := by
  obtain ⟨hn, h5, h4⟩ := R.oth_nd ho
  have e4 := list4 h4
  have hnl : (nms cs out).length ≤ 4 := by
    have : (oth cs out).length = (nms cs out).length + _ := List.length_append
    lia
  have hL : ((b, a) :: PR).length ≤ 9 := by rw [← R.uv, List.length_map, hl]; exact Nat.le_refl _
  have H : Vs VS5 ((oth cs out).getD 0 0) ((oth cs out).getD 1 0) ((oth cs out).getD 2 0) ((oth cs out).getD 3 0) out := by
    rw [e4] at hn h5
    exact five_vs hn h5
  have nm : ∀ i, i < (nms cs out).length → (oth cs out).getD i 0 = (nms cs out).getD i 0 := fun i hi => by
    unfold oth
    rw [List.getD_eq_getElem?_getD, List.getElem?_append_left hi, ← List.getD_eq_getElem?_getD]
  have nmc : ∀ i, i < (nms cs out).length → (oth cs out).getD i 0 ∈ callees cs := fun i hi => by
    rw [nm i hi, List.getD_eq_getElem?_getD, List.getElem?_eq_getElem hi]
    exact (List.mem_filter.mp (List.getElem_mem hi)).1
  have pres : ∀ i, i < (nms cs out).length → outD VS5 (gr ((b, a) :: PR)) ((oth cs out).getD i 0) ≠ 0 := fun i hi => (R.mem (R.sm (nmc i hi))).mp (nmc i hi)
  have X := st_ok (A := lap VS5 (gr ((b, a) :: PR))) (q := fun i => (oth cs out).getD i 0) (fun i j => lap_le List.nodup_range hL) hnl (fun h => piv1 R.rg H (pres 0 (by lia)) (pres 1 (by lia))) fun h => piv2 R.rg H (pres 0 (by lia)) (pres 1 (by lia)) (pres 2 (by lia))
  refine ⟨_, _, X, hnl, fun i j hi hj => ?_, ?_, X.sl _⟩
  · rw [← nm i hi, ← nm j hj, ← R.aij (nmc i hi) (nmc j hj)]
    rfl
  · rw [tree_all R.rg H ((R.mem (R.sm ho)).mp ho)]
    refine congrArg (· * _) (stL_det hnl fun i hi hi4 j hj => ?_)
    have hil : i < (oth cs out).length := by lia
    have hjl : j < (oth cs out).length := by lia
    have hio : ∀ i (h : i < (oth cs out).length), (oth cs out).getD i 0 = (oth cs out)[i] := fun i h => by rw [List.getD_eq_getElem?_getD, List.getElem?_eq_getElem h]; rfl
    have abs : outD VS5 (gr ((b, a) :: PR)) ((oth cs out).getD i 0) = 0 := by
      have e : (oth cs out).getD i 0 = (VS5.filter fun v => !decide (v ∈ callees cs)).getD (i - (nms cs out).length) 0 := by
        unfold oth
        rw [List.getD_eq_getElem?_getD, List.getElem?_append_right hi, ← List.getD_eq_getElem?_getD]
      have hh : i - (nms cs out).length < (VS5.filter fun v => !decide (v ∈ callees cs)).length := by
        have : (oth cs out).length = (nms cs out).length + (VS5.filter fun v => !decide (v ∈ callees cs)).length := List.length_append
        lia
      have m : (oth cs out).getD i 0 ∈ VS5.filter fun v => !decide (v ∈ callees cs) := by
        rw [e, List.getD_eq_getElem?_getD, List.getElem?_eq_getElem hh]
        exact List.getElem_mem hh
      have m := List.mem_filter.mp m
      have no : (oth cs out).getD i 0 ∉ callees cs := fun h => by
        have := m.2
        rw [decide_eq_true h] at this
        exact Bool.noConfusion this
      exact Classical.byContradiction fun ne => no ((R.mem m.1).mpr ne)
    show lap VS5 (gr ((b, a) :: PR)) ((oth cs out).getD i 0) ((oth cs out).getD j 0) = _
    unfold lap
    rw [if_pos abs, hio i hil, hio j hjl]
    have hon := (List.nodup_append.mp hn).1
    unfold one
    by_cases q : j = i
    · subst q; rw [if_pos rfl, if_pos rfl]; rfl
    · rw [if_neg q, if_neg fun e => q ((List.getElem_inj hon).mp e).symm]; rfl
theorem Rgc.ord (R : Rgc cs PR a b) : gprod (callees cs) (fun v => fct ((mineOf cs v).length - 1)) * Mine.cnt b (mineOf cs a) = ordN PR a b := by
  unfold ordN
  rw [R.cnt]
  refine congrArg (· * _) ((gprod_congr fun v hv => ?_).trans (gprod_part List.nodup_range fs_nodup (fun x hx => R.sm hx) fun x hx hn => ?_))
  · rw [R.len (R.sm hv)]
  · rw [Classical.byContradiction fun ne => hn ((R.mem hx).mpr ne)]
    rfl
theorem Rgc.rep (R : Rgc cs PR a b) : gprod (callees cs) (fun v => gprod (callers (mineOf cs v)) fun u => fct (Mine.cnt u (mineOf cs v))) = perms VS5 (gr ((b, a) :: PR)) := by
  rw [perms_swap]
  refine (gprod_congr fun v hv => ?_).trans (gprod_part (f := fun v => gprod VS5 fun u => fct (gr ((b, a) :: PR) u v)) List.nodup_range fs_nodup (fun x hx => R.sm hx) fun x hx hn => ?_)
  · refine (gprod_congr fun u _ => ?_).trans (gprod_part (f := fun u => fct (gr ((b, a) :: PR) u v)) List.nodup_range fs_nodup (fun u hu => List.mem_range.mpr (callers_sm R.ok.filter u hu)) fun u hu hn => ?_)
    · rw [R.cnt]
    · rw [← R.cnt, cnt_no fun h => hn (mem_callers.mpr h)]; rfl
  · refine gprod_one fun u hu => ?_
    have e : outD VS5 (gr ((b, a) :: PR)) x = 0 := Classical.byContradiction fun ne => hn ((R.mem hx).mpr ne)
    rw [m_inn R.rg.even hu hx e]; rfl
theorem Rgc.rep_lt (R : Rgc cs PR a b) : perms VS5 (gr ((b, a) :: PR)) ≤ 362880 := Nat.le_trans perms_le (by rw [R.rg.tot]; decide)
end
noncomputable def fillL (ns sp : List Int) (n : Nat) : List Int := (ns.drop n ++ sp.drop (ns.drop n).length).take sp.length
theorem fill_len {ns sp : List Int} {n : Nat} : (fillL ns sp n).length = sp.length := by
  unfold fillL
  rw [List.length_take, List.length_append, List.length_drop, List.length_drop]
  exact Nat.min_eq_left (by omega)
theorem fill_mem {ns sp : List Int} {n : Nat} {x : Int} (h : x ∈ fillL ns sp n) : x ∈ ns ∨ x ∈ sp :=
  (List.mem_append.mp (List.mem_of_mem_take h)).imp List.mem_of_mem_drop List.mem_of_mem_drop
theorem fill_ok {p : Prog} {g k : Nat} (h : Sh p) {ns sp : List Int} {n : Nat} (hl : ns.length ≤ 63) (hs : sp.length ≤ 100) : (run p g (k + 1)).call 9 [.list (ns.map .int), .int n, .list (sp.map .int)] = some (.list ((fillL ns sp n).map .int)) := by
  refine (filled_ok h (xs := ns.map .int) (sp := sp.map .int) (n := n) (by rw [List.length_map]; exact Nat.le_trans hl (by decide)) (by rw [List.length_map]; exact Nat.le_trans hs (by decide))).trans ?_
  unfold fillL
  rw [List.map_take, List.map_append, List.map_drop, List.map_drop, List.length_drop, List.length_map, List.length_map, List.length_drop]
noncomputable def nine : List Int := [5, 1, -3, 8, 6, 2, -1, 3, 9]
noncomputable def rgOf (vs : List Int) : List Nat := vs.map fun x => (x.fmod 5).toNat
noncomputable def csOf (vs : List Int) : List Ca := (List.range 9).map fun i => ⟨(rgOf vs).getD (if i = 0 then 8 else i - 1) 0, (rgOf vs).getD i 0, vs.getD i 0⟩
theorem fmod5 {x : Int} : ∃ n : Nat, n < 5 ∧ x.fmod 5 = n := by
  have h1 := Int.fmod_nonneg_of_pos x (b := 5) (by decide)
  have h2 := Int.fmod_lt_of_pos x (b := 5) (by decide)
  exact ⟨(x.fmod 5).toNat, by lia, by lia⟩
theorem rg_lt {vs : List Int} : ∀ r ∈ rgOf vs, r < 5 := fun r hr => by
  obtain ⟨x, _, e⟩ := List.mem_map.mp hr
  obtain ⟨n, h, e'⟩ := fmod5 (x := x)
  rw [e'] at e
  exact e ▸ h
theorem rg_getD {vs : List Int} {i : Nat} : (rgOf vs).getD i 0 < 5 := by
  rw [List.getD_eq_getElem?_getD]
  cases h : (rgOf vs)[i]? with
  | none => exact (by decide : 0 < 5)
  | some r => exact rg_lt r (List.mem_of_getElem? h)
theorem rg_len {vs : List Int} (h : vs.length = 9) : (rgOf vs).length = 9 := (List.length_map ..).trans h
theorem rc_of {vs : List Int} (h : vs.length = 9) : Rgc (csOf vs) (prs (rgOf vs)) ((rgOf vs).getD 0 0) ((rgOf vs).getD 8 0) where
  ok := fun c hc => by
    obtain ⟨i, _, e⟩ := List.mem_map.mp hc
    exact e ▸ ⟨rg_getD, rg_getD⟩
  uv := by rw [prs_range (n := 8) (rg_len h)]; rfl
  rg := ⟨prs_path rg_lt (rg_len h), prs_len (rg_len h), List.mem_range.mpr rg_getD, List.mem_range.mpr rg_getD⟩
theorem cs_len {vs : List Int} : (csOf vs).length = 9 := rfl
theorem cs_t {vs : List Int} {N : Nat} (h : ∀ x ∈ vs, bits x ≤ N) : ∀ c ∈ csOf vs, bits c.t ≤ N := fun c hc => by
  obtain ⟨i, _, e⟩ := List.mem_map.mp hc
  subst e
  show bits (vs.getD i 0) ≤ N
  rw [List.getD_eq_getElem?_getD]
  cases e : vs[i]? with
  | none => exact Nat.zero_le _
  | some y => exact h y (List.mem_of_getElem? e)
theorem sum_bits {l : List Int} {N : Nat} : (∀ x ∈ l, bits x ≤ N) → bits l.sum ≤ N + l.length := by
  induction l with
  | nil => exact fun _ => Nat.zero_le _
  | cons x r ih =>
    intro h
    rw [List.sum_cons]
    exact bits_add (Nat.le_trans (h x (List.mem_cons_self ..)) (Nat.le_add_right ..)) (ih fun y hy => h y (List.mem_cons_of_mem _ hy))
theorem mine_t {vs : List Int} (h : ∀ x ∈ vs, bits x ≤ 2 ^ 20) {v : Nat} : bits ((mineOf (csOf vs) v).map (·.t)).sum ≤ 2 ^ 21 := by
  have h1 := sum_bits (l := (mineOf (csOf vs) v).map (·.t)) (N := 2 ^ 20) fun x hx => by
    obtain ⟨c, hc, e⟩ := List.mem_map.mp hx
    exact e ▸ cs_t h c (List.mem_filter.mp hc).1
  rw [List.length_map] at h1
  have h2 : (mineOf (csOf vs) v).length ≤ 9 := mine_len
  lia
noncomputable def lF (a0 a1 a2 a3 a4 a5 a6 a7 a8 a9 a10 a11 a12 : Option Slot) : Fr := [a0, a1, a2, a3, a4, a5, a6, a7, a8, a9, a10, a11, a12, none, none, none, none, none, none, none, none, none, none, none, none, none]
noncomputable def nV (ns : List Int) : Option Slot := some (.v (.list (ns.map .int)))
noncomputable def gV (vs : List Int) : Option Slot := some (.v (.list ((rgOf vs).map lV)))
noncomputable def cV (vs : List Int) : Option Slot := some (.v (.list ((csOf vs).map caV)))
noncomputable def iV (x : Int) : Option Slot := some (.v (.int x))
noncomputable def pV' (cs : List Ca) (c : Nat) : Option Slot := some (.v (.list ([cs.take c, cs.drop c].map (dV2 0))))
theorem m0_lF {ns : List Int} : m0 ns = lF (nV ns) none none none none none none none none none none none none := rfl
variable {ns vs : List Int} {cut lo : Int} {c : Nat}
theorem sub_neg {xs : List V} {a : V} {n : Nat} (hl : xs.length = n + 1) (ha : xs[n]? = some a) : subV (.list xs) (.int (-1)) = some a := by
  have : item xs (-1) = some a := by
    unfold item
    simp only [hl]
    rw [if_neg (by decide), if_pos (by lia), show ((-1 : Int) + ((n + 1 : Nat) : Int)).toNat = n by lia]
    exact ha
  exact this
theorem lw0_ok (hl : ns.length ≤ 63) : ex (run p1 0 63) lw0 (m0 ns) = some (.next, lF (nV ns) (nV (fillL ns nine 0)) none none none none none none none none none none none) := by
  have f1 : (run p1 0 63).call 9 [.list (ns.map .int), .int 0, .list [.int 5, .int 1, .int (-3), .int 8, .int 6, .int 2, .int (-1), .int 3, .int 9]] = _ := fill_ok sh1.toSh (sp := nine) (n := 0) hl (by decide)
  rw [m0_lF]
  dsimp only [lw0, lF, nV]
  walk_at "EV"
  rw [f1]
  rfl
theorem lw1_ok (hv : vs.length = 9) : ex (run p1 0 63) lw1 (lF (nV ns) (nV vs) none none none none none none none none none none none) = some (.next, lF (nV ns) (nV vs) (some (.ol ((rgOf vs).map lV))) none none none none none none none none none none) := by
  dsimp only [lw1, lF, nV]
  walk_at "EV"
  rw [lc_map vs V.int (fun x => lV (x.fmod 5).toNat) ?hit (fun x _ => ?st) (by rw [hv, big_eq]; decide)]
  case hit =>
    walk_at "EV"
  case st =>
    walk_at "EV"
    rw [mod_ok (by decide)]
    obtain ⟨n, hn, e⟩ := fmod5 (x := x)
    rw [e]
    walk_at "EV"
    rw [lowS_ok hn, Int.toNat_natCast]
    rfl
  unfold rgOf
  rw [List.map_map]
  rfl
theorem lw2_ok (hv : vs.length = 9) : ex (run p1 0 63) lw2 (lF (nV ns) (nV vs) (some (.ol ((rgOf vs).map lV))) none none none none none none none none none none) = some (.next, lF (nV ns) (nV vs) (gV vs) (some (.ol ((csOf vs).map caV))) none none none none none none none none none) := by
  have hr := rg_len hv
  have g1 : ∀ j, j < 9 → ((rgOf vs).map lV)[j]? = some (lV ((rgOf vs).getD j 0)) := fun j hj => by
    rw [List.getElem?_map, List.getD_eq_getElem?_getD, List.getElem?_eq_getElem (hr ▸ hj)]; rfl
  have g2 : ∀ j, j < 9 → (vs.map V.int)[j]? = some (V.int (vs.getD j 0)) := fun j hj => by
    rw [List.getElem?_map, List.getD_eq_getElem?_getD, List.getElem?_eq_getElem (hv ▸ hj)]; rfl
  dsimp only [lw2, lF, nV, gV]
  walk_at "EV"
  rw [lc_map (List.range 9) (fun (k : Nat) => V.int (k : Int)) (fun i => caV ⟨(rgOf vs).getD (if i = 0 then 8 else i - 1) 0, (rgOf vs).getD i 0, vs.getD i 0⟩) ?hit (fun i hi => ?st) (by rw [List.length_range, big_eq]; decide)]
  case hit =>
    walk_at "EV"
    exact itm_rng (n := 9) (by rw [big_eq]; decide)
  case st =>
    have hi := List.mem_range.mp hi
    walk_at "EV"
    have e0 : subV (.list ((rgOf vs).map lV)) (.int ((i : Int) - 1)) = some (lV ((rgOf vs).getD (if i = 0 then 8 else i - 1) 0)) := by
      cases i with
      | zero => exact sub_neg (n := 8) (by rw [List.length_map, hr]) (g1 8 (by decide))
      | succ i =>
        rw [show ((i + 1 : Nat) : Int) - 1 = (i : Nat) by lia, sub_list]
        exact g1 i (by lia)
    rw [e0, sub_list, g1 i hi, sub_list, g2 i hi]
    rfl
  unfold csOf
  rw [List.map_map]
  rfl
theorem lw3_ok (hl : ns.length ≤ 63) {a3 : List V} (hf : fillL ns [4, 3] 9 = [cut, lo]) : ex (run p1 0 63) lw3 (lF (nV ns) (nV vs) (gV vs) (some (.ol a3)) none none none none none none none none none) = some (.next, lF (nV ns) (nV vs) (gV vs) (some (.ol a3)) (iV cut) (iV lo) none none none none none none none) := by
  have f1 : (run p1 0 63).call 9 [.list (ns.map .int), .int 9, .list [.int 4, .int 3]] = _ := fill_ok sh1.toSh (sp := [4, 3]) (n := 9) hl (by decide)
  rw [hf] at f1
  dsimp only [lw3, lF, nV, gV, iV]
  walk_at "EV"
  rw [f1]
  rfl
theorem cs_ok : CsOk (csOf vs) := fun c hc => by
  obtain ⟨i, _, e⟩ := List.mem_map.mp hc
  exact e ▸ ⟨rg_getD, rg_getD⟩
theorem lw4_ok (hc : cut.fmod 10 = (c : Int)) : ex (run p1 0 63) lw4 (lF (nV ns) (nV vs) (gV vs) (some (.ol ((csOf vs).map caV))) (iV cut) (iV lo) none none none none none none none) = some (.next, lF (nV ns) (nV vs) (gV vs) (cV vs) (iV cut) (iV lo) (pV' (csOf vs) c) none none none none none none) := by
  have b1 := book_ok (p := p1) (g := 0) (k := 60) sh1 (cs := (csOf vs).take c) (fun x hx => cs_ok x (List.mem_of_mem_take hx)) (by rw [List.length_take, cs_len]; omega)
  have b2 := book_ok (p := p1) (g := 0) (k := 60) sh1 (cs := (csOf vs).drop c) (fun x hx => cs_ok x (List.mem_of_mem_drop hx)) (by rw [List.length_drop, cs_len]; omega)
  dsimp only [lw4, lF, nV, gV, iV, cV]
  walk_at "EV"
  rw [mod_ok (by decide), hc]
  walk_at "EV"
  rw [cutT_l, cutF_l, ← List.map_take, ← List.map_drop]
  walk_at "EV"
  rw [b1, b2]
  rfl
theorem okV_key {n : Nat} {k : K} : okV (n + 1) (vKey k) := by cases k <;> trivial
theorem okV_M {n : Nat} {x : Mi} : okV (n + 2) (encM x) := by
  cases x with
  | one n => trivial
  | two n z => exact okV_two trivial trivial
theorem okV_lisV {n v : Nat} {e : Ei} : okV (n + 5) (lisV v e) := fun x hx => by
  rcases List.mem_cons.mp hx with rfl | hx
  · trivial
  rcases List.mem_cons.mp hx with rfl | hx
  · exact okV_ints (xs := [_, _, _, _])
  · have hx := List.mem_singleton.mp hx
    subst hx
    intro x hx
    obtain ⟨p, hp, e⟩ := List.mem_map.mp hx
    obtain ⟨q, _, e'⟩ := List.mem_map.mp hp
    subst e; subst e'
    exact okV_two okV_key okV_M
theorem okV_lisP {n : Nat} {cs : List Ca} : okV (n + 6) (lisP cs) := fun x hx => by
  obtain ⟨v, _, e⟩ := List.mem_map.mp hx
  exact e ▸ okV_lisV
theorem old_M {x : Mi} : Old (encM x) := by
  cases x with
  | one n => exact .int n
  | two n z =>
    refine .tup fun v hv => ?_
    rcases List.mem_cons.mp hv with rfl | hv
    · exact .int _
    · exact List.mem_singleton.mp hv ▸ .int _
theorem old_E {e : Ei} : Old (encE 0 e) := .tup fun v hv => by
  rcases List.mem_cons.mp hv with rfl | hv
  · exact .int _
  rcases List.mem_cons.mp hv with rfl | hv
  · exact .int _
  rcases List.mem_cons.mp hv with rfl | hv
  · exact .int _
  rcases List.mem_cons.mp hv with rfl | hv
  · exact .int _
  have hv := List.mem_singleton.mp hv
  subst hv
  refine .dict fun p hp => ?_
  obtain ⟨q, _, e'⟩ := List.mem_map.mp hp
  exact e' ▸ old_M
theorem old_dV2 {cs : List Ca} : Old (dV2 0 cs) := .dict fun p hp => by
  obtain ⟨q, _, e⟩ := List.mem_map.mp hp
  exact e ▸ old_E
theorem old_parts {l : List (List Ca)} : Old (.list (l.map (dV2 0))) := .list fun v hv => by
  obtain ⟨cs, _, e⟩ := List.mem_map.mp hv
  exact e ▸ old_dV2
theorem old_calls {cs : List Ca} : Old (.list (cs.map caV)) := .list fun v hv => by
  obtain ⟨c, _, e⟩ := List.mem_map.mp hv
  subst e
  refine .tup fun v hv => ?_
  rcases List.mem_cons.mp hv with rfl | hv
  · exact .str _
  rcases List.mem_cons.mp hv with rfl | hv
  · exact .str _
  exact List.mem_singleton.mp hv ▸ .int _
theorem flat_M {x : Mi} : flat (encM x) = true := by cases x <;> rfl
theorem ent_B {cs : List Ca} : ∀ p ∈ encB 1 (profOf cs), Ent p.2 := fun p hp => by
  obtain ⟨q, _, e⟩ := List.mem_map.mp hp
  subst e
  refine .mk rfl fun q hq => ?_
  obtain ⟨r, _, e⟩ := List.mem_map.mp hq
  exact e ▸ flat_M
theorem encB_len {g : Nat} {cs : List Ca} : (encB g (profOf cs)).length = (callees cs).length := by
  unfold encB profOf mkK
  rw [List.length_map, List.length_map, List.length_map]
theorem prodI_g {α : Type} {f : α → Nat} (l : List α) : prodI (l.map fun x => ((f x : Nat) : Int)) = (gprod l f : Nat) := by
  have : ∀ (l : List α) (z : Int), (l.map fun x => ((f x : Nat) : Int)).foldl (· * ·) z = z * (gprod l f : Nat) := fun l => by
    induction l with
    | nil => exact fun z => (Int.mul_one z).symm
    | cons x r ih =>
      intro z
      show (r.map _).foldl _ (z * (f x : Int)) = z * ((f x * gprod r f : Nat) : Int)
      rw [ih, Int.natCast_mul, Int.mul_assoc]
  exact (this l 1).trans (Int.one_mul _)
theorem gprod_app {α : Type} {f : α → Nat} {l r : List α} : gprod (l ++ r) f = gprod l f * gprod r f := by
  induction l with
  | nil => exact (Nat.one_mul _).symm
  | cons x l ih => exact (congrArg (f x * ·) ih).trans (Nat.mul_assoc ..).symm
theorem gprod_flat {α β : Type} {f : β → Nat} {g : α → List β} (l : List α) : gprod (l.flatMap g) f = gprod l fun x => gprod (g x) f := by
  induction l with
  | nil => rfl
  | cons x r ih => rw [List.flatMap_cons, gprod_app, ih]; rfl
theorem gprod_map {α β : Type} {f : β → Nat} {g : α → β} (l : List α) : gprod (l.map g) f = gprod l fun x => f (g x) := by
  induction l with
  | nil => rfl
  | cons x r ih => exact congrArg (f (g x) * ·) ih
theorem gprod_fct {n : Nat} : gprod (List.range n) (fun k => k + 1) = fct n := by
  induction n with
  | zero => rfl
  | succ n ih =>
    rw [List.range_succ, gprod_app, ih]
    show fct n * ((n + 1) * 1) = (n + 1) * fct n
    rw [Nat.mul_one, Nat.mul_comm]
theorem bits_sum {l : List Int} {N : Nat} : (∀ x ∈ l, bits x ≤ N) → (l.map bits).sum ≤ N * l.length := by
  induction l with
  | nil => exact fun _ => Nat.zero_le _
  | cons x r ih =>
    intro h
    rw [List.map_cons, List.sum_cons, List.length_cons, Nat.mul_succ, Nat.add_comm]
    exact Nat.add_le_add (ih fun y hy => h y (List.mem_cons_of_mem _ hy)) (h x (List.mem_cons_self ..))
theorem fct_mono {a b : Nat} (h : a ≤ b) : fct a ≤ fct b := by
  induction h with
  | refl => exact Nat.le_refl _
  | @step b _ ih => exact Nat.le_trans ih (Nat.le_mul_of_pos_left _ (Nat.succ_pos b))
theorem bits_fct {n : Nat} (h : n ≤ 9) : bits (fct n : Nat) ≤ 19 := bits_le (Nat.lt_of_le_of_lt (fct_mono h) (by decide))
section
variable {p : Prog} {g k : Nat}
theorem fact_ok (h : Sh1 p) {n : Nat} (hn : n ≤ 9) : (run p g (k + 1)).call 16 [.rng 1 (n + 1 : Nat)] = some (.int (fct n : Nat)) := by
  have q := product_ok (p := p) (g := g) (k := k) h (v := .rng 1 (n + 1 : Nat)) (ns := (List.range n).map fun k => ((k + 1 : Nat) : Int)) ((itm_rng1 (by rw [big_eq]; lia)).trans (congrArg some (List.map_map ..).symm)) ?_
  · rw [prodI_g (f := fun k => k + 1), gprod_fct] at q
    exact q
  · refine Nat.le_trans (bits_sum (N := 4) fun x hx => ?_) ?_
    · obtain ⟨k, hk, e⟩ := List.mem_map.mp hx
      have := List.mem_range.mp hk
      exact e ▸ bits_le (by lia)
    · rw [List.length_map, List.length_range]; lia
end
theorem callees_5 {cs : List Ca} (h : CsOk cs) : (callees cs).length ≤ 5 := nodup5 fs_nodup fun x hx => by
  obtain ⟨c, hc, e⟩ := List.mem_map.mp (mem_callees.mp hx)
  exact e ▸ (h c hc).2
theorem callers_5 {cs : List Ca} (h : CsOk cs) : (callers cs).length ≤ 5 := nodup5 fs_nodup (callers_sm h)
theorem mine_pos {cs : List Ca} {v : Nat} (h : v ∈ callees cs) : 1 ≤ (mineOf cs v).length := by
  obtain ⟨c, hc, e⟩ := List.mem_map.mp (mem_callees.mp h)
  exact List.length_pos_of_mem (List.mem_filter.mpr ⟨hc, beq_iff_eq.mpr e⟩)
noncomputable def cntsOf (cs : List Ca) : List Nat := (callees cs).flatMap fun v => (callers (mineOf cs v)).map fun u => cnt u (mineOf cs v)
theorem flat_len {α β : Type} {g : α → List β} {N : Nat} {l : List α} : (∀ x ∈ l, (g x).length ≤ N) → (l.flatMap g).length ≤ N * l.length := by
  induction l with
  | nil => exact fun _ => Nat.zero_le _
  | cons x r ih =>
    intro h
    rw [List.flatMap_cons, List.length_append, List.length_cons, Nat.mul_succ, Nat.add_comm]
    exact Nat.add_le_add (ih fun y hy => h y (List.mem_cons_of_mem _ hy)) (h x (List.mem_cons_self ..))
theorem cnts_len {cs : List Ca} (h : CsOk cs) : (cntsOf cs).length ≤ 25 := by
  have h1 := flat_len (l := callees cs) (N := 5) (g := fun v => (callers (mineOf cs v)).map fun u => cnt u (mineOf cs v)) fun v _ => by rw [List.length_map]; exact callers_5 h.filter
  have h2 := callees_5 h
  unfold cntsOf
  lia
theorem cnts_le {cs : List Ca} (hl : cs.length ≤ 9) : ∀ c ∈ cntsOf cs, c ≤ 9 := fun c hc => by
  obtain ⟨v, _, hc⟩ := List.mem_flatMap.mp hc
  obtain ⟨u, _, e⟩ := List.mem_map.mp hc
  subst e
  exact Nat.le_trans List.countP_le_length (Nat.le_trans mine_len hl)
theorem cnts_prod {cs : List Ca} : gprod (cntsOf cs) fct = gprod (callees cs) fun v => gprod (callers (mineOf cs v)) fun u => fct (cnt u (mineOf cs v)) := by
  unfold cntsOf
  rw [gprod_flat]
  exact gprod_congr fun v _ => gprod_map ..
variable {ns vs : List Int} {cut lo : Int} {c : Nat}
noncomputable def bV (vs : List Int) : Option Slot := some (.v (.dict 1 (encB 1 (profOf (csOf vs)))))
theorem keys_B {g : Nat} {cs : List Ca} : itemsOf (.dict g (encB g (profOf cs))) = some ((callees cs).map lV) := keys_V
theorem lw5_ok : ex (run p1 1 63) lw5 (lF (nV ns) (nV vs) (gV vs) (cV vs) (iV cut) (iV lo) (pV' (csOf vs) c) none none none none none none) = some (.next, lF (nV ns) (nV vs) (gV vs) (cV vs) (iV cut) (iV lo) (pV' (csOf vs) c) (bV vs) none none none none none) := by
  have ef : [(csOf vs).take c, (csOf vs).drop c].flatten = csOf vs := by
    show (csOf vs).take c ++ ((csOf vs).drop c ++ []) = _
    rw [List.append_nil, List.take_append_drop]
  have b1 := added_ok (p := p1) (g := 1) (k := 60) sh1 (g0 := 0) (parts := [(csOf vs).take c, (csOf vs).drop c]) (ef.symm ▸ cs_ok) (by rw [ef, cs_len]; decide)
  rw [ef] at b1
  dsimp only [lw5, lF, nV, gV, iV, cV, pV', bV]
  walk_at "EV"
  exact congrArg (Option.map _) b1
theorem told_all (hb : ∀ x ∈ vs, bits x ≤ 2 ^ 20) {v : Nat} (hv : v ∈ callees (csOf vs)) : (run p1 1 63).call 18 [encE 1 (entAt (csOf vs) v)] = some (.bool true) :=
  told_ok (p := p1) (g := 1) (k := 55) sh1 (g0 := 1) (m := mineOf (csOf vs) v) cs_ok.filter (mine_pos hv) mine_len (mine_t hb) (by decide)
theorem lw6_ok (hb : ∀ x ∈ vs, bits x ≤ 2 ^ 20) : ex (run p1 1 63) lw6 (lF (nV ns) (nV vs) (gV vs) (cV vs) (iV cut) (iV lo) (pV' (csOf vs) c) (bV vs) none none none none none) = some (.next, lF (nV ns) (nV vs) (gV vs) (cV vs) (iV cut) (iV lo) (pV' (csOf vs) c) (bV vs) none none none none none) := by
  have b1 := listed_ok (p := p1) (g := 1) (k := 62) sh1 (g0 := 1) (cs := csOf vs) (by rw [cs_len]; decide)
  have b2 := counted_ok (p := p1) (g := 1) (k := 61) sh1 (cs := csOf vs) cs_ok (by rw [cs_len]; decide)
  have hcb : (callees (csOf vs)).length ≤ big := Nat.le_trans (callees_5 cs_ok) (by decide)
  dsimp only [lw6, lF, nV, gV, iV, cV, pV', bV]
  walk_at "EV"
  rw [b1, b2]
  walk_at "EV"
  rw [ne_self (okV_lisP (n := 10))]
  walk_at "EV"
  rw [lc_filt (callees (csOf vs)) lV (fun _ => false) lV ?hit (fun v hv => ?st) hcb]
  case hit =>
    walk_at "EV"
    exact keys_B
  case st =>
    dsimp only [lV]
    walk_at "EV"
    rw [sub_prof hv]
    walk_at "EV"
    rw [told_all hb hv]
    rfl
  rw [show (callees (csOf vs)).filter (fun _ => false) = [] from List.filter_eq_nil_iff.mpr fun _ _ => Bool.false_ne_true]
  rfl
theorem lc_twoF {α : Type} {c : Cx} {m : Fr} {elt : E} {t t2 : Tg} {it it2 : It} {ifs : Es} {cap : List (Nat × Nat)} {n : Nat} (xs : List α) (e : α → V) (g : α → List V) (hit : evIt c m it = some (xs.map e))
    (h : ∀ x ∈ xs, ((m.capture noF cap n).bindN t (e x)).bind (fun m' => (evIt c m' it2).bind (fm fun y => (m'.bindN t2 y).bind fun m'' => (evAnd c m'' ifs).bind fun z => bif z then (ev c m'' elt).map fun v => [v] else some [])) = some (g x)) (hl : (xs.flatMap g).length ≤ big) : ev c m (.lcomp elt (.cons t it .nil (.cons t2 it2 ifs .nil)) cap n) = some (.list (xs.flatMap g)) := by
  show ((evIt c m it).bind (fm _)).bind _ = _
  rw [hit, Option.bind_some, fm_mapF h, Option.bind_some, if_pos hl]
theorem dget_lk {m : List Ca} (h : CsOk m) {u : Nat} (hu : u ∈ callers m) : dget (Sum.inl (ls u)) (encT (tabOf m)) = some (.int (cnt u m)) := by
  rw [show dget (Sum.inl (ls u)) (encT (tabOf m)) = (tget (lk u) (tabOf m)).map encM from dget_encT _ _]
  unfold tabOf
  rw [tget_mk, if_pos ((lk_tk (callers_sm h)).mpr hu), FT_lk]
  rfl
theorem keys_T {m : List Ca} : (encT (tabOf m)).map (fun p => vKey p.1) = (tk (callers m)).map vKey := by
  unfold tabOf encT mkK
  rw [List.map_map, List.map_map]
  rfl
theorem tk_fm {l : List Nat} {f : V → Option (List V)} {g : Nat → V} : (∀ u ∈ l, f (.str (ls u)) = some [g u] ∧ f (.str (us u)) = some []) → fm f ((tk l).map vKey) = some (l.map g) := by
  induction l with
  | nil => exact fun _ => rfl
  | cons u r ih =>
    intro h
    obtain ⟨h1, h2⟩ := h u (List.mem_cons_self ..)
    show (f (.str (ls u))).bind (fun a => ((f (.str (us u))).bind fun b => (fm f ((tk r).map vKey)).map (b ++ ·)).map (a ++ ·)) = _
    rw [h1, h2, ih fun w hw => h w (List.mem_cons_of_mem _ hw)]
    rfl
noncomputable def kV (vs : List Int) : List V := (cntsOf (csOf vs)).map fun n => .int (n : Nat)
theorem lw7_ok : ex (run p1 1 63) lw7 (lF (nV ns) (nV vs) (gV vs) (cV vs) (iV cut) (iV lo) (pV' (csOf vs) c) (bV vs) none none none none none) = some (.next, lF (nV ns) (nV vs) (gV vs) (cV vs) (iV cut) (iV lo) (pV' (csOf vs) c) (bV vs) (some (.ol (kV vs))) none none none none) := by
  have ek : (callees (csOf vs)).flatMap (fun v => (callers (mineOf (csOf vs) v)).map fun u => V.int (cnt u (mineOf (csOf vs) v))) = kV vs := by
    unfold kV cntsOf
    rw [List.map_flatMap]
    exact congrArg (fun f => (callees (csOf vs)).flatMap f) (funext fun v => by rw [List.map_map]; rfl)
  have hkl : (kV vs).length ≤ big := by
    unfold kV
    rw [List.length_map]
    exact Nat.le_trans (cnts_len cs_ok) (by decide)
  dsimp only [lw7, lF, nV, gV, iV, cV, pV', bV]
  walk_at "EV"
  rw [lc_twoF (callees (csOf vs)) lV (fun v => (callers (mineOf (csOf vs) v)).map fun u => V.int (cnt u (mineOf (csOf vs) v))) ?hit (fun v hv => ?st) (by rw [ek]; exact hkl), ek]
  case hit =>
    walk_at "EV"
    exact keys_B
  case st =>
    have hs := callers_sm (m := mineOf (csOf vs) v) cs_ok.filter
    dsimp only [lV]
    walk_at "EV"
    rw [sub_prof hv]
    unfold encE
    walk_at "EV"
    rw [show (entAt (csOf vs) v).t = tabOf (mineOf (csOf vs) v) from rfl, keys_T]
    refine tk_fm fun u hu => ⟨?_, ?_⟩
    · rw [ins_l (hs u hu)]
      walk_at "EV"
      rw [dget_lk (m := mineOf (csOf vs) v) cs_ok.filter hu]
      rfl
    · rw [ins_u (hs u hu)]
      rfl
  rfl
variable {ns vs : List Int} {cut lo : Int} {c : Nat}
noncomputable def tV (cs : List Ca) : Nat := gprod (callees cs) fun v => fct ((mineOf cs v).length - 1)
noncomputable def oN (vs : List Int) : Nat := tV (csOf vs) * cnt ((rgOf vs).getD 8 0) (mineOf (csOf vs) ((rgOf vs).getD 0 0))
noncomputable def rN (vs : List Int) : Nat := gprod (cntsOf (csOf vs)) fct
theorem tV_bits : ∀ x ∈ (callees (csOf vs)).map (fun v => ((fct ((mineOf (csOf vs) v).length - 1) : Nat) : Int)), bits x ≤ 19 := fun x hx => by
  obtain ⟨v, _, e⟩ := List.mem_map.mp hx
  have h : (mineOf (csOf vs) v).length ≤ 9 := mine_len
  exact e ▸ bits_fct (Nat.le_trans (Nat.sub_le ..) h)
theorem prodI_bits {l : List Int} : bits (prodI l) ≤ (l.map bits).sum + 1 := by
  have : ∀ (l : List Int) (z : Int), bits (l.foldl (· * ·) z) ≤ bits z + (l.map bits).sum := fun l => by
    induction l with
    | nil => exact fun z => Nat.le_refl _
    | cons x r ih =>
      intro z
      show bits (r.foldl _ (z * x)) ≤ bits z + (bits x + (r.map bits).sum)
      have := ih (z * x)
      have h2 := bits_mul (a := z) (b := x) (Nat.le_refl _) (Nat.le_refl _)
      lia
  have h := this l 1
  have e : bits 1 = 1 := by decide
  unfold prodI
  lia
theorem tV_le : bits (tV (csOf vs) : Nat) ≤ 96 := by
  have h1 := prodI_bits (l := (callees (csOf vs)).map fun v => ((fct ((mineOf (csOf vs) v).length - 1) : Nat) : Int))
  have h2 := bits_sum (tV_bits (vs := vs))
  rw [prodI_g] at h1
  rw [List.length_map] at h2
  have h3 := callees_5 (cs_ok (vs := vs))
  unfold tV
  lia
theorem cnt_bits {u v : Nat} : bits (cnt u (mineOf (csOf vs) v) : Nat) ≤ 4 := bits_le (by
  have h : cnt u (mineOf (csOf vs) v) ≤ (mineOf (csOf vs) v).length := List.countP_le_length
  have h2 : (mineOf (csOf vs) v).length ≤ 9 := mine_len
  omega)
theorem oN_bits : bits (oN vs : Nat) ≤ 100 := by
  unfold oN
  rw [Int.natCast_mul]
  exact bits_mul tV_le cnt_bits
theorem first_in (hv : vs.length = 9) : (rgOf vs).getD 0 0 ∈ callees (csOf vs) := mem_callees.mpr (by
  have e := (rc_of hv).uv
  have : (((rgOf vs).getD 8 0, (rgOf vs).getD 0 0) : Pr) ∈ (csOf vs).map fun c => (c.u, c.v) := by rw [e]; exact List.mem_cons_self ..
  obtain ⟨c, hc, e⟩ := List.mem_map.mp this
  exact List.mem_map.mpr ⟨c, hc, congrArg Prod.snd e⟩)
theorem last_in (hv : vs.length = 9) : (rgOf vs).getD 8 0 ∈ callers (mineOf (csOf vs) ((rgOf vs).getD 0 0)) := mem_callers.mpr (by
  have e := (rc_of hv).uv
  have : (((rgOf vs).getD 8 0, (rgOf vs).getD 0 0) : Pr) ∈ (csOf vs).map fun c => (c.u, c.v) := by rw [e]; exact List.mem_cons_self ..
  obtain ⟨c, hc, e⟩ := List.mem_map.mp this
  exact List.mem_map.mpr ⟨c, List.mem_filter.mpr ⟨hc, beq_iff_eq.mpr (congrArg Prod.snd e)⟩, congrArg Prod.fst e⟩)
theorem rg_at (hv : vs.length = 9) {j : Nat} (hj : j < 9) : ((rgOf vs).map lV)[j]? = some (lV ((rgOf vs).getD j 0)) := by
  rw [List.getElem?_map, List.getD_eq_getElem?_getD, List.getElem?_eq_getElem ((rg_len hv).symm ▸ hj)]; rfl
theorem lw8_ok (hv : vs.length = 9) : ex (run p1 1 63) lw8 (lF (nV ns) (nV vs) (gV vs) (cV vs) (iV cut) (iV lo) (pV' (csOf vs) c) (bV vs) (some (.ol (kV vs))) none none none none) = some (.next, lF (nV ns) (nV vs) (gV vs) (cV vs) (iV cut) (iV lo) (pV' (csOf vs) c) (bV vs) (some (.ol (kV vs))) (iV (oN vs : Nat)) none none none) := by
  have hcb : (callees (csOf vs)).length ≤ big := Nat.le_trans (callees_5 cs_ok) (by decide)
  have g8 : subV (.list ((rgOf vs).map lV)) (.int (-1)) = some (lV ((rgOf vs).getD 8 0)) := sub_neg (n := 8) (by rw [List.length_map, rg_len hv]) (rg_at hv (by decide))
  have g0 : subV (.list ((rgOf vs).map lV)) (.int 0) = some (lV ((rgOf vs).getD 0 0)) := (sub_list (n := 0)).trans (rg_at hv (by decide))
  have pr := product_ok (p := p1) (g := 1) (k := 62) sh1 (v := .list ((callees (csOf vs)).map fun v => .int ((fct ((mineOf (csOf vs) v).length - 1) : Nat) : Int))) (ns := (callees (csOf vs)).map fun v => ((fct ((mineOf (csOf vs) v).length - 1) : Nat) : Int)) (by rw [List.map_map]; rfl) (by
    have h2 := bits_sum (tV_bits (vs := vs))
    rw [List.length_map] at h2
    have h3 := callees_5 (cs_ok (vs := vs))
    lia)
  rw [prodI_g] at pr
  have em : binI .Mult ((gprod (callees (csOf vs)) (fun v => fct ((mineOf (csOf vs) v).length - 1)) : Nat) : Int) (cnt ((rgOf vs).getD 8 0) (mineOf (csOf vs) ((rgOf vs).getD 0 0)) : Nat) = some (.int (oN vs : Nat)) :=
    (mul_ok (Nat.le_trans (Nat.add_le_add (tV_le (vs := vs)) cnt_bits) (by rw [big_eq]; decide))).trans (congrArg (fun z => some (V.int z)) (Int.natCast_mul ..).symm)
  dsimp only [lw8, lF, nV, gV, iV, cV, pV', bV]
  walk_at "EV"
  rw [lc_map (callees (csOf vs)) lV (fun v => .int ((fct ((mineOf (csOf vs) v).length - 1) : Nat) : Int)) ?hit (fun v hv => ?st) hcb]
  case hit =>
    walk_at "EV"
    exact keys_B
  case st =>
    have hp := mine_pos hv
    have hl : (mineOf (csOf vs) v).length ≤ 9 := mine_len
    dsimp only [lV]
    walk_at "EV"
    rw [sub_prof hv]
    unfold encE
    walk_at "EV"
    have e : ((entAt (csOf vs) v).b : Int) = (((mineOf (csOf vs) v).length - 1 + 1 : Nat) : Int) := by
      rw [Nat.sub_add_cancel hp]; rfl
    rw [e]
    exact fact_ok (p := p1) (g := 1) (k := 62) sh1 (by lia)
  walk_at "EV"
  rw [pr]
  walk_at "EV"
  rw [g0, g8]
  dsimp only [lV]
  walk_at "EV"
  rw [sub_prof (first_in hv)]
  unfold encE
  walk_at "EV"
  rw [show (entAt (csOf vs) ((rgOf vs).getD 0 0)).t = tabOf (mineOf (csOf vs) ((rgOf vs).getD 0 0)) from rfl, dget_lk (m := mineOf (csOf vs) ((rgOf vs).getD 0 0)) cs_ok.filter (last_in hv)]
  walk_at "EV"
  rw [em]
  rfl
theorem lw9_ok : ex (run p1 1 63) lw9 (lF (nV ns) (nV vs) (gV vs) (cV vs) (iV cut) (iV lo) (pV' (csOf vs) c) (bV vs) (some (.ol (kV vs))) (iV (oN vs : Nat)) none none none) = some (.next, lF (nV ns) (nV vs) (gV vs) (cV vs) (iV cut) (iV lo) (pV' (csOf vs) c) (bV vs) (some (.v (.list (kV vs)))) (iV (oN vs : Nat)) (iV (rN vs : Nat)) none none) := by
  have hkb : (cntsOf (csOf vs)).length ≤ big := Nat.le_trans (cnts_len cs_ok) (by decide)
  have pr := product_ok (p := p1) (g := 1) (k := 62) sh1 (v := .list ((cntsOf (csOf vs)).map fun n => .int (fct n : Nat))) (ns := (cntsOf (csOf vs)).map fun n => ((fct n : Nat) : Int)) (by rw [List.map_map]; rfl) (by
    have h2 := bits_sum (l := (cntsOf (csOf vs)).map fun n => ((fct n : Nat) : Int)) (N := 19) fun x hx => by
      obtain ⟨n, hn, e⟩ := List.mem_map.mp hx
      exact e ▸ bits_fct (cnts_le (by rw [cs_len]; decide) n hn)
    rw [List.length_map] at h2
    have h3 := cnts_len (cs_ok (vs := vs))
    lia)
  rw [prodI_g] at pr
  dsimp only [lw9, lF, nV, gV, iV, cV, pV', bV]
  walk_at "EV"
  rw [lc_map (cntsOf (csOf vs)) (fun n => V.int (n : Nat)) (fun n => .int (fct n : Nat)) ?hit (fun n hn => ?st) hkb]
  case hit =>
    walk_at "EV"
    rfl
  case st =>
    walk_at "EV"
    exact fact_ok (p := p1) (g := 1) (k := 62) sh1 (cnts_le (by rw [cs_len]; decide) n hn)
  walk_at "EV"
  rw [pr]
  rfl
theorem lw10_ok (hv : vs.length = 9) : ex (run p1 1 63) lw10 (lF (nV ns) (nV vs) (gV vs) (cV vs) (iV cut) (iV lo) (pV' (csOf vs) c) (bV vs) (some (.v (.list (kV vs)))) (iV (oN vs : Nat)) (iV (rN vs : Nat)) none none) = some (.next, lF (nV ns) (nV vs) (gV vs) (cV vs) (iV cut) (iV lo) (pV' (csOf vs) c) (bV vs) (some (.v (.list (kV vs)))) (iV (oN vs : Nat)) (iV (rN vs : Nat)) (some (.v (.tup [.int (wayN (prs (rgOf vs)) ((rgOf vs).getD 0 0) : Nat), .int 0]))) none) := by
  have r := runs_run (p := p1) (g := 1) (k := 61) sh1 (rs := rgOf vs) rg_lt (n := 8) (rg_len hv) (Nat.le_refl _)
  dsimp only [lw10, lF, nV, gV, iV, cV, pV', bV]
  walk_at "EV"
  rw [r]
  rfl
variable {ns vs : List Int} {cut lo : Int} {c : Nat}
noncomputable def wN (vs : List Int) : Nat := wayN (prs (rgOf vs)) ((rgOf vs).getD 0 0)
noncomputable def lF11 (ns vs : List Int) (cut lo : Int) (c : Nat) (x : Option V) : Fr := lF (nV ns) (nV vs) (gV vs) (cV vs) (iV cut) (iV lo) (pV' (csOf vs) c) (bV vs) (some (.v (.list (kV vs)))) (iV (oN vs : Nat)) (iV (rN vs : Nat)) (some (.v (.tup [.int (wN vs : Nat), .int 0]))) (oS x)
theorem div_ok (hv : vs.length = 9) {out : Nat} (ho : out ∈ callees (csOf vs)) : ∃ d : Int, d.natAbs ≤ 1048576 ∧ (run p1 1 63).call 17 [.dict 1 (encB 1 (profOf (csOf vs))), lV out] = some (.int d) ∧ (run p1 1 63).call 8 [.int (d * (oN vs : Nat)), .int (rN vs : Nat)] = some (.tup [.int (wN vs : Nat), .int 0]) := by
  have R := rc_of hv
  obtain ⟨B, l, X, hn4, hB, hT, hS⟩ := R.tree cs_len ho
  refine ⟨_, hS, det_run (p := p1) (g := 1) (k0 := 56) sh1 (by decide) (g0 := 1) cs_ok (Nat.le_of_eq cs_len) hn4 X hB, ?_⟩
  have er : rN vs = perms VS5 (gr (((rgOf vs).getD 8 0, (rgOf vs).getD 0 0) :: prs (rgOf vs))) := cnts_prod.trans R.rep
  have eo : oN vs = ordN (prs (rgOf vs)) ((rgOf vs).getD 0 0) ((rgOf vs).getD 8 0) := R.ord
  have hp : 0 < rN vs := er ▸ perms_gt
  have hl : rN vs ≤ 362880 := er ▸ R.rep_lt
  rw [← eo, ← er] at hT
  rw [hT]
  have hw : bits ((wN vs * rN vs : Nat) : Int) ≤ 2 ^ 21 := by
    show bits ((wayN (prs (rgOf vs)) ((rgOf vs).getD 0 0) * rN vs : Nat) : Int) ≤ 2 ^ 21
    rw [← hT]
    exact Nat.le_trans (bits_mul (bits_le (n := 21) (by lia)) oN_bits) (by decide)
  have q := dm_ok (p := p1) (g := 1) (k := 57) sh1.toSh (a := ((wN vs * rN vs : Nat) : Int)) (b := (rN vs : Nat)) (by lia) (by rw [Int.natAbs_natCast]; lia) hw (by decide)
  rw [fdiv_nat, fmod_nat, Nat.mul_div_cancel _ hp, Nat.mul_mod_left] at q
  exact q
theorem lw11_ok (hv : vs.length = 9) {i : Nat} (hi : i < (callees (csOf vs)).length) (hlo : lo.fmod ((callees (csOf vs)).length : Nat) = (i : Int)) : ∃ x, ex (run p1 1 63) lw11 (lF11 ns vs cut lo c none) = some (.next, lF11 ns vs cut lo c x) := by
  have g0 : subV (.list ((rgOf vs).map lV)) (.int 0) = some (lV ((rgOf vs).getD 0 0)) := (sub_list (n := 0)).trans (rg_at hv (by decide))
  have gi : subV (.list ((callees (csOf vs)).map lV)) (.int i) = some (lV ((callees (csOf vs)).getD i 0)) := sub_list.trans (by
    rw [List.getElem?_map, List.getD_eq_getElem?_getD, List.getElem?_eq_getElem hi]; rfl)
  have hm : ∀ out ∈ [(rgOf vs).getD 0 0, (callees (csOf vs)).getD i 0], out ∈ callees (csOf vs) := fun out ho => (List.mem_cons.mp ho).elim (fun e => e ▸ first_in hv) fun ho => by
    rw [List.mem_singleton.mp ho, List.getD_eq_getElem?_getD, List.getElem?_eq_getElem hi]
    exact List.getElem_mem hi
  have z := for_run (c := run p1 1 63) (t := .one 12) (body := .cons (.ite (.p2 (cmpV .NotEq) (.call 8 (.cons (.p2 (binV .Mult) (.call 17 (.cons (.var 7) (.cons (.var 12) .nil))) (.var 9)) (.cons (.var 10) .nil))) (.var 11)) (.cons (.ret (.cst (.bool false))) .nil) .nil) .nil) (it := .one itemsOf (.pn tupN (.cons (.pe subV 2 (.cst (.int 0))) (.cons (.p2 subV (.p1 keysV (.var 7)) (.p2 (binV .Mod) (.var 5) (.pv lenV 7))) .nil)))) (m := lF11 ns vs cut lo c none) [(rgOf vs).getD 0 0, (callees (csOf vs)).getD i 0] lV (lF11 ns vs cut lo c) (fun _ out => some (lV out)) (fun rem _ => ∀ out ∈ rem, out ∈ callees (csOf vs)) none ?hit rfl hm (fun out r x hx => ⟨?st, fun o ho => hx o (List.mem_cons_of_mem _ ho)⟩)
  · exact ⟨_, z.1⟩
  case hit =>
    dsimp only [lF11, lF, nV, gV, iV, cV, pV', bV]
    walk_at "EV"
    have ek : (encB 1 (profOf (csOf vs))).map (fun p => vKey p.1) = (callees (csOf vs)).map lV := Option.some.inj keys_B
    have e0 : ((encB 1 (profOf (csOf vs))).length : Int) ≠ 0 := by rw [encB_len]; lia
    rw [g0, mod_ok e0, encB_len, hlo, ek]
    walk_at "EV"
    rw [gi]
    rfl
  case st =>
    obtain ⟨d, hd, h17, h8⟩ := div_ok hv (hx out (List.mem_cons_self ..))
    dsimp only [lF11, lF, nV, gV, iV, cV, pV', bV]
    walk_at "EV"
    have em : binI .Mult d (oN vs : Nat) = some (.int (d * (oN vs : Nat))) := mul_ok (Nat.le_trans (Nat.add_le_add (bits_le (a := d) (n := 21) (by lia)) (oN_bits (vs := vs))) (by rw [big_eq]; decide))
    rw [h17]
    walk_at "EV"
    rw [em]
    walk_at "EV"
    rw [h8]
    walk_at "EV"
    rw [ne_self (v := .tup [.int (wN vs : Nat), .int 0]) (okV_two (n := 15) trivial trivial)]
    rfl
variable {ns vs : List Int} {cut lo : Int} {c : Nat}
theorem lw13_ok (hc : cut.fmod 10 = (c : Int)) : ∃ mD, ex (run p1 1 63) lw13 (mC (.list ((csOf vs).map caV)) (.int cut) (.list ([(csOf vs).take c, (csOf vs).drop c].map (dV2 0)))) = some (.ret (.bool true), mD) := by
  have hl : (csOf vs).length = 9 := cs_len
  have n1 : ((csOf vs).take c).length ≤ 50 := by rw [List.length_take, hl]; omega
  have n2 : ((csOf vs).drop c).length ≤ 50 := by rw [List.length_drop, hl]; omega
  have l1 := listed_ok (p := p1) (g := 1) (k := 62) sh1 (g0 := 0) n1
  have l2 := listed_ok (p := p1) (g := 1) (k := 62) sh1 (g0 := 0) n2
  have c1 := counted_ok (p := p1) (g := 1) (k := 61) sh1 (fun x hx => cs_ok x (List.mem_of_mem_take hx)) n1
  have c2 := counted_ok (p := p1) (g := 1) (k := 61) sh1 (fun x hx => cs_ok x (List.mem_of_mem_drop hx)) n2
  refine ⟨mC (.list ((csOf vs).map caV)) (.int cut) (.list ([(csOf vs).take c, (csOf vs).drop c].map (dV2 0))), ?_⟩
  dsimp only [lw13, mC]
  walk_at "EV"
  rw [lc_map [(csOf vs).take c, (csOf vs).drop c] (dV2 0) lisP ?hit (fun q hq => ?st) (show 2 ≤ big by rw [big_eq]; decide)]
  case hit =>
    walk_at "EV"
  case st =>
    have hq : q.length ≤ 50 := (List.mem_cons.mp hq).elim (fun e => e ▸ n1) fun hq => List.mem_singleton.mp hq ▸ n2
    walk_at "EV"
    exact listed_ok (p := p1) (g := 1) (k := 62) sh1 (g0 := 0) hq
  walk_at "EV"
  rw [mod_ok (by decide), hc]
  walk_at "EV"
  rw [cutT_l, cutF_l, ← List.map_take, ← List.map_drop]
  walk_at "EV"
  rw [c1, c2]
  walk_at "EV"
  rw [eq_self' (v := .list [lisP ((csOf vs).take c), lisP ((csOf vs).drop c)]) (show okV 16 (.list _) from fun x hx => (List.mem_cons.mp hx).elim (fun e => e ▸ okV_lisP (n := 9)) fun hx => List.mem_singleton.mp hx ▸ okV_lisP (n := 9))]
  rfl
theorem fmod_to {a : Int} {n : Nat} (h : 0 < n) : ∃ i : Nat, i < n ∧ a.fmod (n : Nat) = i := by
  have h1 := Int.fmod_nonneg_of_pos a (b := n) (by omega)
  have h2 := Int.fmod_lt_of_pos a (b := n) (by omega)
  exact ⟨(a.fmod n).toNat, by omega, by omega⟩
theorem two_of {l : List Int} (h : l.length = 2) : ∃ a b, l = [a, b] := by
  match l, h with
  | [a, b], _ => exact ⟨a, b, rfl⟩
theorem run_ok (hl : ns.length ≤ 63) (hb : ∀ x ∈ ns, bits x ≤ 2 ^ 20) : RunOk ns := by
  have hv : (fillL ns nine 0).length = 9 := fill_len
  have hvb : ∀ x ∈ fillL ns nine 0, bits x ≤ 2 ^ 20 := fun x hx => (fill_mem hx).elim (hb x) fun q => of_decide_eq_true (List.all_eq_true.mp (show nine.all (fun x => decide (bits x ≤ 2 ^ 20)) = true by decide +kernel) x q)
  obtain ⟨cut, lo, hf⟩ := two_of (show (fillL ns [4, 3] 9).length = 2 from fill_len)
  obtain ⟨c, _, hc⟩ := fmod_to (a := cut) (n := 10) (by decide)
  have s0 := lw0_ok (ns := ns) hl
  generalize fillL ns nine 0 = vs at s0 hv hvb
  obtain ⟨i, hi, hlo⟩ := fmod_to (a := lo) (n := (callees (csOf vs)).length) (List.length_pos_of_mem (first_in hv))
  obtain ⟨x, s11⟩ := lw11_ok (ns := ns) (cut := cut) (lo := lo) (c := c) hv hi hlo
  obtain ⟨mD, s13⟩ := lw13_ok (vs := vs) (cut := cut) (c := c) hc
  refine ⟨_, _, _, _, _, _, mD, .cons s0 (.cons (lw1_ok hv) (.cons (lw2_ok hv) (.cons (lw3_ok hl hf) (.cons (lw4_ok hc) .nil)))), .cons lw5_ok (.cons (lw6_ok hvb) (.cons lw7_ok (.cons (lw8_ok hv) (.cons lw9_ok (.cons (lw10_ok hv) (.cons s11 .nil)))))), rfl, ent_B, ?_, rfl, rfl, rfl, old_calls, .int cut, old_parts, s13⟩
  rw [encB_len]
  exact Nat.le_trans (callees_5 cs_ok) (by decide)
theorem weight_one {x : Int} {n : Nat} (h : PyData.weight (.int x) ≤ n) : bits x ≤ n := by
  unfold PyData.weight at h
  unfold bits
  by_cases h0 : x = 0
  · rw [if_pos h0]; exact Nat.zero_le _
  · rw [if_neg h0]
    rw [if_neg fun q => h0 (eq_of_beq q)] at h
    exact h
theorem weight_bits {ns : List Int} : ∀ {n : Nat}, PyData.weightAll (ns.map PyData.int) ≤ n → ∀ x ∈ ns, bits x ≤ n := by
  induction ns with
  | nil => exact fun _ x hx => absurd hx List.not_mem_nil
  | cons y r ih =>
    intro n h x hx
    have h : PyData.weight (.int y) + 1 + PyData.weightAll (r.map PyData.int) ≤ n := h
    exact (List.mem_cons.mp hx).elim (fun e => e ▸ weight_one (Nat.le_trans (Nat.le_add_right _ 1) (Nat.le_trans (Nat.le_add_right ..) h))) (ih (Nat.le_trans (Nat.le_add_left ..) h) x)
theorem H1 {ns : List Int} (hlen : ns.length ≤ 63) (hlay : (PyData.list (ns.map PyData.int)).layable0 = true) : RunOk ns :=
  run_ok hlen (weight_bits (of_decide_eq_true (Bool.and_eq_true_iff.mp hlay).2))
end Mine
end
section
set_option maxRecDepth 100000
set_option maxHeartbeats 8000000
set_option genSizeOf false
set_option genInjectivity false
namespace Mine
open PySem PySem.W PyProof.Rows
theorem wsaid : Challenge.rw_ph0108_01.wellSaid = true := by kernel_rfl
noncomputable def keep : List Stmt → List Stmt
  | [] => []
  | .FunctionDef a b c d e f g h i j :: r => .FunctionDef a b c d e f g h i j :: keep r
  | .Assign [.Name x p] (.Constant (.int i) n q) z :: r => .Assign [.Name x p] (.Constant (.int i) n q) z :: keep r
  | _ :: r => keep r
noncomputable def view : Program := let p := Challenge.rw_ph0108_01.row.prog; { p with main := { p.main with body := keep p.main.body } }
theorem bi_boot : ∀ q ∈ biNames, bootBuiltins q.1 = some q.2 := fun q hq => by
  unfold biNames at hq
  simp only [List.mem_cons, List.not_mem_nil, or_false] at hq
  rcases hq with rfl | rfl | rfl | rfl | rfl | rfl | rfl | rfl | rfl | rfl | rfl | rfl <;> rfl
end Mine
end
section
set_option maxRecDepth 100000
set_option maxHeartbeats 8000000
open PySem PySem.W PyProof.Rows
theorem PySem.Challenge.cw_ph0108_01_holds : PySem.Challenge.rw_ph0108_01.Holds := by
  w_on
  refine holds_law Mine.wsaid fun said => ?_
  refine holds_open (r := Challenge.rw_ph0108_01.row) (q := Mine.view) (loose := []) (Xt := fun s => xlAt Mine.view [] s && recOk (RowW.records Challenge.rw_ph0108_01.row.toRowW) s) (XP := XL Mine.view []) (Yf := Hook.obs Hook.none) (Ya := Hook.val Hook.none) (YP := Hook.says Hook.none) (N := 1424) ?hl (Hook.of Hook.none) (Hook.keeps Hook.none) (fun s e => xl_of s (Bool.and_eq_true_iff.mp e).1) XL.keeps (by rfl) (by rfl) (by rfl) (fun s e => recFacts_of (Bool.and_eq_true_iff.mp e).2) (by rfl) (by first | assumption | decide +kernel) (by decide +kernel) ⟨rfl, rfl, rfl, rfl, rfl, by decide +kernel⟩ ?hw ?hc
  case hl => exact fun w => by kernel_rfl
  case hw => w_witness2
  case hc =>
    w_strict (
      intro w s₀ s₁ mg mb G Y fa o pm cd doc dV kV ho hd hcd hD hmg hg args vals as hpre hlay hrd hwl hlo
      refine Ground.open G ?_
      intro T B D TE TW
      try (refine guard_noD D (by decide +kernel) ?_; clear D)
      wrow_args hpre hlay hrd hwl hlo
      all_goals (first | refine callC_kw (enter_call ?_) | refine enter_call ?_)
      rename (PyData.layable0 _ = true) => hlay1
      rename (Well _ _ _ _) => hwell
      rename (¬ _ < _) => hlen
      refine Mine.law_top T (AllBare.of_eq hg) (by kernel_rfl) (by kernel_rfl) (by decide +kernel) Mine.bi_boot hmg hwell (by omega) (Mine.H1 (by omega) hlay1) (raisesW_false ?_) ?_
      · wrow_none_raised
      · wrow_post)
end
