import PyProof.Rows.All
import Wide.All
import OpenK.AllK
import Wide.FinOn
import Lean
import PySem.Challenge.RW_hc0005_01
set_option Elab.async false
set_option linter.unusedVariables false
set_option linter.unusedSimpArgs false
section
open PySem
namespace Mine

inductive Op | add | sub | mul | fdiv | fmod | shl | shr | xor
inductive Cm | lt | le | gt | eq | ne

inductive AV where
  | none | bool (b : Bool) | int (i : Int) | lst (k : Nat) | pair (a b : Int) | rng (a b c : Int)

inductive CE where
  | int (i : Int) | bool (b : Bool) | none
  | loc (i : Nat) | cel (i : Nat)
  | bin (o : Op) (a b : CE) | cmp (o : Cm) (a b : CE) | isNone (a : CE)
  | band (a b : CE) | bor (a b : CE) | ife (c a b : CE)
  | list (es : List CE) | pair (a b : CE) | idx (a i : CE)
  | len (a : CE) | range2 (a b : CE) | range3 (a b c : CE) | sum (a : CE) | toInt (a : CE) | lenDict (a : CE) | divmod (a b : CE) | bitlen (a : CE)
  | callG (f : Nat) (args : List CE) | callI (j : Nat) (args : List CE)
  | comp (elt iter : CE) (cond : Option CE)

/-- a name that is stored: a local's place or a cell's -/
inductive Tg | loc (i : Nat) | cel (j : Nat)

inductive CS where
  | set (t : Tg) (e : CE)
  | setComp (i : Nat) (elt iter : CE) (cond : Option CE)
  | set2 (i j : Nat) (e : CE)
  | setT (i j : Nat) (a b : CE)
  | setI (a i v : CE)
  | expr (e : CE)
  | append (a v : CE) | insert (a i v : CE) | reverse (a : CE)
  | ite (c : CE) (t e : List CS)
  | whil (c : CE) (b : List CS)
  | forIn (t : Tg) (it : CE) (b : List CS)
  | forRev (t : Tg) (it : CE) (b : List CS)
  | ret (e : CE) | retN
  | defI (j q : Nat)
  | bad

abbrev Hp := List (List AV)
structure St where
  loc : List (Option AV)
  cel : List (Option AV)
  fn : Option Nat
inductive Out | nx (σ : St) | rt (v : AV)
inductive Src | lst (k i : Nat) | rev (k n : Nat) | rng (a : Int) (left : Nat) (c : Int)
structure CFn where
  nloc : Nat
  ncel : Nat
  par : List Tg
  dfl : List AV
  body : List CS
  ar : List Nat
/-- what an oracle may answer -/
inductive Ans | pair (a b : Int) | ints (l : List Int)

def nth {α : Type} : List α → Nat → Option α
  | [], _ => .none
  | a :: _, 0 => some a
  | _ :: l, n + 1 => nth l n
def put {α : Type} : List α → Nat → α → List α
  | [], _, _ => []
  | _ :: l, 0, x => x :: l
  | a :: l, n + 1, x => a :: put l n x
def ins {α : Type} : List α → Nat → α → List α
  | l, 0, x => x :: l
  | [], _ + 1, x => [x]
  | a :: l, n + 1, x => a :: ins l n x

/-- a heap is kept with its newest list first -/
def hAt : Hp → Nat → Option (List AV)
  | [], _ => .none
  | x :: H, k => match Nat.beq k H.length with
    | true => some x
    | false => hAt H k
def hPut : Hp → Nat → List AV → Hp
  | [], _, _ => []
  | x :: H, k, y => match Nat.beq k H.length with
    | true => y :: H
    | false => x :: hPut H k y

def ltB : Int → Int → Bool := PySem.W.Z.ltB
def leB : Int → Int → Bool := PySem.W.Z.leB
def eqB : Int → Int → Bool := PySem.W.Z.eqB
/-- a small number -/
def sm (i : Int) : Bool := match i with
  | .ofNat n => Nat.blt n 1000000
  | .negSucc n => Nat.blt n 1000000
def nat? (i : Int) : Option Nat := match i with
  | .ofNat n => some n
  | .negSucc _ => .none
def guard {α : Type} (b : Bool) (x : Option α) : Option α := match b with
  | true => x
  | false => .none

def opZ (o : Op) (i j : Int) : Option Int := guard (sm i) (guard (sm j) (match o with
  | .add => some (Int.add i j)
  | .sub => some (Int.sub i j)
  | .mul => some (Int.mul i j)
  | .fdiv => guard (!eqB j (.ofNat 0)) (some (Int.fdiv i j))
  | .fmod => guard (!eqB j (.ofNat 0)) (some (Int.fmod i j))
  | .shl => match i, j with
    | .ofNat a, .ofNat n => guard (Nat.blt n 64) (some (.ofNat (Nat.mul a (Nat.pow 2 n))))
    | _, _ => .none
  | .shr => match i, j with
    | .ofNat a, .ofNat n => guard (Nat.blt n 64) (some (.ofNat (Nat.div a (Nat.pow 2 n))))
    | _, _ => .none
  | .xor => match i, j with
    | .ofNat a, .ofNat n => some (Int.sub (.ofNat (Nat.lor a n)) (.ofNat (Nat.land a n)))
    | _, _ => .none))
def cmZ (o : Cm) (i j : Int) : Bool := match o with
  | .lt => ltB i j
  | .le => leB i j
  | .gt => ltB j i
  | .eq => eqB i j
  | .ne => !eqB i j
def rep {α : Type} : Nat → List α → List α
  | 0, _ => []
  | n + 1, l => l ++ rep n l
def binV (o : Op) (x y : AV) (H : Hp) : Option (AV × Hp) := match x, y with
  | .int i, .int j => (opZ o i j).bind fun k => some (.int k, H)
  | .lst k, .lst l => match o with
    | .add => (hAt H k).bind fun xs => (hAt H l).bind fun ys => guard (Nat.blt (xs.length + ys.length) 1000) (some (.lst H.length, (xs ++ ys) :: H))
    | _ => .none
  | .lst k, .int i => match o with
    | .mul => (hAt H k).bind fun xs => (nat? i).bind fun n => guard (Nat.blt xs.length 1000) (guard (Nat.blt n 1000) (some (.lst H.length, rep n xs :: H)))
    | _ => .none
  | _, _ => .none
def cmpV (o : Cm) (x y : AV) (H : Hp) : Option Bool := match x, y with
  | .int i, .int j => some (cmZ o i j)
  | .lst k, .lst l => match o, hAt H k, hAt H l with
    | .ne, some [], some [] => some false
    | _, _, _ => .none
  | _, _ => .none
def truth (x : AV) (H : Hp) : Option Bool := match x with
  | .bool b => some b
  | .int i => some (!eqB i (.ofNat 0))
  | .lst k => (hAt H k).bind fun xs => guard (Nat.blt xs.length 1000) (some (!xs.isEmpty))
  | .none => some false
  | _ => .none
def idxV (x y : AV) (H : Hp) : Option AV := match x, y with
  | .lst k, .int i => (hAt H k).bind fun xs => (nat? i).bind fun n => guard (Nat.blt n 1000) (nth xs n)
  | .pair a b, .int i => match nat? i with
    | some 0 => some (.int a)
    | some 1 => some (.int b)
    | _ => .none
  | _, _ => .none
def lenV (x : AV) (H : Hp) : Option AV := match x with
  | .lst k => (hAt H k).bind fun xs => guard (Nat.blt xs.length 1000) (some (.int (.ofNat xs.length)))
  | _ => .none
def sumZ : List AV → Int → Option Int
  | [], a => some a
  | .int i :: l, a => guard (sm i) (guard (sm a) (sumZ l (Int.add a i)))
  | _ :: _, _ => .none
def sumV (x : AV) (H : Hp) : Option AV := match x with
  | .lst k => (hAt H k).bind fun xs => guard (Nat.blt xs.length 1000) ((sumZ xs (.ofNat 0)).map .int)
  | _ => .none
/-- how many keys are new: the keys met so far, the pairs -/
def keysOf : List AV → List Int → Option (List Int)
  | [], ks => some ks
  | .pair a _ :: l, ks => keysOf l (if ks.any (eqB a) then ks else ks ++ [a])
  | _ :: _, _ => .none
def dictV (x : AV) (H : Hp) : Option AV := match x with
  | .lst k => (hAt H k).bind fun xs => guard (Nat.blt xs.length 1000) ((keysOf xs []).map fun ks => .int (.ofNat ks.length))
  | _ => .none
def bits (n : Nat) : Nat := match n with
  | 0 => 0
  | n + 1 => Nat.log2 (n + 1) + 1
def bitlenV (x : AV) : Option AV := match x with
  | .int (.ofNat n) => some (.int (.ofNat (bits n)))
  | _ => .none
def divmodV (x y : AV) : Option AV := match x, y with
  | .int i, .int j => guard (sm i) (guard (sm j) (guard (!eqB j (.ofNat 0)) (some (.pair (Int.fdiv i j) (Int.fmod i j)))))
  | _, _ => .none
/-- the number of a range's turns -/
def turns (a b c : Int) : Option Nat := guard (sm a) (guard (sm b) (match c with
  | .ofNat 1 => match Int.sub b a with
    | .ofNat n => some n
    | .negSucc _ => some 0
  | .negSucc 0 => match Int.sub a b with
    | .ofNat n => some n
    | .negSucc _ => some 0
  | _ => .none))
def iterOf (x : AV) : Option Src := match x with
  | .lst k => some (.lst k 0)
  | .rng a b c => (turns a b c).map fun n => .rng a n c
  | _ => .none
/-- one step of an iterator: the item and what is left, or none at the end -/
def nextOf (r : Src) (H : Hp) : Option (Option (AV × Src)) := match r with
  | .lst k i => (hAt H k).map fun xs => (nth xs i).map fun x => (x, .lst k (i + 1))
  | .rev k n => (hAt H k).bind fun xs => match n with
    | 0 => some .none
    | m + 1 => (nth xs m).map fun x => some (x, .rev k m)
  | .rng a n c => match n with
    | 0 => some .none
    | m + 1 => some (some (.int a, .rng (Int.add a c) m c))
def St.sto (σ : St) (t : Tg) (x : AV) : St := match t with
  | .loc i => ⟨put σ.loc i (some x), σ.cel, σ.fn⟩
  | .cel j => ⟨σ.loc, put σ.cel j (some x), σ.fn⟩
def tgOk (σ : St) (t : Tg) : Bool := match t with
  | .loc i => Nat.blt i σ.loc.length
  | .cel j => Nat.blt j σ.cel.length
def stoAll : St → List Tg → List AV → Option St
  | σ, [], [] => some σ
  | σ, t :: ts, x :: xs => guard (tgOk σ t) (stoAll (σ.sto t x) ts xs)
  | _, _, _ => .none
def blank : Nat → List (Option AV)
  | 0 => []
  | n + 1 => .none :: blank n
def padArgs (f : CFn) (args : List AV) : List AV := args ++ f.dfl.drop (args.length - (f.par.length - f.dfl.length))
def enter (f : CFn) (args : List AV) : Option St := guard (f.ar.any (Nat.beq args.length)) <| stoAll ⟨blank f.nloc, blank f.ncel, .none⟩ f.par (padArgs f args)
def enterI (f : CFn) (q : Nat) (args : List AV) (cel : List (Option AV)) : Option St := stoAll ⟨blank f.nloc, cel, some q⟩ f.par args

structure Ev where
  E : CE → St → Hp → Option (AV × Hp)
  T : CE → St → Hp → Option (Bool × Hp)
  C : CE → Option CE → Src → List AV → St → Hp → Option (List AV × Hp)
  S : CS → St → Hp → Option (Out × Hp)
  W : CE → List CS → St → Hp → Option (Out × Hp)
  F : Tg → List CS → Src → St → Hp → Option (Out × Hp)
  G : Nat → List AV → Hp → Option (AV × Hp)
  I : Nat → List AV → St → Hp → Option (AV × Hp)

def evEs (v : Ev) : List CE → St → Hp → Option (List AV × Hp)
  | [], _, H => some ([], H)
  | e :: es, σ, H => (v.E e σ H).bind fun r => (evEs v es σ r.2).bind fun rs => some (r.1 :: rs.1, rs.2)
def evSs (v : Ev) : List CS → St → Hp → Option (Out × Hp)
  | [], σ, H => some (.nx σ, H)
  | c :: cs, σ, H => (v.S c σ H).bind fun r => match r.1 with
    | .nx σ' => evSs v cs σ' r.2
    | .rt x => some (.rt x, r.2)
def ev1 (v : Ev) (a : CE) (σ : St) (H : Hp) (k : AV → Hp → Option (AV × Hp)) : Option (AV × Hp) := (v.E a σ H).bind fun r => k r.1 r.2
def ev2 (v : Ev) (a b : CE) (σ : St) (H : Hp) (k : AV → AV → Hp → Option (AV × Hp)) : Option (AV × Hp) := (v.E a σ H).bind fun r => (v.E b σ r.2).bind fun q => k r.1 q.1 q.2
def pure1 (x : Option AV) (H : Hp) : Option (AV × Hp) := x.bind fun a => some (a, H)
def compOf (v : Ev) (elt it : CE) (cond : Option CE) (σ : St) (H : Hp) : Option (AV × Hp) :=
  (v.E it σ H).bind fun r => (iterOf r.1).bind fun src => (v.C elt cond src [] ⟨[.none], σ.cel, .none⟩ r.2).bind fun q => guard (Nat.blt q.1.length 1000) (some (.lst q.2.length, q.1 :: q.2))

def stepE (v : Ev) (c : CE) (σ : St) (H : Hp) : Option (AV × Hp) := match c with
  | .int i => some (.int i, H)
  | .bool b => some (.bool b, H)
  | .none => some (.none, H)
  | .loc i => match nth σ.loc i with
    | some (some x) => some (x, H)
    | _ => .none
  | .cel j => match nth σ.cel j with
    | some (some x) => some (x, H)
    | _ => .none
  | .bin o a b => ev2 v a b σ H (binV o)
  | .cmp o a b => ev2 v a b σ H fun x y H => (cmpV o x y H).bind fun t => some (.bool t, H)
  | .isNone a => ev1 v a σ H fun x H => some (.bool (match x with | .none => true | _ => false), H)
  | .band a b => ev1 v a σ H fun x H => (truth x H).bind fun t => match t with
    | true => v.E b σ H
    | false => some (x, H)
  | .bor a b => ev1 v a σ H fun x H => (truth x H).bind fun t => match t with
    | true => some (x, H)
    | false => v.E b σ H
  | .ife c a b => (v.T c σ H).bind fun r => match r.1 with
    | true => v.E a σ r.2
    | false => v.E b σ r.2
  | .list es => (evEs v es σ H).bind fun r => guard (Nat.blt r.1.length 1000) (some (.lst r.2.length, r.1 :: r.2))
  | .pair a b => ev2 v a b σ H fun x y H => match x, y with
    | .int i, .int j => some (.pair i j, H)
    | _, _ => .none
  | .idx a i => ev2 v a i σ H fun x y H => pure1 (idxV x y H) H
  | .len a => ev1 v a σ H fun x H => pure1 (lenV x H) H
  | .range2 a b => ev2 v a b σ H fun x y H => match x, y with
    | .int i, .int j => guard (sm i) (guard (sm j) (some (.rng i j (.ofNat 1), H)))
    | _, _ => .none
  | .range3 a b c => ev2 v a b σ H fun x y H => ev1 v c σ H fun z H => match x, y, z with
    | .int i, .int j, .int k => guard (sm i) (guard (sm j) (guard (sm k) (guard (!eqB k (.ofNat 0)) (some (.rng i j k, H)))))
    | _, _, _ => .none
  | .sum a => ev1 v a σ H fun x H => pure1 (sumV x H) H
  | .toInt a => ev1 v a σ H fun x H => match x with
    | .bool b => some (.int (match b with | true => .ofNat 1 | false => .ofNat 0), H)
    | _ => .none
  | .lenDict a => ev1 v a σ H fun x H => pure1 (dictV x H) H
  | .divmod a b => ev2 v a b σ H fun x y H => pure1 (divmodV x y) H
  | .bitlen a => ev1 v a σ H fun x H => pure1 (bitlenV x) H
  | .callG f args => (evEs v args σ H).bind fun r => v.G f r.1 r.2
  | .callI _ args => match σ.fn with
    | some q => (evEs v args σ H).bind fun r => v.I q r.1 σ r.2
    | .none => .none
  | .comp elt it cond => compOf v elt it cond σ H
def stepT (v : Ev) (c : CE) (σ : St) (H : Hp) : Option (Bool × Hp) := match c with
  | .band a b => (v.T a σ H).bind fun r => match r.1 with
    | true => v.T b σ r.2
    | false => some (false, r.2)
  | .bor a b => (v.T a σ H).bind fun r => match r.1 with
    | true => some (true, r.2)
    | false => v.T b σ r.2
  | .loc i => (v.E (.loc i) σ H).bind fun r => (truth r.1 r.2).bind fun t => some (t, r.2)
  | .cel j => (v.E (.cel j) σ H).bind fun r => (truth r.1 r.2).bind fun t => some (t, r.2)
  | .cmp o a b => (v.E (.cmp o a b) σ H).bind fun r => (truth r.1 r.2).bind fun t => some (t, r.2)
  | .isNone a => (v.E (.isNone a) σ H).bind fun r => (truth r.1 r.2).bind fun t => some (t, r.2)
  | _ => .none
def testOf (v : Ev) (cond : Option CE) (σ : St) (H : Hp) : Option (Bool × Hp) := match cond with
  | .none => some (true, H)
  | some c => v.T c σ H
def stepC (v : Ev) (elt : CE) (cond : Option CE) (r : Src) (acc : List AV) (σ : St) (H : Hp) : Option (List AV × Hp) :=
  (nextOf r H).bind fun n => match n with
    | .none => some (acc.reverse, H)
    | some p => (testOf v cond ⟨[some p.1], σ.cel, .none⟩ H).bind fun t => match t.1 with
      | true => (v.E elt ⟨[some p.1], σ.cel, .none⟩ t.2).bind fun x => guard (Nat.blt acc.length 999) (v.C elt cond p.2 (x.1 :: acc) σ x.2)
      | false => v.C elt cond p.2 acc σ t.2
def nx (σ : St) (H : Hp) : Option (Out × Hp) := some (.nx σ, H)
def isRef (x : AV) : Bool := match x with
  | .none => false | .bool _ => false | .int _ => false | _ => true
def mutL (x : AV) (H : Hp) (f : List AV → Option (List AV)) : Option Hp := match x with
  | .lst k => (hAt H k).bind fun xs => guard (Nat.blt xs.length 999) ((f xs).bind fun ys => some (hPut H k ys))
  | _ => .none
def stepS (v : Ev) (c : CS) (σ : St) (H : Hp) : Option (Out × Hp) := match c with
  | .set t e => (v.E e σ H).bind fun r => guard (tgOk σ t) (nx (σ.sto t r.1) r.2)
  | .setComp i elt it cond => (compOf v elt it cond σ H).bind fun r => guard (tgOk σ (.loc i)) (nx (σ.sto (.loc i) r.1) r.2)
  | .set2 i j e => (v.E e σ H).bind fun r => match r.1 with
    | .pair a b => guard (tgOk σ (.loc i)) (guard (tgOk σ (.loc j)) (nx ((σ.sto (.loc i) (.int a)).sto (.loc j) (.int b)) r.2))
    | _ => .none
  | .setT i j a b => (v.E a σ H).bind fun r => (v.E b σ r.2).bind fun q => guard (tgOk σ (.loc i)) (guard (tgOk σ (.loc j)) (guard (!(Nat.beq i j)) (nx ((σ.sto (.loc j) q.1).sto (.loc i) r.1) q.2)))
  | .setI a i x => (v.E x σ H).bind fun r => (v.E a σ r.2).bind fun l => (v.E i σ l.2).bind fun n => match n.1 with
    | .int (.ofNat m) => (mutL l.1 n.2 fun xs => guard (Nat.blt m xs.length) (some (put xs m r.1))).bind fun H' => nx σ H'
    | _ => .none
  | .expr e => (v.E e σ H).bind fun r => guard (!isRef r.1) (nx σ r.2)
  | .append a x => (v.E a σ H).bind fun l => (v.E x σ l.2).bind fun r => (mutL l.1 r.2 fun xs => some (xs ++ [r.1])).bind fun H' => nx σ H'
  | .insert a i x => (v.E a σ H).bind fun l => (v.E i σ l.2).bind fun n => (v.E x σ n.2).bind fun r => match n.1 with
    | .int (.ofNat m) => (mutL l.1 r.2 fun xs => guard (Nat.ble m xs.length) (some (ins xs m r.1))).bind fun H' => nx σ H'
    | _ => .none
  | .reverse a => (v.E a σ H).bind fun l => (mutL l.1 l.2 fun xs => some xs.reverse).bind fun H' => nx σ H'
  | .ite c t e => (v.T c σ H).bind fun r => match r.1 with
    | true => evSs v t σ r.2
    | false => evSs v e σ r.2
  | .whil c b => v.W c b σ H
  | .forIn t it b => (v.E it σ H).bind fun r => (iterOf r.1).bind fun src => v.F t b src σ r.2
  | .forRev t it b => (v.E it σ H).bind fun r => match r.1 with
    | .lst k => (hAt r.2 k).bind fun xs => guard (Nat.blt xs.length 1000) (v.F t b (.rev k xs.length) σ r.2)
    | _ => .none
  | .ret e => (v.E e σ H).bind fun r => some (.rt r.1, r.2)
  | .retN => some (.rt .none, H)
  | .defI j q => match nth σ.cel j with
    | some .none => nx ⟨σ.loc, σ.cel, some q⟩ H
    | _ => .none
  | .bad => .none
def stepW (v : Ev) (c : CE) (b : List CS) (σ : St) (H : Hp) : Option (Out × Hp) := (v.T c σ H).bind fun r => match r.1 with
  | false => nx σ r.2
  | true => (evSs v b σ r.2).bind fun q => match q.1 with
    | .nx σ' => v.W c b σ' q.2
    | .rt x => some (.rt x, q.2)
def stepF (v : Ev) (t : Tg) (b : List CS) (r : Src) (σ : St) (H : Hp) : Option (Out × Hp) := (nextOf r H).bind fun n => match n with
  | .none => nx σ H
  | some p => guard (tgOk σ t) ((evSs v b (σ.sto t p.1) H).bind fun q => match q.1 with
    | .nx σ' => v.F t b p.2 σ' q.2
    | .rt x => some (.rt x, q.2))
def leave (r : Option (Out × Hp)) : Option (AV × Hp) := r.bind fun q => match q.1 with
  | .nx _ => some (.none, q.2)
  | .rt x => some (x, q.2)
def ofAns (a : Ans) (H : Hp) : AV × Hp := match a with
  | .pair i j => (.pair i j, H)
  | .ints l => (.lst H.length, l.map .int :: H)
def stepG (fns : List CFn) (orc : Nat → List AV → Option Ans) (v : Ev) (k : Nat) (args : List AV) (H : Hp) : Option (AV × Hp) := match orc k args with
  | some a => some (ofAns a H)
  | .none => (nth fns k).bind fun f => (enter f args).bind fun σ => leave (evSs v f.body σ H)
def stepI (inns : List CFn) (v : Ev) (q : Nat) (args : List AV) (σ : St) (H : Hp) : Option (AV × Hp) :=
  (nth inns q).bind fun f => (enterI f q args σ.cel).bind fun σ' => leave (evSs v f.body σ' H)
def step (fns inns : List CFn) (orc : Nat → List AV → Option Ans) (v : Ev) : Ev :=
  ⟨stepE v, stepT v, stepC v, stepS v, stepW v, stepF v, stepG fns orc v, stepI inns v⟩
def ev0 : Ev := ⟨fun _ _ _ => .none, fun _ _ _ => .none, fun _ _ _ _ _ _ => .none, fun _ _ _ => .none, fun _ _ _ _ => .none, fun _ _ _ _ _ => .none, fun _ _ _ => .none, fun _ _ _ _ => .none⟩
def ev (fns inns : List CFn) (orc : Nat → List AV → Option Ans) : Nat → Ev
  | 0 => ev0
  | n + 1 => step fns inns orc (ev fns inns orc n)
end Mine
end
section
open PySem
namespace Mine
def cDiv2 : CFn := ⟨11, 0, [.loc 0, .loc 1, .loc 2], [], [.ite (.cmp .le (.bin .sub (.bitlen (.loc 0)) (.loc 2)) (.int (.ofNat 4000))) [.ret (.divmod (.loc 0) (.loc 1))] [], .bad], [3]⟩
def cNone : CFn := ⟨0, 0, [], [], [.bad], []⟩
def cInt2 : CFn := ⟨1, 3, [(.loc 0), (.cel 0)], [], [.set (.cel 1) (.bin .mul (.list [(.int (.ofNat 0))]) (.bin .fdiv (.bin .sub (.bin .add (.bitlen (.loc 0)) (.cel 0)) (.int (.ofNat 1))) (.cel 0))), .defI 2 0, .ite (.loc 0) [.expr (.callI 2 [(.loc 0), (.int (.ofNat 0)), (.len (.cel 1))])] [], .ret (.cel 1)], [2]⟩
def cInn0 : CFn := ⟨7, 3, [(.loc 0), (.loc 1), (.loc 2)], [], [.ite (.cmp .eq (.bin .add (.loc 1) (.int (.ofNat 1))) (.loc 2)) [.setI (.cel 1) (.loc 1) (.loc 0), .retN] [], .set (.loc 3) (.bin .shr (.bin .add (.loc 1) (.loc 2)) (.int (.ofNat 1))), .set (.loc 4) (.bin .mul (.bin .sub (.loc 3) (.loc 1)) (.cel 0)), .set (.loc 5) (.bin .shr (.loc 0) (.loc 4)), .set (.loc 6) (.bin .xor (.loc 0) (.bin .shl (.loc 5) (.loc 4))), .expr (.callI 2 [(.loc 6), (.loc 1), (.loc 3)]), .expr (.callI 2 [(.loc 5), (.loc 3), (.loc 2)])], []⟩
def cDig2 : CFn := ⟨0, 3, [(.cel 0), (.cel 1)], [], [.defI 2 1, .ret (.ife (.cel 0) (.callI 2 [(.int (.ofNat 0)), (.len (.cel 0))]) (.int (.ofNat 0)))], [2]⟩
def cInn1 : CFn := ⟨4, 3, [(.loc 0), (.loc 1)], [], [.ite (.cmp .eq (.bin .add (.loc 0) (.int (.ofNat 1))) (.loc 1)) [.ret (.idx (.cel 0) (.loc 0))] [], .set (.loc 2) (.bin .shr (.bin .add (.loc 0) (.loc 1)) (.int (.ofNat 1))), .set (.loc 3) (.bin .mul (.bin .sub (.loc 2) (.loc 0)) (.cel 1)), .ret (.bin .add (.bin .shl (.callI 2 [(.loc 2), (.loc 1)]) (.loc 3)) (.callI 2 [(.loc 0), (.loc 2)]))], []⟩
def cPos : CFn := ⟨9, 0, [(.loc 0), (.loc 1)], [], [.set (.loc 2) (.bitlen (.loc 1)), .set (.loc 3) (.callG 2 [(.loc 0), (.loc 2)]), .set (.loc 4) (.int (.ofNat 0)), .set (.loc 5) (.list []), .forRev (.loc 6) (.loc 3) [.set2 7 4 (.callG 0 [(.bin .add (.bin .shl (.loc 4) (.loc 2)) (.loc 6)), (.loc 1), (.loc 2)]), .append (.loc 5) (.loc 7)], .reverse (.loc 5), .set (.loc 8) (.callG 3 [(.loc 5), (.loc 2)]), .ret (.pair (.loc 8) (.loc 4))], [2]⟩
def cDivmod : CFn := ⟨4, 0, [(.loc 0), (.loc 1)], [], [.ite (.cmp .eq (.loc 1) (.int (.ofNat 0))) [.bad] [.ite (.cmp .lt (.loc 1) (.int (.ofNat 0))) [.bad] [.ite (.cmp .lt (.loc 0) (.int (.ofNat 0))) [.bad] [.ret (.callG 4 [(.loc 0), (.loc 1)])]]]], [2]⟩
def cInsort : CFn := ⟨5, 0, [(.loc 0), (.loc 1), (.loc 2), (.loc 3), (.loc 4)], [.int (.ofNat 0), .none, .none], [.ite (.isNone (.loc 4)) [.set (.loc 2) (.callG 7 [(.loc 0), (.loc 1), (.loc 2), (.loc 3)])] [.bad], .insert (.loc 0) (.loc 2) (.loc 1)], [2]⟩
def cBisect : CFn := ⟨6, 0, [(.loc 0), (.loc 1), (.loc 2), (.loc 3), (.loc 4)], [.int (.ofNat 0), .none, .none], [.ite (.cmp .lt (.loc 2) (.int (.ofNat 0))) [.bad] [], .ite (.isNone (.loc 3)) [.set (.loc 3) (.len (.loc 0))] [], .ite (.isNone (.loc 4)) [.whil (.cmp .lt (.loc 2) (.loc 3)) [.set (.loc 5) (.bin .fdiv (.bin .add (.loc 2) (.loc 3)) (.int (.ofNat 2))), .ite (.cmp .lt (.idx (.loc 0) (.loc 5)) (.loc 1)) [.set (.loc 2) (.bin .add (.loc 5) (.int (.ofNat 1)))] [.set (.loc 3) (.loc 5)]]] [.bad], .ret (.loc 2)], [2, 4]⟩
def cPrimes : CFn := ⟨5, 0, [(.loc 0)], [], [.setT 1 2 (.list []) (.int (.ofNat 2)), .whil (.band (.cmp .gt (.loc 0) (.int (.ofNat 1))) (.cmp .lt (.loc 2) (.int (.ofNat 99)))) [.set2 3 4 (.callG 5 [(.loc 0), (.loc 2)]), .ite (.cmp .eq (.loc 4) (.int (.ofNat 0))) [.append (.loc 1) (.loc 2), .set (.loc 0) (.loc 3)] [.set (.loc 2) (.bin .add (.loc 2) (.int (.ofNat 1)))]], .ret (.loc 1)], [1]⟩
/-- the law behind its first statement -/
def cLaw : List CS := [.forIn (.loc 2) (.range3 (.int (.ofNat 7)) (.int (.ofNat 0)) (.bin .sub (.int (.ofNat 0)) (.int (.ofNat 1)))) [.expr (.callG 6 [(.loc 1), (.bin .mul (.loc 2) (.loc 2))])], .set (.cel 2) (.bin .add (.list [(.list []), (.list [])]) (.comp (.callG 8 [(.loc 0)]) (.range2 (.int (.ofNat 2)) (.bin .add (.cel 0) (.int (.ofNat 1)))) .none)), .forIn (.cel 1) (.range2 (.int (.ofNat 2)) (.bin .add (.cel 0) (.int (.ofNat 1)))) [.set (.loc 3) (.int (.ofNat 1)), .forIn (.loc 4) (.idx (.cel 2) (.cel 1)) [.set (.loc 3) (.bin .mul (.loc 3) (.loc 4))], .ite (.cmp .ne (.loc 3) (.cel 1)) [.ret (.bool false)] []], .set (.cel 3) (.bin .add (.list [(.int (.ofNat 0))]) (.comp (.bin .sub (.int (.ofNat 1)) (.bin .mul (.int (.ofNat 2)) (.bin .fmod (.len (.idx (.cel 2) (.loc 0))) (.int (.ofNat 2))))) (.range2 (.int (.ofNat 1)) (.bin .add (.cel 0) (.int (.ofNat 1)))) .none)), .set (.cel 4) (.bin .add (.list [(.int (.ofNat 0))]) (.comp (.bin .mul (.idx (.cel 3) (.loc 0)) (.toInt (.cmp .eq (.lenDict (.comp (.pair (.loc 0) (.int (.ofNat 1))) (.idx (.cel 2) (.loc 0)) .none)) (.len (.idx (.cel 2) (.loc 0)))))) (.range2 (.int (.ofNat 1)) (.bin .add (.cel 0) (.int (.ofNat 1)))) .none)), .forIn (.cel 1) (.range2 (.int (.ofNat 1)) (.bin .add (.cel 0) (.int (.ofNat 1)))) [.setComp 5 (.loc 0) (.range2 (.int (.ofNat 1)) (.bin .add (.cel 1) (.int (.ofNat 1)))) (some (.cmp .eq (.bin .fmod (.cel 1) (.loc 0)) (.int (.ofNat 0)))), .set (.loc 6) (.callG 7 [(.loc 1), (.cel 1)]), .set (.loc 7) (.band (.cmp .lt (.loc 6) (.len (.loc 1))) (.cmp .eq (.idx (.loc 1) (.loc 6)) (.cel 1))), .ite (.bor (.cmp .ne (.sum (.comp (.idx (.cel 3) (.loc 0)) (.loc 5) .none)) (.toInt (.loc 7))) (.cmp .ne (.sum (.comp (.idx (.cel 4) (.loc 0)) (.loc 5) .none)) (.toInt (.cmp .eq (.cel 1) (.int (.ofNat 1)))))) [.ret (.bool false)] [], .ite (.cmp .ne (.comp (.loc 0) (.loc 5) (some (.cmp .ne (.bin .mul (.idx (.cel 3) (.loc 0)) (.idx (.cel 3) (.bin .fdiv (.cel 1) (.loc 0)))) (.idx (.cel 3) (.cel 1))))) (.list [])) [.ret (.bool false)] []], .set (.loc 8) (.len (.comp (.loc 0) (.range2 (.int (.ofNat 1)) (.bin .add (.cel 0) (.int (.ofNat 1)))) (some (.cmp .ne (.idx (.cel 4) (.loc 0)) (.int (.ofNat 0)))))), .ite (.cmp .ne (.loc 8) (.sum (.comp (.bin .mul (.idx (.cel 4) (.loc 0)) (.idx (.callG 5 [(.cel 0), (.bin .mul (.loc 0) (.loc 0))]) (.int (.ofNat 0)))) (.range2 (.int (.ofNat 1)) (.int (.ofNat 7))) (some (.cmp .le (.bin .mul (.loc 0) (.loc 0)) (.cel 0)))))) [.ret (.bool false)] [], .ite (.cmp .ne (.sum (.comp (.bin .mul (.idx (.cel 4) (.loc 0)) (.idx (.callG 5 [(.cel 0), (.loc 0)]) (.int (.ofNat 0)))) (.range2 (.int (.ofNat 1)) (.bin .add (.cel 0) (.int (.ofNat 1)))) .none)) (.int (.ofNat 1))) [.ret (.bool false)] [], .set (.loc 9) (.len (.comp (.loc 0) (.loc 1) (some (.cmp .le (.loc 0) (.cel 0))))), .ret (.cmp .eq (.sum (.comp (.bin .mul (.idx (.cel 3) (.loc 0)) (.idx (.callG 5 [(.cel 0), (.loc 0)]) (.int (.ofNat 0)))) (.range2 (.int (.ofNat 1)) (.bin .add (.cel 0) (.int (.ofNat 1)))) .none)) (.loc 9))]
def fns : List CFn := [cDiv2, cNone, cInt2, cDig2, cPos, cDivmod, cInsort, cBisect, cPrimes]
def inns : List CFn := [cInn0, cInn1]

def orc0 : Nat → List AV → Option Ans := fun _ _ => .none
/-- int_divmod is asked with numbers of one to twenty-four -/
def inR (i : Int) : Bool := match i with
  | .ofNat n => Nat.ble 1 n && Nat.ble n 24
  | .negSucc _ => false
def orc1 : Nat → List AV → Option Ans := fun k args => match Nat.beq k 5, args with
  | true, [.int a, .int b] => guard (inR a) (guard (inR b) (guard (leB b a) (some (.pair (Int.fdiv a b) (Int.fmod a b)))))
  | _, _ => .none
def fst? (x : Option (AV × Hp)) : Option AV := x.bind fun r => some r.1
def isPair (x : Option (AV × Hp)) (a b : Int) : Bool := match x with
  | some (.pair i j, _) => eqB i a && eqB j b
  | _ => false
def okDiv (n : Nat) (a b : Nat) : Bool := isPair ((ev fns inns orc0 n).G 5 [.int (.ofNat a), .int (.ofNat b)] []) (Int.fdiv (.ofNat a) (.ofNat b)) (Int.fmod (.ofNat a) (.ofNat b))
def avInts : List AV → Option (List Int)
  | [] => some []
  | .int i :: l => (avInts l).bind fun r => some (i :: r)
  | _ :: _ => .none
def asInts (x : Option (AV × Hp)) : Option (List Int) := match x with
  | some (.lst k, H) => (hAt H k).bind avInts
  | _ => .none
/-- what _law_primes gives -/
def prs (n : Nat) : Option (List Int) := asInts ((ev fns inns orc1 60).G 8 [.int (.ofNat n)] [])
def prTab : List (List Int) := [[],[],[2],[3],[2,2],[5],[2,3],[7],[2,2,2],[3,3],[2,5],[11],[2,2,3],[13],[2,7],[3,5],[2,2,2,2],[17],[2,3,3],[19],[2,2,5],[3,7],[2,11],[23],[2,2,2,3]]
def orc2 : Nat → List AV → Option Ans := fun k args => match k, args with
  | 8, [.int (.ofNat n)] => (nth prTab n).bind fun l => guard (Nat.ble 2 n) (some (.ints l))
  | _, _ => orc1 k args
def lawSt (b : Nat) : St := ⟨[.none, some (.lst 0), .none, .none, .none, .none, .none, .none, .none, .none], [some (.int (.ofNat b)), .none, .none, .none, .none], .none⟩
def isTrueOut (x : Option (Out × Hp)) : Bool := match x with
  | some (.rt (.bool b), _) => b
  | _ => false
def okLaw (b : Nat) : Bool := isTrueOut (evSs (ev fns inns orc2 80) cLaw (lawSt b) [[]])
end Mine
end
section
open PySem PySem.Spec PySem.Calls PyProof.Rows PySem.W
namespace Mine
set_option Elab.async false
set_option linter.unusedVariables false

section lists
variable {α β : Type} {F : α → β → Prop}
theorem nth_eq : ∀ (l : List α) (i : Nat), nth l i = l[i]?
  | [], _ => by simp [nth]
  | a :: l, 0 => by simp [nth]
  | a :: l, i + 1 => by simp [nth, nth_eq l i]
theorem nth_lt : ∀ {l : List α} {i : Nat} {x : α}, nth l i = some x → i < l.length
  | [], _, _, h => by cases h
  | _ :: _, 0, _, _ => Nat.succ_pos _
  | _ :: l, i + 1, x, h => Nat.succ_lt_succ (nth_lt (l := l) h)
theorem nth_mem : ∀ {l : List α} {i : Nat} {x : α}, nth l i = some x → x ∈ l
  | [], _, _, h => by cases h
  | _ :: _, 0, _, h => by cases h; exact .head _
  | _ :: l, i + 1, x, h => .tail _ (nth_mem (l := l) h)
theorem nth_of_lt : ∀ {l : List α} {i : Nat}, i < l.length → ∃ x, nth l i = some x
  | [], _, h => absurd h (Nat.not_lt_zero _)
  | a :: _, 0, _ => ⟨a, rfl⟩
  | _ :: l, i + 1, h => nth_of_lt (l := l) (Nat.lt_of_succ_lt_succ h)
theorem nth_app : ∀ {l r : List α} {i : Nat} {x : α}, nth l i = some x → nth (l ++ r) i = some x
  | [], _, _, _, h => by cases h
  | _ :: _, _, 0, _, h => h
  | _ :: l, r, i + 1, x, h => nth_app (l := l) (r := r) h
theorem nth_snoc : ∀ (l : List α) (x : α), nth (l ++ [x]) l.length = some x
  | [], _ => rfl
  | _ :: l, x => nth_snoc l x
theorem nth_snoc_inv : ∀ {l : List α} {a x : α} {i : Nat}, nth (l ++ [a]) i = some x → nth l i = some x ∨ (i = l.length ∧ x = a)
  | [], _, _, 0, h => by cases h; exact .inr ⟨rfl, rfl⟩
  | [], _, _, _ + 1, h => by cases h
  | _ :: _, _, _, 0, h => .inl h
  | _ :: l, a, x, i + 1, h => (nth_snoc_inv (l := l) h).imp id fun ⟨e, q⟩ => ⟨by rw [e]; rfl, q⟩
theorem put_len : ∀ (l : List α) (i : Nat) (x : α), (put l i x).length = l.length
  | [], _, _ => rfl
  | _ :: _, 0, _ => rfl
  | _ :: l, i + 1, x => congrArg (· + 1) (put_len l i x)
theorem nth_put_self : ∀ {l : List α} {i : Nat} (x : α), i < l.length → nth (put l i x) i = some x
  | [], _, _, h => absurd h (Nat.not_lt_zero _)
  | _ :: _, 0, _, _ => rfl
  | _ :: l, i + 1, x, h => nth_put_self (l := l) x (Nat.lt_of_succ_lt_succ h)
theorem nth_put_ne : ∀ {l : List α} {i j : Nat} {x : α}, i ≠ j → nth (put l i x) j = nth l j
  | [], _, _, _, _ => rfl
  | _ :: _, 0, 0, _, h => absurd rfl h
  | _ :: _, 0, _ + 1, _, _ => rfl
  | _ :: _, _ + 1, 0, _, _ => rfl
  | _ :: l, i + 1, j + 1, x, h => nth_put_ne (l := l) (fun e => h (congrArg (· + 1) e))
theorem nth_put_inv {l : List α} {i j : Nat} {x y : α} (h : nth (put l i x) j = some y) : (i = j ∧ y = x) ∨ (i ≠ j ∧ nth l j = some y) := by
  by_cases e : i = j
  · subst e
    have hl := nth_lt h
    rw [put_len] at hl
    rw [nth_put_self x hl] at h
    cases h
    exact .inl ⟨rfl, rfl⟩
  · rw [nth_put_ne e] at h
    exact .inr ⟨e, h⟩
theorem nodup_nth : ∀ {l : List α} {i j : Nat} {x : α}, l.Nodup → nth l i = some x → nth l j = some x → i = j
  | [], _, _, _, _, h, _ => by cases h
  | _ :: _, 0, 0, _, _, _, _ => rfl
  | a :: l, 0, j + 1, x, hn, h, k => by
    cases h
    exact absurd (nth_mem (l := l) k) (List.nodup_cons.mp hn).1
  | a :: l, i + 1, 0, x, hn, h, k => by
    cases k
    exact absurd (nth_mem (l := l) h) (List.nodup_cons.mp hn).1
  | _ :: l, i + 1, j + 1, x, hn, h, k => congrArg (· + 1) (nodup_nth (l := l) (List.nodup_cons.mp hn).2 h k)

end lists
theorem hAt_lt : ∀ {H : Hp} {k : Nat} {x : List AV}, hAt H k = some x → k < H.length
  | [], _, _, h => by cases h
  | y :: H, k, x, h => by
    unfold hAt at h
    split at h
    · rename_i q
      rw [Nat.eq_of_beq_eq_true q]
      exact Nat.lt_succ_self _
    · exact Nat.lt_succ_of_lt (hAt_lt h)
theorem hAt_new (H : Hp) (x : List AV) : hAt (x :: H) H.length = some x := by
  unfold hAt
  rw [Nat.beq_refl]
theorem hAt_ne {H : Hp} {x : List AV} {k : Nat} (h : k ≠ H.length) : hAt (x :: H) k = hAt H k := by
  rw [hAt]
  have : Nat.beq k H.length = false := by
    cases q : Nat.beq k H.length with
    | false => rfl
    | true => exact absurd (Nat.eq_of_beq_eq_true q) h
  rw [this]
theorem hAt_inv {H : Hp} {a x : List AV} {k : Nat} (h : hAt (a :: H) k = some x) : hAt H k = some x ∨ (k = H.length ∧ x = a) := by
  by_cases q : k = H.length
  · subst q
    rw [hAt_new] at h
    cases h
    exact .inr ⟨rfl, rfl⟩
  · rw [hAt_ne q] at h
    exact .inl h
theorem hAt_of_lt : ∀ {H : Hp} {k : Nat}, k < H.length → ∃ x, hAt H k = some x
  | [], _, h => absurd h (Nat.not_lt_zero _)
  | y :: H, k, h => by
    by_cases q : k = H.length
    · subst q; exact ⟨y, hAt_new H y⟩
    · rw [hAt_ne q]
      exact hAt_of_lt (by have : k < H.length + 1 := h; omega)
theorem hPut_len : ∀ (H : Hp) (k : Nat) (y : List AV), (hPut H k y).length = H.length
  | [], _, _ => rfl
  | x :: H, k, y => by
    unfold hPut
    split
    · rfl
    · exact congrArg (· + 1) (hPut_len H k y)
theorem hPut_inv : ∀ {H : Hp} {k j : Nat} {y z : List AV}, hAt (hPut H k y) j = some z → (k = j ∧ z = y) ∨ (k ≠ j ∧ hAt H j = some z)
  | [], _, _, _, _, h => by cases h
  | x :: H, k, j, y, z, h => by
    unfold hPut at h
    split at h
    · rename_i q
      have q := Nat.eq_of_beq_eq_true q
      subst q
      by_cases e : j = H.length
      · subst e
        rw [hAt_new] at h
        cases h
        exact .inl ⟨rfl, rfl⟩
      · rw [hAt_ne e] at h ⊢
        exact .inr ⟨fun z => e z.symm, h⟩
    · rename_i q
      have hk : k ≠ H.length := fun e => by rw [e, Nat.beq_refl] at q; cases q
      by_cases e : j = H.length
      · subst e
        have e2 : H.length = (hPut H k y).length := (hPut_len H k y).symm
        rw [e2, hAt_new] at h
        cases h
        exact .inr ⟨hk, hAt_new H x⟩
      · rw [hAt_ne (by rw [hPut_len]; exact e)] at h
        rcases hPut_inv h with ⟨rfl, r⟩ | ⟨r1, r2⟩
        · exact .inl ⟨rfl, r⟩
        · exact .inr ⟨r1, by rw [hAt_ne e]; exact r2⟩
section lists
variable {α β : Type} {F : α → β → Prop}
theorem pd_imp {G : α → β → Prop} (h : ∀ a b, F a b → G a b) : ∀ {l : List α} {r : List β}, Paired F l r → Paired G l r
  | _, _, .nil => .nil
  | _, _, .cons x y => .cons (h _ _ x) (pd_imp h y)
theorem pd_nth : ∀ {l : List α} {r : List β} {i : Nat} {b : β}, Paired F l r → nth r i = some b → ∃ a, nth l i = some a ∧ F a b
  | _, _, _, _, .nil, h => by cases h
  | _, _, 0, _, .cons x _, h => by cases h; exact ⟨_, rfl, x⟩
  | _, _, i + 1, _, .cons _ y, h => pd_nth (i := i) y h
theorem pd_len : ∀ {l : List α} {r : List β}, Paired F l r → l.length = r.length
  | _, _, .nil => rfl
  | _, _, .cons _ y => congrArg (· + 1) (pd_len y)
theorem pd_app : ∀ {l l' : List α} {r r' : List β}, Paired F l r → Paired F l' r' → Paired F (l ++ l') (r ++ r')
  | _, _, _, _, .nil, h => h
  | _, _, _, _, .cons x y, h => .cons x (pd_app y h)
theorem pd_rev : ∀ {l : List α} {r : List β}, Paired F l r → Paired F l.reverse r.reverse
  | _, _, .nil => .nil
  | _, _, .cons x y => by rw [List.reverse_cons, List.reverse_cons]; exact pd_app (pd_rev y) (.cons x .nil)
theorem pd_put : ∀ {l : List α} {r : List β} {i : Nat} {a : α} {b : β}, Paired F l r → F a b → Paired F (put l i a) (put r i b)
  | _, _, _, _, _, .nil, _ => .nil
  | _, _, 0, _, _, .cons _ y, h => .cons h y
  | _, _, i + 1, _, _, .cons x y, h => .cons x (pd_put (i := i) y h)
theorem pd_ins : ∀ {l : List α} {r : List β} {i : Nat} {a : α} {b : β}, Paired F l r → F a b → Paired F (ins l i a) (ins r i b)
  | _, _, 0, _, _, .nil, h => .cons h .nil
  | _, _, 0, _, _, .cons x y, h => .cons h (.cons x y)
  | _, _, _ + 1, _, _, .nil, h => .cons h .nil
  | _, _, i + 1, _, _, .cons x y, h => .cons x (pd_ins (i := i) y h)
theorem pd_rep : ∀ {l : List α} {r : List β} (n : Nat), Paired F l r → Paired F (rep n l) (rep n r)
  | _, _, 0, _ => .nil
  | _, _, n + 1, h => pd_app h (pd_rep n h)
theorem pd_drop : ∀ {l : List α} {r : List β} (n : Nat), Paired F l r → Paired F (l.drop n) (r.drop n)
  | _, _, 0, h => h
  | _, _, _ + 1, .nil => .nil
  | _, _, n + 1, .cons _ y => pd_drop n y
end lists

/-! ### what the heap bears -/
abbrev Lst (vs : List Value) (n : Nat) : Obj := { cls := .type "list", dict := none, data := .seq vs.toArray n, slots := #[] }
def Tabby (o : Obj) : Prop := ∃ ps : Array Value, o = tabObj ps ∧ TriplesOk ps.toList

def VR (ad : List Addr) (h : Heap) (v : Value) : AV → Prop
  | .none => v = .none
  | .bool b => v = .bool b
  | .int i => ∃ t, v = .int i t
  | .lst k => ∃ a, nth ad k = some a ∧ v = .ref a
  | .pair a b => ∃ p t u n, v = .ref p ∧ h.get? p = some { cls := .type "tuple", dict := none, data := .seq #[.int a t, .int b u] n, slots := #[] }
  | .rng a b c => ∃ r t u x, v = .ref r ∧ IsRange h r a b c t u x

structure TabD where
  P : Addr
  c : Addr
  pos : Pos
  qual : Str
/-- where the names of a frame lie: its locals, its cells (or those that it sees), the cell that bears the inner def, the inner def that it may make -/
structure Lay where
  scope : Scope
  loc : List Str
  cel : List (Option Str)
  inn : Option Nat
  dfn : Option Nat
  own : Bool
/-- an inner def -/
structure RFn where
  name : Str
  qual : Str
  params : Arguments
  body : List Stmt
  scope : Scope
  pos : Pos
  lay : Lay
structure Cx where
  prog : Program
  w : World
  h₀ : Heap
  tabs : List TabD
  mg : Str → Option Value
  mb : Str → Option Value
  fn : List (Str × Addr)
  gi : List (Str × Int)
  inn : List RFn

def TabOK (h : Heap) (d : TabD) : Prop :=
  ∃ ps : Array Value, h.get? d.P = some (tabObj ps) ∧ TriplesOk ps.toList ∧ (codeAmong d.pos ps.toList = none ∨ ∃ c', codeAmong d.pos ps.toList = some (.ref c') ∧ h.CodeRec (.ref c') d.qual)

structure SI (X : Cx) (ad : List Addr) (H : Hp) (h : Heap) : Prop where
  base : ∀ b o, X.h₀.get? b = some o → h.get? b = some o
  tabs : ∀ d ∈ X.tabs, TabOK h d
  len : ad.length = H.length
  nd : ad.Nodup
  lists : ∀ k its, hAt H k = some its → ∃ a vs n, nth ad k = some a ∧ h.get? a = some (Lst vs n) ∧ Paired (VR ad h) vs its
  fresh : ∀ a ∈ ad, X.h₀.get? a = none

/-- what may have happened: lists of ours and tables of code changed, things of ours made, and the places W -/
structure Ext (W : List Addr) (ad : List Addr) (h : Heap) (ad' : List Addr) (h' : Heap) : Prop where
  pre : ∃ new, ad' = ad ++ new
  new : ∀ a ∈ ad', a ∈ ad ∨ h.get? a = none
  dom : ∀ b o, h.get? b = some o → ∃ o', h'.get? b = some o'
  keep : ∀ b o, h.get? b = some o → b ∉ ad → ¬ Tabby o → b ∉ W → h'.get? b = some o
/-- a namespace, a cell, an iterator -/
def NC (o : Obj) : Prop := (∃ es ep, o.data = .dict es ep) ∨ (∃ ov, o.data = .cell ov) ∨ (∃ vs : Array Value, o.data = .fields vs ∧ (∀ x t, vs[1]? ≠ some (.str x t)) ∧ o.cls ≠ .type "range" ∧ o.cls ≠ .none)
def WK (W : List Addr) (h : Heap) : Prop := ∀ b ∈ W, ∀ o, h.get? b = some o → NC o

section
variable {X : Cx} {W : List Addr} {ad ad' ad'' : List Addr} {H H' : Hp} {h h' h'' : Heap} {v : Value} {av : AV}

theorem WK.nil (h : Heap) : WK [] h := fun _ hb => nomatch hb
theorem Ext.refl (ad : List Addr) (h : Heap) : Ext W ad h ad h := ⟨⟨[], by simp⟩, fun _ ha => .inl ha, fun _ o e => ⟨o, e⟩, fun _ _ e _ _ _ => e⟩
theorem Ext.up {W' : List Addr} (x : Ext W ad h ad' h') (s : ∀ b ∈ W, b ∈ W') : Ext W' ad h ad' h' := ⟨x.pre, x.new, x.dom, fun b o e h1 h2 h3 => x.keep b o e h1 h2 fun q => h3 (s b q)⟩
theorem Ext.lift (x : Ext [] ad h ad' h') : Ext W ad h ad' h' := x.up fun _ hb => nomatch hb
theorem Ext.trans (x : Ext W ad h ad' h') (y : Ext W ad' h' ad'' h'') : Ext W ad h ad'' h'' := by
  refine ⟨?_, fun a ha => ?_, fun b o e => ?_, fun b o e hb ht hw => ?_⟩
  · obtain ⟨n1, rfl⟩ := x.pre
    obtain ⟨n2, rfl⟩ := y.pre
    exact ⟨n1 ++ n2, by rw [List.append_assoc]⟩
  · rcases y.new a ha with q | q
    · exact x.new a q
    · refine .inr ?_
      cases e : h.get? a with
      | none => rfl
      | some o => obtain ⟨o', e'⟩ := x.dom a o e; rw [e'] at q; cases q
  · obtain ⟨o', e'⟩ := x.dom b o e
    exact y.dom b o' e'
  · refine y.keep b o (x.keep b o e hb ht hw) (fun q => ?_) ht hw
    rcases x.new b q with q | q
    · exact hb q
    · rw [e] at q; cases q
/-- places that are new to the first state do not count -/
theorem Ext.drop {W' : List Addr} (x : Ext W' ad h ad' h') (s : ∀ b ∈ W', b ∈ W ∨ h.get? b = none) : Ext W ad h ad' h' :=
  ⟨x.pre, x.new, x.dom, fun b o e h1 h2 h3 => x.keep b o e h1 h2 fun q => by
    rcases s b q with q | q
    · exact h3 q
    · rw [e] at q; cases q⟩
theorem Ext.nth (x : Ext W ad h ad' h') {k : Nat} {a : Addr} (e : nth ad k = some a) : nth ad' k = some a := by
  obtain ⟨n, rfl⟩ := x.pre
  exact nth_app e

theorem SI.at (S : SI X ad H h) {a : Addr} (ha : a ∈ ad) : ∃ vs n, h.get? a = some (Lst vs n) := by
  obtain ⟨k, hk, e⟩ := List.getElem_of_mem ha
  have hk' : k < H.length := by rw [← S.len]; exact hk
  obtain ⟨its, hi⟩ := hAt_of_lt hk'
  obtain ⟨b, vs, n, e1, e2, _⟩ := S.lists k its hi
  rw [nth_eq, List.getElem?_eq_getElem hk, e] at e1
  cases e1
  exact ⟨vs, n, e2⟩
theorem not_list (S : SI X ad H h) {b : Addr} {o : Obj} (e : h.get? b = some o) (hn : ∀ vs n, o.data ≠ .seq vs n) : b ∉ ad := fun q => by
  obtain ⟨vs, n, e'⟩ := S.at q
  rw [e] at e'
  cases e'
  exact hn _ _ rfl
theorem not_listC (S : SI X ad H h) {b : Addr} {o : Obj} (e : h.get? b = some o) (hn : o.cls ≠ .type "list") : b ∉ ad := fun q => by
  obtain ⟨vs, n, e'⟩ := S.at q
  rw [e] at e'
  cases e'
  exact hn rfl
theorem not_tab {o : Obj} (hn : o.cls ≠ .none) : ¬ Tabby o := by
  rintro ⟨ps, rfl, _⟩
  exact hn rfl
theorem not_tabD {o : Obj} (hn : ∀ vs, o.data ≠ .fields vs) : ¬ Tabby o := by
  rintro ⟨ps, rfl, _⟩
  exact hn _ rfl
theorem not_W {b : Addr} {o : Obj} (K : WK W h) (e : h.get? b = some o) (hn : ¬ NC o) : b ∉ W := fun q => hn (K b q o e)
theorem ncR {o : Obj} (hd : o.cls = .type "range") (hf : ∃ vs, o.data = .fields vs) : ¬ NC o := by
  obtain ⟨vs, hf⟩ := hf
  rintro (⟨_, _, q⟩ | ⟨_, q⟩ | ⟨_, _, _, q, _⟩)
  · rw [hf] at q; cases q
  · rw [hf] at q; cases q
  · exact q hd
theorem ncC {o : Obj} {vs : Array Value} {x : Str} {t : Tok} (hd : o.data = .fields vs) (e : vs[1]? = some (.str x t)) : ¬ NC o := by
  rintro (⟨_, _, q⟩ | ⟨_, q⟩ | ⟨_, q, r, _⟩)
  · rw [hd] at q; cases q
  · rw [hd] at q; cases q
  · rw [hd] at q; cases q; exact r _ _ e
theorem ncS {o : Obj} {vs : Array Value} {n : Nat} (hd : o.data = .seq vs n) : ¬ NC o := by
  rintro (⟨_, _, q⟩ | ⟨_, q⟩ | ⟨_, q, _⟩) <;> rw [hd] at q <;> cases q
theorem ncFn {o : Obj} {fd : FuncData} (hd : o.data = .func fd) : ¬ NC o := by
  rintro (⟨_, _, q⟩ | ⟨_, q⟩ | ⟨_, q, _⟩) <;> rw [hd] at q <;> cases q
theorem ncT {ps : Array Value} : ¬ NC (tabObj ps) := by
  rintro (⟨_, _, q⟩ | ⟨_, q⟩ | ⟨_, _, _, _, q⟩)
  · cases q
  · cases q
  · exact q rfl

theorem tabby_str {ps : Array Value} {x : Str} {t : Tok} (ht : TriplesOk ps.toList) (e : ps[1]? = some (.str x t)) : False := by
  obtain ⟨l⟩ := ps
  simp only [List.getElem?_toArray] at e
  match l, ht, e with
  | [], _, e => simp at e
  | [a], _, e => simp at e
  | a :: b :: r, ht, e =>
    simp only [List.getElem?_cons_succ, List.getElem?_cons_zero, Option.some.injEq] at e
    subst e
    unfold TriplesOk at ht
    split at ht
    · rename_i q; cases q
    · rename_i q; injection q with _ q; injection q with q _; cases q
    · exact ht
theorem code_keep (S : SI X ad H h) (K : WK W h) (x : Ext W ad h ad' h') {c : Value} {q : Str} (r : h.CodeRec c q) : h'.CodeRec c q := by
  obtain ⟨a, o, vs, t, rfl, e, hd, hv⟩ := r
  refine ⟨a, o, vs, t, rfl, x.keep a o e (not_list S e (fun vs n z => by rw [hd] at z; cases z)) ?_ (not_W K e (ncC hd hv)), hd, hv⟩
  rintro ⟨ps, rfl, ht⟩
  cases hd
  exact tabby_str ht hv
theorem VR.ext (S : SI X ad H h) (K : WK W h) (x : Ext W ad h ad' h') (r : VR ad h v av) : VR ad' h' v av := by
  cases av with
  | none => exact r
  | bool => exact r
  | int => exact r
  | lst k =>
    obtain ⟨a, e, rfl⟩ := r
    exact ⟨a, x.nth e, rfl⟩
  | pair a b =>
    obtain ⟨p, t, u, n, rfl, e⟩ := r
    exact ⟨p, t, u, n, rfl, x.keep _ _ e (not_listC S e (by simp)) (not_tab (by simp)) (not_W K e (ncS rfl))⟩
  | rng a b c =>
    obtain ⟨p, t, u, z, rfl, e⟩ := r
    exact ⟨p, t, u, z, rfl, x.keep _ _ e (not_listC S e (by simp)) (not_tab (by simp)) (not_W K e (ncR rfl ⟨_, rfl⟩))⟩
theorem VRs.ext (S : SI X ad H h) (K : WK W h) (x : Ext W ad h ad' h') {vs : List Value} {as : List AV} (r : Paired (VR ad h) vs as) : Paired (VR ad' h') vs as := pd_imp (fun _ _ q => VR.ext S K x q) r

/-- everything is kept -/
theorem Ext.grow (k : ∀ b o, h.get? b = some o → h'.get? b = some o) : Ext W ad h ad h' := ⟨⟨[], by simp⟩, fun _ ha => .inl ha, fun b o e => ⟨o, k b o e⟩, fun b o e _ _ _ => k b o e⟩
theorem TabOK.keeps {d : TabD} (k : ∀ b o, h.get? b = some o → h'.get? b = some o) (t : TabOK h d) : TabOK h' d := by
  obtain ⟨ps, e, ht, r⟩ := t
  refine ⟨ps, k _ _ e, ht, r.imp id fun ⟨c', e1, e2⟩ => ⟨c', e1, ?_⟩⟩
  obtain ⟨a, o, vs, t, r1, r2, r3⟩ := e2
  exact ⟨a, o, vs, t, r1, k _ _ r2, r3⟩
theorem SI.grow (S : SI X ad H h) (k : ∀ b o, h.get? b = some o → h'.get? b = some o) : SI X ad H h' := by
  refine ⟨fun b o e => k _ _ (S.base b o e), fun d hd => (S.tabs d hd).keeps k, S.len, S.nd, fun q its e => ?_, S.fresh⟩
  obtain ⟨a, vs, n, e1, e2, e3⟩ := S.lists q its e
  exact ⟨a, vs, n, e1, k _ _ e2, VRs.ext S (WK.nil h) (Ext.grow k) e3⟩
theorem get_push {o o' : Obj} {b : Addr} (e : h.get? b = some o) : (h.push o').get? b = some o := Heap.get?_push_of_some _ e
theorem SI.push (S : SI X ad H h) (o : Obj) : SI X ad H (h.push o) := S.grow fun _ _ e => Heap.get?_push_of_some _ e
theorem Ext.push (ad : List Addr) (h : Heap) (o : Obj) : Ext W ad h ad (h.push o) := Ext.grow fun _ _ e => Heap.get?_push_of_some _ e
theorem fresh_none (h : Heap) : h.get? h.objs.size = none := by
  cases e : h.get? h.objs.size with
  | none => rfl
  | some o => exact absurd (Heap.lt_size e) (Nat.lt_irrefl _)
/-- a list that is new takes the next place -/
theorem SI.adopt (S : SI X ad H h) {a : Addr} {vs : List Value} {n : Nat} {its : List AV} (e : h.get? a = some (Lst vs n)) (hn : a ∉ ad) (h0 : X.h₀.get? a = none) (p : Paired (VR ad h) vs its) : SI X (ad ++ [a]) (its :: H) h := by
  have up : ∀ v av, VR ad h v av → VR (ad ++ [a]) h v av := fun v av r => by
    cases av with
    | lst k => obtain ⟨b, e, rfl⟩ := r; exact ⟨b, nth_app e, rfl⟩
    | _ => exact r
  refine ⟨S.base, S.tabs, by simp [S.len], ?_, fun k its' q => ?_, fun b hb => ?_⟩
  · rw [List.nodup_append]
    exact ⟨S.nd, by simp, fun x hx y hy z => hn (by rw [List.mem_singleton.mp hy] at z; exact z ▸ hx)⟩
  · rcases hAt_inv q with q | ⟨rfl, rfl⟩
    · obtain ⟨b, ws, m, e1, e2, e3⟩ := S.lists k its' q
      exact ⟨b, ws, m, nth_app e1, e2, pd_imp up e3⟩
    · exact ⟨a, vs, n, by rw [← S.len]; exact nth_snoc _ _, e, pd_imp up p⟩
  · rcases List.mem_append.mp hb with hb | hb
    · exact S.fresh b hb
    · rw [List.mem_singleton.mp hb]; exact h0
theorem Ext.adopt (x : Ext W ad h ad' h') {a : Addr} (hn : h.get? a = none) : Ext W ad h (ad' ++ [a]) h' := by
  obtain ⟨n, rfl⟩ := x.pre
  refine ⟨⟨n ++ [a], by rw [List.append_assoc]⟩, fun b hb => ?_, x.dom, x.keep⟩
  rcases List.mem_append.mp hb with hb | hb
  · exact x.new b hb
  · rw [List.mem_singleton.mp hb]; exact .inr hn
theorem SI.no0 (S : SI X ad H h) {a : Addr} (e : h.get? a = none) : X.h₀.get? a = none := by
  cases q : X.h₀.get? a with
  | none => rfl
  | some o => rw [S.base a o q] at e; cases e
theorem SI.newList (S : SI X ad H h) {vs : List Value} {its : List AV} (n : Nat) (p : Paired (VR ad h) vs its) : SI X (ad ++ [h.objs.size]) (its :: H) (h.push (Lst vs n)) :=
  (S.push (Lst vs n)).adopt (Heap.get?_push_size _ rfl) (fun q => by obtain ⟨_, _, e⟩ := S.at q; rw [fresh_none] at e; cases e) (S.no0 (fresh_none h)) (VRs.ext S (WK.nil h) (Ext.push ad h _) p)
theorem Ext.newList (ad : List Addr) (h : Heap) (o : Obj) : Ext W ad h (ad ++ [h.objs.size]) (h.push o) := (Ext.push ad h o).adopt (fresh_none h)
theorem VR.newList (S : SI X ad H h) {o : Obj} : VR (ad ++ [h.objs.size]) (h.push o) (.ref h.objs.size) (.lst H.length) := ⟨_, by rw [← S.len]; exact nth_snoc _ _, rfl⟩

/-- a list is changed -/
theorem Ext.upd {a : Addr} (ha : a ∈ ad) (s : Heap.SameBut a h h') {o : Obj} (e' : h'.get? a = some o) : Ext W ad h ad h' := by
  refine ⟨⟨[], by simp⟩, fun _ ha => .inl ha, fun b o' e => ?_, fun b o' e hb _ _ => (s.2 b (fun q => hb (q ▸ ha))).trans e⟩
  by_cases q : b = a
  · exact ⟨o, q ▸ e'⟩
  · exact ⟨o', (s.2 b q).trans e⟩
theorem VR.upd (S : SI X ad H h) {a : Addr} (ha : a ∈ ad) (s : Heap.SameBut a h h') (r : VR ad h v av) : VR ad h' v av := by
  have off : ∀ {p o}, h.get? p = some o → o.cls ≠ .type "list" → h'.get? p = some o := fun {p o} e hc => (s.2 p (fun q => not_listC S e hc (q ▸ ha))).trans e
  cases av with
  | none => exact r
  | bool => exact r
  | int => exact r
  | lst k => exact r
  | pair a b => obtain ⟨p, t, u, n, rfl, e⟩ := r; exact ⟨p, t, u, n, rfl, off e (by simp)⟩
  | rng a b c => obtain ⟨p, t, u, z, rfl, e⟩ := r; exact ⟨p, t, u, z, rfl, off e (by simp)⟩
theorem SI.upd (S : SI X ad H h) {k : Nat} {a : Addr} {vs : List Value} {n : Nat} {its : List AV} (ka : nth ad k = some a) (s : Heap.SameBut a h h') (e' : h'.get? a = some (Lst vs n)) (p : Paired (VR ad h) vs its) : SI X ad (hPut H k its) h' := by
  have ha := nth_mem ka
  refine ⟨fun b o e => ?_, fun d hd => ?_, by rw [hPut_len]; exact S.len, S.nd, fun j its' q => ?_, S.fresh⟩
  · refine (s.2 b (fun q => ?_)).trans (S.base b o e)
    have := S.fresh a ha
    rw [← q, e] at this
    cases this
  · obtain ⟨ps, e, ht, r⟩ := S.tabs d hd
    have off : ∀ {p o}, h.get? p = some o → o.cls ≠ .type "list" → h'.get? p = some o := fun {p o} e hc => (s.2 p (fun q => not_listC S e hc (q ▸ ha))).trans e
    refine ⟨ps, off e (by simp), ht, r.imp id fun ⟨c', e1, e2⟩ => ⟨c', e1, code_keep S (WK.nil h) (Ext.upd ha s e') e2⟩⟩
  · rcases hPut_inv q with ⟨rfl, rfl⟩ | ⟨hne, q⟩
    · exact ⟨a, vs, n, ka, e', pd_imp (fun _ _ r => r.upd S ha s) p⟩
    · obtain ⟨b, ws, m, e1, e2, e3⟩ := S.lists j its' q
      exact ⟨b, ws, m, e1, (s.2 b (fun z => hne (nodup_nth S.nd ka (z ▸ e1)))).trans e2, pd_imp (fun _ _ r => r.upd S ha s) e3⟩
theorem offW {b : Addr} {ob : Obj} (eb : h.get? b = some ob) (n : NC ob) (s : Heap.ExtBut b h h') {p : Addr} {o : Obj} (e : h.get? p = some o) (hc : ¬ NC o) : h'.get? p = some o :=
  s p o (fun q => by rw [q, eb] at e; cases e; exact hc n) e
theorem VR.updW {b : Addr} {ob : Obj} (eb : h.get? b = some ob) (n : NC ob) (s : Heap.ExtBut b h h') (r : VR ad h v av) : VR ad h' v av := by
  cases av with
  | none => exact r
  | bool => exact r
  | int => exact r
  | lst k => exact r
  | pair a b => obtain ⟨p, t, u, n', rfl, e⟩ := r; exact ⟨p, t, u, n', rfl, offW eb n s e (ncS rfl)⟩
  | rng a b c => obtain ⟨p, t, u, z, rfl, e⟩ := r; exact ⟨p, t, u, z, rfl, offW eb n s e (ncR rfl ⟨_, rfl⟩)⟩
theorem code_updW {b : Addr} {ob : Obj} (eb : h.get? b = some ob) (n : NC ob) (s : Heap.ExtBut b h h') {c : Value} {q : Str} (r : h.CodeRec c q) : h'.CodeRec c q :=
  let ⟨a, o, vs, t, e2, e3, e4, e5⟩ := r; ⟨a, o, vs, t, e2, offW eb n s e3 (ncC e4 e5), e4, e5⟩
/-- a namespace, a cell, an iterator is changed -/
theorem SI.updW (S : SI X ad H h) {b : Addr} {ob : Obj} (eb : h.get? b = some ob) (n : NC ob) (h0 : X.h₀.get? b = none) (s : Heap.ExtBut b h h') : SI X ad H h' := by
  have off : ∀ {p o}, h.get? p = some o → ¬ NC o → h'.get? p = some o := offW eb n s
  have vr : ∀ v av, VR ad h v av → VR ad h' v av := fun v av r => r.updW eb n s
  refine ⟨fun c o e => s c o (fun q => by rw [q, h0] at e; cases e) (S.base c o e), fun d hd => ?_, S.len, S.nd, fun j its q => ?_, S.fresh⟩
  · obtain ⟨ps, e, ht', r⟩ := S.tabs d hd
    exact ⟨ps, off e ncT, ht', r.imp id fun ⟨c', e1, a, o, vs, t, e2, e3, e4, e5⟩ => ⟨c', e1, a, o, vs, t, e2, off e3 (ncC e4 e5), e4, e5⟩⟩
  · obtain ⟨a, ws, m, e1, e2, e3⟩ := S.lists j its q
    exact ⟨a, ws, m, e1, off e2 (ncS rfl), pd_imp vr e3⟩
/-- an iterator that the first state did not know is done with -/
theorem Ext.endI (x : Ext W ad h ad' h') {I : Addr} (hI : h.get? I = none) (s : Heap.ExtBut I h' h'') : Ext W ad h ad' h'' := by
  have ne : ∀ {b o}, h.get? b = some o → b ≠ I := fun e q => by rw [q, hI] at e; cases e
  refine ⟨x.pre, x.new, fun b o e => ?_, fun b o e h1 h2 h3 => s b o (ne e) (x.keep b o e h1 h2 h3)⟩
  obtain ⟨o', e'⟩ := x.dom b o e
  exact ⟨o', s b o' (ne e) e'⟩
theorem Ext.updW {b : Addr} {ob' : Obj} (eb' : h'.get? b = some ob') (s : Heap.SameBut b h h') (hb : b ∈ W) : Ext W ad h ad h' := by
  refine ⟨⟨[], by simp⟩, fun _ ha => .inl ha, fun c o e => ?_, fun c o e _ _ hw => (s.2 c (fun q => hw (q ▸ hb))).trans e⟩
  by_cases q : c = b
  · exact ⟨ob', q ▸ eb'⟩
  · exact ⟨o, (s.2 c q).trans e⟩
end
end Mine
end
section
open PySem PySem.Spec PySem.Calls PyProof.Rows PySem.W
namespace Mine
set_option Elab.async false
set_option linter.unusedVariables false

def biTab : List (Str × Value) := [("len", .builtin "len"), ("range", .type "range"), ("sum", .builtin "sum"), ("int", .type "int"), ("dict", .type "dict"), ("divmod", .builtin "divmod"), ("reversed", .type "reversed")]
/-- what is so of the heap ahead of the call, for good -/
structure BOK (X : Cx) : Prop where
  g : X.h₀.Ns mainGlobals X.mg
  b : X.h₀.Ns builtinsNs X.mb
  lim : X.h₀.NoLimit
  fnm : ∀ k nm f, nth X.fn k = some (nm, f) → X.mg nm = some (.ref f)
  gim : ∀ x i, (x, i) ∈ X.gi → ∃ t, X.mg x = some (.int i t)
  bi : ∀ x v, (x, v) ∈ biTab → X.mg x = none ∧ X.mb x = some v
  bmain : BMain X.h₀ X.mg
  low : sysModules < X.h₀.objs.size
  tabU : ∀ d ∈ X.tabs, ∀ d' ∈ X.tabs, d.P = d'.P → d = d'
  tabH : ∀ d ∈ X.tabs, X.h₀.get? d.P = none

structure EOK (X : Cx) (lay : Lay) (env : Env) (cd : List Addr) : Prop where
  sc : env.scope = lay.scope
  kf : lay.scope.kind = .function
  g : env.globals = mainGlobals
  b : env.builtins = builtinsNs
  cells : ∀ j y, nth lay.cel j = some (some y) → ∃ c, nth cd j = some c ∧ env.cells.lookup y = some c
  dfn : ∀ q, lay.dfn = some q → ∃ d rf, nth X.inn q = some rf ∧ d ∈ X.tabs ∧ env.code = .ref d.c ∧ CodeHd X.h₀ d.c d.P ∧ d.pos = rf.pos ∧ d.qual = rf.qual ∧ qualnameIn env rf.name rf.name = rf.qual

def InnAt (X : Cx) (q : Nat) (cd : List Addr) (h : Heap) (f : Addr) : Prop :=
  ∃ rf o cl doc pm c' ctv, nth X.inn q = some rf ∧ h.get? f = some o ∧ o.data = .func (fnX rf.name rf.qual rf.params rf.body rf.scope cl .none .none doc pm none (.ref c') ctv) ∧ h.CodeRec (.ref c') rf.qual ∧
    ∀ j y, nth rf.lay.cel j = some (some y) → ∃ c, nth cd j = some c ∧ cl.lookup y = some c

structure FR (X : Cx) (lay : Lay) (env : Env) (cd : List Addr) (σ : St) (ad : List Addr) (h : Heap) : Prop where
  ns : ∃ m, h.Ns env.locals m ∧ ∀ i x av, nth lay.loc i = some x → nth σ.loc i = some (some av) → ∃ v, m x = some v ∧ VR ad h v av
  cel : ∀ j c, nth cd j = some c → ∃ ov, h.IsCell c ov ∧ ∀ av, nth σ.cel j = some (some av) → ∃ v, ov = some v ∧ VR ad h v av
  fn : ∀ q, σ.fn = some q → ∃ j c f, lay.inn = some j ∧ nth cd j = some c ∧ h.IsCell c (some (.ref f)) ∧ InnAt X q cd h f
  hL : X.h₀.get? env.locals = none
  hcd : ∀ c ∈ cd, X.h₀.get? c = none
  cdn : cd.Nodup
  lnd : lay.loc.Nodup
  ll : σ.loc.length = lay.loc.length
  lc : σ.cel.length = cd.length

section
variable {X : Cx} {lay : Lay} {env : Env} {cd : List Addr} {σ : St} {W : List Addr} {ad ad' : List Addr} {H : Hp} {h h' : Heap}
theorem ncD {o : Obj} {es ep} (hd : o.data = .dict es ep) : NC o := .inl ⟨_, _, hd⟩
theorem ncCell {o : Obj} {ov} (hd : o.data = .cell ov) : NC o := .inr (.inl ⟨_, hd⟩)

/-- the frame is kept by what keeps namespaces and cells -/
theorem FR.of (F : FR X lay env cd σ ad h) (kd : ∀ b o, h.get? b = some o → (∃ es ep, o.data = .dict es ep) ∨ (∃ ov, o.data = .cell ov) ∨ (∃ fd, o.data = .func fd) → h'.get? b = some o)
    (kc : ∀ c q, h.CodeRec c q → h'.CodeRec c q) (kv : ∀ v av, VR ad h v av → VR ad' h' v av) : FR X lay env cd σ ad' h' := by
  have kcell : ∀ c ov, h.IsCell c ov → h'.IsCell c ov := fun c ov ⟨o, e, hd⟩ => ⟨o, kd _ _ e (.inr (.inl ⟨_, hd⟩)), hd⟩
  refine ⟨?_, fun j c e => ?_, fun q e => ?_, F.hL, F.hcd, F.cdn, F.lnd, F.ll, F.lc⟩
  · obtain ⟨m, ⟨o, es, ep, e, hd, r⟩, k⟩ := F.ns
    refine ⟨m, ⟨o, es, ep, kd _ _ e (.inl ⟨_, _, hd⟩), hd, r⟩, fun i x av h1 h2 => ?_⟩
    obtain ⟨v, e1, e2⟩ := k i x av h1 h2
    exact ⟨v, e1, kv _ _ e2⟩
  · obtain ⟨ov, h1, h2⟩ := F.cel j c e
    refine ⟨ov, kcell _ _ h1, fun av q => ?_⟩
    obtain ⟨v, e1, e2⟩ := h2 av q
    exact ⟨v, e1, kv _ _ e2⟩
  · obtain ⟨j, c, f, h1, h2, h3, rf, o, cl, doc, pm, c', ctv, i1, i2, i3, i4, i5⟩ := F.fn q e
    exact ⟨j, c, f, h1, h2, kcell _ _ h3, rf, o, cl, doc, pm, c', ctv, i1, kd _ _ i2 (.inr (.inr ⟨_, i3⟩)), i3, kc _ _ i4, i5⟩
theorem FR.ext (S : SI X ad H h) (K : WK W h) (hW : ∀ b ∈ W, ∀ o, h.get? b = some o → ∃ vs, o.data = .fields vs) (x : Ext W ad h ad' h') (F : FR X lay env cd σ ad h) : FR X lay env cd σ ad' h' := by
  refine F.of (fun b o e q => x.keep b o e (not_list S e fun vs n z => ?_) (not_tabD fun vs z => ?_) fun hb => ?_) (fun _ _ r => code_keep S K x r) fun _ _ r => r.ext S K x
  · rcases q with ⟨_, _, q⟩ | ⟨_, q⟩ | ⟨_, q⟩ <;> rw [q] at z <;> cases z
  · rcases q with ⟨_, _, q⟩ | ⟨_, q⟩ | ⟨_, q⟩ <;> rw [q] at z <;> cases z
  · obtain ⟨vs, z⟩ := hW b hb o e
    rcases q with ⟨_, _, q⟩ | ⟨_, q⟩ | ⟨_, q⟩ <;> rw [q] at z <;> cases z
theorem FR.ext0 (S : SI X ad H h) (x : Ext [] ad h ad' h') (F : FR X lay env cd σ ad h) : FR X lay env cd σ ad' h' := F.ext S (WK.nil h) (fun _ hb => nomatch hb) x
theorem FR.grow (S : SI X ad H h) (k : ∀ b o, h.get? b = some o → h'.get? b = some o) (F : FR X lay env cd σ ad h) : FR X lay env cd σ ad h' := F.ext0 S (Ext.grow k)
/-- the cells that a frame may change -/
def cdW (lay : Lay) (cd : List Addr) : List Addr := match lay.own with
  | true => cd
  | false => []
theorem cdW_sub {c : Addr} (h : c ∈ cdW lay cd) : c ∈ cd := by
  unfold cdW at h
  split at h
  · exact h
  · cases h
theorem cdW_own {c : Addr} (h : lay.own = true) (hc : c ∈ cd) : c ∈ cdW lay cd := by
  unfold cdW
  rw [h]
  exact hc
/-- the places that a frame may change -/
theorem FR.WK (F : FR X lay env cd σ ad h) : WK (env.locals :: cdW lay cd) h := fun b hb o e => by
  rcases List.mem_cons.mp hb with rfl | hb
  · obtain ⟨m, ⟨o', es, ep, e', hd, r⟩, _⟩ := F.ns
    rw [e] at e'; cases e'
    exact ncD hd
  · obtain ⟨k, hk, q⟩ := List.getElem_of_mem (cdW_sub hb)
    obtain ⟨ov, ⟨o', e', hd⟩, _⟩ := F.cel k b (by rw [nth_eq, List.getElem?_eq_getElem hk, q])
    rw [e] at e'; cases e'
    exact ncCell hd

def TgM (lay : Lay) (t : Tg) (x : Str) : Prop := match t with
  | .loc i => nth lay.loc i = some x ∧ lay.scope.names.lookup x = some .local
  | .cel j => nth lay.cel j = some (some x) ∧ lay.scope.names.lookup x = some .cell ∧ lay.inn ≠ some j ∧ lay.own = true

variable {M : Model} {A : Around} {E : Value → Shared → Prop} {s : Shared} {t : Tg} {x : Str} {v : Value} {av : AV}
theorem kind_of (e : EOK X lay env cd) {k : Option NameKind} (h : lay.scope.names.lookup x = k) : env.kindOf x = k := by
  show env.scope.names.lookup x = k
  rw [e.sc]; exact h
theorem noClass (e : EOK X lay env cd) : (env.scope.kind == .class || (env.scope.kind == .module && env.locals != env.globals)) = false := by rw [e.sc, e.kf]; rfl
theorem fr_kind (e : EOK X lay env cd) : env.scope.kind = .function := by rw [e.sc]; exact e.kf

theorem store {Q : Unit → Shared → Prop} (e : EOK X lay env cd) (S : SI X ad H s.heap) (F : FR X lay env cd σ ad s.heap) (tm : TgM lay t x) (ok : tgOk σ t = true) (r : VR ad s.heap v av)
    (k : ∀ h' tk, SI X ad H h' → FR X lay env cd (σ.sto t av) ad h' → Ext (env.locals :: cdW lay cd) ad s.heap ad h' → Q () { s with heap := h', toks := tk }) : wpAny M A (storeName env x v) Q E s := by
  obtain ⟨m, hn, hm⟩ := F.ns
  obtain ⟨oL, es, ep, eL, dL, rL⟩ := id hn
  cases t with
  | loc i =>
    obtain ⟨hx, hk⟩ := tm
    refine wpAny_storeName_local (kind_of e hk) hn (fun h' hn' hs => ?_) (noClass e)
    have eb := hs.extBut
    obtain ⟨oL', _, _, eL', _⟩ := id hn'
    refine k h' _ (S.updW eL (ncD dL) F.hL eb) ?_ (Ext.updW eL' hs (.head _))
    have kcell : ∀ c ov, s.heap.IsCell c ov → h'.IsCell c ov := fun c ov ⟨o, e1, hd⟩ => ⟨o, eb _ _ (fun q => by rw [q, eL] at e1; cases e1; rw [hd] at dL; cases dL) e1, hd⟩
    refine ⟨⟨_, hn', fun i' x' av' h1 h2 => ?_⟩, fun j c e1 => ?_, fun q e1 => ?_, F.hL, F.hcd, F.cdn, F.lnd, by show (put σ.loc i _).length = _; rw [put_len]; exact F.ll, F.lc⟩
    · rcases nth_put_inv h2 with ⟨rfl, q⟩ | ⟨hne, q⟩
      · rw [hx] at h1; cases h1; cases q
        exact ⟨v, by simp, r.updW eL (ncD dL) eb⟩
      · obtain ⟨v', e1, e2⟩ := hm i' x' av' h1 q
        refine ⟨v', ?_, e2.updW eL (ncD dL) eb⟩
        rw [if_neg (fun z : x' = x => hne (nodup_nth F.lnd hx (by rw [← z]; exact h1)))]; exact e1
    · obtain ⟨ov, h1, h2⟩ := F.cel j c e1
      refine ⟨ov, kcell _ _ h1, fun av' q => ?_⟩
      obtain ⟨v', e1, e2⟩ := h2 av' q
      exact ⟨v', e1, e2.updW eL (ncD dL) eb⟩
    · obtain ⟨j, c, f, h1, h2, h3, rf, o, cl, doc, pm, c', ctv, i1, i2, i3, i4, i5⟩ := F.fn q e1
      exact ⟨j, c, f, h1, h2, kcell _ _ h3, rf, o, cl, doc, pm, c', ctv, i1, offW eL (ncD dL) eb i2 (ncFn i3), i3, code_updW eL (ncD dL) eb i4, i5⟩
  | cel j =>
    obtain ⟨hx, hk, hi, ho⟩ := tm
    obtain ⟨c, hc, hl⟩ := e.cells j x hx
    obtain ⟨ov, hcell, _⟩ := F.cel j c hc
    obtain ⟨oc, ec, dc⟩ := id hcell
    refine wpAny_storeName_cell (fr_kind e) (kind_of e hk) hl hcell fun h' hc' hs => ?_
    have eb := hs.extBut
    obtain ⟨oc', ec', _⟩ := id hc'
    refine k h' s.toks (S.updW ec (ncCell dc) (F.hcd c (nth_mem hc)) eb) ?_ (Ext.updW ec' hs (.tail _ (cdW_own ho (nth_mem hc))))
    have kcell : ∀ c2 ov, c2 ≠ c → s.heap.IsCell c2 ov → h'.IsCell c2 ov := fun c2 ov hne ⟨o, e1, hd⟩ => ⟨o, eb _ _ hne e1, hd⟩
    refine ⟨⟨m, ⟨oL, es, ep, eb _ _ (fun q => by rw [q, ec] at eL; cases eL; rw [dc] at dL; cases dL) eL, dL, rL⟩, fun i x' av' h1 h2 => ?_⟩, fun j' c2 e1 => ?_, fun q e1 => ?_, F.hL, F.hcd, F.cdn, F.lnd, F.ll, by show (put σ.cel j _).length = _; rw [put_len]; exact F.lc⟩
    · obtain ⟨v', e1, e2⟩ := hm i x' av' h1 h2
      exact ⟨v', e1, e2.updW ec (ncCell dc) eb⟩
    · by_cases hj : j = j'
      · subst hj
        rw [hc] at e1; cases e1
        refine ⟨_, hc', fun av' q => ?_⟩
        rcases nth_put_inv q with ⟨_, q⟩ | ⟨hne, _⟩
        · cases q; exact ⟨v, rfl, r.updW ec (ncCell dc) eb⟩
        · exact absurd rfl hne
      · obtain ⟨ov', h1, h2⟩ := F.cel j' c2 e1
        refine ⟨ov', kcell _ _ (fun z => hj (nodup_nth F.cdn hc (z ▸ e1))) h1, fun av' q => ?_⟩
        rcases nth_put_inv q with ⟨z, _⟩ | ⟨_, q⟩
        · exact absurd z hj
        · obtain ⟨v', e1, e2⟩ := h2 av' q
          exact ⟨v', e1, e2.updW ec (ncCell dc) eb⟩
    · obtain ⟨j2, c2, f, h1, h2, h3, rf, o, cl, doc, pm, c', ctv, i1, i2, i3, i4, i5⟩ := F.fn q e1
      exact ⟨j2, c2, f, h1, h2, kcell _ _ (fun z => hi (by rw [h1, nodup_nth F.cdn hc (z ▸ h2)])) h3, rf, o, cl, doc, pm, c', ctv, i1, offW ec (ncCell dc) eb i2 (ncFn i3), i3, code_updW ec (ncCell dc) eb i4, i5⟩

theorem load_loc {i : Nat} {pos : Pos} {Q : Value → Shared → Prop} (e : EOK X lay env cd) (F : FR X lay env cd σ ad s.heap) (hx : nth lay.loc i = some x) (hk : lay.scope.names.lookup x = some .local) (hd : (x == ("__debug__" : Str)) = false)
    (h : nth σ.loc i = some (some av)) (k : ∀ v, VR ad s.heap v av → Q v s) : wpAny M A (eval (.Name x pos) env) Q E s := by
  obtain ⟨m, hn, hm⟩ := F.ns
  obtain ⟨v, e1, e2⟩ := hm i x av hx h
  exact wpAny_Name (wpAny_loadName_local (fr_kind e) (kind_of e hk) hn e1 (k v e2)) hd
theorem load_cel {j : Nat} {pos : Pos} {Q : Value → Shared → Prop} (e : EOK X lay env cd) (F : FR X lay env cd σ ad s.heap) (hx : nth lay.cel j = some (some x)) (hk : lay.scope.names.lookup x = some .cell ∨ lay.scope.names.lookup x = some .free) (hd : (x == ("__debug__" : Str)) = false)
    (hcd : (x == ("__classdict__" : Str)) = false) (h : nth σ.cel j = some (some av)) (k : ∀ v, VR ad s.heap v av → Q v s) : wpAny M A (eval (.Name x pos) env) Q E s := by
  obtain ⟨c, hc, hl⟩ := e.cells j x hx
  obtain ⟨ov, hcell, hm⟩ := F.cel j c hc
  obtain ⟨v, rfl, e2⟩ := hm av h
  rcases hk with hk | hk
  · exact wpAny_Name (wpAny_loadName_cell (fr_kind e) (kind_of e hk) hl hcell (k v e2)) hd
  · exact wpAny_Name (wpAny_loadName_free (fr_kind e) (kind_of e hk) hl hcell (k v e2) hcd) hd
theorem load_glob {pos : Pos} {Q : Value → Shared → Prop} (B : BOK X) (e : EOK X lay env cd) (S : SI X ad H s.heap) (hk : lay.scope.names.lookup x = some .globalImplicit) (hd : (x == ("__debug__" : Str)) = false)
    (h : X.mg x = some v) (k : Q v s) : wpAny M A (eval (.Name x pos) env) Q E s :=
  Name_function_global (fr_kind e) (kind_of e hk) (loadGlobal_global (by rw [e.g]; exact B.g.keeps S.base) h k) hd
theorem load_bi {pos : Pos} {Q : Value → Shared → Prop} (B : BOK X) (e : EOK X lay env cd) (S : SI X ad H s.heap) (hk : lay.scope.names.lookup x = some .globalImplicit) (hd : (x == ("__debug__" : Str)) = false)
    (h : (x, v) ∈ biTab) (k : Q v s) : wpAny M A (eval (.Name x pos) env) Q E s :=
  Name_function_global (fr_kind e) (kind_of e hk) (loadGlobal_builtin (by rw [e.g]; exact B.g.keeps S.base) (B.bi x v h).1 (by rw [e.b]; exact B.b.keeps S.base) (B.bi x v h).2 k) hd
end
end Mine
end
section
open PySem PySem.Spec PySem.Calls PyProof.Rows PySem.W
namespace Mine
set_option Elab.async false
set_option linter.unusedVariables false

/-! ### small facts -/
theorem guard_eq {α : Type} {b : Bool} {x : Option α} {y : α} (h : guard b x = some y) : b = true ∧ x = some y := by
  cases b with
  | true => exact ⟨rfl, h⟩
  | false => cases h
theorem bind_eq {α β : Type} {x : Option α} {f : α → Option β} {y : β} (h : x.bind f = some y) : ∃ a, x = some a ∧ f a = some y := by
  cases x with
  | none => cases h
  | some a => exact ⟨a, rfl, h⟩
theorem map_eq' {α β : Type} {x : Option α} {f : α → β} {y : β} (h : x.map f = some y) : ∃ a, x = some a ∧ f a = y := by
  cases x with
  | none => cases h
  | some a => cases h; exact ⟨a, rfl, rfl⟩
theorem blt_lt {m n : Nat} (h : Nat.blt m n = true) : m < n := PySem.W.Z.blt_iff.mp h
theorem ble_le {m n : Nat} (h : Nat.ble m n = true) : m ≤ n := PySem.W.Z.ble_iff.mp h
theorem sm_bd {i : Int} (h : sm i = true) : -1000000 ≤ i ∧ i < 1000000 := by
  cases i with
  | ofNat n =>
    have h1 : n < 1000000 := blt_lt h
    have : (Int.ofNat n) = (n : Int) := rfl
    rw [this]; omega
  | negSucc n =>
    have h1 : n < 1000000 := blt_lt h
    omega
theorem eqB_eq (i j : Int) : eqB i j = (i == j) := by
  have h := PySem.W.Z.eqB_iff i j
  show PySem.W.Z.eqB i j = (i == j)
  by_cases e : i = j
  · rw [h.mpr e]; simp [e]
  · have : PySem.W.Z.eqB i j = false := by
      cases q : PySem.W.Z.eqB i j with
      | false => rfl
      | true => exact absurd (h.mp q) e
    rw [this]; simp [e]
theorem ltB_eq (i j : Int) : ltB i j = decide (i < j) := by
  have h := PySem.W.Z.ltB_iff i j
  show PySem.W.Z.ltB i j = decide (i < j)
  by_cases e : i < j
  · rw [h.mpr e]; simp [e]
  · have : PySem.W.Z.ltB i j = false := by
      cases q : PySem.W.Z.ltB i j with
      | false => rfl
      | true => exact absurd (h.mp q) e
    rw [this]; simp [e]
theorem leB_eq (i j : Int) : leB i j = decide (i ≤ j) := by
  have h := PySem.W.Z.leB_iff i j
  show PySem.W.Z.leB i j = decide (i ≤ j)
  by_cases e : i ≤ j
  · rw [h.mpr e]; simp [e]
  · have : PySem.W.Z.leB i j = false := by
      cases q : PySem.W.Z.leB i j with
      | false => rfl
      | true => exact absurd (h.mp q) e
    rw [this]; simp [e]
theorem neB0 {j : Int} (h : (!eqB j (.ofNat 0)) = true) : j ≠ 0 := by
  rw [eqB_eq] at h
  intro e
  subst e
  exact absurd h (by decide)
theorem bits_eq (n : Nat) : Builtin.Int.intBits (.ofNat n) = bits n := by
  cases n with
  | zero => rfl
  | succ n =>
    show (if ((Int.ofNat (n + 1)) == 0) = true then 0 else (Int.ofNat (n + 1)).natAbs.log2 + 1) = _
    rw [if_neg (by simp only [beq_iff_eq]; show ¬ ((n + 1 : Nat) : Int) = 0; omega)]
    rfl
theorem mulOk {a b : Int} (h : sm a = true) : IntMulOk a b := by
  have hb := sm_bd h
  unfold IntMulOk
  have : Builtin.Int.intBits a ≤ shortFactorBits := intBits_le_64 (by omega) (by omega)
  have e : decide (Builtin.Int.intBits a > shortFactorBits) = false := decide_eq_false (by omega)
  rw [e]
  simp
theorem noPy {a b : Int} (h : sm b = true) : Builtin.divisionGoesByPylong a b = false := PyProof.noPylong_small (by have := sm_bd h; omega)
theorem xor_of (a b : Nat) : Builtin.bitXor (.ofNat a) (.ofNat b) = Int.sub (.ofNat (Nat.lor a b)) (.ofNat (Nat.land a b)) := by
  have h1 : Builtin.bitAnd (.ofNat a) (.ofNat b) = .ofNat (Nat.land a b) := rfl
  have h2 : Builtin.bitOr (.ofNat a) (.ofNat b) = .ofNat (Nat.lor a b) := by
    have n1 : ∀ n : Nat, Builtin.bitNot (.ofNat n) = .negSucc n := fun n => by
      show -(Int.ofNat n) - 1 = _
      have : (Int.ofNat n) = (n : Int) := rfl
      rw [this]; omega
    have n2 : ∀ n : Nat, Builtin.bitNot (.negSucc n) = .ofNat n := fun n => by
      show -(Int.negSucc n) - 1 = (n : Int)
      omega
    unfold Builtin.bitOr
    rw [n1, n1]
    unfold Builtin.bitAnd
    have d : ∀ n : Nat, decide (0 ≤ Int.negSucc n) = false := fun n => decide_eq_false (by omega)
    rw [d, d]
    show Builtin.bitNot (Builtin.bitNot (((Builtin.bitNot (.negSucc a)).toNat ||| (Builtin.bitNot (.negSucc b)).toNat : Nat) : Int)) = _
    rw [n2, n2]
    show Builtin.bitNot (Builtin.bitNot (.ofNat (a ||| b))) = _
    rw [n1, n2]
    rfl
  unfold Builtin.bitXor
  rw [h1, h2]
  rfl

def opOf : Op → Operator
  | .add => .Add | .sub => .Sub | .mul => .Mult | .fdiv => .FloorDiv | .fmod => .Mod | .shl => .LShift | .shr => .RShift | .xor => .BitXor
def cmOf : Cm → CmpOp
  | .lt => .Lt | .le => .LtE | .gt => .Gt | .eq => .Eq | .ne => .NotEq
end Mine
end
section
open PySem PySem.Spec PySem.Calls PyProof.Rows PySem.W
namespace Mine
set_option Elab.async false
set_option linter.unusedVariables false
set_option maxRecDepth 100000

def Kont (X : Cx) (ad : List Addr) (s : Shared) (H' : Hp) (av : AV) (Q : Value → Shared → Prop) : Prop :=
  ∀ vl ad' h' tk, Ext [] ad s.heap ad' h' → SI X ad' H' h' → VR ad' h' vl av → Q vl { s with heap := h', toks := tk }

section
variable {X : Cx} {A : Around} {E : Value → Shared → Prop} {s : Shared} {ad : List Addr} {H H' : Hp} {v w : Value} {x y av : AV} {Q : Value → Shared → Prop}

/-- a value that makes nothing -/
theorem Kont.val (S : SI X ad H s.heap) (k : Kont X ad s H av Q) (tk : Nat) (r : VR ad s.heap v av) : Q v { s with toks := tk } :=
  k v ad s.heap tk (Ext.refl _ _) S r
theorem Kont.here (S : SI X ad H s.heap) (k : Kont X ad s H av Q) (r : VR ad s.heap v av) : Q v s := k.val S s.toks r
theorem Kont.intV {i : Int} {t : Tok} (S : SI X ad H s.heap) (k : Kont X ad s H (.int i) Q) (tk : Nat) : Q (.int i t) { s with toks := tk } := k.val S tk ⟨t, rfl⟩
theorem Kont.grown {h' : Heap} {tk : Nat} (S : SI X ad H s.heap) (k : Kont X ad s H av Q) (g : ∀ b o, s.heap.get? b = some o → h'.get? b = some o) (r : VR ad h' v av) : Q v { s with heap := h', toks := tk } :=
  k v ad h' tk (Ext.grow g) (S.grow g) r
theorem Kont.list {vs : List Value} {its : List AV} {n tk : Nat} (S : SI X ad H s.heap) (k : Kont X ad s (its :: H) (.lst H.length) Q) (p : Paired (VR ad s.heap) vs its) : Q (.ref s.heap.objs.size) { s with heap := s.heap.push (Lst vs n), toks := tk } :=
  k _ _ _ tk (Ext.newList _ _ _) (S.newList n p) (VR.newList S)

theorem list_at {k : Nat} {xs : List AV} (S : SI X ad H s.heap) (r : VR ad s.heap v (.lst k)) (e : hAt H k = some xs) :
    ∃ a vs n, v = .ref a ∧ nth ad k = some a ∧ s.heap.get? a = some (Lst vs n) ∧ Paired (VR ad s.heap) vs xs := by
  obtain ⟨a, ea, rfl⟩ := r
  obtain ⟨b, vs, n, e1, e2, e3⟩ := S.lists k xs e
  rw [ea] at e1; cases e1
  exact ⟨a, vs, n, rfl, ea, e2, e3⟩
theorem isList_of {a : Addr} {vs : List Value} {n : Nat} {h : Heap} (e : h.get? a = some (Lst vs n)) : h.IsList a vs.toArray := ⟨_, e, rfl, n, rfl⟩

theorem fold_rep : ∀ (n : Nat) (a : Array Value), List.foldl (fun x1 x2 => x1 ++ x2) #[] (List.replicate n a) = (rep n a.toList).toArray := by
  have key : ∀ (n : Nat) (a b : Array Value), List.foldl (fun x1 x2 => x1 ++ x2) b (List.replicate n a) = b ++ (rep n a.toList).toArray := by
    intro n
    induction n with
    | zero => intro a b; simp [rep]
    | succ n ih =>
      intro a b
      rw [List.replicate_succ, List.foldl_cons, ih]
      apply Array.toList_inj.mp
      simp [rep]
  intro n a
  rw [key]
  simp
theorem rep_nil {α : Type} : ∀ n : Nat, rep n ([] : List α) = []
  | 0 => rfl
  | n + 1 => by rw [rep, rep_nil n]; rfl
theorem rep_len {α : Type} (l : List α) : ∀ n : Nat, (rep n l).length = n * l.length
  | 0 => by simp [rep]
  | n + 1 => by rw [rep, List.length_append, rep_len l n, Nat.succ_mul, Nat.add_comm]

theorem mul_listG {l : Addr} {items : Array Value} {k : Nat} {x : Int} {u : Tok} (hl : s.heap.get? l = some { cls := .type "list", dict := none, data := .seq items k, slots := #[] })
    (hlo : -(2 ^ 63 : Int) ≤ x) (hhi : x < 2 ^ 63) (hsz : items.size * x.toNat ≤ 2 ^ 24)
    (h : Q (.ref s.heap.objs.size) { s with heap := s.heap.push { cls := .type "list", data := .seq (List.foldl (fun x1 x2 => x1 ++ x2) #[] (List.replicate (if items.isEmpty = true then 0 else x.toNat) items)) } }) :
    wpAny (model X.prog X.w) A (binaryOp .Mult (.ref l) (.int x u)) Q E s :=
  wpAny_binaryOp_repeat_ref (T := "list") (U := "int") (by decide) ⟨_, hl, rfl⟩ (fun s' => typeIs_int s' x u) noFill_list_mul F.fills_int_mul F.slot_int_rmul repeat_list F.slot_int_index.lookup
    (call_meets F.slot_int_rmul (typeIs_int s x u) F.entry_int_rmul (F.args_int_rmul_2 _ _) (int___rmul___int_list x u l items k)
      ⟨hl, rfl, ⟨_, hl, rfl⟩, call_meets F.slot_list_mul ⟨_, hl, rfl⟩ F.entry_list_mul (F.args_list_mul_2 _ _)
        (AutoListH.list___mul___list_int_3 l items k x u (by simp [Builtin.List.listFitsIndex]; omega) (by omega) (by simp [Builtin.List.listTooLong, sizeLine]; omega))
        ⟨hl, h⟩⟩)
theorem mul_listL {l : Addr} {vs : List Value} {k n : Nat} {u : Tok} (hl : s.heap.get? l = some (Lst vs k)) (h1 : vs.length < 1000) (h2 : n < 1000)
    (h : Q (.ref s.heap.objs.size) { s with heap := s.heap.push (Lst (rep n vs) 0) }) : wpAny (model X.prog X.w) A (binaryOp .Mult (.ref l) (.int (.ofNat n) u)) Q E s := by
  have hn : (Int.ofNat n) = (n : Int) := rfl
  have hm := Nat.mul_le_mul (Nat.le_of_lt h1) (Nat.le_of_lt h2)
  refine mul_listG hl (by omega) (by omega) ?_ ?_
  · show vs.length * n ≤ 2 ^ 24
    omega
  · have e : List.foldl (fun x1 x2 => x1 ++ x2) #[] (List.replicate (if vs.toArray.isEmpty = true then 0 else (Int.ofNat n).toNat) vs.toArray) = (rep n vs).toArray := by
      rw [fold_rep]
      by_cases q : vs = []
      · subst q; simp [rep_nil]
      · have : vs.toArray.isEmpty = false := by simpa using q
        rw [this]
        rfl
    rw [e]
    exact h

theorem bin_ok {o : Op} (S : SI X ad H s.heap) (r1 : VR ad s.heap v x) (r2 : VR ad s.heap w y) (e : binV o x y H = some (av, H')) (k : Kont X ad s H' av Q) : wpAny (model X.prog X.w) A (binaryOp (opOf o) v w) Q E s := by
  cases x with
  | int i =>
    cases y with
    | int j =>
      obtain ⟨t, rfl⟩ := r1
      obtain ⟨u, rfl⟩ := r2
      obtain ⟨z, e1, e2⟩ := bind_eq e
      cases e2
      obtain ⟨h1, e1⟩ := guard_eq e1
      obtain ⟨h2, e1⟩ := guard_eq e1
      cases o with
      | add => cases e1; exact PyProof.Rows.add_int (k.intV S _)
      | sub => cases e1; exact PyProof.Rows.sub_int (k.intV S _)
      | mul => cases e1; exact PyProof.Rows.mul_int (k.intV S _) (mulOk h1)
      | fdiv =>
        obtain ⟨h3, e1⟩ := guard_eq e1
        cases e1
        exact PyProof.Rows.floordiv_int (neB0 h3) (k.intV S _) (.inl (noPy h2))
      | fmod =>
        obtain ⟨h3, e1⟩ := guard_eq e1
        cases e1
        exact PyProof.Rows.mod_int' (neB0 h3) (k.intV S _)
      | shl =>
        cases i with
        | negSucc => cases e1
        | ofNat a =>
          cases j with
          | negSucc => cases e1
          | ofNat n =>
            obtain ⟨h3, e1⟩ := guard_eq e1
            cases e1
            have h3 := blt_lt h3
            have hb := sm_bd h1
            have hn : (Int.ofNat n) = (n : Int) := rfl
            refine PyProof.Rows.lshift_int_small (by omega) (by omega) (by omega) ?_
            have q : (Int.ofNat a) * 2 ^ (Int.ofNat n).toNat = Int.ofNat (Nat.mul a (Nat.pow 2 n)) := by
              show (a : Int) * 2 ^ n = ((a * 2 ^ n : Nat) : Int)
              rw [Int.natCast_mul, Int.natCast_pow]; rfl
            rw [q]
            exact k.intV S _
      | shr =>
        cases i with
        | negSucc => cases e1
        | ofNat a =>
          cases j with
          | negSucc => cases e1
          | ofNat n =>
            obtain ⟨h3, e1⟩ := guard_eq e1
            cases e1
            have hn : (Int.ofNat n) = (n : Int) := rfl
            refine PyProof.Rows.rshift_int (by omega) ?_
            have q : (Int.ofNat a).fdiv (2 ^ (Int.ofNat n).toNat) = Int.ofNat (Nat.div a (Nat.pow 2 n)) := by
              show (a : Int).fdiv (2 ^ n) = ((a / 2 ^ n : Nat) : Int)
              have : ((2 : Int) ^ n) = ((2 ^ n : Nat) : Int) := by rw [Int.natCast_pow]; rfl
              rw [this, Int.ofNat_fdiv]
            rw [q]
            exact k.intV S _
      | xor =>
        cases i with
        | negSucc => cases e1
        | ofNat a =>
          cases j with
          | negSucc => cases e1
          | ofNat n =>
            cases e1
            refine PyProof.Rows.xor_int ?_
            rw [xor_of]
            exact k.intV S _
    | _ => cases e
  | lst i =>
    cases y with
    | lst j =>
      cases o with
      | add =>
        obtain ⟨xs, e1, e⟩ := bind_eq e
        obtain ⟨ys, e2, e⟩ := bind_eq e
        obtain ⟨h1, e⟩ := guard_eq e
        cases e
        obtain ⟨a, vs, n, rfl, _, ha, pa⟩ := list_at S r1 e1
        obtain ⟨b, ws, m, rfl, _, hb, pb⟩ := list_at S r2 e2
        have h1 := blt_lt h1
        have l1 := pd_len pa
        have l2 := pd_len pb
        refine PySem.P.add_list ha hb ?_ (by simp [sizeLine]; omega)
        have := k.list (n := 0) (tk := s.toks) S (pd_app pa pb)
        simpa using this
      | _ => cases e
    | int j =>
      cases o with
      | mul =>
        obtain ⟨xs, e1, e⟩ := bind_eq e
        obtain ⟨n, e2, e⟩ := bind_eq e
        obtain ⟨h1, e⟩ := guard_eq e
        obtain ⟨h2, e⟩ := guard_eq e
        cases e
        obtain ⟨a, vs, m, rfl, _, ha, pa⟩ := list_at S r1 e1
        obtain ⟨u, rfl⟩ := r2
        cases j with
        | negSucc => cases e2
        | ofNat j =>
          cases e2
          exact mul_listL ha (by rw [pd_len pa]; exact blt_lt h1) (blt_lt h2) (k.list (n := 0) (tk := s.toks) S (pd_rep _ pa))
      | _ => cases e
    | _ => cases e
  | _ => cases e

theorem cmp_ok {o : Cm} {t : Bool} (S : SI X ad H s.heap) (hu : A.units + 64 < cLine) (r1 : VR ad s.heap v x) (r2 : VR ad s.heap w y) (e : cmpV o x y H = some t) (k : Kont X ad s H (.bool t) Q) : wpAny (model X.prog X.w) A (compareOp (cmOf o) v w) Q E s := by
  have fin : ∀ b : Bool, b = t → Q (.bool b) s := fun b q => k.here S (by rw [q]; rfl)
  cases x with
  | int i =>
    cases y with
    | int j =>
      obtain ⟨t', rfl⟩ := r1
      obtain ⟨u, rfl⟩ := r2
      injection e with e
      cases o with
      | lt => exact PyProof.Rows.lt_int (fin _ (by rw [← e]; exact (ltB_eq _ _).symm))
      | le => exact PyProof.Rows.le_int (fin _ (by rw [← e]; exact (leB_eq _ _).symm))
      | gt => exact PyProof.Rows.gt_int (fin _ (by rw [← e]; exact (ltB_eq _ _).symm))
      | eq => exact PyProof.Rows.eq_int (fin _ (by rw [← e]; exact (eqB_eq _ _).symm))
      | ne => exact PyProof.Rows.ne_int (fin _ (by rw [← e]; show (i != j) = !eqB i j; rw [eqB_eq]; rfl))
    | _ => cases e
  | lst i =>
    cases y with
    | lst j =>
      dsimp only [cmpV] at e
      split at e
      · rename_i e1 e2
        cases e
        obtain ⟨a, vs, n, rfl, _, ha, pa⟩ := list_at S r1 e1
        obtain ⟨b, ws, m, rfl, _, hb, pb⟩ := list_at S r2 e2
        cases pa
        cases pb
        exact ne_intsK (ns := []) (ms := []) (isList_of ha) .nil (isList_of hb) .nil hu (fin _ (by simp))
      · cases e
    | _ => cases e
  | _ => cases e

theorem truth_ok {t : Bool} {Q : Bool → Shared → Prop} (S : SI X ad H s.heap) (r : VR ad s.heap v x) (e : truth x H = some t) (k : ∀ tk, Q t { s with toks := tk }) : wpAny (model X.prog X.w) A (truthy v) Q E s := by
  cases x with
  | none => cases e; cases r; exact PyProof.Rows.truthy_none (k _)
  | bool b => cases e; cases r; exact wpAny_truthy_bool (k _)
  | int i =>
    injection e with e
    obtain ⟨u, rfl⟩ := r
    refine PyProof.Rows.truthy_int ?_
    have : (i != 0) = t := by rw [← e, eqB_eq]; rfl
    rw [this]
    exact k _
  | lst i =>
    obtain ⟨xs, e1, e⟩ := bind_eq e
    obtain ⟨h1, e⟩ := guard_eq e
    injection e with e
    obtain ⟨a, vs, n, rfl, _, ha, pa⟩ := list_at S r e1
    have l := pd_len pa
    have h1 := blt_lt h1
    refine PySem.wpAny_truthy_list (isList_of ha) (by simp; omega) ?_
    have : (!vs.toArray.isEmpty) = t := by
      rw [← e]
      cases pa with
      | nil => rfl
      | cons => rfl
    rw [this]
    exact k _
  | _ => cases e
end
end Mine
end
section
open PySem PySem.Spec PySem.Calls PyProof.Rows PySem.W
namespace Mine
set_option Elab.async false
set_option linter.unusedVariables false
set_option maxRecDepth 100000

section
variable {X : Cx} {A : Around} {E : Value → Shared → Prop} {s : Shared} {ad : List Addr} {H H' : Hp} {v w : Value} {x y av : AV} {Q : Value → Shared → Prop}

theorem nat_of {i : Int} {n : Nat} (h : nat? i = some n) : i = .ofNat n := by
  cases i with
  | ofNat => cases h; rfl
  | negSucc => cases h
theorem arr_nth {vs : List Value} {i : Nat} {v : Value} (h : nth vs i = some v) : vs.toArray[i]? = some v := by
  rw [nth_eq] at h; simpa using h

theorem idx_ok {value slice : PySem.Expr} (hs : ∀ a b, subscripted slice false a b = operate [a, b] (getItem a b)) (S : SI X ad H s.heap) (r1 : VR ad s.heap v x) (r2 : VR ad s.heap w y) (e : idxV x y H = some av) (k : Kont X ad s H av Q) :
    wpAny (model X.prog X.w) A (subscriptTail value slice v w) Q E s := by
  cases x with
  | lst i =>
    cases y with
    | int j =>
      obtain ⟨xs, e1, e⟩ := bind_eq e
      obtain ⟨n, e2, e⟩ := bind_eq e
      obtain ⟨h1, e⟩ := guard_eq e
      obtain ⟨a, vs, m, rfl, _, ha, pa⟩ := list_at S r1 e1
      obtain ⟨u, rfl⟩ := r2
      obtain ⟨z, ez, rz⟩ := pd_nth pa e
      have hn := nat_of e2
      subst hn
      have h1 := blt_lt h1
      have hl := isList_of ha
      have hn : (Int.ofNat n) = (n : Int) := rfl
      exact tail_any hl.typeIs slot_list_getitem.lookup (wpAny_getItem_list hl (by omega) (by omega) (by show vs.toArray[n]? = _; exact arr_nth ez) (k.here S rz)) (hs _ _)
    | _ => cases e
  | pair a b =>
    cases y with
    | int j =>
      obtain ⟨p, t, u, n, rfl, ep⟩ := r1
      obtain ⟨z, rfl⟩ := r2
      have ht : IsTup s.heap p ([.int a t, .int b u] : List Value).toArray := ⟨_, ep, rfl, n, rfl⟩
      dsimp only [idxV] at e
      split at e
      · rename_i e2
        cases e
        have := nat_of e2
        subst this
        exact item_tupleT ht (by decide) (by decide) (j := 0) rfl rfl (k.here S ⟨_, rfl⟩) (hs _ _)
      · rename_i e2
        cases e
        have := nat_of e2
        subst this
        exact item_tupleT ht (by decide) (by decide) (j := 1) rfl rfl (k.here S ⟨_, rfl⟩) (hs _ _)
      · cases e
    | _ => cases e
  | _ => cases e

theorem len_ok (S : SI X ad H s.heap) (r1 : VR ad s.heap v x) (e : lenV x H = some av) (k : Kont X ad s H av Q) : wpAny (model X.prog X.w) A (call (.builtin "len") [v]) Q E s := by
  cases x with
  | lst i =>
    obtain ⟨xs, e1, e⟩ := bind_eq e
    obtain ⟨h1, e⟩ := guard_eq e
    cases e
    obtain ⟨a, vs, m, rfl, _, ha, pa⟩ := list_at S r1 e1
    have h1 := blt_lt h1
    have l := pd_len pa
    refine PySem.Calls.call_len_list (isList_of ha) (by simp; omega) (k.val S _ ⟨s.toks + 1, ?_⟩)
    show Value.int ((vs.toArray.size : Nat) : Int) _ = Value.int (Int.ofNat xs.length) _
    rw [List.size_toArray, l]
    rfl
  | _ => cases e

theorem sum_ints : ∀ {vs : List Value} {xs : List AV} {a b : Int}, Paired (VR ad s.heap) vs xs → sumZ xs a = some b → ∃ ns, IntsAre vs ns ∧ b = a + ns.sum
  | _, _, a, b, .nil, e => by cases e; exact ⟨[], .nil, by simp⟩
  | _, _, a, b, .cons (b := x) r p, e => by
    cases x with
    | int i =>
      obtain ⟨t, rfl⟩ := r
      obtain ⟨_, e⟩ := guard_eq e
      obtain ⟨_, e⟩ := guard_eq e
      obtain ⟨ns, h1, h2⟩ := sum_ints p e
      refine ⟨i :: ns, .cons i t h1, ?_⟩
      rw [h2, List.sum_cons]
      show Int.add a i + ns.sum = a + (i + ns.sum)
      show a + i + ns.sum = _
      omega
    | _ => cases e
theorem sum_ok (S : SI X ad H s.heap) (hh : A.handled = none) (r1 : VR ad s.heap v x) (e : sumV x H = some av) (k : Kont X ad s H av Q) : wpAny (model X.prog X.w) A (call (.builtin "sum") [v]) Q E s := by
  cases x with
  | lst i =>
    obtain ⟨xs, e1, e⟩ := bind_eq e
    obtain ⟨h1, e⟩ := guard_eq e
    obtain ⟨z, e2, e⟩ := map_eq' e
    cases e
    obtain ⟨a, vs, m, rfl, _, ha, pa⟩ := list_at S r1 e1
    obtain ⟨ns, hi, hz⟩ := sum_ints pa e2
    have hl := isList_of ha
    obtain ⟨xs', hx⟩ := hi.allInts.items
    have hn : numsOf vs.toArray.toList = ns := by rw [show vs.toArray.toList = vs from rfl, hi.numsOf]
    rw [hx] at hl hn
    rw [nums_intItems] at hn
    refine sum_intListG hh hl fun h' tk t' hk => ?_
    refine k.grown S hk ⟨t', ?_⟩
    rw [preSum_eq, List.take_of_length_le (by simp), hn, hz]
    show Value.int _ _ = Value.int (0 + _) _
    rw [Int.zero_add]
  | _ => cases e
theorem toInt_ok {b : Bool} (S : SI X ad H s.heap) (r1 : VR ad s.heap v (.bool b)) (k : Kont X ad s H (.int (match b with | true => .ofNat 1 | false => .ofNat 0)) Q) : wpAny (model X.prog X.w) A (call (.type "int") [v]) Q E s := by
  cases r1
  refine call_int_bool (k.val S _ ⟨s.toks, ?_⟩)
  cases b <;> rfl
theorem bitlen_ok {pl : Sem Bool} {pos : Pos} {env : Env} (S : SI X ad H s.heap) (r1 : VR ad s.heap v x) (e : bitlenV x = some av) (k : Kont X ad s H av Q) :
    wpAny (model X.prog X.w) A (getMethod v (Str.ofString "bit_length") pl) (fun fx s₂ => wpAny (model X.prog X.w) A (callWith pos fx.1 fx.2 (backTo pos (starEach [] env)) []) Q E s₂) E s := by
  cases x with
  | int i =>
    cases i with
    | ofNat n =>
      cases e
      obtain ⟨t, rfl⟩ := r1
      refine getMethod_int_bit_length (callWith_method0 (call_int_bit_length (k.val S _ ⟨s.toks, ?_⟩)))
      rw [bits_eq]
      rfl
    | negSucc => cases e
  | _ => cases e
theorem tup_new {i j : Int} {t u : Tok} {tk : Nat} (S : SI X ad H s.heap) (k : Kont X ad s H (.pair i j) Q) : Q (.ref s.heap.objs.size) { s with heap := s.heap.push { cls := .type "tuple", data := .seq #[.int i t, .int j u] }, toks := tk } :=
  k.grown S (fun _ _ e => Heap.get?_push_of_some _ e) ⟨_, t, u, 0, rfl, Heap.get?_push_size _ rfl⟩
theorem divmod_ok (S : SI X ad H s.heap) (r1 : VR ad s.heap v x) (r2 : VR ad s.heap w y) (e : divmodV x y = some av) (k : Kont X ad s H av Q) : wpAny (model X.prog X.w) A (call (.builtin "divmod") [v, w]) Q E s := by
  cases x with
  | int i =>
    cases y with
    | int j =>
      obtain ⟨h1, e⟩ := guard_eq e
      obtain ⟨h2, e⟩ := guard_eq e
      obtain ⟨h3, e⟩ := guard_eq e
      cases e
      obtain ⟨t, rfl⟩ := r1
      obtain ⟨u, rfl⟩ := r2
      exact divmod_int (neB0 h3) (tup_new S k) (.inl (noPy h2))
    | _ => cases e
  | _ => cases e
theorem range_new {i j c : Int} {t u z : Tok} {tk : Nat} (S : SI X ad H s.heap) (k : Kont X ad s H (.rng i j c) Q) : Q (.ref s.heap.objs.size) { s with heap := s.heap.push { cls := .type "range", data := .fields #[.int i t, .int j u, .int c z] }, toks := tk } :=
  k.grown S (fun _ _ e => Heap.get?_push_of_some _ e) ⟨_, t, u, z, rfl, Heap.get?_push_size _ rfl⟩
theorem range2_ok {i j : Int} (S : SI X ad H s.heap) (r1 : VR ad s.heap v (.int i)) (r2 : VR ad s.heap w (.int j)) (k : Kont X ad s H (.rng i j (.ofNat 1)) Q) : wpAny (model X.prog X.w) A (call (.type "range") [v, w]) Q E s := by
  obtain ⟨t, rfl⟩ := r1
  obtain ⟨u, rfl⟩ := r2
  exact call_range_2 (range_new S k)
theorem range3_ok {i j c : Int} {z : Value} (S : SI X ad H s.heap) (h1 : sm c = true) (h2 : (!eqB c (.ofNat 0)) = true) (r1 : VR ad s.heap v (.int i)) (r2 : VR ad s.heap w (.int j)) (r3 : VR ad s.heap z (.int c)) (k : Kont X ad s H (.rng i j c) Q) :
    wpAny (model X.prog X.w) A (call (.type "range") [v, w, z]) Q E s := by
  obtain ⟨t, rfl⟩ := r1
  obtain ⟨u, rfl⟩ := r2
  obtain ⟨t3, rfl⟩ := r3
  exact call_range_3 (neB0 h2) (range_new S k) (.inl (noPy h1))
end
end Mine
end
section
open PySem PySem.Spec PySem.Calls PyProof.Rows PySem.W
namespace Mine
set_option Elab.async false
set_option linter.unusedVariables false
set_option maxRecDepth 100000

section
variable {X : Cx} {A : Around} {E : Value → Shared → Prop} {s : Shared} {ad ad' : List Addr} {W : List Addr} {H H' : Hp} {v w : Value} {x y av : AV} {I : Addr} {h h' : Heap}

def SrcR (ad : List Addr) (h : Heap) (I : Addr) : Src → Prop
  | .lst k i => ∃ a, nth ad k = some a ∧ h.IsListIter I a i
  | .rev k n => ∃ a, nth ad k = some a ∧ h.IsRevIter I a ((n : Int) - 1)
  | .rng a n c => IsRangeIter h I a n c

theorem SrcR.obj {r : Src} (R : SrcR ad h I r) : ∃ o vs, h.get? I = some o ∧ o.data = .fields vs ∧ NC o := by
  cases r with
  | lst k i =>
    obtain ⟨a, _, o, e, hc, hd⟩ := R
    exact ⟨o, _, e, hd, .inr (.inr ⟨_, hd, fun x t => by simp, by rw [hc]; decide, by rw [hc]; nofun⟩)⟩
  | rev k n =>
    obtain ⟨a, _, o, e, hc, hd⟩ := R
    exact ⟨o, _, e, hd, .inr (.inr ⟨_, hd, fun x t => by simp [rawInt], by rw [hc]; decide, by rw [hc]; nofun⟩)⟩
  | rng a n c =>
    exact ⟨_, _, R, rfl, .inr (.inr ⟨_, rfl, fun x t => by simp [rawInt], (by show Value.type "range_iterator" ≠ Value.type "range"; decide), by nofun⟩)⟩
theorem SrcR.keep {r : Src} (S : SI X ad H h) (x : Ext W ad h ad' h') (hI : I ∉ W) (R : SrcR ad h I r) : SrcR ad' h' I r := by
  obtain ⟨o, vs, e, hd, nc⟩ := R.obj
  have k : ∀ o', h.get? I = some o' → h'.get? I = some o' := fun o' e' => by
    rw [e] at e'; cases e'
    refine x.keep I o e (not_list S e fun vs n z => by rw [hd] at z; cases z) ?_ hI
    refine not_tab fun z => ?_
    rcases nc with ⟨_, _, q⟩ | ⟨_, q⟩ | ⟨_, _, _, _, q⟩
    · rw [hd] at q; cases q
    · rw [hd] at q; cases q
    · exact q z
  cases r with
  | lst k' i => obtain ⟨a, e, o, e1, r⟩ := R; exact ⟨a, x.nth e, o, k _ e1, r⟩
  | rev k' n => obtain ⟨a, e, o, e1, r⟩ := R; exact ⟨a, x.nth e, o, k _ e1, r⟩
  | rng a n c => exact k _ R

theorem next_ok {r : Src} {o : Option (AV × Src)} {Q : Option Value → Shared → Prop} (S : SI X ad H s.heap) (hh : A.handled = none) (R : SrcR ad s.heap I r) (e : nextOf r H = some o)
    (kI : ∀ z r', o = some (z, r') → ∀ v h' tk, VR ad s.heap v z → SrcR ad h' I r' → Heap.SameBut I s.heap h' → Q (some v) { s with heap := h', toks := tk })
    (kN : o = none → ∀ h', Heap.ExtBut I s.heap h' → Q none { s with heap := h' }) : wpAny (model X.prog X.w) A (pyNext (.ref I)) Q E s := by
  cases r with
  | lst k i =>
    obtain ⟨a, ea, hit⟩ := R
    obtain ⟨xs, e1, e⟩ := map_eq' e
    obtain ⟨a', vs, n, eq, ea', ha, pa⟩ := list_at (v := .ref a) S ⟨a, ea, rfl⟩ e1
    cases eq
    have hl := isList_of ha
    cases q : nth xs i with
    | none =>
      rw [q] at e
      have hx : vs.toArray[i]? = none := by
        rw [nth_eq] at q
        have := pd_len pa
        simp at q ⊢
        omega
      exact wpAny_pyNext_list_end hh hit hl hx fun h' he => kN e.symm h' he
    | some z =>
      rw [q] at e
      obtain ⟨v, ev, rv⟩ := pd_nth pa q
      exact wpAny_pyNext_list_item hit hl (arr_nth ev) fun h' hit' hs => kI z _ e.symm v h' s.toks rv ⟨a, ea, hit'⟩ hs
  | rev k n =>
    obtain ⟨a, ea, hit⟩ := R
    obtain ⟨xs, e1, e⟩ := bind_eq e
    obtain ⟨a', vs, m, eq, ea', ha, pa⟩ := list_at (v := .ref a) S ⟨a, ea, rfl⟩ e1
    cases eq
    have hl := isList_of ha
    cases n with
    | zero =>
      cases e
      have : ((0 : Nat) : Int) - 1 = -1 := rfl
      rw [this] at hit
      exact wpAny_pyNext_rev_end hh hit fun h' he => kN rfl h' he
    | succ n =>
      obtain ⟨z, q, e⟩ := map_eq' e
      obtain ⟨v, ev, rv⟩ := pd_nth pa q
      have : ((n + 1 : Nat) : Int) - 1 = (n : Int) := by omega
      rw [this] at hit
      exact wpAny_pyNext_rev_item hit hl (arr_nth ev) fun h' hit' hs => kI z _ e.symm v h' s.toks rv ⟨a, ea, hit'⟩ hs
  | rng a n c =>
    cases n with
    | zero =>
      cases e
      exact wpAny_pyNext_range_end hh R (by simp) fun h' he => kN rfl h' he
    | succ n =>
      cases e
      refine wpAny_pyNext_range_item R (by omega) fun h' hit' hs => kI _ _ rfl _ h' _ ⟨_, rfl⟩ ?_ hs
      have : ((n + 1 : Nat) : Int) - 1 = (n : Int) := by omega
      rw [this] at hit'
      exact hit'

theorem self_ok {r : Src} {Q : Value → Shared → Prop} (R : SrcR ad s.heap I r) (k : Q (.ref I) s) : wpAny (model X.prog X.w) A (pyIter (.ref I)) Q E s := by
  cases r with
  | lst => obtain ⟨a, _, hit⟩ := R; exact wpAny_pyIter_listiter hit k
  | rev => obtain ⟨a, _, hit⟩ := R; exact wpAny_pyIter_revIter hit k
  | rng => exact wpAny_pyIter_rangeiter R k

theorem turns_ok {a b c : Int} {n : Nat} (e : turns a b c = some n) : Builtin.Range.small a b c = true ∧ Builtin.Range.rangeSize a b c = (n : Int) := by
  obtain ⟨h1, e⟩ := guard_eq e
  obtain ⟨h2, e⟩ := guard_eq e
  have b1 := sm_bd h1
  have b2 := sm_bd h2
  have fin : ∀ c : Int, (c = 1 ∨ c = -1) → ∀ n : Nat, Builtin.Range.rangeSize a b c = (n : Int) → (n : Int) ≤ 2000000 → Builtin.Range.small a b c = true := by
    intro c hc n hn hb
    unfold Builtin.Range.small Builtin.Range.rangeFitsLong
    rw [hn]
    rcases hc with rfl | rfl
    · simp
      omega
    · simp
      omega
  split at e
  · rename_i c'
    have hs : Builtin.Range.rangeSize a b 1 = if a < b then b - a else 0 := by
      unfold Builtin.Range.rangeSize
      rw [if_pos (by decide)]
      split
      · rw [Int.ediv_one]; omega
      · rfl
    have hq : Builtin.Range.rangeSize a b 1 = (n : Int) ∧ (n : Int) ≤ 2000000 := by
      rw [hs]
      split at e
      · rename_i m q
        cases e
        have : b - a = (n : Int) := q
        split <;> constructor <;> omega
      · rename_i m q
        cases e
        have : b - a = Int.negSucc m := q
        rw [if_neg (by omega)]
        constructor <;> decide
    exact ⟨fin 1 (.inl rfl) n hq.1 hq.2, hq.1⟩
  · rename_i c'
    have hs : Builtin.Range.rangeSize a b (-1) = if a > b then a - b else 0 := by
      unfold Builtin.Range.rangeSize
      rw [if_neg (by decide)]
      split
      · show (a - b - 1) / 1 + 1 = _
        rw [Int.ediv_one]; omega
      · rfl
    have hq : Builtin.Range.rangeSize a b (-1) = (n : Int) ∧ (n : Int) ≤ 2000000 := by
      rw [hs]
      split at e
      · rename_i m q
        cases e
        have : a - b = (n : Int) := q
        split <;> constructor <;> omega
      · rename_i m q
        cases e
        have : a - b = Int.negSucc m := q
        rw [if_neg (by omega)]
        constructor <;> decide
    exact ⟨fin (-1) (.inr rfl) n hq.1 hq.2, hq.1⟩
  · cases e

theorem iter_ok {r : Src} {Q : Value → Shared → Prop} (S : SI X ad H s.heap) (rv : VR ad s.heap v x) (e : iterOf x = some r)
    (k : ∀ I h', s.heap.get? I = none → (∀ b o, s.heap.get? b = some o → h'.get? b = some o) → SrcR ad h' I r → Q (.ref I) { s with heap := h' }) : wpAny (model X.prog X.w) A (pyIter v) Q E s := by
  cases x with
  | lst i =>
    cases e
    obtain ⟨a, ea, rfl⟩ := rv
    obtain ⟨vs, n, ha⟩ := S.at (nth_mem ea)
    refine wpAny_pyIter_list (isList_of ha) (k _ _ (fresh_none _) (fun _ _ e => Heap.get?_push_of_some _ e) ⟨a, ea, ⟨_, Heap.get?_push_size _ rfl, rfl, rfl⟩⟩)
  | rng a b c =>
    obtain ⟨n, e1, e⟩ := map_eq' e
    cases e
    obtain ⟨p, t, u, z, rfl, hr⟩ := rv
    obtain ⟨h1, h2⟩ := turns_ok e1
    refine wpAny_pyIter_range hr h1 (k _ _ (fresh_none _) (fun _ _ e => Heap.get?_push_of_some _ e) ?_)
    rw [h2]
    exact Heap.get?_push_size _ rfl
  | _ => cases e
theorem rev_ok {i : Nat} {xs : List AV} {Q : Value → Shared → Prop} (S : SI X ad H s.heap) (rv : VR ad s.heap v (.lst i)) (e : hAt H i = some xs)
    (k : ∀ I h', s.heap.get? I = none → (∀ b o, s.heap.get? b = some o → h'.get? b = some o) → SrcR ad h' I (.rev i xs.length) → Q (.ref I) { s with heap := h' }) : wpAny (model X.prog X.w) A (call (.type "reversed") [v]) Q E s := by
  obtain ⟨a, vs, n, rfl, ea, ha, pa⟩ := list_at S rv e
  refine call_reversed_list (isList_of ha) (k _ _ (fresh_none _) (fun _ _ e => Heap.get?_push_of_some _ e) ⟨a, ea, ⟨_, Heap.get?_push_size _ rfl, rfl, ?_⟩⟩)
  show Data.fields #[.ref a, rawInt ((vs.toArray.size : Int) - 1)] = _
  rw [List.size_toArray, pd_len pa]
end
end Mine
end
section
open PySem PySem.Spec PySem.Calls PyProof.Rows PySem.W
namespace Mine
set_option Elab.async false
set_option linter.unusedVariables false
set_option maxRecDepth 100000

theorem put_eq {α : Type} : ∀ (l : List α) (i : Nat) (x : α), put l i x = l.set i x
  | [], _, _ => rfl
  | _ :: _, 0, _ => rfl
  | a :: l, i + 1, x => congrArg (a :: ·) (put_eq l i x)
theorem ins_eq {α : Type} : ∀ (l : List α) (i : Nat) (x : α), i ≤ l.length → ins l i x = l.take i ++ x :: l.drop i
  | l, 0, x, _ => by cases l <;> rfl
  | [], i + 1, x, h => absurd h (Nat.not_succ_le_zero _)
  | a :: l, i + 1, x, h => congrArg (a :: ·) (ins_eq l i x (Nat.le_of_succ_le_succ h))

theorem h999 : 999 ≤ sizeLine := by decide
section
variable {X : Cx} {A : Around} {E : Value → Shared → Prop} {s : Shared} {ad : List Addr} {H H' : Hp} {v w : Value} {x y av : AV} {Q : Value → Shared → Prop}

theorem upd_ok {a : Addr} {k n : Nat} {vs ws : List Value} {its : List AV} {f : Array Value → Array Value} (S : SI X ad H s.heap) (ka : nth ad k = some a) (ha : s.heap.get? a = some (Lst vs n)) (hf : f vs.toArray = ws.toArray) (p : Paired (VR ad s.heap) ws its) :
    SI X ad (hPut H k its) (s.heap.update a (Obj.mapSeq f)) ∧ Ext [] ad s.heap ad (s.heap.update a (Obj.mapSeq f)) := by
  have e := PySem.IsL.update (items := vs.toArray) (n := n) ha f
  rw [hf] at e
  exact ⟨S.upd ka (Heap.SameBut.update ..) e p, Ext.upd (nth_mem ka) (Heap.SameBut.update ..) e⟩

theorem mutL_eq {f : List AV → Option (List AV)} (e : mutL x H f = some H') : ∃ k xs ys, x = .lst k ∧ hAt H k = some xs ∧ xs.length < 999 ∧ f xs = some ys ∧ H' = hPut H k ys := by
  cases x with
  | lst k =>
    obtain ⟨xs, e1, e⟩ := bind_eq e
    obtain ⟨h1, e⟩ := guard_eq e
    obtain ⟨ys, e2, e⟩ := bind_eq e
    cases e
    exact ⟨k, xs, ys, rfl, e1, blt_lt h1, e2, rfl⟩
  | _ => cases e

theorem append_ok (S : SI X ad H s.heap) (r1 : VR ad s.heap v x) (r2 : VR ad s.heap w y) (e : mutL x H (fun xs => some (xs ++ [y])) = some H')
    (k : ∀ h', SI X ad H' h' → Ext [] ad s.heap ad h' → Q .none { s with heap := h' }) : wpAny (model X.prog X.w) A (call (.builtin "list.append") [v, w]) Q E s := by
  obtain ⟨i, xs, ys, rfl, e1, hl, e2, rfl⟩ := mutL_eq e
  cases e2
  obtain ⟨a, vs, n, rfl, ea, ha, pa⟩ := list_at S r1 e1
  have l := pd_len pa
  obtain ⟨h1, h2⟩ := upd_ok (f := fun xs => xs.push w) (ws := vs ++ [w]) S ea ha (by simp) (pd_app pa (.cons r2 .nil))
  exact call_meets PySem.F.slot_list_append ⟨_, ha, rfl⟩ PySem.F.entry_list_append (PySem.F.args_list_append_2 _ _) (PySem.list_append a vs.toArray n w (by simp [sizeLine]; omega)) ⟨ha, k _ h1 h2⟩
theorem reverse_ok (S : SI X ad H s.heap) (r1 : VR ad s.heap v x) (e : mutL x H (fun xs => some xs.reverse) = some H')
    (k : ∀ h', SI X ad H' h' → Ext [] ad s.heap ad h' → Q .none { s with heap := h' }) : wpAny (model X.prog X.w) A (call (.builtin "list.reverse") [v]) Q E s := by
  obtain ⟨i, xs, ys, rfl, e1, hl, e2, rfl⟩ := mutL_eq e
  cases e2
  obtain ⟨a, vs, n, rfl, ea, ha, pa⟩ := list_at S r1 e1
  have l := pd_len pa
  obtain ⟨h1, h2⟩ := upd_ok (f := fun xs => xs.reverse) (ws := vs.reverse) S ea ha (by simp) (pd_rev pa)
  exact call_meets PySem.F.slot_list_reverse ⟨_, ha, rfl⟩ PySem.F.entry_list_reverse (PySem.F.args_list_reverse_1 _) (PySem.AutoSeq1.list_reverse_list_0 a vs.toArray n (by simp [sizeLine]; omega)) ⟨ha, k _ h1 h2⟩
theorem insert_raw {prog : Program} {W : World} {l : Addr} {its : Array Value} {n : Nat} {x : Int} {u : Tok} {y : Value} {Q : Value → Shared → Prop} (hl : s.heap.get? l = some { cls := .type "list", dict := none, data := .seq its n, slots := #[] })
    (hf : Builtin.List.listFitsIndex x = true) (hz : its.size ≤ sizeLine)
    (h : Q .none { s with heap := s.heap.update l (Obj.mapSeq fun xs => have k := if x < 0 then (x + (xs.size : Int)).toNat else min x.toNat xs.size; (xs.extract 0 k).push y ++ xs.extract k) }) :
    wpAny (model prog W) A (call (.builtin "list.insert") [.ref l, .int x u, y]) Q E s :=
  call_meets PySem.F.slot_list_insert ⟨_, hl, rfl⟩ PySem.F.entry_list_insert (PySem.F.args_list_insert_3 _ _ _) (PySem.AutoSeq1.list_insert_list_int_val_1 l its n x u y (by simp [hf]) hz) ⟨hl, h⟩
theorem insert_ok {m : Nat} {u : Value} (S : SI X ad H s.heap) (r1 : VR ad s.heap v x) (ru : VR ad s.heap u (.int (.ofNat m))) (r2 : VR ad s.heap w y) (e : mutL x H (fun xs => guard (Nat.ble m xs.length) (some (ins xs m y))) = some H')
    (k : ∀ h', SI X ad H' h' → Ext [] ad s.heap ad h' → Q .none { s with heap := h' }) : wpAny (model X.prog X.w) A (call (.builtin "list.insert") [v, u, w]) Q E s := by
  obtain ⟨i, xs, ys, rfl, e1, hl, e2, rfl⟩ := mutL_eq e
  obtain ⟨hm, e2⟩ := guard_eq e2
  cases e2
  obtain ⟨a, vs, n, rfl, ea, ha, pa⟩ := list_at S r1 e1
  obtain ⟨t, rfl⟩ := ru
  have l := pd_len pa
  have hm := ble_le hm
  have hi : (Int.ofNat m) = (m : Int) := rfl
  generalize hj : Int.ofNat m = j at *
  have hfit : Builtin.List.listFitsIndex j = true := fitsIndex_of (by omega) (by omega)
  have hk : (if j < 0 then (j + (vs.toArray.size : Int)).toNat else min j.toNat vs.toArray.size) = m := by
    rw [if_neg (by omega), List.size_toArray]; omega
  obtain ⟨h1, h2⟩ := upd_ok (f := fun xs => have k := if j < 0 then (j + (xs.size : Int)).toNat else min j.toNat xs.size; (xs.extract 0 k).push w ++ xs.extract k) (ws := ins vs m w) S ea ha
    (by
      show ((vs.toArray.extract 0 (if j < 0 then (j + (vs.toArray.size : Int)).toNat else min j.toNat vs.toArray.size)).push w ++ vs.toArray.extract (if j < 0 then (j + (vs.toArray.size : Int)).toNat else min j.toNat vs.toArray.size)) = _
      rw [hk, kl_ins_eq, ins_eq _ _ _ (by omega)]) (pd_ins pa r2)
  have hz : vs.toArray.size ≤ sizeLine := Nat.le_trans (Nat.le_of_lt (by rw [List.size_toArray]; omega)) h999
  exact insert_raw ha hfit hz (k _ h1 h2)
theorem setI_ok {m : Nat} {u : Value} {Q : Unit → Shared → Prop} (S : SI X ad H s.heap) (r1 : VR ad s.heap v x) (ru : VR ad s.heap u (.int (.ofNat m))) (r2 : VR ad s.heap w y) (e : mutL x H (fun xs => guard (Nat.blt m xs.length) (some (put xs m y))) = some H')
    (k : ∀ h', SI X ad H' h' → Ext [] ad s.heap ad h' → Q () { s with heap := h' }) : wpAny (model X.prog X.w) A (setItem v u w) Q E s := by
  obtain ⟨i, xs, ys, rfl, e1, hl, e2, rfl⟩ := mutL_eq e
  obtain ⟨hm, e2⟩ := guard_eq e2
  cases e2
  obtain ⟨a, vs, n, rfl, ea, ha, pa⟩ := list_at S r1 e1
  obtain ⟨t, rfl⟩ := ru
  have l := pd_len pa
  have hm := blt_lt hm
  have hi : (Int.ofNat m) = (m : Int) := rfl
  obtain ⟨h1, h2⟩ := upd_ok (f := fun xs => xs.setIfInBounds (Int.ofNat m).toNat w) (ws := put vs m w) S ea ha (by rw [put_eq]; simp) (pd_put pa r2)
  exact ki_setAt (n := n) ha (by omega) (by omega) (by rw [List.size_toArray]; omega) (k _ h1 h2)
end
end Mine
end
section
open PySem PySem.Spec PySem.Calls PyProof.Rows PySem.W
namespace Mine
set_option Elab.async false
set_option linter.unusedVariables false
set_option maxRecDepth 100000

theorem low_ne {h : Heap} {m : Str → Option Value} (g : h.Ns mainGlobals m) : (h.objs.size == sysModules) = false := by
  obtain ⟨o, es, ep, e, _⟩ := g
  have := Heap.lt_size e
  rw [beq_eq_false_iff_ne]
  intro q
  rw [q] at this
  exact absurd this (by decide)
theorem miss_keys : typeLookup (.type "list") "keys" = pure none := am_miss_of_fast (by decide +kernel)
theorem entry_loop : entryFor table "dict.update.loop" = some Builtin.«dict.update.loop» := entryFor_of_tree (by kernel_rfl)
theorem plain_loop : plainId "dict.update.loop" = true := by decide +kernel

section
variable {prog : Program} {w : World} {A : Around} {E : Value → Shared → Prop} {s : Shared}
theorem by_miss {a : Addr} {vs : List Value} {n : Nat} {u : Tok} {Q : Value → Shared → Prop} (hx : s.heap.get? a = some (Lst vs n)) (hA : A.handled = none)
    (h : ∀ h' tk e, Heap.NewExcOf s.heap h' e "AttributeError" → E (.ref e) { s with heap := h', toks := tk }) : wpAny (model prog w) A (getAttrBy (.ref a) (.str "keys" u) false) Q E s := by
  obtain ⟨hp, g, d, tk, os⟩ := s
  have hT : ∀ tk', (⟨hp, g, d, tk', os⟩ : Shared).TypeIs (.ref a) "list" := fun _ => ⟨_, hx, rfl⟩
  have f1 := sub_AttributeError
  have f3 := F.slot_list_getattribute.lookup
  have f4 := F.slot_list_getattribute.bind (.ref a)
  have f5 := am_list_getattr_none
  unfold getAttrBy
  repeat (any_goals (first | assumption | exact hT _ | ((with_reducible show wpAny _ _ (call (Value.builtin "list.__getattribute__") _ _) _ _ _); refine call_meets F.slot_list_getattribute (hT _) am_entry_list_getattribute (F.args_list_getattribute_2 _ _) (meets_getattribute_miss_list a vs.toArray n #[] "keys" _ miss_keys (by decide) (by decide)) ⟨hx, hA, fun h' tk' e hx' => ?_⟩) | wp_step))
  obtain ⟨t', u', he⟩ := hx'.there
  show wpAny _ _ (getattributeRaised _ _ _ _ _ _ _) _ _ _
  unfold getattributeRaised
  repeat (any_goals (first | assumption | wp_step))
  exact h _ _ _ hx'.of
theorem keys_none {a : Addr} {vs : List Value} {n : Nat} {Q : Option Value → Shared → Prop} (hx : s.heap.get? a = some (Lst vs n)) (hA : A.handled = none)
    (h : ∀ h' tk, (∀ b o, s.heap.get? b = some o → h'.get? b = some o) → Q none { s with heap := h', toks := tk }) : wpAny (model prog w) A (getAttr? (.ref a) "keys") Q E s := by
  unfold getAttr? getAttrBy?
  refine wpAny_bind (wpAny_mkText (wpAny_bind (wpAny_attempt (by_miss (s := { s with toks := s.toks + 1 }) hx hA fun h' tk e x => ?_))))
  obtain ⟨ob, fs, e1, e2, e3, _⟩ := x.there
  refine wpAny_bind (wpAny_isInstance (T := "AttributeError") ⟨ob, e1, e2⟩ sub_AttributeError ?_)
  exact wpAny_pure (h h' tk x.keeps)
theorem keys_stored {kvs : List (Int × Value)} {ks : List Int} (hk : kvs.map (·.1) = ks) (a : Int) (v : Value) : (stored kvs a v).map (·.1) = (if ks.any (eqB a) then ks else ks ++ [a]) := by
  subst hk
  have e : (kvs.map (·.1)).any (eqB a) = kvs.any (fun kv => kv.1 = a) := by
    rw [List.any_map]
    congr 1
    funext kv
    show eqB a kv.1 = _
    rw [eqB_eq]
    by_cases q : kv.1 = a
    · simp [q]
    · have : a ≠ kv.1 := fun z => q z.symm
      simp [q, this]
  unfold stored
  rw [e]
  split
  · exact keys_map_store kvs a v
  · rw [List.map_append]; rfl
theorem stored_len {kvs : List (Int × Value)} {ks : List Int} (hk : kvs.map (·.1) = ks) : kvs.length = ks.length := by rw [← hk, List.length_map]
end

section
variable {X : Cx} {A : Around} {s : Shared} {ad : List Addr} {H : Hp}
theorem pairItems_tup {prog : Program} {w : World} {A : Around} {E : Value → Shared → Prop} {s : Shared} {p : Addr} {vs : Array Value} {n : Nat} {Q : List Value → Shared → Prop} (e : s.heap.get? p = some { cls := .type "tuple", dict := none, data := .seq vs n, slots := #[] })
    (h : Q vs.toList s) : wpAny (model prog w) A (Builtin.Dict.pairItems (.ref p)) Q E s := by
  unfold Builtin.Dict.pairItems
  refine wpAny_bind (wpAny_typeOf (T := "tuple") ⟨_, e, rfl⟩ ?_)
  rw [if_pos (by decide)]
  refine wpAny_bind ?_
  unfold seqItems?
  refine wpAny_bind (wpAny_load e ?_)
  exact wpAny_pure (wpAny_pure h)
theorem loop_ok {R : Result → Shared → Prop} {h : Heap} {a D I : Addr} {vs : List Value} {n : Nat} (hh : A.handled = none) (ha : h.get? a = some (Lst vs n)) (hD : h.get? D = none) (hI : h.get? I = none) (hne : I ≠ D) :
    ∀ (rest : List AV) (i : Nat) (j : Int) (ks ks' : List Int) (kvs : List (Int × Value)) (s : Shared), (∀ b o, h.get? b = some o → s.heap.get? b = some o) → i + rest.length = vs.length → (∀ m x, nth rest m = some x → ∃ v, nth vs (i + m) = some v ∧ VR ad h v x) →
      s.heap.IsListIter I a i → s.heap.DictOf (intKind X.prog X.w) D kvs → kvs.map (·.1) = ks → keysOf rest ks = some ks' → ks.length + rest.length ≤ sizeLine →
      (∀ h' tk kvs', (∀ b o, h.get? b = some o → h'.get? b = some o) → h'.DictOf (intKind X.prog X.w) D kvs' → kvs'.map (·.1) = ks' → R (.ok (.ret .none)) { s with heap := h', toks := tk }) →
      codeAny (model X.prog X.w) A (.builtin "dict.update.loop" ⟨[.ref D, .ref I, rawInt j, .none], []⟩) R s := by
  intro rest
  induction rest with
  | nil =>
    intro i j ks ks' kvs s g hl hn hit hd hk he hz k
    cases he
    refine codeAny_builtin entry_loop ?_
    rw [Around.under_plainId plain_loop _]
    unfold Builtin.«dict.update.loop»
    have hl : i = vs.length := by simpa using hl
    have hx : vs.toArray[i]? = none := by simp [hl]
    refine wpAny_bind (wpAny_pyNext_list_end hh hit (isList_of (g _ _ ha)) hx fun h' hs => ?_)
    refine wpAny_bind (wpAny_pure ?_)
    exact wpAny_pure (k h' s.toks kvs (fun b o e => hs b o (fun q => by rw [q, hI] at e; cases e) (g b o e)) (hd.extBut hs (Ne.symm hne)) hk)
  | cons x rest ih =>
    intro i j ks ks' kvs s g hl hn hit hd hk he hz k
    refine codeAny_builtin entry_loop ?_
    rw [Around.under_plainId plain_loop _]
    unfold Builtin.«dict.update.loop»
    obtain ⟨v, ev, rv⟩ := hn 0 x rfl
    cases x with
    | pair p q =>
      obtain ⟨r, t, u, z, rfl, er⟩ := rv
      refine wpAny_bind (wpAny_pyNext_list_item hit (isList_of (g _ _ ha)) (arr_nth ev) fun h' hit' hs => ?_)
      have g' : ∀ b o, h.get? b = some o → h'.get? b = some o := fun b o e => hs.extBut b o (fun q => by rw [q, hI] at e; cases e) (g b o e)
      refine wpAny_bind (wpAny_holding ?_)
      refine wpAny_bind (wpAny_tryCatch (pairItems_tup (g' _ _ er) ?_))
      have hzl : kvs.length ≤ sizeLine := by rw [stored_len hk]; simp at hz; omega
      refine wpAny_holding (wpAny_dictSet_pairs (k := p) (hkey := by show Value.isInt p (.int p t) = true; simp [Value.isInt]) (hd.sameBut hs (Ne.symm hne)) (fun h'' hd'' hs'' => ?_) hzl)
      refine wpAny_pure ⟨plainId_quiet plain_loop _, ?_⟩
      refine ih (i + 1) (j + 1) _ ks' _ _ (fun b o e => hs''.extBut b o (fun q => by rw [q, hD] at e; cases e) (g' b o e)) (by simp at hl ⊢; omega) (fun m y hy => ?_) ?_ hd'' (keys_stored hk p _) he ?_ (fun h3 tk kvs' a1 a2 a3 => k h3 tk kvs' a1 a2 a3)
      · obtain ⟨v, e1, e2⟩ := hn (m + 1) y hy
        exact ⟨v, by rw [← e1]; congr 1; omega, e2⟩
      · obtain ⟨o, e1, e2⟩ := hit'
        exact ⟨o, (hs''.2 I hne).trans e1, e2⟩
      · simp at hz
        split
        · omega
        · simp; omega
    | _ => cases he
end
end Mine
end
section
open PySem PySem.Spec PySem.Calls PyProof.Rows PySem.W
namespace Mine
set_option Elab.async false
set_option linter.unusedVariables false
set_option maxRecDepth 100000
section
variable {X : Cx} {A : Around} {E : Value → Shared → Prop} {s : Shared} {ad : List Addr} {H : Hp} {v : Value} {x av : AV} {Q : Value → Shared → Prop}
theorem keys_len : ∀ {l : List AV} {ks ks' : List Int}, keysOf l ks = some ks' → ks'.length ≤ ks.length + l.length
  | [], _, _, h => by cases h; simp
  | .pair a b :: l, ks, ks', h => by
    have := keys_len (l := l) h
    split at this <;> simp at this ⊢ <;> omega
  | .none :: _, _, _, h => by cases h
  | .bool _ :: _, _, _, h => by cases h
  | .int _ :: _, _, _, h => by cases h
  | .lst _ :: _, _, _, h => by cases h
  | .rng .. :: _, _, _, h => by cases h
theorem lenDict_ok (B : BOK X) (S : SI X ad H s.heap) (hh : A.handled = none) (r1 : VR ad s.heap v x) (e : dictV x H = some av) (k : Kont X ad s H av Q) :
    wpAny (model X.prog X.w) A (call (.type "dict") [v]) (fun d s' => wpAny (model X.prog X.w) A (call (.builtin "len") [d]) Q E s') E s := by
  cases x with
  | lst i =>
    obtain ⟨xs, e1, e⟩ := bind_eq e
    obtain ⟨h1, e⟩ := guard_eq e
    obtain ⟨ks, e2, e⟩ := map_eq' e
    cases e
    obtain ⟨a, vs, n, rfl, _, ha, pa⟩ := list_at S r1 e1
    have h1 := blt_lt h1
    have l := pd_len pa
    have hkl := keys_len e2
    have hg : s.heap.Ns mainGlobals X.mg := B.g.keeps S.base
    refine callType_codes (Q₁ := fun obj s₁ => obj = .ref s.heap.objs.size ∧ s₁ = { s with heap := s.heap.push { cls := .type "dict", data := .dict #[] } }) F.kt_called_dict (F.kt_typeCall_dict_1 _) F.entry_dict_init (kt_code_dict_new _ ⟨rfl, rfl⟩) ?_
    rintro obj s₁ ⟨rfl, rfl⟩
    have hnew : (s.heap.push { cls := .type "dict", data := .dict #[] }).DictOf (intKind X.prog X.w) s.heap.objs.size [] := Heap.DictOf.new s.heap
    have ha1 : (s.heap.push { cls := .type "dict", data := .dict #[] }).get? a = some (Lst vs n) := Heap.get?_push_of_some _ ha
    refine ⟨hnew.typeIs, F.args_dict_init_2 _ _, ?_⟩
    unfold Builtin.«dict.__init__»
    refine wpAny_bind ?_
    unfold Builtin.Dict.selfAndRest
    refine wpAny_bind (wpAny_notOrdered_dict hnew.typeIs ?_)
    show wpAny _ _ (pure (s.heap.objs.size, [Value.ref a])) _ _ _
    refine wpAny_pure ?_
    show wpAny _ _ (Builtin.Dict.updateFrom "dict.__init__" s.heap.objs.size (.ref a) [] .none) _ _ _
    unfold Builtin.Dict.updateFrom
    refine wpAny_bind (wpAny_typeOf (T := "list") ⟨_, ha1, rfl⟩ ?_)
    rw [if_pos (by decide)]
    refine wpAny_bind (keys_none ha1 (by exact hh) fun h' tk g => ?_)
    show wpAny _ _ (rule _ >>= _) _ _ _
    refine wpAny_bind (wpAny_rule ?_)
    refine wpAny_bind (wpAny_pyIter_list (isList_of (g _ _ ha1)) ?_)
    obtain ⟨o, es, ep, ho, hr⟩ := id hnew
    have hD := g _ _ ho
    have hID : h'.objs.size ≠ s.heap.objs.size := fun q => by
      have := Heap.lt_size hD
      rw [q] at this
      exact absurd this (Nat.lt_irrefl _)
    have kp : ∀ b o, s.heap.get? b = some o → h'.get? b = some o := fun b o e => g _ _ (Heap.get?_push_of_some _ e)
    have hI : s.heap.get? h'.objs.size = none := by
      cases q : s.heap.get? h'.objs.size with
      | none => rfl
      | some o => exact absurd (Heap.lt_size (kp _ _ q)) (Nat.lt_irrefl _)
    refine wpAny_pure ⟨plainId_quiet plain_loop _, ?_⟩
    refine loop_ok (X := X) (h := s.heap) (ad := ad) (a := a) (vs := vs) (n := n) (by exact hh) ha (fresh_none _) hI hID xs 0 0 [] ks [] _ (fun b o e => Heap.get?_push_of_some _ (kp b o e)) (by omega) (fun m y hy => by
        obtain ⟨z, e1, e2⟩ := pd_nth pa hy
        exact ⟨z, by rw [Nat.zero_add]; exact e1, e2⟩) ⟨_, Heap.get?_push_size _ rfl, rfl, rfl⟩ ⟨o, es, ep, Heap.get?_push_of_some _ hD, hr⟩ rfl e2 (by have := h999; simp; omega) ?_
    intro h3 tk3 kvs a1 a2 a3
    refine ⟨rfl, ?_⟩
    have hl := stored_len a3
    have fin := Kont.grown (tk := tk3 + 1 + 1) S k a1 (v := .int (Int.ofNat ks.length) (tk3 + 1)) ⟨_, rfl⟩
    have hl' : (kvs.length : Int) = Int.ofNat ks.length := by rw [hl]; rfl
    refine call_len_dict (low_ne hg) a2 (by simp at hkl; omega) ?_
    rw [hl']
    exact fin
  | _ => cases e
end
end Mine
end
section
open PySem PySem.Spec PySem.Calls PyProof.Rows PySem.W
namespace Mine
set_option Elab.async false
set_option linter.unusedVariables false
set_option maxRecDepth 100000

/-- what the program's names stand for -/
structure Nms where
  fn : List Str
  gi : List (Str × Int)
  inn : List RFn

def relS (sc parent : Scope) : Scope :=
  { sc with names := sc.names.map fun (n, k) => if (k == .free && parent.kind == .function && parent.names.lookup n == some .cell) then (n, .cell) else (n, k) }
theorem rel_eq {sc parent : Scope} {env : Env} (h : env.scope = parent) : relabel sc env = relS sc parent := by subst h; rfl

structure CompLay (lay : Lay) (sc : Scope) (x : Str) (lay' : Lay) : Prop where
  kind : sc.kind = .function
  nocell : ∀ y ∈ sc.names, y.2 ≠ .cell
  names : ∀ y ∈ sc.names, y.2 = .local → sc.names.lookup y.1 = some .local
  xl : sc.names.lookup x = some .local
  sc' : lay'.scope = relS sc lay.scope
  loc : lay'.loc = [x]
  inn : lay'.inn = none
  dfn : lay'.dfn = none
  own : lay'.own = false
  free : ∀ y, (y, NameKind.free) ∈ sc.names → ∃ j, nth lay.cel j = some (some y)
  cel : ∀ j y, nth lay'.cel j = some (some y) → nth lay.cel j = some (some y) ∧ (y, NameKind.free) ∈ sc.names

def GlobN (lay : Lay) (x : Str) : Prop := lay.scope.names.lookup x = some .globalImplicit ∧ (x == ("__debug__" : Str)) = false
def CelN (lay : Lay) (j : Nat) (x : Str) : Prop := nth lay.cel j = some (some x) ∧ (lay.scope.names.lookup x = some .cell ∨ lay.scope.names.lookup x = some .free) ∧ (x == ("__debug__" : Str)) = false ∧ (x == ("__classdict__" : Str)) = false
def LocN (lay : Lay) (i : Nat) (x : Str) : Prop := nth lay.loc i = some x ∧ lay.scope.names.lookup x = some .local ∧ (x == ("__debug__" : Str)) = false

def MethOk (o : Expr) (name : Str) (apos pos : Pos) (args : List Expr) : Prop := ∃ pl : Env → Sem Bool, ∀ env, eval (.Call (.Attribute o name apos) args [] pos) env = (do
      let ov ← eval o env
      standAt apos.atName
      let (f, first) ← holding [ov] (getMethod ov name (pl env))
      callWith pos f first (backTo pos (starEach args env)) [])
mutual
inductive ME (N : Nms) : Lay → Expr → CE → Prop
  | int {lay i k p} : ME N lay (.Constant (.int i) k p) (.int i)
  | bool {lay b k p} : ME N lay (.Constant (.bool b) k p) (.bool b)
  | none {lay k p} : ME N lay (.Constant .none k p) .none
  | loc {lay i x p} : LocN lay i x → ME N lay (.Name x p) (.loc i)
  | cel {lay j x p} : CelN lay j x → ME N lay (.Name x p) (.cel j)
  | glob {lay i x p} : GlobN lay x → (x, i) ∈ N.gi → ME N lay (.Name x p) (.int i)
  | bin {lay o a b ca cb p} : ME N lay a ca → ME N lay b cb → ME N lay (.BinOp a (opOf o) b p) (.bin o ca cb)
  | cmp {lay o a b ca cb p} : ME N lay a ca → ME N lay b cb → ME N lay (.Compare a [cmOf o] [b] p) (.cmp o ca cb)
  | isNone {lay a ca k p' p} : ME N lay a ca → ME N lay (.Compare a [.Is] [.Constant .none k p'] p) (.isNone ca)
  | band {lay a b ca cb p} : ME N lay a ca → ME N lay b cb → ME N lay (.BoolOp .And [a, b] p) (.band ca cb)
  | bor {lay a b ca cb p} : ME N lay a ca → ME N lay b cb → ME N lay (.BoolOp .Or [a, b] p) (.bor ca cb)
  | ife {lay c a b cc ca cb p} : ME N lay c cc → ME N lay a ca → ME N lay b cb → ME N lay (.IfExp c a b p) (.ife cc ca cb)
  | list {lay es ces p} : MEs N lay es ces → ME N lay (.List es p) (.list ces)
  | pair {lay a b ca cb k p} : ME N lay a ca → ME N lay b cb → ME N lay (.Tuple [a, b] k p) (.pair ca cb)
  | idx {lay a i ca ci p} : (∀ a b, subscripted i false a b = operate [a, b] (getItem a b)) → ME N lay a ca → ME N lay i ci → ME N lay (.Subscript a i p) (.idx ca ci)
  | len {lay a ca p' p} : GlobN lay "len" → ME N lay a ca → ME N lay (.Call (.Name "len" p') [a] [] p) (.len ca)
  | range2 {lay a b ca cb p' p} : GlobN lay "range" → ME N lay a ca → ME N lay b cb → ME N lay (.Call (.Name "range" p') [a, b] [] p) (.range2 ca cb)
  | range3 {lay a b c ca cb cc p' p} : GlobN lay "range" → ME N lay a ca → ME N lay b cb → ME N lay c cc → ME N lay (.Call (.Name "range" p') [a, b, c] [] p) (.range3 ca cb cc)
  | sum {lay a ca p' p} : GlobN lay "sum" → ME N lay a ca → ME N lay (.Call (.Name "sum" p') [a] [] p) (.sum ca)
  | toInt {lay a ca p' p} : GlobN lay "int" → ME N lay a ca → ME N lay (.Call (.Name "int" p') [a] [] p) (.toInt ca)
  | lenDict {lay a ca p1 p2 p3 p} : GlobN lay "len" → GlobN lay "dict" → ME N lay a ca → ME N lay (.Call (.Name "len" p1) [.Call (.Name "dict" p2) [a] [] p3] [] p) (.lenDict ca)
  | divmod {lay a b ca cb p' p} : GlobN lay "divmod" → ME N lay a ca → ME N lay b cb → ME N lay (.Call (.Name "divmod" p') [a, b] [] p) (.divmod ca cb)
  | bitlen {lay x px ca p' p} : MethOk (.Name x px) "bit_length" p' p [] → ME N lay (.Name x px) ca → ME N lay (.Call (.Attribute (.Name x px) "bit_length" p') [] [] p) (.bitlen ca)
  | callG {lay f nm e es ces p' p} : nth N.fn f = some nm → GlobN lay nm → MEs N lay (e :: es) ces → ME N lay (.Call (.Name nm p') (e :: es) [] p) (.callG f ces)
  | callI {lay j nm e es ces p' p} : lay.inn = some j → (∀ rf ∈ N.inn, rf.lay.inn = some j) → CelN lay j nm → MEs N lay (e :: es) ces → ME N lay (.Call (.Name nm p') (e :: es) [] p) (.callI j ces)
  | comp {lay lay' elt x px it ifs sc p ce ci co} : CompLay lay sc x lay' → (∀ env v, foldedSetIterable it env v = pure v) → ME N lay it ci → ME N lay' elt ce → MO N lay' ifs co → ME N lay (.ListComp elt [⟨.Name x px, it, ifs, 0⟩] sc p) (.comp ce ci co)
inductive MEs (N : Nms) : Lay → List Expr → List CE → Prop
  | nil {lay} : MEs N lay [] []
  | cons {lay e c es cs} : ME N lay e c → MEs N lay es cs → MEs N lay (e :: es) (c :: cs)
inductive MO (N : Nms) : Lay → List Expr → Option CE → Prop
  | none {lay} : MO N lay [] .none
  | some {lay e c} : ME N lay e c → MO N lay [e] (some c)
end
section
variable {N : Nms} {lay : Lay} {e : Expr} {c : CE}
theorem ME.star (m : ME N lay e c) (rest : List Expr) (env : Env) : starEach (e :: rest) env = (false, eval e env) :: starEach rest env := by cases m <;> rfl
theorem MEs.plain {pos : Pos} {env : Env} : ∀ {es : List Expr} {cs : List CE}, MEs N lay es cs → (backTo pos (starEach es env)).any (·.1) = false
  | _, _, .nil => rfl
  | e :: es, _, .cons m ms => by
    rw [m.star]
    show (false || (backTo pos (starEach es env)).any (·.1)) = false
    rw [MEs.plain ms]; rfl
theorem ME.marks (m : ME N lay e c) (o : Cm) : behindInMarks (cmOf o) e = false := by cases m <;> rfl
theorem ME.folded (m : ME N lay e c) (env : Env) (v : Value) : foldedSetIterable e env v = pure v := by cases m <;> rfl
end

def TgN (lay : Lay) (t : Tg) (x : Str) : Prop := TgM lay t x
/-- the value is not a comprehension -/
def isComp : Expr → Bool
  | .ListComp .. => true
  | .SetComp .. => true
  | .DictComp .. => true
  | _ => false
theorem noSwap {e : Expr} (h : isComp e = false) (t : Option Expr) (l : Nat) (env : Env) : swapsWith e t l env = pure false := by
  cases e <;> first | rfl | cases h

structure DefLay (N : Nms) (lay : Lay) (name : Str) (params : Arguments) (body : List Stmt) (sc : Scope) (pos : Pos) (j q : Nat) : Prop where
  rf : ∃ rf, nth N.inn q = some rf ∧ rf.name = name ∧ rf.params = params ∧ rf.body = body ∧ rf.scope = sc ∧ rf.pos = pos ∧ ∀ j y, nth rf.lay.cel j = some (some y) → nth lay.cel j = some (some y) ∧ (y, NameKind.free) ∈ sc.names
  d0 : params.defaults = []
  k0 : params.kw_defaults = []
  a0 : ∀ env, annTrees params none env = []
  inn : lay.inn = some j
  cel : nth lay.cel j = some (some name)
  kind : lay.scope.names.lookup name = some .cell
  own : lay.own = true
  dfn : lay.dfn = some q
  free : ∀ y, (y, NameKind.free) ∈ sc.names → ∃ j, nth lay.cel j = some (some y)

mutual
inductive MS (N : Nms) : Lay → Stmt → CS → Prop
  | set {lay t x e c p' p} : TgM lay t x → isComp e = false → ME N lay e c → MS N lay (.Assign [.Name x p'] e p) (.set t c)
  | setComp {lay lay' i y p' elt x px it ifs sc pc p ce ci co} : TgM lay (.loc i) y → CompLay lay sc x lay' → (∀ env : Env, env.scope = lay.scope → swapsWith (.ListComp elt [⟨.Name x px, it, ifs, 0⟩] sc pc) (some (.Name y p')) p.line env = pure true) →
      (∀ env v, foldedSetIterable it env v = pure v) → ME N lay it ci → ME N lay' elt ce → MO N lay' ifs co → MS N lay (.Assign [.Name y p'] (.ListComp elt [⟨.Name x px, it, ifs, 0⟩] sc pc) p) (.setComp i ce ci co)
  | set2 {lay i j x y e c p1 p2 k p3 p} : TgM lay (.loc i) x → TgM lay (.loc j) y → (∀ env, swappedStores [.Tuple [.Name x p1, .Name y p2] k p3] e env = pure none) → (∀ env, swapsWithSole [.Tuple [.Name x p1, .Name y p2] k p3] e p.line env = pure false) → ME N lay e c →
      MS N lay (.Assign [.Tuple [.Name x p1, .Name y p2] k p3] e p) (.set2 i j c)
  | setT {lay i j x y a b ca cb p1 p2 k p3 k' p4 p} : TgM lay (.loc i) x → TgM lay (.loc j) y → (∀ env : Env, env.scope = lay.scope → swappedStores [.Tuple [.Name x p1, .Name y p2] k p3] (.Tuple [a, b] k' p4) env = pure (some [x, y])) →
      ME N lay a ca → ME N lay b cb → MS N lay (.Assign [.Tuple [.Name x p1, .Name y p2] k p3] (.Tuple [a, b] k' p4) p) (.setT i j ca cb)
  | setI {lay a i v ca ci cv p' p} : isComp v = false → ME N lay a ca → ME N lay i ci → ME N lay v cv → MS N lay (.Assign [.Subscript a i p'] v p) (.setI ca ci cv)
  | expr {lay e c p} : isComp e = false → ME N lay e c → MS N lay (.Expr e p) (.expr c)
  | append {lay x px v ca cv p1 p2 p} : MethOk (.Name x px) "append" p1 p2 [v] → ME N lay (.Name x px) ca → ME N lay v cv → MS N lay (.Expr (.Call (.Attribute (.Name x px) "append" p1) [v] [] p2) p) (.append ca cv)
  | insert {lay x px i v ca ci cv p1 p2 p} : MethOk (.Name x px) "insert" p1 p2 [i, v] → ME N lay (.Name x px) ca → ME N lay i ci → ME N lay v cv → MS N lay (.Expr (.Call (.Attribute (.Name x px) "insert" p1) [i, v] [] p2) p) (.insert ca ci cv)
  | reverse {lay x px ca p1 p2 p} : MethOk (.Name x px) "reverse" p1 p2 [] → ME N lay (.Name x px) ca → MS N lay (.Expr (.Call (.Attribute (.Name x px) "reverse" p1) [] [] p2) p) (.reverse ca)
  | ite {lay c t e cc ct ce p} : ME N lay c cc → MSs N lay t ct → MSs N lay e ce → MS N lay (.If c t e p) (.ite cc ct ce)
  | whil {lay c b cc cb p} : ME N lay c cc → MSs N lay b cb → MS N lay (.While c b [] p) (.whil cc cb)
  | forIn {lay t x it b ci cb px p} : TgM lay t x → ME N lay it ci → MSs N lay b cb → MS N lay (.For (.Name x px) it b [] p) (.forIn t ci cb)
  | forRev {lay t x a b ca cb px p1 p2 p} : TgM lay t x → GlobN lay "reversed" → ME N lay a ca → MSs N lay b cb → MS N lay (.For (.Name x px) (.Call (.Name "reversed" p1) [a] [] p2) b [] p) (.forRev t ca cb)
  | ret {lay e c p} : ME N lay e c → MS N lay (.Return (some e) p) (.ret c)
  | retN {lay p} : MS N lay (.Return none p) .retN
  | defI {lay name params body sc pos j q} : DefLay N lay name params body sc pos j q → MS N lay (.FunctionDef name params body [] none [] sc none name pos) (.defI j q)
inductive MSs (N : Nms) : Lay → List Stmt → List CS → Prop
  | nil {lay} : MSs N lay [] []
  | bad {lay ss cs} : MSs N lay ss (.bad :: cs)
  | cons {lay s c ss cs} : MS N lay s c → MSs N lay ss cs → MSs N lay (s :: ss) (c :: cs)
end

/-! ### closures -/
theorem clos_loop {env : Env} (f : Str × NameKind → List (Str × Addr) → Sem (ForInStep (List (Str × Addr))))
    (hf : ∀ name kind cs, f (name, kind) cs = if kind == .free then (do let a ← cellOf env name; pure (.yield ((name, a) :: cs))) else pure (.yield cs)) :
    ∀ (names : List (Str × NameKind)) (acc : List (Str × Addr)), (∀ y, (y, NameKind.free) ∈ names → ∃ c, env.cells.lookup y = some c) → (∀ y a, acc.lookup y = some a → env.cells.lookup y = some a) →
      ∃ cl, forIn names acc f = pure cl ∧ (∀ y a, acc.lookup y = some a → cl.lookup y = some a) ∧ (∀ y, (y, NameKind.free) ∈ names → ∀ c, env.cells.lookup y = some c → cl.lookup y = some c) ∧ (∀ y a, cl.lookup y = some a → env.cells.lookup y = some a)
  | [], acc, _, ha => ⟨acc, by rw [List.forIn_nil], fun _ _ h => h, (by intro y h; cases h), ha⟩
  | (n, k) :: r, acc, hc, ha => by
    rw [List.forIn_cons, hf]
    by_cases hk : k = .free
    · subst hk
      obtain ⟨c, e⟩ := hc n (.head _)
      have ec : cellOf env n = pure c := by unfold cellOf; rw [e]
      have ha' : ∀ y a, ((n, c) :: acc).lookup y = some a → env.cells.lookup y = some a := fun y a h => by
        rw [List.lookup_cons] at h
        cases q : y == n with
        | true => rw [q] at h; cases h; rw [eq_of_beq q]; exact e
        | false => rw [q] at h; exact ha y a h
      obtain ⟨cl, h1, h2, h3, h4⟩ := clos_loop f hf r ((n, c) :: acc) (fun y hy => hc y (.tail _ hy)) ha'
      have hn : cl.lookup n = some c := h2 n c (by rw [List.lookup_cons]; simp)
      refine ⟨cl, ?_, fun y a h => ?_, fun y hy c' e' => ?_, h4⟩
      · rw [ec]
        exact h1
      · by_cases q : y = n
        · subst q
          have := ha y a h
          rw [e] at this; cases this
          exact hn
        · exact h2 y a (by rw [List.lookup_cons, beq_false_of_ne q]; exact h)
      · rcases List.mem_cons.mp hy with q | q
        · cases q
          rw [e] at e'; cases e'
          exact hn
        · exact h3 y q c' e'
    · obtain ⟨cl, h1, h2, h3, h4⟩ := clos_loop f hf r acc (fun y hy => hc y (.tail _ hy)) ha
      have : (k == NameKind.free) = false := by simpa using hk
      rw [this]
      refine ⟨cl, h1, h2, fun y hy c' e' => ?_, h4⟩
      rcases List.mem_cons.mp hy with q | q
      · cases q; exact absurd rfl hk
      · exact h3 y q c' e'
theorem clos_ok {sc : Scope} {env : Env} (hc : ∀ y, (y, NameKind.free) ∈ sc.names → ∃ c, env.cells.lookup y = some c) : ∃ cl, closureFor sc env = pure cl ∧ ∀ y, (y, NameKind.free) ∈ sc.names → ∀ c, env.cells.lookup y = some c → cl.lookup y = some c := by
  obtain ⟨cl, h1, _, h3, _⟩ := clos_loop (env := env) (fun x cs => if x.2 == .free then (do let a ← cellOf env x.1; pure (.yield ((x.1, a) :: cs))) else pure (.yield cs)) (fun _ _ _ => rfl) sc.names [] hc (by intro y a h; cases h)
  refine ⟨cl, ?_, h3⟩
  have e : closureFor sc env = (forIn sc.names [] (fun (x : Str × NameKind) (cs : List (Str × Addr)) => if x.2 == .free then (do let a ← cellOf env x.1; pure (ForInStep.yield ((x.1, a) :: cs))) else pure (.yield cs)) >>= fun cs => pure cs) := by
    unfold closureFor
    rfl
  rw [e, h1]
  rfl
end Mine
end
section
open PySem PySem.Spec PySem.Calls PyProof.Rows PySem.W
namespace Mine
set_option Elab.async false
set_option linter.unusedVariables false
set_option maxRecDepth 100000

structure AOK (r : Nat) (A : Around) : Prop where
  hh : A.handled = none
  dp : A.depth + r < recursionLimit
  un : A.units + 10 * r + 100 < cLine
theorem AOK.le {r r' : Nat} {A : Around} (a : AOK r A) (h : r' ≤ r) : AOK r' A := ⟨a.hh, by have := a.dp; omega, by have := a.un; omega⟩
theorem AOK.deep {r : Nat} {A : Around} (a : AOK (r + 1) A) (env : Env) : AOK r (A.deeper env) := ⟨a.hh, by have := a.dp; show A.depth + 1 + r < _; omega, by have := a.un; show A.units + 3 + 10 * r + 100 < _; omega⟩

def KontT (X : Cx) (ad : List Addr) (s : Shared) (H' : Hp) (b : Bool) (Q : Bool → Shared → Prop) : Prop :=
  ∀ ad' h' tk, Ext [] ad s.heap ad' h' → SI X ad' H' h' → Q b { s with heap := h', toks := tk }
def KontL (X : Cx) (ad : List Addr) (s : Shared) (H' : Hp) (as : List AV) (Q : List Value → Shared → Prop) : Prop :=
  ∀ vls ad' h' tk, Ext [] ad s.heap ad' h' → SI X ad' H' h' → Paired (VR ad' h') vls as → Q vls { s with heap := h', toks := tk }
def KontS (X : Cx) (ad : List Addr) (s : Shared) (lay : Lay) (env : Env) (cd : List Addr) (H' : Hp) (out : Out) (Q : Flow → Shared → Prop) : Prop := match out with
  | .nx σ' => ∀ ad' h' tk, Ext (env.locals :: cdW lay cd) ad s.heap ad' h' → SI X ad' H' h' → FR X lay env cd σ' ad' h' → Q .next { s with heap := h', toks := tk }
  | .rt av => ∀ vl ad' h' tk, Ext (env.locals :: cdW lay cd) ad s.heap ad' h' → SI X ad' H' h' → VR ad' h' vl av → Q (.ret vl) { s with heap := h', toks := tk }

section
variable {X : Cx} {lay : Lay} {env : Env} {cd ad ad' : List Addr} {s : Shared} {H' : Hp} {av : AV} {as : List AV} {b : Bool} {h' : Heap} {tk : Nat}
theorem Kont.step {Q : Value → Shared → Prop} (k : Kont X ad s H' av Q) (x : Ext [] ad s.heap ad' h') (tk : Nat) : Kont X ad' { s with heap := h', toks := tk } H' av Q :=
  fun vl ad2 h2 tk2 y S r => k vl ad2 h2 tk2 (x.trans y) S r
theorem KontT.step {Q : Bool → Shared → Prop} (k : KontT X ad s H' b Q) (x : Ext [] ad s.heap ad' h') (tk : Nat) : KontT X ad' { s with heap := h', toks := tk } H' b Q :=
  fun ad2 h2 tk2 y S => k ad2 h2 tk2 (x.trans y) S
theorem KontL.step {Q : List Value → Shared → Prop} (k : KontL X ad s H' as Q) (x : Ext [] ad s.heap ad' h') (tk : Nat) : KontL X ad' { s with heap := h', toks := tk } H' as Q :=
  fun vl ad2 h2 tk2 y S r => k vl ad2 h2 tk2 (x.trans y) S r
theorem KontS.step {out : Out} {Q : Flow → Shared → Prop} (k : KontS X ad s lay env cd H' out Q) (x : Ext (env.locals :: cdW lay cd) ad s.heap ad' h') (tk : Nat) : KontS X ad' { s with heap := h', toks := tk } lay env cd H' out Q := by
  cases out with
  | nx σ => exact fun ad2 h2 tk2 y S F => k ad2 h2 tk2 (x.trans y) S F
  | rt v => exact fun vl ad2 h2 tk2 y S r => k vl ad2 h2 tk2 (x.trans y) S r
end

structure Snd (N : Nms) (X : Cx) (v : Ev) (r : Nat) : Prop where
  E : ∀ {c σ H av H'}, v.E c σ H = some (av, H') → ∀ {lay e env cd ad s A Q E}, ME N lay e c → EOK X lay env cd → FR X lay env cd σ ad s.heap → SI X ad H s.heap → AOK r A → Kont X ad s H' av Q →
    wpAny (model X.prog X.w) A (eval e env) Q E s
  T : ∀ {c σ H b H'}, v.T c σ H = some (b, H') → ∀ {lay e env cd ad s A Q E}, ME N lay e c → EOK X lay env cd → FR X lay env cd σ ad s.heap → SI X ad H s.heap → AOK r A → KontT X ad s H' b Q →
    wpAny (model X.prog X.w) A (isTrue e env (eval e env)) Q E s
  C : ∀ {elt cond src acc σ H l H'}, v.C elt cond src acc σ H = some (l, H') → ∀ {lay e it ifs x px sc p env cd ad s A I D vs n adB hB R o},
    ME N lay e elt → MO N lay ifs cond → TgM lay (.loc 0) x → lay.own = false → lay.loc.length = 1 → EOK X lay env cd → FR X lay env cd ⟨[o], σ.cel, .none⟩ ad s.heap → SI X ad H s.heap → AOK r A → SrcR ad s.heap I src →
    s.heap.get? D = some (Lst vs n) → D ∉ ad → Paired (VR ad s.heap) vs acc.reverse → Ext [] adB hB ad s.heap → hB.get? I = none → hB.get? D = none → hB.get? env.locals = none → I ≠ env.locals → X.h₀.get? I = none → X.h₀.get? D = none →
    (∀ ad' h' tk vs' n' m', Ext [] adB hB ad' h' → SI X ad' H' h' → h'.get? D = some (Lst vs' n') → D ∉ ad' → Paired (VR ad' h') vs' l → h'.Ns env.locals m' → R (.ok .next) { s with heap := h', toks := tk }) →
    codeAny (model X.prog X.w) A (.compLoop (.ListComp e [⟨.Name x px, it, ifs, 0⟩] sc p) 0 (.ref I) (.ref D) env) R s
  S : ∀ {c σ H out H'}, v.S c σ H = some (out, H') → ∀ {lay st env cd ad s A Q E}, MS N lay st c → EOK X lay env cd → FR X lay env cd σ ad s.heap → SI X ad H s.heap → AOK r A → KontS X ad s lay env cd H' out Q →
    wpAny (model X.prog X.w) A (exec st env) Q E s
  W : ∀ {c b σ H out H'}, v.W c b σ H = some (out, H') → ∀ {lay e body env cd ad s A Q R}, ME N lay e c → MSs N lay body b → EOK X lay env cd → FR X lay env cd σ ad s.heap → SI X ad H s.heap → AOK r A → KontS X ad s lay env cd H' out Q →
    (∀ f s', Q f s' → R (.ok f) s') → codeAny (model X.prog X.w) A (.whileLoop e body [] env) R s
  F : ∀ {t b src σ H out H'}, v.F t b src σ H = some (out, H') → ∀ {lay x px body env cd ad s A I adB sB Q R}, TgM lay t x → MSs N lay body b → EOK X lay env cd → FR X lay env cd σ ad s.heap → SI X ad H s.heap → AOK r A → SrcR ad s.heap I src →
    Ext (env.locals :: cdW lay cd) adB sB.heap ad s.heap → sB.heap.get? I = none → X.h₀.get? I = none → I ∉ env.locals :: cdW lay cd → (∃ h tk, s = { sB with heap := h, toks := tk }) → KontS X adB sB lay env cd H' out Q →
    (∀ f s', Q f s' → R (.ok f) s') → codeAny (model X.prog X.w) A (.forLoop (.Name x px) (.ref I) body [] env) R s
  G : ∀ {k args H av H'}, v.G k args H = some (av, H') → ∀ {nm f vals ad s A Q E}, nth N.fn k = some nm → X.mg nm = some (.ref f) → SI X ad H s.heap → AOK r A → Paired (VR ad s.heap) vals args → Kont X ad s H' av Q →
    wpAny (model X.prog X.w) A (call (.ref f) vals) Q E s
  I : ∀ {q args σ H av H'}, v.I q args σ H = some (av, H') → ∀ {lay env cd j c f vals ad s A Q E}, FR X lay env cd σ ad s.heap → (∀ q rf, nth X.inn q = some rf → rf.lay.inn = some j) → nth cd j = some c → s.heap.IsCell c (some (.ref f)) → InnAt X q cd s.heap f →
    SI X ad H s.heap → AOK r A → Paired (VR ad s.heap) vals args → Kont X ad s H' av Q → wpAny (model X.prog X.w) A (call (.ref f) vals) Q E s

/-- the names stand for what the heap bears -/
structure NOK (N : Nms) (X : Cx) : Prop where
  B : BOK X
  fn : ∀ k nm, nth N.fn k = some nm → ∃ f o fd, X.mg nm = some (.ref f) ∧ X.h₀.get? f = some o ∧ o.data = .func fd
  gi : ∀ x i, (x, i) ∈ N.gi → ∃ t, X.mg x = some (.int i t)
  inn : N.inn = X.inn

section
variable {N : Nms} {X : Cx} {v : Ev} {r : Nat} {lay : Lay} {env : Env} {cd ad : List Addr} {σ : St} {H H' : Hp} {s : Shared} {A : Around} {E : Value → Shared → Prop}
theorem seq_ok (V : Snd N X v r) {pos : Pos} : ∀ {ces : List CE} {es : List Expr} {H : Hp} {as : List AV} {H' : Hp} {ad : List Addr} {s : Shared} {Q : List Value → Shared → Prop}, evEs v ces σ H = some (as, H') → MEs N lay es ces → EOK X lay env cd → FR X lay env cd σ ad s.heap → SI X ad H s.heap → AOK r A → KontL X ad s H' as Q →
    wpAny (model X.prog X.w) A (spliced (backTo pos (starEach es env))) Q E s := by
  intro ces
  induction ces with
  | nil =>
    intro es H as H' ad s Q e m EO F S a k
    cases m
    cases e
    exact wpAny_items_nil (k [] ad s.heap s.toks (Ext.refl _ _) S .nil)
  | cons c ces ih =>
    intro es H as H' ad s Q e m EO F S a k
    cases m with
    | cons m ms =>
      obtain ⟨⟨x, H1⟩, e1, e⟩ := bind_eq e
      obtain ⟨⟨xs, H2⟩, e2, e⟩ := bind_eq e
      cases e
      refine wpAny_items_cons (V.E e1 m EO F S a fun v1 ad1 h1 tk1 x1 S1 r1 => ?_) (m.star _ _)
      refine ih e2 ms EO (F.ext0 S x1) S1 a fun vs ad2 h2 tk2 x2 S2 r2 => ?_
      exact k (v1 :: vs) ad2 h2 tk2 (x1.trans x2) S2 (.cons (r1.ext S1 (WK.nil _) x2) r2)
theorem execs_ok (V : Snd N X v r) : ∀ {cs : List CS} {ss : List Stmt} {σ : St} {H : Hp} {out : Out} {H' : Hp} {ad : List Addr} {s : Shared} {Q : Flow → Shared → Prop}, evSs v cs σ H = some (out, H') → MSs N lay ss cs → EOK X lay env cd → FR X lay env cd σ ad s.heap → SI X ad H s.heap → AOK r A →
    v.S .bad = (fun _ _ => .none) → KontS X ad s lay env cd H' out Q → wpAny (model X.prog X.w) A (execs ss env) Q E s := by
  intro cs
  induction cs with
  | nil =>
    intro ss σ H out H' ad s Q e m EO F S a hb k
    cases m
    cases e
    exact wpAny_execs_nil (k ad s.heap s.toks (Ext.refl _ _) S F)
  | cons c cs ih =>
    intro ss σ H out H' ad s Q e m EO F S a hb k
    obtain ⟨⟨o, H1⟩, e1, e⟩ := bind_eq e
    cases m with
    | bad => rw [hb] at e1; cases e1
    | cons m ms =>
      refine wpAny_execs_cons (V.S e1 m EO F S a ?_)
      cases o with
      | nx σ1 =>
        intro ad1 h1 tk1 x1 S1 F1
        exact ih e ms EO F1 S1 a hb (k.step x1 tk1)
      | rt av =>
        cases e
        exact k
end
end Mine
end
section
open PySem PySem.Spec PySem.Calls PyProof.Rows PySem.W
namespace Mine
set_option Elab.async false
set_option linter.unusedVariables false
set_option maxRecDepth 100000

section
variable {N : Nms} {X : Cx} {v : Ev} {r : Nat} {lay : Lay} {env : Env} {cd ad : List Addr} {σ : St} {H H' : Hp} {s : Shared} {A : Around} {E : Value → Shared → Prop} {Q : Value → Shared → Prop} {av : AV}

/-- a builtin's name, loaded and called with the values of the arguments -/
theorem bi1 (K : NOK N X) (V : Snd N X v r) {x : Str} {id : String} {p' p : Pos} {e : Expr} {es : List Expr} {c : CE} {cs : List CE} {as : List AV} (hx : (x, Value.builtin id) ∈ biTab) (g : GlobN lay x) (m : MEs N lay (e :: es) (c :: cs)) (ev : evEs v (c :: cs) σ H = some (as, H')) (EO : EOK X lay env cd) (F : FR X lay env cd σ ad s.heap) (S : SI X ad H s.heap) (a : AOK r A)
    (k : KontL X ad s H' as (fun vs s' => wpAny (model X.prog X.w) A (call (.builtin id) vs) Q E s')) : wpAny (model X.prog X.w) A (eval (.Call (.Name x p') (e :: es) [] p) env) Q E s := by
  refine Call_ (load_bi K.B EO S g.1 g.2 hx ?_)
  cases m with
  | cons m ms => exact PyProof.Rows.callWith_builtin1 (seq_ok V ev (.cons m ms) EO F S a k) (m.star _ _) ms.plain
theorem ty1 (K : NOK N X) (V : Snd N X v r) {x : Str} {T : String} {p' p : Pos} {e : Expr} {es : List Expr} {c : CE} {cs : List CE} {as : List AV} (hx : (x, Value.type T) ∈ biTab) (g : GlobN lay x) (m : MEs N lay (e :: es) (c :: cs)) (ev : evEs v (c :: cs) σ H = some (as, H')) (EO : EOK X lay env cd) (F : FR X lay env cd σ ad s.heap) (S : SI X ad H s.heap) (a : AOK r A)
    (k : KontL X ad s H' as (fun vs s' => wpAny (model X.prog X.w) A (call (.type T) vs) Q E s')) : wpAny (model X.prog X.w) A (eval (.Call (.Name x p') (e :: es) [] p) env) Q E s := by
  refine Call_ (load_bi K.B EO S g.1 g.2 hx ?_)
  cases m with
  | cons m ms => exact PyProof.Rows.callWith_type1 (seq_ok V ev (.cons m ms) EO F S a k) (m.star _ _) ms.plain

theorem es1 {a : CE} {x : AV} {H1 : Hp} (e : v.E a σ H = some (x, H1)) : evEs v [a] σ H = some ([x], H1) := by
  show ((v.E a σ H).bind fun r => _) = _
  rw [e]; rfl
theorem es2 {a b : CE} {x y : AV} {H1 H2 : Hp} (e : v.E a σ H = some (x, H1)) (e2 : v.E b σ H1 = some (y, H2)) : evEs v [a, b] σ H = some ([x, y], H2) := by
  show ((v.E a σ H).bind fun r => (evEs v [b] σ r.2).bind _) = _
  rw [e]
  show ((evEs v [b] σ H1).bind _) = _
  rw [es1 e2]; rfl
theorem es3 {a b c : CE} {x y z : AV} {H1 H2 H3 : Hp} (e : v.E a σ H = some (x, H1)) (e2 : v.E b σ H1 = some (y, H2)) (e3 : v.E c σ H2 = some (z, H3)) : evEs v [a, b, c] σ H = some ([x, y, z], H3) := by
  show ((v.E a σ H).bind fun r => (evEs v [b, c] σ r.2).bind _) = _
  rw [e]
  show ((evEs v [b, c] σ H1).bind _) = _
  rw [es2 e2 e3]; rfl

theorem units64 (a : AOK r A) : A.units + 64 < cLine := by have := a.un; omega

theorem pure1_eq {x : Option AV} {H : Hp} {y : AV} {H' : Hp} (e : pure1 x H = some (y, H')) : x = some y ∧ H' = H := by
  obtain ⟨z, e1, e⟩ := bind_eq e
  cases e
  exact ⟨e1, rfl⟩

/-- the expressions that make no frame -/
def simpleE : CE → Bool
  | .callG .. => false
  | .callI .. => false
  | .comp .. => false
  | _ => true
theorem sndE (K : NOK N X) (V : Snd N X v r) {c : CE} {e : Expr} (hs : simpleE c = true) (h : stepE v c σ H = some (av, H')) (m : ME N lay e c) (EO : EOK X lay env cd) (F : FR X lay env cd σ ad s.heap) (S : SI X ad H s.heap) (a : AOK r A) (k : Kont X ad s H' av Q) :
    wpAny (model X.prog X.w) A (eval e env) Q E s := by
  have two : ∀ {ca cb : CE} {ea eb : Expr} {f : AV → AV → Hp → Option (AV × Hp)} {Q' : Value → Value → Shared → Prop}, ev2 v ca cb σ H f = some (av, H') → ME N lay ea ca → ME N lay eb cb →
      (∀ x y ad2 H2 h2 tk2 v1 v2, SI X ad2 H2 h2 → VR ad2 h2 v1 x → VR ad2 h2 v2 y → f x y H2 = some (av, H') → Kont X ad2 { s with heap := h2, toks := tk2 } H' av Q → Q' v1 v2 { s with heap := h2, toks := tk2 }) →
      wpAny (model X.prog X.w) A (eval ea env) (fun v1 s1 => wpAny (model X.prog X.w) A (eval eb env) (fun v2 s2 => Q' v1 v2 s2) E s1) E s := by
    intro ca cb ea eb f Q' h ma mb q
    obtain ⟨⟨x, H1⟩, e1, h⟩ := bind_eq h
    obtain ⟨⟨y, H2⟩, e2, h⟩ := bind_eq h
    refine V.E e1 ma EO F S a fun v1 ad1 h1 tk1 x1 S1 r1 => ?_
    refine V.E e2 mb EO (F.ext0 S x1) S1 a fun v2 ad2 h2 tk2 x2 S2 r2 => ?_
    exact q x y ad2 H2 h2 tk2 v1 v2 S2 (r1.ext S1 (WK.nil _) x2) r2 h (k.step (x1.trans x2) tk2)
  have one : ∀ {ca : CE} {ea : Expr} {f : AV → Hp → Option (AV × Hp)} {Q' : Value → Shared → Prop}, ev1 v ca σ H f = some (av, H') → ME N lay ea ca →
      (∀ x ad1 H1 h1 tk1 v1, SI X ad1 H1 h1 → FR X lay env cd σ ad1 h1 → VR ad1 h1 v1 x → f x H1 = some (av, H') → Kont X ad1 { s with heap := h1, toks := tk1 } H' av Q → Q' v1 { s with heap := h1, toks := tk1 }) →
      wpAny (model X.prog X.w) A (eval ea env) Q' E s := by
    intro ca ea f Q' h ma q
    obtain ⟨⟨x, H1⟩, e1, h⟩ := bind_eq h
    refine V.E e1 ma EO F S a fun v1 ad1 h1 tk1 x1 S1 r1 => ?_
    exact q x ad1 H1 h1 tk1 v1 S1 (F.ext0 S x1) r1 h (k.step x1 tk1)
  dsimp only [stepE] at h
  cases m with
  | int => cases h; exact wpAny_Constant_int (k.val S _ ⟨_, rfl⟩)
  | bool => cases h; exact wpAny_Constant_bool (k.here S rfl)
  | none => cases h; exact wpAny_Constant_none (k.here S rfl)
  | loc n =>
    dsimp only at h
    split at h
    · rename_i x hx
      cases h
      exact load_loc EO F n.1 n.2.1 n.2.2 hx fun v rv => k.here S rv
    · cases h
  | cel n =>
    dsimp only at h
    split at h
    · rename_i x hx
      cases h
      exact load_cel EO F n.1 n.2.1 n.2.2.1 n.2.2.2 hx fun v rv => k.here S rv
    · cases h
  | glob g hg =>
    cases h
    obtain ⟨t, ht⟩ := K.gi _ _ hg
    exact load_glob K.B EO S g.1 g.2 ht (k.here S ⟨t, rfl⟩)
  | bin ma mb => exact wpAny_BinOp (two h ma mb fun x y ad2 H2 h2 tk2 v1 v2 S2 r1 r2 e k2 => bin_ok S2 r1 r2 e k2)
  | cmp ma mb =>
    refine wpAny_Compare1 (two h ma mb fun x y ad2 H2 h2 tk2 v1 v2 S2 r1 r2 e k2 => ?_) (mb.marks _)
    obtain ⟨t, e1, e⟩ := bind_eq e
    cases e
    exact cmp_ok S2 (units64 a) r1 r2 e1 k2
  | isNone ma =>
    refine wpAny_Compare1 (one h ma fun x ad1 H1 h1 tk1 v1 S1 F1 r1 e k1 => ?_) rfl
    cases e
    refine wpAny_Constant_none (is_none (k1.here S1 ?_))
    cases x with
    | none => cases r1; rfl
    | bool b => cases r1; rfl
    | int i => obtain ⟨t, rfl⟩ := r1; rfl
    | lst i => obtain ⟨b, _, rfl⟩ := r1; rfl
    | pair i j => obtain ⟨p, _, _, _, rfl, _⟩ := r1; rfl
    | rng i j l => obtain ⟨p, _, _, _, rfl, _⟩ := r1; rfl
  | band ma mb =>
    refine wpAny_And2 (one h ma fun x ad1 H1 h1 tk1 v1 S1 F1 r1 e k1 => ?_)
    obtain ⟨t, e1, e⟩ := bind_eq e
    refine truth_ok S1 r1 e1 fun tk2 => ?_
    cases t with
    | true => exact V.E e mb EO F1 S1 a (k1.step (Ext.refl _ _) tk2)
    | false => cases e; exact k1.val S1 tk2 r1
  | bor ma mb =>
    refine wpAny_Or2 (one h ma fun x ad1 H1 h1 tk1 v1 S1 F1 r1 e k1 => ?_)
    obtain ⟨t, e1, e⟩ := bind_eq e
    refine truth_ok S1 r1 e1 fun tk2 => ?_
    cases t with
    | true => cases e; exact k1.val S1 tk2 r1
    | false => exact V.E e mb EO F1 S1 a (k1.step (Ext.refl _ _) tk2)
  | ife mc ma mb =>
    obtain ⟨⟨t, H1⟩, e1, h⟩ := bind_eq h
    refine wpAny_IfExp (V.T e1 mc EO F S a fun ad1 h1 tk1 x1 S1 => ?_)
    cases t with
    | true => exact V.E h ma EO (F.ext0 S x1) S1 a (k.step x1 tk1)
    | false => exact V.E h mb EO (F.ext0 S x1) S1 a (k.step x1 tk1)
  | list ms =>
    obtain ⟨⟨xs, H1⟩, e1, h⟩ := bind_eq h
    obtain ⟨hl, h⟩ := guard_eq h
    cases h
    refine wpAny_List (seq_ok V e1 ms EO F S a fun vs ad1 h1 tk1 x1 S1 r1 => ⟨?_, ?_⟩)
    · have := pd_len r1
      have hl := blt_lt hl
      simp only at hl
      rw [this]
      exact Nat.le_trans (Nat.le_of_lt_succ hl) h999
    · exact (k.step x1 tk1).list (n := 0) (tk := tk1) S1 r1
  | pair ma mb =>
    obtain ⟨⟨x, H1⟩, e1, h⟩ := bind_eq h
    obtain ⟨⟨y, H2⟩, e2, h⟩ := bind_eq h
    refine wpAny_Tuple (seq_ok V (es2 e1 e2) (.cons ma (.cons mb .nil)) EO F S a fun vs ad1 h1 tk1 x1 S1 r1 => ?_)
    cases r1 with
    | cons r1 r2 =>
      cases r2 with
      | cons r2 r3 =>
        cases r3
        dsimp only at h
        split at h
        · cases h
          obtain ⟨t, rfl⟩ := r1
          obtain ⟨u, rfl⟩ := r2
          exact ⟨Nat.le_trans (Nat.le_of_ble_eq_true rfl) h999, tup_new S1 (k.step x1 tk1)⟩
        · cases h
  | idx hsub ma mi =>
    refine Subscript_ (two h ma mi fun x y ad2 H2 h2 tk2 v1 v2 S2 r1 r2 e k2 => ?_)
    obtain ⟨e1, rfl⟩ := pure1_eq e
    exact idx_ok hsub S2 r1 r2 e1 k2
  | len g ma =>
    obtain ⟨⟨x, H1⟩, e1, h⟩ := bind_eq h
    obtain ⟨e2, rfl⟩ := pure1_eq h
    refine bi1 K V (.head _) g (.cons ma .nil) (es1 e1) EO F S a fun vs ad1 h1 tk1 x1 S1 r1 => ?_
    cases r1 with
    | cons r1 r2 => cases r2; exact len_ok S1 r1 e2 (k.step x1 tk1)
  | sum g ma =>
    obtain ⟨⟨x, H1⟩, e1, h⟩ := bind_eq h
    obtain ⟨e2, rfl⟩ := pure1_eq h
    refine bi1 K V (.tail _ (.tail _ (.head _))) g (.cons ma .nil) (es1 e1) EO F S a fun vs ad1 h1 tk1 x1 S1 r1 => ?_
    cases r1 with
    | cons r1 r2 => cases r2; exact sum_ok S1 a.hh r1 e2 (k.step x1 tk1)
  | divmod g ma mb =>
    obtain ⟨⟨x, H1⟩, e1, h⟩ := bind_eq h
    obtain ⟨⟨y, H2⟩, e2, h⟩ := bind_eq h
    obtain ⟨e3, rfl⟩ := pure1_eq h
    refine bi1 K V (.tail _ (.tail _ (.tail _ (.tail _ (.tail _ (.head _)))))) g (.cons ma (.cons mb .nil)) (es2 e1 e2) EO F S a fun vs ad1 h1 tk1 x1 S1 r1 => ?_
    cases r1 with
    | cons r1 r2 =>
      cases r2 with
      | cons r2 r3 => cases r3; exact divmod_ok S1 r1 r2 e3 (k.step x1 tk1)
  | range2 g ma mb =>
    obtain ⟨⟨x, H1⟩, e1, h⟩ := bind_eq h
    obtain ⟨⟨y, H2⟩, e2, h⟩ := bind_eq h
    refine ty1 K V (.tail _ (.head _)) g (.cons ma (.cons mb .nil)) (es2 e1 e2) EO F S a fun vs ad1 h1 tk1 x1 S1 r1 => ?_
    cases r1 with
    | cons r1 r2 =>
      cases r2 with
      | cons r2 r3 =>
        cases r3
        dsimp only at h
        split at h
        · obtain ⟨_, h⟩ := guard_eq h
          obtain ⟨_, h⟩ := guard_eq h
          cases h
          exact range2_ok S1 r1 r2 (k.step x1 tk1)
        · cases h
  | range3 g ma mb mc =>
    obtain ⟨⟨x, H1⟩, e1, h⟩ := bind_eq h
    obtain ⟨⟨y, H2⟩, e2, h⟩ := bind_eq h
    obtain ⟨⟨z, H3⟩, e3, h⟩ := bind_eq h
    refine ty1 K V (.tail _ (.head _)) g (.cons ma (.cons mb (.cons mc .nil))) (es3 e1 e2 e3) EO F S a fun vs ad1 h1 tk1 x1 S1 r1 => ?_
    cases r1 with
    | cons r1 r2 =>
      cases r2 with
      | cons r2 r3 =>
        cases r3 with
        | cons r3 r4 =>
          cases r4
          dsimp only at h
          split at h
          · obtain ⟨_, h⟩ := guard_eq h
            obtain ⟨_, h⟩ := guard_eq h
            obtain ⟨h3, h⟩ := guard_eq h
            obtain ⟨h4, h⟩ := guard_eq h
            cases h
            exact range3_ok S1 h3 h4 r1 r2 r3 (k.step x1 tk1)
          · cases h
  | toInt g ma =>
    obtain ⟨⟨x, H1⟩, e1, h⟩ := bind_eq h
    refine ty1 K V (.tail _ (.tail _ (.tail _ (.head _)))) g (.cons ma .nil) (es1 e1) EO F S a fun vs ad1 h1 tk1 x1 S1 r1 => ?_
    cases r1 with
    | cons r1 r2 =>
      cases r2
      cases x with
      | bool b => cases h; cases b <;> exact toInt_ok S1 r1 (k.step x1 tk1)
      | _ => cases h
  | lenDict g g' ma =>
    obtain ⟨⟨x, H1⟩, e1, h⟩ := bind_eq h
    obtain ⟨e2, rfl⟩ := pure1_eq h
    refine Call_ (load_bi K.B EO S g.1 g.2 (.head _) ?_)
    refine PyProof.Rows.callWith_builtin1 (wpAny_items_cons ?_ rfl) rfl rfl
    refine ty1 K V (.tail _ (.tail _ (.tail _ (.tail _ (.head _))))) g' (.cons ma .nil) (es1 e1) EO F S a fun vs ad1 h1 tk1 x1 S1 r1 => ?_
    cases r1 with
    | cons r1 r2 =>
      cases r2
      exact wpAny_mono (lenDict_ok K.B S1 a.hh r1 e2 (k.step x1 tk1)) (fun d s' hd => wpAny_items_nil hd) fun _ _ q => q
  | bitlen hm ma =>
    obtain ⟨⟨x, H1⟩, e1, h⟩ := bind_eq h
    obtain ⟨e2, rfl⟩ := pure1_eq h
    obtain ⟨pl, hm⟩ := hm
    exact MethodCall_ (V.E e1 ma EO F S a fun v1 ad1 h1 tk1 x1 S1 r1 => bitlen_ok S1 r1 e2 (k.step x1 tk1)) (hm env)
  | callG => cases hs
  | callI => cases hs
  | comp => cases hs
end
end Mine
end
section
open PySem PySem.Spec PySem.Calls PyProof.Rows PySem.W
namespace Mine
set_option Elab.async false
set_option linter.unusedVariables false
set_option maxRecDepth 100000

section
variable {M : Model} {A : Around} {E : Value → Shared → Prop} {s : Shared} {env : Env}
theorem isTrue_cmp {l : Expr} {op : CmpOp} {r : Expr} {pos : Pos} {whole : Sem Value} {Q : Bool → Shared → Prop} (h : wpAny M A (eval (.Compare l [op] [r] pos) env) (fun c s' => wpAny M A (truthy c) Q E s') E s) :
    wpAny M A (isTrue (.Compare l [op] [r] pos) env whole) Q E s := fun Γ p hΓ => by
  have h := h Γ p hΓ
  have e : Sem.wp M Γ (isTrue (.Compare l [op] [r] pos) env whole) (fun a _ s' => Q a s') (fun e _ s' => E e s') p s =
      Sem.wp M Γ (eval (.Compare l [op] [r] pos) env) (fun c p' s' => Sem.wp M Γ (holding [c] (truthy c)) (fun a _ s' => Q a s') (fun e _ s' => E e s') p' s') (fun e _ s' => E e s') p s := by
    rw [isTrue_Compare1, eval_Compare1]
    simp only [Sem.wp_bind']
  refine e ▸ Sem.wp_mono M Γ _ (fun c p' s' hc => ?_) (fun _ _ _ q => q) _ _ h
  rw [Sem.wp_holding]
  exact hc Γ p' hΓ
end

section
variable {N : Nms} {X : Cx} {v : Ev} {r : Nat} {lay : Lay} {env : Env} {cd ad : List Addr} {σ : St} {H H' : Hp} {s : Shared} {A : Around} {E : Value → Shared → Prop}

theorem sndT (V : Snd N X v r) {c : CE} {e : Expr} {t : Bool} {Q : Bool → Shared → Prop} (h : stepT v c σ H = some (t, H')) (m : ME N lay e c) (EO : EOK X lay env cd) (F : FR X lay env cd σ ad s.heap) (S : SI X ad H s.heap) (a : AOK r A) (k : KontT X ad s H' t Q) :
    wpAny (model X.prog X.w) A (isTrue e env (eval e env)) Q E s := by
  have leaf : ∀ {c : CE} {e : Expr} {Q' : Value → Shared → Prop}, ((v.E c σ H).bind fun r => (truth r.1 r.2).bind fun t => some (t, r.2)) = some (t, H') → ME N lay e c → (∀ vl s', wpAny (model X.prog X.w) A (truthy vl) Q E s' → Q' vl s') → wpAny (model X.prog X.w) A (eval e env) Q' E s := by
    intro c e Q' h m q
    obtain ⟨⟨x, H1⟩, e1, h⟩ := bind_eq h
    obtain ⟨t', e2, h⟩ := bind_eq h
    cases h
    refine V.E e1 m EO F S a fun v1 ad1 h1 tk1 x1 S1 r1 => q _ _ ?_
    exact truth_ok S1 r1 e2 fun tk2 => k ad1 h1 tk2 x1 S1
  dsimp only [stepT] at h
  cases m with
  | loc n => exact wpAny_isTrue_value (leaf h (.loc n) fun _ _ q => q)
  | cel n => exact wpAny_isTrue_value (leaf h (.cel n) fun _ _ q => q)
  | cmp ma mb => exact isTrue_cmp (leaf h (.cmp ma mb) fun _ _ q => q)
  | isNone ma => exact isTrue_cmp (leaf h (.isNone ma) fun _ _ q => q)
  | band ma mb =>
    obtain ⟨⟨t1, H1⟩, e1, h⟩ := bind_eq h
    refine wpAny_isTrue_BoolOp (wpAny_allTrue_And_cons (V.T e1 ma EO F S a fun ad1 h1 tk1 x1 S1 => ?_))
    cases t1 with
    | false => cases h; exact k ad1 h1 tk1 x1 S1
    | true =>
      refine wpAny_allTrue_And_cons (V.T h mb EO (F.ext0 S x1) S1 a fun ad2 h2 tk2 x2 S2 => ?_)
      cases t with
      | false => exact k ad2 h2 tk2 (x1.trans x2) S2
      | true => exact wpAny_allTrue_And_nil (k ad2 h2 tk2 (x1.trans x2) S2)
  | bor ma mb =>
    obtain ⟨⟨t1, H1⟩, e1, h⟩ := bind_eq h
    refine wpAny_isTrue_BoolOp (wpAny_allTrue_Or_cons (V.T e1 ma EO F S a fun ad1 h1 tk1 x1 S1 => ?_))
    cases t1 with
    | true => cases h; exact k ad1 h1 tk1 x1 S1
    | false =>
      refine wpAny_allTrue_Or_cons (V.T h mb EO (F.ext0 S x1) S1 a fun ad2 h2 tk2 x2 S2 => ?_)
      cases t with
      | true => exact k ad2 h2 tk2 (x1.trans x2) S2
      | false => exact wpAny_allTrue_Or_nil (k ad2 h2 tk2 (x1.trans x2) S2)
  | _ => cases h

/-- a call of a def -/
theorem sndCallG (K : NOK N X) (V : Snd N X v r) {f : Nat} {ces : List CE} {e : Expr} {av : AV} {Q : Value → Shared → Prop} (h : stepE v (.callG f ces) σ H = some (av, H')) (m : ME N lay e (.callG f ces)) (EO : EOK X lay env cd) (F : FR X lay env cd σ ad s.heap) (S : SI X ad H s.heap) (a : AOK r A) (k : Kont X ad s H' av Q) :
    wpAny (model X.prog X.w) A (eval e env) Q E s := by
  dsimp only [stepE] at h
  obtain ⟨⟨xs, H1⟩, e1, h'⟩ := bind_eq h
  clear h
  cases m with
  | callG hn g ms =>
    obtain ⟨fa, o, fd, h1, h2, h3⟩ := K.fn _ _ hn
    refine Call_ (load_glob K.B EO S g.1 g.2 h1 ?_)
    cases ms with
    | cons m ms =>
      refine PyProof.Rows.callWith_def h3 (seq_ok V e1 (.cons m ms) EO F S a fun vs ad1 hp1 tk1 x1 S1 r1 => ⟨S1.base _ _ h2, ?_⟩) (m.star _ _)
      exact V.G h' hn h1 S1 a r1 (k.step x1 tk1)
theorem cell_uniq {h : Heap} {c : Addr} {a b : Option Value} (x : h.IsCell c a) (y : h.IsCell c b) : a = b := by
  obtain ⟨o, e, d⟩ := x
  obtain ⟨o', e', d'⟩ := y
  rw [e] at e'; cases e'
  rw [d] at d'; cases d'
  rfl
theorem InnAt.fn {q : Nat} {h : Heap} {f : Addr} (i : InnAt X q cd h f) : PySem.W.FnAt f h := by
  obtain ⟨rf, o, cl, doc, pm, c', ctv, _, e, hd, _⟩ := i
  obtain ⟨oc, od, dt, sl⟩ := o
  cases hd
  exact ⟨_, _, _, _, e⟩
theorem sndCallI (K : NOK N X) (V : Snd N X v r) {j : Nat} {ces : List CE} {e : Expr} {av : AV} {Q : Value → Shared → Prop} (h : stepE v (.callI j ces) σ H = some (av, H')) (m : ME N lay e (.callI j ces)) (EO : EOK X lay env cd) (F : FR X lay env cd σ ad s.heap) (S : SI X ad H s.heap) (a : AOK r A) (k : Kont X ad s H' av Q) :
    wpAny (model X.prog X.w) A (eval e env) Q E s := by
  dsimp only [stepE] at h
  split at h
  · rename_i q hq
    obtain ⟨⟨xs, H1⟩, e1, h'⟩ := bind_eq h
    clear h
    cases m with
    | callI hj hij n ms =>
      obtain ⟨j', c, fa, h1, h2, h3, h4⟩ := F.fn q hq
      rw [hj] at h1
      cases h1
      obtain ⟨c2, hc2, hl⟩ := EO.cells j _ n.1
      rw [h2] at hc2
      cases hc2
      have ld : ∀ {Q : Value → Shared → Prop} {p : Pos}, Q (.ref fa) s → wpAny (model X.prog X.w) A (eval (.Name _ p) env) Q E s := fun q => by
        rcases n.2.1 with hk | hk
        · exact wpAny_Name (wpAny_loadName_cell (fr_kind EO) (kind_of EO hk) hl h3 q) n.2.2.1
        · exact wpAny_Name (wpAny_loadName_free (fr_kind EO) (kind_of EO hk) hl h3 q n.2.2.2) n.2.2.1
      refine Call_ (ld ?_)
      cases ms with
      | cons m ms =>
        refine PySem.W.callWith_F h4.fn (seq_ok V e1 (.cons m ms) EO F S a fun vs ad1 hp1 tk1 x1 S1 r1 => ?_) (m.star _ _) ms.plain
        have F1 := F.ext0 S x1
        obtain ⟨j2, c3, fa2, g1, g2, g3, g4⟩ := F1.fn q hq
        rw [hj] at g1
        cases g1
        rw [h2] at g2
        cases g2
        have k3 : hp1.IsCell c (some (.ref fa)) := by
          obtain ⟨o, eo, d⟩ := h3
          exact ⟨o, x1.keep _ _ eo (not_list S eo fun vs n z => by rw [d] at z; cases z) (not_tabD fun vs z => by rw [d] at z; cases z) (fun q => nomatch q), d⟩
        have := cell_uniq k3 g3
        cases this
        refine ⟨g4.fn, ?_⟩
        exact V.I h' F1 (fun q rf e => hij rf (by rw [K.inn]; exact nth_mem e)) h2 g3 g4 S1 a r1 (k.step x1 tk1)
  · cases h
end
end Mine
end
section
open PySem PySem.Spec PySem.Calls PyProof.Rows PySem.W
namespace Mine
set_option Elab.async false
set_option linter.unusedVariables false
set_option maxRecDepth 100000

section
variable {N : Nms} {X : Cx} {v : Ev} {r : Nat} {lay lay' : Lay} {env : Env} {cd ad : List Addr} {σ : St} {H H' : Hp} {s : Shared} {A : Around} {E : Value → Shared → Prop}

theorem none_of {h h' : Heap} {b : Addr} (k : ∀ b o, h.get? b = some o → h'.get? b = some o) (e : h'.get? b = none) : h.get? b = none := by
  cases q : h.get? b with
  | none => rfl
  | some o => rw [k _ _ q] at e; cases e
theorem size_none {h : Heap} {o : Obj} : (h.push o).objs.size ≠ h.objs.size := by rw [Heap.size_push]; exact Nat.succ_ne_self _

theorem comp_ok (K : NOK N X) (V : Snd N X v r) {ce ci : CE} {co : Option CE} {elt it : Expr} {x : Str} {px p pp : Pos} {ifs : List Expr} {sc : Scope} {av : AV} {use : Option (Value → Sem Unit)} {Q : Value → Shared → Prop}
    (h : compOf v ce ci co σ H = some (av, H')) (L : CompLay lay sc x lay') (hfo : ∀ env v, foldedSetIterable it env v = pure v) (mi : ME N lay it ci) (me : ME N lay' elt ce) (mo : MO N lay' ifs co)
    (EO : EOK X lay env cd) (F : FR X lay env cd σ ad s.heap) (S : SI X ad H s.heap) (a : AOK r A)
    (k : ∀ D C ad' h' tk m', s.heap.get? C = none → X.h₀.get? C = none → Ext [] ad s.heap ad' h' → SI X ad' H' h' → VR ad' h' (.ref D) av → h'.Ns C m' → compPost (model X.prog X.w) A E use Q (.ref D) C (.ok .next) { s with heap := h', toks := tk }) :
    wpAny (model X.prog X.w) A (comprehension (.ListComp elt [⟨.Name x px, it, ifs, 0⟩] sc p) sc env pp (newList []) false (eval it env) use) Q E s := by
  obtain ⟨⟨xv, H1⟩, e1, h⟩ := bind_eq h
  obtain ⟨src, e2, h⟩ := bind_eq h
  obtain ⟨⟨l, H2⟩, e3, h⟩ := bind_eq h
  obtain ⟨hl, h⟩ := guard_eq h
  cases h
  obtain ⟨cl, hcl, hlk⟩ := clos_ok (sc := sc) (env := env) fun y hy => by
    obtain ⟨j, hj⟩ := L.free y hy
    obtain ⟨c, _, e⟩ := EO.cells j y hj
    exact ⟨c, e⟩
  refine wpAny_comprehension_free rfl (hfo env) hcl L.kind L.names ?_
  refine V.E e1 mi EO F S a fun vl ad1 h1 tk1 x1 S1 r1 => ?_
  refine iter_ok S1 r1 e2 fun I h2 hI g2 R2 => ?_
  refine wpAny_newObj_type ?_ (by size_fits)
  refine wpAny_newFunctionEnv (fun y hy => L.nocell y hy) (by intro y hy; simp at hy) (fun h4 hns hsb => ?_) L.kind
  dsimp only at hns hsb g2 ⊢
  generalize hh3 : h2.push { cls := .type "list", dict := none, data := .seq ([] : List Value).toArray } = h3 at hns hsb ⊢
  have hD2 : h2.get? h2.objs.size = none := fresh_none _
  have hC3 : h3.get? h3.objs.size = none := fresh_none _
  have g3 : ∀ b o, h2.get? b = some o → h3.get? b = some o := fun b o e => by rw [← hh3]; exact Heap.get?_push_of_some _ e
  have g4 : ∀ b o, h3.get? b = some o → h4.get? b = some o := fun b o e => hsb.extBut b o (fun q => by rw [q, hC3] at e; cases e) (Heap.get?_push_of_some _ e)
  have g23 : ∀ b o, h2.get? b = some o → h4.get? b = some o := fun b o e => g4 _ _ (g3 _ _ e)
  have gg : ∀ b o, h1.get? b = some o → h4.get? b = some o := fun b o e => g23 _ _ (g2 _ _ e)
  have eD : h4.get? h2.objs.size = some (Lst [] 0) := g4 _ _ (by rw [← hh3]; exact Heap.get?_push_size _ rfl)
  have S4 : SI X ad1 H1 h4 := S1.grow gg
  have F1 : FR X lay env cd σ ad1 h1 := F.ext0 S x1
  have F4 : FR X lay env cd σ ad1 h4 := F1.grow S1 gg
  have hD1 : h1.get? h2.objs.size = none := none_of g2 hD2
  have hC1 : h1.get? h3.objs.size = none := none_of (fun b o e => g3 _ _ (g2 b o e)) hC3
  have hC0 : s.heap.get? h3.objs.size = none := by
    cases q : s.heap.get? h3.objs.size with
    | none => rfl
    | some o => obtain ⟨o', e'⟩ := x1.dom _ _ q; rw [hC1] at e'; cases e'
  obtain ⟨oI, vI, eI, dI, _⟩ := R2.obj
  have R4 : SrcR ad1 h4 I src := (R2.keep (S1.grow g2) (Ext.grow (W := []) g23) (fun q => nomatch q))
  have hIC : I ≠ h3.objs.size := fun q => by rw [q] at eI; rw [g3 _ _ eI] at hC3; cases hC3
  have EO' : EOK X lay' (compEnvC sc cl h3.objs.size env) cd := by
    refine ⟨?_, ?_, EO.g, EO.b, fun j y hj => ?_, fun q hq => ?_⟩
    · rw [L.sc']; exact rel_eq EO.sc
    · rw [L.sc']; exact L.kind
    · obtain ⟨h5, h6⟩ := L.cel j y hj
      obtain ⟨c, h7, h8⟩ := EO.cells j y h5
      exact ⟨c, h7, hlk y h6 c h8⟩
    · rw [L.dfn] at hq; cases hq
  have F5 : FR X lay' (compEnvC sc cl h3.objs.size env) cd ⟨[.none], σ.cel, .none⟩ ad1 h4 := by
    refine ⟨⟨_, hns, fun i y av h5 h6 => ?_⟩, F4.cel, (by intro q hq; cases hq), S1.no0 hC1, F4.hcd, F4.cdn, by rw [L.loc]; simp, by rw [L.loc]; rfl, F4.lc⟩
    cases i with
    | zero => cases h6
    | succ i => cases h6
  have tm : TgM lay' (.loc 0) x := ⟨by rw [L.loc]; rfl, by rw [L.sc']; show (relS sc lay.scope).names.lookup x = _; rw [← rel_eq EO.sc]; exact lookup_relabel_local L.xl⟩
  have fin : ∀ s3 : Shared, s3 = { s with heap := h4, toks := tk1 + ([] : List (Str × Value)).length } → codeAny (model X.prog X.w) A (.compLoop (.ListComp elt [⟨.Name x px, it, ifs, 0⟩] sc p) 0 (.ref I) (.ref h2.objs.size) (compEnvC sc cl h3.objs.size env)) (compPost (model X.prog X.w) A E use Q (.ref h2.objs.size) h3.objs.size) s3 := by
    rintro s3 rfl
    refine V.C e3 (adB := ad1) (hB := h1) (vs := []) (n := 0) me mo tm L.own (by rw [L.loc]; rfl) EO' F5 S4 a R4 eD (fun q => ?_) .nil (Ext.grow gg) hI hD1 hC1 hIC (S1.no0 hI) (S1.no0 hD1) ?_
    · obtain ⟨_, _, e⟩ := S1.at q
      rw [hD1] at e; cases e
    · intro ad' h' tk vs' n' m' y S' eD' hDn pv hn
      refine k _ _ (ad' ++ [h2.objs.size]) h' tk m' hC0 (S1.no0 hC1) (x1.trans (y.adopt hD1)) (S'.adopt eD' hDn (S1.no0 hD1) pv) ⟨_, by rw [← S'.len]; exact nth_snoc _ _, rfl⟩ hn
  exact codeAny_compStart_list (fin _ rfl) (self_ok R4 (fin _ rfl))
end
end Mine
end
section
open PySem PySem.Spec PySem.Calls PyProof.Rows PySem.W
namespace Mine
set_option Elab.async false
set_option linter.unusedVariables false
set_option maxRecDepth 100000

section
variable {N : Nms} {X : Cx} {v : Ev} {r : Nat} {lay lay' : Lay} {env : Env} {cd ad ad' : List Addr} {σ : St} {H H' : Hp} {h h' : Heap} {s : Shared} {A : Around} {E : Value → Shared → Prop}

/-- a place that is no part of the frame is changed -/
theorem FR.updC (F : FR X lay env cd σ ad h) {b : Addr} {ob : Obj} (eb : h.get? b = some ob) (n : NC ob) (hL : b ≠ env.locals) (hc : b ∉ cd) (s : Heap.ExtBut b h h') : FR X lay env cd σ ad h' := by
  have kcell : ∀ c ov, c ∈ cd → h.IsCell c ov → h'.IsCell c ov := fun c ov hm ⟨o, e, d⟩ => ⟨o, s _ _ (fun q => hc (q ▸ hm)) e, d⟩
  refine ⟨?_, fun j c e => ?_, fun q e => ?_, F.hL, F.hcd, F.cdn, F.lnd, F.ll, F.lc⟩
  · obtain ⟨m, ⟨o, es, ep, e, hd, r⟩, k⟩ := F.ns
    refine ⟨m, ⟨o, es, ep, s _ _ hL.symm e, hd, r⟩, fun i x av h1 h2 => ?_⟩
    obtain ⟨v, e1, e2⟩ := k i x av h1 h2
    exact ⟨v, e1, e2.updW eb n s⟩
  · obtain ⟨ov, h1, h2⟩ := F.cel j c e
    refine ⟨ov, kcell _ _ (nth_mem e) h1, fun av q => ?_⟩
    obtain ⟨v, e1, e2⟩ := h2 av q
    exact ⟨v, e1, e2.updW eb n s⟩
  · obtain ⟨j, c, f, h1, h2, h3, rf, o, cl, doc, pm, c', ctv, i1, i2, i3, i4, i5⟩ := F.fn q e
    exact ⟨j, c, f, h1, h2, kcell _ _ (nth_mem h2) h3, rf, o, cl, doc, pm, c', ctv, i1, offW eb n s i2 (ncFn i3), i3, code_updW eb n s i4, i5⟩

theorem VR.keepC {v : Value} {av : AV} (k : ∀ p o, h.get? p = some o → o.cls ≠ .none → h'.get? p = some o) (r : VR ad h v av) : VR ad h' v av := by
  cases av with
  | none => exact r
  | bool => exact r
  | int => exact r
  | lst => exact r
  | pair a b => obtain ⟨p, t, u, n, rfl, e⟩ := r; exact ⟨p, t, u, n, rfl, k _ _ e (by nofun)⟩
  | rng a b c => obtain ⟨p, t, u, z, rfl, e⟩ := r; exact ⟨p, t, u, z, rfl, k _ _ e (by nofun)⟩
theorem tab_ne {P : Addr} {ps : Array Value} (eP : h.get? P = some (tabObj ps)) {p : Addr} {o : Obj} (e : h.get? p = some o) (hn : o.cls ≠ .none) : p ≠ P := fun q => by
  rw [q, eP] at e; cases e; exact hn rfl
theorem code_tab {P : Addr} {ps : Array Value} (eP : h.get? P = some (tabObj ps)) (ht : TriplesOk ps.toList) (x : Heap.ExtBut P h h') {c : Value} {q : Str} (r : h.CodeRec c q) : h'.CodeRec c q := by
  obtain ⟨a, o, vs, t, rfl, e, d, hv⟩ := r
  refine ⟨a, o, vs, t, rfl, x _ _ (fun q => ?_) e, d, hv⟩
  rw [q, eP] at e; cases e; cases d
  exact tabby_str ht hv
theorem SI.updTab (B : BOK X) (S : SI X ad H h) {d : TabD} (hd : d ∈ X.tabs) {ps : Array Value} (eP : h.get? d.P = some (tabObj ps)) (ht : TriplesOk ps.toList) (x : Heap.ExtBut d.P h h') (new : TabOK h' d) : SI X ad H h' := by
  have kc : ∀ p o, h.get? p = some o → o.cls ≠ .none → h'.get? p = some o := fun p o e hn => x _ _ (tab_ne eP e hn) e
  refine ⟨fun b o e => x _ _ (fun q => ?_) (S.base b o e), fun d' hd' => ?_, S.len, S.nd, fun k its q => ?_, S.fresh⟩
  · have := B.tabH d hd
    rw [← q, e] at this; cases this
  · by_cases q : d.P = d'.P
    · rw [← B.tabU d hd d' hd' q]; exact new
    · obtain ⟨ps', e, t', r⟩ := S.tabs d' hd'
      refine ⟨ps', x _ _ (fun z => q z.symm) e, t', r.imp id fun ⟨c', e1, e2⟩ => ⟨c', e1, code_tab eP ht x e2⟩⟩
  · obtain ⟨a, vs, n, e1, e2, e3⟩ := S.lists k its q
    exact ⟨a, vs, n, e1, kc _ _ e2 (by nofun), pd_imp (fun _ _ r => r.keepC kc) e3⟩
theorem FR.updTab (S : SI X ad H h) (F : FR X lay env cd σ ad h) {P : Addr} {ps : Array Value} (eP : h.get? P = some (tabObj ps)) (ht : TriplesOk ps.toList) (x : Heap.ExtBut P h h') : FR X lay env cd σ ad h' := by
  refine F.of (fun b o e q => x _ _ (fun z => ?_) e) (fun _ _ r => code_tab eP ht x r) fun _ _ r => r.keepC fun p o e hn => x _ _ (tab_ne eP e hn) e
  rw [z, eP] at e; cases e
  rcases q with ⟨_, _, q⟩ | ⟨_, q⟩ | ⟨_, q⟩ <;> cases q
theorem Ext.updTab {W : List Addr} {P : Addr} {ps : Array Value} {o' : Obj} (eP : h.get? P = some (tabObj ps)) (ht : TriplesOk ps.toList) (eP' : h'.get? P = some o') (x : Heap.ExtBut P h h') : Ext W ad h ad h' := by
  refine ⟨⟨[], by simp⟩, fun _ ha => .inl ha, fun c o e => ?_, fun c o e _ hn _ => x _ _ (fun q => ?_) e⟩
  · by_cases q : c = P
    · exact ⟨o', q ▸ eP'⟩
    · exact ⟨o, x _ _ q e⟩
  · rw [q, eP] at e; cases e
    exact hn ⟨ps, rfl, ht⟩

/-- an inner def is made -/
theorem def_ok (K : NOK N X) {name : Str} {params : Arguments} {body : List Stmt} {sc : Scope} {pos : Pos} {j q : Nat} {Q : Flow → Shared → Prop} (D : DefLay N lay name params body sc pos j q) (EO : EOK X lay env cd) (F : FR X lay env cd σ ad s.heap) (S : SI X ad H s.heap)
    (hj : nth σ.cel j = some .none) (k : KontS X ad s lay env cd H (.nx ⟨σ.loc, σ.cel, some q⟩) Q) : wpAny (model X.prog X.w) A (exec (.FunctionDef name params body [] none [] sc none name pos) env) Q E s := by
  refine nestDef_K D.d0 D.k0 (D.a0 env) ?_
  obtain ⟨cl, hcl, hlk⟩ := clos_ok (sc := sc) (env := env) fun y hy => by
    obtain ⟨j, hj⟩ := D.free y hy
    obtain ⟨c, _, e⟩ := EO.cells j y hj
    exact ⟨c, e⟩
  obtain ⟨rf, hrf, n1, n2, n3, n4, n5, n6⟩ := D.rf
  obtain ⟨d, rf', g1, g2, g3, g4, g5, g6, g7⟩ := EO.dfn q D.dfn
  rw [← K.inn, hrf] at g1
  cases g1
  rw [K.inn] at hrf
  subst n1 n2 n3 n4 n5
  rw [g7]
  obtain ⟨ps, eP, ht, hcase⟩ := S.tabs d g2
  have hgs : s.heap.Ns mainGlobals X.mg := K.B.g.keeps S.base
  obtain ⟨bm, ob, b1, b2, b3, b4, b5, b6⟩ := K.B.bmain
  have hgP : mainGlobals ≠ d.P := fun q => by
    obtain ⟨o, es, ep, e, hd, _⟩ := hgs
    rw [q, eP] at e; cases e; cases hd
  have hbP : bm ≠ d.P := fun q => by
    have e := S.base _ _ b3
    rw [q, eP] at e; cases e; cases b4
  have hbG : bm ≠ mainGlobals := fun q => by
    obtain ⟨o, es, ep, e, hd, _⟩ := K.B.g
    rw [q, e] at b3; cases b3; rw [hd] at b6; cases b6
  have hb : s.heap.BuiltinsAt X.mg d.P := ⟨bm, ob, b1, b2, hbG, hbP, S.base _ _ b3, b4, b5, b6⟩
  obtain ⟨c, hc, hl⟩ := EO.cells j _ D.cel
  -- what is common to both ways
  have fin : ∀ (h' : Heap) (c' : Addr) (ctv doc : Value) (tk : Nat), SI X ad H h' → FR X lay env cd σ ad h' → Ext (env.locals :: cdW lay cd) ad s.heap ad h' → h'.CodeRec (.ref c') rf.qual →
      wpAny (model X.prog X.w) A (storeName env rf.name (.ref h'.objs.size)) (fun _ s'' => Q .next s'') E { s with heap := h'.push (fnMade rf.name rf.qual rf.params rf.body rf.scope cl doc ((X.mg "__name__").getD .none) c' ctv), toks := tk } := by
    intro h' c' ctv doc tk S1 F1 x1 hrec
    have gp : ∀ b o, h'.get? b = some o → (h'.push (fnMade rf.name rf.qual rf.params rf.body rf.scope cl doc ((X.mg "__name__").getD .none) c' ctv)).get? b = some o := fun b o e => Heap.get?_push_of_some _ e
    have F2 := F1.grow S1 gp
    have S2 := S1.grow gp
    obtain ⟨ov, hcell, _⟩ := F2.cel j c hc
    obtain ⟨oc, ec, dc⟩ := id hcell
    refine wpAny_storeName_cell (fr_kind EO) (kind_of EO D.kind) hl hcell fun h3 hc3 hs3 => ?_
    have eb := hs3.extBut
    obtain ⟨oc3, ec3, _⟩ := id hc3
    refine k ad h3 tk (x1.trans ((Ext.push ad h' _).trans (Ext.updW ec3 hs3 (.tail _ (cdW_own D.own (nth_mem hc)))))) (S2.updW ec (ncCell dc) (F2.hcd c (nth_mem hc)) eb) ?_
    have kcell : ∀ c2 ov, c2 ≠ c → Heap.IsCell _ c2 ov → h3.IsCell c2 ov := fun c2 ov hne ⟨o, e1, hd⟩ => ⟨o, eb _ _ hne e1, hd⟩
    refine ⟨?_, fun j' c2 e1 => ?_, fun q' e1 => ?_, F2.hL, F2.hcd, F2.cdn, F2.lnd, F2.ll, F2.lc⟩
    · obtain ⟨m, ⟨o, es, ep, e, hd, r⟩, k2⟩ := F2.ns
      refine ⟨m, ⟨o, es, ep, eb _ _ (fun q => by rw [q, ec] at e; cases e; rw [dc] at hd; cases hd) e, hd, r⟩, fun i x av h1 h2 => ?_⟩
      obtain ⟨v', e1, e2⟩ := k2 i x av h1 h2
      exact ⟨v', e1, e2.updW ec (ncCell dc) eb⟩
    · by_cases hjj : j = j'
      · subst hjj
        rw [hc] at e1; cases e1
        refine ⟨_, hc3, fun av q => ?_⟩
        change nth σ.cel j = _ at q
        rw [hj] at q; cases q
      · obtain ⟨ov', h1, h2⟩ := F2.cel j' c2 e1
        refine ⟨ov', kcell _ _ (fun z => hjj (nodup_nth F2.cdn hc (z ▸ e1))) h1, fun av q => ?_⟩
        obtain ⟨v', e1, e2⟩ := h2 av q
        exact ⟨v', e1, e2.updW ec (ncCell dc) eb⟩
    · cases e1
      refine ⟨j, c, h'.objs.size, D.inn, hc, hc3, rf, _, cl, doc, _, c', ctv, hrf, eb _ _ (fun q => ?_) (Heap.get?_push_size _ rfl), rfl, code_updW ec (ncCell dc) eb ?_, fun j' y hy => ?_⟩
      · rw [← q] at ec
        rw [Heap.get?_push_size _ rfl] at ec
        cases ec
        cases dc
      · obtain ⟨a, o, vs, t, r1, r2, r3⟩ := hrec
        exact ⟨a, o, vs, t, r1, gp _ _ r2, r3⟩
      · obtain ⟨h5, h6⟩ := n6 j' y hy
        obtain ⟨c2, h7, h8⟩ := EO.cells j' y h5
        exact ⟨c2, h7, hlk y h6 c2 h8⟩
  rw [← g5]
  rcases hcase with hnf | ⟨c', hf, hrec⟩
  · refine makeFunction_K (mg := X.mg) hcl EO.g hgs g3 (g4.keeps S.base) eP ht hnf hgP hb fun c' ctv doc h' tk hx hge hlt hrec htb => ?_
    have S1 : SI X ad H h' := S.updTab K.B g2 eP ht hx ⟨_, htb, by simpa using TriplesOk_snoc _ _ _ _ ht, .inr ⟨c', by simpa using codeAmong_snoc _ ht hnf, by rw [g6]; exact hrec⟩⟩
    exact fin h' c' ctv doc tk S1 (F.updTab S eP ht hx) (Ext.updTab eP ht htb hx) hrec
  · refine makeFunction_hit (mg := X.mg) hcl EO.g hgs g3 (g4.keeps S.base) eP ht hf hb fun ctv doc h' tk hk hsz => ?_
    exact fin h' c' ctv doc tk (S.grow hk) (F.grow S hk) (Ext.grow hk) (by
      rw [← g6]
      obtain ⟨a, o, vs, t, r1, r2, r3⟩ := hrec
      exact ⟨a, o, vs, t, r1, hk _ _ r2, r3⟩)
end
end Mine
end
section
open PySem PySem.Spec PySem.Calls PyProof.Rows PySem.W
namespace Mine
set_option Elab.async false
set_option linter.unusedVariables false
set_option maxRecDepth 100000

section
variable {N : Nms} {X : Cx} {v : Ev} {r : Nat} {lay lay' : Lay} {env : Env} {cd ad ad' : List Addr} {σ : St} {H H' : Hp} {h h' : Heap} {s : Shared} {A : Around} {E : Value → Shared → Prop}

theorem sndComp (K : NOK N X) (V : Snd N X v r) {ce ci : CE} {co : Option CE} {e : Expr} {av : AV} {Q : Value → Shared → Prop} (h : stepE v (.comp ce ci co) σ H = some (av, H')) (m : ME N lay e (.comp ce ci co)) (EO : EOK X lay env cd) (F : FR X lay env cd σ ad s.heap) (S : SI X ad H s.heap) (a : AOK r A) (k : Kont X ad s H' av Q) :
    wpAny (model X.prog X.w) A (eval e env) Q E s := by
  dsimp only [stepE] at h
  cases m with
  | comp L hfo mi me mo =>
    rw [eval_ListComp]
    refine comp_ok (use := none) K V h L hfo mi me mo EO F S a fun D C ad' h' tk m' hC hC0 x S' rD hn => ?_
    refine ⟨m', hn, fun h'' hs => ?_⟩
    obtain ⟨o, es, ep, eo, hd, _⟩ := id hn
    exact k _ ad' h'' tk (x.endI hC hs.extBut) (S'.updW eo (ncD hd) hC0 hs.extBut) (rD.updW eo (ncD hd) hs.extBut)

theorem sndE_all (K : NOK N X) (V : Snd N X v r) {c : CE} {e : Expr} {av : AV} {Q : Value → Shared → Prop} (h : stepE v c σ H = some (av, H')) (m : ME N lay e c) (EO : EOK X lay env cd) (F : FR X lay env cd σ ad s.heap) (S : SI X ad H s.heap) (a : AOK r A) (k : Kont X ad s H' av Q) :
    wpAny (model X.prog X.w) A (eval e env) Q E s := by
  cases c with
  | callG => exact sndCallG K V h m EO F S a k
  | callI => exact sndCallI K V h m EO F S a k
  | comp => exact sndComp K V h m EO F S a k
  | _ => exact sndE K V rfl h m EO F S a k

theorem refless {v : Value} {x : AV} (hx : (!isRef x) = true) (r : VR ad h v x) {Q : Prop} (q : Q) : match (generalizing := false) v with | .ref _ => False | _ => Q := by
  cases x with
  | none => cases r; exact q
  | bool b => cases r; exact q
  | int i => obtain ⟨t, rfl⟩ := r; exact q
  | _ => cases hx
theorem noInter (EO : EOK X lay env cd) : interactive env = false := by
  unfold interactive
  rw [fr_kind EO]
  rfl
theorem mk_lst {n : Nat} {vs : List Value} {l : Addr} (e : s.heap.get? l = some (Lst vs n)) : s.heap.NoDictAt (.ref l) := ⟨_, e, rfl⟩

theorem swapsSole {t : Expr} {e : Expr} (hc : isComp e = false) (l : Nat) (env : Env) : swapsWithSole [t] e l env = pure false := noSwap hc _ _ _

/-- a method of a list is called -/
theorem meth_ok (K : NOK N X) (V : Snd N X v r) {x : Str} {px p1 p2 p : Pos} {name : Str} {id : String} {ca : CE} {es : List Expr} {ces : List CE} {l : AV} {as : List AV} {H1 H2 : Hp} {Q : Flow → Shared → Prop} (hm : MethOk (.Name x px) name p1 p2 es) (slot : Slot "list" name id) (hty : typeOf (.builtin id) = pure (.type "method_descriptor"))
    (e1 : v.E ca σ H = some (l, H1)) (e2 : evEs v ces σ H1 = some (as, H2)) (hl : ∃ k, l = .lst k) (ma : ME N lay (.Name x px) ca) (ms : MEs N lay es ces) (EO : EOK X lay env cd) (F : FR X lay env cd σ ad s.heap) (S : SI X ad H s.heap) (a : AOK r A)
    (k : ∀ vl vls ad2 h2 tk2, Ext [] ad s.heap ad2 h2 → SI X ad2 H2 h2 → FR X lay env cd σ ad2 h2 → VR ad2 h2 vl l → Paired (VR ad2 h2) vls as → wpAny (model X.prog X.w) A (call (.builtin id) (vl :: vls)) (fun v s' => v = .none ∧ Q .next s') E { s with heap := h2, toks := tk2 }) :
    wpAny (model X.prog X.w) A (exec (.Expr (.Call (.Attribute (.Name x px) name p1) es [] p2) p) env) Q E s := by
  refine wpAny_Expr ?_ (noInter EO) (noSwap rfl _ _ _)
  obtain ⟨pl, hm⟩ := hm
  refine MethodCall_ (V.E e1 ma EO F S a fun vl ad1 h1 tk1 x1 S1 r1 => ?_) (hm env)
  obtain ⟨kk, rfl⟩ := hl
  obtain ⟨b, eb, rfl⟩ := (show VR ad1 h1 vl (.lst kk) from r1)
  obtain ⟨vs, n, hb⟩ := S1.at (nth_mem eb)
  refine getMethod_list_of slot hty (isList_of hb) (mk_lst hb) ?_
  have F1 := F.ext0 S x1
  have post : ∀ vls ad2 h2 tk2, Ext [] ad1 h1 ad2 h2 → SI X ad2 H2 h2 → Paired (VR ad2 h2) vls as → wpAny (model X.prog X.w) A (call (.builtin id) (.ref b :: vls)) (fun v s' => match v with | .ref _ => False | _ => Q .next s') E { s with heap := h2, toks := tk2 } := fun vls ad2 h2 tk2 x2 S2 r2 =>
    wpAny_mono (k (.ref b) vls ad2 h2 tk2 (x1.trans x2) S2 (F1.ext0 S1 x2) (r1.ext S1 (WK.nil _) x2) r2) (fun v s' hq => by obtain ⟨rfl, hq⟩ := hq; exact hq) fun _ _ q => q
  cases ms with
  | nil =>
    cases e2
    exact callWith_method0 (post [] ad1 h1 tk1 (Ext.refl _ _) S1 .nil)
  | cons m ms =>
    refine callWith_method1 ?_ (m.star _ _) ms.plain
    exact seq_ok V e2 (.cons m ms) EO F1 S1 a fun vls ad2 h2 tk2 x2 S2 r2 => post vls ad2 h2 tk2 x2 S2 r2

theorem tgOk_sto (t t' : Tg) (x : AV) : tgOk (σ.sto t x) t' = tgOk σ t' := by
  cases t <;> cases t' <;> (first | rfl | (show Nat.blt _ (put _ _ _).length = _; rw [put_len]; rfl))
theorem mutL_lst {x : AV} {f : List AV → Option (List AV)} (e : mutL x H f = some H') : ∃ k, x = .lst k := by
  obtain ⟨k, xs, _, rfl, e, _⟩ := mutL_eq e
  exact ⟨k, rfl⟩
theorem fresh_frame (F : FR X lay env cd σ ad h) {I : Addr} (hI : h.get? I = none) : I ∉ env.locals :: cdW lay cd := fun q => by
  rcases List.mem_cons.mp q with rfl | q
  · obtain ⟨m, ⟨o', _, _, e', _⟩, _⟩ := F.ns
    rw [hI] at e'; cases e'
  · obtain ⟨i, hi, qi⟩ := List.getElem_of_mem (cdW_sub q)
    obtain ⟨ov, ⟨o', e', _⟩, _⟩ := F.cel i I (by rw [nth_eq, List.getElem?_eq_getElem hi, qi])
    rw [hI] at e'; cases e'

theorem sndS (K : NOK N X) (V : Snd N X v r) (hb : v.S .bad = fun _ _ => .none) {c : CS} {st : Stmt} {out : Out} {Q : Flow → Shared → Prop} (h : stepS v c σ H = some (out, H')) (m : MS N lay st c) (EO : EOK X lay env cd) (F : FR X lay env cd σ ad s.heap) (S : SI X ad H s.heap) (a : AOK r A)
    (k : KontS X ad s lay env cd H' out Q) : wpAny (model X.prog X.w) A (exec st env) Q E s := by
  dsimp only [stepS] at h
  cases m with
  | set tm hc me =>
    obtain ⟨⟨x, H1⟩, e1, h⟩ := bind_eq h
    obtain ⟨ok, h⟩ := guard_eq h
    cases h
    refine wpAny_Assign_Name (V.E e1 me EO F S a fun vl ad1 h1 tk1 x1 S1 r1 => ?_) (noSwap hc _ _ _)
    exact store EO S1 (F.ext0 S x1) tm ok r1 fun h2 tk2 S2 F2 x2 => k ad1 h2 tk2 (x1.lift.trans x2) S2 F2
  | setComp tm L hsw hfo mi me mo =>
    obtain ⟨⟨x, H1⟩, e1, h⟩ := bind_eq h
    obtain ⟨ok, h⟩ := guard_eq h
    cases h
    rw [exec_Assign_Name_used _ _ _ _ (hsw env EO.sc)]
    refine wpAny_bind (wpAny_standAt (wpAny_bind ?_))
    show wpAny _ A (do let _ ← comprehension _ _ env _ (newList []) false (eval _ env) (some (assign _ env))) _ _ s
    refine wpAny_bind (wpAny_mono (comp_ok (Q := fun _ s' => Q .next s') K V e1 L hfo mi me mo EO F S a fun D C ad' h' tk m' hC hC0 x S' rD hn => ?_) (fun _ s' hq => wpAny_pure (wpAny_pure hq)) fun _ _ e => e)
    have F' := F.ext0 S x
    obtain ⟨o, es, ep, eo, hd, _⟩ := id hn
    have hW : C ∉ env.locals :: cdW lay cd := fun q => by
      rcases List.mem_cons.mp q with rfl | q
      · obtain ⟨m, ⟨o', _, _, e', _⟩, _⟩ := F.ns
        rw [hC] at e'; cases e'
      · obtain ⟨i, hi, qi⟩ := List.getElem_of_mem (cdW_sub q)
        obtain ⟨ov, ⟨o', e', _⟩, _⟩ := F.cel i C (by rw [nth_eq, List.getElem?_eq_getElem hi, qi])
        rw [hC] at e'; cases e'
    have hcd : C ∉ cd := fun q => by
      obtain ⟨i, hi, qi⟩ := List.getElem_of_mem q
      obtain ⟨ov, ⟨o', e', _⟩, _⟩ := F.cel i C (by rw [nth_eq, List.getElem?_eq_getElem hi, qi])
      rw [hC] at e'; cases e'
    refine wpAny_assign_Name (store EO S' F' tm ok rD fun h2 tk2 S2 F2 x2 => ?_)
    have hk : ∀ o, h'.get? C = some o → (∃ es ep, o.data = .dict es ep) → h2.get? C = some o := fun o e ⟨es, ep, d⟩ => x2.keep C o e (not_list S' e fun vs n z => by rw [d] at z; cases z) (not_tabD fun vs z => by rw [d] at z; cases z) hW
    have hn2 : h2.Ns C m' := by
      obtain ⟨o, es, ep, eo, hd, r⟩ := hn
      exact ⟨o, es, ep, hk o eo ⟨_, _, hd⟩, hd, r⟩
    have eo2 := hk o eo ⟨_, _, hd⟩
    refine ⟨m', hn2, fun h3 hs3 => ?_⟩
    exact k ad' h3 tk2 ((x.lift.trans x2).endI hC hs3.extBut) (S2.updW eo2 (ncD hd) hC0 hs3.extBut) (F2.updC eo2 (ncD hd) (fun q => hW (by rw [q]; exact .head _)) hcd hs3.extBut)
  | set2 tx ty hw hs me =>
    obtain ⟨⟨x, H1⟩, e1, h⟩ := bind_eq h
    dsimp only at h
    split at h
    · obtain ⟨ok1, h⟩ := guard_eq h
      obtain ⟨ok2, h⟩ := guard_eq h
      cases h
      refine Assign_Tuple (V.E e1 me EO F S a fun vl ad1 h1 tk1 x1 S1 r1 => ?_) (hs env) (hw env)
      obtain ⟨p, t, u, n, rfl, ep⟩ := r1
      refine assign_Tuple_tuple a.hh (items := ([.int _ t, .int _ u] : List Value).toArray) ⟨_, ep, rfl, n, rfl⟩ rfl rfl fun h2 hx2 => ?_
      have g2 : ∀ b o, h1.get? b = some o → h2.get? b = some o := fun b o e => hx2 b o (fun q => absurd (Heap.lt_size e) (by rw [q]; exact Nat.lt_irrefl _)) e
      refine assignInOrder_cons (wpAny_assign_Name (store EO (S1.grow g2) ((F.ext0 S x1).grow S1 g2) tx ok1 (av := .int _) ⟨t, rfl⟩ fun h3 tk3 S3 F3 x3 => ?_))
      refine assignInOrder_cons (wpAny_assign_Name (store EO S3 F3 ty ?_ (av := .int _) ⟨u, rfl⟩ fun h4 tk4 S4 F4 x4 => ?_))
      · rw [tgOk_sto]; exact ok2
      · exact assignInOrder_nil (k ad1 h4 tk4 (((x1.lift.trans (Ext.grow g2)).trans x3).trans x4) S4 F4)
    · cases h
  | setT tx ty hw ma mb =>
    obtain ⟨⟨x, H1⟩, e1, h⟩ := bind_eq h
    obtain ⟨⟨y, H2⟩, e2, h⟩ := bind_eq h
    obtain ⟨ok1, h⟩ := guard_eq h
    obtain ⟨ok2, h⟩ := guard_eq h
    obtain ⟨_, h⟩ := guard_eq h
    cases h
    refine Assign_Tuple_swapped ?_ rfl (hw env EO.sc)
    refine wpAny_Tuple (seq_ok V (es2 e1 e2) (.cons ma (.cons mb .nil)) EO F S a fun vs ad1 h1 tk1 x1 S1 r1 => ?_)
    cases r1 with
    | cons r1 r2 =>
      cases r2 with
      | cons r2 r3 =>
        cases r3
        refine ⟨Nat.le_trans (Nat.le_of_ble_eq_true rfl) h999, ?_⟩
        refine unpackItems_tuple (s := { s with heap := h1.push _, toks := tk1 }) a.hh (items := ([_, _] : List Value).toArray) ⟨_, Heap.get?_push_size _ rfl, rfl, _, rfl⟩ fun h2 hx2 => ?_
        have g2 : ∀ b o, h1.get? b = some o → h2.get? b = some o := fun b o e => by
          have hs : ∀ o', b ≠ (h1.push o').objs.size := fun o' => by rw [Heap.size_push]; exact Nat.ne_of_lt (Nat.lt_succ_of_lt (Heap.lt_size e))
          exact hx2 b o (hs _) (Heap.get?_push_of_some _ e)
        have S2 := S1.grow g2
        have F2 := (F.ext0 S x1).grow S1 g2
        refine assignInOrder_cons (wpAny_bindName (store EO S2 F2 ty ok2 (r2.ext S1 (WK.nil _) (Ext.grow g2)) fun h3 tk3 S3 F3 x3 => ?_))
        have r1' := VR.ext S2 F2.WK x3 (r1.ext S1 (WK.nil _) (Ext.grow g2))
        refine assignInOrder_cons (wpAny_bindName (store EO S3 F3 tx ?_ r1' fun h4 tk4 S4 F4 x4 => ?_))
        · rw [tgOk_sto]; exact ok1
        · exact assignInOrder_nil (k ad1 h4 tk4 (((x1.lift.trans (Ext.grow g2)).trans x3).trans x4) S4 F4)
  | setI hc ma mi mv =>
    obtain ⟨⟨x, H1⟩, e1, h⟩ := bind_eq h
    obtain ⟨⟨l, H2⟩, e2, h⟩ := bind_eq h
    obtain ⟨⟨i, H3⟩, e3, h⟩ := bind_eq h
    refine wpAny_Assign_Subscript (V.E e1 mv EO F S a fun v1 ad1 h1 tk1 x1 S1 r1 => ?_) (noSwap hc _ _ _)
    have F1 := F.ext0 S x1
    refine V.E e2 ma EO F1 S1 a fun v2 ad2 h2 tk2 x2 S2 r2 => ?_
    have F2 := F1.ext0 S1 x2
    refine V.E e3 mi EO F2 S2 a fun v3 ad3 h3 tk3 x3 S3 r3 => ?_
    have F3 := F2.ext0 S2 x3
    dsimp only at h
    split at h
    · obtain ⟨H4, e4, h⟩ := bind_eq h
      cases h
      refine setI_ok (s := { s with heap := h3, toks := tk3 }) S3 (r2.ext S2 (WK.nil _) x3) r3 (r1.ext S1 (WK.nil _) (x2.trans x3)) e4 fun h4 S4 x4 => ?_
      exact k ad3 h4 tk3 ((x1.trans (x2.trans (x3.trans x4))).lift) S4 (F3.ext0 S3 x4)
    · cases h
  | expr hc me =>
    obtain ⟨⟨x, H1⟩, e1, h⟩ := bind_eq h
    obtain ⟨hr, h⟩ := guard_eq h
    cases h
    refine wpAny_Expr (V.E e1 me EO F S a fun v1 ad1 h1 tk1 x1 S1 r1 => ?_) (noInter EO) (noSwap hc _ _ _)
    exact refless hr r1 (k ad1 h1 tk1 x1.lift S1 (F.ext0 S x1))
  | append hm ma mv =>
    obtain ⟨⟨l, H1⟩, e1, h⟩ := bind_eq h
    obtain ⟨⟨x, H2⟩, e2, h⟩ := bind_eq h
    obtain ⟨H3, e3, h⟩ := bind_eq h
    cases h
    refine meth_ok K V hm PySem.F.slot_list_append PySem.F.type_list_append e1 (es1 e2) (mutL_lst e3) ma (.cons mv .nil) EO F S a fun vl vls ad2 h2 tk2 x2 S2 F2 rl rs => ?_
    · cases rs with
      | cons r2 r3 =>
        cases r3
        exact append_ok (s := { s with heap := h2, toks := tk2 }) S2 rl r2 e3 fun h4 S4 x4 => ⟨rfl, k ad2 h4 tk2 ((x2.trans x4).lift) S4 (F2.ext0 S2 x4)⟩
  | insert hm ma mi mv =>
    obtain ⟨⟨l, H1⟩, e1, h⟩ := bind_eq h
    obtain ⟨⟨i, H2⟩, e2, h⟩ := bind_eq h
    obtain ⟨⟨x, H3⟩, e3, h⟩ := bind_eq h
    dsimp only at h
    split at h
    · obtain ⟨H4, e4, h⟩ := bind_eq h
      cases h
      refine meth_ok K V hm PySem.F.slot_list_insert PySem.F.type_list_insert e1 (es2 e2 e3) (mutL_lst e4) ma (.cons mi (.cons mv .nil)) EO F S a fun vl vls ad2 h2 tk2 x2 S2 F2 rl rs => ?_
      · cases rs with
        | cons ri r2 =>
          cases r2 with
          | cons r2 r3 =>
            cases r3
            exact insert_ok (s := { s with heap := h2, toks := tk2 }) S2 rl ri r2 e4 fun h4 S4 x4 => ⟨rfl, k ad2 h4 tk2 ((x2.trans x4).lift) S4 (F2.ext0 S2 x4)⟩
    · cases h
  | reverse hm ma =>
    obtain ⟨⟨l, H1⟩, e1, h⟩ := bind_eq h
    obtain ⟨H2, e2, h⟩ := bind_eq h
    cases h
    refine meth_ok K V hm PySem.F.slot_list_reverse PySem.F.type_list_reverse e1 (rfl : evEs v [] σ H1 = _) (mutL_lst e2) ma .nil EO F S a fun vl vls ad2 h2 tk2 x2 S2 F2 rl rs => ?_
    cases rs
    exact reverse_ok (s := { s with heap := h2, toks := tk2 }) S2 rl e2 fun h4 S4 x4 => ⟨rfl, k ad2 h4 tk2 ((x2.trans x4).lift) S4 (F2.ext0 S2 x4)⟩
  | ite mc mt me =>
    obtain ⟨⟨t, H1⟩, e1, h⟩ := bind_eq h
    refine wpAny_If (V.T e1 mc EO F S a fun ad1 h1 tk1 x1 S1 => ?_)
    cases t with
    | true => exact execs_ok V h mt EO (F.ext0 S x1) S1 a hb (k.step x1.lift tk1)
    | false => exact execs_ok V h me EO (F.ext0 S x1) S1 a hb (k.step x1.lift tk1)
  | whil mc mb => exact wpAny_While (V.W h mc mb EO F S a k fun f s' q => q)
  | forIn tm mi mb =>
    obtain ⟨⟨x, H1⟩, e1, h⟩ := bind_eq h
    obtain ⟨src, e2, h⟩ := bind_eq h
    refine wpAny_For (V.E e1 mi EO F S a fun v1 ad1 h1 tk1 x1 S1 r1 => ?_) (mi.folded env)
    refine iter_ok S1 r1 e2 fun I h2 hI g2 R2 => ?_
    have hI' : h1.get? I = none := hI
    exact V.F h tm mb EO ((F.ext0 S x1).grow S1 g2) (S1.grow g2) a R2 (adB := ad1) (sB := { s with heap := h1, toks := tk1 }) (Ext.grow g2) hI (S1.no0 hI) (fresh_frame (F.ext0 S x1) hI) ⟨h2, tk1, rfl⟩ (k.step x1.lift tk1) fun f s' q => q
  | forRev tm g ma mb =>
    obtain ⟨⟨x, H1⟩, e1, h⟩ := bind_eq h
    dsimp only at h
    split at h
    · obtain ⟨xs, e2, h⟩ := bind_eq h
      obtain ⟨_, h⟩ := guard_eq h
      refine wpAny_For (ty1 K V (.tail _ (.tail _ (.tail _ (.tail _ (.tail _ (.tail _ (.head _))))))) g (.cons ma .nil) (es1 e1) EO F S a fun vs ad1 h1 tk1 x1 S1 r1 => ?_) (fun _ => rfl)
      cases r1 with
      | cons r1 r2 =>
        cases r2
        refine rev_ok S1 r1 e2 fun I h2 hI g2 R2 => self_ok R2 ?_
        exact V.F h tm mb EO ((F.ext0 S x1).grow S1 g2) (S1.grow g2) a R2 (adB := ad1) (sB := { s with heap := h1, toks := tk1 }) (Ext.grow g2) hI (S1.no0 hI) (fresh_frame (F.ext0 S x1) hI) ⟨h2, tk1, rfl⟩ (k.step x1.lift tk1) fun f s' q => q
    · cases h
  | ret me =>
    obtain ⟨⟨x, H1⟩, e1, h⟩ := bind_eq h
    cases h
    exact wpAny_Return_some (V.E e1 me EO F S a fun v1 ad1 h1 tk1 x1 S1 r1 => k v1 ad1 h1 tk1 x1.lift S1 r1)
  | retN =>
    cases h
    exact wpAny_Return_none (k .none ad s.heap s.toks (Ext.refl _ _) S rfl)
  | defI D =>
    dsimp only at h
    split at h
    · rename_i hj
      cases h
      exact def_ok K D EO F S hj k
    · cases h
end
end Mine
end
section
open PySem PySem.Spec PySem.Calls PyProof.Rows PySem.W
namespace Mine
set_option Elab.async false
set_option linter.unusedVariables false
set_option maxRecDepth 100000

section
variable {N : Nms} {X : Cx} {res : Nat} {lay lay' : Lay} {env : Env} {cd ad ad' : List Addr} {σ : St} {H H' : Hp} {h h' : Heap} {s : Shared} {A : Around} {E : Value → Shared → Prop} {fns inns : List CFn} {orc : Nat → List AV → Option Ans}

theorem bad_none : ∀ n, (ev fns inns orc n).S .bad = fun _ _ => .none
  | 0 => rfl
  | _ + 1 => rfl

theorem loopW {n : Nat} (ih : ∀ k, k < n → Snd N X (ev fns inns orc k) (k + res)) {c : CE} {b : List CS} {out : Out} (h : (ev fns inns orc n).W c b σ H = some (out, H')) {e : Expr} {body : List Stmt} {Q : Flow → Shared → Prop} {R : Result → Shared → Prop}
    (mc : ME N lay e c) (mb : MSs N lay body b) (EO : EOK X lay env cd) (F : FR X lay env cd σ ad s.heap) (S : SI X ad H s.heap) (a : AOK (n + res) A) (k : KontS X ad s lay env cd H' out Q) (hR : ∀ f s', Q f s' → R (.ok f) s') :
    codeAny (model X.prog X.w) A (.whileLoop e body [] env) R s := by
  refine codeAny_whileLoop (fun m s' => m ≤ n ∧ ∃ σ1 H1 ad1, (ev fns inns orc m).W c b σ1 H1 = some (out, H') ∧ FR X lay env cd σ1 ad1 s'.heap ∧ SI X ad1 H1 s'.heap ∧ KontS X ad1 s' lay env cd H' out Q) (fun m s' hI => ?_) n ⟨Nat.le_refl _, σ, H, ad, h, F, S, k⟩
  obtain ⟨hm, σ1, H1, ad1, h, F, S, k⟩ := hI
  cases m with
  | zero => cases h
  | succ m =>
    have V := ih m hm
    have a' : AOK (m + res) A := a.le (by omega)
    obtain ⟨⟨t, H2⟩, e1, h⟩ := bind_eq h
    refine V.T e1 mc EO F S a' fun ad2 h2 tk2 x2 S2 => ?_
    cases t with
    | false =>
      cases h
      exact wpAny_execs_nil (hR _ _ (k ad2 h2 tk2 x2.lift S2 (F.ext0 S x2)))
    | true =>
      obtain ⟨⟨o, H3⟩, e2, h⟩ := bind_eq h
      have k2 := k.step x2.lift tk2
      refine execs_ok V e2 mb EO (F.ext0 S x2) S2 a' (bad_none m) ?_
      cases o with
      | nx σ2 => exact fun ad3 h3 tk3 x3 S3 F3 => ⟨m, Nat.lt_succ_self _, Nat.le_of_lt hm, σ2, H3, ad3, h, F3, S3, k2.step x3 tk3⟩
      | rt x =>
        cases h
        exact fun vl ad3 h3 tk3 x3 S3 r3 => hR _ _ (k2 vl ad3 h3 tk3 x3 S3 r3)

theorem not_cd (F : FR X lay env cd σ ad h) {I : Addr} {o : Obj} {vs : Array Value} (e : h.get? I = some o) (d : o.data = .fields vs) : I ∉ cd ∧ I ≠ env.locals := by
  refine ⟨fun q => ?_, fun q => ?_⟩
  · obtain ⟨i, hi, qi⟩ := List.getElem_of_mem q
    obtain ⟨ov, ⟨o', e', d'⟩, _⟩ := F.cel i I (by rw [nth_eq, List.getElem?_eq_getElem hi, qi])
    rw [e] at e'; cases e'; rw [d] at d'; cases d'
  · obtain ⟨m, ⟨o', _, _, e', d', _⟩, _⟩ := F.ns
    rw [← q, e] at e'; cases e'; rw [d] at d'; cases d'

theorem loopF {n : Nat} (ih : ∀ k, k < n → Snd N X (ev fns inns orc k) (k + res)) {t : Tg} {b : List CS} {src : Src} {out : Out} (h : (ev fns inns orc n).F t b src σ H = some (out, H')) {x : Str} {px : Pos} {body : List Stmt} {I : Addr} {adB : List Addr} {sB : Shared} {Q : Flow → Shared → Prop} {R : Result → Shared → Prop}
    (tm : TgM lay t x) (mb : MSs N lay body b) (EO : EOK X lay env cd) (F : FR X lay env cd σ ad s.heap) (S : SI X ad H s.heap) (a : AOK (n + res) A) (R0 : SrcR ad s.heap I src)
    (xB : Ext (env.locals :: cdW lay cd) adB sB.heap ad s.heap) (hIB : sB.heap.get? I = none) (hI0 : X.h₀.get? I = none) (hIW : I ∉ env.locals :: cdW lay cd) (hs : ∃ h tk, s = { sB with heap := h, toks := tk }) (k : KontS X adB sB lay env cd H' out Q) (hR : ∀ f s', Q f s' → R (.ok f) s') :
    codeAny (model X.prog X.w) A (.forLoop (.Name x px) (.ref I) body [] env) R s := by
  refine codeAny_forLoop (fun m s' => m ≤ n ∧ ∃ src σ1 H1 ad1, (ev fns inns orc m).F t b src σ1 H1 = some (out, H') ∧ FR X lay env cd σ1 ad1 s'.heap ∧ SI X ad1 H1 s'.heap ∧ SrcR ad1 s'.heap I src ∧ Ext (env.locals :: cdW lay cd) adB sB.heap ad1 s'.heap ∧ ∃ h tk, s' = { sB with heap := h, toks := tk }) (fun m s' hI => ?_) n ⟨Nat.le_refl _, src, σ, H, ad, h, F, S, R0, xB, hs⟩
  obtain ⟨hm, src, σ1, H1, ad1, h, F, S, R0, xB, hb, tkb, rfl⟩ := hI
  cases m with
  | zero => cases h
  | succ m =>
    have V := ih m hm
    have a' : AOK (m + res) A := a.le (by omega)
    obtain ⟨o, e1, h⟩ := bind_eq h
    obtain ⟨oI, vI, eI, dI, nI⟩ := R0.obj
    obtain ⟨c1, c2⟩ := not_cd F eI dI
    refine next_ok S a.hh R0 e1 (fun z r' ho v h2 tk2 rv R2 sb => ?_) fun ho h2 sb => ?_
    · subst ho
      obtain ⟨ok, h⟩ := guard_eq h
      obtain ⟨⟨o, H3⟩, e2, h⟩ := bind_eq h
      have S2 := S.updW eI nI hI0 sb.extBut
      have F2 := F.updC eI nI c2 c1 sb.extBut
      refine wpAny_assign_Name (store EO S2 F2 tm ok (rv.updW eI nI sb.extBut) fun h3 tk3 S3 F3 x3 => ?_)
      have R3 := R2.keep S2 x3 hIW
      have x3' := (xB.endI hIB sb.extBut).trans x3
      refine execs_ok V e2 mb EO F3 S3 a' (bad_none m) ?_
      cases o with
      | nx σ2 => exact fun ad4 h4 tk4 x4 S4 F4 => ⟨m, Nat.lt_succ_self _, Nat.le_of_lt hm, r', σ2, H3, ad4, h, F4, S4, R3.keep S3 x4 hIW, x3'.trans x4, h4, tk4, rfl⟩
      | rt y =>
        cases h
        exact fun vl ad4 h4 tk4 x4 S4 r4 => hR _ _ (k vl ad4 h4 tk4 (x3'.trans x4) S4 r4)
    · subst ho
      cases h
      exact wpAny_execs_nil (hR _ _ (k ad1 h2 tkb (xB.endI hIB sb) (S.updW eI nI hI0 sb) (F.updC eI nI c2 c1 sb)))

/-! ### comprehensions -/
theorem VR.keepL {v : Value} {av : AV} (k : ∀ p o, h.get? p = some o → o.cls ≠ .type "list" → h'.get? p = some o) (r : VR ad h v av) : VR ad h' v av := by
  cases av with
  | none => exact r
  | bool => exact r
  | int => exact r
  | lst => exact r
  | pair a b => obtain ⟨p, t, u, n, rfl, e⟩ := r; exact ⟨p, t, u, n, rfl, k _ _ e (by simp)⟩
  | rng a b c => obtain ⟨p, t, u, z, rfl, e⟩ := r; exact ⟨p, t, u, z, rfl, k _ _ e (by simp)⟩
theorem keepD {D : Addr} {vs : List Value} {n : Nat} (eD : h.get? D = some (Lst vs n)) (s : Heap.ExtBut D h h') : ∀ p o, h.get? p = some o → o.cls ≠ .type "list" → h'.get? p = some o := fun p o e hn => s _ _ (fun q => by rw [q, eD] at e; cases e; exact hn rfl) e
theorem keepD' {D : Addr} {vs : List Value} {n : Nat} (eD : h.get? D = some (Lst vs n)) (s : Heap.ExtBut D h h') : ∀ p o, h.get? p = some o → (∀ vs n, o.data ≠ .seq vs n) → h'.get? p = some o := fun p o e hn => s _ _ (fun q => by rw [q, eD] at e; cases e; exact hn _ _ rfl) e
theorem code_keepD {D : Addr} {vs : List Value} {n : Nat} (eD : h.get? D = some (Lst vs n)) (s : Heap.ExtBut D h h') {c : Value} {q : Str} (r : h.CodeRec c q) : h'.CodeRec c q :=
  let ⟨a, o, vs, t, e2, e3, e4, e5⟩ := r; ⟨a, o, vs, t, e2, keepD' eD s _ _ e3 (fun _ _ z => by rw [e4] at z; cases z), e4, e5⟩
theorem SI.updL (S : SI X ad H h) {D : Addr} {vs : List Value} {n : Nat} (eD : h.get? D = some (Lst vs n)) (hD : D ∉ ad) (h0 : X.h₀.get? D = none) (s : Heap.ExtBut D h h') : SI X ad H h' := by
  refine ⟨fun b o e => s _ _ (fun q => by rw [q, h0] at e; cases e) (S.base b o e), fun d hd => ?_, S.len, S.nd, fun k its q => ?_, S.fresh⟩
  · obtain ⟨ps, e, ht, r⟩ := S.tabs d hd
    exact ⟨ps, keepD eD s _ _ e (by simp), ht, r.imp id fun ⟨c', e1, e2⟩ => ⟨c', e1, code_keepD eD s e2⟩⟩
  · obtain ⟨a, ws, m, e1, e2, e3⟩ := S.lists k its q
    exact ⟨a, ws, m, e1, s _ _ (fun q => hD (q ▸ nth_mem e1)) e2, pd_imp (fun _ _ r => r.keepL (keepD eD s)) e3⟩
theorem FR.updL (F : FR X lay env cd σ ad h) {D : Addr} {vs : List Value} {n : Nat} (eD : h.get? D = some (Lst vs n)) (s : Heap.ExtBut D h h') : FR X lay env cd σ ad h' := by
  refine F.of (fun b o e q => keepD' eD s _ _ e fun vs n z => ?_) (fun _ _ r => code_keepD eD s r) fun _ _ r => r.keepL (keepD eD s)
  rcases q with ⟨_, _, q⟩ | ⟨_, q⟩ | ⟨_, q⟩ <;> rw [q] at z <;> cases z
theorem SrcR.keepI {I : Addr} {r : Src} (k : ∀ o, h.get? I = some o → h'.get? I = some o) (R : SrcR ad h I r) : SrcR ad h' I r := by
  cases r with
  | lst k' i => obtain ⟨a, e, o, e1, r⟩ := R; exact ⟨a, e, o, k _ e1, r⟩
  | rev k' n => obtain ⟨a, e, o, e1, r⟩ := R; exact ⟨a, e, o, k _ e1, r⟩
  | rng a n c => exact k _ R

theorem loopC {n : Nat} (ih : ∀ k, k < n → Snd N X (ev fns inns orc k) (k + res)) {elt : CE} {cond : Option CE} {src : Src} {acc l : List AV} (h : (ev fns inns orc n).C elt cond src acc σ H = some (l, H')) {e it : Expr} {ifs : List Expr} {x : Str} {px p : Pos} {sc : Scope} {I D : Addr} {vs : List Value} {m₀ : Nat} {adB : List Addr} {hB : Heap} {R : Result → Shared → Prop} {o : Option AV}
    (me : ME N lay e elt) (mo : MO N lay ifs cond) (tm : TgM lay (.loc 0) x) (hown : lay.own = false) (hlen : lay.loc.length = 1) (EO : EOK X lay env cd) (F : FR X lay env cd ⟨[o], σ.cel, .none⟩ ad s.heap) (S : SI X ad H s.heap) (a : AOK (n + res) A) (R0 : SrcR ad s.heap I src)
    (eD : s.heap.get? D = some (Lst vs m₀)) (hD : D ∉ ad) (pv : Paired (VR ad s.heap) vs acc.reverse) (xB : Ext [] adB hB ad s.heap) (hIB : hB.get? I = none) (hDB : hB.get? D = none) (hLB : hB.get? env.locals = none) (hIL : I ≠ env.locals) (hI0 : X.h₀.get? I = none) (hD0 : X.h₀.get? D = none)
    (k : ∀ ad' h' tk vs' n' m', Ext [] adB hB ad' h' → SI X ad' H' h' → h'.get? D = some (Lst vs' n') → D ∉ ad' → Paired (VR ad' h') vs' l → h'.Ns env.locals m' → R (.ok .next) { s with heap := h', toks := tk }) :
    codeAny (model X.prog X.w) A (.compLoop (.ListComp e [⟨.Name x px, it, ifs, 0⟩] sc p) 0 (.ref I) (.ref D) env) R s := by
  have hW : ∀ b, b ∈ env.locals :: cdW lay cd → b = env.locals := fun b hb => by
    unfold cdW at hb
    rw [hown] at hb
    simpa using hb
  refine codeAny_compLoop_tests (fun m s' => m ≤ n ∧ ∃ src acc H1 ad1 o vs m₁, (ev fns inns orc m).C elt cond src acc σ H1 = some (l, H') ∧ FR X lay env cd ⟨[o], σ.cel, .none⟩ ad1 s'.heap ∧ SI X ad1 H1 s'.heap ∧ SrcR ad1 s'.heap I src ∧ s'.heap.get? D = some (Lst vs m₁) ∧ D ∉ ad1 ∧ Paired (VR ad1 s'.heap) vs acc.reverse ∧ Ext [] adB hB ad1 s'.heap ∧ ∃ h tk, s' = { s with heap := h, toks := tk })
    (fun m s' hI => ?_) n ⟨Nat.le_refl _, src, acc, H, ad, o, vs, m₀, h, F, S, R0, eD, hD, pv, xB, s.heap, s.toks, rfl⟩
  obtain ⟨hm, src, acc, H1, ad1, o, vs, m₁, h, F, S, R0, eD, hD, pv, xB, hb, tkb, rfl⟩ := hI
  cases m with
  | zero => cases h
  | succ m =>
    have V := ih m hm
    have a' : AOK (m + res) A := a.le (by omega)
    obtain ⟨q, e1, h⟩ := bind_eq h
    obtain ⟨oI, vI, eI, dI, nI⟩ := R0.obj
    obtain ⟨c1, c2⟩ := not_cd F eI dI
    have hDI : D ≠ I := fun z => by rw [z, eI] at eD; cases eD; cases dI
    have hDW : D ∉ env.locals :: cdW lay cd := fun z => by
      have := hW _ z
      obtain ⟨m, ⟨o', _, _, e', d', _⟩, _⟩ := F.ns
      rw [← this, eD] at e'; cases e'; cases d'
    have keepD2 : ∀ {W : List Addr} {ad2 ad3 : List Addr} {H2 : Hp} {h2 h3 : Heap} {ws : List Value} {q : Nat}, SI X ad2 H2 h2 → D ∉ ad2 → D ∉ W → Ext W ad2 h2 ad3 h3 → h2.get? D = some (Lst ws q) → h3.get? D = some (Lst ws q) ∧ D ∉ ad3 := fun S2 hD2 hW x e =>
      ⟨x.keep _ _ e hD2 (not_tab (by simp)) hW, fun z => by rcases x.new _ z with z | z; exact hD2 z; rw [e] at z; cases z⟩
    refine next_ok S a.hh R0 e1 (fun z r' ho v h2 tk2 rv R2 sb => ?_) fun ho h2 sb => ?_
    · subst ho
      have S2 := S.updW eI nI hI0 sb.extBut
      have F2 := F.updC eI nI c2 c1 sb.extBut
      have eD2 : h2.get? D = some (Lst vs m₁) := (sb.2 _ hDI).trans eD
      have x2 : Ext [] adB hB ad1 h2 := xB.endI hIB sb.extBut
      have pv2 : Paired (VR ad1 h2) vs acc.reverse := pd_imp (fun _ _ r => r.updW eI nI sb.extBut) pv
      have ok : tgOk (⟨[o], σ.cel, .none⟩ : St) (.loc 0) = true := rfl
      refine wpAny_assign_Name (store EO S2 F2 tm ok (rv.updW eI nI sb.extBut) fun h3 tk3 S3 F3 x3 => ?_)
      have F3' : FR X lay env cd ⟨[some z], σ.cel, .none⟩ ad1 h3 := F3
      have hIW : I ∉ env.locals :: cdW lay cd := fun z => hIL (hW _ z)
      have R3 := R2.keep S2 x3 hIW
      obtain ⟨eD3, _⟩ := keepD2 S2 hD hDW x3 eD2
      have pv3 := VRs.ext S2 F2.WK x3 pv2
      have x3' : Ext [] adB hB ad1 h3 := ((x2.up (W' := env.locals :: cdW lay cd) (fun _ z => nomatch z)).trans x3).drop fun b hb => .inr (by rw [hW b hb]; exact hLB)
      obtain ⟨⟨t, H4⟩, e2, h⟩ := bind_eq h
      have tests : ∀ {Q : Bool → Shared → Prop} {E : Value → Shared → Prop}, KontT X ad1 { s with heap := h3, toks := tk3 } H4 t Q →
          wpAny (model X.prog X.w) A (forIn ifs true fun c r => if r = true then do let ok ← isTrue c env (eval c env); pure (ForInStep.yield ok) else pure (ForInStep.yield r)) Q E { s with heap := h3, toks := tk3 } := by
        intro Q E kq
        cases mo with
        | none => cases e2; exact wpAny_tests_nil (kq ad1 h3 tk3 (Ext.refl _ _) S3)
        | some mc => exact wpAny_tests_one (V.T e2 mc EO F3' S3 a' kq)
      refine tests fun ad4 h4 tk4 x4 S4 => ?_
      have F4 := F3'.ext0 S3 x4
      have R4 := R3.keep S3 x4 (fun z => nomatch z)
      obtain ⟨eD4, hD4⟩ := keepD2 (W := []) S3 hD (fun z => nomatch z) x4 eD3
      have pv4 := VRs.ext S3 (WK.nil _) x4 pv3
      cases t with
      | false => exact ⟨m, Nat.lt_succ_self _, Nat.le_of_lt hm, r', acc, H4, ad4, some z, vs, m₁, h, F4, S4, R4, eD4, hD4, pv4, x3'.trans x4, h4, tk4, rfl⟩
      | true =>
        obtain ⟨⟨y, H5⟩, e3, h⟩ := bind_eq h
        obtain ⟨hl, h⟩ := guard_eq h
        refine V.E e3 me EO F4 S4 a' fun vl ad5 h5 tk5 x5 S5 r5 => ?_
        have F5 := F4.ext0 S4 x5
        have R5 := R4.keep S4 x5 (fun z => nomatch z)
        obtain ⟨eD5, hD5⟩ := keepD2 (W := []) S4 hD4 (fun z => nomatch z) x5 eD4
        have pv5 := VRs.ext S4 (WK.nil _) x5 pv4
        have hz : vs.toArray.size ≤ sizeLine := by
          rw [List.size_toArray, pd_len pv5, List.length_reverse]
          exact Nat.le_trans (Nat.le_of_lt (blt_lt hl)) h999
        refine call_meets PySem.F.slot_list_append ⟨_, eD5, rfl⟩ PySem.F.entry_list_append (PySem.F.args_list_append_2 _ _) (PySem.list_append D vs.toArray m₁ vl hz) ⟨eD5, ?_⟩
        have e6 := PySem.IsL.update (items := vs.toArray) (n := m₁) eD5 fun xs => xs.push vl
        have sb6 : Heap.SameBut D h5 (h5.update D (Obj.mapSeq fun xs => xs.push vl)) := Heap.SameBut.update ..
        have eq6 : (vs.toArray.push vl) = (vs ++ [vl]).toArray := by simp
        rw [eq6] at e6
        refine ⟨m, Nat.lt_succ_self _, Nat.le_of_lt hm, r', y :: acc, H5, ad5, some z, vs ++ [vl], _, h, F5.updL eD5 sb6.extBut, S5.updL eD5 hD5 hD0 sb6.extBut, R5.keepI fun o e => sb6.extBut _ _ (Ne.symm hDI) e, e6, hD5, ?_, ((x3'.trans x4).trans x5).endI hDB sb6.extBut, _, tk5, rfl⟩
        rw [List.reverse_cons]
        exact pd_app (pd_imp (fun _ _ r => r.keepL (keepD eD5 sb6.extBut)) pv5) (.cons (r5.keepL (keepD eD5 sb6.extBut)) .nil)
    · subst ho
      cases h
      obtain ⟨m', hn, _⟩ := (F.updC eI nI c2 c1 sb).ns
      exact k ad1 h2 tkb vs m₁ m' (xB.endI hIB sb) (S.updW eI nI hI0 sb) (sb _ _ hDI eD) hD (pd_imp (fun _ _ r => r.updW eI nI sb) pv) hn
end
end Mine
end
section
open PySem PySem.Spec PySem.Calls PyProof.Rows PySem.W
namespace Mine
set_option Elab.async false
set_option linter.unusedVariables false
set_option maxRecDepth 100000

/-- a parameter's place -/
def ParM (lay : Lay) (t : Tg) (x : Str) : Prop := match t with
  | .loc i => nth lay.loc i = some x ∧ lay.scope.names.lookup x = some .local
  | .cel j => nth lay.cel j = some (some x) ∧ lay.scope.names.lookup x = some .cell
def CelU (lay : Lay) : Prop := ∀ j j' y, nth lay.cel j = some (some y) → nth lay.cel j' = some (some y) → j = j'

section
variable {N : Nms} {X : Cx} {lay : Lay} {env : Env} {cd ad ad' : List Addr} {σ σ0 : St} {H H' : Hp} {h h' : Heap} {s : Shared} {A : Around} {E : Value → Shared → Prop} {m cm : Str → Option Value} {v : Ev} {r : Nat} {av : AV} {Q : Value → Shared → Prop}

structure MapsOK (lay : Lay) (σ : St) (m cm : Str → Option Value) (ad : List Addr) (h : Heap) : Prop where
  loc : ∀ i x av, nth lay.loc i = some x → nth σ.loc i = some (some av) → ∃ v, m x = some v ∧ VR ad h v av
  cel : ∀ j y av, nth lay.cel j = some (some y) → nth σ.cel j = some (some av) → ∃ v, cm y = some v ∧ VR ad h v av

theorem maps_ok {k : Str → Option NameKind} (hk : ∀ x, k x = lay.scope.names.lookup x) (hn : lay.loc.Nodup) (hu : CelU lay) : ∀ {par : List Tg} {ps : List Str} {as : List AV} {vals : List Value} {σ0 : St} {m cm : Str → Option Value}, stoAll σ0 par as = some σ → Paired (ParM lay) par ps → Paired (VR ad h) vals as → MapsOK lay σ0 m cm ad h →
    MapsOK lay σ (bindL k (ps.zip vals) m) (bindC k (ps.zip vals) cm) ad h ∧ σ.fn = σ0.fn ∧ σ.loc.length = σ0.loc.length ∧ σ.cel.length = σ0.cel.length ∧ ((∀ t ∈ par, ∃ i, t = .loc i) → σ.cel = σ0.cel)
  | [], _, [], _, σ0, m, cm, e, .nil, .nil, M => by cases e; exact ⟨M, rfl, rfl, rfl, fun _ => rfl⟩
  | t :: par, _, a :: as, _, σ0, m, cm, e, .cons (b := x) px ps, .cons (a := v) pv pvs, M => by
    obtain ⟨ok, e⟩ := guard_eq e
    cases t with
    | loc i =>
      obtain ⟨p1, p2⟩ := px
      have hl : k x = some .local := (hk x).trans p2
      have M' : MapsOK lay (σ0.sto (.loc i) a) (fun y => if y = x then some v else m y) cm ad h := by
        refine ⟨fun i' x' av h1 h2 => ?_, M.cel⟩
        rcases nth_put_inv h2 with ⟨rfl, q⟩ | ⟨hne, q⟩
        · rw [p1] at h1; cases h1; cases q
          exact ⟨v, by simp, pv⟩
        · obtain ⟨v', e1, e2⟩ := M.loc i' x' av h1 q
          exact ⟨v', by rw [if_neg (fun z : x' = x => hne (nodup_nth hn p1 (by rw [← z]; exact h1)))]; exact e1, e2⟩
      obtain ⟨r1, r2, r3, r4, r5⟩ := maps_ok hk hn hu e ps pvs M'
      refine ⟨?_, r2, r3.trans (put_len _ _ _), r4, fun hp => r5 fun t ht => hp t (.tail _ ht)⟩
      show MapsOK lay σ (bindL k ((x, v) :: _) m) (bindC k ((x, v) :: _) cm) ad h
      unfold bindL bindC
      rw [if_pos hl, if_pos hl]
      exact r1
    | cel j =>
      obtain ⟨p1, p2⟩ := px
      have hl : ¬ k x = some .local := by rw [hk x, p2]; decide
      have M' : MapsOK lay (σ0.sto (.cel j) a) m (fun y => if y = x then some v else cm y) ad h := by
        refine ⟨M.loc, fun j' y av h1 h2 => ?_⟩
        rcases nth_put_inv h2 with ⟨rfl, q⟩ | ⟨hne, q⟩
        · rw [p1] at h1; cases h1; cases q
          exact ⟨v, by simp, pv⟩
        · obtain ⟨v', e1, e2⟩ := M.cel j' y av h1 q
          exact ⟨v', by rw [if_neg (fun z : y = x => hne (hu j j' x p1 (by rw [← z]; exact h1)))]; exact e1, e2⟩
      obtain ⟨r1, r2, r3, r4, r5⟩ := maps_ok hk hn hu e ps pvs M'
      refine ⟨?_, r2, r3, r4.trans (put_len _ _ _), fun hp => ?_⟩
      · show MapsOK lay σ (bindL k ((x, v) :: _) m) (bindC k ((x, v) :: _) cm) ad h
        unfold bindL bindC
        rw [if_neg hl, if_neg hl]
        exact r1
      · obtain ⟨i, hi⟩ := hp _ (.head _); cases hi
  | [], _, _ :: _, _, _, _, _, e, _, _, _ => by cases e
  | _ :: _, _, [], _, _, _, _, e, _, _, _ => by cases e
theorem blank_len : ∀ n, (blank n).length = n
  | 0 => rfl
  | n + 1 => congrArg (· + 1) (blank_len n)
theorem blank_nth : ∀ {n i : Nat} {av : AV}, nth (blank n) i = some (some av) → False
  | 0, _, _, h => by cases h
  | _ + 1, 0, _, h => by cases h
  | n + 1, i + 1, _, h => blank_nth (n := n) (i := i) h
theorem bindL_lookup {k : Str → Option NameKind} : ∀ (binds : List (Str × Value)) (m : Str → Option Value), (∀ x ∈ binds, k x.1 = some .local) → ∀ x, bindL k binds m x = (binds.reverse.lookup x).or (m x)
  | [], m, _, x => by simp [bindL]
  | (n, v) :: r, m, hk, x => by
    unfold bindL
    rw [if_pos (hk _ (.head _)), bindL_lookup r _ (fun y hy => hk y (.tail _ hy)), List.reverse_cons, List.lookup_append]
    cases r.reverse.lookup x with
    | some z => rfl
    | none =>
      rw [List.lookup_cons]
      by_cases q : x = n
      · subst q; simp
      · rw [beq_false_of_ne q]; simp [q]

/-- what a def is -/
structure DefAt (N : Nms) (X : Cx) (f : Addr) (cf : CFn) : Prop where
  it : ∃ (o : Obj) (fd : FuncData) (body : List Stmt) (lay : Lay) (ps : List Str), X.h₀.get? f = some o ∧ o.data = .func fd ∧ fd.scope.isCoroutine = false ∧ fd.scope.isGenerator = false ∧ fd.scope.kind = .function ∧ fd.body = .stmts body ∧ X.h₀.CodeRec fd.code fd.qualname ∧ fd.closure = [] ∧ fd.globals = mainGlobals ∧ fd.builtins = builtinsNs ∧
    lay.scope = fd.scope ∧ MSs N lay body cf.body ∧ Paired (ParM lay) cf.par ps ∧ lay.loc.length = cf.nloc ∧ lay.loc.Nodup ∧ CelU lay ∧
    (∀ (vals : List Value) (as : List AV) (σ : St), vals.length = as.length → enter cf as = some σ → ∀ s : Shared, (∀ b o, X.h₀.get? b = some o → s.heap.get? b = some o) → ∃ dv : List Value, (∀ ad h, Paired (VR ad h) dv (cf.dfl.drop (as.length - (cf.par.length - cf.dfl.length)))) ∧ BindsTo s fd ⟨vals, []⟩ (ps.zip (vals ++ dv))) ∧
    (∀ L : Nat, ∃ cd : List Addr, cd.length = cf.ncel ∧ cd.Nodup ∧ (∀ c ∈ cd, L < c) ∧ (∀ j c, nth cd j = some c → ∃ y, nth lay.cel j = some (some y)) ∧ ∀ j y, nth lay.cel j = some (some y) → ∃ c, nth cd j = some c ∧ (cellsFrom (L + 1) fd.scope.names []).lookup y = some c) ∧
    (∀ q, lay.dfn = some q → ∃ d rf, nth X.inn q = some rf ∧ d ∈ X.tabs ∧ fd.code = .ref d.c ∧ CodeHd X.h₀ d.c d.P ∧ d.pos = rf.pos ∧ d.qual = rf.qual ∧ ∀ env : Env, env.scope = fd.scope → env.qual = fd.qualname ++ ".<locals>." → qualnameIn env rf.name rf.name = rf.qual)

theorem par_names {ps : List Str} {par : List Tg} : Paired (ParM lay) par ps → ∀ x ∈ ps, lay.scope.names.lookup x = some .local ∨ ∃ j, nth lay.cel j = some (some x) ∧ lay.scope.names.lookup x = some .cell
  | .cons (a := t) p q, x, hx => by
    rcases List.mem_cons.mp hx with rfl | hx
    · cases t with
      | loc i => exact .inl p.2
      | cel j => exact .inr ⟨j, p⟩
    · exact par_names q x hx
theorem zip_fst {α β : Type} : ∀ {l : List α} {r : List β} {x : α × β}, x ∈ l.zip r → x.1 ∈ l
  | a :: l, b :: r, x, h => by
    rcases List.mem_cons.mp h with rfl | h
    · exact .head _
    · exact .tail _ (zip_fst h)

theorem callG_ok (K : NOK N X) (V : Snd N X v r) (hb : v.S .bad = fun _ _ => .none) {f : Addr} {cf : CFn} {args : List AV} {vals : List Value} (D : DefAt N X f cf) (e1 : enter cf args = some σ) (e2 : leave (evSs v cf.body σ H) = some (av, H')) (S : SI X ad H s.heap) (a : AOK (r + 1) A) (pv : Paired (VR ad s.heap) vals args) (k : Kont X ad s H' av Q) :
    wpAny (model X.prog X.w) A (call (.ref f) vals) Q E s := by
  obtain ⟨o, fd, body, lay, ps, eo, hd, hco, hgen, hkd, hbody, hcode, hclo, hgl, hbu, hsc, mb, pp, hnl, hnd, hcu, hbind, hcells, hdfn⟩ := D.it
  obtain ⟨dv, pdv, B⟩ := hbind vals args σ (pd_len pv) e1 s S.base
  have hcd : s.heap.CodeRec fd.code fd.qualname := by
    obtain ⟨a, o, vs, t, r1, r2, r3⟩ := hcode
    exact ⟨a, o, vs, t, r1, S.base _ _ r2, r3⟩
  obtain ⟨cd, hc1, hc2, hc3, hc4, hc5⟩ := hcells s.heap.objs.size
  refine wpAny_call (codeAny_call_function (by have := a.dp; omega) (S.base _ _ eo) hd hco hgen hbody hcd (B _ _ _ _ ?_))
  rw [hclo]
  refine wpAny_newFunctionEnv_cells hkd (fun x hx => ?_) fun env he s' x => ?_
  · rcases par_names pp x.1 (zip_fst hx) with q | ⟨j, q1, q2⟩
    · exact .inl (hsc ▸ q)
    · obtain ⟨c, _, hl⟩ := hc5 j _ q1
      exact .inr ⟨hsc ▸ q2, by rw [hl]; rfl⟩
  have eL : env.locals = s.heap.objs.size := by rw [he]; rfl
  have eS : env.scope = lay.scope := by rw [he, hsc]; rfl
  have eC : env.cells = cellsFrom (s.heap.objs.size + 1) fd.scope.names [] := by rw [he]; rfl
  have gr : ∀ b o, s.heap.get? b = some o → s'.heap.get? b = some o := x.toInCall.keep
  refine ⟨(K.B.lim.keeps S.base).keeps gr, codeAny_func ?_⟩
  have hkk : ∀ x, env.kindOf x = lay.scope.names.lookup x := fun y => by show env.scope.names.lookup y = _; rw [eS]
  have e1' : stoAll ⟨blank cf.nloc, blank cf.ncel, .none⟩ cf.par (padArgs cf args) = some σ := (guard_eq e1).2
  have pv' : Paired (VR ad s'.heap) (vals ++ dv) (padArgs cf args) := pd_app (VRs.ext S (WK.nil _) (Ext.grow gr) pv) (pdv ad s'.heap)
  obtain ⟨M, m1, m2, m3, _⟩ := maps_ok (lay := lay) (k := env.kindOf) hkk hnd hcu e1' pp pv' (m := fun _ => none) (cm := fun _ => none) ⟨fun i x av _ q => (blank_nth q).elim, fun i x av _ q => (blank_nth q).elim⟩
  have fresh : ∀ c, s.heap.objs.size ≤ c → s.heap.get? c = none := fun c hc => by
    cases q : s.heap.get? c with
    | none => rfl
    | some o => exact absurd (Heap.lt_size q) (Nat.not_lt.mpr hc)
  have F : FR X lay env cd σ ad s'.heap := by
    refine ⟨⟨_, x.toInCall.ns, M.loc⟩, fun j c hj => ?_, fun q hq => ?_, ?_, fun c hc => ?_, hc2, hnd, by rw [m2, blank_len, hnl], by rw [m3, blank_len, hc1]⟩
    · obtain ⟨y, hy⟩ := hc4 j c hj
      obtain ⟨c', h1, h2⟩ := hc5 j y hy
      rw [hj] at h1; cases h1
      exact ⟨_, x.cell y c (by rw [eC]; exact h2), fun av hav => M.cel j y av hy hav⟩
    · rw [m1] at hq; cases hq
    · rw [eL]; exact S.no0 (fresh _ (Nat.le_refl _))
    · exact S.no0 (fresh _ (Nat.le_of_lt (hc3 c hc)))
  have EO : EOK X lay env cd := by
    refine ⟨eS, by rw [hsc]; exact hkd, by rw [he]; exact hgl, by rw [he]; exact hbu, fun j y hj => ?_, fun q hq => ?_⟩
    · obtain ⟨c, h1, h2⟩ := hc5 j y hj
      exact ⟨c, h1, by rw [eC]; exact h2⟩
    · obtain ⟨d, rf, g1, g2, g3, g4, g5, g6, g7⟩ := hdfn q hq
      exact ⟨d, rf, g1, g2, by rw [he]; exact g3, g4, g5, g6, g7 env (by rw [eS, hsc]) (by rw [he]; rfl)⟩
  have WF : ∀ b ∈ env.locals :: cdW lay cd, b ∈ ([] : List Addr) ∨ s.heap.get? b = none := fun b hb => by
    rcases List.mem_cons.mp hb with rfl | hb
    · exact .inr (by rw [eL]; exact fresh _ (Nat.le_refl _))
    · exact .inr (fresh _ (Nat.le_of_lt (hc3 b (cdW_sub hb))))
  obtain ⟨h1, tk1, hs'⟩ := x.toInCall.same
  obtain ⟨⟨o2, H2⟩, e3, e4⟩ := bind_eq e2
  refine execs_ok V e3 mb EO F (S.grow gr) (a.deep env) hb ?_
  cases o2 with
  | nx σ2 =>
    cases e4
    intro ad2 h2 tk2 x2 S2 F2
    have := k .none ad2 h2 tk2 (((Ext.grow gr).trans x2).drop WF) S2 rfl
    rw [hs']
    exact this
  | rt y =>
    cases e4
    intro vl ad2 h2 tk2 x2 S2 r2
    have := k vl ad2 h2 tk2 (((Ext.grow gr).trans x2).drop WF) S2 r2
    rw [hs']
    exact this

theorem pd_loc : ∀ {par : List Tg} {ps : List Str}, (∀ t ∈ par, ∃ i, t = .loc i) → Paired (ParM lay) par ps → Paired (ParM { lay with cel := [] }) par ps
  | _, _, _, .nil => .nil
  | t :: par, _, h, .cons p q => by
    obtain ⟨i, rfl⟩ := h t (.head _)
    exact .cons p (pd_loc (fun t ht => h t (.tail _ ht)) q)

/-- what an inner def is -/
structure InnDef (N : Nms) (rf : RFn) (cf : CFn) : Prop where
  sc : rf.lay.scope = rf.scope
  co : rf.scope.isCoroutine = false
  gen : rf.scope.isGenerator = false
  kind : rf.scope.kind = .function
  nocell : ∀ x ∈ rf.scope.names, x.2 ≠ .cell
  body : MSs N rf.lay rf.body cf.body
  own : rf.lay.own = false
  dfn : rf.lay.dfn = none
  nloc : rf.lay.loc.length = cf.nloc
  nd : rf.lay.loc.Nodup
  cu : CelU rf.lay
  loc : ∀ t ∈ cf.par, ∃ i, t = .loc i
  par : ∃ ps, Paired (ParM rf.lay) cf.par ps ∧ ∀ (vals : List Value) (as : List AV) (σ0 σ : St), vals.length = as.length → stoAll σ0 cf.par as = some σ → ∀ (s : Shared) cl doc pm c' ctv, BindsTo s (fnX rf.name rf.qual rf.params rf.body rf.scope cl .none .none doc pm none c' ctv) ⟨vals, []⟩ (ps.zip vals)

theorem callI_ok (K : NOK N X) (V : Snd N X v r) (hb : v.S .bad = fun _ _ => .none) {f c : Addr} {j q : Nat} {cf : CFn} {rf : RFn} {args : List AV} {vals : List Value} {σ1 : St} (hrf : nth X.inn q = some rf) (D : InnDef N rf cf) (hj : rf.lay.inn = some j) (F0 : FR X lay env cd σ ad s.heap) (hc : nth cd j = some c) (hcell : s.heap.IsCell c (some (.ref f))) (I : InnAt X q cd s.heap f)
    (e1 : enterI cf q args σ.cel = some σ1) (e2 : leave (evSs v cf.body σ1 H) = some (av, H')) (S : SI X ad H s.heap) (a : AOK (r + 1) A) (pv : Paired (VR ad s.heap) vals args) (k : Kont X ad s H' av Q) :
    wpAny (model X.prog X.w) A (call (.ref f) vals) Q E s := by
  obtain ⟨rf', o, cl, doc, pm, c', ctv, i1, i2, i3, i4, i5⟩ := id I
  rw [hrf] at i1; cases i1
  obtain ⟨ps, pp, hbind⟩ := D.par
  have e1' : stoAll ⟨blank cf.nloc, σ.cel, some q⟩ cf.par args = some σ1 := e1
  have B := hbind vals args _ _ (pd_len pv) e1' s cl doc pm (.ref c') ctv
  have hloc : ∀ x ∈ ps, rf.lay.scope.names.lookup x = some .local := fun x hx => by
    rcases par_names pp x hx with q | ⟨i, q1, q2⟩
    · exact q
    · have h3 := PySem.mem_of_lookup q2
      rw [D.sc] at h3
      exact absurd rfl (D.nocell _ h3)
  refine wpAny_call (codeAny_call_function (by have := a.dp; omega) i2 i3 D.co D.gen rfl i4 (B _ _ _ _ ?_))
  refine wpAny_newFunctionEnv (fun x hx => D.nocell x hx) (fun x hx => D.sc ▸ hloc x.1 (zip_fst hx)) (fun h1 hns hsb => ?_) D.kind
  dsimp only at hns hsb ⊢
  have fresh : ∀ c, s.heap.objs.size ≤ c → s.heap.get? c = none := fun c hc => by
    cases q : s.heap.get? c with
    | none => rfl
    | some o => exact absurd (Heap.lt_size q) (Nat.not_lt.mpr hc)
  have gr : ∀ b o, s.heap.get? b = some o → h1.get? b = some o := fun b o e => hsb.extBut b o (fun q => by rw [q, fresh _ (Nat.le_refl _)] at e; cases e) (Heap.get?_push_of_some _ e)
  refine ⟨(K.B.lim.keeps S.base).keeps gr, codeAny_func ?_⟩
  generalize he : newEnv rf.scope s.heap.objs.size mainGlobals cl (rf.qual ++ ".<locals>.") (some f) (.ref c') none builtinsNs = env'
  have eL : env'.locals = s.heap.objs.size := by rw [← he]; rfl
  have eS : env'.scope = rf.lay.scope := by rw [← he, D.sc]; rfl
  have eC : env'.cells = cl := by rw [← he]; rfl
  have hkk : ∀ x, env'.kindOf x = rf.lay.scope.names.lookup x := fun y => by show env'.scope.names.lookup y = _; rw [eS]
  have pv' : Paired (VR ad h1) vals args := VRs.ext S (WK.nil _) (Ext.grow gr) pv
  obtain ⟨M, m1, m2, m3, m4⟩ := maps_ok (lay := { rf.lay with cel := [] }) (k := env'.kindOf) hkk D.nd (fun _ _ _ z => nomatch z) e1' (pd_loc D.loc pp) pv' (m := fun _ => none) (cm := fun _ => none) ⟨fun i x av _ q => (blank_nth q).elim, fun i x av z _ => nomatch z⟩
  have F1 := F0.grow S gr
  have F : FR X rf.lay env' cd σ1 ad h1 := by
    refine ⟨⟨_, eL ▸ hns, fun i x av z1 z2 => ?_⟩, fun j' c2 z => ?_, fun q' hq => ?_, ?_, F1.hcd, F1.cdn, D.nd, by rw [m2, D.nloc]; exact blank_len _, by rw [m3]; exact F1.lc⟩
    · obtain ⟨v, z3, z4⟩ := M.loc i x av z1 z2
      refine ⟨v, ?_, z4⟩
      rw [bindL_lookup _ _ (fun y hy => (hkk y.1).trans (hloc y.1 (zip_fst hy)))] at z3
      simpa using z3
    · rw [m4 D.loc]
      exact F1.cel j' c2 z
    · rw [m1] at hq
      cases hq
      refine ⟨j, c, f, hj, hc, ?_, rf, o, cl, doc, pm, c', ctv, hrf, gr _ _ i2, i3, ?_, i5⟩
      · obtain ⟨o, z1, z2⟩ := hcell
        exact ⟨o, gr _ _ z1, z2⟩
      · obtain ⟨a, o, vs, t, r1, r2, r3⟩ := i4
        exact ⟨a, o, vs, t, r1, gr _ _ r2, r3⟩
    · rw [eL]; exact S.no0 (fresh _ (Nat.le_refl _))
  have EO : EOK X rf.lay env' cd := by
    refine ⟨eS, by rw [D.sc]; exact D.kind, by rw [← he]; rfl, by rw [← he]; rfl, fun j' y z => ?_, fun q' hq => ?_⟩
    · obtain ⟨c2, z1, z2⟩ := i5 j' y z
      exact ⟨c2, z1, by rw [eC]; exact z2⟩
    · rw [D.dfn] at hq; cases hq
  have WF : ∀ b ∈ env'.locals :: cdW rf.lay cd, b ∈ ([] : List Addr) ∨ s.heap.get? b = none := fun b hb => by
    rcases List.mem_cons.mp hb with rfl | hb
    · exact .inr (by rw [eL]; exact fresh _ (Nat.le_refl _))
    · unfold cdW at hb
      rw [D.own] at hb
      cases hb
  obtain ⟨⟨o2, H2⟩, e3, e4⟩ := bind_eq e2
  refine execs_ok V e3 D.body EO F (S.grow gr) (a.deep env') hb ?_
  cases o2 with
  | nx σ2 =>
    cases e4
    exact fun ad2 h2 tk2 x2 S2 F2 => k .none ad2 h2 tk2 (((Ext.grow gr).trans x2).drop WF) S2 rfl
  | rt y =>
    cases e4
    exact fun vl ad2 h2 tk2 x2 S2 r2 => k vl ad2 h2 tk2 (((Ext.grow gr).trans x2).drop WF) S2 r2
end
end Mine
end
section
open PySem PySem.Spec PySem.Calls PyProof.Rows PySem.W
namespace Mine
set_option Elab.async false
set_option linter.unusedVariables false
set_option maxRecDepth 100000

/-- an oracle tells the truth -/
def OrcOK (N : Nms) (X : Cx) (res : Nat) (orc : Nat → List AV → Option Ans) : Prop :=
  ∀ k args a, orc k args = some a → ∀ {nm f}, nth N.fn k = some nm → X.mg nm = some (.ref f) → ∀ {vals s ad H A Q E}, SI X ad H s.heap → AOK res A → Paired (VR ad s.heap) vals args → Kont X ad s (ofAns a H).2 (ofAns a H).1 Q → wpAny (model X.prog X.w) A (call (.ref f) vals) Q E s

section
variable {N : Nms} {X : Cx} {res : Nat} {fns inns : List CFn} {orc : Nat → List AV → Option Ans}

theorem snd0 {r : Nat} : Snd N X ev0 r := by
  refine ⟨?_, ?_, ?_, ?_, ?_, ?_, ?_, ?_⟩
  · intro c σ H av H' h; cases h
  · intro c σ H av H' h; cases h
  · intro a b c d σ H av H' h; cases h
  · intro c σ H av H' h; cases h
  · intro c b σ H av H' h; cases h
  · intro c b d σ H av H' h; cases h
  · intro c σ H av H' h; cases h
  · intro c b σ H av H' h; cases h

theorem snd_all (K : NOK N X) (Df : ∀ k cf args σ, nth fns k = some cf → enter cf args = some σ → ∀ nm f, nth N.fn k = some nm → X.mg nm = some (.ref f) → DefAt N X f cf) (In : ∀ q cf rf, nth inns q = some cf → nth X.inn q = some rf → InnDef N rf cf) (Or : OrcOK N X res orc) :
    ∀ n, Snd N X (ev fns inns orc n) (n + res) := by
  intro n
  induction n using Nat.strongRecOn with
  | ind n ih =>
    cases n with
    | zero => exact snd0
    | succ n =>
      have V := ih n (Nat.lt_succ_self _)
      have hb : (ev fns inns orc n).S .bad = fun _ _ => .none := bad_none n
      refine ⟨?_, ?_, ?_, ?_, ?_, ?_, ?_, ?_⟩
      · intro c σ H av H' h lay e env cd ad s A Q E m EO F S a k
        exact sndE_all K V h m EO F S (a.le (by omega)) k
      · intro c σ H b H' h lay e env cd ad s A Q E m EO F S a k
        exact sndT V h m EO F S (a.le (by omega)) k
      · intro elt cond src acc σ H l H' h lay e it ifs x px sc p env cd ad s A I D vs n' adB hB R o me mo tm ho hl EO F S a R0 eD hD pv xB hI hD' hL hIL hI0 hD0 k
        exact loopC ih h me mo tm ho hl EO F S a R0 eD hD pv xB hI hD' hL hIL hI0 hD0 k
      · intro c σ H out H' h lay st env cd ad s A Q E m EO F S a k
        exact sndS K V hb h m EO F S (a.le (by omega)) k
      · intro c b σ H out H' h lay e body env cd ad s A Q R mc mb EO F S a k hR
        exact loopW ih h mc mb EO F S a k hR
      · intro t b src σ H out H' h lay x px body env cd ad s A I adB sB Q R tm mb EO F S a R0 xB hI hI0 hIW hs k hR
        exact loopF ih h tm mb EO F S a R0 xB hI hI0 hIW hs k hR
      · intro k args H av H' h nm f vals ad s A Q E hn hf S a pv kq
        have h : stepG fns orc (ev fns inns orc n) k args H = some (av, H') := h
        unfold stepG at h
        split at h
        · rename_i ans ho
          have h1 : ofAns ans H = (av, H') := Option.some.inj h
          exact Or k args ans ho hn hf S (a.le (by omega)) pv (by rw [h1]; exact kq)
        · obtain ⟨cf, e1, h⟩ := bind_eq h
          obtain ⟨σ, e2, h⟩ := bind_eq h
          exact callG_ok K V hb (Df k cf args σ e1 e2 nm f hn hf) e2 h S (a.le (by omega)) pv kq
      · intro q args σ H av H' h lay env cd j c f vals ad s A Q E F hij hc hcell I S a pv kq
        have h : stepI inns (ev fns inns orc n) q args σ H = some (av, H') := h
        obtain ⟨cf, e1, h⟩ := bind_eq h
        obtain ⟨σ', e2, h⟩ := bind_eq h
        obtain ⟨rf, o, cl, doc, pm, c', ctv, i1, _⟩ := id I
        exact callI_ok K V hb i1 (In q cf rf e1 i1) (hij q rf i1) F hc hcell I e2 h S (a.le (by omega)) pv kq
end
end Mine
end
section
open PySem
namespace Mine
set_option Elab.async false
set_option maxRecDepth 100000
def allTo : Nat → (Nat → Bool) → Bool
  | 0, _ => true
  | n + 1, f => match f n with
    | true => allTo n f
    | false => false
theorem allTo_at : ∀ {n : Nat} {f : Nat → Bool}, allTo n f = true → ∀ i, i < n → f i = true
  | 0, _, _, _, h => absurd h (Nat.not_lt_zero _)
  | n + 1, f, h, i, hi => by
    unfold allTo at h
    split at h
    · rename_i q
      rcases Nat.lt_succ_iff_lt_or_eq.mp hi with r | r
      · exact allTo_at h i r
      · rw [r]; exact q
    · cases h
def okD (a b : Nat) : Bool := match b with
  | 0 => true
  | b + 1 => match Nat.ble (b + 1) a with
    | true => okDiv 40 a (b + 1)
    | false => true
def okP (n : Nat) : Bool := match prs n, nth prTab n with
  | some l, some r => l == r
  | _, _ => false
theorem dv1 : allTo 2 (okD 1) = true := by decide +kernel
theorem dv2 : allTo 3 (okD 2) = true := by decide +kernel
theorem dv3 : allTo 4 (okD 3) = true := by decide +kernel
theorem dv4 : allTo 5 (okD 4) = true := by decide +kernel
theorem dv5 : allTo 6 (okD 5) = true := by decide +kernel
theorem dv6 : allTo 7 (okD 6) = true := by decide +kernel
theorem dv7 : allTo 8 (okD 7) = true := by decide +kernel
theorem dv8 : allTo 9 (okD 8) = true := by decide +kernel
theorem dv9 : allTo 10 (okD 9) = true := by decide +kernel
theorem dv10 : allTo 11 (okD 10) = true := by decide +kernel
theorem dv11 : allTo 12 (okD 11) = true := by decide +kernel
theorem dv12 : allTo 13 (okD 12) = true := by decide +kernel
theorem dv13 : allTo 14 (okD 13) = true := by decide +kernel
theorem dv14 : allTo 15 (okD 14) = true := by decide +kernel
theorem dv15 : allTo 16 (okD 15) = true := by decide +kernel
theorem dv16 : allTo 17 (okD 16) = true := by decide +kernel
theorem dv17 : allTo 18 (okD 17) = true := by decide +kernel
theorem dv18 : allTo 19 (okD 18) = true := by decide +kernel
theorem dv19 : allTo 20 (okD 19) = true := by decide +kernel
theorem dv20 : allTo 21 (okD 20) = true := by decide +kernel
theorem dv21 : allTo 22 (okD 21) = true := by decide +kernel
theorem dv22 : allTo 23 (okD 22) = true := by decide +kernel
theorem dv23 : allTo 24 (okD 23) = true := by decide +kernel
theorem dv24 : allTo 25 (okD 24) = true := by decide +kernel
theorem pr2 : okP 2 = true := by decide +kernel
theorem pr3 : okP 3 = true := by decide +kernel
theorem pr4 : okP 4 = true := by decide +kernel
theorem pr5 : okP 5 = true := by decide +kernel
theorem pr6 : okP 6 = true := by decide +kernel
theorem pr7 : okP 7 = true := by decide +kernel
theorem pr8 : okP 8 = true := by decide +kernel
theorem pr9 : okP 9 = true := by decide +kernel
theorem pr10 : okP 10 = true := by decide +kernel
theorem pr11 : okP 11 = true := by decide +kernel
theorem pr12 : okP 12 = true := by decide +kernel
theorem pr13 : okP 13 = true := by decide +kernel
theorem pr14 : okP 14 = true := by decide +kernel
theorem pr15 : okP 15 = true := by decide +kernel
theorem pr16 : okP 16 = true := by decide +kernel
theorem pr17 : okP 17 = true := by decide +kernel
theorem pr18 : okP 18 = true := by decide +kernel
theorem pr19 : okP 19 = true := by decide +kernel
theorem pr20 : okP 20 = true := by decide +kernel
theorem pr21 : okP 21 = true := by decide +kernel
theorem pr22 : okP 22 = true := by decide +kernel
theorem pr23 : okP 23 = true := by decide +kernel
theorem pr24 : okP 24 = true := by decide +kernel
theorem lw2 : okLaw 2 = true := by decide +kernel
theorem lw3 : okLaw 3 = true := by decide +kernel
theorem lw4 : okLaw 4 = true := by decide +kernel
theorem lw5 : okLaw 5 = true := by decide +kernel
theorem lw6 : okLaw 6 = true := by decide +kernel
theorem lw7 : okLaw 7 = true := by decide +kernel
theorem lw8 : okLaw 8 = true := by decide +kernel
theorem lw9 : okLaw 9 = true := by decide +kernel
theorem lw10 : okLaw 10 = true := by decide +kernel
theorem lw11 : okLaw 11 = true := by decide +kernel
theorem lw12 : okLaw 12 = true := by decide +kernel
theorem lw13 : okLaw 13 = true := by decide +kernel
theorem lw14 : okLaw 14 = true := by decide +kernel
theorem lw15 : okLaw 15 = true := by decide +kernel
theorem lw16 : okLaw 16 = true := by decide +kernel
theorem lw17 : okLaw 17 = true := by decide +kernel
theorem lw18 : okLaw 18 = true := by decide +kernel
theorem lw19 : okLaw 19 = true := by decide +kernel
theorem lw20 : okLaw 20 = true := by decide +kernel
theorem lw21 : okLaw 21 = true := by decide +kernel
theorem lw22 : okLaw 22 = true := by decide +kernel
theorem lw23 : okLaw 23 = true := by decide +kernel
theorem lw24 : okLaw 24 = true := by decide +kernel
theorem dv_all : ∀ a b : Nat, 1 ≤ a → a ≤ 24 → 1 ≤ b → b ≤ a → okDiv 40 a b = true := by
  intro a b h1 h2 h3 h4
  have key : allTo (a + 1) (okD a) = true := by
    match a, h1, h2 with
    | 1, _, _ => exact dv1
    | 2, _, _ => exact dv2
    | 3, _, _ => exact dv3
    | 4, _, _ => exact dv4
    | 5, _, _ => exact dv5
    | 6, _, _ => exact dv6
    | 7, _, _ => exact dv7
    | 8, _, _ => exact dv8
    | 9, _, _ => exact dv9
    | 10, _, _ => exact dv10
    | 11, _, _ => exact dv11
    | 12, _, _ => exact dv12
    | 13, _, _ => exact dv13
    | 14, _, _ => exact dv14
    | 15, _, _ => exact dv15
    | 16, _, _ => exact dv16
    | 17, _, _ => exact dv17
    | 18, _, _ => exact dv18
    | 19, _, _ => exact dv19
    | 20, _, _ => exact dv20
    | 21, _, _ => exact dv21
    | 22, _, _ => exact dv22
    | 23, _, _ => exact dv23
    | 24, _, _ => exact dv24
    | n + 25, _, h => exact absurd h (by omega)
  have := allTo_at key b (by omega)
  unfold okD at this
  cases b with
  | zero => exact absurd h3 (by decide)
  | succ b =>
    have this : (match Nat.ble (b + 1) a with | true => okDiv 40 a (b + 1) | false => true) = true := this
    rw [Nat.ble_eq_true_of_le h4] at this
    exact this
theorem pr_all : ∀ n : Nat, 2 ≤ n → n ≤ 24 → okP n = true := by
  intro a h1 h2
  match a, h1, h2 with
  | 2, _, _ => exact pr2
  | 3, _, _ => exact pr3
  | 4, _, _ => exact pr4
  | 5, _, _ => exact pr5
  | 6, _, _ => exact pr6
  | 7, _, _ => exact pr7
  | 8, _, _ => exact pr8
  | 9, _, _ => exact pr9
  | 10, _, _ => exact pr10
  | 11, _, _ => exact pr11
  | 12, _, _ => exact pr12
  | 13, _, _ => exact pr13
  | 14, _, _ => exact pr14
  | 15, _, _ => exact pr15
  | 16, _, _ => exact pr16
  | 17, _, _ => exact pr17
  | 18, _, _ => exact pr18
  | 19, _, _ => exact pr19
  | 20, _, _ => exact pr20
  | 21, _, _ => exact pr21
  | 22, _, _ => exact pr22
  | 23, _, _ => exact pr23
  | 24, _, _ => exact pr24
  | 0, h, _ => exact absurd h (by decide)
  | 1, h, _ => exact absurd h (by decide)
  | n + 25, _, h => exact absurd h (by omega)
theorem lw_all : ∀ n : Nat, 2 ≤ n → n ≤ 24 → okLaw n = true := by
  intro a h1 h2
  match a, h1, h2 with
  | 2, _, _ => exact lw2
  | 3, _, _ => exact lw3
  | 4, _, _ => exact lw4
  | 5, _, _ => exact lw5
  | 6, _, _ => exact lw6
  | 7, _, _ => exact lw7
  | 8, _, _ => exact lw8
  | 9, _, _ => exact lw9
  | 10, _, _ => exact lw10
  | 11, _, _ => exact lw11
  | 12, _, _ => exact lw12
  | 13, _, _ => exact lw13
  | 14, _, _ => exact lw14
  | 15, _, _ => exact lw15
  | 16, _, _ => exact lw16
  | 17, _, _ => exact lw17
  | 18, _, _ => exact lw18
  | 19, _, _ => exact lw19
  | 20, _, _ => exact lw20
  | 21, _, _ => exact lw21
  | 22, _, _ => exact lw22
  | 23, _, _ => exact lw23
  | 24, _, _ => exact lw24
  | 0, h, _ => exact absurd h (by decide)
  | 1, h, _ => exact absurd h (by decide)
  | n + 25, _, h => exact absurd h (by omega)
end Mine
end
section
open PySem PySem.Spec PySem.Calls PyProof.Rows PySem.W
namespace Mine
set_option Elab.async false
set_option linter.unusedVariables false
set_option maxRecDepth 100000
set_option maxHeartbeats 4000000

def compL (lay : Lay) (sc : Scope) (x : Str) : Lay := ⟨relS sc lay.scope, [x], lay.cel.map fun o => match o with | some y => if sc.names.contains (y, .free) then some y else none | none => none, none, none, false⟩
def compOk (lay : Lay) (sc : Scope) (x : Str) : Bool :=
  sc.kind == .function && sc.names.all (fun y => y.2 != .cell && (y.2 != .local || sc.names.lookup y.1 == some .local) && (y.2 != .free || lay.cel.any fun o => o == some y.1)) && sc.names.lookup x == some .local
theorem nth_map {α β : Type} (f : α → β) : ∀ (l : List α) (i : Nat), nth (l.map f) i = (nth l i).map f
  | [], _ => rfl
  | _ :: _, 0 => rfl
  | _ :: l, i + 1 => nth_map f l i
theorem nth_of_mem {α : Type} : ∀ {l : List α} {x : α}, x ∈ l → ∃ i, nth l i = some x
  | _ :: _, _, .head _ => ⟨0, rfl⟩
  | _ :: l, _, .tail _ h => let ⟨i, e⟩ := nth_of_mem (l := l) h; ⟨i + 1, e⟩
theorem inn_cel {sc : Scope} {cel : List (Option Str)} (j : Nat) (y : Str) (hj : nth (cel.map fun o => match o with | some y => if sc.names.contains (y, .free) then some y else none | none => none) j = some (some y)) :
    nth cel j = some (some y) ∧ (y, NameKind.free) ∈ sc.names := by
  rw [nth_map] at hj
  cases e : nth cel j with
  | none => rw [e] at hj; cases hj
  | some o =>
    rw [e] at hj
    cases o with
    | none => cases hj
    | some z =>
      simp only [Option.map_some, Option.some.injEq] at hj
      split at hj
      · rename_i hc
        cases hj
        exact ⟨rfl, by simpa using hc⟩
      · cases hj
theorem compLay_of {lay : Lay} {sc : Scope} {x : Str} (h : compOk lay sc x = true) : CompLay lay sc x (compL lay sc x) := by
  unfold compOk at h
  simp only [Bool.and_eq_true, List.all_eq_true, beq_iff_eq] at h
  obtain ⟨⟨h1, h2⟩, h3⟩ := h
  refine ⟨h1, fun y hy => ?_, fun y hy hl => ?_, h3, rfl, rfl, rfl, rfl, rfl, fun y hy => ?_, fun j y hj => ?_⟩
  · have := (h2 y hy).1.1
    simpa using this
  · have := (h2 y hy).1.2
    simpa [hl] using this
  · have := (h2 _ hy).2
    simp only [bne_self_eq_false, Bool.false_or, List.any_eq_true, beq_iff_eq] at this
    obtain ⟨o, ho, rfl⟩ := this
    exact nth_of_mem ho
  · exact inn_cel j y hj

def stAt (i : Nat) : Stmt := (nth PySem.Challenge.pw_hc0005_01.main.body i).getD (.Pass default)
def bodyOf (s : Stmt) : List Stmt := match s with | .FunctionDef _ _ b _ _ _ _ _ _ _ => b | _ => []
def scopeOf (s : Stmt) : Scope := match s with | .FunctionDef _ _ _ _ _ _ s _ _ _ => s | _ => default
def parsOf (s : Stmt) : Arguments := match s with | .FunctionDef _ a _ _ _ _ _ _ _ _ => a | _ => default
def posOf (s : Stmt) : Pos := match s with | .FunctionDef _ _ _ _ _ _ _ _ _ p => p | _ => default
def nameOf (s : Stmt) : Str := match s with | .FunctionDef n _ _ _ _ _ _ _ _ _ => n | _ => Str.empty
def localsOf (s : Scope) : List Str := s.names.filterMap fun (n, k) => if k == .local then some n else none
def cellsOf' (s : Scope) : List (Option Str) := s.names.filterMap fun (n, k) => if k == .cell then some (some n) else none
def layOf (s : Stmt) (inn dfn : Option Nat) : Lay := ⟨scopeOf s, localsOf (scopeOf s), cellsOf' (scopeOf s), inn, dfn, true⟩
/-- an inner def of a def -/
def innSt (s : Stmt) : Stmt := ((bodyOf s).find? fun | .FunctionDef .. => true | _ => false).getD (.Pass default)
def innLay (s : Stmt) (inn : Option Nat) : Lay := ⟨scopeOf (innSt s), localsOf (scopeOf (innSt s)), (cellsOf' (scopeOf s)).map fun o => match o with | some y => if (scopeOf (innSt s)).names.contains (y, .free) then some y else none | none => none, inn, none, false⟩
def rfOf (s : Stmt) (qual : Str) (inn : Option Nat) : RFn := ⟨nameOf (innSt s), qual, parsOf (innSt s), bodyOf (innSt s), scopeOf (innSt s), posOf (innSt s), innLay s inn⟩
def rfs : List RFn := [rfOf (stAt 4) "_int2digits.<locals>.inner" (some 2), rfOf (stAt 5) "_digits2int.<locals>.inner" (some 2)]
def nms : Nms := ⟨["_div2n1n", "_div3n2n", "_int2digits", "_digits2int", "_divmod_pos", "int_divmod", "insort_left", "bisect_left", "_law_primes"], [("_DIV_LIMIT", 4000)], rfs⟩

/-- the facts of a comprehension that is stored at once -/
def swOk (sc lsc : Scope) (y : Str) (l1 l2 : Nat) : Bool := lsc.kind == .function && lsc.names.lookup y == some .local && l1 == l2 && !(sc.names.any fun (n, k) => n == y && (k == .local || k == .cell))
theorem swap_ok {elt : Expr} {gens : List Comprehension} {sc : Scope} {pc : Pos} {y : Str} {p' : Pos} {l : Nat} {env : Env} {lsc : Scope} (he : env.scope = lsc) (h : swOk sc lsc y p'.line pc.line = true) : swapsWith (.ListComp elt gens sc pc) (some (.Name y p')) l env = pure true := by
  subst he
  show pure (env.blockKind == .function && env.kindOf y == some .local && p'.line == pc.line && !(sc.names.any fun (n, k) => n == y && (k == .local || k == .cell))) = _
  unfold swOk at h
  congr 1
  simp only [Bool.and_eq_true] at h ⊢
  obtain ⟨⟨⟨h1, h2⟩, h3⟩, h4⟩ := h
  refine ⟨⟨⟨?_, h2⟩, h3⟩, h4⟩
  have h1 := eq_of_beq h1
  unfold Env.blockKind
  rw [h1]
  rfl
theorem free_of {sc : Scope} {cel : List (Option Str)} (h : sc.names.all (fun y => y.2 != .free || cel.any fun o => o == some y.1) = true) (y : Str) (hy : (y, NameKind.free) ∈ sc.names) : ∃ j, nth cel j = some (some y) := by
  have := List.all_eq_true.mp h _ hy
  simp only [bne_self_eq_false, Bool.false_or, List.any_eq_true, beq_iff_eq] at this
  obtain ⟨o, ho, rfl⟩ := this
  exact nth_of_mem ho

theorem mt_div2 : MSs nms (layOf (stAt 2) none none) (bodyOf (stAt 2)) cDiv2.body := by
  unfold cDiv2
  dsimp only
  repeat' (first
    | exact MSs.nil | exact MSs.bad | exact MEs.nil | exact MO.none
    | refine MSs.cons ?_ ?_ | refine MEs.cons ?_ ?_ | refine MO.some ?_
    | (unfold MethOk; exact ⟨_, fun _ => rfl⟩)
    | exact ME.int | exact ME.bool | exact ME.none
    | exact ME.loc ⟨rfl, by decide +kernel, by decide +kernel⟩
    | exact ME.cel ⟨rfl, by decide +kernel, by decide +kernel, by decide +kernel⟩
    | exact ME.glob ⟨by decide +kernel, by decide +kernel⟩ (by decide +kernel)
    | refine ME.bin (o := .add) ?_ ?_
    | refine ME.bin (o := .sub) ?_ ?_
    | refine ME.bin (o := .mul) ?_ ?_
    | refine ME.bin (o := .fdiv) ?_ ?_
    | refine ME.bin (o := .fmod) ?_ ?_
    | refine ME.bin (o := .shl) ?_ ?_
    | refine ME.bin (o := .shr) ?_ ?_
    | refine ME.bin (o := .xor) ?_ ?_
    | refine ME.cmp (o := .lt) ?_ ?_
    | refine ME.cmp (o := .le) ?_ ?_
    | refine ME.cmp (o := .gt) ?_ ?_
    | refine ME.cmp (o := .eq) ?_ ?_
    | refine ME.cmp (o := .ne) ?_ ?_
    | refine ME.isNone ?_ | refine ME.band ?_ ?_ | refine ME.bor ?_ ?_ | refine ME.ife ?_ ?_ ?_
    | refine ME.list ?_ | refine ME.pair ?_ ?_ | refine ME.idx (fun _ _ => rfl) ?_ ?_
    | refine ME.lenDict ⟨by decide +kernel, by decide +kernel⟩ ⟨by decide +kernel, by decide +kernel⟩ ?_
    | refine ME.len ⟨by decide +kernel, by decide +kernel⟩ ?_ | refine ME.range2 ⟨by decide +kernel, by decide +kernel⟩ ?_ ?_ | refine ME.range3 ⟨by decide +kernel, by decide +kernel⟩ ?_ ?_ ?_ | refine ME.sum ⟨by decide +kernel, by decide +kernel⟩ ?_ | refine ME.toInt ⟨by decide +kernel, by decide +kernel⟩ ?_ | refine ME.divmod ⟨by decide +kernel, by decide +kernel⟩ ?_ ?_
    | refine ME.bitlen ?_ ?_
    | refine ME.callG rfl ⟨by decide +kernel, by decide +kernel⟩ ?_ | refine ME.callI rfl (by decide) ⟨rfl, by decide +kernel, by decide +kernel, by decide +kernel⟩ ?_
    | refine ME.comp (compLay_of (by decide +kernel)) (fun _ _ => rfl) ?_ ?_ ?_
    | refine MS.setComp ⟨rfl, by decide +kernel⟩ (compLay_of (by decide +kernel)) (fun env he => swap_ok he (by decide +kernel)) (fun _ _ => rfl) ?_ ?_ ?_
    | refine MS.set (t := .loc _) ⟨rfl, by decide +kernel⟩ rfl ?_
    | refine MS.set (t := .cel _) ⟨rfl, by decide +kernel, by decide, rfl⟩ rfl ?_
    | refine MS.set2 ⟨rfl, by decide +kernel⟩ ⟨rfl, by decide +kernel⟩ (fun _ => rfl) (fun _ => rfl) ?_
    | refine MS.setT ⟨rfl, by decide +kernel⟩ ⟨rfl, by decide +kernel⟩ (fun env he => by obtain ⟨sc, l, g, c, q, f, cd, fr, b⟩ := env; cases he; with_unfolding_all rfl) ?_ ?_
    | refine MS.setI rfl ?_ ?_ ?_
    | refine MS.append ?_ ?_ ?_ | refine MS.insert ?_ ?_ ?_ ?_ | refine MS.reverse ?_ ?_
    | refine MS.expr rfl ?_
    | refine MS.ite ?_ ?_ ?_ | refine MS.whil ?_ ?_
    | refine MS.forRev (t := .loc _) ⟨rfl, by decide +kernel⟩ ⟨by decide +kernel, by decide +kernel⟩ ?_ ?_
    | refine MS.forIn (t := .loc _) ⟨rfl, by decide +kernel⟩ ?_ ?_
    | refine MS.forIn (t := .cel _) ⟨rfl, by decide +kernel, by decide, rfl⟩ ?_ ?_
    | refine MS.ret ?_ | exact MS.retN
    | exact MS.defI ⟨⟨_, rfl, rfl, rfl, rfl, rfl, rfl, inn_cel⟩, rfl, rfl, fun _ => rfl, rfl, rfl, by decide +kernel, rfl, rfl, free_of (by decide +kernel)⟩)

theorem mt_int2 : MSs nms (layOf (stAt 4) (some 2) (some 0)) (bodyOf (stAt 4)) cInt2.body := by
  unfold cInt2
  dsimp only
  repeat' (first
    | exact MSs.nil | exact MSs.bad | exact MEs.nil | exact MO.none
    | refine MSs.cons ?_ ?_ | refine MEs.cons ?_ ?_ | refine MO.some ?_
    | (unfold MethOk; exact ⟨_, fun _ => rfl⟩)
    | exact ME.int | exact ME.bool | exact ME.none
    | exact ME.loc ⟨rfl, by decide +kernel, by decide +kernel⟩
    | exact ME.cel ⟨rfl, by decide +kernel, by decide +kernel, by decide +kernel⟩
    | exact ME.glob ⟨by decide +kernel, by decide +kernel⟩ (by decide +kernel)
    | refine ME.bin (o := .add) ?_ ?_
    | refine ME.bin (o := .sub) ?_ ?_
    | refine ME.bin (o := .mul) ?_ ?_
    | refine ME.bin (o := .fdiv) ?_ ?_
    | refine ME.bin (o := .fmod) ?_ ?_
    | refine ME.bin (o := .shl) ?_ ?_
    | refine ME.bin (o := .shr) ?_ ?_
    | refine ME.bin (o := .xor) ?_ ?_
    | refine ME.cmp (o := .lt) ?_ ?_
    | refine ME.cmp (o := .le) ?_ ?_
    | refine ME.cmp (o := .gt) ?_ ?_
    | refine ME.cmp (o := .eq) ?_ ?_
    | refine ME.cmp (o := .ne) ?_ ?_
    | refine ME.isNone ?_ | refine ME.band ?_ ?_ | refine ME.bor ?_ ?_ | refine ME.ife ?_ ?_ ?_
    | refine ME.list ?_ | refine ME.pair ?_ ?_ | refine ME.idx (fun _ _ => rfl) ?_ ?_
    | refine ME.lenDict ⟨by decide +kernel, by decide +kernel⟩ ⟨by decide +kernel, by decide +kernel⟩ ?_
    | refine ME.len ⟨by decide +kernel, by decide +kernel⟩ ?_ | refine ME.range2 ⟨by decide +kernel, by decide +kernel⟩ ?_ ?_ | refine ME.range3 ⟨by decide +kernel, by decide +kernel⟩ ?_ ?_ ?_ | refine ME.sum ⟨by decide +kernel, by decide +kernel⟩ ?_ | refine ME.toInt ⟨by decide +kernel, by decide +kernel⟩ ?_ | refine ME.divmod ⟨by decide +kernel, by decide +kernel⟩ ?_ ?_
    | refine ME.bitlen ?_ ?_
    | refine ME.callG rfl ⟨by decide +kernel, by decide +kernel⟩ ?_ | refine ME.callI rfl (by decide) ⟨rfl, by decide +kernel, by decide +kernel, by decide +kernel⟩ ?_
    | refine ME.comp (compLay_of (by decide +kernel)) (fun _ _ => rfl) ?_ ?_ ?_
    | refine MS.setComp ⟨rfl, by decide +kernel⟩ (compLay_of (by decide +kernel)) (fun env he => swap_ok he (by decide +kernel)) (fun _ _ => rfl) ?_ ?_ ?_
    | refine MS.set (t := .loc _) ⟨rfl, by decide +kernel⟩ rfl ?_
    | refine MS.set (t := .cel _) ⟨rfl, by decide +kernel, by decide, rfl⟩ rfl ?_
    | refine MS.set2 ⟨rfl, by decide +kernel⟩ ⟨rfl, by decide +kernel⟩ (fun _ => rfl) (fun _ => rfl) ?_
    | refine MS.setT ⟨rfl, by decide +kernel⟩ ⟨rfl, by decide +kernel⟩ (fun env he => by obtain ⟨sc, l, g, c, q, f, cd, fr, b⟩ := env; cases he; with_unfolding_all rfl) ?_ ?_
    | refine MS.setI rfl ?_ ?_ ?_
    | refine MS.append ?_ ?_ ?_ | refine MS.insert ?_ ?_ ?_ ?_ | refine MS.reverse ?_ ?_
    | refine MS.expr rfl ?_
    | refine MS.ite ?_ ?_ ?_ | refine MS.whil ?_ ?_
    | refine MS.forRev (t := .loc _) ⟨rfl, by decide +kernel⟩ ⟨by decide +kernel, by decide +kernel⟩ ?_ ?_
    | refine MS.forIn (t := .loc _) ⟨rfl, by decide +kernel⟩ ?_ ?_
    | refine MS.forIn (t := .cel _) ⟨rfl, by decide +kernel, by decide, rfl⟩ ?_ ?_
    | refine MS.ret ?_ | exact MS.retN
    | exact MS.defI ⟨⟨_, rfl, rfl, rfl, rfl, rfl, rfl, inn_cel⟩, rfl, rfl, fun _ => rfl, rfl, rfl, by decide +kernel, rfl, rfl, free_of (by decide +kernel)⟩)

theorem mt_dig2 : MSs nms (layOf (stAt 5) (some 2) (some 1)) (bodyOf (stAt 5)) cDig2.body := by
  unfold cDig2
  dsimp only
  repeat' (first
    | exact MSs.nil | exact MSs.bad | exact MEs.nil | exact MO.none
    | refine MSs.cons ?_ ?_ | refine MEs.cons ?_ ?_ | refine MO.some ?_
    | (unfold MethOk; exact ⟨_, fun _ => rfl⟩)
    | exact ME.int | exact ME.bool | exact ME.none
    | exact ME.loc ⟨rfl, by decide +kernel, by decide +kernel⟩
    | exact ME.cel ⟨rfl, by decide +kernel, by decide +kernel, by decide +kernel⟩
    | exact ME.glob ⟨by decide +kernel, by decide +kernel⟩ (by decide +kernel)
    | refine ME.bin (o := .add) ?_ ?_
    | refine ME.bin (o := .sub) ?_ ?_
    | refine ME.bin (o := .mul) ?_ ?_
    | refine ME.bin (o := .fdiv) ?_ ?_
    | refine ME.bin (o := .fmod) ?_ ?_
    | refine ME.bin (o := .shl) ?_ ?_
    | refine ME.bin (o := .shr) ?_ ?_
    | refine ME.bin (o := .xor) ?_ ?_
    | refine ME.cmp (o := .lt) ?_ ?_
    | refine ME.cmp (o := .le) ?_ ?_
    | refine ME.cmp (o := .gt) ?_ ?_
    | refine ME.cmp (o := .eq) ?_ ?_
    | refine ME.cmp (o := .ne) ?_ ?_
    | refine ME.isNone ?_ | refine ME.band ?_ ?_ | refine ME.bor ?_ ?_ | refine ME.ife ?_ ?_ ?_
    | refine ME.list ?_ | refine ME.pair ?_ ?_ | refine ME.idx (fun _ _ => rfl) ?_ ?_
    | refine ME.lenDict ⟨by decide +kernel, by decide +kernel⟩ ⟨by decide +kernel, by decide +kernel⟩ ?_
    | refine ME.len ⟨by decide +kernel, by decide +kernel⟩ ?_ | refine ME.range2 ⟨by decide +kernel, by decide +kernel⟩ ?_ ?_ | refine ME.range3 ⟨by decide +kernel, by decide +kernel⟩ ?_ ?_ ?_ | refine ME.sum ⟨by decide +kernel, by decide +kernel⟩ ?_ | refine ME.toInt ⟨by decide +kernel, by decide +kernel⟩ ?_ | refine ME.divmod ⟨by decide +kernel, by decide +kernel⟩ ?_ ?_
    | refine ME.bitlen ?_ ?_
    | refine ME.callG rfl ⟨by decide +kernel, by decide +kernel⟩ ?_ | refine ME.callI rfl (by decide) ⟨rfl, by decide +kernel, by decide +kernel, by decide +kernel⟩ ?_
    | refine ME.comp (compLay_of (by decide +kernel)) (fun _ _ => rfl) ?_ ?_ ?_
    | refine MS.setComp ⟨rfl, by decide +kernel⟩ (compLay_of (by decide +kernel)) (fun env he => swap_ok he (by decide +kernel)) (fun _ _ => rfl) ?_ ?_ ?_
    | refine MS.set (t := .loc _) ⟨rfl, by decide +kernel⟩ rfl ?_
    | refine MS.set (t := .cel _) ⟨rfl, by decide +kernel, by decide, rfl⟩ rfl ?_
    | refine MS.set2 ⟨rfl, by decide +kernel⟩ ⟨rfl, by decide +kernel⟩ (fun _ => rfl) (fun _ => rfl) ?_
    | refine MS.setT ⟨rfl, by decide +kernel⟩ ⟨rfl, by decide +kernel⟩ (fun env he => by obtain ⟨sc, l, g, c, q, f, cd, fr, b⟩ := env; cases he; with_unfolding_all rfl) ?_ ?_
    | refine MS.setI rfl ?_ ?_ ?_
    | refine MS.append ?_ ?_ ?_ | refine MS.insert ?_ ?_ ?_ ?_ | refine MS.reverse ?_ ?_
    | refine MS.expr rfl ?_
    | refine MS.ite ?_ ?_ ?_ | refine MS.whil ?_ ?_
    | refine MS.forRev (t := .loc _) ⟨rfl, by decide +kernel⟩ ⟨by decide +kernel, by decide +kernel⟩ ?_ ?_
    | refine MS.forIn (t := .loc _) ⟨rfl, by decide +kernel⟩ ?_ ?_
    | refine MS.forIn (t := .cel _) ⟨rfl, by decide +kernel, by decide, rfl⟩ ?_ ?_
    | refine MS.ret ?_ | exact MS.retN
    | exact MS.defI ⟨⟨_, rfl, rfl, rfl, rfl, rfl, rfl, inn_cel⟩, rfl, rfl, fun _ => rfl, rfl, rfl, by decide +kernel, rfl, rfl, free_of (by decide +kernel)⟩)

theorem mt_pos : MSs nms (layOf (stAt 6) none none) (bodyOf (stAt 6)) cPos.body := by
  unfold cPos
  dsimp only
  repeat' (first
    | exact MSs.nil | exact MSs.bad | exact MEs.nil | exact MO.none
    | refine MSs.cons ?_ ?_ | refine MEs.cons ?_ ?_ | refine MO.some ?_
    | (unfold MethOk; exact ⟨_, fun _ => rfl⟩)
    | exact ME.int | exact ME.bool | exact ME.none
    | exact ME.loc ⟨rfl, by decide +kernel, by decide +kernel⟩
    | exact ME.cel ⟨rfl, by decide +kernel, by decide +kernel, by decide +kernel⟩
    | exact ME.glob ⟨by decide +kernel, by decide +kernel⟩ (by decide +kernel)
    | refine ME.bin (o := .add) ?_ ?_
    | refine ME.bin (o := .sub) ?_ ?_
    | refine ME.bin (o := .mul) ?_ ?_
    | refine ME.bin (o := .fdiv) ?_ ?_
    | refine ME.bin (o := .fmod) ?_ ?_
    | refine ME.bin (o := .shl) ?_ ?_
    | refine ME.bin (o := .shr) ?_ ?_
    | refine ME.bin (o := .xor) ?_ ?_
    | refine ME.cmp (o := .lt) ?_ ?_
    | refine ME.cmp (o := .le) ?_ ?_
    | refine ME.cmp (o := .gt) ?_ ?_
    | refine ME.cmp (o := .eq) ?_ ?_
    | refine ME.cmp (o := .ne) ?_ ?_
    | refine ME.isNone ?_ | refine ME.band ?_ ?_ | refine ME.bor ?_ ?_ | refine ME.ife ?_ ?_ ?_
    | refine ME.list ?_ | refine ME.pair ?_ ?_ | refine ME.idx (fun _ _ => rfl) ?_ ?_
    | refine ME.lenDict ⟨by decide +kernel, by decide +kernel⟩ ⟨by decide +kernel, by decide +kernel⟩ ?_
    | refine ME.len ⟨by decide +kernel, by decide +kernel⟩ ?_ | refine ME.range2 ⟨by decide +kernel, by decide +kernel⟩ ?_ ?_ | refine ME.range3 ⟨by decide +kernel, by decide +kernel⟩ ?_ ?_ ?_ | refine ME.sum ⟨by decide +kernel, by decide +kernel⟩ ?_ | refine ME.toInt ⟨by decide +kernel, by decide +kernel⟩ ?_ | refine ME.divmod ⟨by decide +kernel, by decide +kernel⟩ ?_ ?_
    | refine ME.bitlen ?_ ?_
    | refine ME.callG rfl ⟨by decide +kernel, by decide +kernel⟩ ?_ | refine ME.callI rfl (by decide) ⟨rfl, by decide +kernel, by decide +kernel, by decide +kernel⟩ ?_
    | refine ME.comp (compLay_of (by decide +kernel)) (fun _ _ => rfl) ?_ ?_ ?_
    | refine MS.setComp ⟨rfl, by decide +kernel⟩ (compLay_of (by decide +kernel)) (fun env he => swap_ok he (by decide +kernel)) (fun _ _ => rfl) ?_ ?_ ?_
    | refine MS.set (t := .loc _) ⟨rfl, by decide +kernel⟩ rfl ?_
    | refine MS.set (t := .cel _) ⟨rfl, by decide +kernel, by decide, rfl⟩ rfl ?_
    | refine MS.set2 ⟨rfl, by decide +kernel⟩ ⟨rfl, by decide +kernel⟩ (fun _ => rfl) (fun _ => rfl) ?_
    | refine MS.setT ⟨rfl, by decide +kernel⟩ ⟨rfl, by decide +kernel⟩ (fun env he => by obtain ⟨sc, l, g, c, q, f, cd, fr, b⟩ := env; cases he; with_unfolding_all rfl) ?_ ?_
    | refine MS.setI rfl ?_ ?_ ?_
    | refine MS.append ?_ ?_ ?_ | refine MS.insert ?_ ?_ ?_ ?_ | refine MS.reverse ?_ ?_
    | refine MS.expr rfl ?_
    | refine MS.ite ?_ ?_ ?_ | refine MS.whil ?_ ?_
    | refine MS.forRev (t := .loc _) ⟨rfl, by decide +kernel⟩ ⟨by decide +kernel, by decide +kernel⟩ ?_ ?_
    | refine MS.forIn (t := .loc _) ⟨rfl, by decide +kernel⟩ ?_ ?_
    | refine MS.forIn (t := .cel _) ⟨rfl, by decide +kernel, by decide, rfl⟩ ?_ ?_
    | refine MS.ret ?_ | exact MS.retN
    | exact MS.defI ⟨⟨_, rfl, rfl, rfl, rfl, rfl, rfl, inn_cel⟩, rfl, rfl, fun _ => rfl, rfl, rfl, by decide +kernel, rfl, rfl, free_of (by decide +kernel)⟩)

theorem mt_divmod : MSs nms (layOf (stAt 7) none none) (bodyOf (stAt 7)) cDivmod.body := by
  unfold cDivmod
  dsimp only
  repeat' (first
    | exact MSs.nil | exact MSs.bad | exact MEs.nil | exact MO.none
    | refine MSs.cons ?_ ?_ | refine MEs.cons ?_ ?_ | refine MO.some ?_
    | (unfold MethOk; exact ⟨_, fun _ => rfl⟩)
    | exact ME.int | exact ME.bool | exact ME.none
    | exact ME.loc ⟨rfl, by decide +kernel, by decide +kernel⟩
    | exact ME.cel ⟨rfl, by decide +kernel, by decide +kernel, by decide +kernel⟩
    | exact ME.glob ⟨by decide +kernel, by decide +kernel⟩ (by decide +kernel)
    | refine ME.bin (o := .add) ?_ ?_
    | refine ME.bin (o := .sub) ?_ ?_
    | refine ME.bin (o := .mul) ?_ ?_
    | refine ME.bin (o := .fdiv) ?_ ?_
    | refine ME.bin (o := .fmod) ?_ ?_
    | refine ME.bin (o := .shl) ?_ ?_
    | refine ME.bin (o := .shr) ?_ ?_
    | refine ME.bin (o := .xor) ?_ ?_
    | refine ME.cmp (o := .lt) ?_ ?_
    | refine ME.cmp (o := .le) ?_ ?_
    | refine ME.cmp (o := .gt) ?_ ?_
    | refine ME.cmp (o := .eq) ?_ ?_
    | refine ME.cmp (o := .ne) ?_ ?_
    | refine ME.isNone ?_ | refine ME.band ?_ ?_ | refine ME.bor ?_ ?_ | refine ME.ife ?_ ?_ ?_
    | refine ME.list ?_ | refine ME.pair ?_ ?_ | refine ME.idx (fun _ _ => rfl) ?_ ?_
    | refine ME.lenDict ⟨by decide +kernel, by decide +kernel⟩ ⟨by decide +kernel, by decide +kernel⟩ ?_
    | refine ME.len ⟨by decide +kernel, by decide +kernel⟩ ?_ | refine ME.range2 ⟨by decide +kernel, by decide +kernel⟩ ?_ ?_ | refine ME.range3 ⟨by decide +kernel, by decide +kernel⟩ ?_ ?_ ?_ | refine ME.sum ⟨by decide +kernel, by decide +kernel⟩ ?_ | refine ME.toInt ⟨by decide +kernel, by decide +kernel⟩ ?_ | refine ME.divmod ⟨by decide +kernel, by decide +kernel⟩ ?_ ?_
    | refine ME.bitlen ?_ ?_
    | refine ME.callG rfl ⟨by decide +kernel, by decide +kernel⟩ ?_ | refine ME.callI rfl (by decide) ⟨rfl, by decide +kernel, by decide +kernel, by decide +kernel⟩ ?_
    | refine ME.comp (compLay_of (by decide +kernel)) (fun _ _ => rfl) ?_ ?_ ?_
    | refine MS.setComp ⟨rfl, by decide +kernel⟩ (compLay_of (by decide +kernel)) (fun env he => swap_ok he (by decide +kernel)) (fun _ _ => rfl) ?_ ?_ ?_
    | refine MS.set (t := .loc _) ⟨rfl, by decide +kernel⟩ rfl ?_
    | refine MS.set (t := .cel _) ⟨rfl, by decide +kernel, by decide, rfl⟩ rfl ?_
    | refine MS.set2 ⟨rfl, by decide +kernel⟩ ⟨rfl, by decide +kernel⟩ (fun _ => rfl) (fun _ => rfl) ?_
    | refine MS.setT ⟨rfl, by decide +kernel⟩ ⟨rfl, by decide +kernel⟩ (fun env he => by obtain ⟨sc, l, g, c, q, f, cd, fr, b⟩ := env; cases he; with_unfolding_all rfl) ?_ ?_
    | refine MS.setI rfl ?_ ?_ ?_
    | refine MS.append ?_ ?_ ?_ | refine MS.insert ?_ ?_ ?_ ?_ | refine MS.reverse ?_ ?_
    | refine MS.expr rfl ?_
    | refine MS.ite ?_ ?_ ?_ | refine MS.whil ?_ ?_
    | refine MS.forRev (t := .loc _) ⟨rfl, by decide +kernel⟩ ⟨by decide +kernel, by decide +kernel⟩ ?_ ?_
    | refine MS.forIn (t := .loc _) ⟨rfl, by decide +kernel⟩ ?_ ?_
    | refine MS.forIn (t := .cel _) ⟨rfl, by decide +kernel, by decide, rfl⟩ ?_ ?_
    | refine MS.ret ?_ | exact MS.retN
    | exact MS.defI ⟨⟨_, rfl, rfl, rfl, rfl, rfl, rfl, inn_cel⟩, rfl, rfl, fun _ => rfl, rfl, rfl, by decide +kernel, rfl, rfl, free_of (by decide +kernel)⟩)

theorem mt_insort : MSs nms (layOf (stAt 9) none none) (bodyOf (stAt 9)) cInsort.body := by
  unfold cInsort
  dsimp only
  repeat' (first
    | exact MSs.nil | exact MSs.bad | exact MEs.nil | exact MO.none
    | refine MSs.cons ?_ ?_ | refine MEs.cons ?_ ?_ | refine MO.some ?_
    | (unfold MethOk; exact ⟨_, fun _ => rfl⟩)
    | exact ME.int | exact ME.bool | exact ME.none
    | exact ME.loc ⟨rfl, by decide +kernel, by decide +kernel⟩
    | exact ME.cel ⟨rfl, by decide +kernel, by decide +kernel, by decide +kernel⟩
    | exact ME.glob ⟨by decide +kernel, by decide +kernel⟩ (by decide +kernel)
    | refine ME.bin (o := .add) ?_ ?_
    | refine ME.bin (o := .sub) ?_ ?_
    | refine ME.bin (o := .mul) ?_ ?_
    | refine ME.bin (o := .fdiv) ?_ ?_
    | refine ME.bin (o := .fmod) ?_ ?_
    | refine ME.bin (o := .shl) ?_ ?_
    | refine ME.bin (o := .shr) ?_ ?_
    | refine ME.bin (o := .xor) ?_ ?_
    | refine ME.cmp (o := .lt) ?_ ?_
    | refine ME.cmp (o := .le) ?_ ?_
    | refine ME.cmp (o := .gt) ?_ ?_
    | refine ME.cmp (o := .eq) ?_ ?_
    | refine ME.cmp (o := .ne) ?_ ?_
    | refine ME.isNone ?_ | refine ME.band ?_ ?_ | refine ME.bor ?_ ?_ | refine ME.ife ?_ ?_ ?_
    | refine ME.list ?_ | refine ME.pair ?_ ?_ | refine ME.idx (fun _ _ => rfl) ?_ ?_
    | refine ME.lenDict ⟨by decide +kernel, by decide +kernel⟩ ⟨by decide +kernel, by decide +kernel⟩ ?_
    | refine ME.len ⟨by decide +kernel, by decide +kernel⟩ ?_ | refine ME.range2 ⟨by decide +kernel, by decide +kernel⟩ ?_ ?_ | refine ME.range3 ⟨by decide +kernel, by decide +kernel⟩ ?_ ?_ ?_ | refine ME.sum ⟨by decide +kernel, by decide +kernel⟩ ?_ | refine ME.toInt ⟨by decide +kernel, by decide +kernel⟩ ?_ | refine ME.divmod ⟨by decide +kernel, by decide +kernel⟩ ?_ ?_
    | refine ME.bitlen ?_ ?_
    | refine ME.callG rfl ⟨by decide +kernel, by decide +kernel⟩ ?_ | refine ME.callI rfl (by decide) ⟨rfl, by decide +kernel, by decide +kernel, by decide +kernel⟩ ?_
    | refine ME.comp (compLay_of (by decide +kernel)) (fun _ _ => rfl) ?_ ?_ ?_
    | refine MS.setComp ⟨rfl, by decide +kernel⟩ (compLay_of (by decide +kernel)) (fun env he => swap_ok he (by decide +kernel)) (fun _ _ => rfl) ?_ ?_ ?_
    | refine MS.set (t := .loc _) ⟨rfl, by decide +kernel⟩ rfl ?_
    | refine MS.set (t := .cel _) ⟨rfl, by decide +kernel, by decide, rfl⟩ rfl ?_
    | refine MS.set2 ⟨rfl, by decide +kernel⟩ ⟨rfl, by decide +kernel⟩ (fun _ => rfl) (fun _ => rfl) ?_
    | refine MS.setT ⟨rfl, by decide +kernel⟩ ⟨rfl, by decide +kernel⟩ (fun env he => by obtain ⟨sc, l, g, c, q, f, cd, fr, b⟩ := env; cases he; with_unfolding_all rfl) ?_ ?_
    | refine MS.setI rfl ?_ ?_ ?_
    | refine MS.append ?_ ?_ ?_ | refine MS.insert ?_ ?_ ?_ ?_ | refine MS.reverse ?_ ?_
    | refine MS.expr rfl ?_
    | refine MS.ite ?_ ?_ ?_ | refine MS.whil ?_ ?_
    | refine MS.forRev (t := .loc _) ⟨rfl, by decide +kernel⟩ ⟨by decide +kernel, by decide +kernel⟩ ?_ ?_
    | refine MS.forIn (t := .loc _) ⟨rfl, by decide +kernel⟩ ?_ ?_
    | refine MS.forIn (t := .cel _) ⟨rfl, by decide +kernel, by decide, rfl⟩ ?_ ?_
    | refine MS.ret ?_ | exact MS.retN
    | exact MS.defI ⟨⟨_, rfl, rfl, rfl, rfl, rfl, rfl, inn_cel⟩, rfl, rfl, fun _ => rfl, rfl, rfl, by decide +kernel, rfl, rfl, free_of (by decide +kernel)⟩)

theorem mt_bisect : MSs nms (layOf (stAt 10) none none) (bodyOf (stAt 10)) cBisect.body := by
  unfold cBisect
  dsimp only
  repeat' (first
    | exact MSs.nil | exact MSs.bad | exact MEs.nil | exact MO.none
    | refine MSs.cons ?_ ?_ | refine MEs.cons ?_ ?_ | refine MO.some ?_
    | (unfold MethOk; exact ⟨_, fun _ => rfl⟩)
    | exact ME.int | exact ME.bool | exact ME.none
    | exact ME.loc ⟨rfl, by decide +kernel, by decide +kernel⟩
    | exact ME.cel ⟨rfl, by decide +kernel, by decide +kernel, by decide +kernel⟩
    | exact ME.glob ⟨by decide +kernel, by decide +kernel⟩ (by decide +kernel)
    | refine ME.bin (o := .add) ?_ ?_
    | refine ME.bin (o := .sub) ?_ ?_
    | refine ME.bin (o := .mul) ?_ ?_
    | refine ME.bin (o := .fdiv) ?_ ?_
    | refine ME.bin (o := .fmod) ?_ ?_
    | refine ME.bin (o := .shl) ?_ ?_
    | refine ME.bin (o := .shr) ?_ ?_
    | refine ME.bin (o := .xor) ?_ ?_
    | refine ME.cmp (o := .lt) ?_ ?_
    | refine ME.cmp (o := .le) ?_ ?_
    | refine ME.cmp (o := .gt) ?_ ?_
    | refine ME.cmp (o := .eq) ?_ ?_
    | refine ME.cmp (o := .ne) ?_ ?_
    | refine ME.isNone ?_ | refine ME.band ?_ ?_ | refine ME.bor ?_ ?_ | refine ME.ife ?_ ?_ ?_
    | refine ME.list ?_ | refine ME.pair ?_ ?_ | refine ME.idx (fun _ _ => rfl) ?_ ?_
    | refine ME.lenDict ⟨by decide +kernel, by decide +kernel⟩ ⟨by decide +kernel, by decide +kernel⟩ ?_
    | refine ME.len ⟨by decide +kernel, by decide +kernel⟩ ?_ | refine ME.range2 ⟨by decide +kernel, by decide +kernel⟩ ?_ ?_ | refine ME.range3 ⟨by decide +kernel, by decide +kernel⟩ ?_ ?_ ?_ | refine ME.sum ⟨by decide +kernel, by decide +kernel⟩ ?_ | refine ME.toInt ⟨by decide +kernel, by decide +kernel⟩ ?_ | refine ME.divmod ⟨by decide +kernel, by decide +kernel⟩ ?_ ?_
    | refine ME.bitlen ?_ ?_
    | refine ME.callG rfl ⟨by decide +kernel, by decide +kernel⟩ ?_ | refine ME.callI rfl (by decide) ⟨rfl, by decide +kernel, by decide +kernel, by decide +kernel⟩ ?_
    | refine ME.comp (compLay_of (by decide +kernel)) (fun _ _ => rfl) ?_ ?_ ?_
    | refine MS.setComp ⟨rfl, by decide +kernel⟩ (compLay_of (by decide +kernel)) (fun env he => swap_ok he (by decide +kernel)) (fun _ _ => rfl) ?_ ?_ ?_
    | refine MS.set (t := .loc _) ⟨rfl, by decide +kernel⟩ rfl ?_
    | refine MS.set (t := .cel _) ⟨rfl, by decide +kernel, by decide, rfl⟩ rfl ?_
    | refine MS.set2 ⟨rfl, by decide +kernel⟩ ⟨rfl, by decide +kernel⟩ (fun _ => rfl) (fun _ => rfl) ?_
    | refine MS.setT ⟨rfl, by decide +kernel⟩ ⟨rfl, by decide +kernel⟩ (fun env he => by obtain ⟨sc, l, g, c, q, f, cd, fr, b⟩ := env; cases he; with_unfolding_all rfl) ?_ ?_
    | refine MS.setI rfl ?_ ?_ ?_
    | refine MS.append ?_ ?_ ?_ | refine MS.insert ?_ ?_ ?_ ?_ | refine MS.reverse ?_ ?_
    | refine MS.expr rfl ?_
    | refine MS.ite ?_ ?_ ?_ | refine MS.whil ?_ ?_
    | refine MS.forRev (t := .loc _) ⟨rfl, by decide +kernel⟩ ⟨by decide +kernel, by decide +kernel⟩ ?_ ?_
    | refine MS.forIn (t := .loc _) ⟨rfl, by decide +kernel⟩ ?_ ?_
    | refine MS.forIn (t := .cel _) ⟨rfl, by decide +kernel, by decide, rfl⟩ ?_ ?_
    | refine MS.ret ?_ | exact MS.retN
    | exact MS.defI ⟨⟨_, rfl, rfl, rfl, rfl, rfl, rfl, inn_cel⟩, rfl, rfl, fun _ => rfl, rfl, rfl, by decide +kernel, rfl, rfl, free_of (by decide +kernel)⟩)

theorem mt_primes : MSs nms (layOf (stAt 12) none none) (bodyOf (stAt 12)) cPrimes.body := by
  unfold cPrimes
  dsimp only
  repeat' (first
    | exact MSs.nil | exact MSs.bad | exact MEs.nil | exact MO.none
    | refine MSs.cons ?_ ?_ | refine MEs.cons ?_ ?_ | refine MO.some ?_
    | (unfold MethOk; exact ⟨_, fun _ => rfl⟩)
    | exact ME.int | exact ME.bool | exact ME.none
    | exact ME.loc ⟨rfl, by decide +kernel, by decide +kernel⟩
    | exact ME.cel ⟨rfl, by decide +kernel, by decide +kernel, by decide +kernel⟩
    | exact ME.glob ⟨by decide +kernel, by decide +kernel⟩ (by decide +kernel)
    | refine ME.bin (o := .add) ?_ ?_
    | refine ME.bin (o := .sub) ?_ ?_
    | refine ME.bin (o := .mul) ?_ ?_
    | refine ME.bin (o := .fdiv) ?_ ?_
    | refine ME.bin (o := .fmod) ?_ ?_
    | refine ME.bin (o := .shl) ?_ ?_
    | refine ME.bin (o := .shr) ?_ ?_
    | refine ME.bin (o := .xor) ?_ ?_
    | refine ME.cmp (o := .lt) ?_ ?_
    | refine ME.cmp (o := .le) ?_ ?_
    | refine ME.cmp (o := .gt) ?_ ?_
    | refine ME.cmp (o := .eq) ?_ ?_
    | refine ME.cmp (o := .ne) ?_ ?_
    | refine ME.isNone ?_ | refine ME.band ?_ ?_ | refine ME.bor ?_ ?_ | refine ME.ife ?_ ?_ ?_
    | refine ME.list ?_ | refine ME.pair ?_ ?_ | refine ME.idx (fun _ _ => rfl) ?_ ?_
    | refine ME.lenDict ⟨by decide +kernel, by decide +kernel⟩ ⟨by decide +kernel, by decide +kernel⟩ ?_
    | refine ME.len ⟨by decide +kernel, by decide +kernel⟩ ?_ | refine ME.range2 ⟨by decide +kernel, by decide +kernel⟩ ?_ ?_ | refine ME.range3 ⟨by decide +kernel, by decide +kernel⟩ ?_ ?_ ?_ | refine ME.sum ⟨by decide +kernel, by decide +kernel⟩ ?_ | refine ME.toInt ⟨by decide +kernel, by decide +kernel⟩ ?_ | refine ME.divmod ⟨by decide +kernel, by decide +kernel⟩ ?_ ?_
    | refine ME.bitlen ?_ ?_
    | refine ME.callG rfl ⟨by decide +kernel, by decide +kernel⟩ ?_ | refine ME.callI rfl (by decide) ⟨rfl, by decide +kernel, by decide +kernel, by decide +kernel⟩ ?_
    | refine ME.comp (compLay_of (by decide +kernel)) (fun _ _ => rfl) ?_ ?_ ?_
    | refine MS.setComp ⟨rfl, by decide +kernel⟩ (compLay_of (by decide +kernel)) (fun env he => swap_ok he (by decide +kernel)) (fun _ _ => rfl) ?_ ?_ ?_
    | refine MS.set (t := .loc _) ⟨rfl, by decide +kernel⟩ rfl ?_
    | refine MS.set (t := .cel _) ⟨rfl, by decide +kernel, by decide, rfl⟩ rfl ?_
    | refine MS.set2 ⟨rfl, by decide +kernel⟩ ⟨rfl, by decide +kernel⟩ (fun _ => rfl) (fun _ => rfl) ?_
    | refine MS.setT ⟨rfl, by decide +kernel⟩ ⟨rfl, by decide +kernel⟩ (fun env he => by obtain ⟨sc, l, g, c, q, f, cd, fr, b⟩ := env; cases he; with_unfolding_all rfl) ?_ ?_
    | refine MS.setI rfl ?_ ?_ ?_
    | refine MS.append ?_ ?_ ?_ | refine MS.insert ?_ ?_ ?_ ?_ | refine MS.reverse ?_ ?_
    | refine MS.expr rfl ?_
    | refine MS.ite ?_ ?_ ?_ | refine MS.whil ?_ ?_
    | refine MS.forRev (t := .loc _) ⟨rfl, by decide +kernel⟩ ⟨by decide +kernel, by decide +kernel⟩ ?_ ?_
    | refine MS.forIn (t := .loc _) ⟨rfl, by decide +kernel⟩ ?_ ?_
    | refine MS.forIn (t := .cel _) ⟨rfl, by decide +kernel, by decide, rfl⟩ ?_ ?_
    | refine MS.ret ?_ | exact MS.retN
    | exact MS.defI ⟨⟨_, rfl, rfl, rfl, rfl, rfl, rfl, inn_cel⟩, rfl, rfl, fun _ => rfl, rfl, rfl, by decide +kernel, rfl, rfl, free_of (by decide +kernel)⟩)

theorem mt_inn0 : MSs nms (innLay (stAt 4) (some 2)) (bodyOf (innSt (stAt 4))) cInn0.body := by
  unfold cInn0
  dsimp only
  repeat' (first
    | exact MSs.nil | exact MSs.bad | exact MEs.nil | exact MO.none
    | refine MSs.cons ?_ ?_ | refine MEs.cons ?_ ?_ | refine MO.some ?_
    | (unfold MethOk; exact ⟨_, fun _ => rfl⟩)
    | exact ME.int | exact ME.bool | exact ME.none
    | exact ME.loc ⟨rfl, by decide +kernel, by decide +kernel⟩
    | exact ME.cel ⟨rfl, by decide +kernel, by decide +kernel, by decide +kernel⟩
    | exact ME.glob ⟨by decide +kernel, by decide +kernel⟩ (by decide +kernel)
    | refine ME.bin (o := .add) ?_ ?_
    | refine ME.bin (o := .sub) ?_ ?_
    | refine ME.bin (o := .mul) ?_ ?_
    | refine ME.bin (o := .fdiv) ?_ ?_
    | refine ME.bin (o := .fmod) ?_ ?_
    | refine ME.bin (o := .shl) ?_ ?_
    | refine ME.bin (o := .shr) ?_ ?_
    | refine ME.bin (o := .xor) ?_ ?_
    | refine ME.cmp (o := .lt) ?_ ?_
    | refine ME.cmp (o := .le) ?_ ?_
    | refine ME.cmp (o := .gt) ?_ ?_
    | refine ME.cmp (o := .eq) ?_ ?_
    | refine ME.cmp (o := .ne) ?_ ?_
    | refine ME.isNone ?_ | refine ME.band ?_ ?_ | refine ME.bor ?_ ?_ | refine ME.ife ?_ ?_ ?_
    | refine ME.list ?_ | refine ME.pair ?_ ?_ | refine ME.idx (fun _ _ => rfl) ?_ ?_
    | refine ME.lenDict ⟨by decide +kernel, by decide +kernel⟩ ⟨by decide +kernel, by decide +kernel⟩ ?_
    | refine ME.len ⟨by decide +kernel, by decide +kernel⟩ ?_ | refine ME.range2 ⟨by decide +kernel, by decide +kernel⟩ ?_ ?_ | refine ME.range3 ⟨by decide +kernel, by decide +kernel⟩ ?_ ?_ ?_ | refine ME.sum ⟨by decide +kernel, by decide +kernel⟩ ?_ | refine ME.toInt ⟨by decide +kernel, by decide +kernel⟩ ?_ | refine ME.divmod ⟨by decide +kernel, by decide +kernel⟩ ?_ ?_
    | refine ME.bitlen ?_ ?_
    | refine ME.callG rfl ⟨by decide +kernel, by decide +kernel⟩ ?_ | refine ME.callI rfl (by decide) ⟨rfl, by decide +kernel, by decide +kernel, by decide +kernel⟩ ?_
    | refine ME.comp (compLay_of (by decide +kernel)) (fun _ _ => rfl) ?_ ?_ ?_
    | refine MS.setComp ⟨rfl, by decide +kernel⟩ (compLay_of (by decide +kernel)) (fun env he => swap_ok he (by decide +kernel)) (fun _ _ => rfl) ?_ ?_ ?_
    | refine MS.set (t := .loc _) ⟨rfl, by decide +kernel⟩ rfl ?_
    | refine MS.set (t := .cel _) ⟨rfl, by decide +kernel, by decide, rfl⟩ rfl ?_
    | refine MS.set2 ⟨rfl, by decide +kernel⟩ ⟨rfl, by decide +kernel⟩ (fun _ => rfl) (fun _ => rfl) ?_
    | refine MS.setT ⟨rfl, by decide +kernel⟩ ⟨rfl, by decide +kernel⟩ (fun env he => by obtain ⟨sc, l, g, c, q, f, cd, fr, b⟩ := env; cases he; with_unfolding_all rfl) ?_ ?_
    | refine MS.setI rfl ?_ ?_ ?_
    | refine MS.append ?_ ?_ ?_ | refine MS.insert ?_ ?_ ?_ ?_ | refine MS.reverse ?_ ?_
    | refine MS.expr rfl ?_
    | refine MS.ite ?_ ?_ ?_ | refine MS.whil ?_ ?_
    | refine MS.forRev (t := .loc _) ⟨rfl, by decide +kernel⟩ ⟨by decide +kernel, by decide +kernel⟩ ?_ ?_
    | refine MS.forIn (t := .loc _) ⟨rfl, by decide +kernel⟩ ?_ ?_
    | refine MS.forIn (t := .cel _) ⟨rfl, by decide +kernel, by decide, rfl⟩ ?_ ?_
    | refine MS.ret ?_ | exact MS.retN
    | exact MS.defI ⟨⟨_, rfl, rfl, rfl, rfl, rfl, rfl, inn_cel⟩, rfl, rfl, fun _ => rfl, rfl, rfl, by decide +kernel, rfl, rfl, free_of (by decide +kernel)⟩)

theorem mt_inn1 : MSs nms (innLay (stAt 5) (some 2)) (bodyOf (innSt (stAt 5))) cInn1.body := by
  unfold cInn1
  dsimp only
  repeat' (first
    | exact MSs.nil | exact MSs.bad | exact MEs.nil | exact MO.none
    | refine MSs.cons ?_ ?_ | refine MEs.cons ?_ ?_ | refine MO.some ?_
    | (unfold MethOk; exact ⟨_, fun _ => rfl⟩)
    | exact ME.int | exact ME.bool | exact ME.none
    | exact ME.loc ⟨rfl, by decide +kernel, by decide +kernel⟩
    | exact ME.cel ⟨rfl, by decide +kernel, by decide +kernel, by decide +kernel⟩
    | exact ME.glob ⟨by decide +kernel, by decide +kernel⟩ (by decide +kernel)
    | refine ME.bin (o := .add) ?_ ?_
    | refine ME.bin (o := .sub) ?_ ?_
    | refine ME.bin (o := .mul) ?_ ?_
    | refine ME.bin (o := .fdiv) ?_ ?_
    | refine ME.bin (o := .fmod) ?_ ?_
    | refine ME.bin (o := .shl) ?_ ?_
    | refine ME.bin (o := .shr) ?_ ?_
    | refine ME.bin (o := .xor) ?_ ?_
    | refine ME.cmp (o := .lt) ?_ ?_
    | refine ME.cmp (o := .le) ?_ ?_
    | refine ME.cmp (o := .gt) ?_ ?_
    | refine ME.cmp (o := .eq) ?_ ?_
    | refine ME.cmp (o := .ne) ?_ ?_
    | refine ME.isNone ?_ | refine ME.band ?_ ?_ | refine ME.bor ?_ ?_ | refine ME.ife ?_ ?_ ?_
    | refine ME.list ?_ | refine ME.pair ?_ ?_ | refine ME.idx (fun _ _ => rfl) ?_ ?_
    | refine ME.lenDict ⟨by decide +kernel, by decide +kernel⟩ ⟨by decide +kernel, by decide +kernel⟩ ?_
    | refine ME.len ⟨by decide +kernel, by decide +kernel⟩ ?_ | refine ME.range2 ⟨by decide +kernel, by decide +kernel⟩ ?_ ?_ | refine ME.range3 ⟨by decide +kernel, by decide +kernel⟩ ?_ ?_ ?_ | refine ME.sum ⟨by decide +kernel, by decide +kernel⟩ ?_ | refine ME.toInt ⟨by decide +kernel, by decide +kernel⟩ ?_ | refine ME.divmod ⟨by decide +kernel, by decide +kernel⟩ ?_ ?_
    | refine ME.bitlen ?_ ?_
    | refine ME.callG rfl ⟨by decide +kernel, by decide +kernel⟩ ?_ | refine ME.callI rfl (by decide) ⟨rfl, by decide +kernel, by decide +kernel, by decide +kernel⟩ ?_
    | refine ME.comp (compLay_of (by decide +kernel)) (fun _ _ => rfl) ?_ ?_ ?_
    | refine MS.setComp ⟨rfl, by decide +kernel⟩ (compLay_of (by decide +kernel)) (fun env he => swap_ok he (by decide +kernel)) (fun _ _ => rfl) ?_ ?_ ?_
    | refine MS.set (t := .loc _) ⟨rfl, by decide +kernel⟩ rfl ?_
    | refine MS.set (t := .cel _) ⟨rfl, by decide +kernel, by decide, rfl⟩ rfl ?_
    | refine MS.set2 ⟨rfl, by decide +kernel⟩ ⟨rfl, by decide +kernel⟩ (fun _ => rfl) (fun _ => rfl) ?_
    | refine MS.setT ⟨rfl, by decide +kernel⟩ ⟨rfl, by decide +kernel⟩ (fun env he => by obtain ⟨sc, l, g, c, q, f, cd, fr, b⟩ := env; cases he; with_unfolding_all rfl) ?_ ?_
    | refine MS.setI rfl ?_ ?_ ?_
    | refine MS.append ?_ ?_ ?_ | refine MS.insert ?_ ?_ ?_ ?_ | refine MS.reverse ?_ ?_
    | refine MS.expr rfl ?_
    | refine MS.ite ?_ ?_ ?_ | refine MS.whil ?_ ?_
    | refine MS.forRev (t := .loc _) ⟨rfl, by decide +kernel⟩ ⟨by decide +kernel, by decide +kernel⟩ ?_ ?_
    | refine MS.forIn (t := .loc _) ⟨rfl, by decide +kernel⟩ ?_ ?_
    | refine MS.forIn (t := .cel _) ⟨rfl, by decide +kernel, by decide, rfl⟩ ?_ ?_
    | refine MS.ret ?_ | exact MS.retN
    | exact MS.defI ⟨⟨_, rfl, rfl, rfl, rfl, rfl, rfl, inn_cel⟩, rfl, rfl, fun _ => rfl, rfl, rfl, by decide +kernel, rfl, rfl, free_of (by decide +kernel)⟩)

theorem mt_law : MSs nms (layOf (stAt 13) none none) (bodyOf (stAt 13)).tail cLaw := by
  unfold cLaw
  repeat' (first
    | exact MSs.nil | exact MSs.bad | exact MEs.nil | exact MO.none
    | refine MSs.cons ?_ ?_ | refine MEs.cons ?_ ?_ | refine MO.some ?_
    | (unfold MethOk; exact ⟨_, fun _ => rfl⟩)
    | exact ME.int | exact ME.bool | exact ME.none
    | exact ME.loc ⟨rfl, by decide +kernel, by decide +kernel⟩
    | exact ME.cel ⟨rfl, by decide +kernel, by decide +kernel, by decide +kernel⟩
    | exact ME.glob ⟨by decide +kernel, by decide +kernel⟩ (by decide +kernel)
    | refine ME.bin (o := .add) ?_ ?_
    | refine ME.bin (o := .sub) ?_ ?_
    | refine ME.bin (o := .mul) ?_ ?_
    | refine ME.bin (o := .fdiv) ?_ ?_
    | refine ME.bin (o := .fmod) ?_ ?_
    | refine ME.bin (o := .shl) ?_ ?_
    | refine ME.bin (o := .shr) ?_ ?_
    | refine ME.bin (o := .xor) ?_ ?_
    | refine ME.cmp (o := .lt) ?_ ?_
    | refine ME.cmp (o := .le) ?_ ?_
    | refine ME.cmp (o := .gt) ?_ ?_
    | refine ME.cmp (o := .eq) ?_ ?_
    | refine ME.cmp (o := .ne) ?_ ?_
    | refine ME.isNone ?_ | refine ME.band ?_ ?_ | refine ME.bor ?_ ?_ | refine ME.ife ?_ ?_ ?_
    | refine ME.list ?_ | refine ME.pair ?_ ?_ | refine ME.idx (fun _ _ => rfl) ?_ ?_
    | refine ME.lenDict ⟨by decide +kernel, by decide +kernel⟩ ⟨by decide +kernel, by decide +kernel⟩ ?_
    | refine ME.len ⟨by decide +kernel, by decide +kernel⟩ ?_ | refine ME.range2 ⟨by decide +kernel, by decide +kernel⟩ ?_ ?_ | refine ME.range3 ⟨by decide +kernel, by decide +kernel⟩ ?_ ?_ ?_ | refine ME.sum ⟨by decide +kernel, by decide +kernel⟩ ?_ | refine ME.toInt ⟨by decide +kernel, by decide +kernel⟩ ?_ | refine ME.divmod ⟨by decide +kernel, by decide +kernel⟩ ?_ ?_
    | refine ME.bitlen ?_ ?_
    | refine ME.callG rfl ⟨by decide +kernel, by decide +kernel⟩ ?_ | refine ME.callI rfl (by decide) ⟨rfl, by decide +kernel, by decide +kernel, by decide +kernel⟩ ?_
    | refine ME.comp (compLay_of (by decide +kernel)) (fun _ _ => rfl) ?_ ?_ ?_
    | refine MS.setComp ⟨rfl, by decide +kernel⟩ (compLay_of (by decide +kernel)) (fun env he => swap_ok he (by decide +kernel)) (fun _ _ => rfl) ?_ ?_ ?_
    | refine MS.set (t := .loc _) ⟨rfl, by decide +kernel⟩ rfl ?_
    | refine MS.set (t := .cel _) ⟨rfl, by decide +kernel, by decide, rfl⟩ rfl ?_
    | refine MS.set2 ⟨rfl, by decide +kernel⟩ ⟨rfl, by decide +kernel⟩ (fun _ => rfl) (fun _ => rfl) ?_
    | refine MS.setT ⟨rfl, by decide +kernel⟩ ⟨rfl, by decide +kernel⟩ (fun env he => by obtain ⟨sc, l, g, c, q, f, cd, fr, b⟩ := env; cases he; with_unfolding_all rfl) ?_ ?_
    | refine MS.setI rfl ?_ ?_ ?_
    | refine MS.append ?_ ?_ ?_ | refine MS.insert ?_ ?_ ?_ ?_ | refine MS.reverse ?_ ?_
    | refine MS.expr rfl ?_
    | refine MS.ite ?_ ?_ ?_ | refine MS.whil ?_ ?_
    | refine MS.forRev (t := .loc _) ⟨rfl, by decide +kernel⟩ ⟨by decide +kernel, by decide +kernel⟩ ?_ ?_
    | refine MS.forIn (t := .loc _) ⟨rfl, by decide +kernel⟩ ?_ ?_
    | refine MS.forIn (t := .cel _) ⟨rfl, by decide +kernel, by decide, rfl⟩ ?_ ?_
    | refine MS.ret ?_ | exact MS.retN
    | exact MS.defI ⟨⟨_, rfl, rfl, rfl, rfl, rfl, rfl, inn_cel⟩, rfl, rfl, fun _ => rfl, rfl, rfl, by decide +kernel, rfl, rfl, free_of (by decide +kernel)⟩)

end Mine
end
section
open PySem PySem.Spec PySem.Calls PyProof.Rows PySem.W
namespace Mine
set_option Elab.async false
set_option linter.unusedVariables false
set_option maxRecDepth 100000

structure FnF (K : Frag) (nm : Str) (st : Stmt) (f c : Addr) (dv kv : Value) : Prop where
  g : nsIn K mainGlobals nm = some (some (.ref f))
  o : ∃ oc od sl doc pm an ct, K.lookup f = some ⟨oc, od, .func (fnX nm nm (parsOf st) (bodyOf st) (scopeOf st) [] dv kv doc pm an (.ref c) ct), sl⟩
  c : ∃ oc vs t, K.lookup c = some oc ∧ oc.data = .fields vs ∧ vs[1]? = some (.str nm t)
/-- defaults of a def: the tuple, the dict -/
structure DfF (K : Frag) (T D : Addr) : Prop where
  T : ∃ oT i n, K.lookup T = some oT ∧ oT.data = .seq #[.int 0 i, .none] n
  D : nsIn K D "key" = some (some .none) ∧ ∃ oD es ep, K.lookup D = some oD ∧ oD.data = .dict es ep ∧ StrKeys es

structure LawF (K : Frag) (h₀ : Heap) (mg mb : Str → Option Value) : Prop where
  X : K.In h₀
  g : h₀.Ns mainGlobals mg
  b : h₀.Ns builtinsNs mb
  lim : h₀.NoLimit
  bm : BMain h₀ mg
  bi : ∀ x v, (x, v) ∈ biTab → mg x = none ∧ mb x = some v
  c1 : CodeHd h₀ 41 37
  c2 : CodeHd h₀ 34 30
  t1 : h₀.get? 37 = none
  t2 : h₀.get? 30 = none
  f0 : FnF K "_div2n1n" (stAt 2) 21 20 .none .none
  f1 : FnF K "_div3n2n" (stAt 3) 28 27 .none .none
  f2 : FnF K "_int2digits" (stAt 4) 35 34 .none .none
  f3 : FnF K "_digits2int" (stAt 5) 42 41 .none .none
  f4 : FnF K "_divmod_pos" (stAt 6) 49 48 .none .none
  f5 : FnF K "int_divmod" (stAt 7) 56 55 .none .none
  f6 : FnF K "insort_left" (stAt 9) 65 64 (.ref 57) (.ref 58)
  f7 : FnF K "bisect_left" (stAt 10) 74 73 (.ref 66) (.ref 67)
  f8 : FnF K "_law_primes" (stAt 12) 81 80 .none .none
  d6 : DfF K 57 58
  d7 : DfF K 66 67
  lim4 : ∃ t, nsIn K mainGlobals "_DIV_LIMIT" = some (some (.int 4000 t))

def lawX (prog : Program) (w : World) (h₀ : Heap) (mg mb : Str → Option Value) : Cx :=
  ⟨prog, w, h₀, [⟨37, 41, posOf (innSt (stAt 5)), "_digits2int.<locals>.inner"⟩, ⟨30, 34, posOf (innSt (stAt 4)), "_int2digits.<locals>.inner"⟩], mg, mb, [], [], rfs⟩

section
variable {K : Frag} {prog : Program} {w : World} {h₀ : Heap} {mg mb : Str → Option Value}
theorem LawF.bok (L : LawF K h₀ mg mb) : BOK (lawX prog w h₀ mg mb) where
  g := L.g
  b := L.b
  lim := L.lim
  fnm := fun k nm f h => by cases h
  gim := fun x i h => by cases h
  bi := L.bi
  bmain := L.bm
  low := by
    obtain ⟨o, es, ep, e, _⟩ := L.g
    exact Nat.lt_trans (by decide) (Heap.lt_size e)
  tabU := fun d hd d' hd' e => by
    rcases List.mem_cons.mp hd with rfl | hd
    · rcases List.mem_cons.mp hd' with rfl | hd'
      · rfl
      · rw [List.mem_singleton.mp hd'] at e; exact absurd e (by decide)
    · rw [List.mem_singleton.mp hd] at e ⊢
      rcases List.mem_cons.mp hd' with rfl | hd'
      · exact absurd e (by decide)
      · rw [List.mem_singleton.mp hd']
  tabH := fun d hd => by
    rcases List.mem_cons.mp hd with rfl | hd
    · exact L.t1
    · rw [List.mem_singleton.mp hd]; exact L.t2
theorem FnF.at {nm : Str} {st : Stmt} {f c : Addr} {dv kv : Value} (F : FnF K nm st f c dv kv) (X : K.In h₀) (g : h₀.Ns mainGlobals mg) : ∃ f o fd, mg nm = some (.ref f) ∧ h₀.get? f = some o ∧ o.data = .func fd := by
  obtain ⟨oc, od, sl, doc, pm, an, ct, e⟩ := F.o
  exact ⟨f, _, _, mg_of X g F.g, X _ _ e, rfl⟩
theorem LawF.nok (L : LawF K h₀ mg mb) : NOK nms (lawX prog w h₀ mg mb) where
  B := L.bok
  fn := fun k nm h => by
    match k, h with
    | 0, h => cases h; exact L.f0.at L.X L.g
    | 1, h => cases h; exact L.f1.at L.X L.g
    | 2, h => cases h; exact L.f2.at L.X L.g
    | 3, h => cases h; exact L.f3.at L.X L.g
    | 4, h => cases h; exact L.f4.at L.X L.g
    | 5, h => cases h; exact L.f5.at L.X L.g
    | 6, h => cases h; exact L.f6.at L.X L.g
    | 7, h => cases h; exact L.f7.at L.X L.g
    | 8, h => cases h; exact L.f8.at L.X L.g
    | n + 9, h => cases h
  gi := fun x i h => by
    cases List.mem_singleton.mp h
    obtain ⟨t, ht⟩ := L.lim4
    exact ⟨t, mg_of L.X L.g ht⟩
  inn := rfl

/-- the facts of a def that has no cells -/
structure Plain (N : Nms) (st : Stmt) (cf : CFn) (ps : List Str) (lay : Lay) : Prop where
  co : (scopeOf st).isCoroutine = false
  gen : (scopeOf st).isGenerator = false
  kind : (scopeOf st).kind = .function
  sc : lay.scope = scopeOf st
  mb : MSs N lay (bodyOf st) cf.body
  pp : Paired (ParM lay) cf.par ps
  nl : lay.loc.length = cf.nloc
  nd : lay.loc.Nodup
  cn : lay.cel.Nodup
theorem celU_of {lay : Lay} (h : lay.cel.Nodup) : CelU lay := fun j j' y e e' => nodup_nth h e e'
theorem defAt_of {N : Nms} {X : Cx} (hX : X.h₀ = h₀) {nm : Str} {st : Stmt} {f c : Addr} {dv kv : Value} {cf : CFn} {ps : List Str} {lay : Lay} (XK : K.In h₀) (F : FnF K nm st f c dv kv) (P : Plain N st cf ps lay)
    (hbind : ∀ (doc pm : Value) (an : Option Addr) (ct : Value) (vals : List Value) (as : List AV) (σ : St), vals.length = as.length → enter cf as = some σ → ∀ s : Shared, (∀ b o, h₀.get? b = some o → s.heap.get? b = some o) →
      ∃ dv' : List Value, (∀ ad h, Paired (VR ad h) dv' (cf.dfl.drop (as.length - (cf.par.length - cf.dfl.length)))) ∧ BindsTo s (fnX nm nm (parsOf st) (bodyOf st) (scopeOf st) [] dv kv doc pm an (.ref c) ct) ⟨vals, []⟩ (ps.zip (vals ++ dv')))
    (hcells : ∀ L : Nat, ∃ cd : List Addr, cd.length = cf.ncel ∧ cd.Nodup ∧ (∀ c ∈ cd, L < c) ∧ (∀ j c, nth cd j = some c → ∃ y, nth lay.cel j = some (some y)) ∧ ∀ j y, nth lay.cel j = some (some y) → ∃ c, nth cd j = some c ∧ (cellsFrom (L + 1) (scopeOf st).names []).lookup y = some c)
    (hdfn : ∀ q, lay.dfn = some q → ∃ d rf, nth X.inn q = some rf ∧ d ∈ X.tabs ∧ c = d.c ∧ CodeHd X.h₀ d.c d.P ∧ d.pos = rf.pos ∧ d.qual = rf.qual ∧ ∀ env : Env, env.scope = scopeOf st → env.qual = nm ++ ".<locals>." → qualnameIn env rf.name rf.name = rf.qual) : DefAt N X f cf := by
  subst hX
  obtain ⟨oc, od, sl, doc, pm, an, ct, e⟩ := F.o
  obtain ⟨o2, vs, t, e2, e3, e4⟩ := F.c
  refine ⟨_, _, bodyOf st, lay, ps, XK _ _ e, rfl, P.co, P.gen, P.kind, rfl, ⟨c, o2, vs, t, rfl, XK _ _ e2, e3, e4⟩, rfl, rfl, rfl, P.sc, P.mb, P.pp, P.nl, P.nd, celU_of P.cn, hbind doc pm an ct, hcells, fun q hq => ?_⟩
  obtain ⟨d, rf, h1, h2, h3, h4, h5, h6, h7⟩ := hdfn q hq
  exact ⟨d, rf, h1, h2, by rw [h3], h4, h5, h6, h7⟩
theorem no_cells {st : Stmt} {cf : CFn} {lay : Lay} (h1 : cf.ncel = 0) (h2 : lay.cel = []) (L : Nat) : ∃ cd : List Addr, cd.length = cf.ncel ∧ cd.Nodup ∧ (∀ c ∈ cd, L < c) ∧ (∀ j c, nth cd j = some c → ∃ y, nth lay.cel j = some (some y)) ∧ ∀ j y, nth lay.cel j = some (some y) → ∃ c, nth cd j = some c ∧ (cellsFrom (L + 1) (scopeOf st).names []).lookup y = some c :=
  ⟨[], h1.symm, .nil, (fun _ h => nomatch h), (fun _ _ h => nomatch h), fun j y h => by rw [h2] at h; cases h⟩
theorem len1 {α : Type} : ∀ {l : List α}, l.length = 1 → ∃ a, l = [a]
  | [a], _ => ⟨a, rfl⟩
theorem len2 {α : Type} : ∀ {l : List α}, l.length = 2 → ∃ a b, l = [a, b]
  | [a, b], _ => ⟨a, b, rfl⟩
theorem len3 {α : Type} : ∀ {l : List α}, l.length = 3 → ∃ a b c, l = [a, b, c]
  | [a, b, c], _ => ⟨a, b, c, rfl⟩
theorem len4 {α : Type} : ∀ {l : List α}, l.length = 4 → ∃ a b c d, l = [a, b, c, d]
  | [a, b, c, d], _ => ⟨a, b, c, d, rfl⟩
theorem ar1 {cf : CFn} {as : List AV} {σ : St} {n : Nat} (e : enter cf as = some σ) (h : cf.ar = [n]) : as.length = n := by
  have := (guard_eq e).1
  rw [h] at this
  simpa [List.any] using Nat.eq_of_beq_eq_true (by simpa [List.any] using this)
theorem dfl_nil {ad : List Addr} {h : Heap} {cf : CFn} {n : Nat} (e : cf.dfl = []) : Paired (VR ad h) [] (cf.dfl.drop n) := by rw [e, List.drop_nil]; exact .nil

theorem pl_div2 : Plain nms (stAt 2) cDiv2 ["a", "b", "n"] (layOf (stAt 2) none none) :=
  ⟨rfl, rfl, rfl, rfl, mt_div2, .cons ⟨rfl, by decide +kernel⟩ (.cons ⟨rfl, by decide +kernel⟩ (.cons ⟨rfl, by decide +kernel⟩ .nil)), rfl, by decide +kernel, by decide +kernel⟩
theorem pl_int2 : Plain nms (stAt 4) cInt2 ["a", "n"] (layOf (stAt 4) (some 2) (some 0)) :=
  ⟨rfl, rfl, rfl, rfl, mt_int2, .cons ⟨rfl, by decide +kernel⟩ (.cons ⟨rfl, by decide +kernel⟩ .nil), rfl, by decide +kernel, by decide +kernel⟩
theorem pl_dig2 : Plain nms (stAt 5) cDig2 ["digits", "n"] (layOf (stAt 5) (some 2) (some 1)) :=
  ⟨rfl, rfl, rfl, rfl, mt_dig2, .cons ⟨rfl, by decide +kernel⟩ (.cons ⟨rfl, by decide +kernel⟩ .nil), rfl, by decide +kernel, by decide +kernel⟩
theorem pl_pos : Plain nms (stAt 6) cPos ["a", "b"] (layOf (stAt 6) none none) :=
  ⟨rfl, rfl, rfl, rfl, mt_pos, .cons ⟨rfl, by decide +kernel⟩ (.cons ⟨rfl, by decide +kernel⟩ .nil), rfl, by decide +kernel, by decide +kernel⟩
theorem pl_divmod : Plain nms (stAt 7) cDivmod ["a", "b"] (layOf (stAt 7) none none) :=
  ⟨rfl, rfl, rfl, rfl, mt_divmod, .cons ⟨rfl, by decide +kernel⟩ (.cons ⟨rfl, by decide +kernel⟩ .nil), rfl, by decide +kernel, by decide +kernel⟩
theorem pl_insort : Plain nms (stAt 9) cInsort ["a", "x", "lo", "hi", "key"] (layOf (stAt 9) none none) :=
  ⟨rfl, rfl, rfl, rfl, mt_insort, .cons ⟨rfl, by decide +kernel⟩ (.cons ⟨rfl, by decide +kernel⟩ (.cons ⟨rfl, by decide +kernel⟩ (.cons ⟨rfl, by decide +kernel⟩ (.cons ⟨rfl, by decide +kernel⟩ .nil)))), rfl, by decide +kernel, by decide +kernel⟩
theorem pl_bisect : Plain nms (stAt 10) cBisect ["a", "x", "lo", "hi", "key"] (layOf (stAt 10) none none) :=
  ⟨rfl, rfl, rfl, rfl, mt_bisect, .cons ⟨rfl, by decide +kernel⟩ (.cons ⟨rfl, by decide +kernel⟩ (.cons ⟨rfl, by decide +kernel⟩ (.cons ⟨rfl, by decide +kernel⟩ (.cons ⟨rfl, by decide +kernel⟩ .nil)))), rfl, by decide +kernel, by decide +kernel⟩
theorem pl_primes : Plain nms (stAt 12) cPrimes ["number"] (layOf (stAt 12) none none) :=
  ⟨rfl, rfl, rfl, rfl, mt_primes, .cons ⟨rfl, by decide +kernel⟩ .nil, rfl, by decide +kernel, by decide +kernel⟩

theorem dAt_div2 (L : LawF K h₀ mg mb) : DefAt nms (lawX prog w h₀ mg mb) 21 cDiv2 :=
  defAt_of rfl L.X L.f0 pl_div2 (fun doc pm an ct vals as σ hl e s hs => by
    obtain ⟨a, b, c, rfl⟩ := len3 (hl.trans (ar1 e rfl))
    exact ⟨[], fun ad h => dfl_nil rfl, BindsTo.of_eq rfl⟩) (no_cells rfl rfl) (fun q h => nomatch h)
theorem dAt_pos (L : LawF K h₀ mg mb) : DefAt nms (lawX prog w h₀ mg mb) 49 cPos :=
  defAt_of rfl L.X L.f4 pl_pos (fun doc pm an ct vals as σ hl e s hs => by
    obtain ⟨a, b, rfl⟩ := len2 (hl.trans (ar1 e rfl))
    exact ⟨[], fun ad h => dfl_nil rfl, BindsTo.of_eq rfl⟩) (no_cells rfl rfl) (fun q h => nomatch h)
theorem dAt_divmod (L : LawF K h₀ mg mb) : DefAt nms (lawX prog w h₀ mg mb) 56 cDivmod :=
  defAt_of rfl L.X L.f5 pl_divmod (fun doc pm an ct vals as σ hl e s hs => by
    obtain ⟨a, b, rfl⟩ := len2 (hl.trans (ar1 e rfl))
    exact ⟨[], fun ad h => dfl_nil rfl, BindsTo.of_eq rfl⟩) (no_cells rfl rfl) (fun q h => nomatch h)
theorem dAt_primes (L : LawF K h₀ mg mb) : DefAt nms (lawX prog w h₀ mg mb) 81 cPrimes :=
  defAt_of rfl L.X L.f8 pl_primes (fun doc pm an ct vals as σ hl e s hs => by
    obtain ⟨a, rfl⟩ := len1 (hl.trans (ar1 e rfl))
    exact ⟨[], fun ad h => dfl_nil rfl, BindsTo.of_eq rfl⟩) (no_cells rfl rfl) (fun q h => nomatch h)
end
end Mine
end
section
open PySem PySem.Spec PySem.Calls PyProof.Rows PySem.W
namespace Mine
set_option Elab.async false
set_option linter.unusedVariables false
set_option maxRecDepth 100000

section
variable {K : Frag} {prog : Program} {w : World} {h₀ : Heap} {mg mb : Str → Option Value}

theorem bd_bisect4 {body scope doc pm an cdv ct} {s : Shared} {T D : Addr} {oT : Obj} {i : Tok} {n : Nat} {m : Str → Option Value} (hT : s.heap.get? T = some oT) (hs : oT.data = .seq #[.int 0 i, .none] n) (hD : s.heap.Ns D m) (hk : m "key" = some .none) (a b c d : Value) :
    BindsTo s (fnX "bisect_left" "bisect_left" (parsOf (stAt 10)) body scope [] (.ref T) (.ref D) doc pm an cdv ct) ⟨[a, b, c, d], []⟩ [("a", a), ("x", b), ("lo", c), ("hi", d), ("key", .none)] := by
  intro M A E Q hq
  unfold bindArgs
  refine wpAny_bind (m := seqItems? (.ref T)) (wpAny_seqItems hT hs ?_)
  refine wpAny_bind (wpAny_of_eq (a := ([("a", a), ("x", b), ("lo", c), ("hi", d)] : List (Str × Value))) rfl ?_)
  refine wpAny_bind ?_
  show wpAny M A (forIn [("key" : Str)] (([("a", a), ("x", b), ("lo", c), ("hi", d)] : List (Str × Value)), ([] : List Str)) _) _ E s
  rw [List.forIn_cons]
  refine wpAny_bind ?_
  refine wpAny_bind (m := nsGet D "key") (wpAny_nsGet hD ?_)
  rw [hk]
  refine wpAny_pure ?_
  refine wpAny_pure ?_
  exact wpAny_pure hq
theorem bd_bisect2 {body scope doc pm an cdv ct} {s : Shared} {T D : Addr} {oT : Obj} {i : Tok} {n : Nat} {m : Str → Option Value} (hT : s.heap.get? T = some oT) (hs : oT.data = .seq #[.int 0 i, .none] n) (hD : s.heap.Ns D m) (hk : m "key" = some .none) (a b : Value) :
    BindsTo s (fnX "bisect_left" "bisect_left" (parsOf (stAt 10)) body scope [] (.ref T) (.ref D) doc pm an cdv ct) ⟨[a, b], []⟩ [("a", a), ("x", b), ("lo", .int 0 i), ("hi", .none), ("key", .none)] := by
  intro M A E Q hq
  unfold bindArgs
  refine wpAny_bind (m := seqItems? (.ref T)) (wpAny_seqItems hT hs ?_)
  refine wpAny_bind (wpAny_of_eq (a := ([("a", a), ("x", b), ("lo", .int 0 i), ("hi", .none)] : List (Str × Value))) rfl ?_)
  refine wpAny_bind ?_
  show wpAny M A (forIn [("key" : Str)] (([("a", a), ("x", b), ("lo", .int 0 i), ("hi", .none)] : List (Str × Value)), ([] : List Str)) _) _ E s
  rw [List.forIn_cons]
  refine wpAny_bind ?_
  refine wpAny_bind (m := nsGet D "key") (wpAny_nsGet hD ?_)
  rw [hk]
  refine wpAny_pure ?_
  refine wpAny_pure ?_
  exact wpAny_pure hq
theorem bd_insort2 {body scope doc pm an cdv ct} {s : Shared} {T D : Addr} {oT : Obj} {i : Tok} {n : Nat} {m : Str → Option Value} (hT : s.heap.get? T = some oT) (hs : oT.data = .seq #[.int 0 i, .none] n) (hD : s.heap.Ns D m) (hk : m "key" = some .none) (a b : Value) :
    BindsTo s (fnX "insort_left" "insort_left" (parsOf (stAt 9)) body scope [] (.ref T) (.ref D) doc pm an cdv ct) ⟨[a, b], []⟩ [("a", a), ("x", b), ("lo", .int 0 i), ("hi", .none), ("key", .none)] := by
  intro M A E Q hq
  unfold bindArgs
  refine wpAny_bind (m := seqItems? (.ref T)) (wpAny_seqItems hT hs ?_)
  refine wpAny_bind (wpAny_of_eq (a := ([("a", a), ("x", b), ("lo", .int 0 i), ("hi", .none)] : List (Str × Value))) rfl ?_)
  refine wpAny_bind ?_
  show wpAny M A (forIn [("key" : Str)] (([("a", a), ("x", b), ("lo", .int 0 i), ("hi", .none)] : List (Str × Value)), ([] : List Str)) _) _ E s
  rw [List.forIn_cons]
  refine wpAny_bind ?_
  refine wpAny_bind (m := nsGet D "key") (wpAny_nsGet hD ?_)
  rw [hk]
  refine wpAny_pure ?_
  refine wpAny_pure ?_
  exact wpAny_pure hq

theorem DfF.at {T D : Addr} (F : DfF K T D) (X : K.In h₀) {s : Shared} (hs : ∀ b o, h₀.get? b = some o → s.heap.get? b = some o) :
    ∃ oT i n m, s.heap.get? T = some oT ∧ oT.data = .seq #[.int 0 i, .none] n ∧ s.heap.Ns D m ∧ m "key" = some .none := by
  obtain ⟨oT, i, n, e1, e2⟩ := F.T
  obtain ⟨e3, oD, es, ep, e4, e5, e6⟩ := F.D
  refine ⟨oT, i, n, fun x => nsFind es x, hs _ _ (X _ _ e1), e2, ⟨oD, es, ep, hs _ _ (X _ _ e4), e5, e6, fun _ => rfl⟩, ?_⟩
  unfold nsIn at e3
  rw [e4] at e3
  obtain ⟨c, d, dt, sl⟩ := oD
  simp only at e5
  subst e5
  simp only at e3
  split at e3
  · rename_i en he
    have e3 := Option.some.inj (Option.some.inj e3)
    unfold nsFind findBy
    dsimp only
    rw [← Array.find?_toList, he]
    exact congrArg some e3
  · split at e3 <;> cases e3

theorem dAt_insort (L : LawF K h₀ mg mb) : DefAt nms (lawX prog w h₀ mg mb) 65 cInsort :=
  defAt_of rfl L.X L.f6 pl_insort (fun doc pm an ct vals as σ hl e s hs => by
    have hlen := ar1 e rfl
    obtain ⟨a, b, rfl⟩ := len2 (hl.trans hlen)
    obtain ⟨oT, i, n, m, h1, h2, h3, h4⟩ := L.d6.at L.X hs
    refine ⟨[.int 0 i, .none, .none], fun ad h => ?_, bd_insort2 h1 h2 h3 h4 a b⟩
    rw [hlen]
    exact .cons ⟨i, rfl⟩ (.cons rfl (.cons rfl .nil))) (no_cells rfl rfl) (fun q h => nomatch h)
theorem ar2' : ∀ n : Nat, cBisect.ar.any (Nat.beq n) = true → n = 2 ∨ n = 4
  | 0, h => absurd h (by decide)
  | 1, h => absurd h (by decide)
  | 2, _ => .inl rfl
  | 3, h => absurd h (by decide)
  | 4, _ => .inr rfl
  | n + 5, h => Bool.noConfusion (show false = true from h)
theorem ar2 {as : List AV} {σ : St} (e : enter cBisect as = some σ) : as.length = 2 ∨ as.length = 4 := ar2' _ (guard_eq e).1
theorem dAt_bisect (L : LawF K h₀ mg mb) : DefAt nms (lawX prog w h₀ mg mb) 74 cBisect :=
  defAt_of rfl L.X L.f7 pl_bisect (fun doc pm an ct vals as σ hl e s hs => by
    obtain ⟨oT, i, n, m, h1, h2, h3, h4⟩ := L.d7.at L.X hs
    rcases ar2 e with hlen | hlen
    · obtain ⟨a, b, rfl⟩ := len2 (hl.trans hlen)
      refine ⟨[.int 0 i, .none, .none], fun ad h => ?_, bd_bisect2 h1 h2 h3 h4 a b⟩
      rw [hlen]
      exact .cons ⟨i, rfl⟩ (.cons rfl (.cons rfl .nil))
    · obtain ⟨a, b, c, d, rfl⟩ := len4 (hl.trans hlen)
      refine ⟨[.none], fun ad h => ?_, bd_bisect4 h1 h2 h3 h4 a b c d⟩
      rw [hlen]
      exact .cons rfl .nil) (no_cells rfl rfl) (fun q h => nomatch h)

theorem qual_ok {env : Env} {sc : Scope} {nm : Str} {x : Str} (h1 : env.scope = sc) (h2 : env.qual = nm ++ ".<locals>.") (h3 : (sc.names.lookup x == some .globalExplicit) = false) : qualnameIn env x x = nm ++ ".<locals>." ++ x := by
  unfold qualnameIn
  have : env.kindOf x = sc.names.lookup x := by show env.scope.names.lookup x = _; rw [h1]
  rw [this, h3, h2]
  rfl
theorem cells3 {lay : Lay} {names : List (Str × NameKind)} {a b c : Str} {L : Nat} (hc : lay.cel = [some a, some b, some c]) (h : cellsFrom (L + 1) names [] = [(c, L + 1 + 1 + 1), (b, L + 1 + 1), (a, L + 1)]) (n1 : (a == c) = false) (n2 : (a == b) = false) (n3 : (b == c) = false) :
    ∃ cd : List Addr, cd.length = 3 ∧ cd.Nodup ∧ (∀ c ∈ cd, L < c) ∧ (∀ j c, nth cd j = some c → ∃ y, nth lay.cel j = some (some y)) ∧ ∀ j y, nth lay.cel j = some (some y) → ∃ c, nth cd j = some c ∧ (cellsFrom (L + 1) names []).lookup y = some c := by
  refine ⟨[L + 1, L + 1 + 1, L + 1 + 1 + 1], rfl, by simp, by simp; omega, fun j x hj => ?_, fun j y hj => ?_⟩
  · rw [hc]
    match j, hj with
    | 0, _ => exact ⟨_, rfl⟩
    | 1, _ => exact ⟨_, rfl⟩
    | 2, _ => exact ⟨_, rfl⟩
    | n + 3, h => cases h
  · rw [hc] at hj
    rw [h]
    match j, hj with
    | 0, h => cases h; exact ⟨_, rfl, by simp [List.lookup_cons, n1, n2]⟩
    | 1, h => cases h; exact ⟨_, rfl, by simp [List.lookup_cons, n3]⟩
    | 2, h => cases h; exact ⟨_, rfl, by simp [List.lookup_cons]⟩
    | n + 3, h => cases h
theorem dAt_int2 (L : LawF K h₀ mg mb) : DefAt nms (lawX prog w h₀ mg mb) 35 cInt2 :=
  defAt_of rfl L.X L.f2 pl_int2 (fun doc pm an ct vals as σ hl e s hs => by
    obtain ⟨a, b, rfl⟩ := len2 (hl.trans (ar1 e rfl))
    exact ⟨[], fun ad h => dfl_nil rfl, BindsTo.of_eq rfl⟩) (fun L => cells3 (a := "n") (b := "a_digits") (c := "inner") rfl rfl (by decide +kernel) (by decide +kernel) (by decide +kernel)) (fun q h => by
      cases h
      exact ⟨⟨30, 34, posOf (innSt (stAt 4)), "_int2digits.<locals>.inner"⟩, _, rfl, .tail _ (.head _), rfl, L.c2, rfl, rfl, fun env h1 h2 => (qual_ok h1 h2 (by decide +kernel)).trans (by decide +kernel)⟩)
theorem dAt_dig2 (L : LawF K h₀ mg mb) : DefAt nms (lawX prog w h₀ mg mb) 42 cDig2 :=
  defAt_of rfl L.X L.f3 pl_dig2 (fun doc pm an ct vals as σ hl e s hs => by
    obtain ⟨a, b, rfl⟩ := len2 (hl.trans (ar1 e rfl))
    exact ⟨[], fun ad h => dfl_nil rfl, BindsTo.of_eq rfl⟩) (fun L => cells3 (a := "digits") (b := "n") (c := "inner") rfl rfl (by decide +kernel) (by decide +kernel) (by decide +kernel)) (fun q h => by
      cases h
      exact ⟨⟨37, 41, posOf (innSt (stAt 5)), "_digits2int.<locals>.inner"⟩, _, rfl, .head _, rfl, L.c1, rfl, rfl, fun env h1 h2 => (qual_ok h1 h2 (by decide +kernel)).trans (by decide +kernel)⟩)

theorem sto_len : ∀ {par : List Tg} {as : List AV} {σ0 σ : St}, stoAll σ0 par as = some σ → as.length = par.length
  | [], [], _, _, _ => rfl
  | _ :: ts, _ :: as, _, _, e => congrArg (· + 1) (sto_len (par := ts) (as := as) (guard_eq e).2)
  | [], _ :: _, _, _, e => by cases e
  | _ :: _, [], _, _, e => by cases e
theorem id_inn0 : InnDef nms (rfOf (stAt 4) "_int2digits.<locals>.inner" (some 2)) cInn0 where
  sc := rfl
  co := rfl
  gen := rfl
  kind := rfl
  nocell := by decide +kernel
  body := mt_inn0
  own := rfl
  dfn := rfl
  nloc := rfl
  nd := by decide +kernel
  cu := celU_of (by decide +kernel)
  loc := fun t ht => by
    rcases List.mem_cons.mp ht with rfl | ht
    · exact ⟨_, rfl⟩
    rcases List.mem_cons.mp ht with rfl | ht
    · exact ⟨_, rfl⟩
    rw [List.mem_singleton.mp ht]; exact ⟨_, rfl⟩
  par := ⟨["x", "L", "R"], .cons ⟨rfl, by decide +kernel⟩ (.cons ⟨rfl, by decide +kernel⟩ (.cons ⟨rfl, by decide +kernel⟩ .nil)), fun vals as σ0 σ hl e s cl doc pm c' ctv => by
    obtain ⟨a, b, c, rfl⟩ := len3 (hl.trans (sto_len e))
    exact BindsTo.of_eq rfl⟩
theorem id_inn1 : InnDef nms (rfOf (stAt 5) "_digits2int.<locals>.inner" (some 2)) cInn1 where
  sc := rfl
  co := rfl
  gen := rfl
  kind := rfl
  nocell := by decide +kernel
  body := mt_inn1
  own := rfl
  dfn := rfl
  nloc := rfl
  nd := by decide +kernel
  cu := celU_of (by decide +kernel)
  loc := fun t ht => by
    rcases List.mem_cons.mp ht with rfl | ht
    · exact ⟨_, rfl⟩
    rw [List.mem_singleton.mp ht]; exact ⟨_, rfl⟩
  par := ⟨["L", "R"], .cons ⟨rfl, by decide +kernel⟩ (.cons ⟨rfl, by decide +kernel⟩ .nil), fun vals as σ0 σ hl e s cl doc pm c' ctv => by
    obtain ⟨a, b, rfl⟩ := len2 (hl.trans (sto_len e))
    exact BindsTo.of_eq rfl⟩

theorem LawF.df (L : LawF K h₀ mg mb) : ∀ k cf args σ, nth fns k = some cf → enter cf args = some σ → ∀ nm f, nth nms.fn k = some nm → (lawX prog w h₀ mg mb).mg nm = some (.ref f) → DefAt nms (lawX prog w h₀ mg mb) f cf := by
  intro k cf args σ h1 h2 nm f h3 h4
  have fn : ∀ {st : Stmt} {f' c : Addr} {dv kv : Value}, FnF K nm st f' c dv kv → f = f' := fun F => by
    have := mg_of L.X L.g F.g
    have h4 : mg nm = _ := h4
    rw [this] at h4; cases h4; rfl
  match k, h1, h3 with
  | 0, h1, h3 => cases h1; cases h3; rw [fn L.f0]; exact dAt_div2 L
  | 1, h1, h3 => cases h1; cases h2
  | 2, h1, h3 => cases h1; cases h3; rw [fn L.f2]; exact dAt_int2 L
  | 3, h1, h3 => cases h1; cases h3; rw [fn L.f3]; exact dAt_dig2 L
  | 4, h1, h3 => cases h1; cases h3; rw [fn L.f4]; exact dAt_pos L
  | 5, h1, h3 => cases h1; cases h3; rw [fn L.f5]; exact dAt_divmod L
  | 6, h1, h3 => cases h1; cases h3; rw [fn L.f6]; exact dAt_insort L
  | 7, h1, h3 => cases h1; cases h3; rw [fn L.f7]; exact dAt_bisect L
  | 8, h1, h3 => cases h1; cases h3; rw [fn L.f8]; exact dAt_primes L
  | n + 9, h1, _ => cases h1
theorem inn_ok : ∀ q cf rf, nth inns q = some cf → nth (lawX prog w h₀ mg mb).inn q = some rf → InnDef nms rf cf := by
  intro q cf rf h1 h2
  match q, h1, h2 with
  | 0, h1, h2 => cases h1; cases h2; exact id_inn0
  | 1, h1, h2 => cases h1; cases h2; exact id_inn1
  | n + 2, h1, _ => cases h1
theorem LawF.snd (L : LawF K h₀ mg mb) {orc : Nat → List AV → Option Ans} {res : Nat} (Or : OrcOK nms (lawX prog w h₀ mg mb) res orc) (n : Nat) : Snd nms (lawX prog w h₀ mg mb) (ev fns inns orc n) (n + res) :=
  snd_all L.nok L.df inn_ok Or n
end
end Mine
end
section
open PySem PySem.Spec PySem.Calls PyProof.Rows PySem.W
namespace Mine
set_option Elab.async false
set_option linter.unusedVariables false
set_option maxRecDepth 100000

section
variable {N : Nms} {X : Cx} {v : Ev} {r : Nat} {ad : List Addr} {H : Hp} {h : Heap}
theorem SI.empty (S : SI X ad H h) : SI X [] [] h := ⟨S.base, S.tabs, rfl, .nil, (fun _ _ e => nomatch e), fun _ e => nomatch e⟩
def IsAns (a : Ans) (av : AV) (H' : Hp) : Prop := match a with
  | .pair i j => av = .pair i j
  | .ints l => ∃ k, av = .lst k ∧ hAt H' k = some (l.map .int)
theorem pd_ints {ad' : List Addr} {h' : Heap} : ∀ {vs : List Value} {l : List Int}, Paired (VR ad h) vs (l.map .int) → Paired (VR ad' h') vs (l.map .int)
  | [], [], _ => .nil
  | _ :: _, _ :: l, .cons p q => .cons p (pd_ints (l := l) q)
theorem pd_int {ad' : List Addr} {h' : Heap} : ∀ {vs : List Value} {as : List AV}, (∀ x ∈ as, ∃ i, x = .int i) → Paired (VR ad h) vs as → Paired (VR ad' h') vs as
  | _, _, _, .nil => .nil
  | _, _ :: as, hi, .cons p q => by
    obtain ⟨i, rfl⟩ := hi _ (.head _)
    exact .cons p (pd_int (fun x hx => hi x (.tail _ hx)) q)
theorem orc_one (V : Snd N X v r) {k : Nat} {args : List AV} {av : AV} {H' : Hp} {a : Ans} (hG : v.G k args [] = some (av, H')) (hi : ∀ x ∈ args, ∃ i, x = .int i) (ia : IsAns a av H') {nm : Str} {f : Addr} (hn : nth N.fn k = some nm) (hf : X.mg nm = some (.ref f))
    {vals : List Value} {s : Shared} {A : Around} {Q : Value → Shared → Prop} {E : Value → Shared → Prop} (S : SI X ad H s.heap) (ao : AOK r A) (pv : Paired (VR ad s.heap) vals args) (kq : Kont X ad s (ofAns a H).2 (ofAns a H).1 Q) :
    wpAny (model X.prog X.w) A (call (.ref f) vals) Q E s := by
  refine V.G hG hn hf S.empty ao (pd_int hi pv) fun vl ad' h' tk x S' rv => ?_
  have kp : ∀ b o, s.heap.get? b = some o → ¬ Tabby o → h'.get? b = some o := fun b o e ht => x.keep b o e (fun q => nomatch q) ht (fun q => nomatch q)
  have fr : ∀ b ∈ ad', s.heap.get? b = none := fun b hb => (x.new b hb).elim (fun q => nomatch q) id
  have E1 : Ext [] ad s.heap ad h' := ⟨⟨[], by simp⟩, fun _ ha => .inl ha, x.dom, fun b o e _ ht _ => kp b o e ht⟩
  have S1 : SI X ad H h' := ⟨S'.base, S'.tabs, S.len, S.nd, fun k its q => by
    obtain ⟨a, vs, n, e1, e2, e3⟩ := S.lists k its q
    exact ⟨a, vs, n, e1, kp _ _ e2 (not_tab (by simp)), VRs.ext S (WK.nil _) E1 e3⟩, S.fresh⟩
  cases a with
  | pair i j =>
    cases ia
    exact kq vl ad h' tk E1 S1 rv
  | «ints» l =>
    obtain ⟨k', rfl, hk⟩ := ia
    obtain ⟨b, eb, rfl⟩ := rv
    obtain ⟨b', vs, n, e1, e2, e3⟩ := S'.lists k' _ hk
    rw [eb] at e1; cases e1
    have hb : s.heap.get? b = none := fr b (nth_mem eb)
    refine kq _ (ad ++ [b]) h' tk (E1.adopt hb) (S1.adopt e2 (fun q => ?_) (S'.fresh b (nth_mem eb)) (pd_ints e3)) ⟨b, by rw [← S.len]; exact nth_snoc _ _, rfl⟩
    obtain ⟨_, _, e⟩ := S.at q
    rw [hb] at e; cases e
end

section
variable {K : Frag} {prog : Program} {w : World} {h₀ : Heap} {mg mb : Str → Option Value}
theorem orc0_ok : OrcOK nms (lawX prog w h₀ mg mb) 0 orc0 := fun _ _ _ h => nomatch h
theorem inR_at {i : Int} (h : inR i = true) : ∃ n : Nat, i = .ofNat n ∧ 1 ≤ n ∧ n ≤ 24 := by
  cases i with
  | ofNat n =>
    have h : (Nat.ble 1 n && Nat.ble n 24) = true := h
    rw [Bool.and_eq_true] at h
    exact ⟨n, rfl, ble_le h.1, ble_le h.2⟩
  | negSucc n => cases h
theorem isPair_at {x : Option (AV × Hp)} {a b : Int} (h : isPair x a b = true) : ∃ H', x = some (.pair a b, H') := by
  unfold isPair at h
  split at h
  · rename_i i j H'
    rw [Bool.and_eq_true, eqB_eq, eqB_eq] at h
    rw [eq_of_beq h.1, eq_of_beq h.2]
    exact ⟨_, rfl⟩
  · cases h
theorem LawF.orc1 (L : LawF K h₀ mg mb) : OrcOK nms (lawX prog w h₀ mg mb) 40 Mine.orc1 := by
  intro k args a h nm f hn hf vals s ad H A Q E S ao pv kq
  unfold Mine.orc1 at h
  split at h
  · rename_i i j hk
    obtain ⟨h1, h⟩ := guard_eq h
    obtain ⟨h2, h⟩ := guard_eq h
    obtain ⟨h3, h⟩ := guard_eq h
    cases h
    obtain ⟨n, rfl, n1, n2⟩ := inR_at h1
    obtain ⟨m, rfl, m1, m2⟩ := inR_at h2
    rw [leB_eq, decide_eq_true_eq] at h3
    have hm : m ≤ n := Int.ofNat_le.mp h3
    have ok := dv_all n m n1 n2 m1 hm
    obtain ⟨H', e⟩ := isPair_at ok
    have hk5 : k = 5 := Nat.eq_of_beq_eq_true hk
    subst hk5
    have V := L.snd (prog := prog) (w := w) orc0_ok 40
    refine orc_one (a := .pair _ _) V e (fun x hx => ?_) rfl hn hf S ao pv kq
    rcases List.mem_cons.mp hx with rfl | hx
    · exact ⟨_, rfl⟩
    · rw [List.mem_singleton.mp hx]; exact ⟨_, rfl⟩
  · cases h
theorem avInts_eq : ∀ {xs : List AV} {l : List Int}, avInts xs = some l → xs = l.map .int
  | [], l, h => by cases h; rfl
  | .int i :: xs, l, h => by
    obtain ⟨r, e, h⟩ := bind_eq h
    cases h
    rw [avInts_eq e]; rfl
  | .none :: _, _, h => by cases h
  | .bool _ :: _, _, h => by cases h
  | .lst _ :: _, _, h => by cases h
  | .pair _ _ :: _, _, h => by cases h
  | .rng _ _ _ :: _, _, h => by cases h
theorem LawF.orc2 (L : LawF K h₀ mg mb) : OrcOK nms (lawX prog w h₀ mg mb) 100 Mine.orc2 := by
  intro k args a h nm f hn hf vals s ad H A Q E S ao pv kq
  unfold Mine.orc2 at h
  split at h
  · rename_i n
    obtain ⟨l, e1, h⟩ := bind_eq h
    obtain ⟨h1, h⟩ := guard_eq h
    cases h
    have hn24 : n ≤ 24 := by
      have := nth_lt e1
      have h25 : prTab.length = 25 := rfl
      omega
    have ok := pr_all n (ble_le h1) hn24
    unfold okP at ok
    rw [e1] at ok
    split at ok
    · rename_i l1 l2 q1 q2
      cases q2
      have := eq_of_beq ok
      subst this
      unfold prs asInts at q1
      split at q1
      · rename_i k' H' hG
        obtain ⟨xs, q2, q3⟩ := bind_eq q1
        have V := L.snd (prog := prog) (w := w) L.orc1 60
        exact orc_one (a := .ints l1) V hG (fun x hx => ⟨_, List.mem_singleton.mp hx⟩) ⟨k', rfl, by rw [q2, avInts_eq q3]⟩ hn hf S ao pv kq
      · cases q1
    · cases ok
  · exact L.orc1 k args a h hn hf S (ao.le (by decide)) pv kq
end
end Mine
end
section
open PySem PySem.Spec PySem.Calls PyProof.Rows PySem.W
namespace Mine
set_option Elab.async false
set_option linter.unusedVariables false
set_option maxRecDepth 100000

section
variable {K : Frag} {prog : Program} {w : World} {h₀ : Heap} {mg mb : Str → Option Value}
abbrev lawLay : Lay := layOf (stAt 13) none none
theorem lawLay_cel : lawLay.cel = ([some "bound", some "number", some "primes", some "turn", some "plain"] : List (Option Str)) := rfl
theorem lawCells (n : Nat) : cellsFrom n (scopeOf (stAt 13)).names [] = ([("plain", n + 1 + 1 + 1 + 1), ("turn", n + 1 + 1 + 1), ("primes", n + 1 + 1), ("number", n + 1), ("bound", n)] : List (Str × Addr)) := rfl
theorem law_first : ∃ p1 p2 k1 p3 k2 p4 p5 p6 p7 k3 p8 p9 p10 p11 k4 p12 p13, bodyOf (stAt 13) = .Assign [.Tuple [.Name "bound" p1, .Name "squares" p2] k1 p3] (.Tuple [.BinOp (.Constant (.int 2) k2 p4) .Add (.BinOp (.Call (.Name "sum" p5) [.Name "script" p6] [] p7) .Mod (.Constant (.int 23) k3 p8) p9) p10, .List [] p11] k4 p12) p13 :: (bodyOf (stAt 13)).tail ∧
    ∀ env : Env, env.scope = scopeOf (stAt 13) → swappedStores [.Tuple [.Name "bound" p1, .Name "squares" p2] k1 p3] (.Tuple [.BinOp (.Constant (.int 2) k2 p4) .Add (.BinOp (.Call (.Name "sum" p5) [.Name "script" p6] [] p7) .Mod (.Constant (.int 23) k3 p8) p9) p10, .List [] p11] k4 p12) env = pure none := by
  refine ⟨_, _, _, _, _, _, _, _, _, _, _, _, _, _, _, _, _, rfl, fun env he => ?_⟩
  obtain ⟨sc, l, g, c, q, f, cd, fr, b⟩ := env
  cases he
  with_unfolding_all rfl
theorem isTrue_at {x : Option (Out × Hp)} (h : isTrueOut x = true) : ∃ H', x = some (.rt (.bool true), H') := by
  unfold isTrueOut at h
  split at h
  · rename_i b H'
    have h : b = true := h
    subst h
    exact ⟨_, rfl⟩
  · cases h
theorem law_cells {Lo : Nat} : ∃ cd : List Addr, cd.length = 5 ∧ cd.Nodup ∧ (∀ j c, nth cd j = some c → ∃ i, i < 5 ∧ c = Lo + 1 + i) ∧ ∀ j y, nth lawLay.cel j = some (some y) → ∃ c, nth cd j = some c ∧ (cellsFrom (Lo + 1) (scopeOf (stAt 13)).names []).lookup y = some c := by
  refine ⟨[Lo + 1, Lo + 1 + 1, Lo + 1 + 1 + 1, Lo + 1 + 1 + 1 + 1, Lo + 1 + 1 + 1 + 1 + 1], rfl, by simp, fun j x hj => ?_, fun j y hj => ?_⟩
  · match j, hj with
    | 0, h => cases h; exact ⟨0, by decide, rfl⟩
    | 1, h => cases h; exact ⟨1, by decide, rfl⟩
    | 2, h => cases h; exact ⟨2, by decide, rfl⟩
    | 3, h => cases h; exact ⟨3, by decide, rfl⟩
    | 4, h => cases h; exact ⟨4, by decide, rfl⟩
    | n + 5, h => cases h
  · rw [lawLay_cel] at hj
    rw [lawCells]
    match j, hj with
    | 0, h => cases h; exact ⟨_, rfl, rfl⟩
    | 1, h => cases h; exact ⟨_, rfl, rfl⟩
    | 2, h => cases h; exact ⟨_, rfl, rfl⟩
    | 3, h => cases h; exact ⟨_, rfl, rfl⟩
    | 4, h => cases h; exact ⟨_, rfl, rfl⟩
    | n + 5, h => cases h

theorem law_body (LF : LawF K h₀ mg mb) {s : Shared} {A : Around} {Lo fa D : Addr} {cdv : Value} {m : Str → Option Value} {vs : List Value} {ns : List Int} {Q : Flow → Shared → Prop} {E : Value → Shared → Prop}
    (F : Fr h₀ Lo s.heap m) (hm : m "script" = some (.ref D)) (hD : h₀.IsList D vs.toArray) (hI : IntsAre vs ns) (hc : ∀ i, i < 5 → s.heap.IsCell (Lo + 1 + i) none ∧ h₀.get? (Lo + 1 + i) = none) (hL : h₀.get? Lo = none)
    (t1 : s.heap.get? 37 = some (tabObj #[])) (t2 : s.heap.get? 30 = some (tabObj #[])) (a : AOK 180 A)
    (hQ : ∀ h' tk, (∀ b o, h₀.get? b = some o → h'.get? b = some o) → GrownAt 37 h' → GrownAt 30 h' → Q (.ret (.bool true)) { s with heap := h', toks := tk }) :
    wpAny (model prog w) A (execs (bodyOf (stAt 13)) (envOfC "law" (scopeOf (stAt 13)) Lo fa cdv)) Q E s := by
  generalize he : envOfC "law" (scopeOf (stAt 13)) Lo fa cdv = env
  have B : BOK (lawX prog w h₀ mg mb) := LF.bok
  obtain ⟨cd, c1, c2, c3, c4⟩ := law_cells (Lo := Lo)
  have eL : env.locals = Lo := by rw [← he]; rfl
  have EO : EOK (lawX prog w h₀ mg mb) lawLay env cd := by
    refine ⟨by rw [← he]; rfl, rfl, by rw [← he]; rfl, by rw [← he]; rfl, fun j y hj => ?_, fun q hq => nomatch hq⟩
    obtain ⟨c, e1, e2⟩ := c4 j y hj
    exact ⟨c, e1, by rw [← he]; exact e2⟩
  have S : SI (lawX prog w h₀ mg mb) [] [] s.heap := by
    refine ⟨F.keep, fun d hd => ?_, rfl, .nil, (fun _ _ e => nomatch e), fun _ e => nomatch e⟩
    rcases List.mem_cons.mp hd with rfl | hd
    · exact ⟨#[], t1, trivial, .inl rfl⟩
    · rw [List.mem_singleton.mp hd]
      exact ⟨#[], t2, trivial, .inl rfl⟩
  have F0 : FR (lawX prog w h₀ mg mb) lawLay env cd ⟨blank 10, blank 5, .none⟩ [] s.heap := by
    refine ⟨⟨m, eL ▸ F.ns, fun i x av h1 h2 => (blank_nth h2).elim⟩, fun j c hj => ?_, (fun q hq => by cases hq), by rw [eL]; exact hL, fun c hcm => ?_, c2, by decide +kernel, rfl, by rw [c1]; rfl⟩
    · obtain ⟨i, hi, rfl⟩ := c3 j c hj
      exact ⟨none, (hc i hi).1, fun av h2 => (blank_nth h2).elim⟩
    · obtain ⟨j, hj, q⟩ := List.getElem_of_mem hcm
      obtain ⟨i, hi, rfl⟩ := c3 j c (by rw [nth_eq, List.getElem?_eq_getElem hj, q])
      exact (hc i hi).2
  obtain ⟨p1, p2, k1, p3, k2, p4, p5, p6, p7, k3, p8, p9, p10, p11, k4, p12, p13, eb, hsw⟩ := law_first
  rw [eb]
  refine wpAny_execs_cons (Assign_Tuple ?_ rfl (hsw env (by rw [← he]; rfl)))
  refine wpAny_Tuple (wpAny_items_cons (wpAny_BinOp (wpAny_Constant_int (wpAny_BinOp ?_))) rfl)
  refine Call_ (load_bi B EO S (x := "sum") rfl (by decide +kernel) (v := .builtin "sum") (.tail _ (.tail _ (.head _))) ?_)
  refine PyProof.Rows.callWith_builtin1 (wpAny_items_cons (wpAny_Name (wpAny_loadName_local (fr_kind EO) (kind_of EO rfl) (eL ▸ F.ns) hm (wpAny_items_nil ?_)) (by decide +kernel)) rfl) rfl rfl
  have hl : s.heap.IsList D vs.toArray := by obtain ⟨o, e, r⟩ := hD; exact ⟨o, F.keep _ _ e, r⟩
  obtain ⟨xs', hx⟩ := hI.allInts.items
  have hn : numsOf vs.toArray.toList = ns := by rw [show vs.toArray.toList = vs from rfl, hI.numsOf]
  rw [hx] at hl hn
  rw [nums_intItems] at hn
  refine sum_intListG a.hh hl fun h1 tk1 u1 g1 => ?_
  rw [preSum_eq, List.take_of_length_le (by simp), hn]
  refine wpAny_Constant_int (PyProof.Rows.mod_int' (by decide) (PyProof.Rows.add_int ?_))
  obtain ⟨n, en, n2, n24⟩ : ∃ n : Nat, (2 : Int) + ns.sum.fmod 23 = .ofNat n ∧ 2 ≤ n ∧ n ≤ 24 := by
    have h1 := Int.fmod_nonneg_of_pos ns.sum (b := 23) (by decide)
    have h2 := Int.fmod_lt_of_pos ns.sum (b := 23) (by decide)
    refine ⟨(2 + ns.sum.fmod 23).toNat, ?_, ?_, ?_⟩
    · exact (Int.toNat_of_nonneg (by omega)).symm
    · omega
    · omega
  rw [en]
  refine wpAny_items_cons (wpAny_List (wpAny_items_nil ⟨by simp [sizeLine], wpAny_items_nil ⟨by simp [sizeLine], ?_⟩⟩)) rfl
  have S1 := S.grow g1
  have F1 := F0.grow S g1
  have S2 := S1.newList (vs := []) (its := []) 0 .nil
  have F2 := F1.ext0 S1 (Ext.newList _ _ (Lst [] 0))
  have r2 := VR.newList S1 (o := Lst [] 0)
  refine assign_Tuple_tuple a.hh (items := ([.int (.ofNat n) _, .ref h1.objs.size] : List Value).toArray) ⟨_, Heap.get?_push_size _ rfl, rfl, _, rfl⟩ rfl rfl fun h4 hx4 => ?_
  have g4 : ∀ b o, (h1.push (Lst [] 0)).get? b = some o → h4.get? b = some o := fun b o e => by
    have hs : ∀ o', b ≠ ((h1.push (Lst [] 0)).push o').objs.size := fun o' => by rw [Heap.size_push]; exact Nat.ne_of_lt (Nat.lt_succ_of_lt (Heap.lt_size e))
    exact hx4 b o (hs _) (Heap.get?_push_of_some _ e)
  have S4 := S2.grow g4
  have F4 := F2.grow S2 g4
  have r4 := VR.ext S2 (WK.nil _) (Ext.grow g4) r2
  refine assignInOrder_cons (wpAny_assign_Name (store EO S4 F4 (t := .cel 0) ⟨rfl, by decide +kernel, by decide, rfl⟩ rfl (av := .int (.ofNat n)) ⟨_, rfl⟩ fun h5 tk5 S5 F5 x5 => ?_))
  refine assignInOrder_cons (wpAny_assign_Name (store EO S5 F5 (t := .loc 1) ⟨rfl, by decide +kernel⟩ rfl (VR.ext S4 F4.WK x5 r4) fun h6 tk6 S6 F6 x6 => ?_))
  refine assignInOrder_nil ?_
  obtain ⟨H', e⟩ := isTrue_at (lw_all n n2 n24)
  have V := LF.snd (prog := prog) (w := w) LF.orc2 80
  have F6' : FR (lawX prog w h₀ mg mb) lawLay env cd (lawSt n) ([] ++ [h1.objs.size]) h6 := F6
  refine execs_ok V e mt_law EO F6' S6 a (bad_none 80) ?_
  intro vl ad' h' tk x' S' rv
  cases rv
  refine hQ h' tk S'.base ?_ ?_
  · obtain ⟨ps, e, _⟩ := S'.tabs _ (.head _)
    exact ⟨ps, e⟩
  · obtain ⟨ps, e, _⟩ := S'.tabs _ (.tail _ (.head _))
    exact ⟨ps, e⟩
end
end Mine
end
section
open PySem PySem.Spec PySem.Calls PyProof.Rows PySem.W
namespace Mine
set_option Elab.async false
set_option linter.unusedVariables false
set_option maxRecDepth 100000

theorem bi_boot : ∀ x v, (x, v) ∈ biTab → bootBuiltins x = some v ∧ x ≠ "__name__" := by
  intro x v h
  simp only [biTab, List.mem_cons, List.mem_nil_iff, or_false, Prod.mk.injEq] at h
  rcases h with ⟨rfl, rfl⟩ | ⟨rfl, rfl⟩ | ⟨rfl, rfl⟩ | ⟨rfl, rfl⟩ | ⟨rfl, rfl⟩ | ⟨rfl, rfl⟩ | ⟨rfl, rfl⟩ <;> exact ⟨by decide +kernel, by decide +kernel⟩

/-- what the heap ahead of the call is written out as -/
structure FragF (K : Frag) : Prop where
  f0 : FnF K "_div2n1n" (stAt 2) 21 20 .none .none
  f1 : FnF K "_div3n2n" (stAt 3) 28 27 .none .none
  f2 : FnF K "_int2digits" (stAt 4) 35 34 .none .none
  f3 : FnF K "_digits2int" (stAt 5) 42 41 .none .none
  f4 : FnF K "_divmod_pos" (stAt 6) 49 48 .none .none
  f5 : FnF K "int_divmod" (stAt 7) 56 55 .none .none
  f6 : FnF K "insort_left" (stAt 9) 65 64 (.ref 57) (.ref 58)
  f7 : FnF K "bisect_left" (stAt 10) 74 73 (.ref 66) (.ref 67)
  f8 : FnF K "_law_primes" (stAt 12) 81 80 .none .none
  d6 : DfF K 57 58
  d7 : DfF K 66 67
  lim4 : ∃ t, nsIn K mainGlobals "_DIV_LIMIT" = some (some (.int 4000 t))
  bn : ∀ x v, (x, v) ∈ biTab → nsIn K mainGlobals x = some none

theorem lawF_of {K : Frag} {h₀ : Heap} {mg mb : Str → Option Value} {p : Program} {loose : List Str} {mean : ExcName → Option Value} (X : K.In h₀) (T : Top p loose mean mg mb h₀) (c1 : CodeHd h₀ 41 37) (c2 : CodeHd h₀ 34 30) (t1 : h₀.get? 37 = none) (t2 : h₀.get? 30 = none) (f : FragF K) : LawF K h₀ mg mb where
  X := X
  g := T.g
  b := T.b
  lim := T.nolimit
  bm := T.bmain
  bi := fun x v h => ⟨mg_none_of X T.g (f.bn x v h), by rw [T.builtins x (bi_boot x v h).2]; exact (bi_boot x v h).1⟩
  c1 := c1
  c2 := c2
  t1 := t1
  t2 := t2
  f0 := f.f0
  f1 := f.f1
  f2 := f.f2
  f3 := f.f3
  f4 := f.f4
  f5 := f.f5
  f6 := f.f6
  f7 := f.f7
  f8 := f.f8
  d6 := f.d6
  d7 := f.d7
  lim4 := f.lim4
theorem aok_caller (env : Env) : AOK 180 (callerA.deeper env) := ⟨rfl, (by show 1 + claimMargin + 1 + 180 < recursionLimit; decide), (by show 4 + 3 + 10 * 180 + 100 < cLine; decide)⟩
theorem law_main {K : Frag} {h₀ h : Heap} {mg mb m : Str → Option Value} {p : Program} {loose : List Str} {mean : ExcName → Option Value} {prog : Program} {w : World} {s : Shared} {Lo fa D : Addr} {cdv : Value} {vs : List Value} {ns : List Int} {news : List (Addr × Obj)} {env : Env} {Q : Flow → Shared → Prop} {E : Value → Shared → Prop}
    (X : K.In h₀) (T : Top p loose mean mg mb h₀) (F : Fr h₀ Lo h m) (N : News h₀ Lo h news) (hD : h₀.IsList D vs.toArray) (hI : IntsAre vs ns) (c1 : CodeHd h₀ 41 37) (c2 : CodeHd h₀ 34 30) (hs : s.heap = h) (f : FragF K)
    (n1 : (37, tabObj #[]) ∈ news) (n2 : (30, tabObj #[]) ∈ news) (hc : ∀ i, i < 5 → ∃ o, (Lo + 1 + i, o) ∈ news ∧ o.data = .cell none) (hm : m "script" = some (.ref D))
    (hQ : ∀ h' tk, (∀ b o, h₀.get? b = some o → h'.get? b = some o) → GrownAt 37 h' → GrownAt 30 h' → Q (.ret (.bool true)) { s with heap := h', toks := tk }) :
    wpAny (model prog w) (callerA.deeper env) (execs (bodyOf (stAt 13)) (envOfC "law" (scopeOf (stAt 13)) Lo fa cdv)) Q E s := by
  subst hs
  refine law_body (lawF_of X T c1 c2 (N _ n1).2.2 (N _ n2).2.2 f) F hm hD hI (fun i hi => ?_) (Heap.get?_none_of_le F.above) (N _ n1).1 (N _ n2).1 (aok_caller env) hQ
  obtain ⟨o, h1, h2⟩ := hc i hi
  exact ⟨⟨o, (N _ h1).1, h2⟩, (N _ h1).2.2⟩
end Mine
end
section
open PySem PySem.W PyProof.Rows
set_option maxRecDepth 100000 in
set_option maxHeartbeats 8000000 in
theorem PySem.Challenge.cw_hc0005_01_holds : PySem.Challenge.rw_hc0005_01.Holds := by
  w_on; o_law; k_head; (case hw => w_witness2); k_go0
  rename Frag.In _ _ => X'
  rename Top topProg _ _ _ _ _ => T'
  rename Fr _ _ _ _ => F'
  rename News _ _ _ _ => N'
  rename IntsAre _ _ => I'
  refine Mine.law_main X' T' F' N' (by assumption) I' (by assumption) (by assumption) rfl ?qqff ?qqn1 ?qqn2 ?qqhc ?qqhm ?qqhQ
  case qqff =>
    refine ⟨?f0, ?f1, ?f2, ?f3, ?f4, ?f5, ?f6, ?f7, ?f8, ?d6, ?d7, ?lim4, ?bn⟩
    case d6 => exact ⟨⟨_, _, _, rfl, rfl⟩, rfl, _, _, _, rfl, rfl, fun e he => by simp at he; subst he; exact ⟨_, _, rfl⟩⟩
    case d7 => exact ⟨⟨_, _, _, rfl, rfl⟩, rfl, _, _, _, rfl, rfl, fun e he => by simp at he; subst he; exact ⟨_, _, rfl⟩⟩
    case lim4 => exact ⟨_, rfl⟩
    case bn =>
      intro x v h
      simp only [Mine.biTab, List.mem_cons, List.mem_nil_iff, or_false, Prod.mk.injEq] at h
      rcases h with ⟨rfl, rfl⟩ | ⟨rfl, rfl⟩ | ⟨rfl, rfl⟩ | ⟨rfl, rfl⟩ | ⟨rfl, rfl⟩ | ⟨rfl, rfl⟩ | ⟨rfl, rfl⟩ <;> rfl
    all_goals exact ⟨rfl, ⟨_, _, _, _, _, _, _, rfl⟩, ⟨_, _, _, rfl, rfl, rfl⟩⟩
  case qqn1 => exact .tail _ (.tail _ (.tail _ (.tail _ (.tail _ (.head _)))))
  case qqn2 => exact .tail _ (.tail _ (.tail _ (.tail _ (.tail _ (.tail _ (.head _))))))
  case qqhc =>
    intro i hi
    match i, hi with
    | 0, _ => exact ⟨_, .tail _ (.tail _ (.tail _ (.tail _ (.head _)))), by assumption⟩
    | 1, _ => exact ⟨_, .tail _ (.tail _ (.tail _ (.head _))), by assumption⟩
    | 2, _ => exact ⟨_, .tail _ (.tail _ (.head _)), by assumption⟩
    | 3, _ => exact ⟨_, .tail _ (.head _), by assumption⟩
    | 4, _ => exact ⟨_, .head _, by assumption⟩
    | n + 5, h => exact absurd h (Nat.not_lt.mpr (Nat.le_add_left 5 n))
  case qqhm => rfl
  case qqhQ =>
    intro h' tk hk g1 g2
    exact ⟨⟨.inl ⟨_, _, [], rfl, fun _ => rfl, ReadsW.bool true, (by kc_post), fun _ => ⟨List.nodup_nil, fun _ hm => nomatch hm⟩⟩, hk, rfl, by assumption⟩, g1, g2, trivial⟩
end
