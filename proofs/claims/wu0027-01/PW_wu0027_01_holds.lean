import PyProof.Rows.All
import Wide.All
import OpenK.AllK
import Wide.FinOn
import PySem.Challenge.RW_wu0027_01
set_option Elab.async false

section
namespace Mine
open PySem
set_option genSizeOf false
set_option genInjectivity false
set_option bootstrap.genMatcherCode false
/-- a tuple's item -/
inductive P where
  | i (n : Int)
  | f (w : UInt64)
  deriving DecidableEq
/-- a value -/
inductive V where
  | none
  | bool (b : Bool)
  | int (n : Int)
  | flt (w : UInt64)
  | str (s : Str)
  | tup (l : List P)
  | lst (k : Nat)
  | frz (l : List Int)
  deriving DecidableEq
noncomputable abbrev St := List (List V)
noncomputable abbrev Rho := List (Option V)
inductive Bi where
  | len | sum | sorted | min | max | int
inductive X where
  | k (c : Const) (p : Pos)
  | v (i : Nat) (p : Pos)
  | g (i : Nat) (p : Pos)
  | bin (a : X) (o : Operator) (b : X) (p : Pos)
  | neg (a : X) (p : Pos)
  | cmp (a : X) (o : CmpOp) (b : X) (p : Pos)
  | or (a b : X) (p : Pos)
  | ife (t a b : X) (p : Pos)
  | call (f : Nat) (as : X) (pf p : Pos)
  | bi (f : Bi) (as : X) (pf p : Pos)
  | cnt (a s : X) (pa p : Pos)
  | idx (a i : X) (p : Pos)
  | slU (a hi : X) (ps p : Pos)
  | slL (a lo : X) (ps p : Pos)
  | slB (a lo hi : X) (ps p : Pos)
  | tup (es : X) (p : Pos)
  | lst (es : X) (p : Pos)
  | comp (elt : X) (t : Nat) (pt : Pos) (it : X) (fv : List Nat) (sc : Scope) (p : Pos)
  | compIf (elt : X) (t : Nat) (pt : Pos) (it c : X) (fv : List Nat) (sc : Scope) (p : Pos)
  | nil
  | cons (e r : X)
inductive S where
  | nil
  | cons (s r : S)
  | asg (i : Nat) (e : X) (pn p : Pos)
  | aug (i : Nat) (o : Operator) (e : X) (pn p : Pos)
  | ite (t : X) (b o : S) (p : Pos)
  | forL (i : Nat) (it : X) (b : S) (kill : List Nat) (cy : Option Nat) (pn p : Pos)
  | forR (i : Nat) (as : X) (b : S) (kill : List Nat) (pf pc pn p : Pos)
  | whl (lim : Nat) (t : X) (b : S) (p : Pos)
  | ret (e : X) (p : Pos)
  | brk (p : Pos)
  | dead (t : Stmt)
  | app (i : Nat) (e : X) (pn pa pc p : Pos)
  | ext (i : Nat) (e : X) (pn pa pc p : Pos)
  | near (ih ib il ia : Nat) (c d : UInt64) (fv : List Nat) (sc : Scope) (ps : Nat → Pos) (r : S)
  | tryG (i : Nat) (r : X) (b : S) (hi : Nat) (hc : Int) (hj : Nat) (ps : Nat → Pos) (pf pc pn pfor pe ph p : Pos)
noncomputable def gName : Nat → Str
  | 0 => Str.ofString "ONE_THIRD"
  | 1 => Str.ofString "ONE_SIXTH"
  | _ => Str.ofString "TWO_THIRD"
noncomputable def gBits : Nat → UInt64
  | 0 => 4599676419421066581
  | 1 => 4595172819793696085
  | _ => 4604180019048437077
noncomputable def fName : Nat → Str
  | 0 => Str.ofString "_v"
  | 1 => Str.ofString "hls_to_rgb"
  | 2 => Str.ofString "rgb_to_yiq"
  | 3 => Str.ofString "yiq_to_rgb"
  | 4 => Str.ofString "rgb_to_hls"
  | 5 => Str.ofString "parse257"
  | 6 => Str.ofString "_law_by_replies_and_rulers"
  | 7 => Str.ofString "_law_by_the_wheel"
  | 8 => Str.ofString "_law_by_excess"
  | _ => Str.ofString "law"
noncomputable def biName : Bi → Str
  | .len => Str.ofString "len"
  | .sum => Str.ofString "sum"
  | .sorted => Str.ofString "sorted"
  | .min => Str.ofString "min"
  | .max => Str.ofString "max"
  | .int => Str.ofString "int"
/-- the text of an expression, of a list of them -/
noncomputable def tr (nm : Nat → Str) : X → Expr × List Expr
  | .k c p => (.Constant c 0 p, [])
  | .v i p => (.Name (nm i) p, [])
  | .g i p => (.Name (gName i) p, [])
  | .bin a o b p => (.BinOp (tr nm a).1 o (tr nm b).1 p, [])
  | .neg a p => (.UnaryOp .USub (tr nm a).1 p, [])
  | .cmp a o b p => (.Compare (tr nm a).1 [o] [(tr nm b).1] p, [])
  | .or a b p => (.BoolOp .Or [(tr nm a).1, (tr nm b).1] p, [])
  | .ife t a b p => (.IfExp (tr nm t).1 (tr nm a).1 (tr nm b).1 p, [])
  | .call f as pf p => (.Call (.Name (fName f) pf) (tr nm as).2 [] p, [])
  | .bi f as pf p => (.Call (.Name (biName f) pf) (tr nm as).2 [] p, [])
  | .cnt a s pa p => (.Call (.Attribute (tr nm a).1 (Str.ofString "count") pa) [(tr nm s).1] [] p, [])
  | .idx a i p => (.Subscript (tr nm a).1 (tr nm i).1 p, [])
  | .slU a hi ps p => (.Subscript (tr nm a).1 (.Slice none (some (tr nm hi).1) none ps) p, [])
  | .slL a lo ps p => (.Subscript (tr nm a).1 (.Slice (some (tr nm lo).1) none none ps) p, [])
  | .slB a lo hi ps p => (.Subscript (tr nm a).1 (.Slice (some (tr nm lo).1) (some (tr nm hi).1) none ps) p, [])
  | .tup es p => (.Tuple (tr nm es).2 0 p, [])
  | .lst es p => (.List (tr nm es).2 p, [])
  | .comp elt t pt it _ sc p => (.ListComp (tr nm elt).1 [⟨.Name (nm t) pt, (tr nm it).1, [], 0⟩] sc p, [])
  | .compIf elt t pt it c _ sc p => (.ListComp (tr nm elt).1 [⟨.Name (nm t) pt, (tr nm it).1, [(tr nm c).1], 0⟩] sc p, [])
  | .nil => (default, [])
  | .cons e r => (default, (tr nm e).1 :: (tr nm r).2)
noncomputable abbrev trE (nm : Nat → Str) (x : X) : Expr := (tr nm x).1
noncomputable abbrev trL (nm : Nat → Str) (x : X) : List Expr := (tr nm x).2
noncomputable def nearStmts (nm : Nat → Str) (ih ib il ia : Nat) (c d : UInt64) (sc : Scope) (ps : Nat → Pos) : Stmt × Stmt :=
  (.Assign [.Name (nm ia) (ps 0)] (.ListComp (.Tuple [.BoolOp .Or [.BinOp (.BinOp (.Name (nm ih) (ps 1)) .Sub (.Name (nm ib) (ps 2)) (ps 3)) .Mod (.Constant (.float c) 0 (ps 4)) (ps 5), .Constant (.float d) 0 (ps 6)] (ps 7), .Name (nm ih) (ps 8)] 0 (ps 9))
    [⟨.Name (nm ih) (ps 10), .Name (nm il) (ps 11), [], 0⟩] sc (ps 12)) (ps 13),
   .Assign [.Name (nm ib) (ps 14)] (.Subscript (.Call (.Name (Str.ofString "min") (ps 15)) [.Name (nm ia) (ps 16)] [] (ps 17)) (.Constant (.int 1) 0 (ps 18)) (ps 19)) (ps 20))
noncomputable def giName : Str := Str.ofString "_grouping_intervals"
/-- a handler: hands a list back, or a new one -/
noncomputable def handS (i : Nat) (c : Int) (j : Nat) (ps : Nat → Pos) : S := .cons (.ret (.ife (.cmp (.v i (ps 0)) .Eq (.k (.int c) (ps 1)) (ps 2)) (.v j (ps 3)) (.lst .nil (ps 4)) (ps 5)) (ps 6)) .nil
noncomputable def handR (nm : Nat → Str) (i : Nat) (c : Int) (j : Nat) (ps : Nat → Pos) : Stmt :=
  .Return (some (.IfExp (.Compare (.Name (nm i) (ps 0)) [.Eq] [.Constant (.int c) 0 (ps 1)] (ps 2)) (.Name (nm j) (ps 3)) (.List [] (ps 4)) (ps 5))) (ps 6)
noncomputable abbrev handT (nm : Nat → Str) (i : Nat) (c : Int) (j : Nat) (ps : Nat → Pos) : List Stmt := [handR nm i c j ps]
noncomputable def trs (nm : Nat → Str) : S → Stmt × List Stmt
  | .nil => (default, [])
  | .cons s r => (default, (trs nm s).1 :: (trs nm r).2)
  | .asg i e pn p => (.Assign [.Name (nm i) pn] (trE nm e) p, [])
  | .aug i o e pn p => (.AugAssign (.Name (nm i) pn) o (trE nm e) p, [])
  | .ite t b o p => (.If (trE nm t) (trs nm b).2 (trs nm o).2 p, [])
  | .forL i it b _ _ pn p => (.For (.Name (nm i) pn) (trE nm it) (trs nm b).2 [] p, [])
  | .forR i as b _ pf pc pn p => (.For (.Name (nm i) pn) (.Call (.Name (Str.ofString "range") pf) (trL nm as) [] pc) (trs nm b).2 [] p, [])
  | .whl _ t b p => (.While (trE nm t) (trs nm b).2 [] p, [])
  | .ret e p => (.Return (some (trE nm e)) p, [])
  | .brk p => (.Break p, [])
  | .dead t => (t, [])
  | .app i e pn pa pc p => (.Expr (.Call (.Attribute (.Name (nm i) pn) (Str.ofString "append") pa) [trE nm e] [] pc) p, [])
  | .ext i e pn pa pc p => (.Expr (.Call (.Attribute (.Name (nm i) pn) (Str.ofString "extend") pa) [trE nm e] [] pc) p, [])
  | .near ih ib il ia c d _ sc ps r => (default, (nearStmts nm ih ib il ia c d sc ps).1 :: (nearStmts nm ih ib il ia c d sc ps).2 :: (trs nm r).2)
  | .tryG i r b hi hc hj ps pf pc pn pfor pe ph p =>
    (.Try [.For (.Name (nm i) pn) (.Call (.Name giName pf) [trE nm r] [] pc) (trs nm b).2 [] pfor] [.ExceptHandler (some (.Name (Str.ofString "ValueError") pe)) none (handT nm hi hc hj ps) ph] [] [] p, [])
noncomputable abbrev trS (nm : Nat → Str) (x : S) : Stmt := (trs nm x).1
noncomputable abbrev trB (nm : Nat → Str) (x : S) : List Stmt := (trs nm x).2
/-! the evaluator -/
inductive Fl where
  | nx
  | bk
  | rt (v : V)
noncomputable def get (ρ : Rho) (i : Nat) : Option V := (ρ[i]?).join
noncomputable def put (ρ : Rho) (i : Nat) (v : V) : Rho := ρ.set i (some v)
noncomputable def small (n : Int) : Bool := decide (n.natAbs < 1152921504606846976)
noncomputable def repL {α : Type} (l : List α) : Nat → List α
  | 0 => []
  | n + 1 => l ++ repL l n
noncomputable def addV (a b : V) (σ : St) : Option (V × St) := match a with
  | .int x => match b with
    | .int y => some (.int (x + y), σ)
    | _ => none
  | .flt x => match b with
    | .flt y => some (.flt (Float64.add x y), σ)
    | .int n => if small n then some (.flt (Float64.add x (Float64.ofInt n)), σ) else none
    | _ => none
  | .str x => match b with
    | .str y => if x.length + y.length ≤ 1000 then some (.str (x ++ y), σ) else none
    | _ => none
  | .lst i => match b with
    | .lst j => do
      let x ← σ[i]?
      let y ← σ[j]?
      if x.length + y.length ≤ 1000 then some (.lst σ.length, σ ++ [x ++ y]) else none
    | _ => none
  | _ => none
noncomputable def subV (a b : V) (σ : St) : Option (V × St) := match a with
  | .int x => match b with
    | .int y => some (.int (x - y), σ)
    | _ => none
  | .flt x => match b with
    | .flt y => some (.flt (Float64.sub x y), σ)
    | .int n => if small n then some (.flt (Float64.sub x (Float64.ofInt n)), σ) else none
    | _ => none
  | _ => none
noncomputable def mulV (a b : V) (σ : St) : Option (V × St) := match a with
  | .int x => match b with
    | .int y => if small x then some (.int (x * y), σ) else none
    | _ => none
  | .flt x => match b with
    | .flt y => some (.flt (Float64.mul x y), σ)
    | .int n => if small n then some (.flt (Float64.mul x (Float64.ofInt n)), σ) else none
    | _ => none
  | .str s => match b with
    | .int n => if 0 ≤ n ∧ n ≤ 1000 ∧ s.length = 1 then some (.str (Txt.mul s n), σ) else none
    | _ => none
  | .lst i => match b with
    | .int n => do
      let x ← σ[i]?
      if 0 ≤ n ∧ n ≤ 1000 ∧ x.length = 1 then some (.lst σ.length, σ ++ [repL x n.toNat]) else none
    | _ => none
  | _ => none
noncomputable def divV (a b : V) (σ : St) : Option (V × St) := match b with
  | .flt y => match a with
    | .flt x => if Float64.isZero y then none else some (.flt (Float64.div x y), σ)
    | .int n => if small n && !Float64.isZero y then some (.flt (Float64.div (Float64.ofInt n) y), σ) else none
    | _ => none
  | _ => none
noncomputable def fdivV (a b : V) (σ : St) : Option (V × St) := match a with
  | .int x => match b with
    | .int y => if small x && small y && !decide (y = 0) then some (.int (x.fdiv y), σ) else none
    | _ => none
  | _ => none
noncomputable def modV (a b : V) (σ : St) : Option (V × St) := match a with
  | .int x => match b with
    | .int y => if decide (y = 0) then none else some (.int (x.fmod y), σ)
    | _ => none
  | .flt x => match b with
    | .flt y => if Float64.isZero y then none else some (.flt (Float64.divmod x y).2, σ)
    | _ => none
  | _ => none
noncomputable def binop (o : Operator) (a b : V) (σ : St) : Option (V × St) := match o with
  | .Add => addV a b σ
  | .Sub => subV a b σ
  | .Mult => mulV a b σ
  | .Div => divV a b σ
  | .FloorDiv => fdivV a b σ
  | .Mod => modV a b σ
  | _ => none
noncomputable def intOf : V → Option Int
  | .int n => some n
  | _ => none
noncomputable def intsOf : List V → Option (List Int)
  | [] => some []
  | v :: r => do
    let n ← intOf v
    let q ← intsOf r
    some (n :: q)
noncomputable def cmpI (o : CmpOp) (x y : Int) : Option Bool := match o with
  | .Lt => some (decide (x < y))
  | .LtE => some (decide (x ≤ y))
  | .Gt => some (decide (y < x))
  | .GtE => some (decide (y ≤ x))
  | .Eq => some (x == y)
  | .NotEq => some (x != y)
  | _ => none
noncomputable def cmpF (o : CmpOp) (x y : UInt64) : Option Bool := match o with
  | .Lt => some (Float64.cmp x y == some .lt)
  | .LtE => some (Float64.cmp x y == some .lt || Float64.cmp x y == some .eq)
  | .Gt => some (Float64.cmp x y == some .gt)
  | .Eq => some (Float64.cmp x y == some .eq)
  | .NotEq => some (Float64.cmp x y != some .eq)
  | _ => none
noncomputable def cmpS (o : CmpOp) (x y : Str) : Option Bool := match o with
  | .Eq => some (x.cps.toList == y.cps.toList)
  | .NotEq => some (x.cps.toList != y.cps.toList)
  | _ => none
noncomputable def cmpL (o : CmpOp) (x y : List Int) : Option Bool := match o with
  | .Eq => some (x == y)
  | .NotEq => some (x != y)
  | _ => none
noncomputable def cmpop (o : CmpOp) (a b : V) (σ : St) : Option Bool := match a with
  | .int x => match b with
    | .int y => cmpI o x y
    | .lst j => match o with
      | .In => do
        let y ← intsOf (← σ[j]?)
        if y.length ≤ 1000 then some (y.contains x) else none
      | _ => none
    | _ => none
  | .flt x => match b with
    | .flt y => cmpF o x y
    | _ => none
  | .str x => match b with
    | .str y => cmpS o x y
    | _ => none
  | .bool x => match b with
    | .bool y => match o with
      | .NotEq => some (x != y)
      | _ => none
    | _ => none
  | .lst i => match b with
    | .lst j => do
      let x ← intsOf (← σ[i]?)
      let y ← intsOf (← σ[j]?)
      if x.length ≤ 1000 ∧ y.length ≤ 1000 then cmpL o x y else none
    | _ => none
  | _ => none
noncomputable def truth : V → Option Bool
  | .bool b => some b
  | .flt w => some (!Float64.isZero w)
  | _ => none
/-- pairs of whole numbers -/
noncomputable def intP : P → Option Int
  | .i n => some n
  | .f _ => none
noncomputable def pairT (l : List P) : Option (Int × Int) := match l with
  | [] => none
  | a :: r => match r with
    | [] => none
    | b :: q => match q with
      | [] => do
        let x ← intP a
        let y ← intP b
        some (x, y)
      | _ :: _ => none
noncomputable def pairV : V → Option (Int × Int)
  | .tup l => pairT l
  | _ => none
noncomputable def ipairs : List V → Option (List (Int × Int))
  | [] => some []
  | v :: r => do
    let p ← pairV v
    let q ← ipairs r
    some (p :: q)
noncomputable def fEq (a b : UInt64) : Bool := Float64.cmp a b == some .eq
noncomputable def fLt (a b : UInt64) : Bool := Float64.cmp a b == some .lt
noncomputable def fltOf : V → Option UInt64
  | .flt w => some w
  | _ => none
noncomputable def floatsOf : List V → Option (List UInt64)
  | [] => some []
  | v :: r => do
    let w ← fltOf v
    let q ← floatsOf r
    some (w :: q)
/-- the way from here to a hue, a whole turn where they are one -/
noncomputable def way (c d b h : UInt64) : UInt64 := let m := (Float64.divmod (Float64.sub h b) c).2; if Float64.isZero m then d else m
/-- the least of the ways, the first of them; no two may be alike -/
noncomputable def nearest (a : UInt64 × UInt64) : List (UInt64 × UInt64) → Option (UInt64 × UInt64)
  | [] => some a
  | b :: r => if fEq b.1 a.1 || b.1 == a.1 then none else nearest (if fLt b.1 a.1 then b else a) r
noncomputable def iLt (a b : Int × Int) : Bool := if a.1 = b.1 then decide (a.2 < b.2) else decide (a.1 < b.1)
/-- the answers' road through the sort's questions -/
noncomputable def runK {α : Type} (n : Nat) (lt : Nat → Nat → Bool) : PySem.W.KasT α → Option α
  | .ret a => some a
  | .ask i j k => if i < n ∧ j < n then runK n lt (k (lt i j)) else none
noncomputable def pAt (x : List (Int × Int)) (i : Nat) : Int × Int := x.getD i (0, 0)
noncomputable def sortP (x : List (Int × Int)) : Option (List (Int × Int)) := do
  let p ← runK x.length (fun i j => iLt (pAt x i) (pAt x j)) (PySem.W.kas_sort x.length)
  if p.toList.all (· < x.length) then some (p.toList.map (pAt x)) else none
noncomputable def ofP : P → V
  | .i n => .int n
  | .f w => .flt w
noncomputable def toP : V → Option P
  | .int n => some (.i n)
  | .flt w => some (.f w)
  | _ => none
noncomputable def toPs : List V → Option (List P)
  | [] => some []
  | v :: r => do return (← toP v) :: (← toPs r)
noncomputable def one : List V → Option V
  | [] => none
  | v :: r => match r with
    | [] => some v
    | _ :: _ => none
noncomputable def three (as : List V) : Option (UInt64 × UInt64 × UInt64) := match as with
  | [] => none
  | a :: r => match r with
    | [] => none
    | b :: q => do
      let x ← fltOf a
      let y ← fltOf b
      let z ← fltOf (← one q)
      some (x, y, z)
noncomputable def lenV (v : V) (σ : St) : Option (V × St) := match v with
  | .lst k => do
    let x ← σ[k]?
    if x.length ≤ 1000 then some (.int x.length, σ) else none
  | .str s => if s.length ≤ 1000 then some (.int s.length, σ) else none
  | .frz l => if l.length ≤ 1000 then some (.int l.length, σ) else none
  | _ => none
noncomputable def sumV (v : V) (σ : St) : Option (V × St) := match v with
  | .frz l => if l.length ≤ 1000 then some (.int l.sum, σ) else none
  | _ => none
noncomputable def sortV (v : V) (σ : St) : Option (V × St) := match v with
  | .lst k => do
    let x ← ipairs (← σ[k]?)
    if 2 ≤ x.length ∧ x.length < 64 then (do
      let y ← sortP x
      some (.lst σ.length, σ ++ [y.map fun p => .tup [.i p.1, .i p.2]])) else none
  | _ => none
noncomputable def intV (v : V) (σ : St) : Option (V × St) := match v with
  | .flt w => match Float64.decode w with
    | .fin s m e => some (.int (Float64.truncOf s m e), σ)
    | _ => none
  | _ => none
noncomputable def maxF (a b c : UInt64) : UInt64 :=
  let m := if Float64.cmp b a == some .gt then b else a
  if Float64.cmp c m == some .gt then c else m
noncomputable def minF (a b c : UInt64) : UInt64 :=
  let m := if fLt b a then b else a
  if fLt c m then c else m
noncomputable def bicall (f : Bi) (as : List V) (σ : St) : Option (V × St) := match f with
  | .len => do lenV (← one as) σ
  | .sum => do sumV (← one as) σ
  | .sorted => do sortV (← one as) σ
  | .int => do intV (← one as) σ
  | .max => do
    let t ← three as
    some (.flt (maxF t.1 t.2.1 t.2.2), σ)
  | .min => do
    let t ← three as
    some (.flt (minF t.1 t.2.1 t.2.2), σ)
noncomputable def index (a i : V) (σ : St) : Option V := match i with
  | .int n => match a with
    | .lst k => do
      let x ← σ[k]?
      if 0 ≤ n ∧ n ≤ 1000 then x[n.toNat]? else none
    | .tup l => if 0 ≤ n ∧ n ≤ 1000 then (l[n.toNat]?).map ofP else none
    | .str s => if 0 ≤ n ∧ n < s.length ∧ s.length ≤ 1000 then (s.cps.toList[n.toNat]?).map fun c => .str ⟨#[c]⟩ else none
    | _ => none
  | _ => none
/-- a[lo:hi] with bounds that may be missing, or below nought -/
noncomputable def cutL {α : Type} (l : List α) (lo hi : Option Int) : List α :=
  (sliceRange (sliceBounds lo hi none l.length).1 (sliceBounds lo hi none l.length).2.1 (sliceBounds lo hi none l.length).2.2).filterMap (fun i => l[i]?)
noncomputable def slice (a : V) (lo hi : Option Int) (σ : St) : Option (V × St) :=
  match a with
  | .lst k => do
    let x ← σ[k]?
    if x.length ≤ 1000 then some (.lst σ.length, σ ++ [cutL x lo hi]) else none
  | .frz l => if l.length ≤ 1000 then some (.lst σ.length, σ ++ [cutL (l.map .int) lo hi]) else none
  | .str s => if s.length ≤ 1000 then some (.str (Txt.slice s lo hi), σ) else none
  | _ => none
noncomputable def okV (n : Nat) : Option V → Bool
  | some (.lst k) => decide (k < n)
  | _ => true
noncomputable def killR (ρ : Rho) : List Nat → Rho
  | [] => ρ
  | i :: r => killR (ρ.set i none) r
/-- forget the lists from n on -/
noncomputable def trim (n : Nat) (ρ : Rho) (σ : St) : Option (Rho × St) :=
  if ρ.all (okV n) && (σ.take n).all (fun l => l.all fun v => okV n (some v)) then some (ρ, σ.take n) else none
/-- the same, but one name's list, made since, is kept as the n-th -/
noncomputable def carry (n k j : Nat) (ρ : Rho) (σ : St) : Option (Rho × St) := do
  let x ← σ[k]?
  if (ρ.set j none).all (okV n) && (σ.take n).all (fun l => l.all fun v => okV n (some v)) && x.all (fun v => okV n (some v)) then some (put ρ j (.lst n), σ.take n ++ [x]) else none
noncomputable def trimC (n : Nat) (cy : Option Nat) (ρ : Rho) (σ : St) : Option (Rho × St) := match cy with
  | none => trim n ρ σ
  | some j => match get ρ j with
    | none => trim n ρ σ
    | some v => match v with
      | .lst k => if n ≤ k then carry n k j ρ σ else trim n ρ σ
      | _ => trim n ρ σ
/-- what is left behind a call: the caller's lists, and the list that is handed back -/
noncomputable def back (n : Nat) (v : V) (σ : St) : Option (V × St) :=
  if (σ.take n).all (fun l => l.all fun v => okV n (some v)) then
    match v with
    | .lst k => if n ≤ k then (do
        let x ← σ[k]?
        if x.all (fun v => okV n (some v)) then some (.lst n, σ.take n ++ [x]) else none) else none
    | v => some (v, σ.take n)
  else none
/-- a for loop: the source is read as it stands; behind each turn the lists from n on are forgotten -/
noncomputable def loopF (src : St → Option (List V)) (body : Rho → St → Option (Fl × Rho × St)) (tgt n : Nat) (kill : List Nat) (cy : Option Nat) : Nat → Nat → Rho → St → Option (Fl × Rho × St)
  | 0, _, _, _ => none
  | f + 1, i, ρ, σ => do
    let x ← src σ
    match x[i]? with
    | none => some (.nx, ρ, σ)
    | some v =>
      match ← body (put ρ tgt v) σ with
      | (.nx, ρ₁, σ₁) => do
        let (ρ₂, σ₂) ← trimC n cy (killR ρ₁ kill) σ₁
        loopF src body tgt n kill cy f (i + 1) ρ₂ σ₂
      | (.bk, ρ₁, σ₁) => some (.nx, ρ₁, σ₁)
      | (.rt v, ρ₁, σ₁) => some (.rt v, ρ₁, σ₁)
noncomputable def upFrom (lo hi : Int) : List V := (List.range (hi - lo).toNat).map fun j => .int (lo + (j : Nat))
noncomputable def loopW (test : Rho → St → Option (Bool × St)) (body : Rho → St → Option (Fl × Rho × St)) : Nat → Rho → St → Option (Fl × Rho × St)
  | 0, _, _ => none
  | f + 1, ρ, σ => do
    match ← test ρ σ with
    | (false, σ₁) => some (.nx, ρ, σ₁)
    | (true, σ₁) =>
      match ← body ρ σ₁ with
      | (.nx, ρ₂, σ₂) => loopW test body f ρ₂ σ₂
      | (.bk, ρ₂, σ₂) => some (.nx, ρ₂, σ₂)
      | (.rt v, ρ₂, σ₂) => some (.rt v, ρ₂, σ₂)
/-- the rulers' generator: not begun; the i-th next, x told last; x for ever -/
inductive Ph where
  | start
  | mid (i : Nat) (x : Int)
  | ever (x : Int)
inductive GN where
  | yield (n : Int) (g : Ph)
  | stop
  | raise
noncomputable def gout (row : List Int) (i : Nat) (last : Option Int) : GN := match row[i]? with
  | none => .stop
  | some y => if y = 127 then .stop else if y = 0 then (match last with | none => .raise | some x => .yield x (.ever x)) else .yield y (.mid (i + 1) y)
noncomputable def gnext (row : List Int) : Ph → GN
  | .start => gout row 0 none
  | .mid i x => gout row i (some x)
  | .ever x => .yield x (.ever x)
noncomputable def loopG (body : Rho → St → Option (Fl × Rho × St)) (tgt k : Nat) (row : List Int) : Nat → Ph → Rho → St → Option (Fl × Rho × St)
  | 0, _, _, _ => none
  | f + 1, g, ρ, σ => do
    let r ← intsOf (← σ[k]?)
    if r = row then
      match gnext row g with
      | .stop => some (.nx, ρ, σ)
      | .raise => none
      | .yield n g' => do
        match ← body (put ρ tgt (.int n)) σ with
        | (.nx, ρ₁, σ₁) => loopG body tgt k row f g' ρ₁ σ₁
        | (.bk, ρ₁, σ₁) => some (.nx, ρ₁, σ₁)
        | (.rt v, ρ₁, σ₁) => some (.rt v, ρ₁, σ₁)
    else none
noncomputable def compRho (ρ : Rho) : List Nat → Nat → Rho
  | _, 0 => []
  | fv, n + 1 => compRho ρ fv n ++ [if fv.contains n then get ρ n else none]
/-- a comprehension's turns: the source is read as it stands, the list that is made is the n-th -/
noncomputable def loopC (src : St → Option (List V)) (elt : Rho → St → Option (V × St)) (test : Rho → St → Option (Bool × St)) (tgt : Nat) (ρc : Rho) (n : Nat) : Nat → Nat → St → Option St
  | 0, _, _ => none
  | f + 1, i, σ => do
    let x ← src σ
    match x[i]? with
    | none => some σ
    | some v =>
      match ← test (put ρc tgt v) σ with
      | (false, σ₁) => loopC src elt test tgt ρc n f (i + 1) σ₁
      | (true, σ₁) => do
        let (y, σ₂) ← elt (put ρc tgt v) σ₁
        let acc ← σ₂[n]?
        if acc.length ≤ 1000 then loopC src elt test tgt ρc n f (i + 1) (σ₂.set n (acc ++ [y])) else none
structure Rec where
  e : X → Rho → St → Option (V × St)
  l : X → Rho → St → Option (List V × St)
  t : X → Rho → St → Option (Bool × St)
  s : S → Rho → St → Option (Fl × Rho × St)
  c : Nat → List V → St → Option (V × St)
noncomputable def Rec.bot : Rec := ⟨fun _ _ _ => none, fun _ _ _ => none, fun _ _ _ => none, fun _ _ _ => none, fun _ _ _ => none⟩
structure Fn where
  args : Nat
  vars : Nat
  body : S
noncomputable def constV : Const → Option V
  | .none => some .none
  | .bool b => some (.bool b)
  | .int i => some (.int i)
  | .float w => some (.flt w)
  | .str s => some (.str s)
  | _ => none
noncomputable def compEval (r : Rec) (elt : X) (t : Nat) (it : X) (test : Rho → St → Option (Bool × St)) (fv : List Nat) (ρ : Rho) (σ : St) : Option (V × St) := do
  let (v, σ₁) ← r.e it ρ σ
  let ρc := compRho ρ fv ρ.length
  match v with
  | .lst k => do
    let x ← σ₁[k]?
    if x.length ≤ 1000 then
      let σ₂ ← loopC (·[k]?) (r.e elt) test t ρc σ₁.length (x.length + 1) 0 (σ₁ ++ [[]])
      some (.lst σ₁.length, σ₂)
    else none
  | .tup l =>
    if l.length ≤ 1000 then
      let σ₂ ← loopC (fun _ => some (l.map ofP)) (r.e elt) test t ρc σ₁.length (l.length + 1) 0 (σ₁ ++ [[]])
      some (.lst σ₁.length, σ₂)
    else none
  | _ => none
noncomputable def asInt : V → Option Int
  | .int n => if small n then some n else none
  | _ => none
noncomputable def stepE (r : Rec) (x : X) (ρ : Rho) (σ : St) : Option (V × St) := match x with
  | .k c _ => do return (← constV c, σ)
  | .v i _ => do return (← get ρ i, σ)
  | .g i _ => some (.flt (gBits i), σ)
  | .bin a o b _ => do
    let (u, σ₁) ← r.e a ρ σ
    let (w, σ₂) ← r.e b ρ σ₁
    binop o u w σ₂
  | .neg a _ => do
    match ← r.e a ρ σ with
    | (.int n, σ₁) => some (.int (-n), σ₁)
    | _ => none
  | .cmp a o b _ => do
    let (u, σ₁) ← r.e a ρ σ
    let (w, σ₂) ← r.e b ρ σ₁
    return (.bool (← cmpop o u w σ₂), σ₂)
  | .or a b _ => do
    let (u, σ₁) ← r.e a ρ σ
    if ← truth u then some (u, σ₁) else r.e b ρ σ₁
  | .ife t a b _ => do
    let (c, σ₁) ← r.t t ρ σ
    if c then r.e a ρ σ₁ else r.e b ρ σ₁
  | .call f as _ _ => do
    let (vs, σ₁) ← r.l as ρ σ
    r.c f vs σ₁
  | .bi f as _ _ => do
    let (vs, σ₁) ← r.l as ρ σ
    bicall f vs σ₁
  | .cnt a s _ _ => do
    match ← r.e a ρ σ with
    | (.str x, σ₁) => do
      match ← r.e s ρ σ₁ with
      | (.str y, σ₂) => some (.int (Txt.count x y), σ₂)
      | _ => none
    | _ => none
  | .idx a i _ => do
    let (u, σ₁) ← r.e a ρ σ
    let (w, σ₂) ← r.e i ρ σ₁
    return (← index u w σ₂, σ₂)
  | .slU a hi _ _ => do
    let (u, σ₁) ← r.e a ρ σ
    let (h, σ₂) ← r.e hi ρ σ₁
    slice u none (some (← asInt h)) σ₂
  | .slL a lo _ _ => do
    let (u, σ₁) ← r.e a ρ σ
    let (l, σ₂) ← r.e lo ρ σ₁
    slice u (some (← asInt l)) none σ₂
  | .slB a lo hi _ _ => do
    let (u, σ₁) ← r.e a ρ σ
    let (l, σ₂) ← r.e lo ρ σ₁
    let (h, σ₃) ← r.e hi ρ σ₂
    slice u (some (← asInt l)) (some (← asInt h)) σ₃
  | .tup es _ => do
    let (vs, σ₁) ← r.l es ρ σ
    if vs.length ≤ 1000 then return (.tup (← toPs vs), σ₁) else none
  | .lst es _ => do
    let (vs, σ₁) ← r.l es ρ σ
    if vs.length ≤ 1000 then some (.lst σ₁.length, σ₁ ++ [vs]) else none
  | .comp elt t _ it fv _ _ => compEval r elt t it (fun _ σ => some (true, σ)) fv ρ σ
  | .compIf elt t _ it c fv _ _ => compEval r elt t it (r.t c) fv ρ σ
  | .nil => none
  | .cons _ _ => none
noncomputable def stepL (r : Rec) (x : X) (ρ : Rho) (σ : St) : Option (List V × St) := match x with
  | .nil => some ([], σ)
  | .cons e q => do
    let (v, σ₁) ← r.e e ρ σ
    let (vs, σ₂) ← r.l q ρ σ₁
    return (v :: vs, σ₂)
  | _ => none
noncomputable def stepT (r : Rec) (x : X) (ρ : Rho) (σ : St) : Option (Bool × St) := match x with
  | .cmp a o b _ => do
    let (u, σ₁) ← r.e a ρ σ
    let (w, σ₂) ← r.e b ρ σ₁
    return (← cmpop o u w σ₂, σ₂)
  | .or a b _ => do
    let (c, σ₁) ← r.t a ρ σ
    if c then some (true, σ₁) else r.t b ρ σ₁
  | .v i _ => do return (← truth (← get ρ i), σ)
  | _ => none
noncomputable def rangeOf (vs : List V) : Option (Int × Int) := match vs with
  | [] => none
  | a :: r => match r with
    | [] => do
      let y ← intOf a
      some (0, y)
    | b :: q => match q with
      | [] => do
        let x ← intOf a
        let y ← intOf b
        some (x, y)
      | _ :: _ => none
noncomputable def stepS (r : Rec) (x : S) (ρ : Rho) (σ : St) : Option (Fl × Rho × St) := match x with
  | .nil => some (.nx, ρ, σ)
  | .cons s q => do
    match ← r.s s ρ σ with
    | (.nx, ρ₁, σ₁) => r.s q ρ₁ σ₁
    | y => some y
  | .asg i e _ _ => do
    let (v, σ₁) ← r.e e ρ σ
    return (.nx, put ρ i v, σ₁)
  | .aug i o e _ _ => do
    match ← get ρ i with
    | .int n => do
      match ← r.e e ρ σ with
      | (.int m, σ₁) => (match o with
        | .Add => some (.nx, put ρ i (.int (n + m)), σ₁)
        | .Mult => if small n then some (.nx, put ρ i (.int (n * m)), σ₁) else none
        | _ => none)
      | _ => none
    | _ => none
  | .ite t b o _ => do
    let (c, σ₁) ← r.t t ρ σ
    if c then r.s b ρ σ₁ else r.s o ρ σ₁
  | .forL i it b kill cy _ _ => do
    match ← r.e it ρ σ with
    | (.lst k, σ₁) => do
      let x ← σ₁[k]?
      loopF (fun σ => σ[k]?) (r.s b) i σ₁.length kill cy (x.length + 1) 0 ρ σ₁
    | _ => none
  | .forR i as b kill _ _ _ _ => do
    let (vs, σ₁) ← r.l as ρ σ
    let (lo, hi) ← rangeOf vs
    if small lo && small hi then loopF (fun _ => some (upFrom lo hi)) (r.s b) i σ₁.length kill none ((upFrom lo hi).length + 1) 0 ρ σ₁ else none
  | .whl lim t b _ => loopW (r.t t) (r.s b) lim ρ σ
  | .ret e _ => do
    let (v, σ₁) ← r.e e ρ σ
    return (.rt v, ρ, σ₁)
  | .brk _ => some (.bk, ρ, σ)
  | .dead _ => none
  | .app i e _ _ _ _ => do
    match ← get ρ i with
    | .lst k => do
      let (v, σ₁) ← r.e e ρ σ
      let x ← σ₁[k]?
      if x.length ≤ 1000 then some (.nx, ρ, σ₁.set k (x ++ [v])) else none
    | _ => none
  | .ext i e _ _ _ _ => do
    match ← get ρ i with
    | .lst k => do
      match ← r.e e ρ σ with
      | (.lst j, σ₁) => do
        let x ← σ₁[k]?
        let y ← σ₁[j]?
        if x.length ≤ 1000 ∧ y.length ≤ 1000 ∧ k ≠ j then some (.nx, ρ, σ₁.set k (x ++ y)) else none
      | _ => none
    | _ => none
  | .near _ ib il ia c d _ _ _ q => do
    match ← get ρ ib with
    | .flt b => do
      match ← get ρ il with
      | .lst k => do
        let x ← floatsOf (← σ[k]?)
        match x.map fun h => (way c d b h, h) with
        | [] => none
        | y :: ys => do
          if x.length ≤ 1000 ∧ Float64.isZero c = false then
            let m ← nearest y ys
            r.s q (put (put ρ ia (.lst σ.length)) ib (.flt m.2)) (σ ++ [(y :: ys).map fun z => .tup [.f z.1, .f z.2]])
          else none
      | _ => none
    | _ => none
  | .tryG i e b hi hc hj ps _ _ _ _ _ _ _ => do
    match ← r.e e ρ σ with
    | (.lst k, σ₁) => do
      let row ← intsOf (← σ₁[k]?)
      if row.length ≤ 1000 then
        match gnext row .start with
        | .raise => r.s (handS hi hc hj ps) ρ σ₁
        | _ => loopG (r.s b) i k row 1000 .start ρ σ₁
      else none
    | _ => none
noncomputable def padR (vs : List V) (n : Nat) : Rho := vs.map some ++ List.replicate (n - vs.length) none
/-- neither a list of ours nor the given one -/
noncomputable def flat : V → Bool
  | .lst _ => false
  | .frz _ => false
  | _ => true
noncomputable def noLst : V → Bool
  | .lst _ => false
  | _ => true
/-- a call's own store: the list that is handed in, or none -/
noncomputable def loc (σ : St) : List V → Option (List V × St)
  | [] => some ([], [])
  | .lst k :: r => do
    let x ← σ[k]?
    if x.all flat && r.all noLst then some (.lst 0 :: r, [x]) else none
  | v :: r => do
    let y ← loc σ r
    some (v :: y.1, y.2)
/-- back from a call's own store -/
noncomputable def home (σc σ : St) (v : V) (σ₂ : St) : Option (V × St) :=
  if σ₂.take σc.length = σc then
    match v with
    | .lst k => if k = σc.length then (do
        let x ← σ₂[k]?
        if x.all flat then some (.lst σ.length, σ ++ [x]) else none) else none
    | .frz _ => none
    | v => some (v, σ)
  else none
noncomputable def stepC (F : Nat → Option Fn) (r : Rec) (f : Nat) (vs : List V) (σ : St) : Option (V × St) := do
  let d ← F f
  if vs.length = d.args ∧ d.args ≤ d.vars then
    let y ← loc σ vs
    match ← r.s d.body (padR y.1 d.vars) y.2 with
    | (.rt v, _, σ₁) => do
      let z ← back y.2.length v σ₁
      home y.2 σ z.1 z.2
    | _ => none
  else none
noncomputable def step (F : Nat → Option Fn) (r : Rec) : Rec := ⟨stepE r, stepL r, stepT r, stepS r, stepC F r⟩
noncomputable def ev (F : Nat → Option Fn) : Nat → Rec
  | 0 => Rec.bot
  | n + 1 => step F (ev F n)
end Mine
end

section
set_option maxRecDepth 100000
namespace Mine
open PySem
noncomputable def nm0 : Nat → Str
  | 0 => Str.ofString "m1"
  | 1 => Str.ofString "m2"
  | 2 => Str.ofString "hue"
  | _ => Str.ofString "?"
noncomputable def names0 : List Str := [Str.ofString "m1", Str.ofString "m2", Str.ofString "hue"]
noncomputable def body0 : S := (.cons 
  (.asg 2 (.bin (.v 2 ⟨74, 10, 74, 13⟩) .Mod (.k (.float 0x3ff0000000000000) ⟨74, 16, 74, 19⟩) ⟨74, 10, 74, 19⟩) ⟨74, 4, 74, 7⟩ ⟨74, 4, 74, 19⟩) (.cons 
  (.ite (.cmp (.v 2 ⟨75, 7, 75, 10⟩) .Lt (.g 1 ⟨75, 13, 75, 22⟩) ⟨75, 7, 75, 22⟩) (.cons 
  (.ret (.bin (.v 0 ⟨76, 15, 76, 17⟩) .Add (.bin (.bin (.bin (.v 1 ⟨76, 21, 76, 23⟩) .Sub (.v 0 ⟨76, 26, 76, 28⟩) ⟨76, 21, 76, 28⟩) .Mult (.v 2 ⟨76, 32, 76, 35⟩) ⟨76, 20, 76, 35⟩) .Mult (.k (.float 0x4018000000000000) ⟨76, 38, 76, 41⟩) ⟨76, 20, 76, 41⟩) ⟨76, 15, 76, 41⟩) ⟨76, 8, 76, 41⟩) .nil) .nil ⟨75, 4, 76, 41⟩) (.cons 
  (.ite (.cmp (.v 2 ⟨77, 7, 77, 10⟩) .Lt (.k (.float 0x3fe0000000000000) ⟨77, 13, 77, 16⟩) ⟨77, 7, 77, 16⟩) (.cons 
  (.ret (.v 1 ⟨78, 15, 78, 17⟩) ⟨78, 8, 78, 17⟩) .nil) .nil ⟨77, 4, 78, 17⟩) (.cons 
  (.ite (.cmp (.v 2 ⟨79, 7, 79, 10⟩) .Lt (.g 2 ⟨79, 13, 79, 22⟩) ⟨79, 7, 79, 22⟩) (.cons 
  (.ret (.bin (.v 0 ⟨80, 15, 80, 17⟩) .Add (.bin (.bin (.bin (.v 1 ⟨80, 21, 80, 23⟩) .Sub (.v 0 ⟨80, 26, 80, 28⟩) ⟨80, 21, 80, 28⟩) .Mult (.bin (.g 2 ⟨80, 33, 80, 42⟩) .Sub (.v 2 ⟨80, 45, 80, 48⟩) ⟨80, 33, 80, 48⟩) ⟨80, 20, 80, 49⟩) .Mult (.k (.float 0x4018000000000000) ⟨80, 52, 80, 55⟩) ⟨80, 20, 80, 55⟩) ⟨80, 15, 80, 55⟩) ⟨80, 8, 80, 55⟩) .nil) .nil ⟨79, 4, 80, 55⟩) (.cons 
  (.ret (.v 0 ⟨81, 11, 81, 13⟩) ⟨81, 4, 81, 13⟩) .nil)))))
/-- _v: 0 m1, 1 m2, 2 hue -/
noncomputable def fn0 : Fn := ⟨3, 3, body0⟩
noncomputable def nm1 : Nat → Str
  | 0 => Str.ofString "h"
  | 1 => Str.ofString "l"
  | 2 => Str.ofString "s"
  | 3 => Str.ofString "m2"
  | 4 => Str.ofString "m1"
  | _ => Str.ofString "?"
noncomputable def names1 : List Str := [Str.ofString "h", Str.ofString "l", Str.ofString "s", Str.ofString "m2", Str.ofString "m1"]
noncomputable def body1 : S := (.cons 
  (.ite (.cmp (.v 2 ⟨65, 7, 65, 8⟩) .Eq (.k (.float 0x0000000000000000) ⟨65, 12, 65, 15⟩) ⟨65, 7, 65, 15⟩) (.cons 
  (.ret (.tup (.cons (.v 1 ⟨66, 16, 66, 17⟩) (.cons (.v 1 ⟨66, 19, 66, 20⟩) (.cons (.v 1 ⟨66, 22, 66, 23⟩) .nil))) ⟨66, 15, 66, 24⟩) ⟨66, 8, 66, 24⟩) .nil) .nil ⟨65, 4, 66, 24⟩) (.cons 
  (.ite (.cmp (.v 1 ⟨67, 7, 67, 8⟩) .LtE (.k (.float 0x3fe0000000000000) ⟨67, 12, 67, 15⟩) ⟨67, 7, 67, 15⟩) (.cons 
  (.asg 3 (.bin (.v 1 ⟨68, 13, 68, 14⟩) .Mult (.bin (.k (.float 0x3ff0000000000000) ⟨68, 18, 68, 21⟩) .Add (.v 2 ⟨68, 24, 68, 25⟩) ⟨68, 18, 68, 25⟩) ⟨68, 13, 68, 26⟩) ⟨68, 8, 68, 10⟩ ⟨68, 8, 68, 26⟩) .nil) (.cons 
  (.asg 3 (.bin (.bin (.v 1 ⟨70, 13, 70, 14⟩) .Add (.v 2 ⟨70, 17, 70, 18⟩) ⟨70, 13, 70, 18⟩) .Sub (.bin (.v 1 ⟨70, 21, 70, 22⟩) .Mult (.v 2 ⟨70, 25, 70, 26⟩) ⟨70, 21, 70, 26⟩) ⟨70, 13, 70, 26⟩) ⟨70, 8, 70, 10⟩ ⟨70, 8, 70, 26⟩) .nil) ⟨67, 4, 70, 26⟩) (.cons 
  (.asg 4 (.bin (.bin (.k (.float 0x4000000000000000) ⟨71, 9, 71, 12⟩) .Mult (.v 1 ⟨71, 15, 71, 16⟩) ⟨71, 9, 71, 16⟩) .Sub (.v 3 ⟨71, 19, 71, 21⟩) ⟨71, 9, 71, 21⟩) ⟨71, 4, 71, 6⟩ ⟨71, 4, 71, 21⟩) (.cons 
  (.ret (.tup (.cons (.call 0 (.cons (.v 4 ⟨72, 15, 72, 17⟩) (.cons (.v 3 ⟨72, 19, 72, 21⟩) (.cons (.bin (.v 0 ⟨72, 23, 72, 24⟩) .Add (.g 0 ⟨72, 27, 72, 36⟩) ⟨72, 23, 72, 36⟩) .nil))) ⟨72, 12, 72, 14⟩ ⟨72, 12, 72, 37⟩) (.cons (.call 0 (.cons (.v 4 ⟨72, 42, 72, 44⟩) (.cons (.v 3 ⟨72, 46, 72, 48⟩) (.cons (.v 0 ⟨72, 50, 72, 51⟩) .nil))) ⟨72, 39, 72, 41⟩ ⟨72, 39, 72, 52⟩) (.cons (.call 0 (.cons (.v 4 ⟨72, 57, 72, 59⟩) (.cons (.v 3 ⟨72, 61, 72, 63⟩) (.cons (.bin (.v 0 ⟨72, 65, 72, 66⟩) .Sub (.g 0 ⟨72, 69, 72, 78⟩) ⟨72, 65, 72, 78⟩) .nil))) ⟨72, 54, 72, 56⟩ ⟨72, 54, 72, 79⟩) .nil))) ⟨72, 11, 72, 80⟩) ⟨72, 4, 72, 80⟩) .nil))))
/-- hls_to_rgb: 0 h, 1 l, 2 s, 3 m2, 4 m1 -/
noncomputable def fn1 : Fn := ⟨3, 5, body1⟩
noncomputable def nm2 : Nat → Str
  | 0 => Str.ofString "r"
  | 1 => Str.ofString "g"
  | 2 => Str.ofString "b"
  | 3 => Str.ofString "y"
  | 4 => Str.ofString "i"
  | 5 => Str.ofString "q"
  | _ => Str.ofString "?"
noncomputable def names2 : List Str := [Str.ofString "r", Str.ofString "g", Str.ofString "b", Str.ofString "y", Str.ofString "i", Str.ofString "q"]
noncomputable def body2 : S := (.cons 
  (.asg 3 (.bin (.bin (.bin (.k (.float 0x3fd3333333333333) ⟨20, 8, 20, 11⟩) .Mult (.v 0 ⟨20, 14, 20, 15⟩) ⟨20, 8, 20, 15⟩) .Add (.bin (.k (.float 0x3fe2e147ae147ae1) ⟨20, 18, 20, 22⟩) .Mult (.v 1 ⟨20, 25, 20, 26⟩) ⟨20, 18, 20, 26⟩) ⟨20, 8, 20, 26⟩) .Add (.bin (.k (.float 0x3fbc28f5c28f5c29) ⟨20, 29, 20, 33⟩) .Mult (.v 2 ⟨20, 36, 20, 37⟩) ⟨20, 29, 20, 37⟩) ⟨20, 8, 20, 37⟩) ⟨20, 4, 20, 5⟩ ⟨20, 4, 20, 37⟩) (.cons 
  (.asg 4 (.bin (.bin (.k (.float 0x3fe7ae147ae147ae) ⟨21, 8, 21, 12⟩) .Mult (.bin (.v 0 ⟨21, 16, 21, 17⟩) .Sub (.v 3 ⟨21, 20, 21, 21⟩) ⟨21, 16, 21, 21⟩) ⟨21, 8, 21, 22⟩) .Sub (.bin (.k (.float 0x3fd147ae147ae148) ⟨21, 25, 21, 29⟩) .Mult (.bin (.v 2 ⟨21, 33, 21, 34⟩) .Sub (.v 3 ⟨21, 37, 21, 38⟩) ⟨21, 33, 21, 38⟩) ⟨21, 25, 21, 39⟩) ⟨21, 8, 21, 39⟩) ⟨21, 4, 21, 5⟩ ⟨21, 4, 21, 39⟩) (.cons 
  (.asg 5 (.bin (.bin (.k (.float 0x3fdeb851eb851eb8) ⟨22, 8, 22, 12⟩) .Mult (.bin (.v 0 ⟨22, 16, 22, 17⟩) .Sub (.v 3 ⟨22, 20, 22, 21⟩) ⟨22, 16, 22, 21⟩) ⟨22, 8, 22, 22⟩) .Add (.bin (.k (.float 0x3fda3d70a3d70a3d) ⟨22, 25, 22, 29⟩) .Mult (.bin (.v 2 ⟨22, 33, 22, 34⟩) .Sub (.v 3 ⟨22, 37, 22, 38⟩) ⟨22, 33, 22, 38⟩) ⟨22, 25, 22, 39⟩) ⟨22, 8, 22, 39⟩) ⟨22, 4, 22, 5⟩ ⟨22, 4, 22, 39⟩) (.cons 
  (.ret (.tup (.cons (.v 3 ⟨23, 12, 23, 13⟩) (.cons (.v 4 ⟨23, 15, 23, 16⟩) (.cons (.v 5 ⟨23, 18, 23, 19⟩) .nil))) ⟨23, 11, 23, 20⟩) ⟨23, 4, 23, 20⟩) .nil))))
/-- rgb_to_yiq: 0 r, 1 g, 2 b, 3 y, 4 i, 5 q -/
noncomputable def fn2 : Fn := ⟨3, 6, body2⟩
noncomputable def nm3 : Nat → Str
  | 0 => Str.ofString "y"
  | 1 => Str.ofString "i"
  | 2 => Str.ofString "q"
  | 3 => Str.ofString "r"
  | 4 => Str.ofString "g"
  | 5 => Str.ofString "b"
  | _ => Str.ofString "?"
noncomputable def names3 : List Str := [Str.ofString "y", Str.ofString "i", Str.ofString "q", Str.ofString "r", Str.ofString "g", Str.ofString "b"]
noncomputable def body3 : S := (.cons 
  (.asg 3 (.bin (.bin (.v 0 ⟨25, 8, 25, 9⟩) .Add (.bin (.k (.float 0x3fee4cdbef721b32) ⟨25, 12, 25, 30⟩) .Mult (.v 1 ⟨25, 33, 25, 34⟩) ⟨25, 12, 25, 34⟩) ⟨25, 8, 25, 34⟩) .Add (.bin (.k (.float 0x3fe3f42ceedac0be) ⟨25, 37, 25, 55⟩) .Mult (.v 2 ⟨25, 58, 25, 59⟩) ⟨25, 37, 25, 59⟩) ⟨25, 8, 25, 59⟩) ⟨25, 4, 25, 5⟩ ⟨25, 4, 25, 59⟩) (.cons 
  (.asg 4 (.bin (.bin (.v 0 ⟨26, 8, 26, 9⟩) .Sub (.bin (.k (.float 0x3fd1961eec8cbb3a) ⟨26, 12, 26, 31⟩) .Mult (.v 1 ⟨26, 34, 26, 35⟩) ⟨26, 12, 26, 35⟩) ⟨26, 8, 26, 35⟩) .Sub (.bin (.k (.float 0x3fe45794d16efff3) ⟨26, 38, 26, 56⟩) .Mult (.v 2 ⟨26, 59, 26, 60⟩) ⟨26, 38, 26, 60⟩) ⟨26, 8, 26, 60⟩) ⟨26, 4, 26, 5⟩ ⟨26, 4, 26, 60⟩) (.cons 
  (.asg 5 (.bin (.bin (.v 0 ⟨27, 8, 27, 9⟩) .Sub (.bin (.k (.float 0x3ff1bc99b7dee436) ⟨27, 12, 27, 30⟩) .Mult (.v 1 ⟨27, 33, 27, 34⟩) ⟨27, 12, 27, 34⟩) ⟨27, 8, 27, 34⟩) .Add (.bin (.k (.float 0x3ffb5817a6224a7f) ⟨27, 37, 27, 55⟩) .Mult (.v 2 ⟨27, 58, 27, 59⟩) ⟨27, 37, 27, 59⟩) ⟨27, 8, 27, 59⟩) ⟨27, 4, 27, 5⟩ ⟨27, 4, 27, 59⟩) (.cons 
  (.ite (.cmp (.v 3 ⟨28, 7, 28, 8⟩) .Lt (.k (.float 0x0000000000000000) ⟨28, 11, 28, 14⟩) ⟨28, 7, 28, 14⟩) (.cons 
  (.asg 3 (.k (.float 0x0000000000000000) ⟨29, 12, 29, 15⟩) ⟨29, 8, 29, 9⟩ ⟨29, 8, 29, 15⟩) .nil) .nil ⟨28, 4, 29, 15⟩) (.cons 
  (.ite (.cmp (.v 4 ⟨30, 7, 30, 8⟩) .Lt (.k (.float 0x0000000000000000) ⟨30, 11, 30, 14⟩) ⟨30, 7, 30, 14⟩) (.cons 
  (.asg 4 (.k (.float 0x0000000000000000) ⟨31, 12, 31, 15⟩) ⟨31, 8, 31, 9⟩ ⟨31, 8, 31, 15⟩) .nil) .nil ⟨30, 4, 31, 15⟩) (.cons 
  (.ite (.cmp (.v 5 ⟨32, 7, 32, 8⟩) .Lt (.k (.float 0x0000000000000000) ⟨32, 11, 32, 14⟩) ⟨32, 7, 32, 14⟩) (.cons 
  (.asg 5 (.k (.float 0x0000000000000000) ⟨33, 12, 33, 15⟩) ⟨33, 8, 33, 9⟩ ⟨33, 8, 33, 15⟩) .nil) .nil ⟨32, 4, 33, 15⟩) (.cons 
  (.ite (.cmp (.v 3 ⟨34, 7, 34, 8⟩) .Gt (.k (.float 0x3ff0000000000000) ⟨34, 11, 34, 14⟩) ⟨34, 7, 34, 14⟩) (.cons 
  (.asg 3 (.k (.float 0x3ff0000000000000) ⟨35, 12, 35, 15⟩) ⟨35, 8, 35, 9⟩ ⟨35, 8, 35, 15⟩) .nil) .nil ⟨34, 4, 35, 15⟩) (.cons 
  (.ite (.cmp (.v 4 ⟨36, 7, 36, 8⟩) .Gt (.k (.float 0x3ff0000000000000) ⟨36, 11, 36, 14⟩) ⟨36, 7, 36, 14⟩) (.cons 
  (.asg 4 (.k (.float 0x3ff0000000000000) ⟨37, 12, 37, 15⟩) ⟨37, 8, 37, 9⟩ ⟨37, 8, 37, 15⟩) .nil) .nil ⟨36, 4, 37, 15⟩) (.cons 
  (.ite (.cmp (.v 5 ⟨38, 7, 38, 8⟩) .Gt (.k (.float 0x3ff0000000000000) ⟨38, 11, 38, 14⟩) ⟨38, 7, 38, 14⟩) (.cons 
  (.asg 5 (.k (.float 0x3ff0000000000000) ⟨39, 12, 39, 15⟩) ⟨39, 8, 39, 9⟩ ⟨39, 8, 39, 15⟩) .nil) .nil ⟨38, 4, 39, 15⟩) (.cons 
  (.ret (.tup (.cons (.v 3 ⟨40, 12, 40, 13⟩) (.cons (.v 4 ⟨40, 15, 40, 16⟩) (.cons (.v 5 ⟨40, 18, 40, 19⟩) .nil))) ⟨40, 11, 40, 20⟩) ⟨40, 4, 40, 20⟩) .nil))))))))))
/-- yiq_to_rgb: 0 y, 1 i, 2 q, 3 r, 4 g, 5 b -/
noncomputable def fn3 : Fn := ⟨3, 6, body3⟩
noncomputable def nm4 : Nat → Str
  | 0 => Str.ofString "r"
  | 1 => Str.ofString "g"
  | 2 => Str.ofString "b"
  | 3 => Str.ofString "maxc"
  | 4 => Str.ofString "minc"
  | 5 => Str.ofString "sumc"
  | 6 => Str.ofString "rangec"
  | 7 => Str.ofString "l"
  | 8 => Str.ofString "s"
  | 9 => Str.ofString "rc"
  | 10 => Str.ofString "gc"
  | 11 => Str.ofString "bc"
  | 12 => Str.ofString "h"
  | _ => Str.ofString "?"
noncomputable def names4 : List Str := [Str.ofString "r", Str.ofString "g", Str.ofString "b", Str.ofString "maxc", Str.ofString "minc", Str.ofString "sumc", Str.ofString "rangec", Str.ofString "l", Str.ofString "s", Str.ofString "rc", Str.ofString "gc", Str.ofString "bc", Str.ofString "h"]
noncomputable def body4 : S := (.cons 
  (.asg 3 (.bi .max (.cons (.v 0 ⟨42, 15, 42, 16⟩) (.cons (.v 1 ⟨42, 18, 42, 19⟩) (.cons (.v 2 ⟨42, 21, 42, 22⟩) .nil))) ⟨42, 11, 42, 14⟩ ⟨42, 11, 42, 23⟩) ⟨42, 4, 42, 8⟩ ⟨42, 4, 42, 23⟩) (.cons 
  (.asg 4 (.bi .min (.cons (.v 0 ⟨43, 15, 43, 16⟩) (.cons (.v 1 ⟨43, 18, 43, 19⟩) (.cons (.v 2 ⟨43, 21, 43, 22⟩) .nil))) ⟨43, 11, 43, 14⟩ ⟨43, 11, 43, 23⟩) ⟨43, 4, 43, 8⟩ ⟨43, 4, 43, 23⟩) (.cons 
  (.asg 5 (.bin (.v 3 ⟨44, 11, 44, 15⟩) .Add (.v 4 ⟨44, 18, 44, 22⟩) ⟨44, 11, 44, 22⟩) ⟨44, 4, 44, 8⟩ ⟨44, 4, 44, 22⟩) (.cons 
  (.asg 6 (.bin (.v 3 ⟨45, 13, 45, 17⟩) .Sub (.v 4 ⟨45, 20, 45, 24⟩) ⟨45, 13, 45, 24⟩) ⟨45, 4, 45, 10⟩ ⟨45, 4, 45, 24⟩) (.cons 
  (.asg 7 (.bin (.v 5 ⟨46, 8, 46, 12⟩) .Div (.k (.float 0x4000000000000000) ⟨46, 15, 46, 18⟩) ⟨46, 8, 46, 18⟩) ⟨46, 4, 46, 5⟩ ⟨46, 4, 46, 18⟩) (.cons 
  (.ite (.cmp (.v 4 ⟨47, 7, 47, 11⟩) .Eq (.v 3 ⟨47, 15, 47, 19⟩) ⟨47, 7, 47, 19⟩) (.cons 
  (.ret (.tup (.cons (.k (.float 0x0000000000000000) ⟨48, 16, 48, 19⟩) (.cons (.v 7 ⟨48, 21, 48, 22⟩) (.cons (.k (.float 0x0000000000000000) ⟨48, 24, 48, 27⟩) .nil))) ⟨48, 15, 48, 28⟩) ⟨48, 8, 48, 28⟩) .nil) .nil ⟨47, 4, 48, 28⟩) (.cons 
  (.ite (.cmp (.v 7 ⟨49, 7, 49, 8⟩) .LtE (.k (.float 0x3fe0000000000000) ⟨49, 12, 49, 15⟩) ⟨49, 7, 49, 15⟩) (.cons 
  (.asg 8 (.bin (.v 6 ⟨50, 12, 50, 18⟩) .Div (.v 5 ⟨50, 21, 50, 25⟩) ⟨50, 12, 50, 25⟩) ⟨50, 8, 50, 9⟩ ⟨50, 8, 50, 25⟩) .nil) (.cons 
  (.asg 8 (.bin (.v 6 ⟨52, 12, 52, 18⟩) .Div (.bin (.bin (.k (.float 0x4000000000000000) ⟨52, 22, 52, 25⟩) .Sub (.v 3 ⟨52, 28, 52, 32⟩) ⟨52, 22, 52, 32⟩) .Sub (.v 4 ⟨52, 35, 52, 39⟩) ⟨52, 22, 52, 39⟩) ⟨52, 12, 52, 40⟩) ⟨52, 8, 52, 9⟩ ⟨52, 8, 52, 40⟩) .nil) ⟨49, 4, 52, 40⟩) (.cons 
  (.asg 9 (.bin (.bin (.v 3 ⟨53, 10, 53, 14⟩) .Sub (.v 0 ⟨53, 17, 53, 18⟩) ⟨53, 10, 53, 18⟩) .Div (.v 6 ⟨53, 22, 53, 28⟩) ⟨53, 9, 53, 28⟩) ⟨53, 4, 53, 6⟩ ⟨53, 4, 53, 28⟩) (.cons 
  (.asg 10 (.bin (.bin (.v 3 ⟨54, 10, 54, 14⟩) .Sub (.v 1 ⟨54, 17, 54, 18⟩) ⟨54, 10, 54, 18⟩) .Div (.v 6 ⟨54, 22, 54, 28⟩) ⟨54, 9, 54, 28⟩) ⟨54, 4, 54, 6⟩ ⟨54, 4, 54, 28⟩) (.cons 
  (.asg 11 (.bin (.bin (.v 3 ⟨55, 10, 55, 14⟩) .Sub (.v 2 ⟨55, 17, 55, 18⟩) ⟨55, 10, 55, 18⟩) .Div (.v 6 ⟨55, 22, 55, 28⟩) ⟨55, 9, 55, 28⟩) ⟨55, 4, 55, 6⟩ ⟨55, 4, 55, 28⟩) (.cons 
  (.ite (.cmp (.v 0 ⟨56, 7, 56, 8⟩) .Eq (.v 3 ⟨56, 12, 56, 16⟩) ⟨56, 7, 56, 16⟩) (.cons 
  (.asg 12 (.bin (.v 11 ⟨57, 12, 57, 14⟩) .Sub (.v 10 ⟨57, 17, 57, 19⟩) ⟨57, 12, 57, 19⟩) ⟨57, 8, 57, 9⟩ ⟨57, 8, 57, 19⟩) .nil) (.cons 
  (.ite (.cmp (.v 1 ⟨58, 9, 58, 10⟩) .Eq (.v 3 ⟨58, 14, 58, 18⟩) ⟨58, 9, 58, 18⟩) (.cons 
  (.asg 12 (.bin (.bin (.k (.float 0x4000000000000000) ⟨59, 12, 59, 15⟩) .Add (.v 9 ⟨59, 18, 59, 20⟩) ⟨59, 12, 59, 20⟩) .Sub (.v 11 ⟨59, 23, 59, 25⟩) ⟨59, 12, 59, 25⟩) ⟨59, 8, 59, 9⟩ ⟨59, 8, 59, 25⟩) .nil) (.cons 
  (.asg 12 (.bin (.bin (.k (.float 0x4010000000000000) ⟨61, 12, 61, 15⟩) .Add (.v 10 ⟨61, 18, 61, 20⟩) ⟨61, 12, 61, 20⟩) .Sub (.v 9 ⟨61, 23, 61, 25⟩) ⟨61, 12, 61, 25⟩) ⟨61, 8, 61, 9⟩ ⟨61, 8, 61, 25⟩) .nil) ⟨58, 4, 61, 25⟩) .nil) ⟨56, 4, 61, 25⟩) (.cons 
  (.asg 12 (.bin (.bin (.v 12 ⟨62, 8, 62, 9⟩) .Div (.k (.float 0x4018000000000000) ⟨62, 12, 62, 15⟩) ⟨62, 8, 62, 15⟩) .Mod (.k (.float 0x3ff0000000000000) ⟨62, 18, 62, 21⟩) ⟨62, 8, 62, 21⟩) ⟨62, 4, 62, 5⟩ ⟨62, 4, 62, 21⟩) (.cons 
  (.ret (.tup (.cons (.v 12 ⟨63, 12, 63, 13⟩) (.cons (.v 7 ⟨63, 15, 63, 16⟩) (.cons (.v 8 ⟨63, 18, 63, 19⟩) .nil))) ⟨63, 11, 63, 20⟩) ⟨63, 4, 63, 20⟩) .nil)))))))))))))
/-- rgb_to_hls: 0 r, 1 g, 2 b, 3 maxc, 4 minc, 5 sumc, 6 rangec, 7 l, 8 s, 9 rc, 10 gc, 11 bc, 12 h -/
noncomputable def fn4 : Fn := ⟨3, 13, body4⟩
noncomputable def nm5 : Nat → Str
  | 0 => Str.ofString "resp"
  | 1 => Str.ofString "dirname"
  | 2 => Str.ofString "i"
  | 3 => Str.ofString "n"
  | 4 => Str.ofString "c"
  | _ => Str.ofString "?"
noncomputable def names5 : List Str := [Str.ofString "resp", Str.ofString "dirname", Str.ofString "i", Str.ofString "n", Str.ofString "c"]
noncomputable def body5 : S := (.cons 
  (.ite (.cmp (.slU (.v 0 ⟨88, 7, 88, 11⟩) (.k (.int 3) ⟨88, 13, 88, 14⟩) ⟨88, 12, 88, 14⟩ ⟨88, 7, 88, 15⟩) .NotEq (.k (.str (Str.ofString "257")) ⟨88, 19, 88, 24⟩) ⟨88, 7, 88, 24⟩) (.cons 
  (.dead (.Raise (some (.Call (.Name (Str.ofString "error_reply") ⟨89, 14, 89, 25⟩) [.Name (nm5 0) ⟨89, 26, 89, 30⟩] [] ⟨89, 14, 89, 31⟩)) none ⟨89, 8, 89, 31⟩)) .nil) .nil ⟨88, 4, 89, 31⟩) (.cons 
  (.ite (.cmp (.slB (.v 0 ⟨90, 7, 90, 11⟩) (.k (.int 3) ⟨90, 12, 90, 13⟩) (.k (.int 5) ⟨90, 14, 90, 15⟩) ⟨90, 12, 90, 15⟩ ⟨90, 7, 90, 16⟩) .NotEq (.k (.str (Str.ofString " \"")) ⟨90, 20, 90, 24⟩) ⟨90, 7, 90, 24⟩) (.cons 
  (.ret (.k (.str (Str.ofString "")) ⟨91, 15, 91, 17⟩) ⟨91, 8, 91, 17⟩) .nil) .nil ⟨90, 4, 91, 17⟩) (.cons 
  (.asg 1 (.k (.str (Str.ofString "")) ⟨92, 14, 92, 16⟩) ⟨92, 4, 92, 11⟩ ⟨92, 4, 92, 16⟩) (.cons 
  (.asg 2 (.k (.int 5) ⟨93, 8, 93, 9⟩) ⟨93, 4, 93, 5⟩ ⟨93, 4, 93, 9⟩) (.cons 
  (.asg 3 (.bi .len (.cons (.v 0 ⟨94, 12, 94, 16⟩) .nil) ⟨94, 8, 94, 11⟩ ⟨94, 8, 94, 17⟩) ⟨94, 4, 94, 5⟩ ⟨94, 4, 94, 17⟩) (.cons 
  (.whl 40 (.cmp (.v 2 ⟨95, 10, 95, 11⟩) .Lt (.v 3 ⟨95, 14, 95, 15⟩) ⟨95, 10, 95, 15⟩) (.cons 
  (.asg 4 (.idx (.v 0 ⟨96, 12, 96, 16⟩) (.v 2 ⟨96, 17, 96, 18⟩) ⟨96, 12, 96, 19⟩) ⟨96, 8, 96, 9⟩ ⟨96, 8, 96, 19⟩) (.cons 
  (.asg 2 (.bin (.v 2 ⟨97, 12, 97, 13⟩) .Add (.k (.int 1) ⟨97, 16, 97, 17⟩) ⟨97, 12, 97, 17⟩) ⟨97, 8, 97, 9⟩ ⟨97, 8, 97, 17⟩) (.cons 
  (.ite (.cmp (.v 4 ⟨98, 11, 98, 12⟩) .Eq (.k (.str (Str.ofString "\"")) ⟨98, 16, 98, 19⟩) ⟨98, 11, 98, 19⟩) (.cons 
  (.ite (.or (.cmp (.v 2 ⟨99, 15, 99, 16⟩) .GtE (.v 3 ⟨99, 20, 99, 21⟩) ⟨99, 15, 99, 21⟩) (.cmp (.idx (.v 0 ⟨99, 25, 99, 29⟩) (.v 2 ⟨99, 30, 99, 31⟩) ⟨99, 25, 99, 32⟩) .NotEq (.k (.str (Str.ofString "\"")) ⟨99, 36, 99, 39⟩) ⟨99, 25, 99, 39⟩) ⟨99, 15, 99, 39⟩) (.cons 
  (.brk ⟨100, 16, 100, 21⟩) .nil) .nil ⟨99, 12, 100, 21⟩) (.cons 
  (.asg 2 (.bin (.v 2 ⟨101, 16, 101, 17⟩) .Add (.k (.int 1) ⟨101, 20, 101, 21⟩) ⟨101, 16, 101, 21⟩) ⟨101, 12, 101, 13⟩ ⟨101, 12, 101, 21⟩) .nil)) .nil ⟨98, 8, 101, 21⟩) (.cons 
  (.asg 1 (.bin (.v 1 ⟨102, 18, 102, 25⟩) .Add (.v 4 ⟨102, 28, 102, 29⟩) ⟨102, 18, 102, 29⟩) ⟨102, 8, 102, 15⟩ ⟨102, 8, 102, 29⟩) .nil)))) ⟨95, 4, 102, 29⟩) (.cons 
  (.ret (.v 1 ⟨103, 11, 103, 18⟩) ⟨103, 4, 103, 18⟩) .nil)))))))
/-- parse257: 0 resp, 1 dirname, 2 i, 3 n, 4 c -/
noncomputable def fn5 : Fn := ⟨1, 5, body5⟩
noncomputable def nm6 : Nat → Str
  | 0 => Str.ofString "lamps"
  | 1 => Str.ofString "endings"
  | 2 => Str.ofString "order"
  | 3 => Str.ofString "marks"
  | 4 => Str.ofString "first"
  | 5 => Str.ofString "step"
  | 6 => Str.ofString "ending"
  | 7 => Str.ofString "reply"
  | 8 => Str.ofString "half"
  | 9 => Str.ofString "marked"
  | 10 => Str.ofString "place"
  | 11 => Str.ofString "beyond"
  | 12 => Str.ofString "ruler"
  | 13 => Str.ofString "size"
  | _ => Str.ofString "?"
noncomputable def names6 : List Str := [Str.ofString "lamps", Str.ofString "endings", Str.ofString "order", Str.ofString "marks", Str.ofString "first", Str.ofString "step", Str.ofString "ending", Str.ofString "reply", Str.ofString "half", Str.ofString "marked", Str.ofString "place", Str.ofString "beyond", Str.ofString "ruler", Str.ofString "size"]
noncomputable def body6 : S := (.cons 
  (.asg 2 (.lst .nil ⟨106, 12, 106, 14⟩) ⟨106, 4, 106, 9⟩ ⟨106, 4, 106, 14⟩) (.cons 
  (.asg 3 (.v 0 ⟨107, 12, 107, 17⟩) ⟨107, 4, 107, 9⟩ ⟨107, 4, 107, 17⟩) (.cons 
  (.asg 4 (.k (.int 0) ⟨108, 12, 108, 13⟩) ⟨108, 4, 108, 9⟩ ⟨108, 4, 108, 13⟩) (.cons 
  (.asg 5 (.k (.int 1) ⟨109, 11, 109, 12⟩) ⟨109, 4, 109, 8⟩ ⟨109, 4, 109, 12⟩) (.cons 
  (.forL 6 (.v 1 ⟨110, 18, 110, 25⟩) (.cons 
  (.asg 7 (.call 5 (.cons (.bin (.bin (.k (.str (Str.ofString "257 \"")) ⟨111, 25, 111, 32⟩) .Add (.bin (.k (.str (Str.ofString "\"")) ⟨111, 35, 111, 38⟩) .Mult (.v 3 ⟨111, 41, 111, 46⟩) ⟨111, 35, 111, 46⟩) ⟨111, 25, 111, 46⟩) .Add (.k (.str (Str.ofString "k\"")) ⟨111, 49, 111, 53⟩) ⟨111, 25, 111, 53⟩) .nil) ⟨111, 16, 111, 24⟩ ⟨111, 16, 111, 54⟩) ⟨111, 8, 111, 13⟩ ⟨111, 8, 111, 54⟩) (.cons 
  (.asg 8 (.cnt (.v 7 ⟨112, 15, 112, 20⟩) (.k (.str (Str.ofString "\"")) ⟨112, 27, 112, 30⟩) ⟨112, 15, 112, 26⟩ ⟨112, 15, 112, 31⟩) ⟨112, 8, 112, 12⟩ ⟨112, 8, 112, 31⟩) (.cons 
  (.ite (.cmp (.v 3 ⟨113, 11, 113, 16⟩) .Eq (.k (.int 0) ⟨113, 20, 113, 21⟩) ⟨113, 11, 113, 21⟩) (.cons 
  (.asg 12 (.lst (.cons (.k (.int 0) ⟨114, 21, 114, 22⟩) .nil) ⟨114, 20, 114, 23⟩) ⟨114, 12, 114, 17⟩ ⟨114, 12, 114, 23⟩) .nil) (.cons 
  (.ite (.cmp (.v 6 ⟨115, 13, 115, 19⟩) .Eq (.k (.int 0) ⟨115, 23, 115, 24⟩) ⟨115, 13, 115, 24⟩) (.cons 
  (.asg 12 (.lst (.cons (.bin (.v 4 ⟨116, 21, 116, 26⟩) .Add (.v 5 ⟨116, 29, 116, 33⟩) ⟨116, 21, 116, 33⟩) (.cons (.bin (.k (.int 2) ⟨116, 35, 116, 36⟩) .Mult (.v 5 ⟨116, 39, 116, 43⟩) ⟨116, 35, 116, 43⟩) (.cons (.k (.int 0) ⟨116, 45, 116, 46⟩) (.cons (.k (.int 3) ⟨116, 48, 116, 49⟩) .nil)))) ⟨116, 20, 116, 50⟩) ⟨116, 12, 116, 17⟩ ⟨116, 12, 116, 50⟩) .nil) (.cons 
  (.asg 12 (.bin (.slU (.bin (.lst (.cons (.bin (.v 4 ⟨118, 22, 118, 27⟩) .Add (.v 5 ⟨118, 30, 118, 34⟩) ⟨118, 22, 118, 34⟩) .nil) ⟨118, 21, 118, 35⟩) .Add (.bin (.lst (.cons (.bin (.k (.int 2) ⟨118, 39, 118, 40⟩) .Mult (.v 5 ⟨118, 43, 118, 47⟩) ⟨118, 39, 118, 47⟩) .nil) ⟨118, 38, 118, 48⟩) .Mult (.v 8 ⟨118, 51, 118, 55⟩) ⟨118, 38, 118, 55⟩) ⟨118, 21, 118, 55⟩) (.v 8 ⟨118, 58, 118, 62⟩) ⟨118, 57, 118, 62⟩ ⟨118, 20, 118, 63⟩) .Add (.slU (.lst (.cons (.k (.int 127) ⟨118, 67, 118, 70⟩) (.cons (.k (.int 3) ⟨118, 72, 118, 73⟩) .nil)) ⟨118, 66, 118, 74⟩) (.bin (.k (.int 4) ⟨118, 76, 118, 77⟩) .Sub (.bin (.k (.int 2) ⟨118, 80, 118, 81⟩) .Mult (.v 6 ⟨118, 84, 118, 90⟩) ⟨118, 80, 118, 90⟩) ⟨118, 76, 118, 90⟩) ⟨118, 75, 118, 90⟩ ⟨118, 66, 118, 91⟩) ⟨118, 20, 118, 91⟩) ⟨118, 12, 118, 17⟩ ⟨118, 12, 118, 91⟩) .nil) ⟨115, 8, 118, 91⟩) .nil) ⟨113, 8, 118, 91⟩) (.cons 
  (.asg 9 (.lst .nil ⟨119, 17, 119, 19⟩) ⟨119, 8, 119, 14⟩ ⟨119, 8, 119, 19⟩) (.cons 
  (.asg 10 (.k (.int 0) ⟨120, 16, 120, 17⟩) ⟨120, 8, 120, 13⟩ ⟨120, 8, 120, 17⟩) (.cons 
  (.asg 11 (.k (.bool false) ⟨121, 17, 121, 22⟩) ⟨121, 8, 121, 14⟩ ⟨121, 8, 121, 22⟩) (.cons 
  (.tryG 13 (.v 12 ⟨123, 44, 123, 49⟩) (.cons 
  (.aug 10 .Add (.v 13 ⟨124, 25, 124, 29⟩) ⟨124, 16, 124, 21⟩ ⟨124, 16, 124, 29⟩) (.cons 
  (.asg 11 (.cmp (.v 10 ⟨125, 25, 125, 30⟩) .GtE (.v 0 ⟨125, 34, 125, 39⟩) ⟨125, 25, 125, 39⟩) ⟨125, 16, 125, 22⟩ ⟨125, 16, 125, 39⟩) (.cons 
  (.ite (.or (.v 11 ⟨126, 19, 126, 25⟩) (.cmp (.bi .len (.cons (.v 9 ⟨126, 33, 126, 39⟩) .nil) ⟨126, 29, 126, 32⟩ ⟨126, 29, 126, 40⟩) .Gt (.v 8 ⟨126, 43, 126, 47⟩) ⟨126, 29, 126, 47⟩) ⟨126, 19, 126, 47⟩) (.cons 
  (.brk ⟨127, 20, 127, 25⟩) .nil) .nil ⟨126, 16, 127, 25⟩) (.cons 
  (.app 9 (.v 10 ⟨128, 30, 128, 35⟩) ⟨128, 16, 128, 22⟩ ⟨128, 16, 128, 29⟩ ⟨128, 16, 128, 36⟩ ⟨128, 16, 128, 36⟩) .nil)))) 3 0 2 (fun | 0 => ⟨130, 28, 130, 33⟩ | 1 => ⟨130, 37, 130, 38⟩ | 2 => ⟨130, 28, 130, 38⟩ | 3 => ⟨130, 19, 130, 24⟩ | 4 => ⟨130, 44, 130, 46⟩ | 5 => ⟨130, 19, 130, 46⟩ | 6 => ⟨130, 12, 130, 46⟩ | _ => ⟨0, 0, 0, 0⟩) ⟨123, 24, 123, 43⟩ ⟨123, 24, 123, 50⟩ ⟨123, 16, 123, 20⟩ ⟨123, 12, 128, 36⟩ ⟨129, 15, 129, 25⟩ ⟨129, 8, 130, 46⟩ ⟨122, 8, 130, 46⟩) (.cons 
  (.ite (.or (.cmp (.bi .len (.cons (.v 9 ⟨131, 15, 131, 21⟩) .nil) ⟨131, 11, 131, 14⟩ ⟨131, 11, 131, 22⟩) .NotEq (.v 8 ⟨131, 26, 131, 30⟩) ⟨131, 11, 131, 30⟩) (.cmp (.v 11 ⟨131, 34, 131, 40⟩) .NotEq (.cmp (.v 6 ⟨131, 45, 131, 51⟩) .Eq (.k (.int 0) ⟨131, 55, 131, 56⟩) ⟨131, 45, 131, 56⟩) ⟨131, 34, 131, 57⟩) ⟨131, 11, 131, 57⟩) (.cons 
  (.ret (.lst .nil ⟨132, 19, 132, 21⟩) ⟨132, 12, 132, 21⟩) .nil) .nil ⟨131, 8, 132, 21⟩) (.cons 
  (.ext 2 (.v 9 ⟨133, 21, 133, 27⟩) ⟨133, 8, 133, 13⟩ ⟨133, 8, 133, 20⟩ ⟨133, 8, 133, 28⟩ ⟨133, 8, 133, 28⟩) (.cons 
  (.ite (.cmp (.slL (.v 7 ⟨134, 11, 134, 16⟩) (.neg (.k (.int 1) ⟨134, 18, 134, 19⟩) ⟨134, 17, 134, 19⟩) ⟨134, 17, 134, 20⟩ ⟨134, 11, 134, 21⟩) .NotEq (.k (.str (Str.ofString "k")) ⟨134, 25, 134, 28⟩) ⟨134, 11, 134, 28⟩) (.cons 
  (.app 2 (.v 4 ⟨135, 25, 135, 30⟩) ⟨135, 12, 135, 17⟩ ⟨135, 12, 135, 24⟩ ⟨135, 12, 135, 31⟩ ⟨135, 12, 135, 31⟩) (.cons 
  (.aug 4 .Add (.bin (.k (.int 2) ⟨136, 21, 136, 22⟩) .Mult (.v 5 ⟨136, 25, 136, 29⟩) ⟨136, 21, 136, 29⟩) ⟨136, 12, 136, 17⟩ ⟨136, 12, 136, 29⟩) .nil)) .nil ⟨134, 8, 136, 29⟩) (.cons 
  (.asg 3 (.v 8 ⟨137, 16, 137, 20⟩) ⟨137, 8, 137, 13⟩ ⟨137, 8, 137, 20⟩) (.cons 
  (.aug 5 .Mult (.k (.int 2) ⟨138, 16, 138, 17⟩) ⟨138, 8, 138, 12⟩ ⟨138, 8, 138, 17⟩) .nil)))))))))))) [6, 7, 8, 12, 9, 10, 11, 13] none ⟨110, 8, 110, 14⟩ ⟨110, 4, 138, 17⟩) (.cons 
  (.ret (.lst .nil ⟨139, 11, 139, 13⟩) ⟨139, 4, 139, 13⟩) .nil))))))
/-- _law_by_replies_and_rulers: 0 lamps, 1 endings, 2 order, 3 marks, 4 first, 5 step, 6 ending, 7 reply, 8 half, 9 marked, 10 place, 11 beyond, 12 ruler, 13 size -/
noncomputable def fn6 : Fn := ⟨2, 14, body6⟩
noncomputable def nm7 : Nat → Str
  | 0 => Str.ofString "hues"
  | 1 => Str.ofString "start"
  | 2 => Str.ofString "order"
  | 3 => Str.ofString "lit"
  | 4 => Str.ofString "here"
  | 5 => Str.ofString "lamp"
  | 6 => Str.ofString "pace"
  | 7 => Str.ofString "ahead"
  | 8 => Str.ofString "hue"
  | _ => Str.ofString "?"
noncomputable def names7 : List Str := [Str.ofString "hues", Str.ofString "start", Str.ofString "order", Str.ofString "lit", Str.ofString "here", Str.ofString "lamp", Str.ofString "pace", Str.ofString "ahead", Str.ofString "hue"]
noncomputable def body7 : S := (.cons 
  (.asg 2 (.lst .nil ⟨141, 12, 141, 14⟩) ⟨141, 4, 141, 9⟩ ⟨141, 4, 141, 14⟩) (.cons 
  (.asg 3 (.v 0 ⟨142, 10, 142, 14⟩) ⟨142, 4, 142, 7⟩ ⟨142, 4, 142, 14⟩) (.cons 
  (.asg 4 (.bin (.v 1 ⟨143, 11, 143, 16⟩) .Div (.k (.float 0x4030000000000000) ⟨143, 19, 143, 23⟩) ⟨143, 11, 143, 23⟩) ⟨143, 4, 143, 8⟩ ⟨143, 4, 143, 23⟩) (.cons 
  (.forL 5 (.v 0 ⟨144, 16, 144, 20⟩) (.cons 
  (.forR 6 (.cons (.k (.int 2) ⟨145, 26, 145, 27⟩) .nil) 
  (.near 8 4 3 7 0x3ff0000000000000 0x3ff0000000000000 [4] { kind := .function, names := [(Str.ofString ".0", .local), (Str.ofString "hue", .local), (Str.ofString "here", .free)], isGenerator := false, isCoroutine := false, more := [] } (fun | 0 => ⟨146, 12, 146, 17⟩ | 1 => ⟨146, 23, 146, 26⟩ | 2 => ⟨146, 29, 146, 33⟩ | 3 => ⟨146, 23, 146, 33⟩ | 4 => ⟨146, 37, 146, 40⟩ | 5 => ⟨146, 22, 146, 40⟩ | 6 => ⟨146, 44, 146, 47⟩ | 7 => ⟨146, 22, 146, 47⟩ | 8 => ⟨146, 49, 146, 52⟩ | 9 => ⟨146, 21, 146, 53⟩ | 10 => ⟨146, 58, 146, 61⟩ | 11 => ⟨146, 65, 146, 68⟩ | 12 => ⟨146, 20, 146, 69⟩ | 13 => ⟨146, 12, 146, 69⟩ | 14 => ⟨147, 12, 147, 16⟩ | 15 => ⟨147, 19, 147, 22⟩ | 16 => ⟨147, 23, 147, 28⟩ | 17 => ⟨147, 19, 147, 29⟩ | 18 => ⟨147, 30, 147, 31⟩ | 19 => ⟨147, 19, 147, 32⟩ | 20 => ⟨147, 12, 147, 32⟩ | _ => ⟨0, 0, 0, 0⟩) .nil) [6, 7] ⟨145, 20, 145, 25⟩ ⟨145, 20, 145, 28⟩ ⟨145, 12, 145, 16⟩ ⟨145, 8, 147, 32⟩) (.cons 
  (.app 2 (.bi .int (.cons (.bin (.bin (.v 4 ⟨148, 25, 148, 29⟩) .Mult (.k (.int 1000000) ⟨148, 32, 148, 39⟩) ⟨148, 25, 148, 39⟩) .Add (.k (.float 0x3fe0000000000000) ⟨148, 42, 148, 45⟩) ⟨148, 25, 148, 45⟩) .nil) ⟨148, 21, 148, 24⟩ ⟨148, 21, 148, 46⟩) ⟨148, 8, 148, 13⟩ ⟨148, 8, 148, 20⟩ ⟨148, 8, 148, 47⟩ ⟨148, 8, 148, 47⟩) (.cons 
  (.asg 3 (.compIf (.v 8 ⟨149, 15, 149, 18⟩) 8 ⟨149, 23, 149, 26⟩ (.v 3 ⟨149, 30, 149, 33⟩) (.cmp (.v 8 ⟨149, 37, 149, 40⟩) .NotEq (.v 4 ⟨149, 44, 149, 48⟩) ⟨149, 37, 149, 48⟩) [4] { kind := .function, names := [(Str.ofString ".0", .local), (Str.ofString "hue", .local), (Str.ofString "here", .free)], isGenerator := false, isCoroutine := false, more := [] } ⟨149, 14, 149, 49⟩) ⟨149, 8, 149, 11⟩ ⟨149, 8, 149, 49⟩) .nil))) [5, 6, 7] (some 3) ⟨144, 8, 144, 12⟩ ⟨144, 4, 149, 49⟩) (.cons 
  (.ret (.v 2 ⟨150, 11, 150, 16⟩) ⟨150, 4, 150, 16⟩) .nil)))))
/-- _law_by_the_wheel: 0 hues, 1 start, 2 order, 3 lit, 4 here, 5 lamp, 6 pace, 7 ahead, 8 hue -/
noncomputable def fn7 : Fn := ⟨2, 9, body7⟩
noncomputable def nm8 : Nat → Str
  | 0 => Str.ofString "lamps"
  | 1 => Str.ofString "order"
  | 2 => Str.ofString "k"
  | 3 => Str.ofString "number"
  | _ => Str.ofString "?"
noncomputable def names8 : List Str := [Str.ofString "lamps", Str.ofString "order", Str.ofString "k", Str.ofString "number"]
noncomputable def body8 : S := (.cons 
  (.asg 1 (.lst .nil ⟨152, 12, 152, 14⟩) ⟨152, 4, 152, 9⟩ ⟨152, 4, 152, 14⟩) (.cons 
  (.forR 2 (.cons (.k (.int 1) ⟨153, 19, 153, 20⟩) (.cons (.bin (.v 0 ⟨153, 22, 153, 27⟩) .Add (.k (.int 1) ⟨153, 30, 153, 31⟩) ⟨153, 22, 153, 31⟩) .nil)) (.cons 
  (.asg 3 (.bin (.k (.int 2) ⟨154, 17, 154, 18⟩) .Mult (.v 2 ⟨154, 21, 154, 22⟩) ⟨154, 17, 154, 22⟩) ⟨154, 8, 154, 14⟩ ⟨154, 8, 154, 22⟩) (.cons 
  (.whl 40 (.cmp (.v 3 ⟨155, 14, 155, 20⟩) .Gt (.v 0 ⟨155, 23, 155, 28⟩) ⟨155, 14, 155, 28⟩) (.cons 
  (.asg 3 (.bin (.bin (.k (.int 2) ⟨156, 21, 156, 22⟩) .Mult (.bin (.v 3 ⟨156, 26, 156, 32⟩) .Sub (.v 0 ⟨156, 35, 156, 40⟩) ⟨156, 26, 156, 40⟩) ⟨156, 21, 156, 41⟩) .Sub (.k (.int 1) ⟨156, 44, 156, 45⟩) ⟨156, 21, 156, 45⟩) ⟨156, 12, 156, 18⟩ ⟨156, 12, 156, 45⟩) .nil) ⟨155, 8, 156, 45⟩) (.cons 
  (.app 1 (.bin (.v 3 ⟨157, 21, 157, 27⟩) .Sub (.k (.int 1) ⟨157, 30, 157, 31⟩) ⟨157, 21, 157, 31⟩) ⟨157, 8, 157, 13⟩ ⟨157, 8, 157, 20⟩ ⟨157, 8, 157, 32⟩ ⟨157, 8, 157, 32⟩) .nil))) [2, 3] ⟨153, 13, 153, 18⟩ ⟨153, 13, 153, 32⟩ ⟨153, 8, 153, 9⟩ ⟨153, 4, 157, 32⟩) (.cons 
  (.ret (.v 1 ⟨158, 11, 158, 16⟩) ⟨158, 4, 158, 16⟩) .nil)))
/-- _law_by_excess: 0 lamps, 1 order, 2 k, 3 number -/
noncomputable def fn8 : Fn := ⟨1, 4, body8⟩
noncomputable def nm9 : Nat → Str
  | 0 => Str.ofString "script"
  | 1 => Str.ofString "drawn"
  | 2 => Str.ofString "x"
  | 3 => Str.ofString "start"
  | 4 => Str.ofString "places"
  | 5 => Str.ofString "hues"
  | 6 => Str.ofString "place"
  | 7 => Str.ofString "light"
  | 8 => Str.ofString "full"
  | 9 => Str.ofString "colour"
  | 10 => Str.ofString "sent"
  | 11 => Str.ofString "told"
  | 12 => Str.ofString "k"
  | 13 => Str.ofString "ring"
  | 14 => Str.ofString "order"
  | 15 => Str.ofString "rank"
  | _ => Str.ofString "?"
noncomputable def names9 : List Str := [Str.ofString "script", Str.ofString "drawn", Str.ofString "x", Str.ofString "start", Str.ofString "places", Str.ofString "hues", Str.ofString "place", Str.ofString "light", Str.ofString "full", Str.ofString "colour", Str.ofString "sent", Str.ofString "told", Str.ofString "k", Str.ofString "ring", Str.ofString "order", Str.ofString "rank"]
noncomputable def body9 : S := (.cons 
  (.asg 1 (.bin (.comp (.bin (.v 2 ⟨160, 13, 160, 14⟩) .Mod (.k (.int 1000000) ⟨160, 17, 160, 24⟩) ⟨160, 13, 160, 24⟩) 2 ⟨160, 29, 160, 30⟩ (.slU (.v 0 ⟨160, 34, 160, 40⟩) (.k (.int 12) ⟨160, 42, 160, 44⟩) ⟨160, 41, 160, 44⟩ ⟨160, 34, 160, 45⟩) [] { kind := .function, names := [(Str.ofString ".0", .local), (Str.ofString "x", .local)], isGenerator := false, isCoroutine := false, more := [] } ⟨160, 12, 160, 46⟩) .Add (.slL (.lst (.cons (.k (.int 37) ⟨160, 50, 160, 52⟩) (.cons (.k (.int 700) ⟨160, 54, 160, 57⟩) (.cons (.k (.int 5) ⟨160, 59, 160, 60⟩) (.cons (.k (.int 133) ⟨160, 62, 160, 65⟩) (.cons (.k (.int 250) ⟨160, 67, 160, 70⟩) .nil))))) ⟨160, 49, 160, 71⟩) (.bi .len (.cons (.v 0 ⟨160, 76, 160, 82⟩) .nil) ⟨160, 72, 160, 75⟩ ⟨160, 72, 160, 83⟩) ⟨160, 72, 160, 84⟩ ⟨160, 49, 160, 85⟩) ⟨160, 12, 160, 85⟩) ⟨160, 4, 160, 9⟩ ⟨160, 4, 160, 85⟩) (.cons 
  (.asg 3 (.bin (.bin (.k (.int 7) ⟨161, 13, 161, 14⟩) .Add (.bi .sum (.cons (.v 0 ⟨161, 21, 161, 27⟩) .nil) ⟨161, 17, 161, 20⟩ ⟨161, 17, 161, 28⟩) ⟨161, 13, 161, 28⟩) .Mod (.k (.int 16) ⟨161, 32, 161, 34⟩) ⟨161, 12, 161, 34⟩) ⟨161, 4, 161, 9⟩ ⟨161, 4, 161, 34⟩) (.cons 
  (.asg 4 (.lst .nil ⟨162, 13, 162, 15⟩) ⟨162, 4, 162, 10⟩ ⟨162, 4, 162, 15⟩) (.cons 
  (.asg 5 (.lst .nil ⟨163, 11, 163, 13⟩) ⟨163, 4, 163, 8⟩ ⟨163, 4, 163, 13⟩) (.cons 
  (.forL 2 (.v 1 ⟨164, 13, 164, 18⟩) (.cons 
  (.asg 6 (.bin (.v 2 ⟨165, 16, 165, 17⟩) .Mod (.k (.int 16) ⟨165, 20, 165, 22⟩) ⟨165, 16, 165, 22⟩) ⟨165, 8, 165, 13⟩ ⟨165, 8, 165, 22⟩) (.cons 
  (.whl 40 (.cmp (.v 6 ⟨166, 14, 166, 19⟩) .In (.v 4 ⟨166, 23, 166, 29⟩) ⟨166, 14, 166, 29⟩) (.cons 
  (.asg 6 (.bin (.bin (.v 6 ⟨167, 21, 167, 26⟩) .Add (.k (.int 1) ⟨167, 29, 167, 30⟩) ⟨167, 21, 167, 30⟩) .Mod (.k (.int 16) ⟨167, 34, 167, 36⟩) ⟨167, 20, 167, 36⟩) ⟨167, 12, 167, 17⟩ ⟨167, 12, 167, 36⟩) .nil) ⟨166, 8, 167, 36⟩) (.cons 
  (.app 4 (.v 6 ⟨168, 22, 168, 27⟩) ⟨168, 8, 168, 14⟩ ⟨168, 8, 168, 21⟩ ⟨168, 8, 168, 28⟩ ⟨168, 8, 168, 28⟩) (.cons 
  (.asg 7 (.bin (.k (.int 1) ⟨169, 16, 169, 17⟩) .Add (.bin (.bin (.v 2 ⟨169, 20, 169, 21⟩) .FloorDiv (.k (.int 16) ⟨169, 25, 169, 27⟩) ⟨169, 20, 169, 27⟩) .Mod (.k (.int 3) ⟨169, 30, 169, 31⟩) ⟨169, 20, 169, 31⟩) ⟨169, 16, 169, 31⟩) ⟨169, 8, 169, 13⟩ ⟨169, 8, 169, 31⟩) (.cons 
  (.asg 8 (.bin (.k (.int 1) ⟨170, 15, 170, 16⟩) .Add (.bin (.bin (.v 2 ⟨170, 19, 170, 20⟩) .FloorDiv (.k (.int 48) ⟨170, 24, 170, 26⟩) ⟨170, 19, 170, 26⟩) .Mod (.k (.int 2) ⟨170, 29, 170, 30⟩) ⟨170, 19, 170, 30⟩) ⟨170, 15, 170, 30⟩) ⟨170, 8, 170, 12⟩ ⟨170, 8, 170, 30⟩) (.cons 
  (.asg 9 (.call 1 (.cons (.bin (.bin (.bin (.bin (.bin (.k (.int 2) ⟨171, 29, 171, 30⟩) .Mult (.v 6 ⟨171, 33, 171, 38⟩) ⟨171, 29, 171, 38⟩) .Add (.k (.int 1) ⟨171, 41, 171, 42⟩) ⟨171, 29, 171, 42⟩) .Div (.k (.float 0x4040000000000000) ⟨171, 46, 171, 50⟩) ⟨171, 28, 171, 50⟩) .Add (.bin (.bin (.v 2 ⟨171, 53, 171, 54⟩) .FloorDiv (.k (.int 96) ⟨171, 58, 171, 60⟩) ⟨171, 53, 171, 60⟩) .Mod (.k (.int 5) ⟨171, 63, 171, 64⟩) ⟨171, 53, 171, 64⟩) ⟨171, 28, 171, 64⟩) .Sub (.k (.int 2) ⟨171, 67, 171, 68⟩) ⟨171, 28, 171, 68⟩) (.cons (.bin (.v 7 ⟨171, 70, 171, 75⟩) .Div (.k (.float 0x4010000000000000) ⟨171, 78, 171, 81⟩) ⟨171, 70, 171, 81⟩) (.cons (.bin (.v 8 ⟨171, 83, 171, 87⟩) .Div (.k (.float 0x4000000000000000) ⟨171, 90, 171, 93⟩) ⟨171, 83, 171, 93⟩) .nil))) ⟨171, 17, 171, 27⟩ ⟨171, 17, 171, 94⟩) ⟨171, 8, 171, 14⟩ ⟨171, 8, 171, 94⟩) (.cons 
  (.asg 10 (.call 2 (.cons (.idx (.v 9 ⟨172, 26, 172, 32⟩) (.k (.int 0) ⟨172, 33, 172, 34⟩) ⟨172, 26, 172, 35⟩) (.cons (.idx (.v 9 ⟨172, 37, 172, 43⟩) (.k (.int 1) ⟨172, 44, 172, 45⟩) ⟨172, 37, 172, 46⟩) (.cons (.idx (.v 9 ⟨172, 48, 172, 54⟩) (.k (.int 2) ⟨172, 55, 172, 56⟩) ⟨172, 48, 172, 57⟩) .nil))) ⟨172, 15, 172, 25⟩ ⟨172, 15, 172, 58⟩) ⟨172, 8, 172, 12⟩ ⟨172, 8, 172, 58⟩) (.cons 
  (.asg 9 (.call 3 (.cons (.idx (.v 10 ⟨173, 28, 173, 32⟩) (.k (.int 0) ⟨173, 33, 173, 34⟩) ⟨173, 28, 173, 35⟩) (.cons (.idx (.v 10 ⟨173, 37, 173, 41⟩) (.k (.int 1) ⟨173, 42, 173, 43⟩) ⟨173, 37, 173, 44⟩) (.cons (.idx (.v 10 ⟨173, 46, 173, 50⟩) (.k (.int 2) ⟨173, 51, 173, 52⟩) ⟨173, 46, 173, 53⟩) .nil))) ⟨173, 17, 173, 27⟩ ⟨173, 17, 173, 54⟩) ⟨173, 8, 173, 14⟩ ⟨173, 8, 173, 54⟩) (.cons 
  (.asg 11 (.call 4 (.cons (.idx (.v 9 ⟨174, 26, 174, 32⟩) (.k (.int 0) ⟨174, 33, 174, 34⟩) ⟨174, 26, 174, 35⟩) (.cons (.idx (.v 9 ⟨174, 37, 174, 43⟩) (.k (.int 1) ⟨174, 44, 174, 45⟩) ⟨174, 37, 174, 46⟩) (.cons (.idx (.v 9 ⟨174, 48, 174, 54⟩) (.k (.int 2) ⟨174, 55, 174, 56⟩) ⟨174, 48, 174, 57⟩) .nil))) ⟨174, 15, 174, 25⟩ ⟨174, 15, 174, 58⟩) ⟨174, 8, 174, 12⟩ ⟨174, 8, 174, 58⟩) (.cons 
  (.ite (.cmp (.comp (.bi .int (.cons (.bin (.bin (.idx (.v 11 ⟨175, 16, 175, 20⟩) (.v 12 ⟨175, 21, 175, 22⟩) ⟨175, 16, 175, 23⟩) .Mult (.k (.int 1000000) ⟨175, 26, 175, 33⟩) ⟨175, 16, 175, 33⟩) .Add (.k (.float 0x3fe0000000000000) ⟨175, 36, 175, 39⟩) ⟨175, 16, 175, 39⟩) .nil) ⟨175, 12, 175, 15⟩ ⟨175, 12, 175, 40⟩) 12 ⟨175, 45, 175, 46⟩ (.tup (.cons (.k (.int 1) ⟨175, 51, 175, 52⟩) (.cons (.k (.int 2) ⟨175, 54, 175, 55⟩) .nil)) ⟨175, 50, 175, 56⟩) [11] { kind := .function, names := [(Str.ofString ".0", .local), (Str.ofString "k", .local), (Str.ofString "int", .globalImplicit), (Str.ofString "told", .free)], isGenerator := false, isCoroutine := false, more := [] } ⟨175, 11, 175, 57⟩) .NotEq (.lst (.cons (.bin (.v 7 ⟨175, 62, 175, 67⟩) .Mult (.k (.int 250000) ⟨175, 70, 175, 76⟩) ⟨175, 62, 175, 76⟩) (.cons (.bin (.v 8 ⟨175, 78, 175, 82⟩) .Mult (.k (.int 500000) ⟨175, 85, 175, 91⟩) ⟨175, 78, 175, 91⟩) .nil)) ⟨175, 61, 175, 92⟩) ⟨175, 11, 175, 92⟩) (.cons 
  (.ret (.k (.bool false) ⟨176, 19, 176, 24⟩) ⟨176, 12, 176, 24⟩) .nil) .nil ⟨175, 8, 176, 24⟩) (.cons 
  (.app 5 (.idx (.v 11 ⟨177, 20, 177, 24⟩) (.k (.int 0) ⟨177, 25, 177, 26⟩) ⟨177, 20, 177, 27⟩) ⟨177, 8, 177, 12⟩ ⟨177, 8, 177, 19⟩ ⟨177, 8, 177, 28⟩ ⟨177, 8, 177, 28⟩) .nil))))))))))) [2, 6, 7, 8, 9, 10, 11] none ⟨164, 8, 164, 9⟩ ⟨164, 4, 177, 28⟩) (.cons 
  (.asg 13 (.bi .sorted (.cons (.comp (.tup (.cons (.bin (.bin (.v 6 ⟨178, 21, 178, 26⟩) .Sub (.v 3 ⟨178, 29, 178, 34⟩) ⟨178, 21, 178, 34⟩) .Mod (.k (.int 16) ⟨178, 38, 178, 40⟩) ⟨178, 20, 178, 40⟩) (.cons (.v 6 ⟨178, 42, 178, 47⟩) .nil)) ⟨178, 19, 178, 48⟩) 6 ⟨178, 53, 178, 58⟩ (.v 4 ⟨178, 62, 178, 68⟩) [3] { kind := .function, names := [(Str.ofString ".0", .local), (Str.ofString "place", .local), (Str.ofString "start", .free)], isGenerator := false, isCoroutine := false, more := [] } ⟨178, 18, 178, 69⟩) .nil) ⟨178, 11, 178, 17⟩ ⟨178, 11, 178, 70⟩) ⟨178, 4, 178, 8⟩ ⟨178, 4, 178, 70⟩) (.cons 
  (.asg 14 (.call 8 (.cons (.bi .len (.cons (.v 13 ⟨179, 31, 179, 35⟩) .nil) ⟨179, 27, 179, 30⟩ ⟨179, 27, 179, 36⟩) .nil) ⟨179, 12, 179, 26⟩ ⟨179, 12, 179, 37⟩) ⟨179, 4, 179, 9⟩ ⟨179, 4, 179, 37⟩) (.cons 
  (.ite (.cmp (.call 6 (.cons (.bi .len (.cons (.v 13 ⟨180, 38, 180, 42⟩) .nil) ⟨180, 34, 180, 37⟩ ⟨180, 34, 180, 43⟩) (.cons (.comp (.bin (.bin (.v 2 ⟨180, 46, 180, 47⟩) .FloorDiv (.k (.int 480) ⟨180, 51, 180, 54⟩) ⟨180, 46, 180, 54⟩) .Mod (.k (.int 3) ⟨180, 57, 180, 58⟩) ⟨180, 46, 180, 58⟩) 2 ⟨180, 63, 180, 64⟩ (.slU (.v 1 ⟨180, 68, 180, 73⟩) (.k (.int 5) ⟨180, 75, 180, 76⟩) ⟨180, 74, 180, 76⟩ ⟨180, 68, 180, 77⟩) [] { kind := .function, names := [(Str.ofString ".0", .local), (Str.ofString "x", .local)], isGenerator := false, isCoroutine := false, more := [] } ⟨180, 45, 180, 78⟩) .nil)) ⟨180, 7, 180, 33⟩ ⟨180, 7, 180, 79⟩) .NotEq (.v 14 ⟨180, 83, 180, 88⟩) ⟨180, 7, 180, 88⟩) (.cons 
  (.ret (.k (.bool false) ⟨181, 15, 181, 20⟩) ⟨181, 8, 181, 20⟩) .nil) .nil ⟨180, 4, 181, 20⟩) (.cons 
  (.ret (.cmp (.call 7 (.cons (.v 5 ⟨182, 29, 182, 33⟩) (.cons (.v 3 ⟨182, 35, 182, 40⟩) .nil)) ⟨182, 11, 182, 28⟩ ⟨182, 11, 182, 41⟩) .Eq (.comp (.bin (.bin (.bin (.k (.int 2) ⟨182, 47, 182, 48⟩) .Mult (.idx (.idx (.v 13 ⟨182, 51, 182, 55⟩) (.v 15 ⟨182, 56, 182, 60⟩) ⟨182, 51, 182, 61⟩) (.k (.int 1) ⟨182, 62, 182, 63⟩) ⟨182, 51, 182, 64⟩) ⟨182, 47, 182, 64⟩) .Add (.k (.int 1) ⟨182, 67, 182, 68⟩) ⟨182, 47, 182, 68⟩) .Mult (.k (.int 31250) ⟨182, 72, 182, 77⟩) ⟨182, 46, 182, 77⟩) 15 ⟨182, 82, 182, 86⟩ (.v 14 ⟨182, 90, 182, 95⟩) [13] { kind := .function, names := [(Str.ofString ".0", .local), (Str.ofString "rank", .local), (Str.ofString "ring", .free)], isGenerator := false, isCoroutine := false, more := [] } ⟨182, 45, 182, 96⟩) ⟨182, 11, 182, 96⟩) ⟨182, 4, 182, 96⟩) .nil)))))))))
/-- law: 0 script, 1 drawn, 2 x, 3 start, 4 places, 5 hues, 6 place, 7 light, 8 full, 9 colour, 10 sent, 11 told, 12 k, 13 ring, 14 order, 15 rank -/
noncomputable def fn9 : Fn := ⟨1, 16, body9⟩
noncomputable def FT : Nat → Option Fn
  | 0 => some fn0
  | 1 => some fn1
  | 2 => some fn2
  | 3 => some fn3
  | 4 => some fn4
  | 5 => some fn5
  | 6 => some fn6
  | 7 => some fn7
  | 8 => some fn8
  | 9 => some fn9
  | _ => none
noncomputable def NM : Nat → Nat → Str
  | 0 => nm0
  | 1 => nm1
  | 2 => nm2
  | 3 => nm3
  | 4 => nm4
  | 5 => nm5
  | 6 => nm6
  | 7 => nm7
  | 8 => nm8
  | 9 => nm9
  | _ => fun _ => Str.ofString "?"
noncomputable def stmts : List Stmt := PySem.Challenge.pw_wu0027_01.main.body
noncomputable def defBody (i : Nat) : List Stmt := match stmts[i]? with
  | some (.FunctionDef _ _ b _ _ _ _ _ _ _) => b
  | _ => []
noncomputable def defScope (i : Nat) : Scope := match stmts[i]? with
  | some (.FunctionDef _ _ _ _ _ _ s _ _ _) => s
  | _ => default
noncomputable def defName (i : Nat) : Str := match stmts[i]? with
  | some (.FunctionDef n _ _ _ _ _ _ _ _ _) => n
  | _ => Str.ofString ""
noncomputable def SCi : Nat → Nat
  | 0 => 11
  | 1 => 10
  | 2 => 7
  | 3 => 8
  | 4 => 9
  | 5 => 15
  | 6 => 17
  | 7 => 18
  | 8 => 19
  | 9 => 20
  | _ => 0
noncomputable def SC (f : Nat) : Scope := defScope (SCi f)
theorem tr0 : trB nm0 body0 = defBody 11 := by rfl
theorem dn0 : defName 11 = fName 0 := by rfl
theorem tr1 : trB nm1 body1 = defBody 10 := by rfl
theorem dn1 : defName 10 = fName 1 := by rfl
theorem tr2 : trB nm2 body2 = defBody 7 := by rfl
theorem dn2 : defName 7 = fName 2 := by rfl
theorem tr3 : trB nm3 body3 = defBody 8 := by rfl
theorem dn3 : defName 8 = fName 3 := by rfl
theorem tr4 : trB nm4 body4 = defBody 9 := by rfl
theorem dn4 : defName 9 = fName 4 := by rfl
theorem tr5 : trB nm5 body5 = defBody 15 := by rfl
theorem dn5 : defName 15 = fName 5 := by rfl
theorem tr6 : trB nm6 body6 = defBody 17 := by rfl
theorem dn6 : defName 17 = fName 6 := by rfl
theorem tr7 : trB nm7 body7 = defBody 18 := by rfl
theorem dn7 : defName 18 = fName 7 := by rfl
theorem tr8 : trB nm8 body8 = defBody 19 := by rfl
theorem dn8 : defName 19 = fName 8 := by rfl
theorem tr9 : trB nm9 body9 = defBody 20 := by rfl
theorem dn9 : defName 20 = fName 9 := by rfl
noncomputable def gpos : Nat → Pos
  | 0 => ⟨4, 4, 4, 17⟩
  | 1 => ⟨4, 20, 4, 24⟩
  | 2 => ⟨4, 4, 4, 24⟩
  | 3 => ⟨5, 8, 5, 16⟩
  | 4 => ⟨5, 20, 5, 28⟩
  | 5 => ⟨6, 11, 6, 19⟩
  | 6 => ⟨6, 23, 6, 31⟩
  | 7 => ⟨6, 11, 6, 31⟩
  | 8 => ⟨7, 12, 7, 18⟩
  | 9 => ⟨6, 8, 7, 18⟩
  | 10 => ⟨8, 11, 8, 19⟩
  | 11 => ⟨8, 23, 8, 24⟩
  | 12 => ⟨8, 11, 8, 24⟩
  | 13 => ⟨9, 15, 9, 28⟩
  | 14 => ⟨9, 32, 9, 36⟩
  | 15 => ⟨9, 15, 9, 36⟩
  | 16 => ⟨10, 22, 10, 32⟩
  | 17 => ⟨10, 33, 10, 51⟩
  | 18 => ⟨10, 22, 10, 52⟩
  | 19 => ⟨10, 16, 10, 52⟩
  | 20 => ⟨9, 12, 10, 52⟩
  | 21 => ⟨11, 18, 11, 22⟩
  | 22 => ⟨12, 22, 12, 35⟩
  | 23 => ⟨12, 16, 12, 35⟩
  | 24 => ⟨12, 16, 12, 35⟩
  | 25 => ⟨11, 12, 12, 35⟩
  | 26 => ⟨8, 8, 12, 35⟩
  | 27 => ⟨13, 14, 13, 22⟩
  | 28 => ⟨13, 8, 13, 22⟩
  | 29 => ⟨13, 8, 13, 22⟩
  | 30 => ⟨14, 8, 14, 21⟩
  | 31 => ⟨14, 24, 14, 32⟩
  | 32 => ⟨14, 8, 14, 32⟩
  | 33 => ⟨5, 4, 14, 32⟩
  | _ => ⟨0, 0, 0, 0⟩
noncomputable def gIdx : Nat := 2
end Mine
end

section
set_option maxRecDepth 100000
set_option autoImplicit false
namespace Mine
open PySem PySem.W PyProof.Rows
inductive All2 {α β : Type} (R : α → β → Prop) : List α → List β → Prop where
  | nil : All2 R [] []
  | cons {a b l m} : R a b → All2 R l m → All2 R (a :: l) (b :: m)
theorem All2.length {α β : Type} {R : α → β → Prop} {l : List α} {m : List β} (h : All2 R l m) : l.length = m.length := by
  induction h with
  | nil => rfl
  | cons _ _ ih => simp [ih]
theorem All2.mono {α β : Type} {R R' : α → β → Prop} {l : List α} {m : List β} (h : All2 R l m) (k : ∀ a b, R a b → R' a b) : All2 R' l m := by
  induction h with
  | nil => exact .nil
  | cons h _ ih => exact .cons (k _ _ h) ih
theorem All2.monoMem {α β : Type} {R R' : α → β → Prop} {l : List α} {m : List β} (h : All2 R l m) (k : ∀ a b, b ∈ m → R a b → R' a b) : All2 R' l m := by
  induction h with
  | nil => exact .nil
  | cons h _ ih => exact .cons (k _ _ (.head _) h) (ih fun a b hb => k a b (.tail _ hb))
theorem All2.append {α β : Type} {R : α → β → Prop} {l l' : List α} {m m' : List β} (h : All2 R l m) (h' : All2 R l' m') : All2 R (l ++ l') (m ++ m') := by
  induction h with
  | nil => exact h'
  | cons h _ ih => exact .cons h ih
theorem All2.get {α β : Type} {R : α → β → Prop} {l : List α} {m : List β} (h : All2 R l m) : ∀ {i : Nat} {b : β}, m[i]? = some b → ∃ a, l[i]? = some a ∧ R a b := by
  induction h with
  | nil => intro i b e; simp at e
  | cons h _ ih =>
    intro i b e
    cases i with
    | zero => simp at e; subst e; exact ⟨_, by simp, h⟩
    | succ i => simp at e; obtain ⟨a, ha, hr⟩ := ih e; exact ⟨a, by simpa using ha, hr⟩
theorem All2.getN {α β : Type} {R : α → β → Prop} {l : List α} {m : List β} (h : All2 R l m) {i : Nat} (e : m[i]? = none) : l[i]? = none := by
  have := h.length
  simp at e ⊢; omega
theorem All2.take {α β : Type} {R : α → β → Prop} {l : List α} {m : List β} (h : All2 R l m) : ∀ n, All2 R (l.take n) (m.take n) := by
  induction h with
  | nil => intro n; simp; exact .nil
  | cons h _ ih => intro n; cases n with | zero => exact .nil | succ n => exact .cons h (ih n)
theorem All2.drop {α β : Type} {R : α → β → Prop} {l : List α} {m : List β} (h : All2 R l m) : ∀ n, All2 R (l.drop n) (m.drop n) := by
  induction h with
  | nil => intro n; simp; exact .nil
  | cons h t ih => intro n; cases n with | zero => exact .cons h t | succ n => exact ih n
theorem All2.rep {α β : Type} {R : α → β → Prop} {l : List α} {m : List β} (h : All2 R l m) : ∀ n, All2 R (repL l n) (repL m n)
  | 0 => .nil
  | n + 1 => h.append (h.rep n)
noncomputable def RelP (v : Value) : P → Prop
  | .i n => ∃ t, v = .int n t
  | .f w => ∃ t, v = .float w t
noncomputable def RelV (h : Heap) (ad : List Addr) (v : Value) : V → Prop
  | .none => v = .none
  | .bool b => v = .bool b
  | .int n => ∃ t, v = .int n t
  | .flt w => ∃ t, v = .float w t
  | .str s => ∃ t, v = .str s t
  | .tup l => ∃ a vs, v = .ref a ∧ a ∉ ad ∧ IsTup h a (List.toArray vs) ∧ All2 RelP vs l
  | .lst k => ∃ a, v = .ref a ∧ ad[k]? = some a
  | .frz l => ∃ a vs, v = .ref a ∧ a ∉ ad ∧ h.IsList a (List.toArray vs) ∧ IntsAre vs l
noncomputable abbrev RelVs (h : Heap) (ad : List Addr) : List Value → List V → Prop := All2 (RelV h ad)
structure Ext (L : List Addr) (h h' : Heap) (ad ad' : List Addr) : Prop where
  keep : ∀ b o, b ∉ ad → b ∉ L → h.get? b = some o → h'.get? b = some o
  nsL : ∀ l, l ∈ L → ∀ m, h.Ns l m → h'.Ns l m
  pre : ∃ ex, ad' = ad ++ ex
  fresh : ∀ a, a ∈ ad' → a ∉ ad → h.get? a = none
  live : ∀ b o, h.get? b = some o → ∃ o', h'.get? b = some o'
theorem Ext.refl (L : List Addr) (h : Heap) (ad : List Addr) : Ext L h h ad ad := ⟨fun _ _ _ _ e => e, fun _ _ _ e => e, ⟨[], by simp⟩, fun a h1 h2 => absurd h1 h2, fun _ o e => ⟨o, e⟩⟩
theorem Ext.off {L : List Addr} {h h' : Heap} {ad ad' : List Addr} (x : Ext L h h' ad ad') {b : Addr} {o : Obj} (hb : b ∉ ad) (e : h.get? b = some o) : b ∉ ad' := fun hm => by
  rw [x.fresh b hm hb] at e; cases e
theorem Ext.trans {L : List Addr} {h h₁ h₂ : Heap} {ad ad₁ ad₂ : List Addr} (x : Ext L h h₁ ad ad₁) (y : Ext L h₁ h₂ ad₁ ad₂) : Ext L h h₂ ad ad₂ := by
  refine ⟨fun b o hb hL e => y.keep b o (x.off hb e) hL (x.keep b o hb hL e), fun l hl m e => y.nsL l hl m (x.nsL l hl m e), ?_, fun a ha hn => ?_, fun b o e => ?_⟩
  · obtain ⟨e1, r1⟩ := x.pre
    obtain ⟨e2, r2⟩ := y.pre
    exact ⟨e1 ++ e2, by rw [r2, r1, List.append_assoc]⟩
  · by_cases h1 : a ∈ ad₁
    · exact x.fresh a h1 hn
    · have := y.fresh a ha h1
      cases e : h.get? a with
      | none => rfl
      | some o => obtain ⟨o', e'⟩ := x.live a o e; rw [e'] at this; cases this
  · obtain ⟨o1, e1⟩ := x.live b o e
    exact y.live b o1 e1
theorem Ext.idx {L : List Addr} {h h' : Heap} {ad ad' : List Addr} (x : Ext L h h' ad ad') {k : Nat} {a : Addr} (e : ad[k]? = some a) : ad'[k]? = some a := by
  obtain ⟨ex, r⟩ := x.pre
  rw [r, List.getElem?_append_left (List.getElem?_eq_some_iff.mp e).1]; exact e
theorem Ext.mem {L : List Addr} {h h' : Heap} {ad ad' : List Addr} (x : Ext L h h' ad ad') {a : Addr} (e : a ∈ ad) : a ∈ ad' := by
  obtain ⟨ex, r⟩ := x.pre
  rw [r]; exact List.mem_append_left _ e
theorem Ext.of {L : List Addr} {h h' : Heap} {ad : List Addr} (k : ∀ b o, h.get? b = some o → h'.get? b = some o) : Ext L h h' ad ad :=
  ⟨fun b o _ _ e => k b o e, fun _ _ m e => e.keeps k, ⟨[], by simp⟩, fun a h1 h2 => absurd h1 h2, fun b o e => ⟨o, k b o e⟩⟩
/-- the frame's own names lie at L -/
noncomputable def IsNs (h : Heap) (L : List Addr) : Prop := ∀ l, l ∈ L → ∃ m, h.Ns l m
theorem IsNs.mono {L : List Addr} {h h' : Heap} {ad ad' : List Addr} (n : IsNs h L) (x : Ext L h h' ad ad') : IsNs h' L := fun l hl => let ⟨m, e⟩ := n l hl; ⟨m, x.nsL l hl m e⟩
theorem IsNs.ne_seq {h : Heap} {L : List Addr} {a : Addr} {o : Obj} {xs : Array Value} {n : Nat} (x : IsNs h L) (e : h.get? a = some o) (d : o.data = .seq xs n) : a ∉ L := by
  intro hm
  obtain ⟨m, o', es, ep, e', d', _⟩ := x a hm
  rw [e] at e'; cases e'
  rw [d] at d'; cases d'
theorem isTup_get {h h' : Heap} {a : Addr} {vs : Array Value} (x : IsTup h a vs) (k : ∀ o, h.get? a = some o → h'.get? a = some o) : IsTup h' a vs :=
  let ⟨o, e, r⟩ := x; ⟨o, k o e, r⟩
theorem RelV.mono {L : List Addr} {h h' : Heap} {ad ad' : List Addr} {u : Value} {v : V} (r : RelV h ad u v) (n : IsNs h L) (x : Ext L h h' ad ad') : RelV h' ad' u v := by
  cases v with
  | tup l =>
    obtain ⟨a, vs, e, ha, ht, hr⟩ := r
    obtain ⟨o, ho, _, _, hd⟩ := id ht
    exact ⟨a, vs, e, x.off ha ho, isTup_get ht fun o e => x.keep _ o ha (n.ne_seq ho hd) e, hr⟩
  | lst k => obtain ⟨a, e, ha⟩ := r; exact ⟨a, e, x.idx ha⟩
  | frz l =>
    obtain ⟨a, vs, e, ha, ht, hr⟩ := r
    obtain ⟨o, ho, _, _, hd⟩ := id ht
    exact ⟨a, vs, e, x.off ha ho, ht.at fun o e => x.keep _ o ha (n.ne_seq ho hd) e, hr⟩
  | _ => exact r
theorem RelV.keeps {h h' : Heap} {ad ad' : List Addr} {u : Value} {v : V} (r : RelV h ad u v) (k : ∀ b o, b ∉ ad → h.get? b = some o → h'.get? b = some o) (p : ∃ ex, ad' = ad ++ ex) (f : ∀ a, a ∈ ad' → a ∉ ad → h.get? a = none) : RelV h' ad' u v := by
  have off : ∀ {b o}, b ∉ ad → h.get? b = some o → b ∉ ad' := fun hb e hm => by rw [f _ hm hb] at e; cases e
  cases v with
  | tup l =>
    obtain ⟨a, vs, e, ha, ht, hr⟩ := r
    obtain ⟨o, ho, _, _, hd⟩ := id ht
    exact ⟨a, vs, e, off ha ho, isTup_get ht fun o e => k _ o ha e, hr⟩
  | lst i =>
    obtain ⟨a, e, ha⟩ := r
    obtain ⟨ex, q⟩ := p
    exact ⟨a, e, by rw [q, List.getElem?_append_left (List.getElem?_eq_some_iff.mp ha).1]; exact ha⟩
  | frz l =>
    obtain ⟨a, vs, e, ha, ht, hr⟩ := r
    obtain ⟨o, ho, _, _, hd⟩ := id ht
    exact ⟨a, vs, e, off ha ho, ht.at fun o e => k _ o ha e, hr⟩
  | _ => exact r
theorem RelVs.mono {L : List Addr} {h h' : Heap} {ad ad' : List Addr} {us : List Value} {vs : List V} (r : RelVs h ad us vs) (n : IsNs h L) (x : Ext L h h' ad ad') : RelVs h' ad' us vs :=
  All2.mono r fun _ _ q => q.mono n x
structure Led (h : Heap) (ad : List Addr) (σ : St) : Prop where
  len : ad.length = σ.length
  nd : ad.Nodup
  lists : ∀ (k : Nat) (a : Addr) (x : List V), ad[k]? = some a → σ[k]? = some x → ∃ vs, PlainL h a (List.toArray vs) ∧ RelVs h ad vs x
theorem Led.at {h : Heap} {ad : List Addr} {σ : St} (l : Led h ad σ) {k : Nat} {x : List V} (e : σ[k]? = some x) : ∃ a vs, ad[k]? = some a ∧ PlainL h a (List.toArray vs) ∧ RelVs h ad vs x := by
  have hk := (List.getElem?_eq_some_iff.mp e).1
  rw [← l.len] at hk
  obtain ⟨vs, r⟩ := l.lists k _ x (List.getElem?_eq_getElem hk) e
  exact ⟨_, vs, List.getElem?_eq_getElem hk, r⟩
theorem Led.live {h : Heap} {ad : List Addr} {σ : St} (l : Led h ad σ) {a : Addr} (m : a ∈ ad) : ∃ o, h.get? a = some o := by
  obtain ⟨k, hk, e⟩ := List.mem_iff_getElem.mp m
  have hk' : k < σ.length := by rw [← l.len]; exact hk
  obtain ⟨vs, ⟨o, _, ho, _⟩, _⟩ := l.lists k a _ (by rw [List.getElem?_eq_getElem hk, e]) (List.getElem?_eq_getElem hk')
  exact ⟨o, ho⟩
/-- nothing of the ledger's turned: the ledger stands -/
theorem Led.keeps {h h' : Heap} {ad : List Addr} {σ : St} (l : Led h ad σ) (k : ∀ b o, h.get? b = some o → h'.get? b = some o) : Led h' ad σ := by
  refine ⟨l.len, l.nd, fun i a x ha hx => ?_⟩
  obtain ⟨vs, hl, hr⟩ := l.lists i a x ha hx
  exact ⟨vs, hl.keeps k, All2.mono hr fun _ _ q => q.keeps (fun b o _ e => k b o e) ⟨[], by simp⟩ fun a h1 h2 => absurd h1 h2⟩
/-- one list more -/
theorem Led.push {L : List Addr} {h h' : Heap} {ad : List Addr} {σ : St} (l : Led h ad σ) (k : ∀ b o, h.get? b = some o → h'.get? b = some o) {a : Addr} {vs : List Value} {x : List V} (hf : h.get? a = none) (hl : PlainL h' a (List.toArray vs))
    (hr : RelVs h ad vs x) : Led h' (ad ++ [a]) (σ ++ [x]) ∧ Ext L h h' ad (ad ++ [a]) := by
  have X : Ext L h h' ad (ad ++ [a]) := ⟨fun b o _ _ e => k b o e, fun _ _ m e => e.keeps k, ⟨[a], rfl⟩, fun b hb hn => by
    rcases List.mem_append.mp hb with q | q
    · exact absurd q hn
    · rw [List.mem_singleton.mp q]; exact hf, fun b o e => ⟨o, k b o e⟩⟩
  have up : ∀ {us : List Value} {ws : List V}, RelVs h ad us ws → RelVs h' (ad ++ [a]) us ws := fun q => All2.mono q fun _ _ z => z.keeps (fun b o _ e => k b o e) X.pre X.fresh
  refine ⟨⟨by simp [l.len], ?_, fun i b y hb hy => ?_⟩, X⟩
  · refine List.nodup_append.mpr ⟨l.nd, by simp, fun b hb c hc => ?_⟩
    rw [List.mem_singleton.mp hc]
    rintro rfl
    obtain ⟨o, ho⟩ := l.live hb
    rw [hf] at ho; cases ho
  · by_cases hi : i < ad.length
    · rw [List.getElem?_append_left hi] at hb
      rw [List.getElem?_append_left (by rw [← l.len]; exact hi)] at hy
      obtain ⟨ws, w1, w2⟩ := l.lists i b y hb hy
      exact ⟨ws, w1.keeps k, up w2⟩
    · have hll := l.len
      rw [List.getElem?_append_right (by omega)] at hb hy
      rw [← l.len] at hy
      have hz : i - ad.length = 0 := by
        have := (List.getElem?_eq_some_iff.mp hb).1
        simp at this; omega
      rw [hz] at hb hy
      simp at hb hy
      subst hb hy
      exact ⟨vs, hl, up hr⟩
/-- one list turned -/
theorem Led.set {L : List Addr} {h h' : Heap} {ad : List Addr} {σ : St} (l : Led h ad σ) {k : Nat} {a : Addr} (ha : ad[k]? = some a) (hs : Heap.SameBut a h h') {vs : List Value} {x : List V} (hl : PlainL h' a (List.toArray vs))
    (hr : RelVs h ad vs x) (hL : ∀ l, l ∈ L → l ∉ ad) : Led h' ad (σ.set k x) ∧ Ext L h h' ad ad := by
  have hm : a ∈ ad := List.mem_of_getElem? ha
  have kp : ∀ b o, b ∉ ad → h.get? b = some o → h'.get? b = some o := fun b o hb e => (hs.2 b (fun q => hb (q ▸ hm))).trans e
  have X : Ext L h h' ad ad := ⟨fun b o hb _ e => kp b o hb e, fun l hl m e => e.at' fun o q => kp l o (hL l hl) q, ⟨[], by simp⟩, fun a h1 h2 => absurd h1 h2, fun b o e => by
    by_cases q : b = a
    · subst q; obtain ⟨o', _, ho', _⟩ := hl; exact ⟨o', ho'⟩
    · exact ⟨o, (hs.2 b q).trans e⟩⟩
  have up : ∀ {us : List Value} {ws : List V}, RelVs h ad us ws → RelVs h' ad us ws := fun q => All2.mono q fun _ _ z => z.keeps kp X.pre X.fresh
  refine ⟨⟨by simp [l.len], l.nd, fun i b y hb hy => ?_⟩, X⟩
  by_cases hi : k = i
  · subst hi
    rw [ha] at hb; cases hb
    rw [List.getElem?_set_self (by rw [← l.len]; exact (List.getElem?_eq_some_iff.mp ha).1)] at hy
    cases hy
    exact ⟨vs, hl, up hr⟩
  · rw [List.getElem?_set_ne hi] at hy
    obtain ⟨ws, w1, w2⟩ := l.lists i b y hb hy
    have hne : b ≠ a := by
      rintro rfl
      have h1 := (List.getElem?_eq_some_iff.mp ha)
      have h2 := (List.getElem?_eq_some_iff.mp hb)
      obtain ⟨p1, q1⟩ := h1
      obtain ⟨p2, q2⟩ := h2
      exact hi ((List.getElem_inj l.nd).mp (q1.trans q2.symm))
    exact ⟨ws, w1.extBut hs.extBut hne, up w2⟩
theorem RelV.ok {h : Heap} {ad : List Addr} {n : Nat} {u : Value} {v : V} (r : RelV h ad u v) (ho : okV n (some v) = true) : RelV h (ad.take n) u v := by
  cases v with
  | tup l =>
    obtain ⟨a, vs, e, ha, q⟩ := r
    exact ⟨a, vs, e, fun h => ha (List.mem_of_mem_take h), q⟩
  | frz l =>
    obtain ⟨a, vs, e, ha, q⟩ := r
    exact ⟨a, vs, e, fun h => ha (List.mem_of_mem_take h), q⟩
  | lst k =>
    obtain ⟨a, e, q⟩ := r
    have hk : k < n := by simpa [okV] using ho
    exact ⟨a, e, by rw [List.getElem?_take_of_lt hk]; exact q⟩
  | _ => exact r
theorem RelVs.ok {h : Heap} {ad : List Addr} {n : Nat} {us : List Value} {vs : List V} (r : RelVs h ad us vs) (ho : vs.all (fun v => okV n (some v)) = true) : RelVs h (ad.take n) us vs :=
  All2.monoMem r fun _ b hb q => q.ok (List.all_eq_true.mp ho b hb)
theorem Led.take {h : Heap} {ad : List Addr} {σ : St} (l : Led h ad σ) {n : Nat} (ho : (σ.take n).all (fun l => l.all fun v => okV n (some v)) = true) : Led h (ad.take n) (σ.take n) := by
  refine ⟨by simp [l.len], l.nd.sublist (List.take_sublist ..), fun i a x ha hx => ?_⟩
  have hi : i < n := by
    have := (List.getElem?_eq_some_iff.mp ha).1
    simp at this; omega
  have hx' := hx
  rw [List.getElem?_take_of_lt hi] at ha hx
  obtain ⟨ws, w1, w2⟩ := l.lists i a x ha hx
  exact ⟨ws, w1, w2.ok (List.all_eq_true.mp ho x (List.mem_of_getElem? hx'))⟩
end Mine
end

section
set_option maxRecDepth 100000
set_option autoImplicit false
namespace Mine
open PySem PySem.W PyProof.Rows
/-- the frame at hand: its env, its names -/
structure FC where
  env : Env
  nm : Nat → Str
  nv : Nat
  out : List Addr
/-- where the names of the frames lie, this one's first -/
noncomputable def FC.fs (C : FC) : List Addr := C.env.locals :: C.out
noncomputable def biVal : Bi → Value
  | .len => .builtin "len"
  | .sum => .builtin "sum"
  | .sorted => .builtin "sorted"
  | .min => .builtin "min"
  | .max => .builtin "max"
  | .int => .type "int"
/-- a def of the text as it lies -/
structure FnAt (h₀ : Heap) (mg : Str → Option Value) (f : Nat) (d : Fn) (a : Addr) : Prop where
  at_ : mg (fName f) = some (.ref a)
  made : ∃ (o : Obj) (fd : FuncData) (body : List Stmt), h₀.get? a = some o ∧ o.data = .func fd ∧ h₀.CodeRec fd.code fd.qualname ∧ fd.body = .stmts body ∧ body = trB (NM f) d.body ∧
    fd.scope.isCoroutine = false ∧ fd.scope.isGenerator = false ∧ fd.scope.kind = .function ∧ fd.scope = SC f ∧ fd.globals = mainGlobals ∧ fd.builtins = builtinsNs ∧ fd.closure = [] ∧
    (∀ us : List Value, us.length = d.args → bindArgs fd ⟨us, []⟩ = pure (((List.range d.args).map (NM f)).zip us))
/-- the generator's def as it lies -/
structure GenFn (h₀ : Heap) (mg : Str → Option Value) : Prop where
  made : ∃ (a : Addr) (o : Obj) (fd : FuncData), mg giName = some (.ref a) ∧ h₀.get? a = some o ∧ o.data = .func fd ∧ h₀.CodeRec fd.code fd.qualname ∧ fd.body = .stmts (defBody gIdx) ∧
    fd.scope = defScope gIdx ∧ fd.globals = mainGlobals ∧ fd.builtins = builtinsNs ∧ fd.closure = [] ∧ ∀ u, bindArgs fd ⟨[u], []⟩ = pure [(Str.ofString "grouping", u)]
structure Wld (h₀ : Heap) (mg mb : Str → Option Value) : Prop where
  g : h₀.Ns mainGlobals mg
  b : h₀.Ns builtinsNs mb
  nolimit : h₀.NoLimit
  gfl : ∀ i, ∃ t, mg (gName i) = some (.float (gBits i) t)
  bi : ∀ f, mg (biName f) = none ∧ mb (biName f) = some (biVal f)
  rng : mg (Str.ofString "range") = none ∧ mb (Str.ofString "range") = some (.type "range")
  fn : ∀ f d, FT f = some d → ∃ a, FnAt h₀ mg f d a
  cmx : ∃ t, mg (Str.ofString "CHAR_MAX") = some (.int 127 t)
  vex : mg (Str.ofString "ValueError") = none ∧ mb (Str.ofString "ValueError") = some (.type "ValueError")
  gen : GenFn h₀ mg
structure Base (h₀ h : Heap) (ad : List Addr) : Prop where
  keep : ∀ b o, h₀.get? b = some o → h.get? b = some o
  off : ∀ b o, h₀.get? b = some o → b ∉ ad
theorem Base.fresh {h₀ h : Heap} {ad : List Addr} (B : Base h₀ h ad) {a : Addr} (e : h.get? a = none) : h₀.get? a = none := by
  cases q : h₀.get? a with
  | none => rfl
  | some o => rw [B.keep a o q] at e; cases e
theorem Base.mono {L : List Addr} {h₀ h h' : Heap} {ad ad' : List Addr} (B : Base h₀ h ad) (hL : ∀ l, l ∈ L → h₀.get? l = none) (x : Ext L h h' ad ad') : Base h₀ h' ad' :=
  ⟨fun b o e => x.keep b o (B.off b o e) (fun q => by rw [hL b q] at e; cases e) (B.keep b o e), fun b o e => x.off (B.off b o e) (B.keep b o e)⟩
noncomputable def GX (g g' : Array GenState) : Prop := (∀ (i : Nat) (x : GenState), g[i]? = some x → g'[i]? = some x) ∧ (AllBare g → AllBare g')
theorem GX.refl (g : Array GenState) : GX g g := ⟨fun _ _ e => e, id⟩
theorem GX.trans {a b c : Array GenState} (x : GX a b) (y : GX b c) : GX a c := ⟨fun i z e => y.1 i z (x.1 i z e), fun h => y.2 (x.2 h)⟩
structure Nx (L : List Addr) (s s' : Shared) (ad ad' : List Addr) : Prop where
  ext : Ext L s.heap s'.heap ad ad'
  gx : GX s.gens s'.gens
  dr : s'.drawn = s.drawn
  os : s'.os = s.os
theorem Nx.refl (L : List Addr) (s : Shared) (ad : List Addr) : Nx L s s ad ad := ⟨.refl _ _ _, .refl _, rfl, rfl⟩
theorem Nx.trans {L : List Addr} {a b c : Shared} {ad₁ ad₂ ad₃ : List Addr} (x : Nx L a b ad₁ ad₂) (y : Nx L b c ad₂ ad₃) : Nx L a c ad₁ ad₃ :=
  ⟨x.ext.trans y.ext, x.gx.trans y.gx, y.dr.trans x.dr, y.os.trans x.os⟩
theorem Nx.tk {L : List Addr} {s : Shared} {ad : List Addr} {t : Nat} : Nx L s { s with toks := t } ad ad := ⟨.refl _ _ _, .refl _, rfl, rfl⟩
theorem Nx.grow {L : List Addr} {s : Shared} {ad : List Addr} {t : Nat} {h' : Heap} (k : ∀ b o, s.heap.get? b = some o → h'.get? b = some o) : Nx L s { s with heap := h', toks := t } ad ad := ⟨.of k, .refl _, rfl, rfl⟩
/-- what is so of a frame at each of its states -/
structure Act (C : FC) (h : Heap) (ad : List Addr) (ρ : Rho) : Prop where
  len : ρ.length = C.nv
  ns : ∃ m, h.Ns C.env.locals m ∧ ∀ i v, get ρ i = some v → C.env.kindOf (C.nm i) = some .local → ∃ u, m (C.nm i) = some u ∧ RelV h ad u v
  nL : ∀ l, l ∈ C.fs → l ∉ ad
  nsO : ∀ l, l ∈ C.out → ∃ m, h.Ns l m
  kinds : ∀ i v, get ρ i = some v → C.env.kindOf (C.nm i) = some .local ∨ ((C.env.kindOf (C.nm i) = some .cell ∨ C.env.kindOf (C.nm i) = some .free) ∧ (C.env.cells.lookup (C.nm i)).isSome)
  cel : ∀ i c, i < C.nv → C.env.cells.lookup (C.nm i) = some c → c ∉ ad ∧ ∃ v, h.IsCell c v ∧
    ((C.env.kindOf (C.nm i) = some .cell ∨ C.env.kindOf (C.nm i) = some .free) → ∀ x, get ρ i = some x → ∃ u, v = some u ∧ RelV h ad u x)
/-- what is so of a frame for good -/
structure FCOk (C : FC) : Prop where
  kind : C.env.scope.kind = .function
  glob : C.env.globals = mainGlobals
  bi : C.env.builtins = builtinsNs
  inj : ∀ i j, i < C.nv → j < C.nv → C.nm i = C.nm j → i = j
  dbg : ∀ i, i < C.nv → (C.nm i == Str.ofString "__debug__") = false
  cd : ∀ i, i < C.nv → (C.nm i == Str.ofString "__classdict__") = false
  cinj : ∀ i j c, i < C.nv → j < C.nv → C.env.cells.lookup (C.nm i) = some c → C.env.cells.lookup (C.nm j) = some c → i = j
  nd : C.env.locals ∉ C.out
  cc : ∀ x, C.env.kindOf x = some .cell → (C.env.cells.lookup x).isSome
theorem get_lt {ρ : Rho} {i : Nat} {v : V} (h : get ρ i = some v) : i < ρ.length := by
  unfold get at h
  cases e : ρ[i]? with
  | none => rw [e] at h; cases h
  | some x => exact (List.getElem?_eq_some_iff.mp e).1
theorem get_put_self {ρ : Rho} {i : Nat} {v : V} (h : i < ρ.length) : get (put ρ i v) i = some v := by
  simp [get, put, h]
theorem get_put_ne {ρ : Rho} {i j : Nat} {v : V} (h : i ≠ j) : get (put ρ i v) j = get ρ j := by
  simp [get, put, List.getElem?_set, h]
theorem len_put {ρ : Rho} {i : Nat} {v : V} : (put ρ i v).length = ρ.length := by simp [put]
structure At (h₀ : Heap) (C : FC) (h : Heap) (ad : List Addr) (σ : St) (ρ : Rho) : Prop where
  base : Base h₀ h ad
  led : Led h ad σ
  act : Act C h ad ρ
  l0 : ∀ l, l ∈ C.fs → h₀.get? l = none
  c0 : ∀ i c, i < C.nv → C.env.cells.lookup (C.nm i) = some c → h₀.get? c = none
theorem isCell_get {h h' : Heap} {a : Addr} {v : Option Value} (x : h.IsCell a v) (k : ∀ o, h.get? a = some o → h'.get? a = some o) : h'.IsCell a v :=
  let ⟨o, e, r⟩ := x; ⟨o, k o e, r⟩
theorem Act.isNs {C : FC} {h : Heap} {ad : List Addr} {ρ : Rho} (a : Act C h ad ρ) : IsNs h C.fs := fun l hl => by
  rcases List.mem_cons.mp hl with rfl | hl
  · obtain ⟨m, e, _⟩ := a.ns; exact ⟨m, e⟩
  · exact a.nsO l hl
theorem Act.mono {C : FC} {h h' : Heap} {ad ad' : List Addr} {ρ : Rho} (a : Act C h ad ρ) (x : Ext C.fs h h' ad ad') : Act C h' ad' ρ := by
  obtain ⟨m, hn, hv⟩ := a.ns
  obtain ⟨oL, es, ep, hL, hLd, _⟩ := id hn
  refine ⟨a.len, ⟨m, x.nsL _ (.head _) m hn, fun i v hi hk => ?_⟩, fun l hl => ?_, fun l hl => ?_, a.kinds, fun i c hi hc => ?_⟩
  · obtain ⟨u, hu, hr⟩ := hv i v hi hk
    exact ⟨u, hu, hr.mono a.isNs x⟩
  · obtain ⟨m', o', _, _, ho', _⟩ := a.isNs l hl
    exact x.off (a.nL l hl) ho'
  · obtain ⟨m', e⟩ := a.nsO l hl
    exact ⟨m', x.nsL l (.tail _ hl) m' e⟩
  · obtain ⟨hca, v, ⟨o, ho, hd⟩, hv⟩ := a.cel i c hi hc
    have hne : c ∉ C.fs := fun hm => by
      obtain ⟨m', o', _, _, ho', hd', _⟩ := a.isNs c hm
      rw [ho] at ho'; cases ho'
      rw [hd'] at hd; cases hd
    exact ⟨x.off hca ho, v, ⟨o, x.keep _ o hca hne ho, hd⟩, fun hk y hy => let ⟨u, hu, hr⟩ := hv hk y hy; ⟨u, hu, hr.mono a.isNs x⟩⟩
theorem At.mono {h₀ : Heap} {C : FC} {h h' : Heap} {ad ad' : List Addr} {σ σ' : St} {ρ : Rho} (a : At h₀ C h ad σ ρ) (x : Ext C.fs h h' ad ad') (l : Led h' ad' σ') : At h₀ C h' ad' σ' ρ :=
  ⟨a.base.mono a.l0 x, l, a.act.mono x, a.l0, a.c0⟩
structure AOk (n : Nat) (A : Around) : Prop where
  handled : A.handled = none
  depth : A.depth + n < recursionLimit
  units : A.units + 4 * n + 100 < cLine
theorem AOk.le {n m : Nat} {A : Around} (a : AOk n A) (h : m ≤ n) : AOk m A := ⟨a.handled, by have := a.depth; omega, by have := a.units; omega⟩
theorem AOk.room {n : Nat} {A : Around} (a : AOk n A) : A.depth < recursionLimit := by have := a.depth; omega
theorem AOk.deeper {n : Nat} {A : Around} (a : AOk (n + 1) A) (env : Env) : AOk n (A.deeper env) := ⟨a.handled, by have := a.depth; show A.depth + 1 + n < _; omega, by have := a.units; show A.units + 3 + 4 * n + 100 < _; omega⟩
noncomputable def AOk.None : Value → Shared → Prop := fun _ _ => False
section
variable (prog : Program) (w : World) (h₀ : Heap)
noncomputable def EvT (A : Around) (C : FC) (e : Expr) (ρ : Rho) (σ : St) (v : V) (σ' : St) : Prop :=
  ∀ (s : Shared) (ad : List Addr) (Q : Value → Shared → Prop), At h₀ C s.heap ad σ ρ →
    (∀ u s' ad', Nx C.fs s s' ad ad' → Led s'.heap ad' σ' → RelV s'.heap ad' u v → Q u s') →
    wpAny (model prog w) A (eval e C.env) Q (fun _ _ => False) s
noncomputable def LvT (A : Around) (C : FC) (es : List Expr) (ρ : Rho) (σ : St) (vs : List V) (σ' : St) : Prop :=
  ∀ (s : Shared) (ad : List Addr) (p : Pos) (Q : List Value → Shared → Prop), At h₀ C s.heap ad σ ρ →
    (∀ us s' ad', Nx C.fs s s' ad ad' → Led s'.heap ad' σ' → RelVs s'.heap ad' us vs → Q us s') →
    wpAny (model prog w) A (spliced (backTo p (starEach es C.env))) Q (fun _ _ => False) s
noncomputable def TvT (A : Around) (C : FC) (e : Expr) (ρ : Rho) (σ : St) (b : Bool) (σ' : St) : Prop :=
  ∀ (s : Shared) (ad : List Addr) (Q : Bool → Shared → Prop), At h₀ C s.heap ad σ ρ →
    (∀ s' ad', Nx C.fs s s' ad ad' → Led s'.heap ad' σ' → Q b s') →
    wpAny (model prog w) A (isTrue e C.env (eval e C.env)) Q (fun _ _ => False) s
end
section
variable {prog : Program} {w : World} {h₀ : Heap} {mg mb : Str → Option Value} {A : Around} {C : FC} {s : Shared} {ad : List Addr} {σ : St} {ρ : Rho}
theorem ld_local {n : Nat} {p : Pos} {v : V} {Q : Value → Shared → Prop} {E : Value → Shared → Prop} (ok : FCOk C) (a : Act C s.heap ad ρ) (e : get ρ n = some v) (h : ∀ u, RelV s.heap ad u v → Q u s) :
    wpAny (model prog w) A (eval (.Name (C.nm n) p) C.env) Q E s := by
  have hn : n < C.nv := a.len ▸ get_lt e
  rcases a.kinds n v e with k | ⟨k, c⟩
  · obtain ⟨m, hm, hv⟩ := a.ns
    obtain ⟨u, hu, hr⟩ := hv n v e k
    exact wpAny_Name (wpAny_loadName_local ok.kind k hm hu (h u hr)) (ok.dbg n hn)
  · obtain ⟨c, hc⟩ := Option.isSome_iff_exists.mp c
    obtain ⟨_, x, hx, hv⟩ := a.cel n c hn hc
    obtain ⟨u, rfl, hr⟩ := hv k v e
    rcases k with k | k
    · exact wpAny_Name (wpAny_loadName_cell ok.kind k hc hx (h u hr)) (ok.dbg n hn)
    · exact wpAny_Name (wpAny_loadName_free ok.kind k hc hx (h u hr) (ok.cd n hn)) (ok.dbg n hn)
theorem ld_glob {x : Str} {p : Pos} {u : Value} {Q : Value → Shared → Prop} {E : Value → Shared → Prop} (W : Wld h₀ mg mb) (B : Base h₀ s.heap ad) (ok : FCOk C) (k : C.env.kindOf x = some .globalImplicit) (hd : (x == Str.ofString "__debug__") = false)
    (e : mg x = some u) (h : Q u s) : wpAny (model prog w) A (eval (.Name x p) C.env) Q E s :=
  Calls.Name_function_global ok.kind k (Calls.loadGlobal_global (by rw [ok.glob]; exact W.g.keeps B.keep) e h) hd
theorem ld_boot {x : Str} {p : Pos} {u : Value} {Q : Value → Shared → Prop} {E : Value → Shared → Prop} (W : Wld h₀ mg mb) (B : Base h₀ s.heap ad) (ok : FCOk C) (k : C.env.kindOf x = some .globalImplicit) (hd : (x == Str.ofString "__debug__") = false)
    (e : mg x = none) (e' : mb x = some u) (h : Q u s) : wpAny (model prog w) A (eval (.Name x p) C.env) Q E s :=
  Calls.Name_function_global ok.kind k (Calls.loadGlobal_builtin (by rw [ok.glob]; exact W.g.keeps B.keep) e (by rw [ok.bi]; exact W.b.keeps B.keep) e' h) hd
theorem gName_dbg (i : Nat) : (gName i == Str.ofString "__debug__") = false := by
  match i with
  | 0 => decide
  | 1 => decide
  | n + 2 => show (Str.ofString "TWO_THIRD" == _) = false; decide
theorem biName_dbg (f : Bi) : (biName f == Str.ofString "__debug__") = false := by cases f <;> decide
theorem ev_k {c : Const} {k : Nat} {p : Pos} {v : V} (e : constV c = some v) : EvT prog w h₀ A C (.Constant c k p) ρ σ v σ := by
  intro s ad Q a h
  show wpAny _ A (constValue C.env c) Q _ s
  cases c <;> first | (cases e) | skip
  · exact wpAny_pure (h _ _ _ (.refl _ _ _) a.led rfl)
  · exact wpAny_pure (h _ _ _ (.refl _ _ _) a.led rfl)
  · exact fun _ _ _ => h _ _ _ .tk a.led ⟨_, rfl⟩
  · exact fun _ _ _ => h _ _ _ .tk a.led ⟨_, rfl⟩
  · exact fun _ _ _ => h _ _ _ .tk a.led ⟨_, rfl⟩
theorem ev_v {i : Nat} {p : Pos} {v : V} (ok : FCOk C) (e : get ρ i = some v) : EvT prog w h₀ A C (.Name (C.nm i) p) ρ σ v σ := by
  intro s ad Q a h
  exact ld_local ok a.act e fun u hr => h u s ad (.refl _ _ _) a.led hr
theorem ev_g {i : Nat} {p : Pos} (W : Wld h₀ mg mb) (ok : FCOk C) (k : C.env.kindOf (gName i) = some .globalImplicit) : EvT prog w h₀ A C (.Name (gName i) p) ρ σ (.flt (gBits i)) σ := by
  intro s ad Q a h
  obtain ⟨t, e⟩ := W.gfl i
  exact ld_glob W a.base ok k (gName_dbg i) e (h _ s ad (.refl _ _ _) a.led ⟨t, rfl⟩)
/-- two expressions, one behind the other -/
theorem ev_two {e₁ e₂ : Expr} {v₁ v₂ : V} {σ₁ σ₂ : St} {Q : Value → Shared → Prop} {f : Value → Value → Sem Value} (h1 : EvT prog w h₀ A C e₁ ρ σ v₁ σ₁) (h2 : EvT prog w h₀ A C e₂ ρ σ₁ v₂ σ₂) (a : At h₀ C s.heap ad σ ρ)
    (h : ∀ u₁ u₂ s' ad', Nx C.fs s s' ad ad' → At h₀ C s'.heap ad' σ₂ ρ → RelV s'.heap ad' u₁ v₁ → RelV s'.heap ad' u₂ v₂ → wpAny (model prog w) A (f u₁ u₂) Q (fun _ _ => False) s') :
    wpAny (model prog w) A (eval e₁ C.env) (fun a s₁ => wpAny (model prog w) A (eval e₂ C.env) (fun b s₂ => wpAny (model prog w) A (f a b) Q (fun _ _ => False) s₂) (fun _ _ => False) s₁) (fun _ _ => False) s := by
  refine h1 s ad _ a fun u₁ s₁ ad₁ x₁ l₁ r₁ => ?_
  have a₁ := a.mono x₁.ext l₁
  refine h2 s₁ ad₁ _ a₁ fun u₂ s₂ ad₂ x₂ l₂ r₂ => ?_
  exact h u₁ u₂ s₂ ad₂ (x₁.trans x₂) (a₁.mono x₂.ext l₂) (r₁.mono a₁.act.isNs x₂.ext) r₂
end
end Mine
end

section
set_option maxRecDepth 100000
set_option autoImplicit false
namespace Mine
open PySem PySem.W PyProof.Rows
theorem small_lt {n : Int} (h : small n = true) : n.natAbs < 1152921504606846976 := of_decide_eq_true h
theorem small_fit {n : Int} (h : small n = true) : n.natAbs < 2 ^ 1023 := Nat.lt_of_lt_of_le (small_lt h) (by decide)
theorem small_mul {x y : Int} (h : small x = true) : IntMulOk x y := IntMulOk.of_left (intBits_le_64 (by have := small_lt h; omega) (by have := small_lt h; omega))
theorem small_py {x y : Int} (h : small y = true) : ¬ (Builtin.divisionGoesByPylong x y = true) := by
  rw [PyProof.noPylong_of_log2 (x := x) (y := y)]
  · exact Bool.false_ne_true
  · have h := small_lt h
    by_cases h0 : y.natAbs = 0
    · rw [h0]; decide +kernel
    · have : y.natAbs.log2 < 60 := (Nat.log2_lt h0).mpr (by omega)
      omega
section
variable {prog : Program} {w : World} {h₀ : Heap} {A : Around} {L : List Addr} {s : Shared} {ad : List Addr} {σ σ' : St} {E : Value → Shared → Prop}
/-- what is wanted behind a step: the ledger, the value -/
noncomputable def Wants (L : List Addr) (s : Shared) (ad : List Addr) (σ' : St) (v : V) (Q : Value → Shared → Prop) : Prop :=
  ∀ u s' ad', Nx L s s' ad ad' → Led s'.heap ad' σ' → RelV s'.heap ad' u v → Q u s'
theorem Wants.same {v : V} {Q : Value → Shared → Prop} (k : Wants L s ad σ v Q) (l : Led s.heap ad σ) {u : Value} (r : RelV s.heap ad u v) : Q u s := k u s ad (.refl _ _ _) l r
theorem Wants.tk {v : V} {Q : Value → Shared → Prop} (k : Wants L s ad σ v Q) (l : Led s.heap ad σ) {u : Value} {t : Nat} (r : RelV s.heap ad u v) : Q u { s with toks := t } := k u _ ad .tk l r
theorem Wants.int {n : Int} {Q : Value → Shared → Prop} (k : Wants L s ad σ (.int n) Q) (l : Led s.heap ad σ) {t : Nat} {t' : Tok} : Q (.int n t') { s with toks := t } := k.tk l ⟨_, rfl⟩
theorem Wants.flt {n : UInt64} {Q : Value → Shared → Prop} (k : Wants L s ad σ (.flt n) Q) (l : Led s.heap ad σ) {t : Nat} {t' : Tok} : Q (.float n t') { s with toks := t } := k.tk l ⟨_, rfl⟩
/-- a new list -/
theorem Wants.list {x : List V} {Q : Value → Shared → Prop} (k : Wants L s ad (σ ++ [x]) (.lst σ.length) Q) (l : Led s.heap ad σ) {h' : Heap} {t : Nat} {a : Addr} {vs : List Value}
    (hk : ∀ b o, s.heap.get? b = some o → h'.get? b = some o) (hf : s.heap.get? a = none) (hl : PlainL h' a (List.toArray vs)) (hr : RelVs s.heap ad vs x) : Q (.ref a) { s with heap := h', toks := t } := by
  obtain ⟨l', x'⟩ := l.push (L := L) hk hf hl hr
  refine k _ _ (ad ++ [a]) ⟨x', .refl _, rfl, rfl⟩ l' ⟨a, rfl, ?_⟩
  rw [← l.len]; simp
theorem size_fresh (h : Heap) : h.get? h.objs.size = none := Heap.get?_none_of_le (Nat.le_refl _)
theorem Wants.pushed {x : List V} {Q : Value → Shared → Prop} (k : Wants L s ad (σ ++ [x]) (.lst σ.length) Q) (l : Led s.heap ad σ) {vs : List Value} {n : Nat} (hr : RelVs s.heap ad vs x) :
    Q (.ref s.heap.objs.size) { s with heap := s.heap.push { cls := .type "list", data := .seq (List.toArray vs) n } } :=
  k.list l (t := s.toks) (fun _ _ e => Heap.get?_push_of_some _ e) (size_fresh _) ⟨_, n, Heap.get?_push_size _ rfl, rfl, rfl, rfl⟩ hr
theorem Led.list {l : Led s.heap ad σ} {k : Nat} {x : List V} (e : σ[k]? = some x) {u : Value} (r : RelV s.heap ad u (.lst k)) :
    ∃ a vs, u = .ref a ∧ ad[k]? = some a ∧ PlainL s.heap a (List.toArray vs) ∧ RelVs s.heap ad vs x := by
  obtain ⟨a, rfl, ha⟩ := r
  obtain ⟨a', vs, ha', hl, hr⟩ := l.at e
  rw [ha] at ha'; cases ha'
  exact ⟨a, vs, rfl, ha, hl, hr⟩
theorem add_raw {l b : Addr} {vs ws : List Value} {Q : Value → Shared → Prop} (hl : s.heap.IsList l vs.toArray) (hb : s.heap.IsList b ws.toArray)
    (h : Q (.ref s.heap.objs.size) { s with heap := s.heap.push { cls := .type "list", data := .seq (vs ++ ws).toArray } }) (hsz : vs.length + ws.length ≤ sizeLine) :
    wpAny (model prog w) A (binaryOp .Add (.ref l) (.ref b)) Q E s := by
  obtain ⟨⟨c1, d1, t1, s1⟩, e1, hc1, n1, hd1⟩ := id hl
  obtain ⟨⟨c2, d2, t2, s2⟩, e2, hc2, n2, hd2⟩ := id hb
  dsimp only at hc1 hd1 hc2 hd2
  subst hc1 hd1 hc2 hd2
  refine concat_meets ⟨_, e1, rfl⟩ ⟨_, e2, rfl⟩ noFill_list_add seq_list_add PySem.F.slot_list_add PySem.F.entry_list_add (PySem.F.args_list_add_2 _ _) (list_addW l b _ _ n1 n2 d1 d2 s1 s2 (by simpa using hsz)) ⟨e1, e2, ?_⟩
  simpa using h
theorem flat_rep {α : Type} (l : List α) : ∀ n, (List.replicate n l).flatten = repL l n
  | 0 => rfl
  | n + 1 => by rw [List.replicate_succ, List.flatten_cons, flat_rep l n]; rfl
theorem mul_raw {l : Addr} {vs : List Value} {x : Int} {u : Tok} {Q : Value → Shared → Prop} (hl : s.heap.IsList l vs.toArray) (h0 : 0 ≤ x) (h1 : x ≤ 1000) (hv : vs.length = 1)
    (h : Q (.ref s.heap.objs.size) { s with heap := s.heap.push { cls := .type "list", data := .seq (List.toArray (repL vs x.toNat)) } }) :
    wpAny (model prog w) A (binaryOp .Mult (.ref l) (.int x u)) Q E s := by
  obtain ⟨⟨c1, d1, t1, s1⟩, e1, hc1, k1, hd1⟩ := id hl
  dsimp only at hc1 hd1
  subst hc1 hd1
  have hz : vs.toArray.size * x.toNat ≤ 2 ^ 24 := by rw [List.size_toArray, hv]; omega
  refine wpAny_binaryOp_repeat_ref (T := "list") (U := "int") (by decide) ⟨_, e1, rfl⟩ (fun s' => typeIs_int s' x u) noFill_list_mul F.fills_int_mul F.slot_int_rmul repeat_list F.slot_int_index.lookup
    (call_meets F.slot_int_rmul (typeIs_int s x u) F.entry_int_rmul (F.args_int_rmul_2 _ _) (lm_int_rmul_list_any x u l _ k1 d1 s1)
      ⟨e1, rfl, ⟨_, e1, rfl⟩, call_meets F.slot_list_mul ⟨_, e1, rfl⟩ F.entry_list_mul (F.args_list_mul_2 _ _)
        (lm_list_mul_any l _ k1 d1 s1 x u (by simp [Builtin.List.listFitsIndex]; omega) (by omega) (by simp [Builtin.List.listTooLong, sizeLine]; simp at hz; omega)) ⟨e1, ?_⟩⟩)
  rw [listMul_foldl_if, flat_rep]
  exact h
theorem no {α : Type} {b : α} (e : none = some b) : False := by cases e
theorem ifs {α : Type} {c : Prop} [Decidable c] {a b : α} (e : (if c then some a else none) = some b) : c ∧ a = b := by
  by_cases h : c
  · rw [if_pos h] at e; cases e; exact ⟨h, rfl⟩
  · rw [if_neg h] at e; cases e
theorem ifn {α : Type} {c : Prop} [Decidable c] {a b : α} (e : (if c then none else some a) = some b) : ¬ c ∧ a = b := by
  by_cases h : c
  · rw [if_pos h] at e; cases e
  · rw [if_neg h] at e; cases e; exact ⟨h, rfl⟩
theorem ift {α : Type} {c : Prop} [Decidable c] {x : Option α} {b : α} (e : (if c then x else none) = some b) : c ∧ x = some b := by
  by_cases h : c
  · rw [if_pos h] at e; exact ⟨h, e⟩
  · rw [if_neg h] at e; cases e
theorem mpd {α β : Type} {x : Option α} {f : α → β} {b : β} (e : x.map f = some b) : ∃ a, x = some a ∧ f a = b := by
  cases x with
  | none => cases e
  | some a => cases e; exact ⟨a, rfl, rfl⟩
theorem som {α : Type} {a b : α} (e : some a = some b) : a = b := by cases e; rfl
theorem pr {α β : Type} {a a' : α} {b b' : β} (e : (a, b) = (a', b')) : a = a' ∧ b = b' := by cases e; exact ⟨rfl, rfl⟩
theorem snoc_get {α : Type} {l : List α} {a b : α} {i : Nat} (h : (l ++ [a])[i]? = some b) : l[i]? = some b ∨ (i = l.length ∧ b = a) := by
  rcases Nat.lt_or_ge i l.length with q | q
  · rw [List.getElem?_append_left q] at h; exact .inl h
  · rw [List.getElem?_append_right q] at h
    cases e : i - l.length with
    | zero => rw [e] at h; exact .inr ⟨Nat.le_antisymm (Nat.le_of_sub_eq_zero e) q, (som h).symm⟩
    | succ k => rw [e] at h; exact (no h).elim
theorem nodup_snoc {α : Type} {l : List α} {a : α} (n : l.Nodup) (h : a ∉ l) : (l ++ [a]).Nodup :=
  List.nodup_append.mpr ⟨n, List.nodup_cons.mpr ⟨List.not_mem_nil, .nil⟩, fun b hb c hc e => h (by rw [List.mem_singleton.mp hc] at e; exact e ▸ hb)⟩
theorem bnd {α β : Type} {x : Option α} {f : α → Option β} {b : β} (e : x.bind f = some b) : ∃ a, x = some a ∧ f a = some b := by
  cases x with
  | none => cases e
  | some a => exact ⟨a, rfl, e⟩
theorem Wants.of {v v0 : V} {σ0 : St} {Q : Value → Shared → Prop} (k : Wants L s ad σ' v Q) (e : (v0, σ0) = (v, σ')) : Wants L s ad σ0 v0 Q := by cases e; exact k
theorem Wants.at {v v0 : V} {σ0 : St} {Q : Value → Shared → Prop} (k : Wants L s ad σ' v Q) (e : some (v0, σ0) = some (v, σ')) : Wants L s ad σ0 v0 Q := by cases e; exact k
section
variable {v₁ v₂ v : V} {u₁ u₂ : Value} {Q : Value → Shared → Prop}
theorem add_okV (l : Led s.heap ad σ) (r₁ : RelV s.heap ad u₁ v₁) (r₂ : RelV s.heap ad u₂ v₂) (k : Wants L s ad σ' v Q) (e : addV v₁ v₂ σ = some (v, σ')) : wpAny (model prog w) A (binaryOp .Add u₁ u₂) Q (fun _ _ => False) s := by
  cases v₁ with
  | int x => cases v₂ with
    | int y => obtain ⟨t, rfl⟩ := r₁; obtain ⟨t', rfl⟩ := r₂; exact PyProof.Rows.add_int ((k.at e).int l)
    | _ => exact (no e).elim
  | flt x => cases v₂ with
    | flt y => obtain ⟨t, rfl⟩ := r₁; obtain ⟨t', rfl⟩ := r₂; exact AutoFloatOps.add_0 ((k.at e).flt l)
    | int n => obtain ⟨t, rfl⟩ := r₁; obtain ⟨t', rfl⟩ := r₂; exact add_fi_fits (small_fit (ifs e).1) ((k.of (ifs e).2).flt l)
    | _ => exact (no e).elim
  | str x => cases v₂ with
    | str y => obtain ⟨t, rfl⟩ := r₁; obtain ⟨t', rfl⟩ := r₂; exact PyProof.Rows.add_str (fun t' tk => (k.of (ifs e).2).tk l ⟨_, rfl⟩) (by rw [sizeLine_eq]; have := (ifs e).1; omega)
    | _ => exact (no e).elim
  | lst i => cases v₂ with
    | lst j =>
      obtain ⟨x, hx, e⟩ := bnd e
      obtain ⟨y, hy, e⟩ := bnd e
      obtain ⟨a, vs, rfl, ha, hl, hr⟩ := Led.list (l := l) hx r₁
      obtain ⟨b, ws, rfl, hb, hl', hr'⟩ := Led.list (l := l) hy r₂
      refine add_raw hl.isList hl'.isList ((k.of (ifs e).2).pushed l (hr.append hr')) ?_
      rw [hr.length, hr'.length, sizeLine_eq]
      exact Nat.le_trans (ifs e).1 (by decide)
    | _ => exact (no e).elim
  | _ => exact (no e).elim
theorem sub_okV (l : Led s.heap ad σ) (r₁ : RelV s.heap ad u₁ v₁) (r₂ : RelV s.heap ad u₂ v₂) (k : Wants L s ad σ' v Q) (e : subV v₁ v₂ σ = some (v, σ')) : wpAny (model prog w) A (binaryOp .Sub u₁ u₂) Q (fun _ _ => False) s := by
  cases v₁ with
  | int x => cases v₂ with
    | int y => obtain ⟨t, rfl⟩ := r₁; obtain ⟨t', rfl⟩ := r₂; exact PyProof.Rows.sub_int ((k.at e).int l)
    | _ => exact (no e).elim
  | flt x => cases v₂ with
    | flt y => obtain ⟨t, rfl⟩ := r₁; obtain ⟨t', rfl⟩ := r₂; exact AutoFloatOps.sub_0 ((k.at e).flt l)
    | int n => obtain ⟨t, rfl⟩ := r₁; obtain ⟨t', rfl⟩ := r₂; exact sub_fi_fits (small_fit (ifs e).1) ((k.of (ifs e).2).flt l)
    | _ => exact (no e).elim
  | _ => exact (no e).elim
theorem mul_okV {n : Nat} (ok : AOk n A) (l : Led s.heap ad σ) (r₁ : RelV s.heap ad u₁ v₁) (r₂ : RelV s.heap ad u₂ v₂) (k : Wants L s ad σ' v Q) (e : mulV v₁ v₂ σ = some (v, σ')) : wpAny (model prog w) A (binaryOp .Mult u₁ u₂) Q (fun _ _ => False) s := by
  cases v₁ with
  | int x => cases v₂ with
    | int y => obtain ⟨t, rfl⟩ := r₁; obtain ⟨t', rfl⟩ := r₂; exact AutoIntOps.mul_0 ((k.of (ifs e).2).int l) (small_mul (ifs e).1)
    | _ => exact (no e).elim
  | flt x => cases v₂ with
    | flt y => obtain ⟨t, rfl⟩ := r₁; obtain ⟨t', rfl⟩ := r₂; exact AutoFloatOps.mul_0 ((k.at e).flt l)
    | int n => obtain ⟨t, rfl⟩ := r₁; obtain ⟨t', rfl⟩ := r₂; exact mul_fi_fits (small_fit (ifs e).1) ((k.of (ifs e).2).flt l)
    | _ => exact (no e).elim
  | str x => cases v₂ with
    | int n =>
      obtain ⟨t, rfl⟩ := r₁; obtain ⟨t', rfl⟩ := r₂
      obtain ⟨hs, e⟩ := ifs e
      exact SB.mul (mulOk_of 1 1000 (by omega) (by omega) (by omega) (by decide) (by decide)) fun t' tk => (k.of e).tk l ⟨_, rfl⟩
    | _ => exact (no e).elim
  | lst i => cases v₂ with
    | int n =>
      obtain ⟨x, hx, e⟩ := bnd e
      obtain ⟨hs, e⟩ := ifs e
      obtain ⟨a, vs, rfl, ha, hl, hr⟩ := Led.list (l := l) hx r₁
      obtain ⟨t', rfl⟩ := r₂
      exact mul_raw hl.isList hs.1 hs.2.1 (hr.length.trans hs.2.2) ((k.of e).pushed l (hr.rep _))
    | _ => exact (no e).elim
  | _ => exact (no e).elim
theorem div_okV (l : Led s.heap ad σ) (r₁ : RelV s.heap ad u₁ v₁) (r₂ : RelV s.heap ad u₂ v₂) (k : Wants L s ad σ' v Q) (e : divV v₁ v₂ σ = some (v, σ')) : wpAny (model prog w) A (binaryOp .Div u₁ u₂) Q (fun _ _ => False) s := by
  cases v₂ with
  | flt y => cases v₁ with
    | flt x => obtain ⟨t, rfl⟩ := r₁; obtain ⟨t', rfl⟩ := r₂; exact AutoFloatOps.truediv_1 (ifn e).1 ((k.of (ifn e).2).flt l)
    | int n =>
      obtain ⟨t, rfl⟩ := r₁; obtain ⟨t', rfl⟩ := r₂
      obtain ⟨hs, e⟩ := ifs e
      rw [Bool.and_eq_true, Bool.not_eq_true'] at hs
      exact AutoFloatOps.truediv_if_2 (Float64.ofInt_fits (small_fit hs.1)) (by rw [hs.2]; exact Bool.false_ne_true) ((k.of e).flt l)
    | _ => exact (no e).elim
  | _ => exact (no e).elim
theorem bin_ok {n : Nat} {o : Operator} (ok : AOk n A) (e : binop o v₁ v₂ σ = some (v, σ')) (l : Led s.heap ad σ)
    (r₁ : RelV s.heap ad u₁ v₁) (r₂ : RelV s.heap ad u₂ v₂) (k : Wants L s ad σ' v Q) : wpAny (model prog w) A (binaryOp o u₁ u₂) Q (fun _ _ => False) s := by
  cases o with
  | Add => exact add_okV l r₁ r₂ k e
  | Sub => exact sub_okV l r₁ r₂ k e
  | Mult => exact mul_okV ok l r₁ r₂ k e
  | Div => exact div_okV l r₁ r₂ k e
  | FloorDiv => cases v₁ with
    | int x => cases v₂ with
      | int y =>
        obtain ⟨t, rfl⟩ := r₁; obtain ⟨t', rfl⟩ := r₂
        obtain ⟨hs, e⟩ := ifs e
        simp only [Bool.and_eq_true, Bool.not_eq_true', decide_eq_false_iff_not] at hs
        exact AutoIntOps.floordiv_1 (by simpa using hs.2) (small_py hs.1.2) ((k.of e).int l)
      | _ => exact (no e).elim
    | _ => exact (no e).elim
  | Mod => cases v₁ with
    | int x => cases v₂ with
      | int y => obtain ⟨t, rfl⟩ := r₁; obtain ⟨t', rfl⟩ := r₂; exact AutoIntOps.mod_1 (by simpa using (ifn e).1) ((k.of (ifn e).2).int l)
      | _ => exact (no e).elim
    | flt x => cases v₂ with
      | flt y => obtain ⟨t, rfl⟩ := r₁; obtain ⟨t', rfl⟩ := r₂; exact AutoFloatOps.mod_1 (ifn e).1 ((k.of (ifn e).2).flt l)
      | _ => exact (no e).elim
    | _ => exact (no e).elim
  | _ => exact (no e).elim
end
end
end Mine
end

section
set_option maxRecDepth 100000
set_option autoImplicit false
namespace Mine
open PySem PySem.W PyProof.Rows
section
variable {prog : Program} {w : World} {h₀ : Heap} {A : Around} {L : List Addr} {s : Shared} {ad : List Addr} {σ σ' : St} {E : Value → Shared → Prop}
theorem intOf_inv {v : V} {n : Int} (h : intOf v = some n) : v = .int n := by
  cases v with
  | int m => exact congrArg V.int (som h)
  | _ => exact (no h).elim
theorem intsOf_are {h : Heap} {x : List V} {ns : List Int} {us : List Value} (e : intsOf x = some ns) (r : RelVs h ad us x) : IntsAre us ns := by
  induction r generalizing ns with
  | nil => obtain rfl := som e; exact .nil
  | cons h1 _ ih =>
    obtain ⟨n, hn, e⟩ := bnd e
    obtain ⟨q, hq, e⟩ := bnd e
    obtain rfl := som e
    rw [intOf_inv hn] at h1
    obtain ⟨t, rfl⟩ := h1
    exact .cons n t (ih hq)
theorem any_contains (n : Int) (l : List Int) : l.any (· == n) = l.contains n := by
  induction l with
  | nil => rfl
  | cons a r ih => simp only [List.any_cons, List.contains_cons, ih]; congr 1; exact BEq.comm
theorem beq_dec (x y : List Int) : (x == y) = decide (x = y) := by
  by_cases h : x = y <;> simp [h]
section
variable {o : CmpOp} {b : Bool} {Q : Value → Shared → Prop}
theorem cmpI_ok {x y : Int} {t t' : Tok} (e : cmpI o x y = some b) (k : Q (.bool b) s) : wpAny (model prog w) A (compareOp o (.int x t) (.int y t')) Q (fun _ _ => False) s := by
  cases o with
  | Lt => cases e; exact PyProof.Rows.lt_int k
  | LtE => cases e; exact PyProof.Rows.le_int k
  | Gt => cases e; exact PyProof.Rows.gt_int k
  | GtE => cases e; exact PyProof.Rows.ge_int k
  | Eq => cases e; exact PyProof.Rows.eq_int k
  | NotEq => cases e; exact PyProof.Rows.ne_int k
  | _ => exact (no e).elim
theorem cmpF_ok {x y : UInt64} {t t' : Tok} (e : cmpF o x y = some b) (k : Q (.bool b) s) : wpAny (model prog w) A (compareOp o (.float x t) (.float y t')) Q (fun _ _ => False) s := by
  cases o with
  | Lt => cases e; exact AutoFloatOps.lt_0 k
  | LtE => cases e; exact AutoFloatOps.le_0 k
  | Gt => cases e; exact AutoFloatOps.gt_0 k
  | Eq => cases e; exact AutoFloatOps.eq_0 k
  | NotEq => cases e; exact AutoFloatOps.ne_0 k
  | _ => exact (no e).elim
theorem cmpL_ok {i j : Nat} {x y : List V} {ns ms : List Int} {u₁ u₂ : Value} (hu : A.units + 64 < cLine) (l : Led s.heap ad σ) (hx : σ[i]? = some x) (hy : σ[j]? = some y) (hn : intsOf x = some ns) (hm : intsOf y = some ms)
    (r₁ : RelV s.heap ad u₁ (.lst i)) (r₂ : RelV s.heap ad u₂ (.lst j)) (e : cmpL o ns ms = some b) (k : Q (.bool b) s) : wpAny (model prog w) A (compareOp o u₁ u₂) Q (fun _ _ => False) s := by
  obtain ⟨a, vs, rfl, ha, hl, hr⟩ := Led.list (l := l) hx r₁
  obtain ⟨c, ws, rfl, hb, hl', hr'⟩ := Led.list (l := l) hy r₂
  cases o with
  | Eq => cases e; exact eq_intsK hl.isList (intsOf_are hn hr) hl'.isList (intsOf_are hm hr') hu (by rw [beq_dec] at k; exact k)
  | NotEq => cases e; exact ne_intsK hl.isList (intsOf_are hn hr) hl'.isList (intsOf_are hm hr') hu (by unfold bne at k; rw [beq_dec] at k; exact k)
  | _ => exact (no e).elim
theorem cmp_ok {v₁ v₂ : V} {u₁ u₂ : Value} (hu : A.units + 64 < cLine) (e : cmpop o v₁ v₂ σ = some b) (l : Led s.heap ad σ)
    (r₁ : RelV s.heap ad u₁ v₁) (r₂ : RelV s.heap ad u₂ v₂) (k : Q (.bool b) s) : wpAny (model prog w) A (compareOp o u₁ u₂) Q (fun _ _ => False) s := by
  cases v₁ with
  | int x => cases v₂ with
    | int y => obtain ⟨t, rfl⟩ := r₁; obtain ⟨t', rfl⟩ := r₂; exact cmpI_ok e k
    | lst j => cases o with
      | In =>
        obtain ⟨y, hy, e⟩ := bnd e
        obtain ⟨ms, hm, e⟩ := bnd e
        cases (ifs e).2
        obtain ⟨c, ws, rfl, hb, hl', hr'⟩ := Led.list (l := l) hy r₂
        obtain ⟨t, rfl⟩ := r₁
        exact in_list_ints hl'.isList (intsOf_are hm hr') (by rw [any_contains]; exact k)
      | _ => exact (no e).elim
    | _ => exact (no e).elim
  | flt x => cases v₂ with
    | flt y => obtain ⟨t, rfl⟩ := r₁; obtain ⟨t', rfl⟩ := r₂; exact cmpF_ok e k
    | _ => exact (no e).elim
  | str x => cases v₂ with
    | str y =>
      obtain ⟨t, rfl⟩ := r₁; obtain ⟨t', rfl⟩ := r₂
      cases o with
      | Eq => cases e; exact PySem.P.eq_str k
      | NotEq => cases e; exact PySem.P.ne_str k
      | _ => exact (no e).elim
    | _ => exact (no e).elim
  | bool x => cases v₂ with
    | bool y =>
      obtain rfl := r₁; obtain rfl := r₂
      cases o with
      | NotEq => cases e; exact PyProof.Rows.ne_bool k
      | _ => exact (no e).elim
    | _ => exact (no e).elim
  | lst i => cases v₂ with
    | lst j =>
      obtain ⟨x, hx, e⟩ := bnd e
      obtain ⟨ns, hn, e⟩ := bnd e
      obtain ⟨y, hy, e⟩ := bnd e
      obtain ⟨ms, hm, e⟩ := bnd e
      exact cmpL_ok hu l hx hy hn hm r₁ r₂ (ift e).2 k
    | _ => exact (no e).elim
  | _ => exact (no e).elim
end
theorem truth_ok {v : V} {b : Bool} {u : Value} {Q : Bool → Shared → Prop} (e : truth v = some b) (r : RelV s.heap ad u v) (k : Q b s) : wpAny (model prog w) A (truthy u) Q (fun _ _ => False) s := by
  cases v with
  | bool x => cases e; obtain rfl := r; exact wpAny_truthy_bool k
  | flt x => cases e; obtain ⟨t, rfl⟩ := r; exact AutoFloatOps.truthy_0 k
  | _ => exact (no e).elim
theorem ofP_rel {h : Heap} {u : Value} {p : P} (r : RelP u p) : RelV h ad u (ofP p) := by cases p <;> exact r
theorem toP_rel {h : Heap} {u : Value} {v : V} {p : P} (e : toP v = some p) (r : RelV h ad u v) : RelP u p := by
  cases v with
  | int x => cases e; exact r
  | flt x => cases e; exact r
  | _ => exact (no e).elim
theorem toPs_rel {h : Heap} : ∀ {vs : List V} {ps : List P} {us : List Value}, toPs vs = some ps → RelVs h ad us vs → All2 RelP us ps
  | [], _, _, e, r => by cases e; cases r; exact .nil
  | v :: q, ps, us, e, r => by
    obtain ⟨p, hp, e⟩ := bnd e
    obtain ⟨ps', hq, e⟩ := bnd e
    cases e
    cases r with
    | cons h1 h2 => exact .cons (toP_rel hp h1) (toPs_rel hq h2)
/-- a subscript's tail, whatever is subscripted -/
theorem tail_sub {value slice : Expr} {o i : Value} {T id : String} {ops : List Value} {Q : Value → Shared → Prop} (hT : s.TypeIs o T) (hl : typeLookup (.type T) "__getitem__" = pure (some (.builtin id)))
    (h : wpAny (model prog w) A (getItem o i) Q E s) (hs : subscripted slice false o i = operate ops (getItem o i)) : wpAny (model prog w) A (subscriptTail value slice o i) Q E s := by
  unfold subscriptTail
  refine wpAny_bind ?_
  rw [getitemInPython_of_ne hT.not_modules]
  refine wpAny_bind (wpAny_specialOf hT hl ?_)
  have fin : wpAny (model prog w) A (subscripted slice false o i) (fun r s₃ => wpAny (model prog w) A (letTemporaryGo value o r >>= fun _ => pure r) Q E s₃) E s := by
    rw [hs]
    exact wpAny_operating (wpAny_mono h (fun r s₃ h₃ => wpAny_bind (wpAny_letTemporaryGo (wpAny_pure h₃))) fun _ _ x => x)
  first
    | exact wpAny_pure (wpAny_bind fin)
    | exact wpAny_bind (wpAny_pure (wpAny_bind fin))
    | exact wpAny_bind fin
theorem nat_get {α : Type} {l : List α} {n : Int} {x : α} (h : l[n.toNat]? = some x) : n.toNat < l.length := (List.getElem?_eq_some_iff.mp h).1
theorem seqIndex_nat {n : Int} {k : Nat} (h0 : 0 ≤ n) (h : n.toNat < k) : seqIndex? n k = some n.toNat := by
  unfold seqIndex?
  rw [if_neg (show ¬ n < 0 by omega)]
  simp only
  rw [if_pos (by simp; omega)]
theorem index_ok {n : Nat} {v₁ v₂ v : V} {u₁ u₂ : Value} {value slice : Expr} {Q : Value → Shared → Prop} (ok : AOk n A) (e : index v₁ v₂ σ = some v) (l : Led s.heap ad σ)
    (r₁ : RelV s.heap ad u₁ v₁) (r₂ : RelV s.heap ad u₂ v₂) (hs : ∀ o i, (∀ a b c d, slice ≠ .Slice a b c d) → ∃ ops, subscripted slice false o i = operate ops (getItem o i)) (hns : ∀ a b c d, slice ≠ .Slice a b c d)
    (k : Wants L s ad σ v Q) : wpAny (model prog w) A (subscriptTail value slice u₁ u₂) Q (fun _ _ => False) s := by
  obtain ⟨ops, hs⟩ := hs u₁ u₂ hns
  cases v₂ with
  | int m => cases v₁ with
    | lst i =>
      obtain ⟨x, hx, e⟩ := bnd e
      obtain ⟨hn, e⟩ := ift e
      obtain ⟨a, vs, rfl, ha, hl, hr⟩ := Led.list (l := l) hx r₁
      obtain ⟨t, rfl⟩ := r₂
      obtain ⟨u, hu, hru⟩ := hr.get e
      exact tail_sub hl.isList.typeIs slot_list_getitem.lookup (wpAny_getItem_list hl.isList hn.1 (by omega) (by simpa using hu) (k.same l hru)) hs
    | tup q =>
      obtain ⟨hn, e⟩ := ift e
      obtain ⟨p, hp, rfl⟩ := mpd e
      obtain ⟨a, vs, rfl, ha, hl, hr⟩ := r₁
      obtain ⟨t, rfl⟩ := r₂
      obtain ⟨u, hu, hru⟩ := hr.get hp
      exact tail_sub hl.typeIs slot_tuple_getitem.lookup (getItem_tuple hl (by omega) (by omega) (seqIndex_nat hn.1 (by simpa using nat_get hu)) (by simpa using hu) (k.same l (ofP_rel hru))) hs
    | str q =>
      obtain ⟨hn, e⟩ := ift e
      obtain ⟨c, hc, rfl⟩ := mpd e
      obtain ⟨t, rfl⟩ := r₁
      obtain ⟨t', rfl⟩ := r₂
      refine tail_sub (typeIs_str _ _ _) F.slot_str_getitem.lookup (PyProof.Rows.getItem_str ?_ (c := c) ?_ ?_) hs
      · simp; omega
      · rw [seqIndex_nat hn.1 (by have := hn.2.1; omega)]
        simpa using hc
      · first | exact k.tk l ⟨_, rfl⟩ | (intro t' tk; exact k.tk l ⟨_, rfl⟩) | exact k.same l ⟨_, rfl⟩
    | _ => exact (no e).elim
  | _ => exact (no e).elim
end
end Mine
end

section
set_option maxRecDepth 100000
set_option autoImplicit false
namespace Mine
open PySem PySem.W PyProof.Rows
section
variable {prog : Program} {w : World} {h₀ : Heap} {A : Around} {L : List Addr} {s : Shared} {ad : List Addr} {σ σ' : St} {E : Value → Shared → Prop}
theorem ints_rel {h : Heap} {us : List Value} {ns : List Int} (i : IntsAre us ns) : RelVs h ad us (ns.map .int) := by
  induction i with
  | nil => exact .nil
  | cons n t _ ih => exact .cons ⟨t, rfl⟩ ih
theorem All2.pick {α β : Type} {R : α → β → Prop} {l : List α} {m : List β} (h : All2 R l m) : ∀ is : List Nat, All2 R (is.filterMap (fun i => l[i]?)) (is.filterMap (fun i => m[i]?))
  | [] => .nil
  | i :: r => by
    rw [List.filterMap_cons, List.filterMap_cons]
    cases e : m[i]? with
    | none => rw [h.getN e]; exact h.pick r
    | some b => obtain ⟨a, ha, hr⟩ := h.get e; rw [ha]; exact .cons hr (h.pick r)
theorem pick_rel {h : Heap} {us : List Value} {x : List V} (r : RelVs h ad us x) (lo hi : Option Int) : ∃ ws, slicePick us.toArray lo hi none = List.toArray ws ∧ RelVs h ad ws (cutL x lo hi) := by
  refine ⟨_, rfl, ?_⟩
  unfold cutL
  rw [List.size_toArray, r.length]
  have := r.pick (sliceRange (sliceBounds lo hi none x.length).1 (sliceBounds lo hi none x.length).2.1 (sliceBounds lo hi none x.length).2.2)
  simpa using this
noncomputable def slot3 (s : Shared) (l u : Option (Int × Tok)) : Shared := { s with heap := s.heap.push { cls := .type "slice", data := .fields #[partValue l, partValue u, .none] } }
theorem part_is (l : Option (Int × Tok)) : IsPart (partValue l) (l.map (·.1)) := by
  rcases l with _ | ⟨i, t⟩
  · exact .none
  · exact .int i t
theorem slice_ok {v₁ v : V} {u₁ : Value} {value : Expr} {a b : Option Expr} {p : Pos} {l u : Option (Int × Tok)} {Q : Value → Shared → Prop} (e : slice v₁ (l.map (·.1)) (u.map (·.1)) σ = some (v, σ')) (ld : Led s.heap ad σ)
    (r₁ : RelV s.heap ad u₁ v₁) (k : Wants L s ad σ' v Q) : wpAny (model prog w) A (subscriptTail value (.Slice a b none p) u₁ (.ref s.heap.objs.size)) Q E (slot3 s l u) := by
  have kp : ∀ b o, s.heap.get? b = some o → (slot3 s l u).heap.get? b = some o := fun _ _ e => Heap.get?_push_of_some _ e
  have hsl : (slot3 s l u).heap.IsSliceOf s.heap.objs.size (partValue l) (partValue u) .none := .new _ _ _ _
  have mk : ∀ {la : Addr} {vs : List Value} {x : List V}, s.heap.IsList la vs.toArray → RelVs s.heap ad vs x → x.length ≤ 1000 → σ' = σ ++ [cutL x (l.map (·.1)) (u.map (·.1))] → v = .lst σ.length →
      wpAny (model prog w) A (subscriptTail value (.Slice a b none p) (.ref la) (.ref s.heap.objs.size)) Q E (slot3 s l u) := by
    intro la vs x hl hr hx es ev
    subst es ev
    have hl' : (slot3 s l u).heap.IsList la vs.toArray := hl.at fun o e => kp _ o e
    refine tail_sub (ops := [.ref s.heap.objs.size, .ref la]) hl'.typeIs slot_list_getitem.lookup (wpAny_getItem_list_slice hl' hsl (part_is l) (part_is u) .none (by decide) ?_ ?_) (by with_unfolding_all rfl)
    · obtain ⟨ws, hw, hrw⟩ := pick_rel hr (l.map (·.1)) (u.map (·.1))
      rw [hw]
      refine k.list ld (h' := (slot3 s l u).heap.push { cls := .type "list", data := .seq (List.toArray ws) }) (t := s.toks) (a := (slot3 s l u).heap.objs.size) (vs := ws) (fun b o e => Heap.get?_push_of_some _ (kp b o e)) ?_ ⟨_, 0, Heap.get?_push_size _ rfl, rfl, rfl, rfl⟩ hrw
      refine Heap.get?_none_of_le ?_
      show _ ≤ (s.heap.push _).objs.size
      simp [Heap.push]
    · rw [List.size_toArray, hr.length, sizeLine_eq]; omega
  unfold slice at e
  split at e
  · simp only [Option.bind_eq_bind, Option.bind_eq_some_iff] at e
    obtain ⟨x, hx, e⟩ := e
    split at e
    · rename_i hn
      cases e
      obtain ⟨a, vs, rfl, ha, hl, hr⟩ := Led.list (l := ld) hx r₁
      exact mk hl.isList hr hn rfl rfl
    · cases e
  · split at e
    · rename_i hn
      cases e
      obtain ⟨a, vs, rfl, ha, hl, hr⟩ := r₁
      exact mk hl (ints_rel hr) (by simpa using hn) rfl rfl
    · cases e
  · split at e
    · rename_i x hn
      cases e
      obtain ⟨t, rfl⟩ := r₁
      refine tail_sub (ops := [.ref s.heap.objs.size, .str x t]) (typeIs_str _ x t) F.slot_str_getitem.lookup (wpAny_getItem_str_slice (l := l) (u := u) (st := none) ⟨_, Heap.get?_push_size _ rfl, rfl, rfl⟩ rfl
        (post_val_or_str ⟨Nat.le_trans (Txt.slice_le x _ _) (by rw [sizeLine_eq]; omega), fun t' q => ?_⟩)) (by with_unfolding_all rfl)
      exact k (.str (Txt.slice x (l.map (·.1)) (u.map (·.1))) t') { s with heap := (slot3 s l u).heap, toks := q } ad (.grow kp) (ld.keeps kp) ⟨t', rfl⟩
    · cases e
  · cases e
/-! slices as they stand in the text -/
variable {C : FC} {ρ : Rho}
theorem asInt_rel {h : Heap} {v : V} {n : Int} {u : Value} (e : asInt v = some n) (r : RelV h ad u v) : ∃ t, u = partValue (some (n, t)) := by
  unfold asInt at e
  split at e
  · split at e <;> cases e
    exact r
  · cases e
theorem ev_slU {a hi : Expr} {ps p : Pos} {v h v' : V} {n : Int} {σ₁ σ₂ : St} (ha : EvT prog w h₀ A C a ρ σ v σ₁) (hh : EvT prog w h₀ A C hi ρ σ₁ h σ₂) (hn : asInt h = some n) (e : slice v none (some n) σ₂ = some (v', σ')) :
    EvT prog w h₀ A C (.Subscript a (.Slice none (some hi) none ps) p) ρ σ v' σ' := by
  intro s ad Q at0 k
  refine Subscript_ (wpAny_mono (ha s ad _ at0 fun u₁ s₁ ad₁ x₁ l₁ r₁ => ?_) (fun _ _ z => z) fun _ _ z => z.elim)
  have at1 := at0.mono x₁.ext l₁
  refine wpAny_Slice (wpAny_pure ?_)
  refine hh s₁ ad₁ _ at1 fun u₂ s₂ ad₂ x₂ l₂ r₂ => ?_
  obtain ⟨t, rfl⟩ := asInt_rel hn r₂
  refine wpAny_pure ?_
  exact slice_ok (l := none) (u := some (n, t)) (L := C.fs) e l₂ (r₁.mono at1.act.isNs x₂.ext) fun u s' ad' x l r => k u s' ad' ((x₁.trans x₂).trans x) l r
theorem ev_slL {a lo : Expr} {ps p : Pos} {v h v' : V} {n : Int} {σ₁ σ₂ : St} (ha : EvT prog w h₀ A C a ρ σ v σ₁) (hh : EvT prog w h₀ A C lo ρ σ₁ h σ₂) (hn : asInt h = some n) (e : slice v (some n) none σ₂ = some (v', σ')) :
    EvT prog w h₀ A C (.Subscript a (.Slice (some lo) none none ps) p) ρ σ v' σ' := by
  intro s ad Q at0 k
  refine Subscript_ (wpAny_mono (ha s ad _ at0 fun u₁ s₁ ad₁ x₁ l₁ r₁ => ?_) (fun _ _ z => z) fun _ _ z => z.elim)
  have at1 := at0.mono x₁.ext l₁
  refine wpAny_Slice ?_
  refine hh s₁ ad₁ _ at1 fun u₂ s₂ ad₂ x₂ l₂ r₂ => ?_
  obtain ⟨t, rfl⟩ := asInt_rel hn r₂
  refine wpAny_pure (wpAny_pure ?_)
  exact slice_ok (l := some (n, t)) (u := none) (L := C.fs) e l₂ (r₁.mono at1.act.isNs x₂.ext) fun u s' ad' x l r => k u s' ad' ((x₁.trans x₂).trans x) l r
theorem ev_slB {a lo hi : Expr} {ps p : Pos} {v h h' v' : V} {n m : Int} {σ₁ σ₂ σ₃ : St} (ha : EvT prog w h₀ A C a ρ σ v σ₁) (hl : EvT prog w h₀ A C lo ρ σ₁ h σ₂) (hh : EvT prog w h₀ A C hi ρ σ₂ h' σ₃) (hn : asInt h = some n) (hm : asInt h' = some m)
    (e : slice v (some n) (some m) σ₃ = some (v', σ')) : EvT prog w h₀ A C (.Subscript a (.Slice (some lo) (some hi) none ps) p) ρ σ v' σ' := by
  intro s ad Q at0 k
  refine Subscript_ (wpAny_mono (ha s ad _ at0 fun u₁ s₁ ad₁ x₁ l₁ r₁ => ?_) (fun _ _ z => z) fun _ _ z => z.elim)
  have at1 := at0.mono x₁.ext l₁
  refine wpAny_Slice ?_
  refine hl s₁ ad₁ _ at1 fun u₂ s₂ ad₂ x₂ l₂ r₂ => ?_
  have at2 := at1.mono x₂.ext l₂
  obtain ⟨t, rfl⟩ := asInt_rel hn r₂
  refine hh s₂ ad₂ _ at2 fun u₃ s₃ ad₃ x₃ l₃ r₃ => ?_
  obtain ⟨t', rfl⟩ := asInt_rel hm r₃
  refine wpAny_pure ?_
  exact slice_ok (l := some (n, t)) (u := some (m, t')) (L := C.fs) e l₃ ((r₁.mono at1.act.isNs x₂.ext).mono at2.act.isNs x₃.ext) fun u s' ad' x l r => k u s' ad' (((x₁.trans x₂).trans x₃).trans x) l r
theorem ev_idx {a i : Expr} {p : Pos} {v h v' : V} {σ₁ σ₂ : St} {n : Nat} (ok : AOk n A) (ha : EvT prog w h₀ A C a ρ σ v σ₁) (hh : EvT prog w h₀ A C i ρ σ₁ h σ₂) (hs : ∀ o j, ∃ ops, subscripted i false o j = operate ops (getItem o j)) (hns : ∀ a b c d, i ≠ .Slice a b c d)
    (e : index v h σ₂ = some v') : EvT prog w h₀ A C (.Subscript a i p) ρ σ v' σ₂ := by
  intro s ad Q at0 k
  refine Subscript_ ?_
  refine ev_two ha hh at0 fun u₁ u₂ s' ad' x at' r₁ r₂ => ?_
  exact index_ok (L := C.fs) ok e at'.led r₁ r₂ (fun o j _ => hs o j) hns fun u s'' ad'' x' l r => k u s'' ad'' (x.trans x') l r
theorem ev_bin {a b : Expr} {o : Operator} {p : Pos} {v h v' : V} {σ₁ σ₂ : St} {n : Nat} (ok : AOk n A) (ha : EvT prog w h₀ A C a ρ σ v σ₁) (hh : EvT prog w h₀ A C b ρ σ₁ h σ₂) (e : binop o v h σ₂ = some (v', σ')) :
    EvT prog w h₀ A C (.BinOp a o b p) ρ σ v' σ' := by
  intro s ad Q at0 k
  refine wpAny_BinOp ?_
  refine ev_two ha hh at0 fun u₁ u₂ s' ad' x at' r₁ r₂ => ?_
  exact bin_ok (L := C.fs) ok e at'.led r₁ r₂ fun u s'' ad'' x' l r => k u s'' ad'' (x.trans x') l r
end
end Mine
end

section
set_option maxRecDepth 100000
set_option autoImplicit false
namespace Mine
open PySem PySem.W PyProof.Rows
theorem tr_marks (nm : Nat → Str) (o : CmpOp) (x : X) : behindInMarks o (trE nm x) = false := by cases x <;> rfl
theorem tr_star (nm : Nat → Str) (x : X) (r : List Expr) (env : Env) : starEach (trE nm x :: r) env = (false, eval (trE nm x) env) :: starEach r env := by cases x <;> rfl
theorem tr_noslice (nm : Nat → Str) (x : X) : ∀ a b c d, trE nm x ≠ .Slice a b c d := by cases x <;> (intro a b c d h; cases h)
theorem tr_subd (nm : Nat → Str) (x : X) (o j : Value) : ∃ ops, subscripted (trE nm x) false o j = operate ops (getItem o j) := by
  cases x <;> first | exact ⟨[o, j], by with_unfolding_all rfl⟩ | exact ⟨[j, o], by with_unfolding_all rfl⟩
section
variable {prog : Program} {w : World} {h₀ : Heap} {A : Around} {L : List Addr} {s : Shared} {ad : List Addr} {σ σ' : St} {E : Value → Shared → Prop} {C : FC} {ρ : Rho}
theorem EvT.two {e₁ e₂ : Expr} {v₁ v₂ : V} {σ₁ σ₂ : St} (h1 : EvT prog w h₀ A C e₁ ρ σ v₁ σ₁) (h2 : EvT prog w h₀ A C e₂ ρ σ₁ v₂ σ₂) (a : At h₀ C s.heap ad σ ρ)
    {R : Value → Value → Shared → Prop}
    (h : ∀ u₁ u₂ s' ad', Nx C.fs s s' ad ad' → At h₀ C s'.heap ad' σ₂ ρ → RelV s'.heap ad' u₁ v₁ → RelV s'.heap ad' u₂ v₂ → R u₁ u₂ s') :
    wpAny (model prog w) A (eval e₁ C.env) (fun a s₁ => wpAny (model prog w) A (eval e₂ C.env) (fun b s₂ => R a b s₂) (fun _ _ => False) s₁) (fun _ _ => False) s := by
  refine h1 s ad _ a fun u₁ s₁ ad₁ x₁ l₁ r₁ => ?_
  have a₁ := a.mono x₁.ext l₁
  refine h2 s₁ ad₁ _ a₁ fun u₂ s₂ ad₂ x₂ l₂ r₂ => ?_
  exact h u₁ u₂ s₂ ad₂ (x₁.trans x₂) (a₁.mono x₂.ext l₂) (r₁.mono a₁.act.isNs x₂.ext) r₂
theorem ev_cmp {a b : Expr} {o : CmpOp} {p : Pos} {v h : V} {r : Bool} {σ₁ σ₂ : St} (ok : A.units + 64 < cLine) (ha : EvT prog w h₀ A C a ρ σ v σ₁) (hh : EvT prog w h₀ A C b ρ σ₁ h σ₂) (hm : behindInMarks o b = false) (e : cmpop o v h σ₂ = some r) :
    EvT prog w h₀ A C (.Compare a [o] [b] p) ρ σ (.bool r) σ₂ := by
  intro s ad Q at0 k
  refine wpAny_Compare1 ?_ hm
  refine ha.two hh at0 fun u₁ u₂ s' ad' x at' r₁ r₂ => ?_
  exact cmp_ok ok e at'.led r₁ r₂ (k _ _ _ x at'.led rfl)
theorem tv_cmp {a b : Expr} {o : CmpOp} {p : Pos} {v h : V} {r : Bool} {σ₁ σ₂ : St} (ok : A.units + 64 < cLine) (ha : EvT prog w h₀ A C a ρ σ v σ₁) (hh : EvT prog w h₀ A C b ρ σ₁ h σ₂) (hm : behindInMarks o b = false) (e : cmpop o v h σ₂ = some r) :
    TvT prog w h₀ A C (.Compare a [o] [b] p) ρ σ r σ₂ := by
  intro s ad Q at0 k
  refine wpAny_isTrue_Compare1 ?_ hm
  refine ha.two hh at0 fun u₁ u₂ s' ad' x at' r₁ r₂ => ?_
  exact cmp_ok ok e at'.led r₁ r₂ (wpAny_truthy_bool (k _ _ x at'.led))
theorem ev_neg {a : Expr} {p : Pos} {n : Int} (ha : EvT prog w h₀ A C a ρ σ (.int n) σ') : EvT prog w h₀ A C (.UnaryOp .USub a p) ρ σ (.int (-n)) σ' := by
  intro s ad Q at0 k
  refine wpAny_UnaryOp (ha s ad _ at0 fun u s' ad' x l r => ?_)
  obtain ⟨t, rfl⟩ := r
  exact PyProof.Rows.neg_int (k _ _ _ (x.trans .tk) l ⟨_, rfl⟩)
theorem ev_or {a b : Expr} {p : Pos} {v v' : V} {c : Bool} {σ₁ : St} (ha : EvT prog w h₀ A C a ρ σ v σ₁) (hc : truth v = some c) (hb : c = false → EvT prog w h₀ A C b ρ σ₁ v' σ') (ht : c = true → v = v' ∧ σ₁ = σ') :
    EvT prog w h₀ A C (.BoolOp .Or [a, b] p) ρ σ v' σ' := by
  intro s ad Q at0 k
  refine BoolOp_or (ha s ad _ at0 fun u s' ad' x l r => truth_ok hc r ?_)
  cases c with
  | true => obtain ⟨rfl, rfl⟩ := ht rfl; exact k _ _ _ x l r
  | false => exact BoolOp_one (hb rfl s' ad' _ (at0.mono x.ext l) fun u' s₂ ad₂ x₂ l₂ r₂ => k _ _ _ (x.trans x₂) l₂ r₂)
theorem tv_or {a b : Expr} {p : Pos} {c r : Bool} {σ₁ : St} (ha : TvT prog w h₀ A C a ρ σ c σ₁) (hb : c = false → TvT prog w h₀ A C b ρ σ₁ r σ') (ht : c = true → r = true ∧ σ₁ = σ') :
    TvT prog w h₀ A C (.BoolOp .Or [a, b] p) ρ σ r σ' := by
  intro s ad Q at0 k
  rw [arm_isTrue_BoolOp, arm_allTrue_cons]
  refine wpAny_bind (ha s ad _ at0 fun s' ad' x l => ?_)
  cases c with
  | true => obtain ⟨rfl, rfl⟩ := ht rfl; exact wpAny_pure (k _ _ x l)
  | false =>
    dsimp only
    rw [arm_allTrue_cons]
    refine wpAny_bind (hb rfl s' ad' _ (at0.mono x.ext l) fun s₂ ad₂ x₂ l₂ => ?_)
    have := k _ _ (x.trans x₂) l₂
    cases r with
    | true => exact wpAny_pure this
    | false => dsimp only; rw [arm_allTrue_nil]; exact wpAny_pure this
theorem ev_ife {t a b : Expr} {p : Pos} {v : V} {c : Bool} {σ₁ : St} (hc : TvT prog w h₀ A C t ρ σ c σ₁) (ha : c = true → EvT prog w h₀ A C a ρ σ₁ v σ') (hb : c = false → EvT prog w h₀ A C b ρ σ₁ v σ') :
    EvT prog w h₀ A C (.IfExp t a b p) ρ σ v σ' := by
  intro s ad Q at0 k
  refine wpAny_IfExp (hc s ad _ at0 fun s' ad' x l => ?_)
  cases c with
  | true => exact ha rfl s' ad' _ (at0.mono x.ext l) fun u' s₂ ad₂ x₂ l₂ r₂ => k _ _ _ (x.trans x₂) l₂ r₂
  | false => exact hb rfl s' ad' _ (at0.mono x.ext l) fun u' s₂ ad₂ x₂ l₂ r₂ => k _ _ _ (x.trans x₂) l₂ r₂
theorem tv_v {i : Nat} {p : Pos} {v : V} {c : Bool} (ok : FCOk C) (e : get ρ i = some v) (hc : truth v = some c) : TvT prog w h₀ A C (.Name (C.nm i) p) ρ σ c σ := by
  intro s ad Q at0 k
  refine isTrue_plain ?_
  exact ld_local ok at0.act e fun u hr => truth_ok hc hr (k _ _ (.refl _ _ _) at0.led)
theorem lv_nil : LvT prog w h₀ A C [] ρ σ [] σ := by
  intro s ad p Q at0 k
  exact args_nil (k _ _ _ (.refl _ _ _) at0.led .nil)
theorem lv_cons {e : Expr} {r : List Expr} {v : V} {vs : List V} {σ₁ : St} (he : EvT prog w h₀ A C e ρ σ v σ₁) (hr : LvT prog w h₀ A C r ρ σ₁ vs σ') (hs : ∀ env, starEach (e :: r) env = (false, eval e env) :: starEach r env) :
    LvT prog w h₀ A C (e :: r) ρ σ (v :: vs) σ' := by
  intro s ad p Q at0 k
  refine args_cons (he s ad _ at0 fun u s' ad' x l r' => ?_) (hs _)
  have at1 := at0.mono x.ext l
  refine hr s' ad' p _ at1 fun us s₂ ad₂ x₂ l₂ r₂ => k _ _ _ (x.trans x₂) l₂ (.cons (r'.mono at1.act.isNs x₂.ext) r₂)
theorem ev_lst {es : List Expr} {p : Pos} {vs : List V} {σ₁ : St} (he : LvT prog w h₀ A C es ρ σ vs σ₁) (hn : vs.length ≤ 1000) : EvT prog w h₀ A C (.List es p) ρ σ (.lst σ₁.length) (σ₁ ++ [vs]) := by
  intro s ad Q at0 k
  refine List_ (he s ad p _ at0 fun us s' ad' x l r => ?_)
  have kw : Wants C.fs s' ad' (σ₁ ++ [vs]) (.lst σ₁.length) Q := fun u s'' ad'' x' l' r' => k u s'' ad'' (x.trans x') l' r'
  exact wpAny_newObj_type (kw.pushed l r) (by show us.toArray.size ≤ sizeLine; rw [List.size_toArray, r.length, sizeLine_eq]; omega)
theorem ev_tup {es : List Expr} {c : Nat} {p : Pos} {vs : List V} {ps : List P} (he : LvT prog w h₀ A C es ρ σ vs σ') (hn : vs.length ≤ 1000) (hp : toPs vs = some ps) : EvT prog w h₀ A C (.Tuple es c p) ρ σ (.tup ps) σ' := by
  intro s ad Q at0 k
  refine Tuple_ (he s ad p _ at0 fun us s' ad' x l r => ?_)
  refine wpAny_newObj_type ?_ (by show us.toArray.size ≤ sizeLine; rw [List.size_toArray, r.length, sizeLine_eq]; omega)
  have kp : ∀ b o, s'.heap.get? b = some o → (s'.heap.push { cls := .type "tuple", data := .seq us.toArray }).get? b = some o := fun _ _ e => Heap.get?_push_of_some _ e
  refine k _ { s' with heap := s'.heap.push { cls := .type "tuple", data := .seq us.toArray } } ad' (x.trans (.grow (t := s'.toks) kp)) (l.keeps kp) ⟨_, us, rfl, fun hm => ?_, ⟨_, Heap.get?_push_size _ rfl, rfl, 0, rfl⟩, toPs_rel hp r⟩
  obtain ⟨o, ho⟩ := l.live hm
  rw [size_fresh] at ho; cases ho
theorem ev_cnt {a b : Expr} {pa p : Pos} {x y : Str} {σ₁ : St} (ha : EvT prog w h₀ A C a ρ σ (.str x) σ₁) (hb : EvT prog w h₀ A C b ρ σ₁ (.str y) σ')
    (h1 : attributeBase a (Str.ofString "count") C.env (eval a C.env) = eval a C.env) (h2 : starEach [b] C.env = [(false, eval b C.env)]) (h3 : (pa.endLine == p.line) = true) :
    EvT prog w h₀ A C (.Call (.Attribute a (Str.ofString "count") pa) [b] [] p) ρ σ (.int (Txt.count x y)) σ' := by
  intro s ad Q at0 k
  refine Call_method1 h1 h2 h3 (ha s ad _ at0 fun u s' ad' x' l r => ?_)
  obtain ⟨t, rfl⟩ := r
  refine SB.count (hb s' ad' _ (at0.mono x'.ext l) fun u s₂ ad₂ x₂ l₂ r₂ => ?_)
  obtain ⟨t', rfl⟩ := r₂
  exact ⟨y, t', rfl, k _ _ _ ((x'.trans x₂).trans .tk) l₂ ⟨_, rfl⟩⟩
end
end Mine
end

section
set_option maxRecDepth 100000
set_option autoImplicit false
namespace Mine
open PySem PySem.W PyProof.Rows
theorem tr_any (nm : Nat → Str) (env : Env) (p : Pos) : ∀ x : X, (backTo p (starEach (trL nm x) env)).any (·.1) = false
  | .cons e r => by
    show (backTo p (starEach (trE nm e :: trL nm r) env)).any (·.1) = false
    rw [tr_star]
    show (false || (backTo p (starEach (trL nm r) env)).any (·.1)) = false
    rw [tr_any nm env p r]; rfl
  | .k _ _ | .v _ _ | .g _ _ | .bin _ _ _ _ | .neg _ _ | .cmp _ _ _ _ | .or _ _ _ | .ife _ _ _ _ | .call _ _ _ _ | .bi _ _ _ _ | .cnt _ _ _ _ | .idx _ _ _ | .slU _ _ _ _ | .slL _ _ _ _ | .slB _ _ _ _ _ | .tup _ _ | .lst _ _
  | .comp _ _ _ _ _ _ _ | .compIf _ _ _ _ _ _ _ _ | .nil => rfl
section
variable {prog : Program} {w : World} {h₀ : Heap} {A : Around} {L : List Addr} {s : Shared} {ad : List Addr} {σ σ' : St} {E : Value → Shared → Prop} {C : FC} {ρ : Rho} {mg mb : Str → Option Value}
/-- a call of a builtin by its name -/
theorem ev_call {f : Str} {fv : Value} {e : Expr} {es : List Expr} {pf p : Pos} {vs : List V} {v : V} {σ₁ : St} (hf : ∀ s ad, Base h₀ s.heap ad → ∀ Q : Value → Shared → Prop, Q fv s → wpAny (model prog w) A (eval (.Name f pf) C.env) Q (fun _ _ => False) s)
    (hb : (∃ id, fv = .builtin id) ∨ ∃ T, fv = .type T) (hs : starEach (e :: es) C.env = (false, eval e C.env) :: starEach es C.env) (hp : (backTo p (starEach (e :: es) C.env)).any (·.1) = false)
    (ha : LvT prog w h₀ A C (e :: es) ρ σ vs σ₁)
    (hc : ∀ s ad us Q, At h₀ C s.heap ad σ₁ ρ → RelVs s.heap ad us vs → Wants C.fs s ad σ' v Q → wpAny (model prog w) A (call fv us) Q (fun _ _ => False) s) :
    EvT prog w h₀ A C (.Call (.Name f pf) (e :: es) [] p) ρ σ v σ' := by
  intro s ad Q at0 k
  refine wpAny_Call_NameR (hf s ad at0.base _ ?_)
  have hx := ha s ad p (fun us s₁ => wpAny (model prog w) A (call fv us) Q (fun _ _ => False) s₁) at0 fun us s' ad' x l r => hc s' ad' us Q (at0.mono x.ext l) r fun u s₂ ad₂ x₂ l₂ r₂ => k u s₂ ad₂ (x.trans x₂) l₂ r₂
  rw [hs] at hx hp ⊢
  rcases hb with ⟨id, rfl⟩ | ⟨T, rfl⟩
  · exact Calls.callWith_builtin hp (Calls.evalArgs_plain hx)
  · exact PyProof.Rows.callWith_type hp (Calls.evalArgs_plain hx)
theorem three_cmp {a b c : Value} {x y z : UInt64} (ra : RelV s.heap ad a (.flt x)) (rb : RelV s.heap ad b (.flt y)) (rc : RelV s.heap ad c (.flt z)) {i : Nat} {v : Value} (h : (#[a, b, c] : Array Value)[i]? = some v) : ∃ t, v = .float ([x, y, z].getD i 0) t := by
  obtain ⟨⟨t1, rfl⟩, ⟨t2, rfl⟩, ⟨t3, rfl⟩⟩ := And.intro ra (And.intro rb rc)
  match i, h with
  | 0, h => cases h; exact ⟨_, rfl⟩
  | 1, h => cases h; exact ⟨_, rfl⟩
  | 2, h => cases h; exact ⟨_, rfl⟩
  | n + 3, h => simp at h
theorem max3_ok {x y z : UInt64} {a b c : Value} {Q : Value → Shared → Prop} (hh : A.handled = none) (l : Led s.heap ad σ) (ra : RelV s.heap ad a (.flt x)) (rb : RelV s.heap ad b (.flt y)) (rc : RelV s.heap ad c (.flt z))
    (k : Wants L s ad σ (.flt (if Float64.cmp z (if Float64.cmp y x == some .gt then y else x) == some .gt then z else (if Float64.cmp y x == some .gt then y else x))) Q) : wpAny (model prog w) A (call (.builtin "max") [a, b, c]) Q E s := by
  have hT : (s.heap.push { cls := .type "tuple", data := .seq #[a, b, c] }).IsTuple s.heap.objs.size #[a, b, c] := ⟨_, Heap.get?_push_size _ rfl, rfl, 0, rfl⟩
  have hsz : (s.heap.push { cls := .type "tuple", data := .seq #[a, b, c] }).objs.size = s.heap.objs.size + 1 := Heap.size_push ..
  refine call_max_three (wpAny_pyIter_tuple hT ?_)
  refine ⟨_, [_, s.heap.objs.size], [_], _, _, _, fun i j => Float64.cmp ([x, y, z].getD i 0) ([x, y, z].getD j 0) == some .gt, rfl, Walks.tuple (A := A.in1) hh _ s.heap.objs.size (by rw [hsz]; exact Nat.ne_of_lt (Nat.lt_succ_self _)) #[a, b, c],
    ⟨⟨_, Heap.get?_push_size _ rfl, rfl, rfl⟩, hT.push _⟩, fun d hd => ?_, by simp, ?_, fun v h' tk hP hk => ?_⟩
  · show d < ((s.heap.push _).push _).objs.size
    rw [Heap.size_push, hsz]
    rcases List.mem_cons.mp hd with rfl | hd
    · rw [hsz]; exact Nat.lt_succ_self _
    · rcases List.mem_cons.mp hd with rfl | hd
      · exact Nat.lt_succ_of_lt (Nat.lt_succ_self _)
      · cases hd
  · intro i j vi vj s Q E hi hj h
    obtain ⟨t, rfl⟩ := three_cmp ra rb rc hi
    obtain ⟨t', rfl⟩ := three_cmp ra rb rc hj
    exact AutoFloatOps.gt_0 h
  · have kp : ∀ b o, s.heap.get? b = some o → h'.get? b = some o := fun b o e => by
      refine hk b o (fun hm => ?_) (Heap.get?_push_of_some _ (Heap.get?_push_of_some _ e))
      have := Heap.lt_size e
      rw [List.mem_singleton.mp hm, hsz] at this
      exact absurd this (Nat.not_lt.mpr (Nat.le_succ _))
    obtain ⟨t, rfl⟩ := three_cmp ra rb rc hP
    refine k _ _ ad (.grow kp) (l.keeps kp) ⟨t, ?_⟩
    congr 1
    simp only [argBest, List.size_toArray, List.length_cons, List.length_nil]
    by_cases h1 : Float64.cmp y x == some .gt <;> by_cases h2 : Float64.cmp z y == some .gt <;> by_cases h3 : Float64.cmp z x == some .gt <;> simp [h1, h2, h3]
theorem min3_ok {x y z : UInt64} {a b c : Value} {Q : Value → Shared → Prop} (hh : A.handled = none) (l : Led s.heap ad σ) (ra : RelV s.heap ad a (.flt x)) (rb : RelV s.heap ad b (.flt y)) (rc : RelV s.heap ad c (.flt z))
    (k : Wants L s ad σ (.flt (if fLt z (if fLt y x then y else x) then z else (if fLt y x then y else x))) Q) : wpAny (model prog w) A (call (.builtin "min") [a, b, c]) Q E s := by
  have hT : (s.heap.push { cls := .type "tuple", data := .seq #[a, b, c] }).IsTuple s.heap.objs.size #[a, b, c] := ⟨_, Heap.get?_push_size _ rfl, rfl, 0, rfl⟩
  have hsz : (s.heap.push { cls := .type "tuple", data := .seq #[a, b, c] }).objs.size = s.heap.objs.size + 1 := Heap.size_push ..
  refine call_min_three (wpAny_pyIter_tuple hT ?_)
  refine ⟨_, [_, s.heap.objs.size], [_], _, _, _, fun i j => fLt ([x, y, z].getD i 0) ([x, y, z].getD j 0), rfl, Walks.tuple (A := A.in1) hh _ s.heap.objs.size (by rw [hsz]; exact Nat.ne_of_lt (Nat.lt_succ_self _)) #[a, b, c],
    ⟨⟨_, Heap.get?_push_size _ rfl, rfl, rfl⟩, hT.push _⟩, fun d hd => ?_, by simp, ?_, fun v h' tk hP hk => ?_⟩
  · show d < ((s.heap.push _).push _).objs.size
    rw [Heap.size_push, hsz]
    rcases List.mem_cons.mp hd with rfl | hd
    · rw [hsz]; exact Nat.lt_succ_self _
    · rcases List.mem_cons.mp hd with rfl | hd
      · exact Nat.lt_succ_of_lt (Nat.lt_succ_self _)
      · cases hd
  · intro i j vi vj s Q E hi hj h
    obtain ⟨t, rfl⟩ := three_cmp ra rb rc hi
    obtain ⟨t', rfl⟩ := three_cmp ra rb rc hj
    exact AutoFloatOps.lt_0 h
  · have kp : ∀ b o, s.heap.get? b = some o → h'.get? b = some o := fun b o e => by
      refine hk b o (fun hm => ?_) (Heap.get?_push_of_some _ (Heap.get?_push_of_some _ e))
      have := Heap.lt_size e
      rw [List.mem_singleton.mp hm, hsz] at this
      exact absurd this (Nat.not_lt.mpr (Nat.le_succ _))
    obtain ⟨t, rfl⟩ := three_cmp ra rb rc hP
    refine k _ _ ad (.grow kp) (l.keeps kp) ⟨t, ?_⟩
    congr 1
    simp only [argBest, List.size_toArray, List.length_cons, List.length_nil]
    by_cases h1 : fLt y x <;> by_cases h2 : fLt z y <;> by_cases h3 : fLt z x <;> simp [h1, h2, h3]
theorem sum_ok {a : Addr} {vs : List Value} {ns : List Int} {Q : Value → Shared → Prop} (hh : A.handled = none) (l : Led s.heap ad σ) (hl : s.heap.IsList a vs.toArray) (hi : IntsAre vs ns) (k : Wants L s ad σ (.int ns.sum) Q) :
    wpAny (model prog w) A (call (.builtin "sum") [.ref a]) Q E s := by
  obtain ⟨xs, hx⟩ := hi.allInts.items
  have hn := hi.numsOf
  rw [hx] at hl
  refine sum_intListG hh hl fun h' tk t' kp => ?_
  have e : preSum (numAt xs) xs.size = ns.sum := by
    rw [preSum_eq, List.take_of_length_le (by simp), ← nums_intItems, ← hx]
    show (numsOf vs).sum = _
    rw [hn]
  rw [e]
  exact k _ _ ad (.grow kp) (l.keeps kp) ⟨_, rfl⟩
end
end Mine
end

section
set_option maxRecDepth 100000
set_option autoImplicit false
namespace Mine
open PySem PySem.W PyProof.Rows
theorem ns_one {h : Heap} {L : Addr} {m m' : Str → Option Value} (a : h.Ns L m) (b : h.Ns L m') : m = m' := by
  obtain ⟨o, es, ep, ho, hd, _, hm⟩ := a
  obtain ⟨o', es', ep', ho', hd', _, hm'⟩ := b
  rw [ho] at ho'; cases ho'
  rw [hd] at hd'; cases hd'
  funext x
  rw [← hm, ← hm']
/-- all that lies in a heap, but for one object -/
noncomputable def others (h : Heap) (L : Addr) : List (Addr × Obj) := (List.range h.objs.size).filterMap fun a => if a = L then none else (h.get? a).map fun o => (a, o)
theorem mem_others {h : Heap} {L a : Addr} {o : Obj} : (a, o) ∈ others h L ↔ h.get? a = some o ∧ a ≠ L := by
  unfold others
  rw [List.mem_filterMap]
  constructor
  · rintro ⟨b, hb, e⟩
    by_cases q : b = L
    · rw [if_pos q] at e; cases e
    · rw [if_neg q] at e
      simp only [Option.map_eq_some_iff, Prod.mk.injEq] at e
      obtain ⟨o', ho, rfl, rfl⟩ := e
      exact ⟨ho, q⟩
  · rintro ⟨ho, q⟩
    refine ⟨a, List.mem_range.mpr (Heap.lt_size ho), ?_⟩
    rw [if_neg q, ho]; rfl
noncomputable def h00 : Heap := { objs := #[] }
theorem h00_none (a : Addr) : h00.get? a = none := Heap.get?_none_of_le (Nat.zero_le _)
theorem fr_of {h : Heap} {L : Addr} {m : Str → Option Value} (n : h.Ns L m) : Fr h00 L h m := ⟨n, (fun b o e => by rw [h00_none] at e; cases e), Nat.zero_le _⟩
theorem news_of (h : Heap) (L : Addr) : News h00 L h (others h L) := fun p hp => by
  obtain ⟨a, o⟩ := p
  obtain ⟨h1, h2⟩ := mem_others.mp hp
  exact ⟨h1, h2, h00_none _⟩
/-- the ledger stands, and is one list longer -/
theorem Led.push' {L : List Addr} {l₀ : Addr} {h h' : Heap} {ad : List Addr} {σ : St} (l : Led h ad σ) (n : IsNs h L) (hm : l₀ ∈ L) (hL : ∀ l, l ∈ L → l ∉ ad) (k : ∀ b o, b ≠ l₀ → h.get? b = some o → h'.get? b = some o) (kn : ∀ m, h.Ns l₀ m → h'.Ns l₀ m) {a : Addr} {vs : List Value} {x : List V}
    (hf : h.get? a = none) (hl : PlainL h' a (List.toArray vs)) (hr : RelVs h ad vs x) : Led h' (ad ++ [a]) (σ ++ [x]) ∧ Ext L h h' ad (ad ++ [a]) := by
  have X : Ext L h h' ad (ad ++ [a]) := ⟨fun b o _ q e => k b o (fun z => q (z ▸ hm)) e, fun l hl m e => by
      by_cases q : l = l₀
      · subst q; exact kn m e
      · exact e.at' fun o e' => k l o q e', ⟨[a], rfl⟩, fun b hb hn => by
    rcases List.mem_append.mp hb with q | q
    · exact absurd q hn
    · rw [List.mem_singleton.mp q]; exact hf, fun b o e => by
      by_cases q : b = l₀
      · subst q; obtain ⟨m, e⟩ := n _ hm; obtain ⟨o', _, _, ho, _⟩ := kn m e; exact ⟨o', ho⟩
      · exact ⟨o, k b o q e⟩⟩
  have up : ∀ {us : List Value} {ws : List V}, RelVs h ad us ws → RelVs h' (ad ++ [a]) us ws := fun q => q.mono n X
  refine ⟨⟨by simp [l.len], ?_, fun i b y hb hy => ?_⟩, X⟩
  · refine List.nodup_append.mpr ⟨l.nd, by simp, fun b hb c hc => ?_⟩
    rw [List.mem_singleton.mp hc]
    rintro rfl
    obtain ⟨o, ho⟩ := l.live hb
    rw [hf] at ho; cases ho
  · by_cases hi : i < ad.length
    · rw [List.getElem?_append_left hi] at hb
      rw [List.getElem?_append_left (by rw [← l.len]; exact hi)] at hy
      obtain ⟨ws, w1, w2⟩ := l.lists i b y hb hy
      have hbL : b ≠ l₀ := fun q => hL _ hm (q ▸ List.mem_of_getElem? hb)
      obtain ⟨o, n, ho, r⟩ := w1
      exact ⟨ws, ⟨o, n, k b o hbL ho, r⟩, up w2⟩
    · have hll := l.len
      rw [List.getElem?_append_right (by omega)] at hb hy
      rw [← l.len] at hy
      have hz : i - ad.length = 0 := by
        have := (List.getElem?_eq_some_iff.mp hb).1
        simp at this; omega
      rw [hz] at hb hy
      simp at hb hy
      subst hb hy
      exact ⟨vs, hl, up hr⟩
section
variable {prog : Program} {w : World} {h₀ : Heap} {A : Around} {L : Addr} {Ls : List Addr} {s : Shared} {ad : List Addr} {σ σ' : St} {E : Value → Shared → Prop}
/-- a pair of whole numbers in the heap -/
noncomputable def Pair (h : Heap) (L : Addr) (u : Value) (p : Int × Int) : Prop := ∃ a o n t t', u = .ref a ∧ a ≠ L ∧ h.get? a = some o ∧ o.cls = .type "tuple" ∧ o.data = .seq #[.int p.1 t, .int p.2 t'] n
theorem intP_inv {p : P} {n : Int} (h : intP p = some n) : p = .i n := by
  cases p with
  | i m => exact congrArg P.i (som h)
  | f w => exact (no h).elim
theorem pairT_inv {l : List P} {p : Int × Int} (h : pairT l = some p) : l = [.i p.1, .i p.2] := by
  cases l with
  | nil => exact (no h).elim
  | cons a r => cases r with
    | nil => exact (no h).elim
    | cons b q => cases q with
      | nil =>
        obtain ⟨x, h1, h⟩ := bnd h
        obtain ⟨y, h2, h⟩ := bnd h
        obtain rfl := som h
        rw [intP_inv h1, intP_inv h2]
      | cons _ _ => exact (no h).elim
theorem pairV_inv {v : V} {p : Int × Int} (h : pairV v = some p) : v = .tup [.i p.1, .i p.2] := by
  cases v with
  | tup l => exact congrArg V.tup (pairT_inv h)
  | _ => exact (no h).elim
theorem pairs_rel {h : Heap} {us : List Value} {x : List V} {ps : List (Int × Int)} (e : ipairs x = some ps) (r : RelVs h ad us x) : All2 (fun u (p : Int × Int) => RelV h ad u (.tup [.i p.1, .i p.2])) us ps := by
  induction r generalizing ps with
  | nil => obtain rfl := som e; exact .nil
  | cons h1 _ ih =>
    obtain ⟨p, hp, e⟩ := bnd e
    obtain ⟨q, hq, e⟩ := bnd e
    obtain rfl := som e
    exact .cons (pairV_inv hp ▸ h1) (ih hq)
theorem pair_of {h : Heap} (n : IsNs h [L]) {u : Value} {p : Int × Int} (r : RelV h ad u (.tup [.i p.1, .i p.2])) : Pair h L u p := by
  obtain ⟨ta, vs, rfl, ha, ht, hr⟩ := r
  obtain ⟨o, ho, hc, k, hd⟩ := ht
  cases hr with
  | cons g1 hr => cases hr with
    | cons g2 hr =>
      cases hr
      obtain ⟨t, rfl⟩ := g1
      obtain ⟨t', rfl⟩ := g2
      exact ⟨ta, o, k, t, t', rfl, fun q => n.ne_seq ho hd (by rw [q]; exact .head _), ho, hc, hd⟩
theorem ipairs_rel {h : Heap} (n : IsNs h [L]) {x : List V} {ps : List (Int × Int)} {us : List Value} (e : ipairs x = some ps) (r : RelVs h ad us x) : All2 (Pair h L) us ps := by
  have := pairs_rel e r
  clear e r
  induction this with
  | nil => exact .nil
  | cons h1 _ ih => exact .cons (pair_of n h1) ih
theorem All2.getD {α β : Type} {R : α → β → Prop} {l : List α} {m : List β} (h : All2 R l m) {i : Nat} (hi : i < m.length) (a : α) (b : β) : R (l.getD i a) (m.getD i b) := by
  obtain ⟨x, hx, hr⟩ := h.get (List.getElem?_eq_getElem hi)
  simp only [List.getD_eq_getElem?_getD, hx, List.getElem?_eq_getElem hi, Option.getD_some]
  exact hr
theorem ask_ok {us : List Value} {ps : List (Int × Int)} (r : All2 (Pair s.heap L) us ps) {i j : Nat} (hi : i < ps.length) (hj : j < ps.length) {C : Bool → Shared → Prop} (k : C (iLt (pAt ps i) (pAt ps j)) s) :
    kas_ask prog w A (tuples' true) us i j C s := by
  obtain ⟨a, o, n, t, t', ea, _, ho, _, hd⟩ := r.getD hi Value.none (0, 0)
  obtain ⟨b, o', n', u, u', eb, _, ho', _, hd'⟩ := r.getD hj Value.none (0, 0)
  unfold kas_ask
  rw [ea, eb]
  refine kat_lt ho hd ho' hd' ?_
  refine kat_cons (wpAny_eqBool_int ?_)
  show KatGo prog w A _ _ _ _ _ _ _ _ _
  unfold KatGo
  unfold iLt pAt at k
  by_cases e1 : (ps.getD i (0, 0)).1 = (ps.getD j (0, 0)).1
  · rw [if_pos e1] at k
    rw [if_pos (by simpa using e1)]
    refine kat_cons (wpAny_eqBool_int ?_)
    show KatGo prog w A _ _ _ _ _ _ _ _ _
    unfold KatGo
    by_cases e2 : (ps.getD i (0, 0)).2 = (ps.getD j (0, 0)).2
    · rw [if_pos (by simpa using e2)]
      show C _ s
      rw [e2] at k
      simpa using k
    · rw [if_neg (by simpa using e2)]
      exact kat_one _ _ (PyProof.Rows.lt_int k)
  · rw [if_neg e1] at k
    rw [if_neg (by simpa using e1)]
    exact oneLt_int k
theorem run_ok {us : List Value} {ps : List (Int × Int)} (r : All2 (Pair s.heap L) us ps) {α : Type} {Q : α → Shared → Prop} {a : α} : ∀ t : KasT α, runK ps.length (fun i j => iLt (pAt ps i) (pAt ps j)) t = some a → Q a s →
    t.kasWp (kas_ask prog w A (tuples' true) us) Q s
  | .ret b, e, q => by cases e; exact q
  | .ask i j k, e, q => by
    unfold runK at e
    split at e
    · rename_i h
      exact ask_ok r h.1 h.2 (run_ok r _ e q)
    · cases e
theorem pairs_mono {h h' : Heap} {us : List Value} {ps : List (Int × Int)} (r : All2 (Pair h L) us ps) (k : ∀ b o, b ≠ L → h.get? b = some o → h'.get? b = some o) : All2 (Pair h' L) us ps :=
  r.mono fun _ _ ⟨a, o, n, t, t', e, q, ho, x⟩ => ⟨a, o, n, t, t', e, q, k a o q ho, x⟩
theorem kat_tups {h : Heap} {us : List Value} {ps : List (Int × Int)} (r : All2 (Pair h L) us ps) : ∃ fs, KatTups h us fs ∧ fs.length = ps.length ∧ ∀ v ∈ fs, ∃ n t, v = .int n t := by
  induction r with
  | nil => exact ⟨[], .nil, rfl, fun v hv => by cases hv⟩
  | cons h1 _ ih =>
    obtain ⟨fs, h2, h3, h4⟩ := ih
    obtain ⟨a, o, n, t, t', rfl, _, ho, hc, hd⟩ := h1
    refine ⟨_ :: fs, .cons ho hc hd (f := .int _ t) rfl h2, by simp [h3], fun v hv => ?_⟩
    rcases List.mem_cons.mp hv with rfl | hv
    · exact ⟨_, _, rfl⟩
    · exact h4 v hv
theorem all2_map {α β γ : Type} {R : α → γ → Prop} (f : β → α) (g : β → γ) : ∀ l : List β, (∀ b ∈ l, R (f b) (g b)) → All2 R (l.map f) (l.map g)
  | [], _ => .nil
  | b :: l, h => .cons (h b (.head _)) (all2_map f g l fun c hc => h c (.tail _ hc))
theorem sorted_ok {a : Addr} {vs : List Value} {x : List V} {ps ys : List (Int × Int)} {Q : Value → Shared → Prop} (l : Led s.heap ad σ) (n : IsNs s.heap Ls) (hmL : L ∈ Ls) (hL : ∀ l, l ∈ Ls → l ∉ ad) (hl : s.heap.IsList a vs.toArray) (hr : RelVs s.heap ad vs x) (e : ipairs x = some ps)
    (h2 : 2 ≤ ps.length) (h64 : ps.length < 64) (hy : sortP ps = some ys) (k : Wants Ls s ad (σ ++ [ys.map fun p => .tup [.i p.1, .i p.2]]) (.lst σ.length) Q) : wpAny (model prog w) A (call (.builtin "sorted") [.ref a]) Q E s := by
  obtain ⟨m, hm⟩ := n L hmL
  have rp := ipairs_rel (L := L) (fun l hl => by rw [List.mem_singleton.mp hl]; exact ⟨m, hm⟩) e hr
  have rq := pairs_rel e hr
  have hlen : vs.length = ps.length := rp.length
  unfold sortP at hy
  simp only [Option.bind_eq_bind, Option.bind_eq_some_iff] at hy
  obtain ⟨p, hp, hy⟩ := hy
  split at hy
  · rename_i hall
    cases hy
    refine kat_sorted (fr_of hm) (news_of _ L) hl (by omega) (by omega) fun D e1 h' F N hD => ?_
    have N' : News h00 L h' (others s.heap L) := fun q hq => N q (.tail _ hq)
    have kp : ∀ b o, b ≠ L → s.heap.get? b = some o → h'.get? b = some o := fun b o q ho => (N' (b, o) (mem_others.mpr ⟨ho, q⟩)).1
    have rp' := pairs_mono rp kp
    obtain ⟨fs, hf, hfl, hfi⟩ := kat_tups rp'
    refine kat_kind (s := { s with heap := h' }) (T := .type "int") hf (by omega) (fun v hv => by obtain ⟨i, t, rfl⟩ := hfi v hv; exact Looks.of_pure rfl) (by decide) ?_
    rw [hlen]
    show KasT.kasWp (kas_ask prog w A.in1.in1 (tuples' true) vs) _ _ _
    refine run_ok (s := { s with heap := h' }) rp' _ hp ?_
    have DL : D ≠ L := (N _ (.head _)).2.1
    have D0 : s.heap.get? D = none := by
      cases q : s.heap.get? D with
      | none => rfl
      | some o => exact absurd (hD (D, o) (mem_others.mpr ⟨q, DL⟩)) (Nat.lt_irrefl _)
    refine KasFin.intro F N (.head fun q hq => Nat.ne_of_lt (hD q hq)) fun h'' c F' N'' => ?_
    have N3 : News h00 L h'' (others s.heap L) := fun q hq => N'' q (.tail _ hq)
    obtain ⟨l', x'⟩ := l.push' (h' := h'') (a := D) (vs := p.toList.map fun i => vs.getD i Value.none) (x := (p.toList.map (pAt ps)).map fun p => .tup [.i p.1, .i p.2]) n hmL hL
      (fun b o q ho => (N3 (b, o) (mem_others.mpr ⟨ho, q⟩)).1) (fun m' e' => by rw [ns_one e' hm]; exact F'.ns) D0 ⟨_, _, (N'' _ (.head _)).1, rfl, rfl, rfl⟩ (by
        rw [List.map_map]
        refine all2_map _ _ _ fun i hi => ?_
        have hi' : i < ps.length := by simpa using List.all_eq_true.mp hall i hi
        exact rq.getD hi' Value.none (0, 0))
    refine k _ { s with heap := h'' } (ad ++ [D]) ⟨x', .refl _, rfl, rfl⟩ l' ⟨D, rfl, ?_⟩
    rw [← l.len]; simp
  · cases hy
end
end Mine
end

section
set_option maxRecDepth 100000
set_option autoImplicit false
namespace Mine
open PySem PySem.W PyProof.Rows
noncomputable def NotSeq (h : Heap) (W : Addr) : Prop := ∀ o xs n, h.get? W = some o → o.data ≠ .seq xs n
theorem RelV.but {h h' : Heap} {W : Addr} {ad : List Addr} {u : Value} {v : V} (r : RelV h ad u v) (hs : Heap.ExtBut W h h') (hW : NotSeq h W) : RelV h' ad u v := by
  cases v with
  | tup l =>
    obtain ⟨a, vs, e, ha, ht, hr⟩ := r
    obtain ⟨o, ho, hc, n, hd⟩ := id ht
    exact ⟨a, vs, e, ha, ⟨o, hs a o (fun q => hW o _ n (q ▸ ho) hd) ho, hc, n, hd⟩, hr⟩
  | frz l =>
    obtain ⟨a, vs, e, ha, ht, hr⟩ := r
    obtain ⟨o, ho, hc, n, hd⟩ := id ht
    exact ⟨a, vs, e, ha, ht.at fun o' e' => hs a o' (fun q => hW o _ n (q ▸ ho) hd) e', hr⟩
  | _ => exact r
theorem Led.notMem {h : Heap} {ad : List Addr} {σ : St} (l : Led h ad σ) {W : Addr} (hW : NotSeq h W) : W ∉ ad := fun m => by
  obtain ⟨k, hk, e⟩ := List.mem_iff_getElem.mp m
  have hk' : k < σ.length := by rw [← l.len]; exact hk
  obtain ⟨vs, ⟨o, n, ho, _, _, hd⟩, _⟩ := l.lists k W _ (by rw [List.getElem?_eq_getElem hk, e]) (List.getElem?_eq_getElem hk')
  exact hW o _ n ho hd
theorem Led.but {h h' : Heap} {W : Addr} {ad : List Addr} {σ : St} (l : Led h ad σ) (hs : Heap.ExtBut W h h') (hW : NotSeq h W) : Led h' ad σ := by
  have hm := l.notMem hW
  refine ⟨l.len, l.nd, fun k a x ha hx => ?_⟩
  obtain ⟨vs, hl, hr⟩ := l.lists k a x ha hx
  exact ⟨vs, hl.extBut hs (fun q => hm (q ▸ List.mem_of_getElem? ha)), All2.mono hr fun _ _ q => RelV.but q hs hW⟩
theorem ns_notSeq {h : Heap} {W : Addr} {m : Str → Option Value} (n : h.Ns W m) : NotSeq h W := fun o xs k ho hd => by
  obtain ⟨o', es, ep, ho', hd', _⟩ := n
  rw [ho] at ho'; cases ho'
  rw [hd] at hd'; cases hd'
theorem Nx.but {L : List Addr} {W : Addr} {s₁ s : Shared} {ad₁ ad : List Addr} {h' : Heap} {t : Nat} (N : Nx L s₁ s ad₁ ad) (w0 : s₁.heap.get? W = none) (hs : Heap.ExtBut W s.heap h') : Nx L s₁ { s with heap := h', toks := t } ad₁ ad := by
  have ne : ∀ b o, s₁.heap.get? b = some o → b ≠ W := fun b o e q => by rw [q, w0] at e; cases e
  refine ⟨⟨fun b o hb hL e => hs b o (ne b o e) (N.ext.keep b o hb hL e), fun l hl m e => ?_, N.ext.pre, N.ext.fresh, fun b o e => ?_⟩, N.gx, N.dr, N.os⟩
  · obtain ⟨o, _, _, ho, _⟩ := id e
    exact (N.ext.nsL l hl m e).at' fun o' e' => hs _ _ (ne l o ho) e'
  · obtain ⟨o', e'⟩ := N.ext.live b o e
    exact ⟨o', hs b o' (ne b o e) e'⟩
theorem Nx.under {L : List Addr} {W : Addr} {s₁ s s' : Shared} {ad₁ ad ad' : List Addr} (N : Nx L s₁ s ad₁ ad) (w0 : s₁.heap.get? W = none) (M : Nx (W :: L) s s' ad ad') : Nx L s₁ s' ad₁ ad' := by
  have ne : ∀ b o, s₁.heap.get? b = some o → b ≠ W := fun b o e q => by rw [q, w0] at e; cases e
  refine ⟨⟨fun b o hb hL e => M.ext.keep b o (N.ext.off hb e) (fun q => (List.mem_cons.mp q).elim (ne b o e) hL) (N.ext.keep b o hb hL e), fun l hl m e => M.ext.nsL l (.tail _ hl) m (N.ext.nsL l hl m e), ?_, fun a ha hn => ?_, fun b o e => ?_⟩, N.gx.trans M.gx, M.dr.trans N.dr, M.os.trans N.os⟩
  · obtain ⟨e1, r1⟩ := N.ext.pre
    obtain ⟨e2, r2⟩ := M.ext.pre
    exact ⟨e1 ++ e2, by rw [r2, r1, List.append_assoc]⟩
  · by_cases h1 : a ∈ ad
    · exact N.ext.fresh a h1 hn
    · have := M.ext.fresh a ha h1
      cases e : s₁.heap.get? a with
      | none => rfl
      | some o => obtain ⟨o', e'⟩ := N.ext.live a o e; rw [e'] at this; cases this
  · obtain ⟨o1, e1⟩ := N.ext.live b o e
    exact M.ext.live b o1 e1
/-- an iterator over what the evaluator calls src -/
structure SrcOk (prog : Program) (w : World) (A : Around) (I : Addr) (ad₁ : List Addr) (src : St → Option (List V)) (Src : Heap → Nat → Prop) : Prop where
  obj : ∀ h i, Src h i → NotSeq h I ∧ ∃ o, h.get? I = some o
  keep : ∀ h h' ad σ i, (∃ ex, ad = ad₁ ++ ex) → Src h i → Led h ad σ → (∀ b o, b ∉ ad → (b = I ∨ ∃ xs n, o.data = .seq xs n) → h.get? b = some o → h'.get? b = some o) → Src h' i
  item : ∀ (s : Shared) ad σ i x v Q E, (∃ ex, ad = ad₁ ++ ex) → Src s.heap i → Led s.heap ad σ → src σ = some x → x[i]? = some v →
    (∀ u h' tk, Heap.ExtBut I s.heap h' → Src h' (i + 1) → RelV s.heap ad u v → Q (some u) { s with heap := h', toks := tk }) → wpAny (model prog w) A (pyNext (.ref I)) Q E s
  fin : ∀ (s : Shared) ad σ i x Q E, (∃ ex, ad = ad₁ ++ ex) → Src s.heap i → Led s.heap ad σ → src σ = some x → x[i]? = none → (∀ h' tk, Heap.ExtBut I s.heap h' → Q none { s with heap := h', toks := tk }) → wpAny (model prog w) A (pyNext (.ref I)) Q E s
  self : ∀ (s : Shared) i (Q : Value → Shared → Prop) E, Src s.heap i → Q (.ref I) s → wpAny (model prog w) A (pyIter (.ref I)) Q E s
section
variable {prog : Program} {w : World} {A : Around}
theorem src_list (hh : A.handled = none) {I ax : Addr} {k : Nat} {ad₁ : List Addr} (hk : ad₁[k]? = some ax) (hI : ax ≠ I) : SrcOk prog w A I ad₁ (fun σ => σ[k]?) (fun h i => h.IsListIter I ax i) where
  obj := fun h i ⟨o, ho, _, hd⟩ => ⟨(fun o' xs n e hd' => by rw [ho] at e; cases e; rw [hd] at hd'; cases hd'), o, ho⟩
  keep := fun h h' ad σ i _ hi l kp => by
    obtain ⟨o, ho, hc, hd⟩ := hi
    exact ⟨o, kp I o (l.notMem fun o' xs n e hd' => by rw [ho] at e; cases e; rw [hd] at hd'; cases hd') (.inl rfl) ho, hc, hd⟩
  item := fun s ad σ i x v Q E ⟨ex, he⟩ hi l hx hv h => by
    have ha : ad[k]? = some ax := by rw [he, List.getElem?_append_left (List.getElem?_eq_some_iff.mp hk).1]; exact hk
    obtain ⟨vs, hl, hr⟩ := l.lists k ax x ha hx
    obtain ⟨u, hu, hru⟩ := hr.get hv
    exact wpAny_pyNext_list_item hi hl.isList (x := u) (by simpa using hu) fun h' hit hs => h u h' s.toks hs.extBut hit hru
  fin := fun s ad σ i x Q E ⟨ex, he⟩ hi l hx hv h => by
    have ha : ad[k]? = some ax := by rw [he, List.getElem?_append_left (List.getElem?_eq_some_iff.mp hk).1]; exact hk
    obtain ⟨vs, hl, hr⟩ := l.lists k ax x ha hx
    have := hr.getN hv
    exact wpAny_pyNext_list_end hh hi hl.isList (by simpa using this) fun h' hs => h h' s.toks hs
  self := fun s i Q E hi h => wpAny_pyIter_listiter hi h
theorem ofPs_rel {h : Heap} {ad : List Addr} {vs : List Value} {l : List P} (r : All2 RelP vs l) : RelVs h ad vs (l.map ofP) := by
  induction r with
  | nil => exact .nil
  | cons h1 _ ih => exact .cons (ofP_rel h1) ih
theorem src_tup (hh : A.handled = none) {I a : Addr} {vs : List Value} {l : List P} {ad₁ : List Addr} (hI : a ≠ I) (hr : All2 RelP vs l) : SrcOk prog w A I ad₁ (fun _ => some (l.map ofP)) (fun h i => h.IsTupleIter I a i ∧ IsTup h a vs.toArray) where
  obj := fun h i ⟨⟨o, ho, _, hd⟩, _⟩ => ⟨(fun o' xs n e hd' => by rw [ho] at e; cases e; rw [hd] at hd'; cases hd'), o, ho⟩
  keep := fun h h' ad σ i _ hi l kp => by
    obtain ⟨⟨o, ho, hc, hd⟩, ⟨o', ho', hc', n, hd'⟩⟩ := hi
    refine ⟨⟨o, kp I o (l.notMem fun o' xs n e hd' => by rw [ho] at e; cases e; rw [hd] at hd'; cases hd') (.inl rfl) ho, hc, hd⟩, o', kp a o' (fun m => ?_) (.inr ⟨_, n, hd'⟩) ho', hc', n, hd'⟩
    obtain ⟨k, hk, e⟩ := List.mem_iff_getElem.mp m
    have hk' : k < σ.length := by rw [← l.len]; exact hk
    obtain ⟨vs, ⟨o2, n, h2, hc2, _, hd2⟩, _⟩ := l.lists k a _ (by rw [List.getElem?_eq_getElem hk, e]) (List.getElem?_eq_getElem hk')
    rw [h2] at ho'; cases ho'
    rw [hc2] at hc'
    exact absurd hc' (by decide)
  item := fun s ad σ i x v Q E _ hi _ hx hv h => by
    cases hx
    obtain ⟨u, hu, hru⟩ := (ofPs_rel (h := s.heap) (ad := ad) hr).get hv
    refine wpAny_pyNext_tuple_item hi.1 hi.2 (x := u) (by simpa using hu) fun h' hit hs => h u h' s.toks hs.extBut ⟨hit, ?_⟩ hru
    exact isTup_get hi.2 fun o e => (hs.2 a hI).trans e
  fin := fun s ad σ i x Q E _ hi _ hx hv h => by
    cases hx
    have := (ofPs_rel (h := s.heap) (ad := ad) hr).getN hv
    exact wpAny_pyNext_tuple_end hh hi.1 hi.2 (by simpa using this) fun h' hs => h h' s.toks hs
  self := fun s i Q E hi h => wpAny_pyIter_tupleiter hi.1 h
theorem upFrom_get {lo hi : Int} {i : Nat} {v : V} (h : (upFrom lo hi)[i]? = some v) : i < (hi - lo).toNat ∧ v = .int (lo + (i : Nat)) := by
  unfold upFrom at h
  rw [List.getElem?_map, Option.map_eq_some_iff] at h
  obtain ⟨j, hj, rfl⟩ := h
  obtain ⟨h1, h2⟩ := List.getElem?_eq_some_iff.mp hj
  rw [List.getElem_range] at h2
  subst h2
  exact ⟨by simpa using h1, rfl⟩
theorem upFrom_none {lo hi : Int} {i : Nat} (h : (upFrom lo hi)[i]? = none) : (hi - lo).toNat ≤ i := by
  unfold upFrom at h
  rw [List.getElem?_eq_none_iff, List.length_map, List.length_range] at h
  exact h
theorem src_range (hh : A.handled = none) {I : Addr} {lo hi : Int} {ad₁ : List Addr} : SrcOk prog w A I ad₁ (fun _ => some (upFrom lo hi)) (fun h i => i ≤ (hi - lo).toNat ∧ IsRangeIter h I (lo + (i : Nat) * 1) (((hi - lo).toNat : Int) - (i : Nat)) 1) where
  obj := fun h i ⟨_, ho⟩ => ⟨(fun o' xs n e hd' => by rw [show h.get? I = _ from ho] at e; cases e; cases hd'), _, ho⟩
  keep := fun h h' ad σ i _ ⟨hS, ho⟩ l kp => ⟨hS, kp I _ (l.notMem fun o' xs n e hd' => by rw [show h.get? I = _ from ho] at e; cases e; cases hd') (.inl rfl) ho⟩
  item := fun s ad σ i x v Q E _ hS _ hx hv h => by
    cases hx
    obtain ⟨hlt, rfl⟩ := upFrom_get hv
    refine (Walks.range (prog := prog) (w := w) (A := A) hh I lo 1 (hi - lo).toNat).item i s Q E hlt hS.2 fun u h' tk ⟨t, e⟩ st kp => ?_
    subst e
    exact h _ h' tk (fun b o hb e => kp b o (by simpa using hb) e) ⟨hlt, st⟩ ⟨t, by rw [Int.mul_one]⟩
  fin := fun s ad σ i x Q E _ hS _ hx hv h => by
    cases hx
    have e : i = (hi - lo).toNat := Nat.le_antisymm hS.1 (upFrom_none hv)
    subst e
    refine (Walks.range (prog := prog) (w := w) (A := A) hh I lo 1 (hi - lo).toNat).done s Q E hS.2 fun h' tk kp => ?_
    exact h h' tk fun b o hb e => kp b o (by simpa using hb) e
  self := fun s i Q E hS h => (Walks.range (prog := prog) (w := w) (A := A) hh I lo 1 (hi - lo).toNat).self i s Q E hS.2 h
end
end Mine
end

section
set_option maxRecDepth 100000
set_option autoImplicit false
namespace Mine
open PySem PySem.W PyProof.Rows
theorem mem_of_lookup {α β : Type} [BEq α] [LawfulBEq α] {x : α} {k : β} : ∀ {l : List (α × β)}, l.lookup x = some k → (x, k) ∈ l
  | [], h => by simp at h
  | (y, j) :: r, h => by
    rw [List.lookup_cons] at h
    split at h
    · rename_i e; cases h; rw [eq_of_beq e]; exact .head _
    · exact .tail _ (mem_of_lookup h)
/-- what a comprehension's own names must be -/
structure ScOk (C : FC) (sc : Scope) (t : Nat) (fv : List Nat) : Prop where
  kind : sc.kind = .function
  nocell : ∀ y ∈ sc.names, y.2 ≠ .cell
  names : ∀ y ∈ sc.names, y.2 = .local → sc.names.lookup y.1 = some .local
  tgt : sc.names.lookup (C.nm t) = some .local
  lt : t < C.nv
  free : ∀ y ∈ sc.names, y.2 = .free → C.env.kindOf y.1 = some .cell
  fv : ∀ i, i ∈ fv → sc.names.lookup (C.nm i) = some .free
theorem closure_go (env : Env) : ∀ (names : List (Str × NameKind)) (acc : List (Str × Addr)), (∀ y ∈ names, y.2 = .free → (env.cells.lookup y.1).isSome) → (∀ x c, acc.lookup x = some c → env.cells.lookup x = some c) →
    ∃ cl, (forIn names acc fun (x : Str × NameKind) cs => (if (x.2 == .free) = true then do let a ← cellOf env x.1; pure (ForInStep.yield ((x.1, a) :: cs)) else pure (ForInStep.yield cs) : Sem (ForInStep (List (Str × Addr))))) = pure cl ∧
      (∀ x c, cl.lookup x = some c → env.cells.lookup x = some c) ∧ (∀ x, (acc.lookup x).isSome → (cl.lookup x).isSome) ∧ ∀ x, (x, NameKind.free) ∈ names → (cl.lookup x).isSome
  | [], acc, _, h2 => ⟨acc, rfl, h2, fun _ h => h, fun _ h => by cases h⟩
  | (x, k) :: r, acc, h1, h2 => by
    by_cases hk : k = .free
    · subst hk
      obtain ⟨c, hc⟩ := Option.isSome_iff_exists.mp (h1 (x, .free) (.head _) rfl)
      obtain ⟨cl, e, g1, g2, g3⟩ := closure_go env r ((x, c) :: acc) (fun y hy => h1 y (.tail _ hy)) fun y d hd => by
        rw [List.lookup_cons] at hd
        split at hd
        · rename_i e; cases hd; rw [eq_of_beq e]; exact hc
        · exact h2 y d hd
      refine ⟨cl, ?_, g1, fun y hy => g2 y ?_, fun y hy => ?_⟩
      · rw [List.forIn_cons]
        have : cellOf env x = pure c := by unfold cellOf; rw [hc]
        simp only [this]
        exact e
      · rw [List.lookup_cons]; split
        · rfl
        · exact hy
      · rcases List.mem_cons.mp hy with q | q
        · cases q; exact g2 x (by simp [List.lookup_cons])
        · exact g3 y q
    · obtain ⟨cl, e, g1, g2, g3⟩ := closure_go env r acc (fun y hy => h1 y (.tail _ hy)) h2
      refine ⟨cl, ?_, g1, g2, fun y hy => ?_⟩
      · rw [List.forIn_cons]
        have : (k == NameKind.free) = false := by simpa using hk
        simp only [this]
        exact e
      · rcases List.mem_cons.mp hy with q | q
        · cases q; exact absurd rfl hk
        · exact g3 y q
theorem closure_ok {C : FC} {sc : Scope} {t : Nat} {fv : List Nat} (ok : FCOk C) (S : ScOk C sc t fv) : ∃ cl, closureFor sc C.env = pure cl ∧ (∀ x c, cl.lookup x = some c → C.env.cells.lookup x = some c) ∧ ∀ x, (x, NameKind.free) ∈ sc.names → (cl.lookup x).isSome := by
  obtain ⟨cl, e, g1, _, g3⟩ := closure_go C.env sc.names [] (fun y hy hk => ok.cc _ (S.free y hy hk)) (fun x c h => by simp at h)
  refine ⟨cl, ?_, g1, g3⟩
  have e' : (forIn sc.names ([] : List (Str × Addr)) fun x (__s : List (Str × Addr)) => match x with | (name, kind) => (if (kind == NameKind.free) = true then do let a ← cellOf C.env name; pure (ForInStep.yield ((name, a) :: __s)) else pure (ForInStep.yield __s) : Sem (ForInStep (List (Str × Addr))))) = pure cl := e
  unfold closureFor
  show (_ >>= fun cs => pure cs) = _
  rw [e']
  rfl
noncomputable def FC.comp (C : FC) (sc : Scope) (cl : List (Str × Addr)) (Cc : Addr) : FC := ⟨compEnvC sc cl Cc C.env, C.nm, C.nv, C.fs⟩
theorem lookup_relabel (sc : Scope) (env : Env) (x : Str) : (relabel sc env).names.lookup x = (sc.names.lookup x).map fun k => if (k == .free && env.scope.kind == .function && env.kindOf x == some .cell) = true then .cell else k := by
  show (sc.names.map fun (n, k) => if (k == .free && env.scope.kind == .function && env.kindOf n == some .cell) then (n, NameKind.cell) else (n, k)).lookup x = _
  induction sc.names with
  | nil => rfl
  | cons y r ih =>
    obtain ⟨n, k⟩ := y
    rw [List.map_cons]
    by_cases hx : x == n
    · have e := eq_of_beq hx
      subst e
      by_cases hc : (k == .free && env.scope.kind == .function && env.kindOf x == some .cell) = true
      · simp only [hc, if_true, List.lookup_cons, beq_self_eq_true, Option.map_some]
      · simp only [Bool.not_eq_true] at hc; simp only [hc, Bool.false_eq_true, if_false, List.lookup_cons, beq_self_eq_true, Option.map_some]
    · have hx : (x == n) = false := by simpa using hx
      by_cases hc : (k == .free && env.scope.kind == .function && env.kindOf n == some .cell) = true
      · simp only [hc, if_true, List.lookup_cons, hx]; exact ih
      · simp only [Bool.not_eq_true] at hc; simp only [hc, Bool.false_eq_true, if_false, List.lookup_cons, hx]; exact ih
theorem comp_kind {C : FC} {sc : Scope} {cl : List (Str × Addr)} {Cc : Addr} (ok : FCOk C) (x : Str) : (C.comp sc cl Cc).env.kindOf x = (sc.names.lookup x).map fun k => if (k == .free && C.env.kindOf x == some .cell) = true then .cell else k := by
  show (relabel sc C.env).names.lookup x = _
  rw [lookup_relabel, ok.kind]
  simp
theorem FCOk.comp {C : FC} {sc : Scope} {t : Nat} {fv : List Nat} {cl : List (Str × Addr)} {Cc : Addr} (ok : FCOk C) (S : ScOk C sc t fv) (h1 : ∀ x c, cl.lookup x = some c → C.env.cells.lookup x = some c) (h2 : ∀ x, (x, NameKind.free) ∈ sc.names → (cl.lookup x).isSome) (hn : Cc ∉ C.fs) :
    FCOk (C.comp sc cl Cc) where
  nd := hn
  kind := S.kind
  glob := ok.glob
  bi := ok.bi
  inj := ok.inj
  dbg := ok.dbg
  cd := ok.cd
  cinj := fun i j c hi hj e1 e2 => ok.cinj i j c hi hj (h1 _ _ e1) (h1 _ _ e2)
  cc := fun x e => by
    rw [comp_kind ok] at e
    simp only [Option.map_eq_some_iff] at e
    obtain ⟨k, hk, e⟩ := e
    split at e
    · rename_i hc
      simp only [Bool.and_eq_true, beq_iff_eq] at hc
      obtain ⟨rfl, _⟩ := hc
      exact h2 x (mem_of_lookup hk)
    · subst e; exact absurd rfl (S.nocell _ (mem_of_lookup hk))
theorem compRho_len (ρ : Rho) (fv : List Nat) : ∀ n, (compRho ρ fv n).length = n
  | 0 => rfl
  | n + 1 => by simp [compRho, compRho_len ρ fv n]
theorem compRho_get (ρ : Rho) (fv : List Nat) : ∀ (n i : Nat) (v : V), get (compRho ρ fv n) i = some v → i ∈ fv ∧ get ρ i = some v
  | 0, i, v, h => by simp [compRho, get] at h
  | n + 1, i, v, h => by
    have hl := compRho_len ρ fv n
    unfold compRho get at h
    by_cases hi : i < n
    · rw [List.getElem?_append_left (by omega)] at h
      exact compRho_get ρ fv n i v h
    · rw [List.getElem?_append_right (by omega), hl] at h
      by_cases hn : i = n
      · subst hn
        simp at h
        exact h
      · have : i - n ≠ 0 := by omega
        obtain ⟨j, hj⟩ := Nat.exists_eq_succ_of_ne_zero this
        rw [hj] at h
        simp at h
theorem At.comp {h₀ h : Heap} {C : FC} {ad : List Addr} {σ : St} {ρ : Rho} {sc : Scope} {t : Nat} {fv : List Nat} {cl : List (Str × Addr)} {Cc : Addr} {m : Str → Option Value} {u : Value} {v : V} (ok : FCOk C) (a : At h₀ C h ad σ ρ) (S : ScOk C sc t fv)
    (h1 : ∀ x c, cl.lookup x = some c → C.env.cells.lookup x = some c) (h2 : ∀ x, (x, NameKind.free) ∈ sc.names → (cl.lookup x).isSome) (hC : h.Ns Cc m) (hm : m (C.nm t) = some u) (r : RelV h ad u v) (l0 : h₀.get? Cc = none) :
    At h₀ (C.comp sc cl Cc) h ad σ (put (compRho ρ fv ρ.length) t v) := by
  have hlen := compRho_len ρ fv ρ.length
  have cases' : ∀ i y, get (put (compRho ρ fv ρ.length) t v) i = some y → (i = t ∧ y = v) ∨ (i ≠ t ∧ i ∈ fv ∧ get ρ i = some y) := fun i y e => by
    by_cases hi : t = i
    · subst hi
      rw [get_put_self (by rw [hlen, a.act.len]; exact S.lt)] at e
      cases e; exact .inl ⟨rfl, rfl⟩
    · rw [get_put_ne hi] at e
      obtain ⟨e1, e2⟩ := compRho_get ρ fv _ _ _ e
      exact .inr ⟨fun q => hi q.symm, e1, e2⟩
  have kt : (C.comp sc cl Cc).env.kindOf (C.nm t) = some .local := by rw [comp_kind ok, S.tgt]; rfl
  have kf : ∀ i, i ∈ fv → (C.comp sc cl Cc).env.kindOf (C.nm i) = some .cell := fun i hi => by
    rw [comp_kind ok, S.fv i hi, Option.map_some, S.free _ (mem_of_lookup (S.fv i hi)) rfl]; rfl
  refine ⟨a.base, a.led, ⟨by rw [len_put, hlen]; exact a.act.len, ⟨m, hC, fun i y e k => ?_⟩, fun l hl => ?_, a.act.isNs, fun i y e => ?_, fun i c hi hc => ?_⟩, fun l hl => ?_, fun i c hi hc => a.c0 i c hi (h1 _ _ hc)⟩
  · rcases cases' i y e with ⟨rfl, rfl⟩ | ⟨_, hf, _⟩
    · exact ⟨u, hm, r⟩
    · rw [show (C.comp sc cl Cc).nm = C.nm from rfl, kf i hf] at k; cases k
  · rcases List.mem_cons.mp hl with rfl | hl
    · exact a.led.notMem (ns_notSeq hC)
    · exact a.act.nL l hl
  · rcases cases' i y e with ⟨rfl, rfl⟩ | ⟨_, hf, _⟩
    · exact .inl kt
    · exact .inr ⟨.inl (kf i hf), h2 _ (mem_of_lookup (S.fv i hf))⟩
  · have hc' : C.env.cells.lookup (C.nm i) = some c := h1 _ _ hc
    obtain ⟨g1, x, g2, g3⟩ := a.act.cel i c hi hc'
    refine ⟨g1, x, g2, fun k y e => ?_⟩
    rcases cases' i y e with ⟨rfl, rfl⟩ | ⟨_, hf, e'⟩
    · rw [show (C.comp sc cl Cc).nm = C.nm from rfl, kt] at k
      rcases k with k | k <;> cases k
    · exact g3 (.inl (S.free _ (mem_of_lookup (S.fv i hf)) rfl)) y e'
  · rcases List.mem_cons.mp hl with rfl | hl
    · exact l0
    · exact a.l0 l hl
end Mine
end

section
set_option maxRecDepth 100000
set_option autoImplicit false
namespace Mine
open PySem PySem.W PyProof.Rows
section
variable {prog : Program} {w : World} {h₀ : Heap} {A : Around} {C : FC} {ρ : Rho} {σ : St}
noncomputable def IfsT (prog : Program) (w : World) (h₀ : Heap) (A : Around) (C : FC) (ifs : List Expr) (ρ : Rho) (σ : St) (b : Bool) (σ' : St) : Prop :=
  ∀ (s : Shared) (ad : List Addr) (Q : Bool → Shared → Prop), At h₀ C s.heap ad σ ρ → (∀ s' ad', Nx C.fs s s' ad ad' → Led s'.heap ad' σ' → Q b s') →
    wpAny (model prog w) A (forIn ifs true fun c r => if r = true then do let ok ← isTrue c C.env (eval c C.env); pure (ForInStep.yield ok) else pure (ForInStep.yield r)) Q (fun _ _ => False) s
theorem ifs_nil : IfsT prog w h₀ A C [] ρ σ true σ := fun s ad Q a k => wpAny_tests_nil (k s ad (.refl _ _ _) a.led)
theorem ifs_one {c : Expr} {b : Bool} {σ' : St} (h : TvT prog w h₀ A C c ρ σ b σ') : IfsT prog w h₀ A C [c] ρ σ b σ' := fun s ad Q a k => wpAny_tests_one (h s ad Q a k)
theorem Nx.mid {L : List Addr} {s s' : Shared} {ad ad₁ ad₂ : List Addr} (x : Nx L s s' ad ad₁) (h : ad₁ = ad₂) : Nx L s s' ad ad₂ := h ▸ x
theorem comp_kindF {sc : Scope} {cl : List (Str × Addr)} {Cc : Addr} {t : Nat} {fv : List Nat} (S : ScOk C sc t fv) : ((compEnvC sc cl Cc C.env).scope.kind == .class || ((compEnvC sc cl Cc C.env).scope.kind == .module && (compEnvC sc cl Cc C.env).locals != (compEnvC sc cl Cc C.env).globals)) = false := by
  have e : (compEnvC sc cl Cc C.env).scope.kind = .function := S.kind
  rw [e]; rfl
theorem comp_loop {elt iter : Expr} {t : Nat} {pt : Pos} {ifs : List Expr} {sc : Scope} {pos : Pos} {I D Cc : Addr} {cl : List (Str × Addr)} {fv : List Nat} {s₁ : Shared} {ad₁ : List Addr} {σ₁ σo : St} {src : St → Option (List V)} {Src : Heap → Nat → Prop}
    {eltE : Rho → St → Option (V × St)} {testE : Rho → St → Option (Bool × St)} {R : Result → Shared → Prop}
    (ok : FCOk C) (S : ScOk C sc t fv) (h1 : ∀ x c, cl.lookup x = some c → C.env.cells.lookup x = some c) (h2 : ∀ x, (x, NameKind.free) ∈ sc.names → (cl.lookup x).isSome)
    (a₁ : At h₀ C s₁.heap ad₁ σ₁ ρ) (SO : SrcOk prog w A I ad₁ src Src) (w1 : s₁.heap.get? I = none) (w2 : s₁.heap.get? Cc = none) (hIC : I ≠ Cc) (hID : I ≠ D)
    (hE : ∀ ρ σ y σ', eltE ρ σ = some (y, σ') → EvT prog w h₀ A (C.comp sc cl Cc) elt ρ σ y σ') (hT : ∀ ρ σ b σ', testE ρ σ = some (b, σ') → IfsT prog w h₀ A (C.comp sc cl Cc) ifs ρ σ b σ')
    (hR : ∀ s' ad', Nx C.fs s₁ s' ad₁ ad' → Led s'.heap ad' σo → ad'[σ₁.length]? = some D → (∃ m', s'.heap.Ns Cc m') → R (.ok .next) s') :
    ∀ (n : Nat) (s : Shared) (i : Nat) (σ : St) (ad : List Addr) (m : Str → Option Value), loopC src eltE testE t (compRho ρ fv ρ.length) σ₁.length n i σ = some σo → Nx C.fs s₁ s ad₁ ad → Led s.heap ad σ → s.heap.Ns Cc m → Src s.heap i →
      ad[σ₁.length]? = some D → codeAny (model prog w) A (.compLoop (.ListComp elt [⟨.Name (C.nm t) pt, iter, ifs, 0⟩] sc pos) 0 (.ref I) (.ref D) (compEnvC sc cl Cc C.env)) R s := by
  intro n s i σ ad m hl N L hC hS hD
  suffices H : ∀ Inv : Nat → Shared → Prop, (∀ n s, Inv n s ↔ ∃ i σ ad m, loopC src eltE testE t (compRho ρ fv ρ.length) σ₁.length n i σ = some σo ∧ Nx C.fs s₁ s ad₁ ad ∧ Led s.heap ad σ ∧ s.heap.Ns Cc m ∧ Src s.heap i ∧ ad[σ₁.length]? = some D) → Inv n s →
      codeAny (model prog w) A (.compLoop (.ListComp elt [⟨.Name (C.nm t) pt, iter, ifs, 0⟩] sc pos) 0 (.ref I) (.ref D) (compEnvC sc cl Cc C.env)) R s from H _ (fun _ _ => Iff.rfl) ⟨i, σ, ad, m, hl, N, L, hC, hS, hD⟩
  clear hl N L hC hS hD
  intro Inv hI h0
  refine codeAny_compLoop_tests Inv ?_ n h0
  clear h0
  intro n s h0
  obtain ⟨i, σ, ad, m, hl, N, L, hC, hS, hD⟩ := (hI _ _).mp h0
  clear h0
  cases n with
  | zero => exact (no hl).elim
  | succ n =>
    obtain ⟨x, hx, hl2⟩ := bnd hl
    clear hl
    have hl := hl2
    clear hl2
    have at0 : At h₀ C s.heap ad σ ρ := a₁.mono N.ext L
    obtain ⟨hIn, oI, hIo⟩ := SO.obj _ _ hS
    have nsC : NotSeq s.heap Cc := ns_notSeq hC
    split at hl
    · rename_i hv
      cases hl
      refine SO.fin s ad _ i x _ _ N.ext.pre hS L hx hv fun h' tk hs => ?_
      refine hR { s with heap := h', toks := tk } ad (N.but w1 hs) ?_ hD ⟨m, hC.at' fun o e => hs _ _ (Ne.symm hIC) e⟩
      exact L.but hs hIn
    · rename_i v hv
      refine SO.item s ad σ i x v _ _ N.ext.pre hS L hx hv fun u h' tk hs hS' hu => ?_
      have N1 := N.but (t := tk) w1 hs
      have L1 := L.but hs hIn
      have hu1 := hu.but hs hIn
      have C1 := hC.at' fun o e => hs _ _ (Ne.symm hIC) e
      refine wpAny_assign_Name (wpAny_storeName_local (lookup_relabel_local S.tgt) C1 (fun h₂ hn₂ hs₂ => ?_) (comp_kindF S))
      have nsC1 : NotSeq h' Cc := ns_notSeq C1
      have N2 := N1.but (t := tk + 1) w2 hs₂.extBut
      have L2 := L1.but hs₂.extBut nsC1
      have hu2 := hu1.but hs₂.extBut nsC1
      have S2 : Src h₂ (i + 1) := SO.keep _ _ ad σ _ N.ext.pre hS' L1 (fun b o hb hk e => (hs₂.2 b (fun q => by
        rcases hk with hk | ⟨xs, k, hk⟩
        · exact hIC (hk.symm.trans (show b = Cc from q))
        · exact nsC1 o xs k ((show b = Cc from q) ▸ e) hk)).trans e)
      have atC : At h₀ C h₂ ad σ ρ := a₁.mono N2.ext L2
      have at2 : At h₀ (C.comp sc cl Cc) h₂ ad σ (put (compRho ρ fv ρ.length) t v) := atC.comp ok S h1 h2 hn₂ (by simp) hu2 (a₁.base.fresh w2)
      obtain ⟨⟨b, σ₂⟩, ht, hl2⟩ := bnd hl
      clear hl
      have hl := hl2
      clear hl2
      have next : ∀ s₃ ad₃ σ₃, Nx (Cc :: C.fs) { s with heap := h₂, toks := tk + 1 } s₃ ad ad₃ → Led s₃.heap ad₃ σ₃ → Src s₃.heap (i + 1) := fun s₃ ad₃ σ₃ M L3 =>
        SO.keep _ _ ad σ _ N.ext.pre S2 L2 (fun b o hb hk e => M.ext.keep b o hb (fun q => by
        rcases hk with hk | ⟨xs, k, hk⟩
        · rw [hk] at q
          rcases List.mem_cons.mp q with q | q
          · exact hIC q
          · obtain ⟨m', o', _, _, ho', _⟩ := a₁.act.isNs I q
            rw [w1] at ho'; cases ho'
        · rcases List.mem_cons.mp q with q | q
          · exact ns_notSeq hn₂ o xs k (q ▸ e) hk
          · obtain ⟨m', hm'⟩ := atC.act.isNs b q
            exact ns_notSeq hm' o xs k e hk) e)
      refine wpAny_mono (hT _ _ _ _ ht { s with heap := h₂, toks := tk + 1 } ad _ at2 fun s₃ ad₃ M3 L3 => ?_) (fun _ _ z => z) fun _ _ z => z.elim
      cases b with
      | false =>
        have := M3.ext.nsL Cc (.head _) _ hn₂
        exact ⟨n, Nat.lt_succ_self _, (hI _ _).mpr ⟨i + 1, σ₂, ad₃, _, hl, N2.under w2 M3, L3, this, next _ _ _ M3 L3, M3.ext.idx hD⟩⟩
      | true =>
        rw [if_pos rfl]
        obtain ⟨⟨y, σ₄⟩, he, hl2⟩ := bnd hl
        obtain ⟨acc, hacc, hl3⟩ := bnd hl2
        obtain ⟨hsz, hl4⟩ := ift hl3
        clear hl hl2 hl3
        have hl := hl4
        clear hl4
        · skip
          have at3 := at2.mono M3.ext L3
          refine wpAny_mono (hE _ _ _ _ he s₃ ad₃ _ at3 fun z s₄ ad₄ M4 L4 r4 => ?_) (fun _ _ z => z) fun _ _ z => z.elim
          have M := M3.trans M4
          have hD4 := M.ext.idx hD
          obtain ⟨vs, pl, hr⟩ := L4.lists _ D acc hD4 hacc
          have C4 := M.ext.nsL Cc (.head _) _ hn₂
          refine list_append_plainL pl (fun h₅ pl5 hs5 => ?_) (by rw [List.size_toArray, hr.length, sizeLine_eq]; omega)
          have nC4 : ∀ l, l ∈ Cc :: C.fs → l ∉ ad₄ := fun l hl => by
            rcases List.mem_cons.mp hl with rfl | hl
            · exact L4.notMem (ns_notSeq C4)
            · exact (a₁.mono (N2.under w2 M).ext L4).act.nL l hl
          have e5 : vs.toArray.push z = List.toArray (vs ++ [z]) := by simp
          rw [e5] at pl5
          obtain ⟨L5, X5⟩ := L4.set (L := Cc :: C.fs) hD4 hs5 pl5 (hr.append (.cons r4 .nil)) nC4
          have M5 : Nx (Cc :: C.fs) { s with heap := h₂, toks := tk + 1 } { s₄ with heap := h₅ } ad ad₄ := M.trans ⟨X5, .refl _, rfl, rfl⟩
          exact ⟨n, Nat.lt_succ_self _, (hI _ _).mpr ⟨i + 1, _, ad₄, _, hl, N2.under w2 M5, L5, X5.nsL Cc (.head _) _ C4, next _ _ _ M5 L5, hD4⟩⟩
end
end Mine
end

section
set_option maxRecDepth 100000
set_option autoImplicit false
namespace Mine
open PySem PySem.W PyProof.Rows
section
variable {prog : Program} {w : World} {h₀ : Heap} {A : Around} {C : FC} {ρ : Rho} {σ : St}
theorem comp_start {elt iter : Expr} {t : Nat} {pt : Pos} {ifs : List Expr} {sc : Scope} {pos : Pos} {cl : List (Str × Addr)} {fv : List Nat} {s₁ : Shared} {ad₁ : List Addr} {σ₁ σo : St} {src : St → Option (List V)} {Src : Heap → Nat → Prop}
    {eltE : Rho → St → Option (V × St)} {testE : Rho → St → Option (Bool × St)} {RR : Value → Addr → Result → Shared → Prop} {E : Value → Shared → Prop} {io : Obj} {n : Nat}
    (ok : FCOk C) (S : ScOk C sc t fv) (h1 : ∀ x c, cl.lookup x = some c → C.env.cells.lookup x = some c) (h2 : ∀ x, (x, NameKind.free) ∈ sc.names → (cl.lookup x).isSome)
    (a₁ : At h₀ C s₁.heap ad₁ σ₁ ρ) (SO : SrcOk prog w A s₁.heap.objs.size ad₁ src Src) (hS : Src (s₁.heap.push io) 0)
    (hE : ∀ Cc, Cc ∉ C.fs → ∀ ρ σ y σ', eltE ρ σ = some (y, σ') → EvT prog w h₀ A (C.comp sc cl Cc) elt ρ σ y σ') (hT : ∀ Cc, Cc ∉ C.fs → ∀ ρ σ b σ', testE ρ σ = some (b, σ') → IfsT prog w h₀ A (C.comp sc cl Cc) ifs ρ σ b σ')
    (hl : loopC src eltE testE t (compRho ρ fv ρ.length) σ₁.length n 0 (σ₁ ++ [[]]) = some σo)
    (hRR : ∀ D Cc s' ad', Nx C.fs s₁ s' ad₁ ad' → Led s'.heap ad' σo → ad'[σ₁.length]? = some D → (∃ m', s'.heap.Ns Cc m') → s₁.heap.get? Cc = none → RR (.ref D) Cc (.ok .next) s') :
    wpAny (model prog w) A (newList []) (fun acc s₃ => wpAny (model prog w) A (newFunctionEnv sc C.env.globals cl [] C.env.qual none .none (some C.env)) (fun cenv s₄ =>
      codeAny (model prog w) A (.compStart (.ListComp elt [⟨.Name (C.nm t) pt, iter, ifs, 0⟩] sc pos) 0 (.ref s₁.heap.objs.size) acc { cenv with scope := relabel sc C.env }) (RR acc cenv.locals) s₄) E s₃) E { s₁ with heap := s₁.heap.push io } := by
  refine wpAny_newObj_type (wpAny_newFunctionEnv S.nocell (by intro y hy; simp at hy) (fun h₁ hns₁ hsb₁ => ?_) S.kind)
  dsimp only at hns₁ hsb₁ ⊢
  have hH1 : (s₁.heap.push io).objs.size = s₁.heap.objs.size + 1 := Heap.size_push ..
  generalize hH2 : (s₁.heap.push io).push { cls := .type "list", dict := none, data := .seq ([] : List Value).toArray } = H2 at hns₁ hsb₁ ⊢
  have hC : H2.objs.size = s₁.heap.objs.size + 2 := by rw [← hH2, Heap.size_push, hH1]
  have none' : ∀ a, s₁.heap.objs.size ≤ a → s₁.heap.get? a = none := fun a ha => Heap.get?_none_of_le ha
  have up : ∀ b o, (s₁.heap.push io).get? b = some o → h₁.get? b = some o := fun b o e => by
    have hb : b < s₁.heap.objs.size + 1 := hH1 ▸ Heap.lt_size e
    refine hsb₁.extBut b o (by rw [hC]; exact Nat.ne_of_lt (Nat.lt_succ_of_lt hb)) (Heap.get?_push_of_some _ ?_)
    rw [← hH2]; exact Heap.get?_push_of_some _ e
  have old : ∀ b o, s₁.heap.get? b = some o → h₁.get? b = some o := fun b o e => up b o (Heap.get?_push_of_some _ e)
  have hD1 : h₁.get? (s₁.heap.push io).objs.size = some { cls := .type "list", dict := none, data := .seq ([] : List Value).toArray } := by
    refine hsb₁.extBut _ _ (by rw [hC, hH1]; exact Nat.ne_of_lt (Nat.lt_succ_self _)) (Heap.get?_push_of_some _ ?_)
    rw [← hH2]; exact Heap.get?_push_size _ rfl
  have hDn : s₁.heap.get? (s₁.heap.push io).objs.size = none := none' _ (by rw [hH1]; omega)
  obtain ⟨L1, X1⟩ := a₁.led.push (L := C.fs) (h' := h₁) (a := (s₁.heap.push io).objs.size) (vs := []) (x := []) old hDn ⟨_, _, hD1, rfl, rfl, rfl⟩ .nil
  have l0 : Led (s₁.heap.push io) ad₁ σ₁ := a₁.led.keeps fun b o e => Heap.get?_push_of_some _ e
  have S1 : Src h₁ 0 := SO.keep _ _ ad₁ σ₁ 0 ⟨[], by simp⟩ hS l0 fun b o _ _ e => up b o e
  have hD : (ad₁ ++ [(s₁.heap.push io).objs.size])[σ₁.length]? = some (s₁.heap.push io).objs.size := by rw [← a₁.led.len]; simp
  have hCn : H2.objs.size ∉ C.fs := fun q => by
    obtain ⟨m', o', _, _, ho', _⟩ := a₁.act.isNs _ q
    rw [none' _ (by rw [hC]; omega)] at ho'; cases ho'
  have loop : ∀ s₃ : Shared, s₃ = { s₁ with heap := h₁, toks := s₁.toks + ([] : List (Str × Value)).length } →
      codeAny (model prog w) A (.compLoop (.ListComp elt [⟨.Name (C.nm t) pt, iter, ifs, 0⟩] sc pos) 0 (.ref s₁.heap.objs.size) (.ref (s₁.heap.push io).objs.size) (compEnvC sc cl H2.objs.size C.env))
        (RR (.ref (s₁.heap.push io).objs.size) H2.objs.size) s₃ := by
    rintro s₃ rfl
    refine comp_loop (s₁ := s₁) ok S h1 h2 a₁ SO (size_fresh _) (none' _ (by rw [hC]; omega)) (by rw [hC]; exact Nat.ne_of_lt (Nat.lt_succ_of_lt (Nat.lt_succ_self _))) (by rw [hH1]; exact Nat.ne_of_lt (Nat.lt_succ_self _)) (hE _ hCn) (hT _ hCn) (fun s' ad' N L hd hm => hRR _ _ s' ad' N L hd hm (none' _ (by rw [hC]; omega))) n _ 0 (σ₁ ++ [[]]) _ _ hl
      ⟨X1, .refl _, rfl, rfl⟩ L1 hns₁ S1 hD
  refine codeAny_compStart_list (loop _ rfl) ?_
  exact SO.self _ 0 _ _ S1 (loop _ rfl)
theorem comp_core {elt iter : Expr} {t : Nat} {pt : Pos} {ifs : List Expr} {sc : Scope} {pos pos' : Pos} {fv : List Nat} {s : Shared} {ad : List Addr} {σ₁ σo : St} {v : V} {src : St → Option (List V)}
    {eltE : Rho → St → Option (V × St)} {testE : Rho → St → Option (Bool × St)} {use : Option (Value → Sem Unit)} {Q : Value → Shared → Prop} {n k : Nat}
    (aok : AOk k A) (ok : FCOk C) (S : ScOk C sc t fv) (a : At h₀ C s.heap ad σ ρ) (hi : EvT prog w h₀ A C iter ρ σ v σ₁) (hv : (∃ k, v = .lst k ∧ (σ₁[k]?).isSome ∧ src = fun σ => σ[k]?) ∨ ∃ l, v = .tup l ∧ src = fun _ => some (l.map ofP))
    (hE : ∀ cl Cc ρ σ y σ', Cc ∉ C.fs → (∀ x c, cl.lookup x = some c → C.env.cells.lookup x = some c) → (∀ x, (x, NameKind.free) ∈ sc.names → (cl.lookup x).isSome) → eltE ρ σ = some (y, σ') → EvT prog w h₀ A (C.comp sc cl Cc) elt ρ σ y σ')
    (hT : ∀ cl Cc ρ σ b σ', Cc ∉ C.fs → (∀ x c, cl.lookup x = some c → C.env.cells.lookup x = some c) → (∀ x, (x, NameKind.free) ∈ sc.names → (cl.lookup x).isSome) → testE ρ σ = some (b, σ') → IfsT prog w h₀ A (C.comp sc cl Cc) ifs ρ σ b σ')
    (hl : loopC src eltE testE t (compRho ρ fv ρ.length) σ₁.length n 0 (σ₁ ++ [[]]) = some σo) (hs : ∀ x, foldedSetIterable iter C.env x = pure x)
    (hP : ∀ D Cc s' ad', Nx C.fs s s' ad ad' → Led s'.heap ad' σo → ad'[σ₁.length]? = some D → (∃ m', s'.heap.Ns Cc m') → s.heap.get? Cc = none → compPost (model prog w) A (fun _ _ => False) use Q (.ref D) Cc (.ok .next) s') :
    wpAny (model prog w) A (comprehension (.ListComp elt [⟨.Name (C.nm t) pt, iter, ifs, 0⟩] sc pos) sc C.env pos' (newList []) false (eval iter C.env) use) Q (fun _ _ => False) s := by
  obtain ⟨cl, hcl, h1, h2⟩ := closure_ok ok S
  refine wpAny_comprehension_free rfl hs hcl S.kind S.names (hi s ad _ a fun u s₁ ad₁ x₁ l₁ r₁ => ?_)
  have a₁ := a.mono x₁.ext l₁
  have back : ∀ Cc, s₁.heap.get? Cc = none → s.heap.get? Cc = none := fun Cc e => by
    cases q : s.heap.get? Cc with
    | none => rfl
    | some o => obtain ⟨o', e'⟩ := x₁.ext.live _ _ q; rw [e] at e'; cases e'
  rcases hv with ⟨k, rfl, hk, rfl⟩ | ⟨l, rfl, rfl⟩
  · obtain ⟨x, hx⟩ := Option.isSome_iff_exists.mp hk
    obtain ⟨ax, vs, rfl, ha, pl, hr⟩ := Led.list (l := l₁) hx r₁
    have hlt : ax ≠ s₁.heap.objs.size := Nat.ne_of_lt (by obtain ⟨o, _, e, _⟩ := pl; exact Heap.lt_size e)
    refine wpAny_pyIter_list pl.isList ?_
    exact comp_start (RR := fun acc C' => compPost (model prog w) A (fun _ _ => False) use Q acc C') ok S h1 h2 a₁ (src_list aok.handled ha hlt) ⟨_, Heap.get?_push_size _ rfl, rfl, rfl⟩ (fun Cc hn ρ σ y σ' => hE cl Cc ρ σ y σ' hn h1 h2) (fun Cc hn ρ σ y σ' => hT cl Cc ρ σ y σ' hn h1 h2) hl
      fun D Cc s' ad' N L hd hm h0 => hP D Cc s' ad' (x₁.trans N) L hd hm (back _ h0)
  · obtain ⟨ta, vs, rfl, ha, ht, hr⟩ := r₁
    have hlt : ta ≠ s₁.heap.objs.size := Nat.ne_of_lt (by obtain ⟨o, e, _⟩ := ht; exact Heap.lt_size e)
    refine wpAny_pyIter_tuple ht ?_
    exact comp_start (RR := fun acc C' => compPost (model prog w) A (fun _ _ => False) use Q acc C') ok S h1 h2 a₁ (src_tup aok.handled hlt hr) ⟨⟨_, Heap.get?_push_size _ rfl, rfl, rfl⟩, isTup_get ht fun o e => Heap.get?_push_of_some _ e⟩
      (fun Cc hn ρ σ y σ' => hE cl Cc ρ σ y σ' hn h1 h2) (fun Cc hn ρ σ y σ' => hT cl Cc ρ σ y σ' hn h1 h2) hl
      fun D Cc s' ad' N L hd hm h0 => hP D Cc s' ad' (x₁.trans N) L hd hm (back _ h0)
theorem ev_comp {elt iter : Expr} {t : Nat} {pt : Pos} {ifs : List Expr} {sc : Scope} {pos : Pos} {fv : List Nat} {σ₁ σo : St} {v : V} {src : St → Option (List V)}
    {eltE : Rho → St → Option (V × St)} {testE : Rho → St → Option (Bool × St)} {n k : Nat}
    (aok : AOk k A) (ok : FCOk C) (S : ScOk C sc t fv) (hi : EvT prog w h₀ A C iter ρ σ v σ₁) (hv : (∃ k, v = .lst k ∧ (σ₁[k]?).isSome ∧ src = fun σ => σ[k]?) ∨ ∃ l, v = .tup l ∧ src = fun _ => some (l.map ofP))
    (hE : ∀ cl Cc ρ σ y σ', Cc ∉ C.fs → (∀ x c, cl.lookup x = some c → C.env.cells.lookup x = some c) → (∀ x, (x, NameKind.free) ∈ sc.names → (cl.lookup x).isSome) → eltE ρ σ = some (y, σ') → EvT prog w h₀ A (C.comp sc cl Cc) elt ρ σ y σ')
    (hT : ∀ cl Cc ρ σ b σ', Cc ∉ C.fs → (∀ x c, cl.lookup x = some c → C.env.cells.lookup x = some c) → (∀ x, (x, NameKind.free) ∈ sc.names → (cl.lookup x).isSome) → testE ρ σ = some (b, σ') → IfsT prog w h₀ A (C.comp sc cl Cc) ifs ρ σ b σ')
    (hl : loopC src eltE testE t (compRho ρ fv ρ.length) σ₁.length n 0 (σ₁ ++ [[]]) = some σo) (hs : ∀ x, foldedSetIterable iter C.env x = pure x) :
    EvT prog w h₀ A C (.ListComp elt [⟨.Name (C.nm t) pt, iter, ifs, 0⟩] sc pos) ρ σ (.lst σ₁.length) σo := by
  intro s ad Q a k
  rw [eval_ListComp]
  refine comp_core aok ok S a hi hv hE hT hl hs fun D Cc s' ad' N L hd ⟨m', hm⟩ h0 => ?_
  exact ⟨m', hm, fun h' hs' => k (.ref D) { s' with heap := h' } ad' (N.but (t := s'.toks) h0 hs'.extBut) (L.but hs'.extBut (ns_notSeq hm)) ⟨D, rfl, hd⟩⟩
end
end Mine
end

section
set_option maxRecDepth 100000
set_option autoImplicit false
namespace Mine
open PySem PySem.W PyProof.Rows
/-- what a statement leaves of the state before it -/
structure SNx (C : FC) (s s' : Shared) (ad ad' : List Addr) : Prop where
  keep : ∀ b o, b ∉ ad → b ∉ C.fs → (∀ i, i < C.nv → C.env.cells.lookup (C.nm i) ≠ some b) → s.heap.get? b = some o → s'.heap.get? b = some o
  nsO : ∀ l, l ∈ C.out → ∀ m, s.heap.Ns l m → s'.heap.Ns l m
  pre : ∃ ex, ad' = ad ++ ex
  fresh : ∀ a, a ∈ ad' → a ∉ ad → s.heap.get? a = none
  live : ∀ b o, s.heap.get? b = some o → ∃ o', s'.heap.get? b = some o'
  gx : GX s.gens s'.gens
  dr : s'.drawn = s.drawn
  os : s'.os = s.os
theorem SNx.of {C : FC} {s s' : Shared} {ad ad' : List Addr} (x : Nx C.fs s s' ad ad') : SNx C s s' ad ad' := ⟨fun b o hb hL _ e => x.ext.keep b o hb hL e, fun l hl m e => x.ext.nsL l (.tail _ hl) m e, x.ext.pre, x.ext.fresh, x.ext.live, x.gx, x.dr, x.os⟩
theorem SNx.refl (C : FC) (s : Shared) (ad : List Addr) : SNx C s s ad ad := .of (.refl _ _ _)
theorem SNx.off {C : FC} {s s' : Shared} {ad ad' : List Addr} (x : SNx C s s' ad ad') {b : Addr} {o : Obj} (hb : b ∉ ad) (e : s.heap.get? b = some o) : b ∉ ad' := fun hm => by
  rw [x.fresh b hm hb] at e; cases e
theorem SNx.trans {C : FC} {a b c : Shared} {ad ad₁ ad₂ : List Addr} (x : SNx C a b ad ad₁) (y : SNx C b c ad₁ ad₂) : SNx C a c ad ad₂ := by
  refine ⟨fun q o hb hL hc e => y.keep q o (x.off hb e) hL hc (x.keep q o hb hL hc e), fun l hl m e => y.nsO l hl m (x.nsO l hl m e), ?_, fun q ha hn => ?_, fun q o e => ?_, x.gx.trans y.gx, y.dr.trans x.dr, y.os.trans x.os⟩
  · obtain ⟨e1, r1⟩ := x.pre
    obtain ⟨e2, r2⟩ := y.pre
    exact ⟨e1 ++ e2, by rw [r2, r1, List.append_assoc]⟩
  · by_cases h1 : q ∈ ad₁
    · exact x.fresh q h1 hn
    · have := y.fresh q ha h1
      cases e : a.heap.get? q with
      | none => rfl
      | some o => obtain ⟨o', e'⟩ := x.live q o e; rw [e'] at this; cases this
  · obtain ⟨o1, e1⟩ := x.live q o e
    exact y.live q o1 e1
theorem SNx.idx {C : FC} {s s' : Shared} {ad ad' : List Addr} (x : SNx C s s' ad ad') {k : Nat} {a : Addr} (e : ad[k]? = some a) : ad'[k]? = some a := by
  obtain ⟨ex, r⟩ := x.pre
  rw [r, List.getElem?_append_left (List.getElem?_eq_some_iff.mp e).1]; exact e
/-- a ledger that is cut -/
theorem SNx.sub {C : FC} {s s' : Shared} {ad ad' ad'' : List Addr} (x : SNx C s s' ad ad') (p : ∃ ex, ad'' = ad ++ ex) (h : ∀ a, a ∈ ad'' → a ∈ ad') : SNx C s s' ad ad'' :=
  ⟨x.keep, x.nsO, p, fun a ha hn => x.fresh a (h a ha) hn, x.live, x.gx, x.dr, x.os⟩
noncomputable def RelF (h : Heap) (ad : List Addr) (f : Flow) : Fl → Prop
  | .nx => f = .next
  | .bk => f = .brk
  | .rt v => ∃ u, f = .ret u ∧ RelV h ad u v
section
variable (prog : Program) (w : World) (h₀ : Heap)
noncomputable def SvT (A : Around) (C : FC) (st : Stmt) (ρ : Rho) (σ : St) (fl : Fl) (ρ' : Rho) (σ' : St) : Prop :=
  ∀ (s : Shared) (ad : List Addr) (Q : Flow → Shared → Prop), At h₀ C s.heap ad σ ρ →
    (∀ f s' ad', SNx C s s' ad ad' → At h₀ C s'.heap ad' σ' ρ' → RelF s'.heap ad' f fl → Q f s') → wpAny (model prog w) A (exec st C.env) Q (fun _ _ => False) s
noncomputable def BvT (A : Around) (C : FC) (b : List Stmt) (ρ : Rho) (σ : St) (fl : Fl) (ρ' : Rho) (σ' : St) : Prop :=
  ∀ (s : Shared) (ad : List Addr) (Q : Flow → Shared → Prop), At h₀ C s.heap ad σ ρ →
    (∀ f s' ad', SNx C s s' ad ad' → At h₀ C s'.heap ad' σ' ρ' → RelF s'.heap ad' f fl → Q f s') → wpAny (model prog w) A (execs b C.env) Q (fun _ _ => False) s
end
/-- a name that can be stored -/
noncomputable def Sto (C : FC) (i : Nat) : Prop := i < C.nv ∧ (C.env.kindOf (C.nm i) = some .local ∨ C.env.kindOf (C.nm i) = some .cell)
theorem cell_notSeq {h : Heap} {c : Addr} {v : Option Value} (x : h.IsCell c v) : NotSeq h c := fun o xs n ho hd => by
  obtain ⟨o', ho', hd'⟩ := x
  rw [ho] at ho'; cases ho'
  rw [hd] at hd'; cases hd'
theorem cell_notNs {h : Heap} {c L : Addr} {v : Option Value} {m : Str → Option Value} (x : h.IsCell c v) (n : h.Ns L m) : c ≠ L := by
  rintro rfl
  obtain ⟨o', ho', hd'⟩ := x
  obtain ⟨o, _, _, ho, hd, _⟩ := n
  rw [ho] at ho'; cases ho'
  rw [hd] at hd'; cases hd'
section
variable {prog : Program} {w : World} {h₀ : Heap} {A : Around} {C : FC} {ρ : Rho} {σ : St} {s : Shared} {ad : List Addr}
theorem st_var2 {i : Nat} {u : Value} {v : V} {Q : Unit → Shared → Prop} {E : Value → Shared → Prop} (ok : FCOk C) (a : At h₀ C s.heap ad σ ρ) (st : Sto C i) (r : RelV s.heap ad u v)
    (k : ∀ s', SNx C s s' ad ad → At h₀ C s'.heap ad σ (put ρ i v) → (∀ b o xs n, o.data = .seq xs n → s.heap.get? b = some o → s'.heap.get? b = some o) → Q () s') : wpAny (model prog w) A (storeName C.env (C.nm i) u) Q E s := by
  obtain ⟨hi, hk⟩ := st
  obtain ⟨m, hn, hv⟩ := a.act.ns
  have hlen : i < ρ.length := by rw [a.act.len]; exact hi
  rcases hk with hk | hk
  · refine wpAny_storeName_local hk hn (fun h' hn' hs => ?_) (by rw [ok.kind]; rfl)
    have nS := ns_notSeq hn
    refine k _ ⟨fun b o _ hL _ e => (hs.2 b (fun q => hL (by rw [q]; exact .head _))).trans e, fun l hl m e => e.sameBut hs (fun q => ok.nd (q ▸ hl)), ⟨[], by simp⟩, fun a h1 h2 => absurd h1 h2, fun b o e => ?_, .refl _, rfl, rfl⟩
      ⟨⟨fun b o e => (hs.2 b (fun q => by rw [q, a.l0 _ (.head _)] at e; cases e)).trans (a.base.keep b o e), a.base.off⟩, a.led.but hs.extBut nS, ⟨by rw [len_put]; exact a.act.len, ⟨_, hn', fun j y e kj => ?_⟩, a.act.nL, fun l hl => let ⟨m, e⟩ := a.act.nsO l hl; ⟨m, e.sameBut hs (fun q => ok.nd (q ▸ hl))⟩, fun j y e => ?_, fun j c hj hc => ?_⟩, a.l0, a.c0⟩ (fun b o xs n hd e => (hs.2 b (fun q => nS o xs n (q ▸ e) hd)).trans e)
    · by_cases q : b = C.env.locals
      · subst q; obtain ⟨o', _, _, ho, _⟩ := hn'; exact ⟨o', ho⟩
      · exact ⟨o, (hs.2 b q).trans e⟩
    · by_cases hij : i = j
      · subst hij
        rw [get_put_self hlen] at e; cases e
        exact ⟨u, by simp, r.but hs.extBut nS⟩
      · rw [get_put_ne hij] at e
        obtain ⟨u', hu', hr'⟩ := hv j y e kj
        have hj : j < C.nv := a.act.len ▸ get_lt e
        exact ⟨u', by rw [if_neg (fun q => hij (ok.inj i j hi hj q.symm))]; exact hu', hr'.but hs.extBut nS⟩
    · by_cases hij : i = j
      · subst hij; exact .inl hk
      · rw [get_put_ne hij] at e; exact a.act.kinds j y e
    · obtain ⟨g1, x, g2, g3⟩ := a.act.cel j c hj hc
      refine ⟨g1, x, isCell_get g2 fun o e => (hs.2 c (cell_notNs g2 hn)).trans e, fun kj y e => ?_⟩
      by_cases hij : i = j
      · subst hij
        rw [hk] at kj
        rcases kj with q | q <;> cases q
      · rw [get_put_ne hij] at e
        obtain ⟨u', hu', hr'⟩ := g3 kj y e
        exact ⟨u', hu', hr'.but hs.extBut nS⟩
  · obtain ⟨c, hc⟩ := Option.isSome_iff_exists.mp (ok.cc _ hk)
    obtain ⟨g1, x, g2, g3⟩ := a.act.cel i c hi hc
    have nS := cell_notSeq g2
    have hcL := cell_notNs g2 hn
    refine wpAny_storeName_cell ok.kind hk hc g2 fun h' hc' hs => ?_
    refine k { s with heap := h' } ⟨fun b o _ _ hcl e => (hs.2 b (fun q => hcl i hi (q ▸ hc))).trans e, fun l hl m e => e.sameBut hs (Ne.symm (cell_notNs g2 e)), ⟨[], by simp⟩, fun a h1 h2 => absurd h1 h2, fun b o e => ?_, .refl _, rfl, rfl⟩
      ⟨⟨fun b o e => (hs.2 b (fun q => ?_)).trans (a.base.keep b o e), a.base.off⟩, a.led.but hs.extBut nS, ⟨by rw [len_put]; exact a.act.len, ⟨m, hn.sameBut hs (Ne.symm hcL), fun j y e kj => ?_⟩, a.act.nL, fun l hl => let ⟨m, e⟩ := a.act.nsO l hl; ⟨m, e.sameBut hs (Ne.symm (cell_notNs g2 e))⟩, fun j y e => ?_, fun j d hj hd => ?_⟩, a.l0, a.c0⟩ (fun b o xs n hd e => (hs.2 b (fun q => nS o xs n (q ▸ e) hd)).trans e)
    · by_cases q : b = c
      · subst q; obtain ⟨o', ho, _⟩ := hc'; exact ⟨o', ho⟩
      · exact ⟨o, (hs.2 b q).trans e⟩
    · rw [q, a.c0 i c hi hc] at e; cases e
    · by_cases hij : i = j
      · subst hij; rw [hk] at kj; cases kj
      · rw [get_put_ne hij] at e
        obtain ⟨u', hu', hr'⟩ := hv j y e kj
        exact ⟨u', hu', hr'.but hs.extBut nS⟩
    · by_cases hij : i = j
      · subst hij; exact .inr ⟨.inl hk, by rw [hc]; rfl⟩
      · rw [get_put_ne hij] at e; exact a.act.kinds j y e
    · by_cases hij : i = j
      · subst hij
        rw [hc] at hd; cases hd
        refine ⟨g1, some u, hc', fun _ y e => ?_⟩
        rw [get_put_self hlen] at e; cases e
        exact ⟨u, rfl, r.but hs.extBut nS⟩
      · obtain ⟨g1', x', g2', g3'⟩ := a.act.cel j d hj hd
        have hdc : d ≠ c := fun q => hij (ok.cinj i j c hi hj hc (q ▸ hd))
        refine ⟨g1', x', isCell_get g2' fun o e => (hs.2 d hdc).trans e, fun kj y e => ?_⟩
        rw [get_put_ne hij] at e
        obtain ⟨u', hu', hr'⟩ := g3' kj y e
        exact ⟨u', hu', hr'.but hs.extBut nS⟩
theorem st_var {i : Nat} {u : Value} {v : V} {Q : Unit → Shared → Prop} {E : Value → Shared → Prop} (ok : FCOk C) (a : At h₀ C s.heap ad σ ρ) (st : Sto C i) (r : RelV s.heap ad u v)
    (k : ∀ s', SNx C s s' ad ad → At h₀ C s'.heap ad σ (put ρ i v) → Q () s') : wpAny (model prog w) A (storeName C.env (C.nm i) u) Q E s := st_var2 ok a st r fun s' x a' _ => k s' x a'
end
end Mine
end

section
set_option maxRecDepth 100000
set_option autoImplicit false
namespace Mine
open PySem PySem.W PyProof.Rows
section
variable {h₀ : Heap} {C : FC} {ρ : Rho} {σ : St} {s s₁ : Shared} {ad ad₁ : List Addr}
theorem At.but {h h' : Heap} {W : Addr} (a : At h₀ C h ad σ ρ) (hs : Heap.ExtBut W h h') (hW : NotSeq h W) (hL : W ∉ C.fs) (hc : ∀ i, i < C.nv → C.env.cells.lookup (C.nm i) ≠ some W) (h0 : h₀.get? W = none) : At h₀ C h' ad σ ρ := by
  obtain ⟨m, hn, hv⟩ := a.act.ns
  refine ⟨⟨fun b o e => hs b o (fun q => by rw [q, h0] at e; cases e) (a.base.keep b o e), a.base.off⟩, a.led.but hs hW, ⟨a.act.len, ⟨m, hn.at' fun o e => hs _ _ (fun q => hL (by rw [← q]; exact .head _)) e, fun i v e k => ?_⟩, a.act.nL, fun l hl => let ⟨m, e⟩ := a.act.nsO l hl; ⟨m, e.at' fun o e' => hs _ _ (fun q => hL (by rw [← q]; exact .tail _ hl)) e'⟩, a.act.kinds, fun i c hi e => ?_⟩, a.l0, a.c0⟩
  · obtain ⟨u, hu, r⟩ := hv i v e k
    exact ⟨u, hu, r.but hs hW⟩
  · obtain ⟨g1, x, g2, g3⟩ := a.act.cel i c hi e
    refine ⟨g1, x, isCell_get g2 fun o e' => hs _ _ (fun q => hc i hi (q ▸ e)) e', fun k y e' => ?_⟩
    obtain ⟨u, hu, r⟩ := g3 k y e'
    exact ⟨u, hu, r.but hs hW⟩
theorem SNx.but {W : Addr} {h' : Heap} {t : Nat} (x : SNx C s₁ s ad₁ ad) (w0 : s₁.heap.get? W = none) (hs : Heap.ExtBut W s.heap h') : SNx C s₁ { s with heap := h', toks := t } ad₁ ad := by
  have ne : ∀ b o, s₁.heap.get? b = some o → b ≠ W := fun b o e q => by rw [q, w0] at e; cases e
  refine ⟨fun b o hb hL hc e => hs b o (ne b o e) (x.keep b o hb hL hc e), fun l hl m e => by
    obtain ⟨o, _, _, ho, _⟩ := id e
    exact (x.nsO l hl m e).at' fun o' e' => hs _ _ (ne l o ho) e', x.pre, x.fresh, fun b o e => ?_, x.gx, x.dr, x.os⟩
  obtain ⟨o', e'⟩ := x.live b o e
  exact ⟨o', hs b o' (ne b o e) e'⟩
/-- names that are forgotten -/
theorem At.less {h : Heap} {ρ' : Rho} (a : At h₀ C h ad σ ρ) (hl : ρ'.length = ρ.length) (hg : ∀ i v, get ρ' i = some v → get ρ i = some v) : At h₀ C h ad σ ρ' := by
  obtain ⟨m, hn, hv⟩ := a.act.ns
  refine ⟨a.base, a.led, ⟨hl.trans a.act.len, ⟨m, hn, fun i v e k => hv i v (hg i v e) k⟩, a.act.nL, a.act.nsO, fun i v e => a.act.kinds i v (hg i v e), fun i c hi e => ?_⟩, a.l0, a.c0⟩
  obtain ⟨g1, x, g2, g3⟩ := a.act.cel i c hi e
  exact ⟨g1, x, g2, fun k y e' => g3 k y (hg i y e')⟩
theorem killR_len : ∀ (l : List Nat) (ρ : Rho), (killR ρ l).length = ρ.length
  | [], _ => rfl
  | i :: r, ρ => by simp [killR, killR_len r]
theorem get_set_none {ρ : Rho} {i j : Nat} {v : V} (h : get (ρ.set i none) j = some v) : get ρ j = some v := by
  unfold get at h ⊢
  rw [List.getElem?_set] at h
  split at h
  · rename_i e; subst e; split at h <;> cases h
  · exact h
theorem killR_get : ∀ (l : List Nat) (ρ : Rho) (i : Nat) (v : V), get (killR ρ l) i = some v → get ρ i = some v
  | [], _, _, _, h => h
  | j :: r, ρ, i, v, h => get_set_none (killR_get r _ i v h)
theorem At.kill {h : Heap} (a : At h₀ C h ad σ ρ) (l : List Nat) : At h₀ C h ad σ (killR ρ l) := a.less (killR_len l ρ) fun i v e => killR_get l ρ i v e
/-- a value that stays when the ledger is cut -/
theorem RelV.cut {h : Heap} {ad'' : List Addr} {n : Nat} {u : Value} {v : V} (r : RelV h ad u v) (ho : okV n (some v) = true) (p : ∃ ex, ad'' = ad.take n ++ ex) (q : ∀ a, a ∈ ad'' → a ∈ ad) : RelV h ad'' u v := by
  cases v with
  | tup l => obtain ⟨a, vs, e, ha, r⟩ := r; exact ⟨a, vs, e, fun m => ha (q a m), r⟩
  | frz l => obtain ⟨a, vs, e, ha, r⟩ := r; exact ⟨a, vs, e, fun m => ha (q a m), r⟩
  | lst k =>
    obtain ⟨a, e, ha⟩ := r
    have hk : k < n := by simpa [okV] using ho
    obtain ⟨ex, rfl⟩ := p
    have hk' := (List.getElem?_eq_some_iff.mp ha).1
    exact ⟨a, e, by rw [List.getElem?_append_left (by rw [List.length_take]; omega), List.getElem?_take_of_lt hk]; exact ha⟩
  | _ => exact r
theorem okV_get {n : Nat} (h : ρ.all (okV n) = true) {i : Nat} {v : V} (e : get ρ i = some v) : okV n (some v) = true := by
  unfold get at e
  cases q : ρ[i]? with
  | none => rw [q] at e; cases e
  | some x =>
    rw [q] at e
    cases x with
    | none => cases e
    | some y => cases e; exact List.all_eq_true.mp h _ (List.mem_of_getElem? q)
theorem Led.cut {h : Heap} (l : Led h ad σ) {n k : Nat} {x : List V} {a : Addr} (ho : (σ.take n).all (fun l => l.all fun v => okV n (some v)) = true) (hx : σ[k]? = some x) (ha : ad[k]? = some a) (hn : n ≤ k) (hxo : x.all (fun v => okV n (some v)) = true) :
    Led h (ad.take n ++ [a]) (σ.take n ++ [x]) := by
  have p : ∃ ex, ad.take n ++ [a] = ad.take n ++ ex := ⟨_, rfl⟩
  have q : ∀ b, b ∈ ad.take n ++ [a] → b ∈ ad := fun b hb => by
    rcases List.mem_append.mp hb with m | m
    · exact List.mem_of_mem_take m
    · rw [List.mem_singleton.mp m]; exact List.mem_of_getElem? ha
  refine ⟨by rw [List.length_append, List.length_append, List.length_take, List.length_take, l.len]; rfl, nodup_snoc (l.nd.sublist (List.take_sublist ..)) fun hb => ?_, fun i b y hb hy => ?_⟩
  · obtain ⟨j, hj, e⟩ := List.mem_iff_getElem.mp hb
    rw [List.length_take] at hj
    rw [List.getElem_take] at e
    obtain ⟨hk', e'⟩ := List.getElem?_eq_some_iff.mp ha
    have := (List.getElem_inj l.nd).mp (e.trans e'.symm)
    exact absurd (Nat.lt_of_lt_of_le hj (Nat.min_le_left ..)) (Nat.not_lt_of_le (this ▸ hn))
  · rcases snoc_get hb with hb | ⟨rfl, rfl⟩
    · rw [List.getElem?_take] at hb
      obtain ⟨hi, hb⟩ := ift hb
      rw [List.getElem?_append_left (by rw [List.length_take, ← l.len]; exact Nat.lt_min.mpr ⟨hi, (List.getElem?_eq_some_iff.mp hb).1⟩)] at hy
      have hm := List.mem_of_getElem? hy
      rw [List.getElem?_take_of_lt hi] at hy
      obtain ⟨ws, w1, w2⟩ := l.lists i b y hb hy
      exact ⟨ws, w1, All2.monoMem w2 fun u v hv r => r.cut (List.all_eq_true.mp (List.all_eq_true.mp ho y hm) v hv) p q⟩
    · rw [List.length_take, l.len, ← List.length_take, List.getElem?_concat_length] at hy
      obtain rfl := som hy
      obtain ⟨ws, w1, w2⟩ := l.lists k b x ha hx
      exact ⟨ws, w1, All2.monoMem w2 fun u v hv r => r.cut (List.all_eq_true.mp hxo v hv) p q⟩
theorem At.cut {h : Heap} {ρ' : Rho} {σ' : St} {ad'' : List Addr} {n : Nat} (a : At h₀ C h ad σ ρ) (l : Led h ad'' σ') (q : ∀ b, b ∈ ad'' → b ∈ ad) (hl : ρ'.length = ρ.length)
    (hg : ∀ i v', get ρ' i = some v' → ∃ v, get ρ i = some v ∧ ∀ u, RelV h ad u v → RelV h ad'' u v') : At h₀ C h ad'' σ' ρ' := by
  obtain ⟨m, hn, hv⟩ := a.act.ns
  refine ⟨⟨a.base.keep, fun b o e hm => a.base.off b o e (q b hm)⟩, l, ⟨hl.trans a.act.len, ⟨m, hn, fun i v' e k => ?_⟩, fun l hl hm => a.act.nL l hl (q _ hm), a.act.nsO, fun i v' e => ?_, fun i c hi e => ?_⟩, a.l0, a.c0⟩
  · obtain ⟨v, e', f⟩ := hg i v' e
    obtain ⟨u, hu, r⟩ := hv i v e' k
    exact ⟨u, hu, f u r⟩
  · obtain ⟨v, e', f⟩ := hg i v' e
    exact a.act.kinds i v e'
  · obtain ⟨g1, x, g2, g3⟩ := a.act.cel i c hi e
    refine ⟨fun hm => g1 (q _ hm), x, g2, fun k y e' => ?_⟩
    obtain ⟨v, e', f⟩ := hg i y e'
    obtain ⟨u, hu, r⟩ := g3 k v e'
    exact ⟨u, hu, f u r⟩
theorem trim_ok {h : Heap} {ρ' : Rho} {σ' : St} {n : Nat} (a : At h₀ C h ad σ ρ) (e : trim n ρ σ = some (ρ', σ')) : At h₀ C h (ad.take n) σ' ρ' := by
  obtain ⟨hc, e⟩ := ifs e
  rw [Bool.and_eq_true] at hc
  obtain ⟨rfl, rfl⟩ := pr e
  exact a.cut (n := n) (a.led.take hc.2) (fun b hb => List.mem_of_mem_take hb) rfl fun i v e => ⟨v, e, fun u r => r.ok (okV_get hc.1 e)⟩
theorem carry_ok {h : Heap} {ρ' : Rho} {σ' : St} {n j k : Nat} (a : At h₀ C h ad σ ρ) (hk : get ρ j = some (.lst k)) (hnk : n ≤ k) (e : carry n k j ρ σ = some (ρ', σ')) : ∃ ad'', At h₀ C h ad'' σ' ρ' ∧ (∃ ex, ad'' = ad.take n ++ ex) ∧ ∀ b, b ∈ ad'' → b ∈ ad := by
  obtain ⟨x, hx, e⟩ := bnd e
  obtain ⟨hc, e⟩ := ifs e
  rw [Bool.and_eq_true, Bool.and_eq_true] at hc
  obtain ⟨⟨c1, c2⟩, c3⟩ := hc
  obtain ⟨rfl, rfl⟩ := pr e
  clear e
  obtain ⟨b, vs, hb, pl, hr⟩ := a.led.at hx
  have p : ∃ ex, ad.take n ++ [b] = ad.take n ++ ex := ⟨_, rfl⟩
  have q : ∀ c, c ∈ ad.take n ++ [b] → c ∈ ad := fun c hc => by
    rcases List.mem_append.mp hc with m | m
    · exact List.mem_of_mem_take m
    · rw [List.mem_singleton.mp m]; exact List.mem_of_getElem? hb
  refine ⟨_, a.cut (n := n) (a.led.cut c2 hx hb hnk c3) q len_put fun i v' e => ?_, p, q⟩
  by_cases hij : j = i
  · subst hij
    rw [get_put_self (get_lt hk)] at e
    obtain rfl := som e
    refine ⟨.lst k, hk, fun u r => ?_⟩
    obtain ⟨b', rfl, hb'⟩ := r
    rw [hb] at hb'
    obtain rfl := som hb'
    have hl : (ad.take n).length = n := by rw [List.length_take]; exact Nat.min_eq_left (Nat.le_trans hnk (Nat.le_of_lt (List.getElem?_eq_some_iff.mp hb).1))
    exact ⟨b, rfl, by rw [List.getElem?_append_right (Nat.le_of_eq hl), hl, Nat.sub_self]; rfl⟩
  · rw [get_put_ne hij] at e
    have e1 : get (ρ.set j none) i = some v' := by
      unfold get at e ⊢
      rw [List.getElem?_set_ne hij]; exact e
    exact ⟨v', e, fun u r => r.cut (okV_get c1 e1) p q⟩
theorem trimC_ok {h : Heap} {ρ' : Rho} {σ' : St} {n : Nat} {cy : Option Nat} (a : At h₀ C h ad σ ρ) (e : trimC n cy ρ σ = some (ρ', σ')) : ∃ ad'', At h₀ C h ad'' σ' ρ' ∧ (∃ ex, ad'' = ad.take n ++ ex) ∧ ∀ b, b ∈ ad'' → b ∈ ad := by
  have plain : trim n ρ σ = some (ρ', σ') → ∃ ad'', At h₀ C h ad'' σ' ρ' ∧ (∃ ex, ad'' = ad.take n ++ ex) ∧ ∀ b, b ∈ ad'' → b ∈ ad := fun e =>
    ⟨_, trim_ok a e, ⟨[], (List.append_nil _).symm⟩, fun b hb => List.mem_of_mem_take hb⟩
  cases cy with
  | none => exact plain e
  | some j =>
    have e1 : (match get ρ j with
      | none => trim n ρ σ
      | some v => match v with
        | .lst k => if n ≤ k then carry n k j ρ σ else trim n ρ σ
        | _ => trim n ρ σ) = some (ρ', σ') := e
    clear e
    cases hk : get ρ j with
    | none => rw [hk] at e1; exact plain e1
    | some v =>
      rw [hk] at e1
      cases v with
      | lst k =>
        have e1 : (if n ≤ k then carry n k j ρ σ else trim n ρ σ) = some (ρ', σ') := e1
        by_cases hnk : n ≤ k
        · rw [if_pos hnk] at e1; exact carry_ok a hk hnk e1
        · rw [if_neg hnk] at e1; exact plain e1
      | _ => exact plain e1
end
end Mine
end

section
set_option maxRecDepth 100000
set_option autoImplicit false
namespace Mine
open PySem PySem.W PyProof.Rows
section
variable {prog : Program} {w : World} {h₀ : Heap} {A : Around} {C : FC} {ρ ρ' : Rho} {σ σ' : St}
theorem sv_asg {i : Nat} {e : Expr} {pn p : Pos} {v : V} (ok : FCOk C) (st : Sto C i) (he : EvT prog w h₀ A C e ρ σ v σ') (hs : swapsWith e (some (.Name (C.nm i) pn)) p.line C.env = pure false) :
    SvT prog w h₀ A C (.Assign [.Name (C.nm i) pn] e p) ρ σ .nx (put ρ i v) σ' := by
  intro s ad Q a k
  refine wpAny_Assign_Name (he s ad _ a fun u s₁ ad₁ x₁ l₁ r₁ => ?_) hs
  exact st_var ok (a.mono x₁.ext l₁) st r₁ fun s' x' a' => k _ s' ad₁ ((SNx.of x₁).trans x') a' rfl
theorem sv_comp {elt iter : Expr} {i t : Nat} {pn pt p : Pos} {ifs : List Expr} {sc : Scope} {pos : Pos} {fv : List Nat} {σ₁ σo : St} {v : V} {src : St → Option (List V)}
    {eltE : Rho → St → Option (V × St)} {testE : Rho → St → Option (Bool × St)} {n k : Nat}
    (aok : AOk k A) (ok : FCOk C) (st : Sto C i) (S : ScOk C sc t fv) (hi : EvT prog w h₀ A C iter ρ σ v σ₁) (hv : (∃ k, v = .lst k ∧ (σ₁[k]?).isSome ∧ src = fun σ => σ[k]?) ∨ ∃ l, v = .tup l ∧ src = fun _ => some (l.map ofP))
    (hE : ∀ cl Cc ρ σ y σ', Cc ∉ C.fs → (∀ x c, cl.lookup x = some c → C.env.cells.lookup x = some c) → (∀ x, (x, NameKind.free) ∈ sc.names → (cl.lookup x).isSome) → eltE ρ σ = some (y, σ') → EvT prog w h₀ A (C.comp sc cl Cc) elt ρ σ y σ')
    (hT : ∀ cl Cc ρ σ b σ', Cc ∉ C.fs → (∀ x c, cl.lookup x = some c → C.env.cells.lookup x = some c) → (∀ x, (x, NameKind.free) ∈ sc.names → (cl.lookup x).isSome) → testE ρ σ = some (b, σ') → IfsT prog w h₀ A (C.comp sc cl Cc) ifs ρ σ b σ')
    (hl : loopC src eltE testE t (compRho ρ fv ρ.length) σ₁.length n 0 (σ₁ ++ [[]]) = some σo) (hs : ∀ x, foldedSetIterable iter C.env x = pure x)
    (hsw : swapsWith (.ListComp elt [⟨.Name (C.nm t) pt, iter, ifs, 0⟩] sc pos) (some (.Name (C.nm i) pn)) p.line C.env = pure true) :
    SvT prog w h₀ A C (.Assign [.Name (C.nm i) pn] (.ListComp elt [⟨.Name (C.nm t) pt, iter, ifs, 0⟩] sc pos) p) ρ σ .nx (put ρ i (.lst σ₁.length)) σo := by
  intro s ad Q a k
  rw [exec_Assign_Name_used _ _ _ _ hsw]
  refine wpAny_bind (wpAny_standAt (wpAny_bind ?_))
  show wpAny _ A (do let _ ← comprehension (.ListComp elt [⟨.Name (C.nm t) pt, iter, ifs, 0⟩] sc pos) sc C.env _ (newList []) false (eval iter C.env) (some (assign (.Name (C.nm i) pn) C.env))) _ _ s
  refine wpAny_bind (wpAny_mono (comp_core (use := some (assign (.Name (C.nm i) pn) C.env)) (Q := fun _ s' => Q .next s') aok ok S a hi hv hE hT hl hs fun D Cc s' ad' N L hd ⟨m', hm⟩ h0 => ?_) (fun _ s' hq => wpAny_pure (wpAny_pure hq)) fun _ _ e => e)
  show wpAny _ A (assign (.Name (C.nm i) pn) C.env (.ref D)) _ _ _
  have hCL : Cc ∉ C.fs := fun q => by
    obtain ⟨m, o, _, _, ho, _⟩ := a.act.isNs Cc q
    rw [h0] at ho; cases ho
  have hCc : ∀ i, i < C.nv → C.env.cells.lookup (C.nm i) ≠ some Cc := fun i hi e => by
    obtain ⟨_, x, ⟨o, ho, _⟩, _⟩ := a.act.cel i Cc hi e
    rw [h0] at ho; cases ho
  have hC0 : h₀.get? Cc = none := by
    cases e : h₀.get? Cc with
    | none => rfl
    | some o => have := a.base.keep Cc o e; rw [h0] at this; cases this
  refine wpAny_assign_Name (st_var ok (a.mono N.ext L) st (v := .lst σ₁.length) ⟨D, rfl, hd⟩ fun s'' x'' a'' => ?_)
  have hm2 : s''.heap.Ns Cc m' := hm.at' fun o e => x''.keep Cc o (L.notMem (ns_notSeq hm)) hCL hCc e
  refine ⟨m', hm2, fun h' hs' => k _ { s'' with heap := h' } ad' (((SNx.of N).trans x'').but (t := s''.toks) h0 hs'.extBut) (a''.but hs'.extBut (ns_notSeq hm2) hCL hCc hC0) rfl⟩
theorem sv_aug {i : Nat} {o : Operator} {e : Expr} {pn p : Pos} {n m r : Int} (ok : FCOk C) (st : Sto C i) (hg : get ρ i = some (.int n)) (he : EvT prog w h₀ A C e ρ σ (.int m) σ')
    (ho : (o = .Add ∧ r = n + m) ∨ (o = .Mult ∧ small n = true ∧ r = n * m)) : SvT prog w h₀ A C (.AugAssign (.Name (C.nm i) pn) o e p) ρ σ .nx (put ρ i (.int r)) σ' := by
  intro s ad Q a k
  refine wpAny_AugAssign_Name ?_
  have ld : ∀ (Q' : Value → Shared → Prop), (∀ u, RelV s.heap ad u (.int n) → Q' u s) → wpAny (model prog w) A (loadName C.env (C.nm i)) Q' (fun _ _ => False) s := fun Q' h => by
    have hn : i < C.nv := a.act.len ▸ get_lt hg
    rcases a.act.kinds i _ hg with k | ⟨k, c⟩
    · obtain ⟨m, hm, hv⟩ := a.act.ns
      obtain ⟨u, hu, hr⟩ := hv i _ hg k
      exact wpAny_loadName_local ok.kind k hm hu (h u hr)
    · obtain ⟨c, hc⟩ := Option.isSome_iff_exists.mp c
      obtain ⟨_, x, hx, hv⟩ := a.act.cel i c hn hc
      obtain ⟨u, rfl, hr⟩ := hv k _ hg
      rcases k with k | k
      · exact wpAny_loadName_cell ok.kind k hc hx (h u hr)
      · exact wpAny_loadName_free ok.kind k hc hx (h u hr) (ok.cd i hn)
  refine ld _ fun u ⟨t, eu⟩ => he s ad _ a fun u' s₁ ad₁ x₁ l₁ r₁ => ?_
  subst eu
  obtain ⟨t', rfl⟩ := r₁
  have fin : ∀ tk, wpAny (model prog w) A (storeName C.env (C.nm i) (.int r s₁.toks)) (fun _ => Q .next) (fun _ _ => False) { s₁ with toks := tk } := fun tk =>
    st_var (s := { s₁ with toks := tk }) ok (a.mono x₁.ext l₁) st (v := .int r) ⟨_, rfl⟩ fun s' x' a' => k _ s' ad₁ ((SNx.of (x₁.trans .tk)).trans x') a' rfl
  rcases ho with ⟨rfl, rfl⟩ | ⟨rfl, hs, rfl⟩
  · exact PyProof.Rows.iadd_int (fin _)
  · exact AutoIntOps.imul_0 (fin _) (small_mul hs)
theorem sv_ite {t : Expr} {b o : List Stmt} {p : Pos} {c : Bool} {σ₁ : St} {fl : Fl} (ht : TvT prog w h₀ A C t ρ σ c σ₁) (hb : c = true → BvT prog w h₀ A C b ρ σ₁ fl ρ' σ') (ho : c = false → BvT prog w h₀ A C o ρ σ₁ fl ρ' σ') :
    SvT prog w h₀ A C (.If t b o p) ρ σ fl ρ' σ' := by
  intro s ad Q a k
  refine wpAny_If (ht s ad _ a fun s₁ ad₁ x₁ l₁ => ?_)
  have a₁ := a.mono x₁.ext l₁
  cases c with
  | true => exact hb rfl s₁ ad₁ _ a₁ fun f s' ad' x' a' r => k f s' ad' ((SNx.of x₁).trans x') a' r
  | false => exact ho rfl s₁ ad₁ _ a₁ fun f s' ad' x' a' r => k f s' ad' ((SNx.of x₁).trans x') a' r
theorem sv_ret {e : Expr} {p : Pos} {v : V} (he : EvT prog w h₀ A C e ρ σ v σ') : SvT prog w h₀ A C (.Return (some e) p) ρ σ (.rt v) ρ σ' := by
  intro s ad Q a k
  exact wpAny_Return_some (he s ad _ a fun u s₁ ad₁ x₁ l₁ r₁ => k _ s₁ ad₁ (.of x₁) (a.mono x₁.ext l₁) ⟨u, rfl, r₁⟩)
theorem sv_brk {p : Pos} : SvT prog w h₀ A C (.Break p) ρ σ .bk ρ σ := by
  intro s ad Q a k
  exact wpAny_Break (k _ s ad (.refl _ _ _) a rfl)
theorem bv_nil : BvT prog w h₀ A C [] ρ σ .nx ρ σ := fun s ad Q a k => wpAny_execs_nil (k _ s ad (.refl _ _ _) a rfl)
theorem bv_nx {st : Stmt} {r : List Stmt} {ρ₁ : Rho} {σ₁ : St} {fl : Fl} (h1 : SvT prog w h₀ A C st ρ σ .nx ρ₁ σ₁) (h2 : BvT prog w h₀ A C r ρ₁ σ₁ fl ρ' σ') : BvT prog w h₀ A C (st :: r) ρ σ fl ρ' σ' := by
  intro s ad Q a k
  refine wpAny_execs_cons (h1 s ad _ a fun f s₁ ad₁ x₁ a₁ hf => ?_)
  cases hf
  exact h2 s₁ ad₁ _ a₁ fun f s' ad' x' a' r => k f s' ad' (x₁.trans x') a' r
theorem bv_out {st : Stmt} {r : List Stmt} {fl : Fl} (h1 : SvT prog w h₀ A C st ρ σ fl ρ' σ') (hf : fl ≠ .nx) : BvT prog w h₀ A C (st :: r) ρ σ fl ρ' σ' := by
  intro s ad Q a k
  refine wpAny_execs_cons (h1 s ad _ a fun f s₁ ad₁ x₁ a₁ h => ?_)
  have := k f s₁ ad₁ x₁ a₁ h
  cases fl with
  | nx => exact absurd rfl hf
  | bk => cases h; exact this
  | rt v => obtain ⟨u, rfl, r⟩ := h; exact this
theorem sv_whl {t : Expr} {b : List Stmt} {p : Pos} {testE : Rho → St → Option (Bool × St)} {bodyE : Rho → St → Option (Fl × Rho × St)} {fl : Fl} (hT : ∀ ρ σ c σ', testE ρ σ = some (c, σ') → TvT prog w h₀ A C t ρ σ c σ')
    (hB : ∀ ρ σ fl ρ' σ', bodyE ρ σ = some (fl, ρ', σ') → BvT prog w h₀ A C b ρ σ fl ρ' σ') {n : Nat} (hl : loopW testE bodyE n ρ σ = some (fl, ρ', σ')) : SvT prog w h₀ A C (.While t b [] p) ρ σ fl ρ' σ' := by
  intro s ad Q a k
  have k2 : ∀ {f f0 ρ0 σ0 s' ad'}, some (f0, ρ0, σ0) = some (fl, ρ', σ') → SNx C s s' ad ad' → At h₀ C s'.heap ad' σ0 ρ0 → RelF s'.heap ad' f f0 → Q f s' := fun e x a r => by
    cases e; exact k _ _ _ x a r
  clear k
  refine wpAny_While ?_
  refine codeAny_whileLoop (fun n s' => ∃ ρ₁ σ₁ ad₁, SNx C s s' ad ad₁ ∧ At h₀ C s'.heap ad₁ σ₁ ρ₁ ∧ loopW testE bodyE n ρ₁ σ₁ = some (fl, ρ', σ')) ?_ n ⟨ρ, σ, ad, .refl _ _ _, a, hl⟩
  clear hl
  rintro n s₁ ⟨ρ₁, σ₁, ad₁, x₁, a₁, hl⟩
  cases n with
  | zero => exact (no hl).elim
  | succ n =>
    obtain ⟨⟨c, σ₂⟩, ht, hl2⟩ := bnd hl
    clear hl
    have hl := hl2
    clear hl2
    refine wpAny_mono (hT _ _ _ _ ht s₁ ad₁ _ a₁ fun s₂ ad₂ x₂ l₂ => ?_) (fun _ _ z => z) fun _ _ z => z.elim
    have a₂ := a₁.mono x₂.ext l₂
    have x := x₁.trans (SNx.of x₂)
    cases c with
    | false =>
      rw [if_neg Bool.false_ne_true]
      exact wpAny_execs_nil (k2 hl x a₂ rfl)
    | true =>
      rw [if_pos rfl]
      obtain ⟨⟨f, ρ₃, σ₃⟩, hb, hl2⟩ := bnd hl
      clear hl
      have hl := hl2
      clear hl2
      refine wpAny_mono (hB _ _ _ _ _ hb s₂ ad₂ _ a₂ fun fl' s₃ ad₃ x₃ a₃ hf => ?_) (fun _ _ z => z) fun _ _ z => z.elim
      have y := x.trans x₃
      cases f with
      | nx => cases hf; exact ⟨n, Nat.lt_succ_self _, ρ₃, σ₃, ad₃, y, a₃, hl⟩
      | bk => cases hf; exact k2 hl y a₃ rfl
      | rt v => obtain ⟨u, rfl, r⟩ := hf; exact k2 hl y a₃ ⟨u, rfl, r⟩
theorem for_loop {i n : Nat} {pn : Pos} {b : List Stmt} {I : Addr} {s₁ : Shared} {ad₁ : List Addr} {σ₁ : St} {ρ₁ : Rho} {src : St → Option (List V)} {Src : Heap → Nat → Prop} {kill : List Nat} {cy : Option Nat}
    {bodyE : Rho → St → Option (Fl × Rho × St)} {fl : Fl} {R : Result → Shared → Prop} (ok : FCOk C) (st : Sto C i) (a₁ : At h₀ C s₁.heap ad₁ σ₁ ρ₁) (hn : n = ad₁.length) (SO : SrcOk prog w A I ad₁ src Src) (w1 : s₁.heap.get? I = none)
    (hB : ∀ ρ σ fl ρ' σ', bodyE ρ σ = some (fl, ρ', σ') → BvT prog w h₀ A C b ρ σ fl ρ' σ')
    (k : ∀ f s' ad', SNx C s₁ s' ad₁ ad' → At h₀ C s'.heap ad' σ' ρ' → RelF s'.heap ad' f fl → R (.ok f) s') :
    ∀ (m : Nat) (s : Shared) (j : Nat) (ρ : Rho) (σ : St) (ad : List Addr), loopF src bodyE i n kill cy m j ρ σ = some (fl, ρ', σ') → SNx C s₁ s ad₁ ad → At h₀ C s.heap ad σ ρ → Src s.heap j →
      codeAny (model prog w) A (.forLoop (.Name (C.nm i) pn) (.ref I) b [] C.env) R s := by
  have k2 : ∀ {f f0 ρ0 σ0 s' ad'}, some (f0, ρ0, σ0) = some (fl, ρ', σ') → SNx C s₁ s' ad₁ ad' → At h₀ C s'.heap ad' σ0 ρ0 → RelF s'.heap ad' f f0 → R (.ok f) s' := fun e x a r => by
    cases e; exact k _ _ _ x a r
  clear k
  intro m s j ρ σ ad hl x a hS
  suffices H : ∀ Inv : Nat → Shared → Prop, (∀ m s, Inv m s ↔ ∃ j ρ σ ad, loopF src bodyE i n kill cy m j ρ σ = some (fl, ρ', σ') ∧ SNx C s₁ s ad₁ ad ∧ At h₀ C s.heap ad σ ρ ∧ Src s.heap j) → Inv m s → codeAny (model prog w) A (.forLoop (.Name (C.nm i) pn) (.ref I) b [] C.env) R s
    from H _ (fun _ _ => Iff.rfl) ⟨j, ρ, σ, ad, hl, x, a, hS⟩
  clear hl x a hS
  intro Inv hI h0
  refine codeAny_forLoop Inv ?_ m h0
  clear h0
  have hIL : I ∉ C.fs := fun q => by
    obtain ⟨m, o, _, _, ho, _⟩ := a₁.act.isNs I q
    rw [w1] at ho; cases ho
  have hIc : ∀ i, i < C.nv → C.env.cells.lookup (C.nm i) ≠ some I := fun i hi e => by
    obtain ⟨_, x, ⟨o, ho, _⟩, _⟩ := a₁.act.cel i I hi e
    rw [w1] at ho; cases ho
  have hI0 : h₀.get? I = none := by
    cases e : h₀.get? I with
    | none => rfl
    | some o => have := a₁.base.keep I o e; rw [w1] at this; cases this
  intro m s h0
  obtain ⟨j, ρ, σ, ad, hl, x, a, hS⟩ := (hI _ _).mp h0
  clear h0
  cases m with
  | zero => exact (no hl).elim
  | succ m =>
    obtain ⟨y, hy, hl2⟩ := bnd hl
    clear hl
    have hl := hl2
    clear hl2
    obtain ⟨hIn, oI, hIo⟩ := SO.obj _ _ hS
    split at hl
    · rename_i hv
      refine SO.fin s ad _ j y _ _ x.pre hS a.led hy hv fun h' tk hs => ?_
      exact wpAny_execs_nil (k2 (s' := { s with heap := h', toks := tk }) hl (x.but (t := tk) w1 hs) (a.but hs hIn hIL hIc hI0) rfl)
    · rename_i v hv
      refine SO.item s ad _ j y v _ _ x.pre hS a.led hy hv fun u h' tk hs hS' hu => ?_
      have a' := a.but hs hIn hIL hIc hI0
      have x' := x.but (t := tk) w1 hs
      refine wpAny_assign_Name (st_var (s := { s with heap := h', toks := tk }) ok a' st (hu.but hs hIn) fun s₂ x₂ a₂ => ?_)
      obtain ⟨⟨f, ρ₃, σ₃⟩, hb, hl2⟩ := bnd hl
      clear hl
      have hl := hl2
      clear hl2
      refine wpAny_mono (hB _ _ _ _ _ hb s₂ ad _ a₂ fun fl' s₃ ad₃ x₃ a₃ hf => ?_) (fun _ _ z => z) fun _ _ z => z.elim
      have xx := (x'.trans x₂).trans x₃
      have S3 : Src s₃.heap (j + 1) := by
        have X := x₂.trans x₃
        refine SO.keep _ _ ad σ _ x.pre hS' a'.led fun b o hb hk e => X.keep b o hb (fun q => ?_) (fun i hi q => ?_) e
        · rcases hk with hk | ⟨xs, l, hk⟩
          · exact hIL (hk ▸ q)
          · obtain ⟨m', hn'⟩ := a'.act.isNs b q
            exact ns_notSeq hn' o xs l e hk
        · rcases hk with hk | ⟨xs, l, hk⟩
          · exact hIc i hi (hk ▸ q)
          · obtain ⟨_, z, hz, _⟩ := a'.act.cel i b hi q
            exact cell_notSeq hz o xs l e hk
      cases f with
      | nx =>
        cases hf
        obtain ⟨⟨ρ₄, σ₄⟩, ht, hl⟩ := bnd hl
        obtain ⟨ad₄, a₄, p, q⟩ := trimC_ok (a₃.kill kill) ht
        obtain ⟨e1, r1⟩ := xx.pre
        have p' : ∃ ex, ad₄ = ad₁ ++ ex := by
          obtain ⟨e4, r4⟩ := p
          exact ⟨e4, by rw [r4, r1, hn, List.take_left]⟩
        exact ⟨m, Nat.lt_succ_self _, (hI _ _).mpr ⟨j + 1, ρ₄, σ₄, ad₄, hl, xx.sub p' q, a₄, S3⟩⟩
      | bk => cases hf; exact k2 hl xx a₃ rfl
      | rt v => obtain ⟨u, rfl, r⟩ := hf; exact k2 hl xx a₃ ⟨u, rfl, r⟩
theorem sv_forL {i k : Nat} {it : Expr} {b : List Stmt} {pn p : Pos} {σ₁ : St} {kill : List Nat} {cy : Option Nat} {bodyE : Rho → St → Option (Fl × Rho × St)} {fl : Fl} {m q : Nat} (aok : AOk q A) (ok : FCOk C) (st : Sto C i)
    (hi : EvT prog w h₀ A C it ρ σ (.lst k) σ₁) (hk : (σ₁[k]?).isSome) (hB : ∀ ρ σ fl ρ' σ', bodyE ρ σ = some (fl, ρ', σ') → BvT prog w h₀ A C b ρ σ fl ρ' σ')
    (hl : loopF (fun σ => σ[k]?) bodyE i σ₁.length kill cy m 0 ρ σ₁ = some (fl, ρ', σ')) (hs : ∀ x, foldedSetIterable it C.env x = pure x) : SvT prog w h₀ A C (.For (.Name (C.nm i) pn) it b [] p) ρ σ fl ρ' σ' := by
  intro s ad Q a kq
  refine wpAny_For (hi s ad _ a fun u s₁ ad₁ x₁ l₁ r₁ => ?_) hs
  have a₁ := a.mono x₁.ext l₁
  obtain ⟨x, hx⟩ := Option.isSome_iff_exists.mp hk
  obtain ⟨ax, vs, rfl, ha, pl, hr⟩ := Led.list (l := l₁) hx r₁
  have hlt : ax ≠ s₁.heap.objs.size := Nat.ne_of_lt (by obtain ⟨o, _, e, _⟩ := pl; exact Heap.lt_size e)
  have up : ∀ b o, s₁.heap.get? b = some o → (s₁.heap.push { cls := .type "list_iterator", data := .fields #[.ref ax, .int 0 0] }).get? b = some o := fun b o e => Heap.get?_push_of_some _ e
  refine wpAny_pyIter_list pl.isList ?_
  have N : Nx C.fs s₁ { s₁ with heap := s₁.heap.push { cls := .type "list_iterator", data := .fields #[.ref ax, .int 0 0] } } ad₁ ad₁ := .grow (t := s₁.toks) up
  refine for_loop ok st a₁ l₁.len.symm (src_list aok.handled ha hlt) (size_fresh _) hB (fun f s' ad' x' a' r => kq f s' ad' ((SNx.of x₁).trans x') a' r) m _ 0 ρ σ₁ ad₁ hl (.of N) (a₁.mono N.ext (l₁.keeps up)) ⟨_, Heap.get?_push_size _ rfl, rfl, rfl⟩
end
end Mine
end

section
set_option maxRecDepth 100000
set_option autoImplicit false
namespace Mine
open PySem PySem.W PyProof.Rows
section
open PySem.AutoSeq1
theorem list_extendW (l : Addr) (items : Array Value) (n : Nat) (b : Addr) (items2 : Array Value) (n2 : Nat) (d d2 : Option Addr) (sl sl2 : Array (Option Value)) (hc0 : ¬(!items.isEmpty && Builtin.List.listTooLong (items.size + items2.size)) = true) (hc1 : items.size ≤ sizeLine) (hs2 : items.size + items2.size ≤ sizeLine + 1) :
    Meets (Builtin.«list.extend» ⟨[.ref l, .ref b], []⟩) (fun _ R s => s.heap.get? l = some { cls := .type "list", dict := d, data := .seq items n, slots := sl } ∧ s.heap.get? b = some { cls := .type "list", dict := d2, data := .seq items2 n2, slots := sl2 } ∧ R (.ok (.ret Value.none)) { s with heap := s.heap.update l (Obj.mapSeq fun x => x ++ items2), toks := s.toks }) :=
  .of_wp fun prog w A R s h => by
    obtain ⟨hp, g, dr, tk, os⟩ := s; obtain ⟨hl, hb, h⟩ := h; have f1 := AutoSeq1.idx_int; have f2 := AutoSeq1.sub_tuple_tuple; have f3 := AutoSeq1.sub_list_list; have f4 := AutoSeq1.sub_tuple_list; have f5 := AutoSeq1.sub_list_tuple;
    have hz' : (items ++ items2).size ≤ sizeLine + 1 := by rw [Array.size_append]; exact hs2
    wp_walk using (wpAny_updateSeq hl rfl (hz := hc1) (_hz' := hz')), wpAny_loadPart' hl, wpAny_loadPart' hb; exact ⟨_, rfl, h⟩
end
section
variable {prog : Program} {w : World} {h₀ : Heap} {A : Around} {C : FC} {ρ ρ' : Rho} {σ σ' : St} {mg mb : Str → Option Value}
theorem sv_forR {i : Nat} {b : List Stmt} {e : Expr} {es : List Expr} {pf pc pn p : Pos} {σ₁ : St} {vs : List V} {lo hi : Int} {kill : List Nat} {cy : Option Nat} {bodyE : Rho → St → Option (Fl × Rho × St)} {fl : Fl} {m q : Nat} (W : Wld h₀ mg mb) (aok : AOk q A) (ok : FCOk C) (st : Sto C i)
    (kr : C.env.kindOf (Str.ofString "range") = some .globalImplicit) (ha : LvT prog w h₀ A C (e :: es) ρ σ vs σ₁) (hv : (vs = [.int hi] ∧ lo = 0) ∨ vs = [.int lo, .int hi]) (hlo : small lo = true) (hhi : small hi = true)
    (hs : starEach (e :: es) C.env = (false, eval e C.env) :: starEach es C.env) (hp : (backTo pc (starEach (e :: es) C.env)).any (·.1) = false)
    (hB : ∀ ρ σ fl ρ' σ', bodyE ρ σ = some (fl, ρ', σ') → BvT prog w h₀ A C b ρ σ fl ρ' σ')
    (hl : loopF (fun _ => some (upFrom lo hi)) bodyE i σ₁.length kill cy m 0 ρ σ₁ = some (fl, ρ', σ')) :
    SvT prog w h₀ A C (.For (.Name (C.nm i) pn) (.Call (.Name (Str.ofString "range") pf) (e :: es) [] pc) b [] p) ρ σ fl ρ' σ' := by
  intro s ad Q a kq
  refine wpAny_For ?_ (fun x => rfl)
  refine wpAny_Call_NameR (ld_boot W a.base ok kr (by decide) W.rng.1 W.rng.2 ?_)
  have hx := ha s ad pc (fun us s₁ => wpAny (model prog w) A (call (.type "range") us) (fun x s₁ => wpAny (model prog w) A (pyIter x) (fun it s₂ => codeAny (model prog w) A (.forLoop (.Name (C.nm i) pn) it b [] C.env) (fun r s' => match r with
              | Except.ok f => Q f s'
              | Except.error e => cameBackBy (model prog w) A C.env (fun _ _ => False) e s') s₂) (fun _ _ => False) s₁) (fun _ _ => False) s₁) a ?_
  · rw [hs] at hx hp ⊢
    exact PyProof.Rows.callWith_type hp (Calls.evalArgs_plain hx)
  intro us s₁ ad₁ x₁ l₁ r₁
  have a₁ := a.mono x₁.ext l₁
  have l1 := small_lt hlo
  have l2 := small_lt hhi
  have hsz : Builtin.Range.rangeSize lo hi 1 = ((hi - lo).toNat : Int) := by rw [rangeSize_one]; split <;> omega
  have fin : ∀ (H : Heap) (tk : Nat) (t u v : Tok), (∀ b o, s₁.heap.get? b = some o → H.get? b = some o) → H.objs.size = s₁.heap.objs.size + 1 → IsRange H s₁.heap.objs.size lo hi 1 t u v → wpAny (model prog w) A (pyIter (.ref s₁.heap.objs.size)) (fun it s₂ => codeAny (model prog w) A (.forLoop (.Name (C.nm i) pn) it b [] C.env) (fun r s' => match r with
              | Except.ok f => Q f s'
              | Except.error e => cameBackBy (model prog w) A C.env (fun _ _ => False) e s') s₂) (fun _ _ => False) { s₁ with heap := H, toks := tk } := by
    intro H tk t u v kp hP hR
    refine wpAny_pyIter_range hR (small_one (by omega) (by omega) (by omega) (by omega)) ?_
    dsimp only
    have up : ∀ b o, s₁.heap.get? b = some o → (H.push { cls := .type "range_iterator", data := .fields #[rawInt lo, rawInt (Builtin.Range.rangeSize lo hi 1), rawInt 1] }).get? b = some o :=
      fun b o e => Heap.get?_push_of_some _ (kp b o e)
    have N : Nx C.fs s₁ { s₁ with heap := H.push { cls := .type "range_iterator", data := .fields #[rawInt lo, rawInt (Builtin.Range.rangeSize lo hi 1), rawInt 1] }, toks := tk } ad₁ ad₁ := .grow up
    refine for_loop (s₁ := s₁) ok st a₁ l₁.len.symm (src_range aok.handled) (Heap.get?_none_of_le (by rw [hP]; exact Nat.le_succ _)) hB (fun f s' ad' x' a' r => kq f s' ad' ((SNx.of x₁).trans x') a' r) m _ 0 ρ σ₁ ad₁ hl (.of N) (a₁.mono N.ext (l₁.keeps up)) ⟨Nat.zero_le _, ?_⟩
    have e1 : lo + ((0 : Nat) : Int) * 1 = lo := by simp
    have e2 : (((hi - lo).toNat : Int) - ((0 : Nat) : Int)) = Builtin.Range.rangeSize lo hi 1 := by rw [hsz]; simp
    rw [e1, e2]
    exact Heap.get?_push_size _ rfl
  rcases hv with ⟨rfl, rfl⟩ | rfl
  · cases r₁ with
    | cons g1 g => cases g; obtain ⟨t, rfl⟩ := g1; exact call_range_1 (fin _ _ _ _ _ (fun b o e => Heap.get?_push_of_some _ e) (Heap.size_push ..) (IsRange.new ..))
  · cases r₁ with
    | cons g1 g => cases g with
      | cons g2 g => cases g; obtain ⟨t, rfl⟩ := g1; obtain ⟨t', rfl⟩ := g2; exact call_range_2 (fin _ _ _ _ _ (fun b o e => Heap.get?_push_of_some _ e) (Heap.size_push ..) (IsRange.new ..))
theorem sv_app {i k : Nat} {e : Expr} {pn pa pc p : Pos} {v : V} {x : List V} (ok : FCOk C) (hg : get ρ i = some (.lst k)) (he : EvT prog w h₀ A C e ρ σ v σ') (hx : σ'[k]? = some x) (hn : x.length ≤ 1000) (hline : (pa.endLine == pc.line) = true)
    (ht : starEach [e] C.env = [(false, eval e C.env)]) : SvT prog w h₀ A C (.Expr (.Call (.Attribute (.Name (C.nm i) pn) (Str.ofString "append") pa) [e] [] pc) p) ρ σ .nx ρ (σ'.set k (x ++ [v])) := by
  intro s ad Q a kq
  refine wpAny_Expr ?_ (by unfold interactive; rw [ok.kind]; rfl) rfl
  have hb : backTo pc (starEach [e] C.env) = [(false, eval e C.env)] := by rw [ht]; rfl
  refine wpAny_Call_append rfl (by rw [hb]; rfl) hline hb (ld_local ok a.act hg fun u r => ?_)
  obtain ⟨D, rfl, hD⟩ := r
  have hk : k < σ.length := by rw [← a.led.len]; exact (List.getElem?_eq_some_iff.mp hD).1
  obtain ⟨D', vs, hD', pl, hr⟩ := a.led.at (List.getElem?_eq_getElem hk)
  rw [hD] at hD'; cases hD'
  refine ⟨D, _, rfl, pl, he s ad _ a fun z s₁ ad₁ x₁ l₁ r₁ => ?_⟩
  have a₁ := a.mono x₁.ext l₁
  have hD1 := x₁.ext.idx hD
  obtain ⟨vs₁, pl₁, hr₁⟩ := l₁.lists k D x hD1 hx
  refine list_append_plainL pl₁ (fun h' pl' hs' => ?_) (by rw [List.size_toArray, hr₁.length, sizeLine_eq]; omega)
  rw [show vs₁.toArray.push z = List.toArray (vs₁ ++ [z]) by simp] at pl'
  obtain ⟨L', X'⟩ := l₁.set (L := C.fs) hD1 hs' pl' (hr₁.append (.cons r₁ .nil)) a₁.act.nL
  have N : Nx C.fs s₁ { s₁ with heap := h' } ad₁ ad₁ := ⟨X', .refl _, rfl, rfl⟩
  exact kq .next { s₁ with heap := h' } ad₁ (.of (x₁.trans N)) (a₁.mono X' L') rfl
theorem sv_ext {i k j : Nat} {e : Expr} {pn pa pc p : Pos} {x y : List V} (ok : FCOk C) (hg : get ρ i = some (.lst k)) (he : EvT prog w h₀ A C e ρ σ (.lst j) σ') (hx : σ'[k]? = some x) (hy : σ'[j]? = some y) (hn : x.length ≤ 1000) (hm : y.length ≤ 1000) (hline : (pa.endLine == pc.line) = true)
    (ht : starEach [e] C.env = [(false, eval e C.env)]) : SvT prog w h₀ A C (.Expr (.Call (.Attribute (.Name (C.nm i) pn) (Str.ofString "extend") pa) [e] [] pc) p) ρ σ .nx ρ (σ'.set k (x ++ y)) := by
  intro s ad Q a kq
  refine wpAny_Expr ?_ (by unfold interactive; rw [ok.kind]; rfl) rfl
  refine Call_method1 rfl ht hline (ld_local ok a.act hg fun u r => ?_)
  obtain ⟨D, rfl, hD⟩ := r
  have hk : k < σ.length := by rw [← a.led.len]; exact (List.getElem?_eq_some_iff.mp hD).1
  obtain ⟨D', vs, hD', pl, hr⟩ := a.led.at (List.getElem?_eq_getElem hk)
  rw [hD] at hD'; cases hD'
  obtain ⟨o, n, ho, hc, hd, _⟩ := id pl
  refine ⟨"list", "list.extend", F.plainAttrs_list, F.slot_list_extend, F.type_list_extend, pl.isList.typeIs, (fun b eb => by cases eb; exact ⟨o, ho, hd⟩), ?_⟩
  refine Calls.callWith_builtin rfl (Calls.evalArgs_plain (Calls.spliced_cons (he s ad _ a fun z s₁ ad₁ x₁ l₁ r₁ => Calls.spliced_nil ?_)))
  have a₁ := a.mono x₁.ext l₁
  have hD1 := x₁.ext.idx hD
  obtain ⟨vs₁, pl₁, hr₁⟩ := l₁.lists k D x hD1 hx
  obtain ⟨b, ws, rfl, hb, pl₂, hr₂⟩ := Led.list (l := l₁) hy r₁
  obtain ⟨⟨c1, d1, t1, s1⟩, n1, e1, hc1, hd1, ht1⟩ := id pl₁
  obtain ⟨⟨c2, d2, t2, s2⟩, n2, e2, hc2, hd2, ht2⟩ := id pl₂
  dsimp only at hc1 hd1 hc2 hd2 ht1 ht2
  subst hc1 hd1 hc2 hd2 ht1 ht2
  have g1 : vs₁.length = x.length := hr₁.length
  have g2 : ws.length = y.length := hr₂.length
  refine call_meets F.slot_list_extend ⟨_, e1, rfl⟩ F.entry_list_extend (F.args_list_extend_2 _ _) (list_extendW D vs₁.toArray n1 b ws.toArray n2 none none s1 s2 ?_ (by rw [List.size_toArray, sizeLine_eq]; omega) (by rw [List.size_toArray, List.size_toArray, sizeLine_eq]; omega)) ⟨e1, e2, ?_⟩
  · simp [Builtin.List.listTooLong, sizeLine]
    omega
  · have hs' := Heap.SameBut.update s₁.heap D (Obj.mapSeq fun z => z ++ ws.toArray)
    have pl' : PlainL (s₁.heap.update D (Obj.mapSeq fun z => z ++ ws.toArray)) D (List.toArray (vs₁ ++ ws)) := by
      have e3 : vs₁.toArray ++ ws.toArray = List.toArray (vs₁ ++ ws) := by simp
      rw [← e3]
      exact ⟨_, if (vs₁.toArray ++ ws.toArray).size == vs₁.toArray.size then n1 else n1 + 1, Heap.get?_update_self _ e1 rfl, rfl, rfl, rfl⟩
    obtain ⟨L', X'⟩ := l₁.set (L := C.fs) hD1 hs' pl' (hr₁.append hr₂) a₁.act.nL
    have N : Nx C.fs s₁ { s₁ with heap := s₁.heap.update D (Obj.mapSeq fun z => z ++ ws.toArray) } ad₁ ad₁ := ⟨X', .refl _, rfl, rfl⟩
    exact kq .next { s₁ with heap := s₁.heap.update D (Obj.mapSeq fun z => z ++ ws.toArray) } ad₁ (.of (x₁.trans N)) (a₁.mono X' L') rfl
end
end Mine
end

section
set_option maxRecDepth 100000
set_option autoImplicit false
namespace Mine
open PySem PySem.W PyProof.Rows
structure FnOk (f : Nat) (d : Fn) (N : List (Str × NameKind)) : Prop where
  le : d.args ≤ d.vars
  inj : ∀ i j, i < d.vars → j < d.vars → NM f i = NM f j → i = j
  dbg : ∀ i, i < d.vars → (NM f i == Str.ofString "__debug__") = false
  cd : ∀ i, i < d.vars → (NM f i == Str.ofString "__classdict__") = false
  kinds : ∀ i, i < d.args → N.lookup (NM f i) = some .local ∨ N.lookup (NM f i) = some .cell
  nofree : ∀ x, N.lookup x ≠ some .free
theorem cells_lookup {x : Str} : ∀ (N : List (Str × NameKind)) (n : Nat) (acc : List (Str × Addr)), ((acc.lookup x).isSome ∨ N.lookup x = some .cell) → ((cellsFrom n N acc).lookup x).isSome
  | [], n, acc, h => by
    rcases h with h | h
    · exact h
    · simp at h
  | (y, k) :: r, n, acc, h => by
    unfold cellsFrom
    by_cases hk : k = .cell
    · subst hk
      simp only [beq_self_eq_true, if_true]
      refine cells_lookup r _ _ ?_
      by_cases hx : x == y
      · left; simp [List.lookup_cons, hx]
      · have hx : (x == y) = false := by simpa using hx
        rcases h with h | h
        · left; simp only [List.lookup_cons, hx]; exact h
        · right; simpa [List.lookup_cons, hx] using h
    · have hk' : (k == NameKind.cell) = false := by simpa using hk
      simp only [hk', Bool.false_eq_true, if_false]
      refine cells_lookup r _ _ ?_
      rcases h with h | h
      · exact .inl h
      · right
        rw [List.lookup_cons] at h
        split at h
        · cases h; exact absurd rfl hk
        · exact h
theorem bindL_not {kindOf : Str → Option NameKind} {x : Str} : ∀ (binds : List (Str × Value)) (m : Str → Option Value), (∀ y ∈ binds, y.1 ≠ x) → bindL kindOf binds m x = m x
  | [], _, _ => rfl
  | (n, v) :: r, m, h => by
    unfold bindL
    rw [bindL_not r _ fun y hy => h y (.tail _ hy)]
    split
    · exact if_neg fun (q : x = n) => h (n, v) (.head _) q.symm
    · rfl
theorem bindC_not {kindOf : Str → Option NameKind} {x : Str} : ∀ (binds : List (Str × Value)) (m : Str → Option Value), (∀ y ∈ binds, y.1 ≠ x) → bindC kindOf binds m x = m x
  | [], _, _ => rfl
  | (n, v) :: r, m, h => by
    unfold bindC
    rw [bindC_not r _ fun y hy => h y (.tail _ hy)]
    split
    · rfl
    · exact if_neg fun (q : x = n) => h (n, v) (.head _) q.symm
theorem bindL_at {kindOf : Str → Option NameKind} {x : Str} {u : Value} (hk : kindOf x = some .local) : ∀ (binds : List (Str × Value)) (m : Str → Option Value), (binds.map (·.1)).Nodup → (x, u) ∈ binds → bindL kindOf binds m x = some u
  | [], _, _, h => by cases h
  | (n, v) :: r, m, nd, h => by
    rw [List.map_cons, List.nodup_cons] at nd
    unfold bindL
    rcases List.mem_cons.mp h with q | q
    · cases q
      rw [bindL_not r _ fun y hy (q : y.1 = x) => nd.1 (List.mem_map.mpr ⟨y, hy, q⟩), if_pos hk]; exact if_pos rfl
    · exact bindL_at hk r _ nd.2 q
theorem bindC_at {kindOf : Str → Option NameKind} {x : Str} {u : Value} (hk : kindOf x ≠ some .local) : ∀ (binds : List (Str × Value)) (m : Str → Option Value), (binds.map (·.1)).Nodup → (x, u) ∈ binds → bindC kindOf binds m x = some u
  | [], _, _, h => by cases h
  | (n, v) :: r, m, nd, h => by
    rw [List.map_cons, List.nodup_cons] at nd
    unfold bindC
    rcases List.mem_cons.mp h with q | q
    · cases q
      rw [bindC_not r _ fun y hy (q : y.1 = x) => nd.1 (List.mem_map.mpr ⟨y, hy, q⟩), if_neg hk]; exact if_pos rfl
    · exact bindC_at hk r _ nd.2 q
theorem zip_mem {f d : Nat} {us : List Value} (hl : us.length = d) {i : Nat} {u : Value} (h : us[i]? = some u) : (NM f i, u) ∈ ((List.range d).map (NM f)).zip us := by
  obtain ⟨hi, e⟩ := List.getElem?_eq_some_iff.mp h
  refine List.mem_iff_getElem.mpr ⟨i, by simp; omega, ?_⟩
  simp [e]
theorem zip_fst {f d : Nat} {us : List Value} (hl : us.length = d) : (((List.range d).map (NM f)).zip us).map (·.1) = (List.range d).map (NM f) := by
  rw [List.map_fst_zip]
  simp [hl]
theorem padR_get {vs : List V} {n i : Nat} {v : V} (h : get (padR vs n) i = some v) : vs[i]? = some v := by
  unfold padR get at h
  by_cases hi : i < vs.length
  · rw [List.getElem?_append_left (by simpa using hi), List.getElem?_map] at h
    rw [List.getElem?_eq_getElem hi] at h ⊢
    simpa using h
  · rw [List.getElem?_append_right (by simpa using hi)] at h
    rw [List.getElem?_replicate] at h
    split at h <;> cases h
/-- the frame of a call -/
noncomputable def fcOf (f : Nat) (d : Fn) (fd : FuncData) (L a : Addr) (out : List Addr) : FC := ⟨callEnvC fd L a, NM f, d.vars, out⟩
/-- the stack below: frames of functions whose names lie among Ls -/
noncomputable def GoodE (Ls : List Addr) (e : Env) : Prop := e.scope.kind ≠ .module ∧ ∃ l, l ∈ Ls ∧ e.frame = some l
noncomputable def AFr (A : Around) (Ls : List Addr) : Prop := ∃ l : List Env, A.frames = some l ∧ ∀ e, e ∈ l → GoodE Ls e
noncomputable def AFs (A : Around) (C : FC) : Prop := ∃ l : List Env, A.frames = some (C.env :: l) ∧ C.env.frame = some C.env.locals ∧ ∀ e, e ∈ l → GoodE C.out e
theorem AFs.weak {A : Around} {C : FC} (h : AFs A C) (ok : FCOk C) : AFr A C.fs := by
  obtain ⟨l, e1, e2, e3⟩ := h
  refine ⟨_, e1, fun e he => ?_⟩
  rcases List.mem_cons.mp he with rfl | he
  · exact ⟨by rw [ok.kind]; decide, _, .head _, e2⟩
  · obtain ⟨k, a, ha, hf⟩ := e3 e he
    exact ⟨k, a, .tail _ ha, hf⟩
theorem AFr.more {A : Around} {Ls : List Addr} {a : Addr} (h : AFr A Ls) : AFr A (a :: Ls) := by
  obtain ⟨l, e1, e2⟩ := h
  exact ⟨l, e1, fun e he => let ⟨k, b, hb, hf⟩ := e2 e he; ⟨k, b, .tail _ hb, hf⟩⟩
section
variable {prog : Program} {w : World} {h₀ : Heap} {A : Around} {C : FC} {ρ ρ' : Rho} {σ σ' : St} {mg mb : Str → Option Value}
theorem fc_ok {f : Nat} {d : Fn} {fd : FuncData} {L a : Addr} {out : List Addr} {cs : List (Str × Addr)} (hL : L ∉ out) (O : FnOk f d (SC f).names) (hs : fd.scope = SC f) (hk : fd.scope.kind = .function) (hg : fd.globals = mainGlobals) (hb : fd.builtins = builtinsNs)
    (ap : (callEnvC fd L a).cells = cs) (hap : cs.Pairwise fun x y => x.2 ≠ y.2) : FCOk (fcOf f d fd L a out) where
  nd := hL
  kind := hk
  glob := hg
  bi := hb
  inj := O.inj
  dbg := O.dbg
  cd := O.cd
  cinj := fun i j c hi hj h1 h2 => by
    have e : (fcOf f d fd L a out).env.cells = cs := ap
    rw [e] at h1 h2
    exact O.inj i j hi hj (name_of_addr hap (mem_of_lookup h1) (mem_of_lookup h2))
  cc := fun x h => cells_lookup _ _ _ (.inr h)
theorem call_fn {f : Nat} {d : Fn} {a : Addr} {L : List Addr} {s : Shared} {ad : List Addr} {us : List Value} {vs : List V} {v v' : V} {σ₁ : St} {k : Nat} {Q : Value → Shared → Prop} (W : Wld h₀ mg mb) (F : FnAt h₀ mg f d a) (O : FnOk f d (SC f).names) (aok : AOk (k + 1) A)
    (base : Base h₀ s.heap ad) (led : Led s.heap ad σ) (n : IsNs s.heap L) (hL : ∀ l, l ∈ L → l ∉ ad) (hL0 : ∀ l, l ∈ L → h₀.get? l = none) (fr : AFr A L) (r : RelVs s.heap ad us vs) (hlen : vs.length = d.args)
    (hB : ∀ C : FC, FCOk C → C.env.scope = SC f → C.nm = NM f → C.nv = d.vars → C.out = L → AFs (A.deeper C.env) C → BvT prog w h₀ (A.deeper C.env) C (trB (NM f) d.body) (padR vs d.vars) σ (.rt v) ρ' σ₁) (hb : back σ.length v σ₁ = some (v', σ')) (kq : Wants L s ad σ' v' Q) :
    wpAny (model prog w) A (call (.ref a) us) Q (fun _ _ => False) s := by
  obtain ⟨o, fd, body, ho, hd, hcd, hbody, hbe, hco, hgen, hk, hsc, hg, hbu, hcl, hbind⟩ := F.made
  have ul : us.length = d.args := r.length.trans hlen
  have hz := base.keep a o ho
  refine wpAny_call (codeAny_call_cells aok.room hz hd (W.nolimit.keeps base.keep) (hcd.keeps base.keep) hbody (hbind us ul) hcl ?_ ?_ hco hgen hk)
  · intro x hx
    have : x.1 ∈ (((List.range d.args).map (NM f)).zip us).map (·.1) := List.mem_map_of_mem hx
    rw [zip_fst ul] at this
    obtain ⟨i, hi, e⟩ := List.mem_map.mp this
    rw [← e, hsc]
    rcases O.kinds i (List.mem_range.mp hi) with q | q
    · exact .inl q
    · exact .inr ⟨q, cells_lookup _ _ _ (.inr q)⟩
  intro s₁ X
  have X1 := X.toInCall
  obtain ⟨h₁, tk, rfl⟩ := X1.same
  have keep : ∀ b o, s.heap.get? b = some o → h₁.get? b = some o := X1.keep
  have hsL : s.heap.objs.size ∉ L := fun q => by
    obtain ⟨m, o, _, _, ho, _⟩ := n _ q
    exact absurd (Heap.lt_size ho) (Nat.lt_irrefl _)
  have C0 : FCOk (fcOf f d fd s.heap.objs.size a L) := fc_ok hsL O hsc hk hg hbu rfl X.apart
  have fresh : ∀ b, s.heap.objs.size ≤ b → s.heap.get? b = none := fun b hb => Heap.get?_none_of_le hb
  have fresh0 : ∀ b, s.heap.objs.size ≤ b → h₀.get? b = none := fun b hb => by
    cases e : h₀.get? b with
    | none => rfl
    | some o => have := base.keep b o e; rw [fresh b hb] at this; cases this
  have freshA : ∀ b, s.heap.objs.size ≤ b → b ∉ ad := fun b hb hm => by
    obtain ⟨o, e⟩ := led.live hm
    rw [fresh b hb] at e; cases e
  have cellGe : ∀ i c, (fcOf f d fd s.heap.objs.size a L).env.cells.lookup (NM f i) = some c → s.heap.objs.size ≤ c := fun i c e => Nat.le_of_lt (X.above _ _ (mem_of_lookup e))
  have led1 : Led h₁ ad σ := led.keeps keep
  have up : ∀ {u : Value} {v : V}, RelV s.heap ad u v → RelV h₁ ad u v := fun q => q.keeps (fun b o _ e => keep b o e) ⟨[], by simp⟩ fun a h1 h2 => absurd h1 h2
  have nd : ((((List.range d.args).map (NM f)).zip us).map (·.1)).Nodup := by
    rw [zip_fst ul]
    refine List.nodup_iff_pairwise_ne.mpr (List.pairwise_map.mpr ?_)
    refine List.Pairwise.imp_of_mem (R := fun x y => x ≠ y) (fun {i j} hi hj h q => h (O.inj i j ?_ ?_ q)) (List.nodup_iff_pairwise_ne.mp List.nodup_range)
    · have := List.mem_range.mp hi; have := O.le; omega
    · have := List.mem_range.mp hj; have := O.le; omega
  have argAt : ∀ i y, get (padR vs d.vars) i = some y → i < d.args ∧ ∃ u, (NM f i, u) ∈ ((List.range d.args).map (NM f)).zip us ∧ RelV h₁ ad u y := fun i y e => by
    have e1 := padR_get e
    have hi := (List.getElem?_eq_some_iff.mp e1).1
    obtain ⟨u, hu, hr⟩ := r.get e1
    exact ⟨by omega, u, zip_mem ul hu, up hr⟩
  have kindEq : ∀ x, (fcOf f d fd s.heap.objs.size a L).env.kindOf x = (SC f).names.lookup x := fun x => by rw [← hsc]; rfl
  have at1 : At h₀ (fcOf f d fd s.heap.objs.size a L) h₁ ad σ (padR vs d.vars) := by
    refine ⟨⟨fun b o e => keep b o (base.keep b o e), base.off⟩, led1, ⟨?_, ⟨_, X1.ns, fun i y e kl => ?_⟩, fun l hl => ?_, fun l hl => let ⟨m, e⟩ := n l hl; ⟨m, e.keeps keep⟩, fun i y e => ?_, fun i c hi e => ?_⟩, fun l hl => ?_, fun i c hi e => fresh0 _ (cellGe i c e)⟩
    · have := O.le
      show (padR vs d.vars).length = d.vars
      simp [padR]; omega
    · obtain ⟨_, u, hm, hr⟩ := argAt i y e
      exact ⟨u, bindL_at kl _ _ nd hm, hr⟩
    · rcases List.mem_cons.mp hl with rfl | hl
      · exact freshA _ (Nat.le_refl _)
      · exact hL l hl
    · obtain ⟨hi, _⟩ := argAt i y e
      rcases O.kinds i hi with q | q
      · exact .inl ((kindEq _).trans q)
      · exact .inr ⟨.inl ((kindEq _).trans q), cells_lookup _ _ _ (.inr (by rw [← hsc] at q; exact q))⟩
    · refine ⟨freshA _ (cellGe i c e), _, X.cell _ c e, fun kc y ey => ?_⟩
      obtain ⟨_, u, hm, hr⟩ := argAt i y ey
      have kc' : (fcOf f d fd s.heap.objs.size a L).env.kindOf (NM f i) ≠ some .local := fun q => by
        rcases kc with p | p <;> (rw [show (fcOf f d fd s.heap.objs.size a L).nm = NM f from rfl, q] at p; cases p)
      exact ⟨u, bindC_at kc' _ _ nd hm, hr⟩
    · rcases List.mem_cons.mp hl with rfl | hl
      · exact fresh0 _ (Nat.le_refl _)
      · exact hL0 l hl
  have hAF : AFs (A.deeper (fcOf f d fd s.heap.objs.size a L).env) (fcOf f d fd s.heap.objs.size a L) := by
    obtain ⟨l, e1, e2⟩ := fr
    exact ⟨l, Around.frames_deeper e1, rfl, e2⟩
  have hBody := hB (fcOf f d fd s.heap.objs.size a L) C0 hsc rfl rfl rfl hAF
  rw [← hbe] at hBody
  refine wpAny_mono (hBody { s with heap := h₁, toks := tk } ad (fun fl s' => match (Except.ok (Flow.ret (match fl with | .ret v => v | _ => .none)) : Result) with | .ok (.ret v) => Q v s' | .ok _ => False | .error _ => False) at1 fun fl s' ad' x a' rf => ?_) (fun _ _ z => z) fun _ _ z => z.elim
  obtain ⟨u, rfl, ru⟩ := rf
  dsimp only
  have down : ∀ b o, s.heap.get? b = some o → b ∉ ad → b ∉ L → s'.heap.get? b = some o := fun b o e hb hbL => by
    have hlt := Heap.lt_size e
    refine x.keep b o hb (fun q => (List.mem_cons.mp q).elim (Nat.ne_of_lt hlt) hbL) (fun i hi q => ?_) (keep b o e)
    have := cellGe i b q
    exact absurd hlt (Nat.not_lt.mpr this)
  obtain ⟨ex, hex⟩ := x.pre
  have htake : ad'.take σ.length = ad := by rw [hex, ← led.len, List.take_left]
  have mkNx : ∀ ad₂ : List Addr, (∃ e, ad₂ = ad ++ e) → (∀ b, b ∈ ad₂ → b ∈ ad') → Nx L s s' ad ad₂ := fun ad₂ p q =>
    ⟨⟨fun b o hb hbL e => down b o e hb hbL, fun l hl m e => x.nsO l hl m (e.keeps keep), p, (fun b hb hn => by
      have := x.fresh b (q b hb) hn
      cases e : s.heap.get? b with
      | none => rfl
      | some o => rw [show h₁.get? b = some o from keep b o e] at this; cases this), fun b o e => x.live b o (keep b o e)⟩, x.gx, x.dr, x.os⟩
  unfold back at hb
  split at hb
  · rename_i hall
    split at hb
    · rename_i k
      split at hb
      · rename_i hkn
        simp only [Option.bind_eq_bind, Option.bind_eq_some_iff] at hb
        obtain ⟨y, hy, hb⟩ := hb
        split at hb
        · rename_i hyo
          cases hb
          obtain ⟨b, rfl, hbk⟩ := ru
          have l2 := a'.led.cut hall hy hbk hkn hyo
          rw [htake] at l2
          refine kq (.ref b) s' (ad ++ [b]) (mkNx _ ⟨_, rfl⟩ fun c hc => ?_) l2 ⟨b, rfl, ?_⟩
          · rcases List.mem_append.mp hc with m | m
            · rw [hex]; exact List.mem_append_left _ m
            · rw [List.mem_singleton.mp m]; exact List.mem_of_getElem? hbk
          · rw [← led.len]; simp
        · cases hb
      · cases hb
    · rename_i hw
      cases hb
      have l2 := a'.led.take hall
      rw [htake] at l2
      refine kq u s' ad (mkNx _ ⟨[], by simp⟩ fun c hc => by rw [hex]; exact List.mem_append_left _ hc) l2 ?_
      have := ru.ok (n := σ.length) (by cases v <;> first | rfl | exact (hw _ rfl).elim)
      rw [htake] at this
      exact this
  · cases hb
end
end Mine
end

section
set_option maxRecDepth 100000
set_option autoImplicit false
namespace Mine
open PySem PySem.W PyProof.Rows
theorem eq_floats {A : Around} {s : Shared} {x y : UInt64} {t u : Tok} (h0 : t ≠ 0) (h1 : u ≠ 0) (hn : t ≠ u) (hb : (x == y) = false) (hc : fEq x y = false) : SeqAt.EqAt A s (.float x t) (.float y u) false := fun prog w E Q hq => by
  unfold eqBool
  refine wpAny_holding ?_
  refine wpAny_ite_split (fun hab => absurd (by have := eq_of_beq hab; injection this) hn) (fun _ => ?_)
  show wpAny _ _ (isSame (.float x t) (.float y u) >>= _) _ _ _
  refine wpAny_bind ?_
  show wpAny _ _ (isSame.created (x == y && !Float64.isNaN x) t u) _ _ _
  unfold isSame.created
  rw [hb]
  have e1 : (t == 0 || u == 0) = false := by simp [h0, h1]
  have e2 : (t == u) = false := by simp [hn]
  rw [e1, e2]
  simp only [Bool.false_and, Bool.not_false, Bool.false_eq_true, if_false, if_true]
  refine wpAny_pure ?_
  simp only [Bool.false_eq_true, if_false]
  refine wpAny_bind ?_
  refine AutoFloatOps.eq_0 ?_
  rw [show (Float64.cmp x y == some .eq) = false from hc]
  exact wpAny_truthy_bool hq
theorem tuple_ltM (l b : Addr) (x0 x1 y0 y1 : Value) (n n2 : Nat) (dd dd2 : Option Addr) (sl sl2 : Array (Option Value)) (c : Bool) :
    Meets (Builtin.«tuple.__lt__» ⟨[.ref l, .ref b], []⟩)
      (fun A R s => s.heap.get? l = some { cls := .type "tuple", dict := dd, data := .seq #[x0, x1] n, slots := sl } ∧ s.heap.get? b = some { cls := .type "tuple", dict := dd2, data := .seq #[y0, y1] n2, slots := sl2 } ∧
        SeqAt.EqAt A.in1 s x0 y0 false ∧ (∀ prog w E (Q : Value → Shared → Prop), Q (.bool c) s → wpAny (model prog w) A.in1 (richCompare .Lt x0 y0) Q E s) ∧
        R (.ok (.ret (.bool c))) s) :=
  .of_wp fun prog w A R s h => by
    obtain ⟨hp, g, d, tk, os⟩ := s; obtain ⟨hl, hb, he, hr, h⟩ := h
    have f2 := AutoSeq1.sub_tuple_tuple
    wp_walk using AutoSeq1.wpAny_loadPart' hl, AutoSeq1.wpAny_loadPart' hb, wpAny_forIn_list _ (fun rest b s' => b.1 = none ∧ s' = ⟨hp, g, d, tk, os⟩ ∧ rest = [(x0, y0), (x1, y1)]) _
    case turn =>
      rintro ⟨y, x⟩ rest b s' ⟨hb', rfl, hz⟩
      cases hz
      refine wpAny_bind (he prog w _ _ ?_)
      dsimp only
      simp only [Bool.not_false, if_true]
      refine wpAny_bind (wpAny_rule (wpAny_bind (hr prog w _ _ ?_)))
      wp_walk
      exact ⟨_, rfl, h⟩
    case fin =>
      rintro b s' ⟨_, _, hz⟩
      cases hz
    case h => exact ⟨rfl, rfl, rfl⟩
theorem tuple_lt {prog : Program} {w : World} {A : Around} {s : Shared} {E : Value → Shared → Prop} {Q : Value → Shared → Prop} {a b : Addr} {x y : UInt64} {t u : Tok} {x1 y1 : Value} (ha : IsTup s.heap a #[.float x t, x1]) (hb : IsTup s.heap b #[.float y u, y1]) (hu : A.units < cLine)
    (h0 : t ≠ 0) (h1 : u ≠ 0) (hn : t ≠ u) (hxy : (x == y) = false) (hc : fEq x y = false) (h : Q (.bool (fLt x y)) s) : wpAny (model prog w) A (richCompare .Lt (.ref a) (.ref b)) Q E s := by
  obtain ⟨⟨c1, d1, t1, s1⟩, e1, hc1, n1, hd1⟩ := id ha
  obtain ⟨⟨c2, d2, t2, s2⟩, e2, hc2, n2, hd2⟩ := id hb
  dsimp only at hc1 hd1 hc2 hd2
  subst hc1 hd1 hc2 hd2
  exact richCompare_meets_room (op := .Lt) ⟨_, e1, rfl⟩ ⟨_, e2, rfl⟩ F.slot_tuple_lt F.entry_tuple_lt (F.args_tuple_lt_2 _ _) (tuple_ltM a b _ _ _ _ n1 n2 d1 d2 s1 s2 (fLt x y))
    ⟨e1, e2, eq_floats h0 h1 hn hxy hc, fun prog w E Q q => AutoFloatOps.lt_0 q, show Value.bool (fLt x y) ≠ Value.notImplemented ∧ Q (.bool (fLt x y)) s from ⟨(fun x => nomatch x), h⟩⟩ hu
section
variable {prog : Program} {w : World} {A : Around} {R : Result → Shared → Prop} {I : Addr} {fp wr : List Addr} {n : Nat} {P : Nat → Value → Prop} {St : Nat → Heap → Prop}
/-- min's turns over things that lie in the heap -/
theorem min_loop (W : Walks prog w A.in1 I fp wr n P St) (bt : Nat → Nat → Bool) (S : Addr) (hSf : S ∉ fp) (H : Heap → Prop) (hH : ∀ h h', H h → (∀ b o, b ∉ wr → b ≠ S → h.get? b = some o → h'.get? b = some o) → H h')
    (hcmp : ∀ j vi vj (s : Shared) (Q : Value → Shared → Prop) (E : Value → Shared → Prop), j + 1 < n → H s.heap → P (j + 1) vi → P (argBest bt j) vj → Q (.bool (bt (j + 1) (argBest bt j))) s → wpAny (model prog w) A.in1 (richCompare .Lt vi vj) Q E s) :
    ∀ (k j : Nat) (s : Shared) (vb : Value) (c : Nat), n - (j + 1) = k → j + 1 ≤ n → St (j + 1) s.heap → H s.heap → P (argBest bt j) vb →
    s.heap.get? S = some { cls := .type "list", dict := none, data := .seq #[vb, vb] c, slots := #[] } →
    (∀ v h' tk, P (argBest bt (n - 1)) v → (∀ b o, b ∉ wr → b ≠ S → s.heap.get? b = some o → h'.get? b = some o) → R (.ok (.ret v)) { s with heap := h', toks := tk }) →
    codeAny (model prog w) A (.builtin "min.loop" ⟨[.ref I, .none, .ref S], []⟩) R s := by
  have hSw : S ∉ wr := fun h => hSf (W.sub _ h)
  have hname : (toString "min" ++ toString ".loop" : String) = "min.loop" := by decide
  intro k
  induction k with
  | zero =>
    intro j s vb c hk hj hst _ hPb hS hR
    have hin : j + 1 = n := by omega
    refine codeAny_builtin F.entry_min_loop ?_
    rw [Around.under_plainId F.plain_min_loop _]
    show wpAny _ A.in1 (seqItems? (.ref S) >>= _) _ _ s
    refine wpAny_bind (wpAny_seqItems hS rfl ?_)
    show wpAny _ A.in1 (tryCatch (pyNext (.ref I)) _ >>= _) _ _ s
    refine wpAny_bind (wpAny_tryCatch (W.done s _ _ (hin ▸ hst) fun h' tk hk' => ?_))
    have hS' := hk' S _ hSw hS
    show wpAny _ A.in1 (updateSeq S (fun _ => #[]) >>= _) _ _ _
    refine wpAny_bind ?_
    refine wpAny_updateSeq hS' rfl (wpAny_bind (wpAny_letGo (wpAny_pure ?_)))
    refine hR vb _ tk (by rw [← hin]; exact hPb) fun b o hbw hbS e => (Heap.get?_update_other _ _ (Ne.symm hbS)).trans (hk' b o hbw e)
  | succ k ih =>
    intro j s vb c hk hj hst hHs hPb hS hR
    have hlt : j + 1 < n := by omega
    refine codeAny_builtin F.entry_min_loop ?_
    rw [Around.under_plainId F.plain_min_loop _]
    show wpAny _ A.in1 (seqItems? (.ref S) >>= _) _ _ s
    refine wpAny_bind (wpAny_seqItems hS rfl ?_)
    show wpAny _ A.in1 (tryCatch (pyNext (.ref I)) _ >>= _) _ _ s
    refine wpAny_bind (wpAny_tryCatch (W.item (j + 1) s _ _ hlt hst fun v h' tk hP hst' hk' => ?_))
    have hS' := hk' S _ hSw hS
    have hH' : H h' := hH _ _ hHs fun b o hb _ e => hk' b o hb e
    show wpAny _ A.in1 (tryCatch (holding [v, v] (richCompare .Lt v vb >>= _)) _ >>= _) _ _ _
    refine wpAny_bind (wpAny_tryCatch (wpAny_holding (wpAny_bind (hcmp j v vb _ _ _ hlt hH' hP hPb ?_))))
    refine wpAny_bind (wpAny_holding (wpAny_truthy_bool ?_))
    refine wpAny_bind (wpAny_letGo (wpAny_pure ?_))
    cases hb : bt (j + 1) (argBest bt j) with
    | true =>
      simp only [if_true]
      refine wpAny_bind ?_
      refine wpAny_updateSeq hS' rfl (wpAny_bind (wpAny_letGo ?_))
      rw [hname]
      refine wpAny_pure ⟨plainId_quiet F.plain_min_loop _, ih (j + 1) _ v _ (by omega) hlt (W.frame _ _ _ hst' fun b hbf o e => ?_) (hH _ _ hH' fun b o _ hbS e => (Heap.get?_update_other _ _ (Ne.symm hbS)).trans e) (by simp only [argBest, hb, if_true]; exact hP) (Heap.get?_update_self _ hS' rfl)
        fun v' h'' tk'' hP' hk'' => ?_⟩
      · exact (Heap.get?_update_other _ _ (fun h : S = b => hSf (by rw [h]; exact hbf))).trans e
      · exact hR v' h'' tk'' hP' fun b o hbw hbS e => hk'' b o hbw hbS ((Heap.get?_update_other _ _ (Ne.symm hbS)).trans (hk' b o hbw e))
    | false =>
      simp only [Bool.false_eq_true, if_false]
      refine wpAny_bind (wpAny_letGo ?_)
      rw [hname]
      refine wpAny_pure ⟨plainId_quiet F.plain_min_loop _, ih (j + 1) _ vb c (by omega) hlt hst' hH' (by simp only [argBest, hb, Bool.false_eq_true, if_false]; exact hPb) hS' fun v' h'' tk'' hP' hk'' => ?_⟩
      exact hR v' h'' tk'' hP' fun b o hbw hbS e => hk'' b o hbw hbS (hk' b o hbw e)
theorem call_min_list {s : Shared} {l : Addr} {items : Array Value} {E : Value → Shared → Prop} {Q : Value → Shared → Prop} (bt : Nat → Nat → Bool) (hh : A.handled = none) (hl : s.heap.IsList l items) (hn : 0 < items.size) (H : Heap → Prop) (hH0 : H s.heap)
    (hH : ∀ h h', H h → (∀ b o, b < s.heap.objs.size → h.get? b = some o → h'.get? b = some o) → H h')
    (hcmp : ∀ j vi vj (s : Shared) (Q : Value → Shared → Prop) (E : Value → Shared → Prop), j + 1 < items.size → H s.heap → items[j + 1]? = some vi → items[argBest bt j]? = some vj → Q (.bool (bt (j + 1) (argBest bt j))) s → wpAny (model prog w) A.in1 (richCompare .Lt vi vj) Q E s)
    (hQ : ∀ v h' tk, items[argBest bt (items.size - 1)]? = some v → (∀ b o, s.heap.get? b = some o → h'.get? b = some o) → Q v { s with heap := h', toks := tk }) : wpAny (model prog w) A (call (.builtin "min") [.ref l]) Q E s := by
  have hname : (toString "min" ++ toString ".loop" : String) = "min.loop" := by decide
  have hlt : l < s.heap.objs.size := by obtain ⟨o, e, _⟩ := hl; exact Heap.lt_size e
  refine call_function_tree F.kind_min F.plain_min F.entry_min (F.args_min1 _) ?_
  show wpAny _ A.in1 (Builtin.Builtins.bindParams "min" ["key", "default"] 0 ⟨[], []⟩ >>= _) _ _ s
  refine wpAny_bind (wpAny_of_eq (show Builtin.Builtins.bindParams "min" ["key", "default"] 0 ⟨[], []⟩ = pure [none, none] from rfl) ?_)
  refine wpAny_bind (wpAny_pure ?_)
  refine wpAny_bind (wpAny_pyIter_list hl ?_)
  refine wpAny_bind (wpAny_newObj_type ?_)
  dsimp only
  generalize hH1 : s.heap.push { cls := .type "list_iterator", data := .fields #[.ref l, .int 0 0] } = H1
  have hz1 : H1.objs.size = s.heap.objs.size + 1 := by rw [← hH1]; exact Heap.size_push ..
  have up : ∀ b o, s.heap.get? b = some o → H1.get? b = some o := fun b o e => by rw [← hH1]; exact Heap.get?_push_of_some _ e
  have hI : H1.IsListIter s.heap.objs.size l 0 := by rw [← hH1]; exact ⟨_, Heap.get?_push_size _ rfl, rfl, rfl⟩
  rw [hname]
  have W := Walks.list (prog := prog) (w := w) (A := A.in1) hh s.heap.objs.size l (Nat.ne_of_lt hlt) items
  have hSf : H1.objs.size ∉ [s.heap.objs.size, l] := fun hm => by
    rw [hz1] at hm
    rcases List.mem_cons.mp hm with e | hm
    · exact absurd e (Nat.succ_ne_self _)
    · rw [← List.mem_singleton.mp hm] at hlt; exact absurd hlt (Nat.not_lt.mpr (Nat.le_succ _))
  generalize hH2 : H1.push { cls := .type "list", dict := none, data := .seq ([] : List Value).toArray } = H2
  have up2 : ∀ b o, H1.get? b = some o → H2.get? b = some o := fun b o e => by rw [← hH2]; exact Heap.get?_push_of_some _ e
  have hS2 : H2.get? H1.objs.size = some { cls := .type "list", dict := none, data := .seq #[] 0, slots := #[] } := by rw [← hH2]; exact Heap.get?_push_size _ rfl
  have st2 : H2.IsListIter s.heap.objs.size l 0 ∧ H2.IsList l items := ⟨hI.at fun o e => up2 _ o e, hl.at fun o e => up2 _ o (up _ o e)⟩
  have keepH : ∀ h h' : Heap, H h → (∀ b o, b ∉ [s.heap.objs.size] → b ≠ H1.objs.size → h.get? b = some o → h'.get? b = some o) → H h' := fun h h' x k => hH h h' x fun b o hb e => k b o (fun q => by rw [List.mem_singleton.mp q] at hb; exact absurd hb (Nat.lt_irrefl _)) (by rw [hz1]; exact Nat.ne_of_lt (Nat.lt_succ_of_lt hb)) e
  refine wpAny_pure ⟨plainId_quiet F.plain_min_loop _, ?_⟩
  refine codeAny_builtin F.entry_min_loop ?_
  rw [Around.under_plainId F.plain_min_loop _]
  show wpAny _ A.in1 (seqItems? (.ref H1.objs.size) >>= _) _ _ _
  refine wpAny_bind (wpAny_seqItems hS2 rfl ?_)
  show wpAny _ A.in1 (tryCatch (pyNext (.ref s.heap.objs.size)) _ >>= _) _ _ _
  refine wpAny_bind (wpAny_tryCatch (W.item 0 _ _ _ hn st2 fun v h' tk hP hst' hk' => ?_))
  have hS' := hk' H1.objs.size _ (fun q => by rw [List.mem_singleton.mp q] at hz1; exact absurd hz1.symm (Nat.succ_ne_self _)) hS2
  show wpAny _ A.in1 (updateSeq H1.objs.size (fun _ => #[v, v]) >>= _) _ _ _
  refine wpAny_bind ?_
  refine wpAny_updateSeq hS' rfl ?_
  rw [hname]
  have H0 : H h' := keepH _ _ (hH _ _ hH0 fun b o _ e => up2 b o (up b o e)) fun b o hb _ e => hk' b o hb e
  refine wpAny_pure ⟨plainId_quiet F.plain_min_loop _, min_loop W bt H1.objs.size hSf H keepH hcmp _ 0 _ v _ rfl hn (W.frame _ _ _ hst' fun b hbf o e => ?_) (keepH _ _ H0 fun b o _ hbS e => (Heap.get?_update_other _ _ (Ne.symm hbS)).trans e) hP (Heap.get?_update_self _ hS' rfl) fun v' h'' tk'' hP' hk'' => ?_⟩
  · exact (Heap.get?_update_other _ _ (fun h : H1.objs.size = b => hSf (by rw [h]; exact hbf))).trans e
  · refine hQ v' h'' tk'' hP' fun b o e => ?_
    have hb := Heap.lt_size e
    have n1 : b ∉ [s.heap.objs.size] := fun q => by rw [List.mem_singleton.mp q] at hb; exact absurd hb (Nat.lt_irrefl _)
    have n2 : b ≠ H1.objs.size := by rw [hz1]; exact Nat.ne_of_lt (Nat.lt_succ_of_lt hb)
    exact hk'' b o n1 n2 ((Heap.get?_update_other _ _ (Ne.symm n2)).trans (hk' b o n1 (up2 b o (up b o e))))
end
end Mine
end

section
set_option maxRecDepth 100000
set_option autoImplicit false
namespace Mine
open PySem PySem.W PyProof.Rows
/-- the ways that are told, as they lie: pairs of floats, the firsts made one after the other -/
noncomputable def Ways (h : Heap) (T : Nat) (us : List Value) (ws : List (UInt64 × UInt64)) : Prop :=
  us.length = ws.length ∧ ∃ ts : List Tok, ts.length = ws.length ∧ ts.Pairwise (· < ·) ∧ (∀ t, t ∈ ts → 0 < t ∧ t < T) ∧
    ∀ (j : Nat) (w : UInt64 × UInt64), ws[j]? = some w → ∃ a t t', us[j]? = some (Value.ref a) ∧ ts[j]? = some t ∧ IsTup h a #[.float w.1 t, .float w.2 t']
theorem Ways.nil {h : Heap} {T : Nat} : Ways h T [] [] := ⟨rfl, [], rfl, .nil, fun _ m => (nomatch m), fun j w e => by simp at e⟩
theorem Ways.mono {h h' : Heap} {T T' : Nat} {us : List Value} {ws : List (UInt64 × UInt64)} (x : Ways h T us ws) (hT : T ≤ T') (k : ∀ b o xs n, o.data = .seq xs n → o.cls = .type "tuple" → h.get? b = some o → h'.get? b = some o) : Ways h' T' us ws := by
  obtain ⟨l, ts, h1, h2, h3, h4⟩ := x
  refine ⟨l, ts, h1, h2, fun t ht => ⟨(h3 t ht).1, Nat.lt_of_lt_of_le (h3 t ht).2 hT⟩, fun j w e => ?_⟩
  obtain ⟨a, t, t', e1, e2, o, ho, hc, n, hd⟩ := h4 j w e
  exact ⟨a, t, t', e1, e2, o, k a o _ n hd hc ho, hc, n, hd⟩
theorem Ways.snoc {h : Heap} {T t T' : Nat} {us : List Value} {ws : List (UInt64 × UInt64)} {a : Addr} {w : UInt64 × UInt64} {t' : Tok} (x : Ways h T us ws) (h1 : T ≤ t) (h0 : 0 < t) (h2 : t < T') (ht : IsTup h a #[.float w.1 t, .float w.2 t']) : Ways h T' (us ++ [.ref a]) (ws ++ [w]) := by
  obtain ⟨l, ts, g1, g2, g3, g4⟩ := x
  refine ⟨by simp [l], ts ++ [t], by simp [g1], List.pairwise_append.mpr ⟨g2, by simp, fun p hp q hq => ?_⟩, fun p hp => ?_, fun j v e => ?_⟩
  · rw [List.mem_singleton.mp hq]; exact Nat.lt_of_lt_of_le (g3 p hp).2 h1
  · rcases List.mem_append.mp hp with m | m
    · exact ⟨(g3 p m).1, Nat.lt_trans (Nat.lt_of_lt_of_le (g3 p m).2 h1) h2⟩
    · rw [List.mem_singleton.mp m]; exact ⟨h0, h2⟩
  · by_cases hj : j < ws.length
    · rw [List.getElem?_append_left hj] at e
      obtain ⟨b, p, p', e1, e2, e3⟩ := g4 j v e
      exact ⟨b, p, p', by rw [List.getElem?_append_left (by omega)]; exact e1, by rw [List.getElem?_append_left (by omega)]; exact e2, e3⟩
    · rw [List.getElem?_append_right (by omega)] at e
      have hz : j - ws.length = 0 := by
        have := (List.getElem?_eq_some_iff.mp e).1
        simp at this; omega
      rw [hz] at e
      simp at e
      subst e
      exact ⟨a, t, t', by rw [List.getElem?_append_right (by omega), l, hz]; rfl, by rw [List.getElem?_append_right (by omega), g1, hz]; rfl, ht⟩
noncomputable def wbt (ws : List (UInt64 × UInt64)) (i l : Nat) : Bool := fLt (ws.getD i (0, 0)).1 (ws.getD l (0, 0)).1
theorem nearest_best {ws : List (UInt64 × UInt64)} {m : UInt64 × UInt64} : ∀ (k j : Nat), j + 1 + k = ws.length → ∀ b, ws[argBest (wbt ws) j]? = some b → nearest b (ws.drop (j + 1)) = some m →
    (∀ i, j ≤ i → i + 1 < ws.length → fEq (ws.getD (i + 1) (0, 0)).1 (ws.getD (argBest (wbt ws) i) (0, 0)).1 = false ∧
      ((ws.getD (i + 1) (0, 0)).1 == (ws.getD (argBest (wbt ws) i) (0, 0)).1) = false) ∧
    ws[argBest (wbt ws) (ws.length - 1)]? = some m := by
  intro k
  induction k with
  | zero =>
    intro j hj b hb hn
    rw [List.drop_of_length_le (by omega)] at hn
    cases hn
    refine ⟨fun i h1 h2 => by omega, ?_⟩
    rw [show ws.length - 1 = j by omega]
    exact hb
  | succ k ih =>
    intro j hj b hb hn
    have hlt : j + 1 < ws.length := by omega
    rw [List.drop_eq_getElem_cons hlt] at hn
    have eb : ws.getD (argBest (wbt ws) j) (0, 0) = b := by rw [List.getD_eq_getElem?_getD, hb]; rfl
    have ex : ws.getD (j + 1) (0, 0) = ws[j + 1] := by rw [List.getD_eq_getElem?_getD, List.getElem?_eq_getElem hlt]; rfl
    unfold nearest at hn
    split at hn
    · cases hn
    · rename_i hc
      simp only [Bool.or_eq_true, not_or, Bool.not_eq_true] at hc
      have hb' : ws[argBest (wbt ws) (j + 1)]? = some (if fLt ws[j + 1].1 b.1 = true then ws[j + 1] else b) := by
        have hq : wbt ws (j + 1) (argBest (wbt ws) j) = fLt ws[j + 1].1 b.1 := by unfold wbt; rw [ex]; congr 2
        cases hf : fLt ws[j + 1].1 b.1 with
        | true => simp only [argBest, hq, hf, if_true]; exact List.getElem?_eq_getElem hlt
        | false => simp only [argBest, hq, hf, Bool.false_eq_true, if_false]; exact hb
      obtain ⟨g1, g2⟩ := ih (j + 1) (by omega) _ hb' hn
      refine ⟨fun i h1 h2 => ?_, g2⟩
      by_cases hi : i = j
      · subst hi
        rw [eb, ex]; exact hc
      · exact g1 i (by omega) h2
section
variable {prog : Program} {w : World} {h₀ : Heap} {A : Around} {C : FC} {ρ ρ' : Rho} {σ σ' : St} {mg mb : Str → Option Value}
/-- min over the ways -/
theorem min_ways {k : Nat} {s : Shared} {l : Addr} {us : List Value} {ws : List (UInt64 × UInt64)} {y m : UInt64 × UInt64} {ys : List (UInt64 × UInt64)} {E : Value → Shared → Prop} {Q : Value → Shared → Prop} {T : Nat} (aok : AOk k A) (hl : s.heap.IsList l us.toArray) (x : Ways s.heap T us ws) (he : ws = y :: ys) (hm : nearest y ys = some m)
    (hQ : ∀ a t t' h' tk, IsTup h' a #[.float m.1 t, .float m.2 t'] → (∀ b o, s.heap.get? b = some o → h'.get? b = some o) → Q (.ref a) { s with heap := h', toks := tk }) : wpAny (model prog w) A (call (.builtin "min") [.ref l]) Q E s := by
  obtain ⟨hlen, ts, g1, g2, g3, g4⟩ := x
  have hpos : 0 < ws.length := by rw [he]; simp
  obtain ⟨c1, c2⟩ := nearest_best (ws := ws) (m := m) ys.length 0 (by rw [he]; simp; omega) y (by rw [he]; rfl) (by rw [he]; exact hm)
  have get : ∀ {i : Nat} {v : Value}, us.toArray[i]? = some v → ∃ (a : Addr) (t t' : Tok) (p : UInt64 × UInt64), v = .ref a ∧ ws[i]? = some p ∧ ts[i]? = some t ∧ IsTup s.heap a #[.float p.1 t, .float p.2 t'] := fun {i v} e => by
    have e' : us[i]? = some v := by simpa using e
    have hi : i < ws.length := by rw [← hlen]; exact (List.getElem?_eq_some_iff.mp e').1
    obtain ⟨a, t, t', e1, e2, e3⟩ := g4 i _ (List.getElem?_eq_getElem hi)
    rw [e'] at e1; cases e1
    exact ⟨a, t, t', _, rfl, List.getElem?_eq_getElem hi, e2, e3⟩
  refine call_min_list (wbt ws) aok.handled hl (by simpa [hlen] using hpos) (fun h => ∀ b o, s.heap.get? b = some o → h.get? b = some o) (fun b o e => e) (fun h h' x k b o e => k b o (Heap.lt_size e) (x b o e)) ?_ fun v h' tk hv kp => ?_
  · intro j vi vj s₂ Q E hj hH hi hv hq
    have hj' : j + 1 < ws.length := by simpa [hlen] using hj
    obtain ⟨a, t, t', p, rfl, ep, et, ht⟩ := get hi
    obtain ⟨b, u, u', q, rfl, eq, eu, hu⟩ := get hv
    obtain ⟨d1, d2⟩ := c1 j (Nat.zero_le _) hj'
    have e1 : ws.getD (j + 1) (0, 0) = p := by rw [List.getD_eq_getElem?_getD, ep]; rfl
    have e2 : ws.getD (argBest (wbt ws) j) (0, 0) = q := by rw [List.getD_eq_getElem?_getD, eq]; rfl
    have e3 : wbt ws (j + 1) (argBest (wbt ws) j) = fLt p.1 q.1 := by unfold wbt; rw [e1]; congr 2
    rw [e1, e2] at d1 d2
    rw [e3] at hq
    have hne : j + 1 ≠ argBest (wbt ws) j := fun z => by
      rw [← z, ep] at eq; cases eq
      simp at d2
    obtain ⟨k1, f1⟩ := List.getElem?_eq_some_iff.mp et
    obtain ⟨k2, f2⟩ := List.getElem?_eq_some_iff.mp eu
    have htu : t ≠ u := by
      rw [← f1, ← f2]
      rcases Nat.lt_or_gt_of_ne hne with z | z
      · exact Nat.ne_of_lt (List.pairwise_iff_getElem.mp g2 _ _ k1 k2 z)
      · exact Nat.ne_of_gt (List.pairwise_iff_getElem.mp g2 _ _ k2 k1 z)
    exact tuple_lt (isTup_get ht fun o e => hH _ o e) (isTup_get hu fun o e => hH _ o e) (by show A.in1.units < cLine; have := aok.units; show A.units + 1 < cLine; omega) (Nat.ne_of_gt (g3 t (List.mem_of_getElem? et)).1) (Nat.ne_of_gt (g3 u (List.mem_of_getElem? eu)).1) htu d2 d1 hq
  · obtain ⟨a, t, t', p, rfl, ep, et, ht⟩ := get hv
    have : p = m := by
      have e0 : us.toArray.size - 1 = ws.length - 1 := by simp [hlen]
      rw [e0, c2] at ep
      cases ep; rfl
    subst this
    exact hQ a t t' h' tk (isTup_get ht fun o e => kp _ o e) kp
end
end Mine
end

section
set_option maxRecDepth 100000
set_option autoImplicit false
namespace Mine
open PySem PySem.W PyProof.Rows
noncomputable def nearElt (nm : Nat → Str) (ih ib : Nat) (c d : UInt64) (ps : Nat → Pos) : Expr :=
  .Tuple [.BoolOp .Or [.BinOp (.BinOp (.Name (nm ih) (ps 1)) .Sub (.Name (nm ib) (ps 2)) (ps 3)) .Mod (.Constant (.float c) 0 (ps 4)) (ps 5), .Constant (.float d) 0 (ps 6)] (ps 7), .Name (nm ih) (ps 8)] 0 (ps 9)
section
variable {prog : Program} {w : World} {h₀ : Heap} {A : Around} {C : FC} {ρ ρ' : Rho} {σ σ' : St} {mg mb : Str → Option Value}
theorem cst {env : Env} {c : UInt64} {p : Pos} {s : Shared} {Q : Value → Shared → Prop} {E : Value → Shared → Prop} (h : Q (.float c s.toks) { s with toks := s.toks + 1 }) : wpAny (model prog w) A (eval (.Constant (.float c) 0 p) env) Q E s := fun _ _ _ => h
theorem near_elt {ih ib : Nat} {c d b h : UInt64} {ps : Nat → Pos} {s : Shared} {ad : List Addr} {Q : Value → Shared → Prop} {E : Value → Shared → Prop} (ok : FCOk C) (a : At h₀ C s.heap ad σ ρ) (eh : get ρ ih = some (.flt h)) (eb : get ρ ib = some (.flt b)) (hc : Float64.isZero c = false)
    (k : ∀ x t t' h' tk, (∀ b o, s.heap.get? b = some o → h'.get? b = some o) → s.heap.get? x = none → IsTup h' x #[.float (way c d b h) t, .float h t'] → s.toks ≤ t → 0 < t → t < tk → Q (.ref x) { s with heap := h', toks := tk }) :
    wpAny (model prog w) A (eval (nearElt C.nm ih ib c d ps) C.env) Q E s := by
  have fin : ∀ (t tk : Nat), s.toks ≤ t → 0 < t → t < tk → wpAny (model prog w) A (spliced (backTo (ps 9) (starEach [.Name (C.nm ih) (ps 8)] C.env))) (fun vs s₂ => wpAny (model prog w) A (newTuple (.float (way c d b h) t :: vs)) Q E s₂) E { s with toks := tk } := by
    intro t tk h1 h2 h3
    refine args_cons (ld_local (s := { s with toks := tk }) ok a.act eh fun u ⟨t', e⟩ => args_nil ?_)
    subst e
    refine wpAny_newObj_type ?_ (by show _ ≤ sizeLine; rw [sizeLine_eq]; simp)
    exact k _ t t' _ tk (fun b o e => Heap.get?_push_of_some _ e) (size_fresh _) ⟨_, Heap.get?_push_size _ rfl, rfl, 0, rfl⟩ h1 h2 h3
  refine Tuple_ (args_cons (BoolOp_or (wpAny_BinOp (wpAny_BinOp (ld_local ok a.act eh fun u ⟨t1, e1⟩ => ?_)))) rfl)
  subst e1
  refine ld_local ok a.act eb fun u ⟨t2, e2⟩ => ?_
  subst e2
  refine AutoFloatOps.sub_0 ?_
  refine cst (s := { s with toks := s.toks + 1 }) ?_
  refine AutoFloatOps.mod_1 (s := { s with toks := s.toks + 1 + 1 }) (by rw [hc]; exact Bool.false_ne_true) ?_
  refine AutoFloatOps.truthy_0 ?_
  cases hz : Float64.isZero (Float64.divmod (Float64.sub h b) c).2 with
  | true =>
    have e : way c d b h = d := by unfold way; simp only [hz, if_true]
    simp only [Bool.not_true, Bool.false_eq_true, if_false]
    refine BoolOp_one (cst (s := { s with toks := s.toks + 1 + 1 + 1 }) ?_)
    have := fin (s.toks + 1 + 1 + 1) (s.toks + 1 + 1 + 1 + 1) (by omega) (by omega) (by omega)
    rw [e] at this
    exact this
  | false =>
    have e : way c d b h = (Float64.divmod (Float64.sub h b) c).2 := by unfold way; simp only [hz, Bool.false_eq_true, if_false]
    simp only [Bool.not_false, if_true]
    have := fin (s.toks + 1 + 1) (s.toks + 1 + 1 + 1) (by omega) (by omega) (by omega)
    rw [e] at this
    exact this
theorem fltOf_inv {v : V} {w : UInt64} (h : fltOf v = some w) : v = .flt w := by
  cases v with
  | flt x => exact congrArg V.flt (som h)
  | _ => exact (no h).elim
theorem floatsOf_get : ∀ {xv : List V} {x : List UInt64}, floatsOf xv = some x → xv = x.map .flt
  | [], _, e => by obtain rfl := som e; rfl
  | v :: r, x, e => by
    obtain ⟨w, hw, e⟩ := bnd e
    obtain ⟨q, hq, e⟩ := bnd e
    obtain rfl := som e
    rw [floatsOf_get hq, fltOf_inv hw]; rfl
noncomputable def tups (ws : List (UInt64 × UInt64)) : List V := ws.map fun z => .tup [.f z.1, .f z.2]
noncomputable def wl (c d b : UInt64) (x : List UInt64) : List (UInt64 × UInt64) := x.map fun h => (way c d b h, h)
theorem wl_len (c d b : UInt64) (x : List UInt64) : (wl c d b x).length = x.length := List.length_map _
theorem compRho_in {ρ : Rho} {fv : List Nat} {ib : Nat} {v : V} (hib : ib ∈ fv) (hb : get ρ ib = some v) : ∀ n, ib < n → get (compRho ρ fv n) ib = some v
  | 0, q => absurd q (Nat.not_lt_zero _)
  | n + 1, q => by
    unfold compRho get
    rcases Nat.lt_or_ge ib n with q' | q'
    · rw [List.getElem?_append_left (by rw [compRho_len]; exact q')]
      exact compRho_in hib hb n q'
    · obtain rfl : ib = n := Nat.le_antisymm (Nat.le_of_lt_succ q) q'
      rw [List.getElem?_append_right (by rw [compRho_len]; exact Nat.le_refl _), compRho_len, Nat.sub_self, if_pos (List.contains_iff_mem.mpr hib)]
      exact hb
set_option maxHeartbeats 2000000 in
theorem near_loop {ih ib k : Nat} {c d b : UInt64} {x : List UInt64} {iter : Expr} {ps : Nat → Pos} {sc : Scope} {pos : Pos} {I D Cc ax : Addr} {cl : List (Str × Addr)} {fv : List Nat} {s₁ : Shared} {ad₁ : List Addr} {σ₁ : St} {R : Result → Shared → Prop}
    (aok : A.handled = none) (ok : FCOk C) (S : ScOk C sc ih fv) (h1 : ∀ x c, cl.lookup x = some c → C.env.cells.lookup x = some c) (h2 : ∀ x, (x, NameKind.free) ∈ sc.names → (cl.lookup x).isSome) (hn : Cc ∉ C.fs)
    (a₁ : At h₀ C s₁.heap ad₁ σ₁ ρ) (hb : get ρ ib = some (.flt b)) (hib : ib ∈ fv) (hne : ib ≠ ih) (hc : Float64.isZero c = false) (hk : σ₁[k]? = some (x.map .flt)) (hax : ad₁[k]? = some ax) (hlen : x.length ≤ 1000)
    (w1 : s₁.heap.get? I = none) (w2 : s₁.heap.get? Cc = none) (hIC : I ≠ Cc) (hID : I ≠ D) (hDC : D ≠ Cc) (w3 : s₁.heap.get? D = none)
    (hR : ∀ s' us, Nx C.fs s₁ s' ad₁ (ad₁ ++ [D]) → Led s'.heap (ad₁ ++ [D]) (σ₁ ++ [tups (wl c d b x)]) → PlainL s'.heap D (List.toArray us) → Ways s'.heap s'.toks us (wl c d b x) → (∃ m', s'.heap.Ns Cc m') → R (.ok .next) s') :
    ∀ (n : Nat) (s : Shared) (i : Nat) (us : List Value) (m : Str → Option Value), n + i = x.length + 1 → Nx C.fs s₁ s ad₁ (ad₁ ++ [D]) → Led s.heap (ad₁ ++ [D]) (σ₁ ++ [tups ((wl c d b x).take i)]) → s.heap.Ns Cc m → s.heap.IsListIter I ax i →
      PlainL s.heap D (List.toArray us) → Ways s.heap s.toks us ((wl c d b x).take i) →
      codeAny (model prog w) A (.compLoop (.ListComp (nearElt C.nm ih ib c d ps) [⟨.Name (C.nm ih) (ps 10), iter, [], 0⟩] sc pos) 0 (.ref I) (.ref D) (compEnvC sc cl Cc C.env)) R s := by
  intro n s i us m hn0 N L hC hS pl ww
  suffices H : ∀ Inv : Nat → Shared → Prop, (∀ n s, Inv n s ↔ ∃ i us m, n + i = x.length + 1 ∧ Nx C.fs s₁ s ad₁ (ad₁ ++ [D]) ∧ Led s.heap (ad₁ ++ [D]) (σ₁ ++ [tups ((wl c d b x).take i)]) ∧ s.heap.Ns Cc m ∧ s.heap.IsListIter I ax i ∧
      PlainL s.heap D (List.toArray us) ∧ Ways s.heap s.toks us ((wl c d b x).take i)) → Inv n s → codeAny (model prog w) A (.compLoop (.ListComp (nearElt C.nm ih ib c d ps) [⟨.Name (C.nm ih) (ps 10), iter, [], 0⟩] sc pos) 0 (.ref I) (.ref D) (compEnvC sc cl Cc C.env)) R s
    from H _ (fun _ _ => Iff.rfl) ⟨i, us, m, hn0, N, L, hC, hS, pl, ww⟩
  clear hn0 N L hC hS pl ww
  intro Inv hI h0
  refine codeAny_compLoop_tests Inv ?_ n h0
  clear h0
  intro n s h0
  obtain ⟨i, us, m, hn0, N, L, hC, hS, pl, ww⟩ := (hI _ _).mp h0
  clear h0
  have hIn : NotSeq s.heap I := by
    obtain ⟨o, ho, _, hd⟩ := hS
    exact fun o' xs n e hd' => by rw [ho] at e; cases e; rw [hd] at hd'; cases hd'
  have nsC : NotSeq s.heap Cc := ns_notSeq hC
  have kS : (σ₁ ++ [tups ((wl c d b x).take i)])[k]? = some (x.map .flt) := by rw [List.getElem?_append_left (List.getElem?_eq_some_iff.mp hk).1]; exact hk
  have hax' : (ad₁ ++ [D])[k]? = some ax := by rw [List.getElem?_append_left (List.getElem?_eq_some_iff.mp hax).1]; exact hax
  obtain ⟨xs, px, hxs⟩ := L.lists k ax _ hax' kS
  have tupKeep : ∀ {h h' : Heap} {W : Addr}, NotSeq h W → Heap.ExtBut W h h' → ∀ b o xs n, o.data = .seq xs n → o.cls = .type "tuple" → h.get? b = some o → h'.get? b = some o := fun nW hs b o xs n hd _ e => hs b o (fun q => nW o xs n (q ▸ e) hd) e
  cases hv : x[i]? with
  | none =>
    have hi : x.length ≤ i := by simpa using hv
    refine wpAny_pyNext_list_end aok hS px.isList (by simpa using hxs.getN (by rw [List.getElem?_map, hv]; rfl)) fun h' hs => ?_
    have et : (wl c d b x).take i = wl c d b x := List.take_of_length_le (by rw [wl_len]; exact hi)
    rw [et] at ww L
    exact hR { s with heap := h' } us (N.but (t := s.toks) w1 hs) (L.but hs hIn) (pl.extBut hs (Ne.symm hID)) (ww.mono (Nat.le_refl _) (tupKeep hIn hs)) ⟨m, hC.at' fun o e => hs _ _ (Ne.symm hIC) e⟩
  | some h =>
    have hi : i < x.length := (List.getElem?_eq_some_iff.mp hv).1
    cases n with
    | zero => omega
    | succ n =>
    obtain ⟨u, hu, hru⟩ := hxs.get (show (x.map V.flt)[i]? = some (.flt h) by rw [List.getElem?_map, hv]; rfl)
    refine wpAny_pyNext_list_item hS px.isList (x := u) (by simpa using hu) fun h' hS' hs => ?_
    have N1 := N.but (t := s.toks) w1 hs.extBut
    have L1 := L.but hs.extBut hIn
    have u1 := hru.but hs.extBut hIn
    have C1 := hC.sameBut hs (Ne.symm hIC)
    have pl1 := pl.extBut hs.extBut (Ne.symm hID)
    have ww1 := ww.mono (Nat.le_refl _) (tupKeep hIn hs.extBut)
    refine wpAny_assign_Name (wpAny_storeName_local (lookup_relabel_local S.tgt) C1 (fun h₂ hn₂ hs₂ => ?_) (comp_kindF S))
    have nsC1 : NotSeq h' Cc := ns_notSeq C1
    have N2 := N1.but (t := s.toks + 1) w2 hs₂.extBut
    have L2 := L1.but hs₂.extBut nsC1
    have u2 := u1.but hs₂.extBut nsC1
    have S2 : h₂.IsListIter I ax (i + 1) := hS'.at fun o e => (hs₂.2 I hIC).trans e
    have pl2 := pl1.extBut hs₂.extBut hDC
    have ww2 := ww1.mono (T' := s.toks + 1) (Nat.le_succ _) (tupKeep nsC1 hs₂.extBut)
    have atC : At h₀ C h₂ (ad₁ ++ [D]) (σ₁ ++ [tups ((wl c d b x).take i)]) ρ := a₁.mono N2.ext L2
    have l0 : h₀.get? Cc = none := a₁.base.fresh w2
    have at2 := atC.comp ok S h1 h2 hn₂ (by simp) u2 l0
    refine wpAny_tests_nil ?_
    rw [if_pos rfl]
    have eh : get (put (compRho ρ fv ρ.length) ih (.flt h)) ih = some (.flt h) := get_put_self (by rw [compRho_len, a₁.act.len]; exact S.lt)
    have eb : get (put (compRho ρ fv ρ.length) ih (.flt h)) ib = some (.flt b) := by
      rw [get_put_ne (Ne.symm hne)]
      exact compRho_in hib hb _ (get_lt hb)
    refine near_elt (s := { s with heap := h₂, toks := s.toks + 1 }) (ok.comp S h1 h2 hn) at2 eh eb hc fun a t t' h₃ tk kp fr ht g1 g2 g3 => ?_
    have N3 : Nx C.fs s₁ { s with heap := h₃, toks := tk } ad₁ (ad₁ ++ [D]) := N2.trans (.grow (s := { s with heap := h₂, toks := s.toks + 1 }) kp)
    have L3 := L2.keeps kp
    have C3 := hn₂.keeps kp
    have S3 : h₃.IsListIter I ax (i + 1) := S2.at fun o e => kp _ o e
    have pl3 := pl2.keeps kp
    have ww3 := ww2.mono (T' := s.toks + 1) (Nat.le_refl _) (fun b o _ _ _ _ e => kp b o e)
    have ul : us.length ≤ 1000 := by
      have := ww.1
      rw [List.length_take, wl_len] at this
      omega
    refine list_append_plainL pl3 (fun h₄ pl4 hs4 => ?_) (by rw [List.size_toArray, sizeLine_eq]; omega)
    have e5 : us.toArray.push (.ref a) = List.toArray (us ++ [.ref a]) := by simp
    rw [e5] at pl4
    have hD : (ad₁ ++ [D])[σ₁.length]? = some D := by rw [← a₁.led.len]; simp
    have hset : (σ₁ ++ [tups ((wl c d b x).take i)]).set σ₁.length (tups ((wl c d b x).take (i + 1))) = σ₁ ++ [tups ((wl c d b x).take (i + 1))] := by simp
    have htake : (wl c d b x).take (i + 1) = (wl c d b x).take i ++ [(way c d b h, h)] := by
      unfold wl
      rw [List.take_add_one, List.getElem?_map, hv]; rfl
    have hDnot : a ∉ ad₁ ++ [D] := fun q => by
      obtain ⟨o, e⟩ := L2.live q
      rw [show h₂.get? a = none from fr] at e; cases e
    obtain ⟨us', pu, hru'⟩ := L3.lists σ₁.length D (tups ((wl c d b x).take i)) hD (by simp)
    have hus : us' = us := by
      obtain ⟨o, n, e, _, _, hd⟩ := pu
      obtain ⟨o', n', e', _, _, hd'⟩ := pl3
      rw [e] at e'; cases e'
      rw [hd] at hd'; cases hd'; rfl
    subst hus
    have nL3 : ∀ l, l ∈ C.fs → l ∉ ad₁ ++ [D] := (a₁.mono N3.ext L3).act.nL
    obtain ⟨L4, X4⟩ := L3.set (L := C.fs) hD hs4 pl4 (x := tups ((wl c d b x).take (i + 1))) (by
      rw [htake]
      unfold tups
      rw [List.map_append]
      exact hru'.append (.cons ⟨a, _, rfl, hDnot, ht, .cons ⟨t, rfl⟩ (.cons ⟨t', rfl⟩ .nil)⟩ .nil)) nL3
    rw [hset] at L4
    have notD : NotSeq h₃ D → False := fun z => by obtain ⟨o, n, e, _, _, hd⟩ := pl3; exact z o _ n e hd
    have tup4 : ∀ b o xs n, o.data = .seq xs n → o.cls = .type "tuple" → h₃.get? b = some o → h₄.get? b = some o := fun b o xs n _ hcl e => (hs4.2 b (fun q => by
      obtain ⟨o', n', e', hc', _⟩ := pl3
      rw [q, e'] at e; cases e
      rw [hc'] at hcl; exact absurd hcl (by decide))).trans e
    refine ⟨n, Nat.lt_succ_self _, (hI _ _).mpr ⟨i + 1, us' ++ [.ref a], _, by omega, N3.trans ⟨X4, .refl _, rfl, rfl⟩, L4, C3.sameBut hs4 (Ne.symm hDC), S3.at fun o e => (hs4.2 I hID).trans e, pl4, ?_⟩⟩
    rw [htake]
    obtain ⟨o, ho, hcl, nn, hd⟩ := id ht
    exact (ww3.mono (T' := s.toks + 1) (Nat.le_refl _) tup4).snoc g1 g2 g3 ⟨o, tup4 a o _ nn hd hcl ho, hcl, nn, hd⟩
end
end Mine
end

section
set_option maxRecDepth 100000
set_option autoImplicit false
namespace Mine
open PySem PySem.W PyProof.Rows
section
variable {prog : Program} {w : World} {h₀ : Heap} {A : Around} {C : FC} {ρ ρ' : Rho} {σ σ' : St} {mg mb : Str → Option Value}
theorem csi {env : Env} {c : Int} {p : Pos} {s : Shared} {Q : Value → Shared → Prop} {E : Value → Shared → Prop} (h : Q (.int c s.toks) { s with toks := s.toks + 1 }) : wpAny (model prog w) A (eval (.Constant (.int c) 0 p) env) Q E s := fun _ _ _ => h
theorem near_tail {ia ib : Nat} {k : Nat} {ps : Nat → Pos} {s : Shared} {ad : List Addr} {D : Addr} {us : List Value} {ws : List (UInt64 × UInt64)} {y m : UInt64 × UInt64} {ys : List (UInt64 × UInt64)} {n : Nat} {T : Nat} {Q : Flow → Shared → Prop} (W : Wld h₀ mg mb) (aok : AOk n A) (ok : FCOk C) (sb : Sto C ib)
    (km : C.env.kindOf (Str.ofString "min") = some .globalImplicit) (a : At h₀ C s.heap ad σ ρ) (hg : get ρ ia = some (.lst k)) (hD : ad[k]? = some D) (pl : PlainL s.heap D (List.toArray us)) (x : Ways s.heap T us ws) (he : ws = y :: ys) (hm : nearest y ys = some m)
    (kq : ∀ s', SNx C s s' ad ad → At h₀ C s'.heap ad σ (put ρ ib (.flt m.2)) → Q .next s') :
    wpAny (model prog w) A (exec (.Assign [.Name (C.nm ib) (ps 14)] (.Subscript (.Call (.Name (Str.ofString "min") (ps 15)) [.Name (C.nm ia) (ps 16)] [] (ps 17)) (.Constant (.int 1) 0 (ps 18)) (ps 19)) (ps 20)) C.env) Q (fun _ _ => False) s := by
  refine wpAny_Assign_Name (Subscript_ (wpAny_Call_NameR (ld_boot W a.base ok km (by decide) (W.bi .min).1 (W.bi .min).2 ?_)))
  show wpAny _ A (callWith (ps 17) (.builtin "min") [] [(false, eval (.Name (C.nm ia) (ps 16)) C.env)] []) _ _ s
  refine Calls.callWith_builtin rfl (Calls.evalArgs_plain (Calls.spliced_cons (ld_local ok a.act hg fun u hu => Calls.spliced_nil ?_)))
  obtain ⟨D', rfl, hD'⟩ := hu
  rw [hD] at hD'; cases hD'
  refine min_ways aok pl.isList x he hm fun b t t' h' tk ht kp => ?_
  refine csi (s := { s with heap := h', toks := tk }) ?_
  refine tail_sub (s := { s with heap := h', toks := tk + 1 }) (ops := [.ref b, .int 1 tk]) ht.typeIs slot_tuple_getitem.lookup (getItem_tuple ht (by decide) (by decide) (seqIndex_nat (by decide) (by decide : (1 : Int).toNat < 2)) rfl ?_) (by with_unfolding_all rfl)
  have N : Nx C.fs s { s with heap := h', toks := tk + 1 } ad ad := .grow kp
  exact st_var (s := { s with heap := h', toks := tk + 1 }) ok (a.mono N.ext (a.led.keeps kp)) sb (v := .flt m.2) ⟨t', rfl⟩ fun s' x' a' => kq s' ((SNx.of N).trans x') a'
theorem bv_near {ih ib il ia k n : Nat} {c d b : UInt64} {xv : List V} {x : List UInt64} {y m : UInt64 × UInt64} {ys : List (UInt64 × UInt64)} {fv : List Nat} {sc : Scope} {ps : Nat → Pos} {r : List Stmt} {fl : Fl} (W : Wld h₀ mg mb) (aok : AOk n A) (ok : FCOk C) (sa : Sto C ia) (sb : Sto C ib)
    (S : ScOk C sc ih fv) (hib : ib ∈ fv) (hne : ib ≠ ih) (hab : ia ≠ ib) (hbn : ib < C.nv) (km : C.env.kindOf (Str.ofString "min") = some .globalImplicit) (eb : get ρ ib = some (.flt b)) (el : get ρ il = some (.lst k)) (hk : σ[k]? = some xv) (hx : floatsOf xv = some x)
    (hw : (x.map fun h => (way c d b h, h)) = y :: ys) (hlen : x.length ≤ 1000) (hc : Float64.isZero c = false) (hm : nearest y ys = some m)
    (hsw : swapsWith (.ListComp (nearElt C.nm ih ib c d ps) [⟨.Name (C.nm ih) (ps 10), .Name (C.nm il) (ps 11), [], 0⟩] sc (ps 12)) (some (.Name (C.nm ia) (ps 0))) (ps 13).line C.env = pure true)
    (hr : BvT prog w h₀ A C r (put (put ρ ia (.lst σ.length)) ib (.flt m.2)) (σ ++ [(y :: ys).map fun z => .tup [.f z.1, .f z.2]]) fl ρ' σ') :
    BvT prog w h₀ A C ((nearStmts C.nm ih ib il ia c d sc ps).1 :: (nearStmts C.nm ih ib il ia c d sc ps).2 :: r) ρ σ fl ρ' σ' := by
  intro s ad Q a kq
  have ex := floatsOf_get hx
  subst ex
  obtain ⟨cl, hcl, h1, h2⟩ := closure_ok ok S
  refine wpAny_execs_cons ?_
  show wpAny _ A (exec (.Assign [.Name (C.nm ia) (ps 0)] (.ListComp (nearElt C.nm ih ib c d ps) [⟨.Name (C.nm ih) (ps 10), .Name (C.nm il) (ps 11), [], 0⟩] sc (ps 12)) (ps 13)) C.env) _ _ s
  rw [exec_Assign_Name_used _ _ _ _ hsw]
  refine wpAny_bind (wpAny_standAt (wpAny_bind ?_))
  show wpAny _ A (do let _ ← comprehension (.ListComp (nearElt C.nm ih ib c d ps) [⟨.Name (C.nm ih) (ps 10), .Name (C.nm il) (ps 11), [], 0⟩] sc (ps 12)) sc C.env _ (newList []) false (eval (.Name (C.nm il) (ps 11)) C.env) (some (assign (.Name (C.nm ia) (ps 0)) C.env))) _ _ s
  refine wpAny_bind (wpAny_mono (wpAny_comprehension_free (use := some (assign (.Name (C.nm ia) (ps 0)) C.env)) (Q := fun _ s' => wpAny (model prog w) A (execs ((nearStmts C.nm ih ib il ia c d sc ps).2 :: r) C.env) Q (fun _ _ => False) s') rfl (fun _ => rfl) hcl S.kind S.names ?_) (fun _ s' hq => wpAny_pure (wpAny_pure hq)) fun _ _ e => e)
  refine ld_local ok a.act el fun u hu => ?_
  obtain ⟨ax, vs, rfl, ha, pl, hrr⟩ := Led.list (l := a.led) hk hu
  have hlt : ax < s.heap.objs.size := by obtain ⟨o, _, e, _⟩ := pl; exact Heap.lt_size e
  refine wpAny_pyIter_list pl.isList ?_
  refine wpAny_newObj_type (wpAny_newFunctionEnv S.nocell (by intro y hy; simp at hy) (fun h₁ hns₁ hsb₁ => ?_) S.kind)
  dsimp only at hns₁ hsb₁ ⊢
  generalize hH1 : s.heap.push { cls := .type "list_iterator", data := .fields #[.ref ax, .int 0 0] } = H1 at hns₁ hsb₁ ⊢
  have z1 : H1.objs.size = s.heap.objs.size + 1 := by rw [← hH1]; exact Heap.size_push ..
  generalize hH2 : H1.push { cls := .type "list", dict := none, data := .seq ([] : List Value).toArray } = H2 at hns₁ hsb₁ ⊢
  have z2 : H2.objs.size = s.heap.objs.size + 2 := by rw [← hH2, Heap.size_push, z1]
  have none' : ∀ a, s.heap.objs.size ≤ a → s.heap.get? a = none := fun a ha => Heap.get?_none_of_le ha
  have up : ∀ b o, H1.get? b = some o → h₁.get? b = some o := fun b o e => by
    have hb : b < s.heap.objs.size + 1 := z1 ▸ Heap.lt_size e
    refine hsb₁.extBut b o (by rw [z2]; exact Nat.ne_of_lt (Nat.lt_succ_of_lt hb)) (Heap.get?_push_of_some _ ?_)
    rw [← hH2]; exact Heap.get?_push_of_some _ e
  have old : ∀ b o, s.heap.get? b = some o → h₁.get? b = some o := fun b o e => up b o (by rw [← hH1]; exact Heap.get?_push_of_some _ e)
  have hD1 : h₁.get? H1.objs.size = some { cls := .type "list", dict := none, data := .seq ([] : List Value).toArray } := by
    refine hsb₁.extBut _ _ (by rw [z2, z1]; exact Nat.ne_of_lt (Nat.lt_succ_self _)) (Heap.get?_push_of_some _ ?_)
    rw [← hH2]; exact Heap.get?_push_size _ rfl
  have hI1 : h₁.IsListIter s.heap.objs.size ax 0 := ⟨_, up _ _ (by rw [← hH1]; exact Heap.get?_push_size _ rfl), rfl, rfl⟩
  have hDn : s.heap.get? H1.objs.size = none := none' _ (by rw [z1]; exact Nat.le_succ _)
  have pD : PlainL h₁ H1.objs.size (List.toArray []) := ⟨_, _, hD1, rfl, rfl, rfl⟩
  obtain ⟨L1, X1⟩ := a.led.push (L := C.fs) (h' := h₁) (a := H1.objs.size) (vs := []) (x := []) old hDn pD .nil
  have hCn : H2.objs.size ∉ C.fs := fun q => by
    obtain ⟨m', o', _, _, ho', _⟩ := a.act.isNs _ q
    rw [none' _ (by rw [z2]; omega)] at ho'; cases ho'
  have hCz : s.heap.get? H2.objs.size = none := none' _ (by rw [z2]; omega)
  have N1 : Nx C.fs s { s with heap := h₁, toks := s.toks + ([] : List (Str × Value)).length } ad (ad ++ [H1.objs.size]) := ⟨X1, .refl _, rfl, rfl⟩
  have dI : s.heap.objs.size ≠ H1.objs.size := by rw [z1]; exact Nat.ne_of_lt (Nat.lt_succ_self _)
  have dIC : s.heap.objs.size ≠ H2.objs.size := by rw [z2]; exact Nat.ne_of_lt (Nat.lt_succ_of_lt (Nat.lt_succ_self _))
  have dDC : H1.objs.size ≠ H2.objs.size := by rw [z2, z1]; exact Nat.ne_of_lt (Nat.lt_succ_self _)
  have hC0 : h₀.get? H2.objs.size = none := by
    cases e : h₀.get? H2.objs.size with
    | none => rfl
    | some o => have := a.base.keep _ o e; rw [hCz] at this; cases this
  have hCc : ∀ i, i < C.nv → C.env.cells.lookup (C.nm i) ≠ some H2.objs.size := fun i hi e => by
    obtain ⟨_, x, ⟨o, ho, _⟩, _⟩ := a.act.cel i _ hi e
    rw [hCz] at ho; cases ho
  have loop : ∀ s₃ : Shared, s₃ = { s with heap := h₁, toks := s.toks + ([] : List (Str × Value)).length } →
      codeAny (model prog w) A (.compLoop (.ListComp (nearElt C.nm ih ib c d ps) [⟨.Name (C.nm ih) (ps 10), .Name (C.nm il) (ps 11), [], 0⟩] sc (ps 12)) 0 (.ref s.heap.objs.size) (.ref H1.objs.size) (compEnvC sc cl H2.objs.size C.env))
        (compPost (model prog w) A (fun _ _ => False) (some (assign (.Name (C.nm ia) (ps 0)) C.env)) (fun _ s' => wpAny (model prog w) A (execs ((nearStmts C.nm ih ib il ia c d sc ps).2 :: r) C.env) Q (fun _ _ => False) s') (.ref H1.objs.size) H2.objs.size) s₃ := by
    rintro s₃ rfl
    refine near_loop (s₁ := s) (x := x) (k := k) aok.handled ok S h1 h2 hCn a eb hib hne hc hk ha hlen (size_fresh _) hCz dIC dI dDC hDn (fun s' us N L pl' ww ⟨m', hm'⟩ => ?_) (x.length + 1) _ 0 [] _ rfl N1 L1 hns₁ hI1 pD .nil
    show wpAny _ A (assign (.Name (C.nm ia) (ps 0)) C.env (.ref H1.objs.size)) _ _ _
    have hDi : (ad ++ [H1.objs.size])[σ.length]? = some H1.objs.size := by rw [← a.led.len]; simp
    refine wpAny_assign_Name (st_var2 ok (a.mono N.ext L) sa (v := .lst σ.length) ⟨_, rfl, hDi⟩ fun s₄ x₄ a₄ k₄ => ?_)
    have hm4 : s₄.heap.Ns H2.objs.size m' := hm'.at' fun o e => x₄.keep _ o (L.notMem (ns_notSeq hm')) hCn hCc e
    refine ⟨m', hm4, fun h' hs' => ?_⟩
    have n4 := ns_notSeq hm4
    have a5 := a₄.but hs'.extBut n4 hCn hCc hC0
    have x5 := ((SNx.of N).trans x₄).but (t := s₄.toks) hCz hs'.extBut
    have seq5 : ∀ b o xs n, o.data = .seq xs n → s'.heap.get? b = some o → h'.get? b = some o := fun b o xs n hd e => (hs'.2 b (fun q => n4 o xs n (q ▸ k₄ b o xs n hd e) hd)).trans (k₄ b o xs n hd e)
    have pl5 : PlainL h' H1.objs.size us.toArray := by
      obtain ⟨o, n, e, p1, p2, hd⟩ := pl'
      exact ⟨o, n, seq5 _ o _ n hd e, p1, p2, hd⟩
    have ww5 : Ways h' s'.toks us (wl c d b x) := ww.mono (Nat.le_refl _) fun b o xs n hd _ e => seq5 b o xs n hd e
    have gia : get (put ρ ia (.lst σ.length)) ia = some (.lst σ.length) := get_put_self (by rw [a.act.len]; exact sa.1)
    refine wpAny_execs_cons ?_
    refine near_tail (s := { s₄ with heap := h' }) (ps := ps) W aok ok sb km a5 gia hDi pl5 ww5 (show wl c d b x = y :: ys from hw) hm fun s₆ x₆ a₆ => ?_
    have e1 : σ ++ [tups (wl c d b x)] = σ ++ [(y :: ys).map fun z => .tup [.f z.1, .f z.2]] := by rw [show wl c d b x = y :: ys from hw]; rfl
    rw [e1] at a₆
    exact hr s₆ _ Q a₆ fun f s' ad' x' a' rr => kq f s' ad' ((x5.trans x₆).trans x') a' rr
  refine codeAny_compStart_list (loop _ rfl) ?_
  exact wpAny_pyIter_listiter hI1 (loop _ rfl)
end
end Mine
end

section
set_option maxRecDepth 100000
set_option autoImplicit false
namespace Mine
open PySem PySem.W PyProof.Rows
section
variable {M : Model} {A : Around} {R : GenEnd} {Y : Protocol} {n : Nat} {s₀ : Shared} {c : Code} {fs : List Frame} {s : Shared} {env : Env}
  {K : Flow → Sem Fin} {H : Value → Sem Fin} {gd : Bool → Bool} {lv : List Value → List Value}
/-- what comes back from a loop's own activation -/
noncomputable def ownBack (env : Env) (K : Flow → Sem Fin) (H : Value → Sem Fin) (gd : Bool → Bool) (lv : List Value → List Value) : Result → Sem Fin := fun r =>
  ((match r with | .ok f => (.pure f : Sem Flow) | .error e => .raise e).onRaise fun (x : Value) => do
    if (← field x 1) == Value.none then unsupported "frame.own-activation:exception-without-traceback"
    setFlight x env.frame).wrap K H gd lv
/-- a statement that raises within a loop -/
noncomputable def noteH (env : Env) : Value → Sem Fin := fun e => (do noteFrame e env; theTreesLotGoes e : Sem Unit).wrap (fun _ => .raise e) .raise id id
theorem seg_If {test : Expr} {body orelse : List Stmt} {pos : Pos}
    (h : wpAny M (A.over c fs) (isTrue test env (eval test env)) (fun b s' => if b = true then Seg M A R Y n s₀ c ((execs body env).wrap K H gd lv) fs s' else Seg M A R Y n s₀ c ((execs orelse env).wrap K H gd lv) fs s')
      (fun e s' => Seg M A R Y n s₀ c (H e) fs s') s) : Seg M A R Y n s₀ c ((exec (.If test body orelse pos) env).wrap K H gd lv) fs s := by
  rw [exec_If]
  refine seg_at ?_
  show Seg M A R Y n s₀ c ((isTrue test env (eval test env) >>= fun b => if b = true then execs body env else execs orelse env).wrap K H gd lv) fs s
  rw [Sem.bind_eq_wrap', Sem.wrap_wrap]
  refine seg_wrap (wpAny_mono h (fun b s' hb => ?_) fun _ _ x => x)
  cases b <;> exact hb
theorem seg_runOwn {c' : Code} (h : ∀ p, Seg M A R Y n s₀ c' (M.den c') (.ret (ownBack env K H gd lv) none (gd false) (lv []) c p [] :: fs) s) :
    Seg M A R Y n s₀ c ((runOwn c' env).wrap K H gd lv) fs s := seg_call h
theorem seg_For {target iter : Expr} {body orelse : List Stmt} {pos : Pos}
    (h : wpAny M (A.over c fs) (eval iter env) (fun x s₁ => wpAny M (A.over c fs) (pyIter x) (fun it s₂ => ∀ p, Seg M A R Y n s₀ (.forLoop target it body orelse env) (M.den (.forLoop target it body orelse env)) (.ret (ownBack env K H gd lv) none (gd false) (lv []) c p [] :: fs) s₂)
      (fun e s' => Seg M A R Y n s₀ c (H e) fs s') s₁) (fun e s' => Seg M A R Y n s₀ c (H e) fs s') s) (hs : ∀ x, foldedSetIterable iter env x = pure x) :
    Seg M A R Y n s₀ c ((exec (.For target iter body orelse pos) env).wrap K H gd lv) fs s := by
  rw [exec_For]
  refine seg_at ?_
  show Seg M A R Y n s₀ c ((eval iter env >>= fun x => foldedSetIterable iter env x >>= fun x => standAt iter.pos >>= fun _ => holding [x] (pyIter x) >>= fun it => runOwn (.forLoop target it body orelse env) env).wrap K H gd lv) fs s
  rw [Sem.bind_eq_wrap', Sem.wrap_wrap]
  refine seg_wrap (wpAny_mono h (fun x s₁ h₁ => ?_) fun _ _ x => x)
  rw [hs]
  show Seg M A R Y n s₀ c ((standAt iter.pos >>= fun _ => holding [x] (pyIter x) >>= fun it => runOwn (.forLoop target it body orelse env) env).wrap K H gd lv) fs s₁
  refine seg_at ?_
  show Seg M A R Y n s₀ c ((holding [x] (pyIter x) >>= fun it => runOwn (.forLoop target it body orelse env) env).wrap K H gd lv) fs s₁
  rw [Sem.bind_eq_wrap', Sem.wrap_wrap]
  refine seg_wrap (wpAny_holding (wpAny_mono h₁ (fun it s₂ h₂ => ?_) fun _ _ x => x))
  exact seg_runOwn h₂
end
section
variable {prog : Program} {w : World} {A : Around} {R : GenEnd} {Y : Protocol} {n : Nat} {s₀ : Shared} {fs : List Frame} {s : Shared} {env : Env}
theorem seg_key {M : Model} {n : Nat} {s₀ : Shared} {c : Code} {t t' : Sem Fin} (e : t = t') (h : Seg M A R Y n s₀ c t' fs s) : Seg M A R Y n s₀ c t fs s := e ▸ h
theorem seg_forLoop {target : Expr} {it : Value} {body orelse : List Stmt}
    (h : wpAny (model prog w) (A.over (.forLoop target it body orelse env) fs) (pyNext it) (fun r s' => match r with
        | none => Seg (model prog w) A R Y n s₀ (.forLoop target it body orelse env) (.pure (.again (.block orelse env))) fs s'
        | some v => wpAny (model prog w) (A.over (.forLoop target it body orelse env) fs) (assign target env v) (fun _ s'' =>
            Seg (model prog w) A R Y n s₀ (.forLoop target it body orelse env) ((execs body env).wrap (fun f => match f with
              | .next | .cont => .pure (.again (.forLoop target it body orelse env))
              | .brk => .pure (.done .next)
              | .ret v => .pure (.done (.ret v))) (noteH env) id id) fs s'')
            (fun e s'' => Seg (model prog w) A R Y n s₀ (.forLoop target it body orelse env) (noteH env e) fs s'') s')
      (fun e s' => Seg (model prog w) A R Y n s₀ (.forLoop target it body orelse env) (noteH env e) fs s') s) (ht : ∀ v, letOwnedTupleGo target it v = pure ()) :
    Seg (model prog w) A R Y n s₀ (.forLoop target it body orelse env) ((model prog w).den (.forLoop target it body orelse env)) fs s := by
  show Seg _ A R Y n s₀ _ ((forTurn target it body orelse env).onRaise (fun x => do noteFrame x env; theTreesLotGoes x)) fs s
  unfold forTurn
  rw [Sem.onRaise_eq_wrap]
  have hH : (fun e => (do noteFrame e env; theTreesLotGoes e : Sem Unit).bind fun _ => (.raise e : Sem Fin)) = noteH env := by
    funext e; unfold noteH; rw [Sem.bind_eq_wrap]
  rw [hH]
  refine seg_at ?_
  show Seg _ A R Y n s₀ _ (((pyNext it).onRaise (fun _ => standAt { target.pos with line := 0 }) >>= _).wrap Sem.pure (noteH env) id id) fs s
  rw [Sem.bind_eq_wrap', Sem.wrap_wrap]
  refine seg_wrap (wpAny_onRaise (wpAny_mono h (fun r s' hr => ?_) fun e s' he => wpAny_standAt he))
  cases r with
  | none => exact hr
  | some v =>
    dsimp only
    rw [ht v]
    show Seg _ A R Y n s₀ _ ((assign target env v >>= _).wrap Sem.pure (noteH env) id id) fs s'
    rw [Sem.bind_eq_wrap', Sem.wrap_wrap]
    refine seg_wrap (wpAny_mono hr (fun _ s'' h'' => ?_) fun _ _ x => x)
    rw [Sem.bind_eq_wrap', Sem.wrap_wrap]
    exact seg_key (Sem.wrap_congr (execs body env) _ _ (fun f => by cases f <;> rfl) (fun e => rfl)) h''
theorem seg_block {stmts : List Stmt} (h : Seg (model prog w) A R Y n s₀ (.block stmts env) ((execs stmts env).wrap (fun f => .pure (.done f)) (noteH env) id id) fs s) :
    Seg (model prog w) A R Y n s₀ (.block stmts env) ((model prog w).den (.block stmts env)) fs s := by
  show Seg _ A R Y n s₀ _ ((execs stmts env).onRaise (fun x => do noteFrame x env; theTreesLotGoes x) >>= fun f => pure (Fin.done f)) fs s
  rw [Sem.onRaise_eq_wrap, Sem.bind_eq_wrap', Sem.wrap_wrap]
  exact seg_key (Sem.wrap_congr (execs stmts env) _ _ (fun f => rfl) (fun e => by unfold noteH; rw [Sem.bind_eq_wrap, Sem.wrap_wrap]; rfl)) h
end
end Mine
end

section
set_option maxRecDepth 100000
set_option autoImplicit false
namespace Mine
open PySem PySem.W PyProof.Rows
noncomputable def nG : Nat → Str
  | 0 => Str.ofString "grouping"
  | 1 => Str.ofString "last_interval"
  | _ => Str.ofString "interval"
noncomputable def gRaise (p : Nat → Pos) : Stmt := .If (.Compare (.Name (nG 1) (p 13)) [.Is] [.Constant .none 0 (p 14)] (p 15)) [.Raise (some (.Call (.Name (Str.ofString "ValueError") (p 16)) [.Constant (.str (Str.ofString "invalid grouping")) 0 (p 17)] [] (p 18))) none (p 19)] [] (p 20)
noncomputable def gWBody (p : Nat → Pos) : List Stmt := [.Expr (.Yield (some (.Name (nG 1) (p 22))) (p 23)) (p 24)]
noncomputable def gEver (p : Nat → Pos) : Stmt := .While (.Constant (.bool true) 0 (p 21)) (gWBody p) [] (p 25)
noncomputable def gI1 (p : Nat → Pos) : Stmt := .If (.Compare (.Name (nG 2) (p 5)) [.Eq] [.Name (Str.ofString "CHAR_MAX") (p 6)] (p 7)) [.Return none (p 8)] [] (p 9)
noncomputable def gI2 (p : Nat → Pos) : Stmt := .If (.Compare (.Name (nG 2) (p 10)) [.Eq] [.Constant (.int 0) 0 (p 11)] (p 12)) [gRaise p, gEver p] [] (p 26)
noncomputable def gYield (p : Nat → Pos) : Stmt := .Expr (.Yield (some (.Name (nG 2) (p 27))) (p 28)) (p 29)
noncomputable def gAsg (p : Nat → Pos) : Stmt := .Assign [.Name (nG 1) (p 30)] (.Name (nG 2) (p 31)) (p 32)
noncomputable def gFBody (p : Nat → Pos) : List Stmt := [gI1 p, gI2 p, gYield p, gAsg p]
noncomputable def gBody (p : Nat → Pos) : List Stmt := [.Assign [.Name (nG 1) (p 0)] (.Constant .none 0 (p 1)) (p 2), .For (.Name (nG 2) (p 3)) (.Name (nG 0) (p 4)) (gFBody p) [] (p 33)]
theorem gShape : defBody gIdx = gBody gpos := by rfl
/-- the rulers' frame -/
structure GEnv (env : Env) (Lg : Addr) : Prop where
  kind : env.scope.kind = .function
  co : env.scope.isCoroutine = false
  glob : env.globals = mainGlobals
  bi : env.builtins = builtinsNs
  loc : env.locals = Lg
  fr : env.frame = some Lg
  k0 : env.kindOf (nG 0) = some .local
  k1 : env.kindOf (nG 1) = some .local
  k2 : env.kindOf (nG 2) = some .local
  kc : env.kindOf (Str.ofString "CHAR_MAX") = some .globalImplicit
  kv : env.kindOf (Str.ofString "ValueError") = some .globalImplicit
section
variable {M : Model} {A : Around} {env : Env} {Lg : Addr} {s : Shared} {Q : Value → Shared → Prop} {E : Value → Shared → Prop} {m : Str → Option Value}
theorem g_ld {x : Str} {p : Pos} {u : Value} (G : GEnv env Lg) (k : env.kindOf x = some .local) (hm : s.heap.Ns Lg m) (hu : m x = some u) (hd : (x == Str.ofString "__debug__") = false) (h : Q u s) : wpAny M A (eval (.Name x p) env) Q E s :=
  wpAny_Name (wpAny_loadName_local G.kind k (by rw [G.loc]; exact hm) hu h) hd
theorem g_st {x : Str} {u : Value} {Q : Unit → Shared → Prop} (G : GEnv env Lg) (k : env.kindOf x = some .local) (hm : s.heap.Ns Lg m)
    (h : ∀ h', h'.Ns Lg (fun y => if y = x then some u else m y) → Heap.SameBut Lg s.heap h' → Q () { s with heap := h', toks := s.toks + 1 }) : wpAny M A (storeName env x u) Q E s :=
  wpAny_storeName_local k (by rw [G.loc]; exact hm) (fun h' hn hs => h h' (by rw [G.loc] at hn; exact hn) (by rw [G.loc] at hs; exact hs)) (by rw [G.kind]; rfl)
end
section
variable {prog : Program} {w : World} {A : Around} {env : Env} {Lg : Addr} {s : Shared} {E : Value → Shared → Prop} {m mg mb : Str → Option Value} {h₀ : Heap} {p : Nat → Pos}
theorem css {c : Str} {p : Pos} {Q : Value → Shared → Prop} (h : Q (.str c s.toks) { s with toks := s.toks + 1 }) : wpAny (model prog w) A (eval (.Constant (.str c) 0 p) env) Q E s := fun _ _ _ => h
theorem g_i1 {y : Int} {t c : Tok} {Q : Flow → Shared → Prop} (G : GEnv env Lg) (g : h₀.Ns mainGlobals mg) (hc : mg (Str.ofString "CHAR_MAX") = some (.int 127 c)) (kp : ∀ b o, h₀.get? b = some o → s.heap.get? b = some o) (hm : s.heap.Ns Lg m) (hy : m (nG 2) = some (.int y t))
    (h1 : y = 127 → Q (.ret .none) s) (h2 : y ≠ 127 → Q .next s) : wpAny (model prog w) A (exec (gI1 p) env) Q E s := by
  refine wpAny_If (wpAny_isTrue_Compare1 (g_ld G G.k2 hm hy (by decide) (Calls.Name_function_global G.kind G.kc (Calls.loadGlobal_global (by rw [G.glob]; exact g.keeps kp) hc (PyProof.Rows.eq_int (wpAny_truthy_bool ?_))) (by decide))) rfl)
  by_cases e : y = 127
  · subst e
    exact wpAny_execs_cons (wpAny_Return_none (h1 rfl))
  · have : (y == 127) = false := by simpa using e
    simp only [this, Bool.false_eq_true, if_false]
    exact wpAny_execs_nil (h2 e)
theorem g_t2 {y : Int} {t : Tok} {Q : Bool → Shared → Prop} (G : GEnv env Lg) (hm : s.heap.Ns Lg m) (hy : m (nG 2) = some (.int y t)) (h : Q (y == 0) { s with toks := s.toks + 1 }) :
    wpAny (model prog w) A (isTrue (.Compare (.Name (nG 2) (p 10)) [.Eq] [.Constant (.int 0) 0 (p 11)] (p 12)) env (eval (.Compare (.Name (nG 2) (p 10)) [.Eq] [.Constant (.int 0) 0 (p 11)] (p 12)) env)) Q E s := by
  refine wpAny_isTrue_Compare1 (g_ld G G.k2 hm hy (by decide) ?_) rfl
  refine csi ?_
  exact PyProof.Rows.eq_int (wpAny_truthy_bool h)
theorem g_raise {u : Value} {Q : Flow → Shared → Prop} (G : GEnv env Lg) (b : h₀.Ns builtinsNs mb) (g : h₀.Ns mainGlobals mg) (hv : mg (Str.ofString "ValueError") = none ∧ mb (Str.ofString "ValueError") = some (.type "ValueError")) (kp : ∀ b o, h₀.get? b = some o → s.heap.get? b = some o) (hh : A.handled = none)
    (hm : s.heap.Ns Lg m) (hu : m (nG 1) = some u) (h1 : u ≠ .none → Q .next s) (h2 : u = .none → ∀ h' e x tk, Heap.MadeExc s.heap h' e "ValueError" [x] → E (.ref e) { s with heap := h', toks := tk }) :
    wpAny (model prog w) A (exec (gRaise p) env) Q E s := by
  refine wpAny_If (wpAny_isTrue_Compare1 (g_ld G G.k1 hm hu (by decide) (wpAny_pure (is_none_gen (wpAny_truthy_bool ?_)))) rfl)
  by_cases e : u = .none
  · subst e
    show wpAny _ A (execs [.Raise (some (.Call (.Name (Str.ofString "ValueError") (p 16)) [.Constant (.str (Str.ofString "invalid grouping")) 0 (p 17)] [] (p 18))) none (p 19)] env) Q E s
    refine wpAny_execs_cons (wpAny_Raise_call F.excCall_ValueError F.excRaise_ValueError hh rfl (Calls.Name_function_global G.kind G.kv (Calls.loadGlobal_builtin (by rw [G.glob]; exact g.keeps kp) hv.1 (by rw [G.bi]; exact b.keeps kp) hv.2 ⟨rfl, ?_⟩) (by decide)))
    refine Calls.evalArgs_plain (Calls.spliced_cons ?_)
    refine css (p := p 17) ?_
    exact Calls.spliced_nil ⟨rfl, by rw [sizeLine_eq]; simp, fun h' e hm => h2 rfl h' e _ _ hm⟩
  · have hb : (u == Value.none) = false := by
      cases q : u == Value.none with
      | false => rfl
      | true => exact absurd (eq_of_beq q) e
    rw [hb]
    exact wpAny_execs_nil (h1 e)
end
end Mine
end

section
set_option maxRecDepth 100000
set_option autoImplicit false
namespace Mine
open PySem PySem.W PyProof.Rows
section
variable {M : Model} {A : Around} {E : Value → Shared → Prop} {s : Shared} {base : Heap} {l : List Env} {env : Env} {e L : Addr} {cls a0 : Value}
theorem fun_frames {h : Heap} {fsA : List Addr} (hb : ∀ a, a ∈ fsA → base.get? a = none ∧ ∃ m, h.Ns a m) : ∀ l : List Env, (∀ e, e ∈ l → GoodE fsA e) → h.FunFrames base l
  | [], _ => trivial
  | env :: r, g => by
    obtain ⟨hk, a, ha, hf⟩ := g env (.head _)
    obtain ⟨h1, m, o, es, ep, ho, hd, _⟩ := hb a ha
    exact ⟨hk, ⟨a, o, hf, h1, ho, fun vs q => by rw [hd] at q; cases q⟩, fun_frames hb r fun e he => g e (.tail _ he)⟩
/-- the first note of an exception that was just made -/
theorem note_first {h : Heap} {args : List Value} {Q : Unit → Shared → Prop} (hfr : A.frames = some (env :: l)) (hf : env.frame = some L) (hkb : base.StaysIn h) (hl : h.FunFrames base (env :: l)) (hx : Heap.MadeExcOf h s.heap e cls args)
    (hQ : ∀ h' t, Heap.HeldW base (env :: l) e cls (.ref t) L h' → s.heap.UpToSlots h' → Q () { s with heap := h' }) : wpAny M A (noteFrame (.ref e) env) Q E s := by
  obtain ⟨t, he, htn, ht⟩ := hx.there
  have fresh : ∀ b, h.get? b = none → base.get? b = none := fun b hb => by
    cases hq : base.get? b with
    | none => rfl
    | some o' => have := hkb b o' hq; rw [hb] at this; cases this
  unfold noteFrame
  simp only [hf]
  refine wpAny_bind (wpAny_field (x := .none) he rfl rfl ?_)
  rw [if_neg (by decide)]
  refine wpAny_entryW hfr (hl.of_keeps fun b o hb _ => ⟨o, hx.keeps b o hb, rfl⟩) hf he (fun b o hb => hx.keeps b o (hkb b o hb)) (fresh e hx.new) rfl (by simp) rfl fun h' hN => ?_
  obtain ⟨k1, k2, k3, k4⟩ := hN
  exact hQ h' t ⟨k1, fresh e hx.new, k2, k3⟩ k4
/-- what a loop's own activation does with an exception -/
noncomputable def ownDo (e : Value) (f : Option Addr) : Sem Unit := do
  if (← field e 1) == Value.none then unsupported "frame.own-activation:exception-without-traceback"
  setFlight e f
/-- a loop's own activation hands an exception on -/
theorem own_held {Q : Unit → Shared → Prop} (hh : Heap.HeldW base l e cls a0 L s.heap) (hQ : ∀ h', Heap.HeldW base l e cls a0 L h' → s.heap.UpToSlots h' → Q () { s with heap := h' }) :
    wpAny M A (ownDo (.ref e) (some L)) Q E s := by
  unfold ownDo
  obtain ⟨f1, f2, f3, oe, vs, T, oT, ts, he, hcls, hd, h1, hnT, hTe, hT, hdT, h3⟩ := hh
  have hsz3 : 3 < ts.size := (Array.getElem?_eq_some_iff.mp h3).1
  refine wpAny_bind (wpAny_field he hd h1 ?_)
  rw [if_neg (by simp)]
  unfold setFlight
  refine wpAny_bind (wpAny_field he hd h1 ?_)
  rw [if_pos (show (Value.ref T != Value.none) = true from by simp)]
  have other : ∀ b, b ≠ T → (s.heap.update T (Obj.mapFields (·.setIfInBounds 3 (rawInt L)))).get? b = s.heap.get? b := fun b hb => Heap.get?_update_other _ _ (Ne.symm hb)
  have noRecord : ∀ b o, s.heap.get? b = some o → (∀ vs, o.data ≠ .fields vs) → b ≠ T := fun b o hb hnf q => by
    rw [q, hT] at hb; injection hb with hb; subst hb; exact hnf ts hdT
  refine wpAny_setField hT hdT hsz3 (hQ _ ⟨fun b o hbo => (other b fun q => by rw [q, hnT] at hbo; cases hbo).trans (f1 b o hbo), f2, f3.of_keeps fun b o hb hnf => ⟨o, (other b (noRecord b o hb hnf)).trans hb, rfl⟩, ?_⟩ fun b o hb hn => ⟨o.slots, (other b (noRecord b o hb hn)).trans hb⟩)
  exact ⟨oe, vs, T, _, _, (other e (Ne.symm hTe)).trans he, hcls, hd, h1, hnT, hTe, Heap.get?_update_self _ hT (Obj.isFreed_of_fields (Obj.data_mapFields hdT _)), Obj.data_mapFields hdT _, by simp [hsz3]⟩
theorem leaves_held {Q : Unit → Shared → Prop} (hf : env.frame = some L) (hh : Heap.HeldW base (env :: l) e cls a0 L s.heap) (hQ : ∀ h', Heap.FlyingW base l e cls a0 h' → s.heap.UpToSlots h' → Q () { s with heap := h' }) : wpAny M A (leaving env (.ref e)) Q E s := by
  unfold leaving
  refine wpAny_bind (wpAny_noteFrame_againW hf hh.2.2.2 ?_)
  refine wpAny_landsW hh fun h' hfl up => ?_
  obtain ⟨k1, k2, ⟨_, _, k3⟩, k4⟩ := hfl
  exact hQ h' ⟨k1, k2, k3, k4⟩ up
end
noncomputable def phAt (row : List Int) : Nat → Ph
  | 0 => .start
  | j + 1 => match gnext row (phAt row j) with
    | .yield _ g => g
    | _ => phAt row j
/-- where the rulers' frame stands -/
noncomputable def PhAt (h₁ : Heap) (Lg ax I : Addr) (h : Heap) : Ph → Prop
  | .start => (∃ m, h.Ns Lg m ∧ m (nG 0) = some (.ref ax)) ∧ ∀ b o, h₁.get? b = some o → h.get? b = some o
  | .mid i x => h₁.get? I = none ∧ h.IsListIter I ax i ∧ ∃ m t, h.Ns Lg m ∧ m (nG 2) = some (.int x t)
  | .ever x => ∃ m t, h.Ns Lg m ∧ m (nG 1) = some (.int x t)
noncomputable def Side (h₁ : Heap) (s₀ s : Shared) : Prop := s.gens = s₀.gens ∧ s.drawn = s₀.drawn ∧ s.os = s₀.os ∧ ∀ b o, s₀.heap.get? b = some o → ((∃ o', h₁.get? b = some o') ∨ ∃ xs n, o.data = .seq xs n) → s.heap.get? b = some o
theorem Side.refl {h₁ : Heap} (s : Shared) : Side h₁ s s := ⟨rfl, rfl, rfl, fun _ _ e _ => e⟩
theorem Side.but {h₁ : Heap} {s₀ s : Shared} {W : Addr} {h' : Heap} {t : Nat} (x : Side h₁ s₀ s) (hs : Heap.ExtBut W s.heap h') (hW : NotSeq s.heap W) (hw : h₁.get? W = none) : Side h₁ s₀ { s with heap := h', toks := t } := by
  obtain ⟨a, b, c, d⟩ := x
  refine ⟨a, b, c, fun q o e k => ?_⟩
  have e' := d q o e k
  refine hs q o (fun z => ?_) e'
  rcases k with ⟨o', k⟩ | ⟨xs, n, k⟩
  · rw [z, hw] at k; cases k
  · exact hW o xs n (z ▸ e') k
theorem Side.grow {h₁ : Heap} {s₀ s : Shared} {h' : Heap} {t : Nat} (x : Side h₁ s₀ s) (k : ∀ b o, s.heap.get? b = some o → h'.get? b = some o) : Side h₁ s₀ { s with heap := h', toks := t } :=
  let ⟨a, b, c, d⟩ := x; ⟨a, b, c, fun q o e z => k q o (d q o e z)⟩
/-- the exception on its way out of the rulers' frame -/
noncomputable def Fly (h₁ : Heap) (fsA : List Addr) (outer : List Env) (s₀ s : Shared) (e : Addr) (a0 : Value) : Prop :=
  s.gens = s₀.gens ∧ s.drawn = s₀.drawn ∧ s.os = s₀.os ∧ Heap.FlyingW (hideAll h₁ fsA) outer e (.type "ValueError") a0 s.heap ∧ ∀ l, l ∈ fsA → ∀ m, h₁.Ns l m → s.heap.Ns l m
noncomputable def RowAt (row : List Int) (ax : Addr) (h : Heap) : Prop := ∃ vs : List Value, PlainL h ax vs.toArray ∧ IntsAre vs row
noncomputable def Ready (h₀ h₁ : Heap) (row : List Int) (Lg ax I : Addr) (g : Ph) (s : Shared) : Prop := (∀ b o, h₀.get? b = some o → s.heap.get? b = some o) ∧ RowAt row ax s.heap ∧ PhAt h₁ Lg ax I s.heap g
noncomputable def gY (h₀ h₁ : Heap) (row : List Int) (Lg ax : Addr) (N : Nat) : Protocol := fun n s₀ v s kap =>
  ∃ y t I, gnext row (phAt row (N - (n + 1))) = .yield y (phAt row (N - n)) ∧ v = .int y t ∧ Side h₁ s₀ s ∧ PhAt h₁ Lg ax I s.heap (phAt row (N - n)) ∧ (n ≠ 0 → ∀ s', Ready h₀ h₁ row Lg ax I (phAt row (N - n)) s' → kap (.send .none) s')
noncomputable def gR (h₁ : Heap) (fsA : List Addr) (outer : List Env) (row : List Int) (N : Nat) : GenEnd := fun n s₀ r s =>
  (gnext row (phAt row (N - n)) = .stop ∧ r = .ok (.ret .none) ∧ Side h₁ s₀ s) ∨ (gnext row (phAt row (N - n)) = .raise ∧ ∃ e a0, r = .error (.ref e) ∧ Fly h₁ fsA outer s₀ s e a0)
/-! the codes and the frames that stand -/
noncomputable def K1 : Flow → Sem PySem.Fin := fun f => .pure (.done (.ret (match f with | .ret v => v | _ => .none)))
noncomputable def H1 (env : Env) : Value → Sem PySem.Fin := fun e => (leaving env e).wrap (fun _ => .raise e) .raise id id
noncomputable def K2 (env : Env) : Flow → Sem PySem.Fin := fun f => match f with | .next => (execs [] env).wrap K1 (H1 env) id id | f => K1 f
noncomputable def forC (p : Nat → Pos) (env : Env) (I : Addr) : Code := .forLoop (.Name (nG 2) (p 3)) (.ref I) (gFBody p) [] env
noncomputable def whC (p : Nat → Pos) (env : Env) : Code := .whileLoop (.Constant (.bool true) 0 (p 21)) (gWBody p) [] env
noncomputable def F1 (p : Nat → Pos) (env : Env) (q : Pos) : Frame := .ret (ownBack env (K2 env) (H1 env) id id) none false [] (.func (gBody p) env) q []
noncomputable def Kf (p : Nat → Pos) (env : Env) (I : Addr) : Flow → Sem PySem.Fin := fun f => match f with
  | .next | .cont => .pure (.again (forC p env I))
  | .brk => .pure (.done .next)
  | .ret v => .pure (.done (.ret v))
noncomputable def K3 (p : Nat → Pos) (env : Env) (I : Addr) : Flow → Sem PySem.Fin := fun f => match f with | .next => (execs [gYield p, gAsg p] env).wrap (Kf p env I) (noteH env) id id | f => Kf p env I f
noncomputable def K4 (p : Nat → Pos) (env : Env) (I : Addr) : Flow → Sem PySem.Fin := fun f => match f with | .next => (execs [] env).wrap (K3 p env I) (noteH env) id id | f => K3 p env I f
noncomputable def F2 (p : Nat → Pos) (env : Env) (I : Addr) (q : Pos) : Frame := .ret (ownBack env (K4 p env I) (noteH env) id id) none false [] (forC p env I) q []
noncomputable def Kw (p : Nat → Pos) (env : Env) : Flow → Sem PySem.Fin := fun f => match f with
  | .next | .cont => .pure (.again (whC p env))
  | .brk => .pure (.done .next)
  | .ret v => .pure (.done (.ret v))
end Mine
end

section
set_option maxRecDepth 100000
set_option autoImplicit false
namespace Mine
open PySem PySem.W PyProof.Rows
structure GC (B : Around) (h₀ h₁ : Heap) (mg mb : Str → Option Value) (env : Env) (Lg ax : Addr) (fsA : List Addr) (outer : List Env) : Prop where
  G : GEnv env Lg
  g : h₀.Ns mainGlobals mg
  b : h₀.Ns builtinsNs mb
  hc : ∃ c, mg (Str.ofString "CHAR_MAX") = some (.int 127 c)
  hv : mg (Str.ofString "ValueError") = none ∧ mb (Str.ofString "ValueError") = some (.type "ValueError")
  lt : ∀ b o, h₀.get? b = some o → h₁.get? b = some o
  hLg : h₁.get? Lg = none
  fs : ∀ a, a ∈ fsA → ∃ m, h₁.Ns a m
  out : ∀ e, e ∈ outer → GoodE fsA e
  hh : B.handled = none
  fr : B.frames = some outer
section
variable {prog : Program} {w : World} {B : Around} {h₀ h₁ : Heap} {mg mb : Str → Option Value} {env : Env} {Lg ax I : Addr} {fsA : List Addr} {outer : List Env} {row : List Int} {N n : Nat} {s₀ s : Shared} {p : Nat → Pos} {q : Pos}
theorem over_h1 (c : GC B h₀ h₁ mg mb env Lg ax fsA outer) : (B.over (forC p env I) [F1 p env q]).handled = none := c.hh
theorem over_h0 (c : GC B h₀ h₁ mg mb env Lg ax fsA outer) : (B.over (.func (gBody p) env) []).handled = none := c.hh
theorem over_f1 (c : GC B h₀ h₁ mg mb env Lg ax fsA outer) : (B.over (forC p env I) [F1 p env q]).frames = some (env :: outer) := by
  show pushEnvs (forC p env I).envs (pushEnvs (envsOf ([F1 p env q].map Frame.where_)) B.frames) = _
  rw [c.fr]; rfl
theorem over_f0 (c : GC B h₀ h₁ mg mb env Lg ax fsA outer) : (B.over (.func (gBody p) env) []).frames = some (env :: outer) := by
  show pushEnvs (Code.func (gBody p) env).envs (pushEnvs (envsOf (([] : List Frame).map Frame.where_)) B.frames) = _
  rw [c.fr]; rfl
theorem g_ret (hs : gnext row (phAt row (N - n)) = .stop) (x : Side h₁ s₀ s) : Seg (model prog w) B (gR h₁ fsA outer row N) (gY h₀ h₁ row Lg ax N) n s₀ (forC p env I) (.pure (.done (.ret .none))) [F1 p env q] s :=
  seg_leaf (.ok (.ret .none)) (show Seg _ B _ _ n s₀ (.func (gBody p) env) (.pure (.done (.ret .none))) [] s from seg_end (.ok (.ret .none)) (.inl ⟨hs, rfl, x⟩))
theorem g_out (hs : gnext row (phAt row (N - n)) = .stop) (x : Side h₁ s₀ s) : Seg (model prog w) B (gR h₁ fsA outer row N) (gY h₀ h₁ row Lg ax N) n s₀ (forC p env I) (.pure (.again (.block [] env))) [F1 p env q] s := by
  refine seg_again rfl (seg_block ?_)
  show Seg _ B _ _ n s₀ (.block [] env) (.pure (.done .next)) [F1 p env q] s
  refine seg_leaf (.ok .next) ?_
  show Seg _ B _ _ n s₀ (.func (gBody p) env) (.pure (.done (.ret .none))) [] s
  exact seg_end (.ok (.ret .none)) (.inl ⟨hs, rfl, x⟩)
/-- the road of an exception out of the rulers' frame -/
theorem g_fly {e : Addr} {x : Value} {h : Heap} {m : Str → Option Value} (c : GC B h₀ h₁ mg mb env Lg ax fsA outer) (hs : gnext row (phAt row (N - n)) = .raise) (sd : s.gens = s₀.gens ∧ s.drawn = s₀.drawn ∧ s.os = s₀.os) (hk : ∀ b o, h₁.get? b = some o → h.get? b = some o) (hm : h.Ns Lg m)
    (hx : Heap.MadeExc h s.heap e "ValueError" [x]) :
    Seg (model prog w) B (gR h₁ fsA outer row N) (gY h₀ h₁ row Lg ax N) n s₀ (forC p env I) (noteH env (.ref e)) [F1 p env q] s := by
  have hkb : (hideAll h₁ fsA).StaysIn h := fun b o e => hk b o (of_hideAll _ e)
  have hLn : (hideAll h₁ fsA).get? Lg = none := by
    cases q : (hideAll h₁ fsA).get? Lg with
    | none => rfl
    | some o => have := of_hideAll _ q; rw [c.hLg] at this; cases this
  have hl : h.FunFrames (hideAll h₁ fsA) (env :: outer) := by
    obtain ⟨o, es, ep, ho, hd, _⟩ := hm
    exact ⟨by rw [c.G.kind]; decide, ⟨Lg, o, c.G.fr, hLn, ho, fun vs q => by rw [hd] at q; cases q⟩, fun_frames (fun a ha => ⟨hideAll_none _ ha, let ⟨m, e⟩ := c.fs a ha; ⟨m, e.keeps hk⟩⟩) outer c.out⟩
  have up0 : h.UpToSlots s.heap := .of_keeps hx.keeps
  unfold noteH
  refine seg_wrap (wpAny_bind (note_first (over_f1 c) c.G.fr hkb hl hx.of fun h2 t H2 up2 => wpAny_theTreesLotGoes ?_))
  refine seg_leaf (.error (.ref e)) ?_
  show Seg _ B _ _ n s₀ (.func (gBody p) env) (ownBack env (K2 env) (H1 env) id id (.error (.ref e))) [] _
  have eq : ownBack env (K2 env) (H1 env) id id (.error (.ref e)) = (ownDo (.ref e) env.frame).wrap (fun _ => H1 env (.ref e)) (H1 env) id id := by
    unfold ownBack
    rw [Sem.onRaise_eq_wrap, Sem.wrap_wrap]
    show Sem.wrap _ _ _ _ ((_ : Sem Unit).bind fun _ => .raise (.ref e)) = _
    rw [Sem.bind_eq_wrap, Sem.wrap_wrap]
    rfl
  rw [eq, c.G.fr]
  refine seg_wrap (own_held H2 fun h3 H3 up3 => ?_)
  unfold H1
  refine seg_wrap (leaves_held c.G.fr H3 fun h4 H4 up4 => ?_)
  refine seg_end (.error (.ref e)) (.inr ⟨hs, e, _, rfl, sd.1, sd.2.1, sd.2.2, H4, fun l hl m e => ?_⟩)
  exact (((up0.trans up2).trans up3).trans up4).ns (e.keeps hk)
/-- what the next wakings do, at fuel q -/
noncomputable def Later (B : Around) (h₀ h₁ : Heap) (env : Env) (Lg ax : Addr) (fsA : List Addr) (outer : List Env) (row : List Int) (N : Nat) (prog : Program) (w : World) (p : Nat → Pos) (k : Nat) : Prop :=
  (∀ (s : Shared) i x I q, phAt row (N - k) = .mid i x → Ready h₀ h₁ row Lg ax I (.mid i x) s → Seg (model prog w) B (gR h₁ fsA outer row N) (gY h₀ h₁ row Lg ax N) k s (forC p env I) ((execs [gAsg p] env).wrap (Kf p env I) (noteH env) id id) [F1 p env q] s) ∧
  (∀ (s : Shared) x I J q q', phAt row (N - k) = .ever x → Ready h₀ h₁ row Lg ax J (.ever x) s → Seg (model prog w) B (gR h₁ fsA outer row N) (gY h₀ h₁ row Lg ax N) k s (whC p env) (.pure (.again (whC p env))) [F2 p env I q', F1 p env q] s)
theorem g_ever {x : Int} {t : Tok} {m : Str → Option Value} {k : Nat} {q' : Pos} (c : GC B h₀ h₁ mg mb env Lg ax fsA outer) (hk : k + 1 ≤ N) (hp : gnext row (phAt row (N - (k + 1))) = .yield x (.ever x)) (hp' : phAt row (N - k) = .ever x) (sd : Side h₁ s₀ s) (hm : s.heap.Ns Lg m) (hx : m (nG 1) = some (.int x t))
    (ih : k ≠ 0 → Later B h₀ h₁ env Lg ax fsA outer row N prog w p k) : Seg (model prog w) B (gR h₁ fsA outer row N) (gY h₀ h₁ row Lg ax N) (k + 1) s₀ (whC p env) ((model prog w).den (whC p env)) [F2 p env I q', F1 p env q] s := by
  refine seg_whileLoop (isTrue_plain (show wpAny _ _ (eval (.Constant (.bool true) 0 (p 21)) env) _ _ s from wpAny_pure (wpAny_truthy_bool ?_)))
  simp only [if_true]
  refine seg_execs_cons (seg_Expr_Yield rfl rfl rfl (g_ld c.G c.G.k1 hm hx (by decide) fun kap hkap => ?_) c.G.co (by unfold interactive; rw [c.G.kind]; rfl))
  refine ⟨x, t, I, by rw [hp']; exact hp, rfl, sd, by rw [hp']; exact ⟨m, t, hm, hx⟩, fun hk0 s' rdy => hkap .none s' ?_⟩
  rw [hp'] at rdy
  exact (ih hk0).2 s' x I I q q' hp' rdy
theorem g_top {k i : Nat} {last : Option Int} {u : Value} {m : Str → Option Value} (c : GC B h₀ h₁ mg mb env Lg ax fsA outer) (hk : k + 1 ≤ N) (hp : gnext row (phAt row (N - (k + 1))) = gout row i last) (hp' : ∀ y g, gout row i last = .yield y g → phAt row (N - k) = g)
    (sd : Side h₁ s₀ s) (kp : ∀ b o, h₀.get? b = some o → s.heap.get? b = some o) (hr : RowAt row ax s.heap) (hI : h₁.get? I = none) (hit : s.heap.IsListIter I ax i) (hm : s.heap.Ns Lg m) (hu : m (nG 1) = some u) (hlast : match last with | none => u = .none | some x => ∃ t, u = .int x t)
    (hk1 : last = none → ∀ b o, h₁.get? b = some o → s.heap.get? b = some o) (ih : k ≠ 0 → Later B h₀ h₁ env Lg ax fsA outer row N prog w p k) :
    Seg (model prog w) B (gR h₁ fsA outer row N) (gY h₀ h₁ row Lg ax N) (k + 1) s₀ (forC p env I) ((model prog w).den (forC p env I)) [F1 p env q] s := by
  obtain ⟨vs, pl, hi⟩ := hr
  have nI : NotSeq s.heap I := by
    obtain ⟨o, ho, _, hd⟩ := hit
    exact fun o' xs n e hd' => by rw [ho] at e; cases e; rw [hd] at hd'; cases hd'
  have nL : NotSeq s.heap Lg := ns_notSeq hm
  have hLI : Lg ≠ I := by
    rintro rfl
    obtain ⟨o, es, ep, ho, hd, _⟩ := hm
    obtain ⟨o', ho', _, hd'⟩ := hit
    rw [ho] at ho'; cases ho'
    rw [hd] at hd'; cases hd'
  have h0I : ∀ b o, h₀.get? b = some o → b ≠ I := fun b o e q => by have := c.lt b o e; rw [q, hI] at this; cases this
  have h0L : ∀ b o, h₀.get? b = some o → b ≠ Lg := fun b o e q => by have := c.lt b o e; rw [q, c.hLg] at this; cases this
  have h1I : ∀ b o, h₁.get? b = some o → b ≠ I := fun b o e q => by rw [q, hI] at e; cases e
  have h1L : ∀ b o, h₁.get? b = some o → b ≠ Lg := fun b o e q => by rw [q, c.hLg] at e; cases e
  refine seg_forLoop ?_ (fun _ => rfl)
  cases hv : row[i]? with
  | none =>
    have ho : gout row i last = .stop := by unfold gout; rw [hv]
    have hvn : vs.toArray[i]? = none := by
      have := (ints_rel (h := s.heap) (ad := []) hi).getN (i := i) (by rw [List.getElem?_map, hv]; rfl)
      simpa using this
    refine wpAny_pyNext_list_end (over_h1 c) hit pl.isList hvn fun h' hs => ?_
    exact g_out (by rw [hp]; exact ho) (sd.but (t := s.toks) hs nI hI)
  | some y =>
    obtain ⟨v, hvv, hvr⟩ := (ints_rel (h := s.heap) (ad := []) hi).get (i := i) (b := .int y) (by rw [List.getElem?_map, hv]; rfl)
    obtain ⟨ty, rfl⟩ := hvr
    refine wpAny_pyNext_list_item hit pl.isList (x := .int y ty) (by simpa using hvv) fun h' hit' hs => ?_
    have sd1 := sd.but (t := s.toks) hs.extBut nI hI
    have hm1 : h'.Ns Lg m := hm.sameBut hs hLI
    refine wpAny_assign_Name (g_st (s := { s with heap := h' }) c.G c.G.k2 hm1 fun h2 hm2 hs2 => ?_)
    have sd2 := sd1.but (t := s.toks + 1) hs2.extBut (ns_notSeq hm1) c.hLg
    have kp2 : ∀ b o, h₀.get? b = some o → h2.get? b = some o := fun b o e => (hs2.2 b (h0L b o e)).trans ((hs.2 b (h0I b o e)).trans (kp b o e))
    have g2 : (fun z => if z = nG 2 then some (Value.int y ty) else m z) (nG 2) = some (.int y ty) := by simp
    have g1 : (fun z => if z = nG 2 then some (Value.int y ty) else m z) (nG 1) = some u := by
      show (if nG 1 = nG 2 then _ else m (nG 1)) = _
      rw [if_neg (by decide)]; exact hu
    have hit2 : h2.IsListIter I ax (i + 1) := hit'.at fun o e => (hs2.2 I (Ne.symm hLI)).trans e
    show Seg _ B _ _ (k + 1) s₀ (forC p env I) ((execs (gFBody p) env).wrap (Kf p env I) (noteH env) id id) [F1 p env q] { s with heap := h2, toks := s.toks + 1 }
    obtain ⟨cm, hcm⟩ := c.hc
    refine seg_execs_cons (seg_wrap (g_i1 (s := { s with heap := h2, toks := s.toks + 1 }) c.G c.g hcm kp2 hm2 g2 (fun e => ?_) fun hn => ?_))
    · have ho : gout row i last = .stop := by unfold gout; rw [hv]; simp [e]
      show Seg _ B _ _ (k + 1) s₀ (forC p env I) (.pure (.done (.ret .none))) [F1 p env q] _
      exact g_ret (by rw [hp]; exact ho) sd2
    · show Seg _ B _ _ (k + 1) s₀ (forC p env I) ((execs [gI2 p, gYield p, gAsg p] env).wrap (Kf p env I) (noteH env) id id) [F1 p env q] _
      refine seg_execs_cons ?_
      show Seg _ B _ _ (k + 1) s₀ (forC p env I) ((exec (gI2 p) env).wrap (K3 p env I) (noteH env) id id) [F1 p env q] _
      refine seg_If (g_t2 c.G hm2 g2 ?_)
      have sd3 : Side h₁ s₀ { s with heap := h2, toks := s.toks + 1 + 1 } := sd2.grow (t := s.toks + 1 + 1) fun _ _ e => e
      by_cases h0 : y = 0
      · subst h0
        simp only [beq_self_eq_true, if_true]
        refine seg_execs_cons (seg_wrap (g_raise (s := { s with heap := h2, toks := s.toks + 1 + 1 }) c.G c.b c.g c.hv kp2 (over_h1 c) hm2 g1 (fun hun => ?_) fun hun h3 e x tk hx => ?_))
        · cases last with
          | none => exact absurd hlast hun
          | some x =>
            obtain ⟨t, rfl⟩ := hlast
            have ho : gout row i (some x) = .yield x (.ever x) := by unfold gout; rw [hv]; simp
            show Seg _ B _ _ (k + 1) s₀ (forC p env I) ((execs [gEver p] env).wrap (K3 p env I) (noteH env) id id) [F1 p env q] _
            refine seg_execs_cons (seg_While fun q' => ?_)
            exact g_ever (q' := q') c hk (by rw [hp]; exact ho) (hp' _ _ ho) sd3 hm2 g1 ih
        · cases last with
          | some x => obtain ⟨t, rfl⟩ := hlast; cases hun
          | none =>
            have ho : gout row i none = .raise := by unfold gout; rw [hv]; simp
            refine g_fly c (by rw [hp]; exact ho) ⟨sd3.1, sd3.2.1, sd3.2.2.1⟩ (fun b o e => ?_) hm2 hx
            exact (hs2.2 b (h1L b o e)).trans ((hs.2 b (h1I b o e)).trans (hk1 rfl b o e))
      · have hb : (y == 0) = false := by simpa using h0
        have ho : gout row i last = .yield y (.mid (i + 1) y) := by unfold gout; rw [hv]; simp [hn, h0]
        have hph := hp' _ _ ho
        simp only [hb, Bool.false_eq_true, if_false]
        show Seg _ B _ _ (k + 1) s₀ (forC p env I) ((execs [gYield p, gAsg p] env).wrap (Kf p env I) (noteH env) id id) [F1 p env q] _
        refine seg_execs_cons (seg_Expr_Yield rfl rfl rfl (g_ld (s := { s with heap := h2, toks := s.toks + 1 + 1 }) c.G c.G.k2 hm2 g2 (by decide) fun kap hkap => ?_) c.G.co (by unfold interactive; rw [c.G.kind]; rfl))
        refine ⟨y, ty, I, by rw [hph, hp]; exact ho, rfl, sd3, by rw [hph]; exact ⟨hI, hit2, _, ty, hm2, g2⟩, fun hk0 s' rdy => hkap .none s' ?_⟩
        rw [hph] at rdy
        exact (ih hk0).1 s' (i + 1) y I q hph rdy
theorem g_later (c : GC B h₀ h₁ mg mb env Lg ax fsA outer) : ∀ k, k ≤ N → k ≠ 0 → Later B h₀ h₁ env Lg ax fsA outer row N prog w p k
  | 0, _, h => absurd rfl h
  | k + 1, hk, _ => by
    have ih : k ≠ 0 → Later B h₀ h₁ env Lg ax fsA outer row N prog w p k := fun h => g_later c k (by omega) h
    have hN : N - k = N - (k + 1) + 1 := by omega
    have next : ∀ y g, gnext row (phAt row (N - (k + 1))) = .yield y g → phAt row (N - k) = g := fun y g e => by rw [hN]; unfold phAt; rw [e]
    refine ⟨fun s i x I q hp rdy => ?_, fun s x I J q q' hp rdy => ?_⟩
    · obtain ⟨kp, hr, hI, hit, m, t, hm, hx⟩ := rdy
      refine seg_execs_cons (seg_wrap (wpAny_Assign_Name (g_ld c.G c.G.k2 hm hx (by decide) (g_st c.G c.G.k1 hm fun h' hm' hs => ?_)) rfl))
      have nL : NotSeq s.heap Lg := ns_notSeq hm
      have hLI : I ≠ Lg := by
        rintro rfl
        obtain ⟨o, es, ep, ho, hd, _⟩ := hm
        obtain ⟨o', ho', _, hd'⟩ := hit
        rw [ho] at ho'; cases ho'
        rw [hd] at hd'; cases hd'
      show Seg _ B _ _ (k + 1) s (forC p env I) (.pure (.again (forC p env I))) [F1 p env q] _
      obtain ⟨vs, pl, hi⟩ := hr
      have hax : ax ≠ Lg := fun q => by obtain ⟨o, n, e, _, _, hd⟩ := pl; exact nL o _ n (q ▸ e) hd
      refine seg_again rfl (g_top (i := i) (last := some x) c hk (by rw [hp]; rfl) (fun y g e => next y g (by rw [hp]; exact e)) ((Side.refl s).but (t := s.toks + 1) hs.extBut nL c.hLg)
        (fun b o e => (hs.2 b (fun q => by have := c.lt b o e; rw [q, c.hLg] at this; cases this)).trans (kp b o e)) ⟨vs, pl.extBut hs.extBut hax, hi⟩ hI (hit.at fun o e => (hs.2 I hLI).trans e) hm' (by simp) ⟨t, rfl⟩ (fun h => by cases h) ih)
    · obtain ⟨kp, hr, m, t, hm, hx⟩ := rdy
      exact seg_again rfl (g_ever c hk (by rw [hp]; rfl) (next x _ (by rw [hp]; rfl)) (.refl s) hm hx ih)
theorem g_start (c : GC B h₀ h₁ mg mb env Lg ax fsA outer) (hN : N ≠ 0) (rdy : Ready h₀ h₁ row Lg ax I .start s) :
    Seg (model prog w) B (gR h₁ fsA outer row N) (gY h₀ h₁ row Lg ax N) N s (.func (gBody p) env) ((model prog w).den (.func (gBody p) env)) [] s := by
  obtain ⟨kp, ⟨vs, pl, hi⟩, ⟨m, hm, hx⟩, hk1⟩ := rdy
  obtain ⟨k, rfl⟩ := Nat.exists_eq_succ_of_ne_zero hN
  have nL : NotSeq s.heap Lg := ns_notSeq hm
  have hax : ax ≠ Lg := fun q => by obtain ⟨o, n, e, _, _, hd⟩ := pl; exact nL o _ n (q ▸ e) hd
  refine seg_func ?_
  refine seg_execs_cons (seg_wrap (wpAny_Assign_Name (show wpAny _ _ (eval (.Constant .none 0 (p 1)) env) _ _ s from wpAny_pure (g_st c.G c.G.k1 hm fun h' hm' hs => ?_)) rfl))
  show Seg _ B _ _ (k + 1) s (.func (gBody p) env) ((execs [.For (.Name (nG 2) (p 3)) (.Name (nG 0) (p 4)) (gFBody p) [] (p 33)] env).wrap K1 (H1 env) id id) [] _
  have pl' := pl.extBut hs.extBut hax
  have gx : (fun z => if z = nG 1 then some Value.none else m z) (nG 0) = some (.ref ax) := by
    show (if nG 0 = nG 1 then _ else m (nG 0)) = _
    rw [if_neg (by decide)]; exact hx
  refine seg_execs_cons (seg_For (g_ld (s := { s with heap := h', toks := s.toks + 1 }) c.G c.G.k0 hm' gx (by decide) (wpAny_pyIter_list pl'.isList fun q => ?_)) (fun _ => rfl))
  have up : ∀ b o, h'.get? b = some o → (h'.push { cls := .type "list_iterator", data := .fields #[.ref ax, .int 0 0] }).get? b = some o := fun b o e => Heap.get?_push_of_some _ e
  have hsz : h₁.get? h'.objs.size = none := by
    cases q : h₁.get? h'.objs.size with
    | none => rfl
    | some o => have := Heap.lt_size (hk1 _ o q); rw [hs.1] at this; exact absurd this (Nat.lt_irrefl _)
  exact g_top (i := 0) (last := none) c (Nat.le_refl _) (by simp [phAt]; rfl) (fun y g e => by
      have : k + 1 - k = 1 := by omega
      rw [this]
      show (match gnext row (phAt row 0) with | .yield _ g => g | _ => phAt row 0) = g
      rw [show gnext row (phAt row 0) = gout row 0 none from rfl, e])
    (((Side.refl s).but (t := s.toks + 1) hs.extBut nL c.hLg).grow (t := s.toks + 1) up) (fun b o e => up b o ((hs.2 b (fun q => by have := c.lt b o e; rw [q, c.hLg] at this; cases this)).trans (kp b o e))) ⟨vs, pl'.keeps up, hi⟩ hsz
    ⟨_, Heap.get?_push_size _ rfl, rfl, rfl⟩ (hm'.keeps up) (by simp) rfl (fun _ b o e => up b o ((hs.2 b (fun q => by rw [q, c.hLg] at e; cases e)).trans (hk1 b o e))) (fun h => g_later c k (by omega) h)
end
end Mine
end

section
set_option maxRecDepth 100000
set_option autoImplicit false
namespace Mine
open PySem PySem.W PyProof.Rows
section
variable {prog : Program} {w : World} {A : Around} {h₀ h₁ : Heap} {mg mb : Str → Option Value} {env : Env} {Lg ax : Addr} {fsA : List Addr} {outer : List Env} {row : List Int} {N n : Nat} {s : Shared}
theorem pick {α : Type} {M : Model} {A : Around} {st : GenStatus} {X Y : Sem α} {Q : α → Shared → Prop} {E : Value → Shared → Prop} {s : Shared} (h : st = .fresh ∨ st = .suspended) (k : wpAny M A X Q E s) : wpAny M A (match st with
    | .fresh => X
    | .suspended => X
    | _ => Y) Q E s := by
  rcases h with rfl | rfl <;> exact k
theorem st_of {M : Model} {A : Around} {R : GenEnd} {Y : Protocol} {n : Nat} {r : Resume} {s : Shared} {gs : GenState} (h : gs.Goes M A R Y n r s) : gs.status = .fresh ∨ gs.status = .suspended := by
  cases gs with
  | running => exact h.elim
  | finished => exact h.elim
  | fresh => exact .inl rfl
  | suspended => exact .inr rfl
theorem gen_next {a : Addr} {g : Nat} {gs : GenState} {Q : Option Value → Shared → Prop} {E : Value → Shared → Prop} (hh : A.handled = none) (hl : s.heap.NoLimit) (hroom : A.depth < recursionLimit) (hg : s.heap.IsGen a g) (hgs : s.gens[g]? = some gs) (h1a : ∃ o, h₁.get? a = some o) (haf : a ∉ fsA) (h1s : ∀ o, h₁.get? a = some o → s.heap.get? a = some o)
    (hgo : gs.Goes (model prog w) A.in1 (gR h₁ fsA outer row N) (gY h₀ h₁ row Lg ax N) (n + 1) (.send .none) (s.setGen g .running))
    (hY : ∀ y t I s₁ gs', gs'.bare = true → gnext row (phAt row (N - (n + 1))) = .yield y (phAt row (N - n)) → Side h₁ (s.setGen g .running) s₁ → PhAt h₁ Lg ax I s₁.heap (phAt row (N - n)) →
      (n ≠ 0 → ∀ s', Ready h₀ h₁ row Lg ax I (phAt row (N - n)) s' → gs'.Goes (model prog w) A.in1 (gR h₁ fsA outer row N) (gY h₀ h₁ row Lg ax N) n (.send .none) s') → Q (some (.int y t)) (s₁.setGen g gs'))
    (hS : gnext row (phAt row (N - (n + 1))) = .stop → ∀ s₁ h', Side h₁ (s.setGen g .running) s₁ → (∀ b o, s₁.heap.get? b = some o → h'.get? b = some o) → Q none { s₁.setGen g .finished with heap := h' })
    (hX : gnext row (phAt row (N - (n + 1))) = .raise → ∀ s₁ e a0, Fly h₁ fsA outer (s.setGen g .running) s₁ e a0 → E (.ref e) (s₁.setGen g .finished)) :
    wpAny (model prog w) A (pyNext (.ref a)) Q E s := by
  unfold pyNext
  refine wpAny_bind (wpAny_attempt (wpAny_callSpecial?_slot (name := Str.ofString "__next__") hg.typeIs slot_gen_next
    (wpAny_call_entry slot_gen_next hg.typeIs entry_gen_next ?_ (args_gen_next _))))
  show wpAny _ A.in1 (Builtin.Generator.genWake (.ref a) (.send .none)) _ _ s
  unfold Builtin.Generator.genWake
  refine wpAny_bind (wpAny_holding (wpAny_genNumber hg (wpAny_bind (wpAny_genState hgs ?_))))
  refine pick (st_of hgo) ?_
  · refine wpAny_bind (wpAny_roomToWake hl hroom ?_)
    show wpAny _ A.in1 (.resume g (.send .none) [] _) _ _ s
    refine wpAny_resumeQ hgs hgo (fun x s₁ hx => ?_) (fun v s₁ gs' hb hv => ?_)
    · rcases hx with ⟨hs, rfl, sd⟩ | ⟨hs, e, a0, rfl, fl⟩
      · show wpAny _ A.in1 (newExc (.type "StopIteration") [] >>= _) _ _ _
        refine wpAny_bind ?_
        simp only [newExc, newTuple]
        refine wpAny_bind (wpAny_newObj_type ?_ (by size_fits))
        refine wpAny_bind (m := firstArgMember _ _) (wpAny_of_eq (a := Value.none) (by first | rfl | (simp only [firstArgMember]; rfl)) ?_)
        refine wpAny_newObj_type ?_ (by size_fits)
        unfold raiseNew
        refine wpAny_bind (wpAny_bind (wpAny_handled ?_))
        first | rw [show A.in1.handled = none from hh] | rw [hh]
        refine wpAny_throw ?_
        refine wpAny_bind (wpAny_isInstance (T := "StopIteration") (b := true) ⟨_, Heap.get?_push_size _ rfl, rfl⟩ isSubtype_stop ?_)
        exact wpAny_pure (hS hs s₁ _ sd fun b o hb => Heap.get?_push_of_some _ (Heap.get?_push_of_some _ hb))
      · obtain ⟨f1, f2, f3, f4, f5⟩ := id fl
        obtain ⟨oa, hoa⟩ := h1a
        have ha1 := f4.1 a oa (hideAll_get _ hoa haf)
        obtain ⟨o, nm, qn, ho, hcls, hd, _⟩ := hg
        have hoo : oa = o := by have := h1s oa hoa; rw [ho] at this; cases this; rfl
        subst hoo
        obtain ⟨oe, he, hce⟩ := f4.there
        have hT : (s₁.setGen g .finished).TypeIs (.ref e) "ValueError" := ⟨oe, he, hce⟩
        show wpAny _ A.in1 (Builtin.Generator.genLeft (.ref a) (.ref e)) _ _ _
        unfold Builtin.Generator.genLeft Builtin.Generator.madeByALambda
        refine wpAny_bind (wpAny_bind (wpAny_load (s := s₁.setGen g .finished) ha1 (wpAny_pure ?_)))
        rw [hd]
        simp only [hcls]
        have e3 : ((#[Value.int g 0, nm, qn] : Array Value)[3]? == some (.bool true)) = false := rfl
        rw [e3]
        have hsub : isSubtype (.type "ValueError") (.type "StopIteration") = pure false := by rw [isSubtype_type]; kernel_rfl
        refine wpAny_bind (wpAny_isInstance (T := "ValueError") (b := false) hT hsub ?_)
        simp only [Bool.and_false, Bool.false_and, Bool.false_eq_true, if_false]
        unfold Builtin.Generator.genEscaped
        refine wpAny_bind (wpAny_isInstance (T := "ValueError") (b := false) hT hsub ?_)
        simp only [Bool.not_false, if_true]
        refine wpAny_throw ?_
        refine wpAny_bind (wpAny_isInstance (T := "ValueError") (b := false) hT hsub ?_)
        simp only [Bool.false_eq_true, if_false]
        exact wpAny_throw (hX hs s₁ e a0 fl)
    · obtain ⟨y, t, I, h1, rfl, h3, h4, h5⟩ := hv
      exact wpAny_pure ⟨.int y t, rfl, wpAny_pure (hY y t I s₁ gs' hb h1 h3 h4 h5)⟩
end
end Mine
end

section
set_option maxRecDepth 100000
set_option autoImplicit false
namespace Mine
open PySem PySem.W PyProof.Rows
section
variable {prog : Program} {w : World} {A : Around} {C : FC} {h₀ h₁ : Heap} {mg mb : Str → Option Value} {env : Env} {Lg ax I : Addr} {fsA : List Addr} {outer : List Env} {row : List Int} {N n : Nat} {s s₁ s₂ : Shared} {ad ad₁ : List Addr} {σ : St} {ρ : Rho}
theorem g_env {fd : FuncData} {L a : Addr} (hs : fd.scope = defScope gIdx) (hg : fd.globals = mainGlobals) (hb : fd.builtins = builtinsNs) : GEnv (callEnvC fd L a) L where
  kind := by show fd.scope.kind = _; rw [hs]; rfl
  co := by show fd.scope.isCoroutine = _; rw [hs]; rfl
  glob := hg
  bi := hb
  loc := rfl
  fr := rfl
  k0 := by show fd.scope.names.lookup _ = _; rw [hs]; rfl
  k1 := by show fd.scope.names.lookup _ = _; rw [hs]; rfl
  k2 := by show fd.scope.names.lookup _ = _; rw [hs]; rfl
  kc := by show fd.scope.names.lookup _ = _; rw [hs]; rfl
  kv := by show fd.scope.names.lookup _ = _; rw [hs]; rfl
/-- what the rulers' frame leaves of the frame that asks -/
theorem Led.side {h h' : Heap} (l : Led h ad σ) (k : ∀ b o, h.get? b = some o → (∃ xs n, o.data = .seq xs n) → h'.get? b = some o) : Led h' ad σ := by
  refine ⟨l.len, l.nd, fun i a x ha hx => ?_⟩
  obtain ⟨vs, ⟨o, n, ho, r1, r2, r3⟩, hr⟩ := l.lists i a x ha hx
  refine ⟨vs, ⟨o, n, k a o ho ⟨_, n, r3⟩, r1, r2, r3⟩, All2.mono hr fun u v q => ?_⟩
  cases v with
  | tup l =>
    obtain ⟨a, vs, e, ha, ht, hr⟩ := q
    obtain ⟨o, ho, hc, n, hd⟩ := id ht
    exact ⟨a, vs, e, ha, ⟨o, k a o ho ⟨_, n, hd⟩, hc, n, hd⟩, hr⟩
  | frz l =>
    obtain ⟨a, vs, e, ha, ht, hr⟩ := q
    obtain ⟨o, ho, hc, n, hd⟩ := id ht
    exact ⟨a, vs, e, ha, ht.at fun o' e' => by rw [ho] at e'; cases e'; exact k a o ho ⟨_, n, hd⟩, hr⟩
  | _ => exact q
theorem RelV.side {h h' : Heap} {u : Value} {v : V} (q : RelV h ad u v) (k : ∀ b o, h.get? b = some o → (∃ xs n, o.data = .seq xs n) → h'.get? b = some o) : RelV h' ad u v := by
  cases v with
  | tup l =>
    obtain ⟨a, vs, e, ha, ht, hr⟩ := q
    obtain ⟨o, ho, hc, n, hd⟩ := id ht
    exact ⟨a, vs, e, ha, ⟨o, k a o ho ⟨_, n, hd⟩, hc, n, hd⟩, hr⟩
  | frz l =>
    obtain ⟨a, vs, e, ha, ht, hr⟩ := q
    obtain ⟨o, ho, hc, n, hd⟩ := id ht
    exact ⟨a, vs, e, ha, ht.at fun o' e' => by rw [ho] at e'; cases e'; exact k a o ho ⟨_, n, hd⟩, hr⟩
  | _ => exact q
theorem At.side {h h' : Heap} (a : At h₀ C h ad σ ρ) (k : ∀ b o, h.get? b = some o → ((∃ o', h₁.get? b = some o') ∨ ∃ xs n, o.data = .seq xs n) → h'.get? b = some o) (k0 : ∀ b o, h₀.get? b = some o → ∃ o', h₁.get? b = some o') (kf : ∀ l, l ∈ C.fs → ∃ o, h₁.get? l = some o)
    (kc : ∀ i c, i < C.nv → C.env.cells.lookup (C.nm i) = some c → ∃ o, h₁.get? c = some o) : At h₀ C h' ad σ ρ := by
  have ks : ∀ b o, h.get? b = some o → (∃ xs n, o.data = .seq xs n) → h'.get? b = some o := fun b o e z => k b o e (.inr z)
  obtain ⟨m, hn, hv⟩ := a.act.ns
  refine ⟨⟨fun b o e => k b o (a.base.keep b o e) (.inl (k0 b o e)), a.base.off⟩, a.led.side ks, ⟨a.act.len, ⟨m, hn.at' fun o e => k _ o e (.inl (kf _ (.head _))), fun i v e kk => ?_⟩, a.act.nL, fun l hl => let ⟨m, e⟩ := a.act.nsO l hl; ⟨m, e.at' fun o e' => k _ o e' (.inl (kf l (.tail _ hl)))⟩, a.act.kinds, fun i c hi e => ?_⟩, a.l0, a.c0⟩
  · obtain ⟨u, hu, r⟩ := hv i v e kk
    exact ⟨u, hu, r.side ks⟩
  · obtain ⟨g1, x, g2, g3⟩ := a.act.cel i c hi e
    refine ⟨g1, x, isCell_get g2 fun o e' => k c o e' (.inl (kc i c hi e)), fun kk y e' => ?_⟩
    obtain ⟨u, hu, r⟩ := g3 kk y e'
    exact ⟨u, hu, r.side ks⟩
theorem SNx.side {G' : Array GenState} {t : Nat} {h' : Heap} (x : SNx C s₁ s ad₁ ad) (k1 : ∀ b o, s₁.heap.get? b = some o → ∃ o', h₁.get? b = some o') (k : ∀ b o, s.heap.get? b = some o → ((∃ o', h₁.get? b = some o') ∨ ∃ xs n, o.data = .seq xs n) → h'.get? b = some o) (gx : GX s₁.gens G') :
    SNx C s₁ { s with heap := h', gens := G', toks := t } ad₁ ad := by
  refine ⟨fun b o hb hL hc e => k b o (x.keep b o hb hL hc e) (.inl (k1 b o e)), fun l hl m e => ?_, x.pre, x.fresh, fun b o e => ?_, gx, x.dr, x.os⟩
  · obtain ⟨o, _, _, ho, _⟩ := id e
    exact (x.nsO l hl m e).at' fun o' e' => k l o' e' (.inl (k1 l o ho))
  · obtain ⟨o', e'⟩ := x.live b o e
    exact ⟨o', k b o' e' (.inl (k1 b o e))⟩
theorem PhAt.keep {h h' : Heap} {g : Ph} (hg : g ≠ .start) (x : PhAt h₁ Lg ax I h g) (kL : ∀ o, h.get? Lg = some o → h'.get? Lg = some o) (kI : ∀ o, h.IsListIter I ax 0 ∨ True → h.get? I = some o → (∃ vs, o.data = .fields vs) → h'.get? I = some o) : PhAt h₁ Lg ax I h' g := by
  cases g with
  | start => exact absurd rfl hg
  | mid i y =>
    obtain ⟨h1, ⟨o, ho, hc, hd⟩, m, t, hm, hy⟩ := x
    exact ⟨h1, ⟨o, kI o (.inr trivial) ho ⟨_, hd⟩, hc, hd⟩, m, t, hm.at' kL, hy⟩
  | ever y =>
    obtain ⟨m, t, hm, hy⟩ := x
    exact ⟨m, t, hm.at' kL, hy⟩
theorem gx_set {b a : Array GenState} {g : Nat} {y : GenState} (x : GX b a) (hg : b.size ≤ g) (hy : y.bare = true) : GX b (a.setIfInBounds g y) := by
  refine ⟨fun i z e => ?_, fun hb z hz => ?_⟩
  · have hi := (Array.getElem?_eq_some_iff.mp e).1
    rw [Array.getElem?_setIfInBounds_ne (by omega)]
    exact x.1 i z e
  · obtain ⟨i, hi, rfl⟩ := Array.mem_iff_getElem.mp hz
    have hi' : i < a.size := by simpa using hi
    rw [Array.getElem_setIfInBounds hi']
    split
    · exact hy
    · exact x.2 hb _ (Array.getElem_mem hi')
/-- what stands, while the rulers' generator is asked -/
structure GInv (A : Around) (prog : Program) (w : World) (C : FC) (h₀ h₁ : Heap) (mg mb : Str → Option Value) (env : Env) (Lg ax Ga : Addr) (gi : Nat) (l : List Env) (s₁ : Shared) (ad₁ : List Addr) (k : Nat) : Prop where
  c : GC A.in1 h₀ h₁ mg mb env Lg ax C.fs (C.env :: l)
  live : ∀ b o, s₁.heap.get? b = some o → ∃ o', h₁.get? b = some o'
  gfree : s₁.gens.size ≤ gi
  hax : ad₁[k]? = some ax
  obj : ∃ o nm qn, h₁.get? Ga = some o ∧ o.cls = .type "generator" ∧ o.data = .fields #[.int gi 0, nm, qn] ∧ o.slots = #[]
  gaf : Ga ∉ C.fs
  handled : A.handled = none
  room : A.depth < recursionLimit
  nolim : h₀.NoLimit
  fs1 : ∀ l, l ∈ C.fs → ∃ o, h₁.get? l = some o
  cs1 : ∀ i c, i < C.nv → C.env.cells.lookup (C.nm i) = some c → ∃ o, h₁.get? c = some o
structure GNow (A : Around) (prog : Program) (w : World) (C : FC) (h₀ h₁ : Heap) (Lg ax Ga : Addr) (gi : Nat) (l : List Env) (s₁ : Shared) (ad₁ : List Addr) (row : List Int) (N m : Nat) (I : Addr) (gs : GenState) (ad : List Addr) (σ : St) (ρ : Rho) (s : Shared) : Prop where
  x : SNx C s₁ s ad₁ ad
  a : At h₀ C s.heap ad σ ρ
  hgs : s.gens[gi]? = some gs
  bare : gs.bare = true
  gobj : ∀ o, h₁.get? Ga = some o → s.heap.get? Ga = some o
  ph : PhAt h₁ Lg ax I s.heap (phAt row (N - m))
  go : m ≠ 0 → ∀ s', Ready h₀ h₁ row Lg ax I (phAt row (N - m)) s' → gs.Goes (model prog w) A.in1 (gR h₁ C.fs (C.env :: l) row N) (gY h₀ h₁ row Lg ax N) m (.send .none) s'
theorem gen_turn {Ga : Addr} {gi k q : Nat} {l : List Env} {gs : GenState} {x : List V} {Q : Option Value → Shared → Prop} {E : Value → Shared → Prop} (V₁ : GInv A prog w C h₀ h₁ mg mb env Lg ax Ga gi l s₁ ad₁ k) (hq : q + 1 ≤ N) (V : GNow A prog w C h₀ h₁ Lg ax Ga gi l s₁ ad₁ row N (q + 1) I gs ad σ ρ s)
    (hx : σ[k]? = some x) (hr : intsOf x = some row)
    (hY : ∀ y t I' s' gs', gnext row (phAt row (N - (q + 1))) = .yield y (phAt row (N - q)) → GNow A prog w C h₀ h₁ Lg ax Ga gi l s₁ ad₁ row N q I' gs' ad σ ρ s' → Q (some (.int y t)) s')
    (hS : gnext row (phAt row (N - (q + 1))) = .stop → ∀ s', SNx C s₁ s' ad₁ ad → At h₀ C s'.heap ad σ ρ → Q none s')
    (hX : gnext row (phAt row (N - (q + 1))) = .raise → ∀ s' e a0, Heap.FlyingW (hideAll h₁ C.fs) (C.env :: l) e (.type "ValueError") a0 s'.heap → (∀ l, l ∈ C.fs → ∀ m, h₁.Ns l m → s'.heap.Ns l m) → GX s₁.gens s'.gens → s'.drawn = s₁.drawn → s'.os = s₁.os → E (.ref e) s') :
    wpAny (model prog w) A (pyNext (.ref Ga)) Q E s := by
  obtain ⟨o, nm, qn, ho, hc, hd, hsl⟩ := V₁.obj
  have hg : s.heap.IsGen Ga gi := ⟨o, nm, qn, V.gobj o ho, hc, hd, hsl⟩
  have hax : ad[k]? = some ax := V.x.idx V₁.hax
  obtain ⟨vs, pl, hrel⟩ := V.a.led.lists k ax x hax hx
  have rdy : Ready h₀ h₁ row Lg ax I (phAt row (N - (q + 1))) (s.setGen gi .running) := ⟨V.a.base.keep, ⟨vs, pl, intsOf_are hr hrel⟩, V.ph⟩
  have k0 : ∀ b o, h₀.get? b = some o → ∃ o', h₁.get? b = some o' := fun b o e => ⟨o, V₁.c.lt b o e⟩
  have gx1 : GX s₁.gens (s.setGen gi .running).gens := gx_set V.x.gx V₁.gfree rfl
  have hsz : gi < s.gens.size := (Array.getElem?_eq_some_iff.mp V.hgs).1
  refine gen_next (n := q) V₁.handled (V₁.nolim.keeps V.a.base.keep) V₁.room hg V.hgs ⟨o, ho⟩ V₁.gaf V.gobj (V.go (Nat.succ_ne_zero _) _ rdy) (fun y t I' s' gs' hb hn sd hp hgo => ?_) (fun hn s' h' sd kp => ?_) fun hn s' e a0 fl => ?_
  · obtain ⟨e1, e2, e3, e4⟩ := sd
    have e4' : ∀ b o, s.heap.get? b = some o → ((∃ o', h₁.get? b = some o') ∨ ∃ xs n, o.data = .seq xs n) → s'.heap.get? b = some o := e4
    refine hY y t I' (s'.setGen gi gs') gs' hn ⟨?_, V.a.side e4' k0 V₁.fs1 V₁.cs1, ?_, hb, fun o e => e4' Ga o (V.gobj o e) (.inl ⟨o, e⟩), hp, hgo⟩
    · have := V.x.side (G' := (s'.setGen gi gs').gens) (t := s'.toks) V₁.live e4' (gx_set (e1 ▸ gx1) V₁.gfree hb)
      rw [show s'.setGen gi gs' = { s with heap := s'.heap, gens := (s'.setGen gi gs').gens, toks := s'.toks } by
        obtain ⟨h, g, d, tk, os⟩ := s'
        simp only [Shared.setGen] at e2 e3 ⊢
        rw [e2, e3]]
      exact this
    · show (s'.gens.setIfInBounds gi gs')[gi]? = some gs'
      have hz : gi < s'.gens.size := by rw [e1]; simpa [Shared.setGen] using hsz
      simp [hz]
  · obtain ⟨e1, e2, e3, e4⟩ := sd
    have e4' : ∀ b o, s.heap.get? b = some o → ((∃ o', h₁.get? b = some o') ∨ ∃ xs n, o.data = .seq xs n) → h'.get? b = some o := fun b o e z => kp b o (e4 b o e z)
    refine hS hn _ ?_ (V.a.side e4' k0 V₁.fs1 V₁.cs1)
    have := V.x.side (G' := (s'.setGen gi .finished).gens) (t := s'.toks) V₁.live e4' (gx_set (e1 ▸ gx1) V₁.gfree rfl)
    rw [show ({ s'.setGen gi .finished with heap := h' } : Shared) = { s with heap := h', gens := (s'.setGen gi .finished).gens, toks := s'.toks } by
        obtain ⟨h, g, d, tk, os⟩ := s'
        simp only [Shared.setGen] at e2 e3 ⊢
        rw [e2, e3]]
    exact this
  · obtain ⟨e1, e2, e3, e4, e5⟩ := fl
    refine hX hn _ e a0 e4 e5 (gx_set (e1 ▸ gx1) V₁.gfree rfl) ?_ ?_
    · exact e2.trans V.x.dr
    · exact e3.trans V.x.os
end
end Mine
end

section
set_option maxRecDepth 100000
set_option autoImplicit false
namespace Mine
open PySem PySem.W PyProof.Rows
section
variable {prog : Program} {w : World} {A : Around} {C : FC} {h₀ h₁ : Heap} {mg mb : Str → Option Value} {env : Env} {Lg ax I : Addr} {row : List Int} {N : Nat} {s s₁ : Shared} {ad ad₁ : List Addr} {σ σ' : St} {ρ ρ' : Rho}
theorem phAt_ne : ∀ j, (∃ y g, gnext row (phAt row j) = .yield y g) → phAt row (j + 1) ≠ .start := fun j ⟨y, g, e⟩ => by
  unfold phAt
  rw [e]
  unfold gnext at e
  split at e
  · unfold gout at e
    split at e
    · cases e
    · split at e
      · cases e
      · split at e
        · cases e
        · cases e; simp
  · unfold gout at e
    split at e
    · cases e
    · split at e
      · cases e
      · split at e
        · cases e; simp
        · cases e; simp
  · cases e; simp
theorem n_back {N m : Nat} (h : m + 1 ≤ N) : N - m = N - (m + 1) + 1 := (Nat.succ_pred_eq_of_pos (Nat.sub_pos_of_lt h)).symm
theorem ph_notSeq {h₁ h : Heap} {Lg ax I : Addr} {p : Ph} (hne : p ≠ .start) (hp : PhAt h₁ Lg ax I h p) : NotSeq h Lg := by
  cases p with
  | start => exact absurd rfl hne
  | mid i y => obtain ⟨_, _, m, t, hm, _⟩ := hp; exact ns_notSeq hm
  | ever y => obtain ⟨m, t, hm, _⟩ := hp; exact ns_notSeq hm
theorem gen_loop {i k : Nat} {pn : Pos} {b : List Stmt} {Ga : Addr} {gi : Nat} {l : List Env} {bodyE : Rho → St → Option (Fl × Rho × St)} {fl : Fl} {R : Result → Shared → Prop} (ok : FCOk C) (st : Sto C i) (V₁ : GInv A prog w C h₀ h₁ mg mb env Lg ax Ga gi l s₁ ad₁ k) (hLf : Lg ∉ C.fs) (hLc : ∀ j, j < C.nv → C.env.cells.lookup (C.nm j) ≠ some Lg)
    (hGn : ∀ h : Heap, (∀ o, h₁.get? Ga = some o → h.get? Ga = some o) → NotSeq h Ga) (hGc : ∀ j, j < C.nv → C.env.cells.lookup (C.nm j) ≠ some Ga)
    (hB : ∀ ρ σ fl ρ' σ', bodyE ρ σ = some (fl, ρ', σ') → BvT prog w h₀ A C b ρ σ fl ρ' σ')
    (kq : ∀ f s' ad', SNx C s₁ s' ad₁ ad' → At h₀ C s'.heap ad' σ' ρ' → RelF s'.heap ad' f fl → R (.ok f) s') :
    ∀ (m : Nat) (s : Shared) (ad : List Addr) (ρ : Rho) (σ : St) (I : Addr) (gs : GenState), loopG bodyE i k row m (phAt row (N - m)) ρ σ = some (fl, ρ', σ') → m ≤ N → GNow A prog w C h₀ h₁ Lg ax Ga gi l s₁ ad₁ row N m I gs ad σ ρ s →
      codeAny (model prog w) A (.forLoop (.Name (C.nm i) pn) (.ref Ga) b [] C.env) R s := by
  have kq2 : ∀ {f f0 ρ0 σ0 s' ad'}, some (f0, ρ0, σ0) = some (fl, ρ', σ') → SNx C s₁ s' ad₁ ad' → At h₀ C s'.heap ad' σ0 ρ0 → RelF s'.heap ad' f f0 → R (.ok f) s' := fun e x a r => by
    cases e; exact kq _ _ _ x a r
  clear kq
  intro m s ad ρ σ I gs hl hm V
  suffices H : ∀ Inv : Nat → Shared → Prop, (∀ m s, Inv m s ↔ ∃ ad ρ σ I gs, loopG bodyE i k row m (phAt row (N - m)) ρ σ = some (fl, ρ', σ') ∧ m ≤ N ∧ GNow A prog w C h₀ h₁ Lg ax Ga gi l s₁ ad₁ row N m I gs ad σ ρ s) → Inv m s →
      codeAny (model prog w) A (.forLoop (.Name (C.nm i) pn) (.ref Ga) b [] C.env) R s from H _ (fun _ _ => Iff.rfl) ⟨ad, ρ, σ, I, gs, hl, hm, V⟩
  clear hl hm V
  intro Inv hI h0
  refine codeAny_forLoop Inv ?_ m h0
  clear h0
  intro m s h0
  obtain ⟨ad, ρ, σ, I, gs, hl, hm, V⟩ := (hI _ _).mp h0
  clear h0
  cases m with
  | zero => exact (no hl).elim
  | succ m =>
    obtain ⟨x, hx, h2⟩ := bnd hl
    obtain ⟨row', hr, h3⟩ := bnd h2
    obtain ⟨he, h4⟩ := ift h3
    clear hl h2 h3
    subst he
    refine gen_turn V₁ hm V hx hr (fun y t I' s₂ gs' hn V2 => ?_) (fun hn s₂ x₂ a₂ => ?_) fun hn => ?_
    · rw [hn] at h4
      obtain ⟨⟨f, ρ₃, σ₃⟩, hb, hl⟩ := bnd h4
      clear h4
      refine wpAny_assign_Name (st_var ok V2.a st (v := .int y) ⟨t, rfl⟩ fun s₃ x₃ a₃ => ?_)
      refine wpAny_mono (hB _ _ _ _ _ hb s₃ ad _ a₃ fun fl' s₄ ad₄ x₄ a₄ hf => ?_) (fun _ _ z => z) fun _ _ z => z.elim
      have xx := x₃.trans x₄
      have yy := V2.x.trans xx
      cases f with
      | bk => cases hf; exact kq2 hl yy a₄ rfl
      | rt v => obtain ⟨u, rfl, r⟩ := hf; exact kq2 hl yy a₄ ⟨u, rfl, r⟩
      | nx =>
        cases hf
        have hne : phAt row' (N - m) ≠ .start := by rw [n_back hm]; exact phAt_ne _ ⟨y, _, hn⟩
        have kG : ∀ o, h₁.get? Ga = some o → s₄.heap.get? Ga = some o := fun o e => xx.keep Ga o (V2.a.led.notMem (hGn _ V2.gobj)) V₁.gaf hGc (V2.gobj o e)
        have kL : ∀ o, s₂.heap.get? Lg = some o → s₄.heap.get? Lg = some o := fun o e => xx.keep Lg o (V2.a.led.notMem (ph_notSeq hne V2.ph)) hLf hLc e
        have kI : ∀ o, s₂.heap.get? I' = some o → (∃ vs, o.data = .fields vs) → s₄.heap.get? I' = some o := fun o e ⟨vs, hd⟩ => by
          refine xx.keep I' o (V2.a.led.notMem fun o' xs n e' hd' => by rw [e] at e'; cases e'; rw [hd] at hd'; cases hd') (fun q => ?_) (fun j hj q => ?_) e
          · obtain ⟨m', o', _, _, ho', hd', _⟩ := V2.a.act.isNs I' q
            rw [e] at ho'; cases ho'
            rw [hd] at hd'; cases hd'
          · obtain ⟨_, z, ⟨o', ho', hd'⟩, _⟩ := V2.a.act.cel j I' hj q
            rw [e] at ho'; cases ho'
            rw [hd] at hd'; cases hd'
        exact ⟨m, Nat.lt_succ_self _, (hI _ _).mpr ⟨ad₄, ρ₃, σ₃, I', gs', hl, Nat.le_of_succ_le hm, ⟨yy, a₄, xx.gx.1 gi gs' V2.hgs, V2.bare, kG, V2.ph.keep hne kL fun o _ e z => kI o e z, V2.go⟩⟩⟩
    · rw [hn] at h4
      exact wpAny_execs_nil (kq2 h4 x₂ a₂ rfl)
    · rw [hn] at h4; exact (no h4).elim
end
end Mine
end

section
set_option maxRecDepth 100000
set_option autoImplicit false
namespace Mine
open PySem PySem.W PyProof.Rows
section
variable {prog : Program} {w : World} {A : Around} {C : FC} {h₀ : Heap} {mg mb : Str → Option Value} {row : List Int} {σ σ' : St} {ρ ρ' : Rho}
theorem isSub_VE : isSubtype (.type "ValueError") (.type "ValueError") = pure true := by rw [isSubtype_type]; kernel_rfl
theorem meta_VE : isSubtype (.type ((Manifest.find? "ValueError").elim "type" fun x => x.metatype)) (.type "tuple") = pure false := by rw [isSubtype_type]; kernel_rfl
theorem gen_raise {h₁ : Heap} {env : Env} {Lg ax : Addr} {s₁ s : Shared} {ad₁ ad : List Addr} {I : Addr} {Ga : Addr} {gi k i : Nat} {pn : Pos} {b : List Stmt} {l : List Env} {gs : GenState} {x : List V} {R : Result → Shared → Prop} (V₁ : GInv A prog w C h₀ h₁ mg mb env Lg ax Ga gi l s₁ ad₁ k) (V : GNow A prog w C h₀ h₁ Lg ax Ga gi l s₁ ad₁ row 1000 1000 I gs ad σ ρ s)
    (hx : σ[k]? = some x) (hr : intsOf x = some row) (hn : gnext row .start = .raise)
    (hX : ∀ s' e a0, Heap.FlyingW (hideAll h₁ C.fs) (C.env :: l) e (.type "ValueError") a0 s'.heap → (∀ l, l ∈ C.fs → ∀ m, h₁.Ns l m → s'.heap.Ns l m) → GX s₁.gens s'.gens → s'.drawn = s₁.drawn → s'.os = s₁.os → notedBy (model prog w) A C.env (fun e s' => R (.error e) s') (.ref e) s') :
    codeAny (model prog w) A (.forLoop (.Name (C.nm i) pn) (.ref Ga) b [] C.env) R s := by
  refine codeAny_forLoop (fun _ s' => s' = s) ?_ 0 rfl
  intro _ _ e
  subst e
  have hn' : gnext row (phAt row (1000 - (999 + 1))) = .raise := hn
  exact gen_turn (q := 999) V₁ (Nat.le_refl _) V hx hr (fun y t I' s' gs' h => by rw [hn'] at h; cases h) (fun h => by rw [hn'] at h; cases h) fun _ => hX
set_option maxHeartbeats 1000000 in
theorem sv_tryG {i k n : Nat} {e : Expr} {b hrest : List Stmt} {b₀ : Stmt} {pf pc pn pfor pe ph p : Pos} {x : List V} {σ₁ : St} {bodyE : Rho → St → Option (Fl × Rho × St)} {fl : Fl} (W : Wld h₀ mg mb) (aok : AOk n A) (ok : FCOk C) (afs : AFs A C) (st : Sto C i)
    (kg : C.env.kindOf giName = some .globalImplicit) (kv : C.env.kindOf (Str.ofString "ValueError") = some .globalImplicit) (he : EvT prog w h₀ A C e ρ σ (.lst k) σ₁) (hs : starEach [e] C.env = [(false, eval e C.env)]) (hx : σ₁[k]? = some x) (hr : intsOf x = some row)
    (hB : ∀ ρ σ fl ρ' σ', bodyE ρ σ = some (fl, ρ', σ') → BvT prog w h₀ A C b ρ σ fl ρ' σ')
    (hcase : (gnext row .start = .raise ∧ ∀ v, BvT prog w h₀ (A.mark v) C (b₀ :: hrest) ρ σ₁ fl ρ' σ') ∨ (gnext row .start ≠ .raise ∧ loopG bodyE i k row 1000 .start ρ σ₁ = some (fl, ρ', σ'))) :
    SvT prog w h₀ A C (.Try [.For (.Name (C.nm i) pn) (.Call (.Name giName pf) [e] [] pc) b [] pfor] [.ExceptHandler (some (.Name (Str.ofString "ValueError") pe)) none (b₀ :: hrest) ph] [] [] p) ρ σ fl ρ' σ' := by
  intro s ad Q a kq
  obtain ⟨ga, o, fd, ega, ho, hd, hcd, hbody, hsc, hg, hbu, hcl, hbind⟩ := W.gen.made
  refine wpAny_Try_except (wpAny_execs_cons (wpAny_For ?_ (fun _ => rfl)))
  refine wpAny_Call_NameR (ld_glob W a.base ok kg (by decide) ega ?_)
  rw [hs]
  show wpAny _ A (callWith pc (.ref ga) [] [(false, eval e C.env)] []) _ _ s
  refine Calls.callWith_function (o := o) (fd := fd) (Calls.evalArgs_plain (Calls.spliced_cons (wpAny_mono (he s ad _ a fun u s₁ ad₁ x₁ l₁ r₁ => ?_) (fun _ _ z => z) fun _ _ z => z.elim)))
  have a₁ := a.mono x₁.ext l₁
  obtain ⟨ax, vs, rfl, hax, pl, hrel⟩ := Led.list (l := l₁) hx r₁
  have hz := a₁.base.keep ga o ho
  refine Calls.spliced_nil ⟨⟨hz, hd⟩, wpAny_call (codeAny_call_generator aok.room hz hd (by rw [hsc]; rfl) (by rw [hsc]; rfl) hbody (hcd.keeps a₁.base.keep) ?_)⟩
  show wpAny _ A.in1 (bindArgs fd ⟨[.ref ax], []⟩) _ _ s₁
  rw [hbind]
  refine wpAny_pure ?_
  rw [hcl]
  refine wpAny_newFunctionEnv_cells (by rw [hsc]; rfl) (fun y hy => .inl (by rw [List.mem_singleton.mp hy, hsc]; rfl)) fun genv hge s₂ X => ?_
  subst hge
  have X1 := X.toInCall
  obtain ⟨h₂, tk₂, rfl⟩ := X1.same
  have keep2 : ∀ b o, s₁.heap.get? b = some o → h₂.get? b = some o := X1.keep
  refine ⟨(W.nolimit.keeps a₁.base.keep).keeps keep2, ?_⟩
  dsimp only
  have Gn := g_env (fd := fd) (L := s₁.heap.objs.size) (a := ga) hsc hg hbu
  have hns : h₂.Ns s₁.heap.objs.size _ := X1.ns
  have hLlt : s₁.heap.objs.size < h₂.objs.size := hns.lt
  have hLG : s₁.heap.objs.size ≠ h₂.objs.size := Nat.ne_of_lt hLlt
  obtain ⟨lenv, hfr, hff, hge⟩ := afs
  generalize hgo : ({ cls := .type "generator", data := .fields #[.int s₁.gens.size 0, .str fd.name tk₂, .str fd.qualname (tk₂ + 1)] } : Obj) = gobj
  generalize hH : h₂.push gobj = H
  have up : ∀ b o, h₂.get? b = some o → H.get? b = some o := fun b o e => by rw [← hH]; exact Heap.get?_push_of_some _ e
  have hG : H.get? h₂.objs.size = some gobj := by rw [← hH, ← hgo]; exact Heap.get?_push_size _ rfl
  have sL : ∀ b o, s₁.heap.get? b = some o → b ≠ s₁.heap.objs.size := fun b o e => Nat.ne_of_lt (Heap.lt_size e)
  have toH : ∀ b o, s₁.heap.get? b = some o → H.get? b = some o := fun b o e => up b o (keep2 b o e)
  have to1 : ∀ b o, s₁.heap.get? b = some o → (hideAll H [s₁.heap.objs.size]).get? b = some o := fun b o e => hideAll_get _ (toH b o e) fun q => sL b o e (List.mem_singleton.mp q)
  have hG1 : (hideAll H [s₁.heap.objs.size]).get? h₂.objs.size = some gobj := hideAll_get _ hG fun q => hLG (List.mem_singleton.mp q).symm
  have hGs : s₁.heap.get? h₂.objs.size = none := Heap.get?_none_of_le (Nat.le_of_lt hLlt)
  have fsl : ∀ l, l ∈ C.fs → ∃ m, s₁.heap.Ns l m := a₁.act.isNs
  have fs1 : ∀ l, l ∈ C.fs → ∃ o, (hideAll H [s₁.heap.objs.size]).get? l = some o := fun l hl => let ⟨m, o, _, _, ho, _⟩ := fsl l hl; ⟨o, to1 l o ho⟩
  have gaf : h₂.objs.size ∉ C.fs := fun q => by obtain ⟨m, o, _, _, ho, _⟩ := fsl _ q; rw [hGs] at ho; cases ho
  have laf : s₁.heap.objs.size ∉ C.fs := fun q => by obtain ⟨m, o, _, _, ho, _⟩ := fsl _ q; exact sL _ o ho rfl
  have notC : ∀ W, s₁.heap.get? W = none → ∀ j, j < C.nv → C.env.cells.lookup (C.nm j) ≠ some W := fun W hW j hj q => by
    obtain ⟨_, z, ⟨o', ho', _⟩, _⟩ := a₁.act.cel j W hj q
    rw [hW] at ho'; cases ho'
  have gc : GC A.in1 h₀ (hideAll H [s₁.heap.objs.size]) mg mb (callEnvC fd s₁.heap.objs.size ga) s₁.heap.objs.size ax C.fs (C.env :: lenv) := {
    G := Gn
    g := W.g
    b := W.b
    hc := W.cmx
    hv := W.vex
    lt := fun b o e => to1 b o (a₁.base.keep b o e)
    hLg := hideAll_none _ (.head _)
    fs := fun l hl => let ⟨m, e⟩ := fsl l hl; ⟨m, e.at' fun o e' => to1 l o e'⟩
    out := fun v hv => by
      rcases List.mem_cons.mp hv with rfl | hv
      · exact ⟨by rw [ok.kind]; decide, _, .head _, hff⟩
      · obtain ⟨k, z, hz, hf⟩ := hge v hv
        exact ⟨k, z, .tail _ hz, hf⟩
    hh := aok.handled
    fr := hfr }
  have gi : GInv A prog w C h₀ (hideAll H [s₁.heap.objs.size]) mg mb (callEnvC fd s₁.heap.objs.size ga) s₁.heap.objs.size ax h₂.objs.size s₁.gens.size lenv s₁ ad₁ k := {
    c := gc
    live := fun b o e => ⟨o, to1 b o e⟩
    gfree := Nat.le_refl _
    hax := hax
    obj := ⟨gobj, _, _, hG1, by rw [← hgo], by rw [← hgo], by rw [← hgo]⟩
    gaf := gaf
    handled := aok.handled
    room := aok.room
    nolim := W.nolimit
    fs1 := fs1
    cs1 := fun j c hj hc => let ⟨_, z, ⟨o', ho', _⟩, _⟩ := a₁.act.cel j c hj hc; ⟨o', to1 c o' ho'⟩ }
  have gxp : ∀ c : Code, GX s₁.gens (s₁.gens.push (.fresh c)) := fun c => by
    refine ⟨fun i x e => ?_, fun hb y hy => ?_⟩
    · obtain ⟨hi, hx⟩ := Array.getElem?_eq_some_iff.mp e
      rw [Array.getElem?_push_lt hi, hx]
    · rcases Array.mem_push.mp hy with q | q
      · exact hb y q
      · rw [q]; rfl
  have X0 : Ext C.fs s₁.heap H ad₁ ad₁ := .of toH
  have gnow : GNow A prog w C h₀ (hideAll H [s₁.heap.objs.size]) s₁.heap.objs.size ax h₂.objs.size s₁.gens.size lenv s₁ ad₁ row 1000 1000 0 (.fresh (.func (defBody gIdx) (callEnvC fd s₁.heap.objs.size ga))) ad₁ σ₁ ρ
      { s₁ with gens := s₁.gens.push (.fresh (.func (defBody gIdx) (callEnvC fd s₁.heap.objs.size ga))), toks := tk₂ + 1 + 1, heap := H } := {
    x := .of ⟨X0, gxp _, rfl, rfl⟩
    a := a₁.mono X0 (l₁.keeps toH)
    hgs := by simp
    bare := rfl
    gobj := fun o e => of_hideAll _ e
    ph := by
      show PhAt _ _ _ _ _ (phAt row 0)
      refine ⟨⟨_, hns.keeps up, ?_⟩, fun b o e => of_hideAll _ e⟩
      show bindL _ [(nG 0, Value.ref ax)] _ (nG 0) = _
      unfold bindL
      split
      · simp [bindL]
      · rename_i h; exact absurd Gn.k0 h
    go := fun _ s' rdy => by
      refine ⟨rfl, ?_⟩
      rw [gShape]
      exact g_start gc (by decide) rdy }
  have hIG : ({ s₁ with gens := s₁.gens.push (.fresh (.func (defBody gIdx) (callEnvC fd s₁.heap.objs.size ga))), toks := tk₂ + 1 + 1, heap := H } : Shared).heap.IsGen h₂.objs.size s₁.gens.size := ⟨gobj, _, _, hG, by rw [← hgo], by rw [← hgo], by rw [← hgo]⟩
  refine wpAny_pyIter_gen hIG ?_
  rcases hcase with ⟨hraise, hH'⟩ | ⟨_, hloop⟩
  · refine gen_raise gi gnow hx hr hraise fun s' ev a0 FW nsk gx dr os => ?_
    refine wpAny_looks_onW hfr hff FW fun h3 H3 up3 => ?_
    show wpAny _ A (ownDo (.ref ev) C.env.frame) _ _ _
    rw [hff]
    refine own_held H3 fun h4 H4 up4 => ?_
    refine wpAny_noteFrame_againW hff H4.2.2.2 ?_
    refine wpAny_landsW H4 fun h5 H5 up5 => ?_
    have old : ∀ {h6 : Heap}, (hideAll (hideAll H [s₁.heap.objs.size]) C.fs).StaysIn h6 → ∀ b o, s₁.heap.get? b = some o → b ∉ C.fs → h6.get? b = some o := fun k1 b o e hb => k1 b o (hideAll_get _ (to1 b o e) hb)
    have base5 : Base h₀ h5 ad₁ := ⟨fun b o e => old H5.1 b o (a₁.base.keep b o e) (fun q => by rw [a₁.l0 b q] at e; cases e), a₁.base.off⟩
    refine wpAny_handleBy_builtin (X := "ValueError") (T := "ValueError") (b := true) F.excRaise_ValueError.isExc meta_VE isSub_VE (ld_boot (s := { s' with heap := h5 }) W base5 ok kv (by decide) W.vex.1 W.vex.2 ⟨rfl, H5.there, ?_⟩)
    rw [if_pos rfl]
    refine wpAny_setFlight_noneW (s := { s' with heap := h5 }) H5.1 H5.2.2.1 H5.2.2.2.at fun h6 k1 k2 k3 k4 => ?_
    have ns6 : ∀ l, l ∈ C.fs → ∀ m, s₁.heap.Ns l m → h6.Ns l m := fun l hl m e => by
      have e5 := up5.ns (up4.ns (up3.ns (nsk l hl m (e.at' fun o e' => to1 l o e'))))
      exact e5.at' fun o e' => by
        obtain ⟨o2, es, ep, e2, hd2, _⟩ := e5
        rw [show h5.get? l = some o from e'] at e2; cases e2
        exact k4 l o e' fun vs q => by rw [hd2] at q; cases q
    have X6 : Ext C.fs s₁.heap h6 ad₁ ad₁ := ⟨fun b o _ hb e => old k1 b o e hb, ns6, ⟨[], by simp⟩, fun z h1 h2 => absurd h1 h2, fun b o e => by
      by_cases hb : b ∈ C.fs
      · obtain ⟨m, hm⟩ := fsl b hb
        obtain ⟨o', _, _, ho', _⟩ := ns6 b hb m hm
        exact ⟨o', ho'⟩
      · exact ⟨o, old k1 b o e hb⟩⟩
    have L6 : Led h6 ad₁ σ₁ := l₁.side fun b o e ⟨xs, n, hd⟩ => old k1 b o e (a₁.act.isNs.ne_seq e hd)
    have N6 : Nx C.fs s₁ { s' with heap := h6 } ad₁ ad₁ := ⟨X6, gx, dr, os⟩
    refine wpAny_mono (hH' (some (.ref ev)) { s' with heap := h6 } ad₁ _ (a₁.mono X6 L6) fun f s7 ad7 x7 a7 rf => ?_) (fun _ _ z => z) fun _ _ z => z.elim
    exact kq f s7 ad7 (((SNx.of x₁).trans (SNx.of N6)).trans x7) a7 rf
  · have e0 : phAt row (1000 - 1000) = .start := by rw [Nat.sub_self]; rfl
    have hloop' : loopG bodyE i k row 1000 (phAt row (1000 - 1000)) ρ σ₁ = some (fl, ρ', σ') := by rw [e0]; exact hloop
    refine gen_loop (l := lenv) ok st gi laf (notC _ (Heap.get?_none_of_le (Nat.le_refl _))) (fun h kG o' xs n e hd' => ?_) (notC _ hGs) hB (fun f s' ad' x' a' rf => ?_) 1000 _ _ ρ σ₁ 0 _ hloop' (Nat.le_refl _) gnow
    · have := kG gobj hG1
      rw [this] at e; cases e
      rw [← hgo] at hd'; cases hd'
    · have xx := (SNx.of x₁).trans x'
      cases fl with
      | nx => cases rf; exact wpAny_execs_nil (wpAny_execs_nil (kq _ _ _ xx a' rfl))
      | bk => cases rf; exact kq _ _ _ xx a' rfl
      | rt v => obtain ⟨u, rfl, r⟩ := rf; exact kq _ _ _ xx a' ⟨u, rfl, r⟩
end
end Mine
end

section
set_option maxRecDepth 100000
set_option autoImplicit false
namespace Mine
open PySem PySem.W PyProof.Rows
/-! what is looked at ahead: the kinds of the names -/
noncomputable def relN (N names : List (Str × NameKind)) : List (Str × NameKind) := names.map fun (n, k) => if (k == .free && N.lookup n == some .cell) then (n, .cell) else (n, k)
noncomputable def isV : X → Bool
  | .v _ _ => true
  | _ => false
noncomputable def isCons : X → Bool
  | .cons _ _ => true
  | _ => false
noncomputable def isComp : X → Bool
  | .comp .. => true
  | .compIf .. => true
  | _ => false
noncomputable def scB (N : List (Str × NameKind)) (nm : Nat → Str) (nv : Nat) (sc : Scope) (t : Nat) (fv : List Nat) : Bool :=
  decide (sc.kind = .function) && sc.names.all (fun y => y.2 != .cell) && sc.names.all (fun y => y.2 != .local || sc.names.lookup y.1 == some .local) && (sc.names.lookup (nm t) == some .local) && decide (t < nv) &&
    sc.names.all (fun y => y.2 != .free || N.lookup y.1 == some .cell) && fv.all fun i => sc.names.lookup (nm i) == some .free
noncomputable def okX (nm : Nat → Str) (nv : Nat) : List (Str × NameKind) → X → Bool
  | N, .g i _ => N.lookup (gName i) == some .globalImplicit
  | N, .bin a _ b _ => okX nm nv N a && okX nm nv N b
  | N, .neg a _ => okX nm nv N a
  | N, .cmp a _ b _ => okX nm nv N a && okX nm nv N b
  | N, .or a b _ => okX nm nv N a && okX nm nv N b
  | N, .ife t a b _ => okX nm nv N t && okX nm nv N a && okX nm nv N b
  | N, .call f as _ _ => (N.lookup (fName f) == some .globalImplicit) && okX nm nv N as && isCons as
  | N, .bi f as _ _ => (N.lookup (biName f) == some .globalImplicit) && okX nm nv N as && isCons as
  | N, .cnt a s pa p => isV a && okX nm nv N a && okX nm nv N s && (pa.endLine == p.line)
  | N, .idx a i _ => okX nm nv N a && okX nm nv N i
  | N, .slU a i _ _ => okX nm nv N a && okX nm nv N i
  | N, .slL a i _ _ => okX nm nv N a && okX nm nv N i
  | N, .slB a i j _ _ => okX nm nv N a && okX nm nv N i && okX nm nv N j
  | N, .tup es _ => okX nm nv N es
  | N, .lst es _ => okX nm nv N es
  | N, .comp elt t _ it fv sc _ => okX nm nv N it && scB N nm nv sc t fv && okX nm nv (relN N sc.names) elt
  | N, .compIf elt t _ it c fv sc _ => okX nm nv N it && scB N nm nv sc t fv && okX nm nv (relN N sc.names) elt && okX nm nv (relN N sc.names) c
  | N, .cons e r => okX nm nv N e && okX nm nv N r
  | _, .k _ _ => true
  | _, .v _ _ => true
  | _, .nil => true
noncomputable def isB : S → Bool
  | .nil => true
  | .cons _ _ => true
  | .near .. => true
  | _ => false
noncomputable def sto (N : List (Str × NameKind)) (nm : Nat → Str) (nv i : Nat) : Bool := decide (i < nv) && (N.lookup (nm i) == some .local || N.lookup (nm i) == some .cell)
noncomputable def swB (N : List (Str × NameKind)) (x : Str) (pn : Pos) (sc : Scope) (pos : Pos) : Bool := (N.lookup x == some .local) && (pn.line == pos.line) && !(sc.names.any fun (n, k) => n == x && (k == .local || k == .cell))
noncomputable def swX (N : List (Str × NameKind)) (x : Str) (pn : Pos) : X → Bool
  | .comp _ _ _ _ _ sc pos => swB N x pn sc pos
  | .compIf _ _ _ _ _ _ sc pos => swB N x pn sc pos
  | _ => true
noncomputable def okS (N : List (Str × NameKind)) (nm : Nat → Str) (nv : Nat) : S → Bool
  | .cons s r => okS N nm nv s && okS N nm nv r && !isB s && isB r
  | .asg i e pn _ => sto N nm nv i && okX nm nv N e && swX N (nm i) pn e
  | .aug i _ e _ _ => sto N nm nv i && okX nm nv N e
  | .ite t b o _ => okX nm nv N t && okS N nm nv b && okS N nm nv o && isB b && isB o
  | .forL i it b _ _ _ _ => sto N nm nv i && okX nm nv N it && okS N nm nv b && isB b
  | .forR i as b _ _ _ _ _ => sto N nm nv i && okX nm nv N as && isCons as && okS N nm nv b && isB b && (N.lookup (Str.ofString "range") == some .globalImplicit)
  | .whl _ t b _ => okX nm nv N t && okS N nm nv b && isB b
  | .ret e _ => okX nm nv N e
  | .app _ e _ pa pc _ => okX nm nv N e && (pa.endLine == pc.line)
  | .ext _ e _ pa pc _ => okX nm nv N e && (pa.endLine == pc.line)
  | .near ih ib _ ia _ _ fv sc ps r => sto N nm nv ia && sto N nm nv ib && scB N nm nv sc ih fv && fv.contains ib && (ib != ih) && (ia != ib) && (N.lookup (Str.ofString "min") == some .globalImplicit) && swB N (nm ia) (ps 0) sc (ps 12) && okS N nm nv r && isB r
  | .tryG i e b _ _ _ _ _ _ _ _ _ _ _ => sto N nm nv i && okX nm nv N e && okS N nm nv b && isB b && (N.lookup giName == some .globalImplicit) && (N.lookup (Str.ofString "ValueError") == some .globalImplicit)
  | .nil => true
  | .brk _ => true
  | .dead _ => true
noncomputable def fnB (f : Nat) (d : Fn) : Bool :=
  decide (d.args ≤ d.vars) && ((List.range d.vars).all fun i => (List.range d.vars).all fun j => i == j || NM f i != NM f j) && ((List.range d.vars).all fun i => !(NM f i == Str.ofString "__debug__") && !(NM f i == Str.ofString "__classdict__")) &&
    ((List.range d.args).all fun i => (SC f).names.lookup (NM f i) == some .local || (SC f).names.lookup (NM f i) == some .cell) && ((SC f).names.all fun y => y.2 != .free) && okS (SC f).names (NM f) d.vars d.body && isB d.body
theorem fns_ok : ((List.range 10).all fun f => match FT f with | some d => fnB f d | none => false) = true := by decide +kernel
end Mine
end

section
set_option maxRecDepth 100000
set_option autoImplicit false
namespace Mine
open PySem PySem.W PyProof.Rows
theorem all_lt {p : Nat → Bool} {n : Nat} (h : ((List.range n).all p) = true) {i : Nat} (hi : i < n) : p i = true := List.all_eq_true.mp h i (List.mem_range.mpr hi)
theorem FT_lt {f : Nat} {d : Fn} (h : FT f = some d) : f < 10 := by
  rcases Nat.lt_or_ge f 10 with q | q
  · exact q
  · obtain ⟨k, rfl⟩ := Nat.exists_eq_add_of_le q
    rw [Nat.add_comm] at h
    cases h
theorem fn_b {f : Nat} {d : Fn} (h : FT f = some d) : fnB f d = true := by
  have := all_lt fns_ok (FT_lt h)
  rw [h] at this
  exact this
theorem fnB_ok {f : Nat} {d : Fn} (h : fnB f d = true) : FnOk f d (SC f).names ∧ okS (SC f).names (NM f) d.vars d.body = true ∧ isB d.body = true := by
  unfold fnB at h
  simp only [Bool.and_eq_true] at h
  obtain ⟨⟨⟨⟨⟨⟨h1, h2⟩, h3⟩, h4⟩, h5⟩, h6⟩, h7⟩ := h
  refine ⟨⟨of_decide_eq_true h1, fun i j hi hj e => ?_, fun i hi => ?_, fun i hi => ?_, fun i hi => ?_, fun x e => ?_⟩, h6, h7⟩
  · have := all_lt (all_lt h2 hi) hj
    simpa [e] using this
  · have := all_lt h3 hi
    simp only [Bool.and_eq_true, Bool.not_eq_true'] at this
    exact this.1
  · have := all_lt h3 hi
    simp only [Bool.and_eq_true, Bool.not_eq_true'] at this
    exact this.2
  · have := all_lt h4 hi
    simpa using this
  · have := List.all_eq_true.mp h5 _ (mem_of_lookup e)
    simp at this
theorem fName_dbg (f : Nat) : (fName f == Str.ofString "__debug__") = false := by
  match f with
  | 0 | 1 | 2 | 3 | 4 | 5 | 6 | 7 | 8 => decide
  | n + 9 => show (Str.ofString "law" == _) = false; decide
theorem lookup_relN (N : List (Str × NameKind)) (x : Str) : ∀ names : List (Str × NameKind), (relN N names).lookup x = (names.lookup x).map fun k => if (k == .free && N.lookup x == some .cell) = true then .cell else k
  | [] => rfl
  | (y, k) :: r => by
    have ih := lookup_relN N x r
    unfold relN at ih ⊢
    rw [List.map_cons, List.lookup_cons]
    have e : (if (k == .free && N.lookup y == some .cell) = true then (y, NameKind.cell) else (y, k)) = (y, if (k == .free && N.lookup y == some .cell) = true then .cell else k) := by split <;> rfl
    rw [e, List.lookup_cons]
    by_cases h : x == y
    · have := eq_of_beq h
      subst this
      simp
    · have h : (x == y) = false := by simpa using h
      simp only [h]
      exact ih
theorem sc_ok {C : FC} {N : List (Str × NameKind)} {sc : Scope} {t : Nat} {fv : List Nat} (hN : ∀ y, C.env.kindOf y = N.lookup y) (h : scB N C.nm C.nv sc t fv = true) : ScOk C sc t fv := by
  unfold scB at h
  simp only [Bool.and_eq_true, List.all_eq_true] at h
  obtain ⟨⟨⟨⟨⟨⟨h1, h2⟩, h3⟩, h4⟩, h5⟩, h6⟩, h7⟩ := h
  refine ⟨of_decide_eq_true h1, fun y hy => ?_, fun y hy e => ?_, by simpa using h4, of_decide_eq_true h5, fun y hy e => ?_, fun i hi => by simpa using h7 i hi⟩
  · simpa using h2 y hy
  · have := h3 y hy
    rw [e] at this
    simpa using this
  · have := h6 y hy
    rw [e] at this
    rw [hN]
    simpa using this
theorem comp_names {C : FC} {N : List (Str × NameKind)} {sc : Scope} {cl : List (Str × Addr)} {Cc : Addr} (ok : FCOk C) (hN : ∀ y, C.env.kindOf y = N.lookup y) (y : Str) : (C.comp sc cl Cc).env.kindOf y = (relN N sc.names).lookup y := by
  rw [comp_kind ok, lookup_relN, hN]
theorem sw_none {nm : Nat → Str} {x : X} {tg : Option Expr} {line : Nat} {env : Env} (h : isComp x = false) : swapsWith (trE nm x) tg line env = pure false := by
  cases x <;> first | rfl | cases h
theorem sw_yes {N : List (Str × NameKind)} {elt : Expr} {gs : List Comprehension} {sc : Scope} {pos pn : Pos} {x : Str} {line : Nat} {env : Env} (hk : env.scope.kind = .function) (hN : ∀ y, env.kindOf y = N.lookup y) (h : swB N x pn sc pos = true) :
    swapsWith (.ListComp elt gs sc pos) (some (.Name x pn)) line env = pure true := by
  unfold swB at h
  simp only [Bool.and_eq_true] at h
  obtain ⟨⟨h1, h2⟩, h3⟩ := h
  show pure (env.blockKind == .function && env.kindOf x == some .local && pn.line == pos.line && !(sc.names.any fun (n, k) => n == x && (k == .local || k == .cell))) = (pure true : Sem Bool)
  have hb : env.blockKind = .function := by unfold Env.blockKind; rw [hk]; rfl
  rw [hb, hN, h1, h2, h3]
  rfl
theorem tr_fold (nm : Nat → Str) (x : X) (env : Env) (v : Value) : foldedSetIterable (trE nm x) env v = pure v := by cases x <;> rfl
theorem sto_ok {C : FC} {N : List (Str × NameKind)} {i : Nat} (hN : ∀ y, C.env.kindOf y = N.lookup y) (h : sto N C.nm C.nv i = true) : Sto C i := by
  unfold sto at h
  simp only [Bool.and_eq_true, Bool.or_eq_true, beq_iff_eq, decide_eq_true_eq] at h
  exact ⟨h.1, by rw [hN]; exact h.2⟩
theorem trB_cons (nm : Nat → Str) (s r : S) : trB nm (.cons s r) = trS nm s :: trB nm r := rfl
theorem comp_inv {r : Rec} {elt it : X} {t : Nat} {test : Rho → St → Option (Bool × St)} {fv : List Nat} {ρ : Rho} {σ σ' : St} {v : V} (h : compEval r elt t it test fv ρ σ = some (v, σ')) :
    ∃ u σ₁ src m, r.e it ρ σ = some (u, σ₁) ∧ v = .lst σ₁.length ∧ ((∃ k, u = .lst k ∧ (σ₁[k]?).isSome ∧ src = fun σ => σ[k]?) ∨ ∃ l, u = .tup l ∧ src = fun _ => some (l.map ofP)) ∧
      loopC src (r.e elt) test t (compRho ρ fv ρ.length) σ₁.length m 0 (σ₁ ++ [[]]) = some σ' := by
  obtain ⟨⟨u, σ₁⟩, h1, h⟩ := bnd h
  cases u with
  | lst k =>
    obtain ⟨x, hx, h⟩ := bnd h
    obtain ⟨σ₂, h2, h⟩ := bnd (ift h).2
    cases h
    exact ⟨_, σ₁, _, _, h1, rfl, .inl ⟨k, rfl, by rw [hx]; rfl, rfl⟩, h2⟩
  | tup l =>
    obtain ⟨σ₂, h2, h⟩ := bnd (ift h).2
    cases h
    exact ⟨_, σ₁, _, _, h1, rfl, .inr ⟨l, rfl, rfl⟩, h2⟩
  | _ => exact (no h).elim
theorem intV_inv {w : UInt64} {σ : St} {v : V} {σ' : St} (e : intV (.flt w) σ = some (v, σ')) : ∃ sg m ex, Float64.decode w = .fin sg m ex ∧ (V.int (Float64.truncOf sg m ex), σ) = (v, σ') := by
  have h : (match Float64.decode w with
    | .fin s m e => some (V.int (Float64.truncOf s m e), σ)
    | _ => none) = some (v, σ') := e
  generalize Float64.decode w = d at h
  cases d with
  | fin s m e => exact ⟨s, m, e, rfl, som h⟩
  | _ => exact (no h).elim
theorem one_inv {vs : List V} {v : V} (e : one vs = some v) : vs = [v] := by
  cases vs with
  | nil => exact (no e).elim
  | cons u r => cases r with
    | nil => exact congrArg (fun x => [x]) (som e)
    | cons _ _ => exact (no e).elim
theorem three_inv {vs : List V} {t : UInt64 × UInt64 × UInt64} (e : three vs = some t) : vs = [.flt t.1, .flt t.2.1, .flt t.2.2] := by
  cases vs with
  | nil => exact (no e).elim
  | cons a r => cases r with
    | nil => exact (no e).elim
    | cons b q =>
      obtain ⟨x, h1, e⟩ := bnd e
      obtain ⟨y, h2, e⟩ := bnd e
      obtain ⟨u, h3, e⟩ := bnd e
      obtain ⟨z, h4, e⟩ := bnd e
      cases e
      rw [one_inv h3, fltOf_inv h1, fltOf_inv h2, fltOf_inv h4]
section
variable {prog : Program} {w : World} {h₀ : Heap} {A : Around} {C : FC} {ρ ρ' : Rho} {σ σ' : St} {mg mb : Str → Option Value}
/-- a call of a def of the text -/
theorem ev_ucall {f : Nat} {d : Fn} {e : Expr} {es : List Expr} {pf p : Pos} {vs : List V} {v : V} {σ₁ : St} {a : Addr} (W : Wld h₀ mg mb) (ok : FCOk C) (k : C.env.kindOf (fName f) = some .globalImplicit) (F : FnAt h₀ mg f d a)
    (hs : starEach (e :: es) C.env = (false, eval e C.env) :: starEach es C.env)
    (ha : LvT prog w h₀ A C (e :: es) ρ σ vs σ₁)
    (hc : ∀ s ad us Q, At h₀ C s.heap ad σ₁ ρ → RelVs s.heap ad us vs → Wants C.fs s ad σ' v Q → wpAny (model prog w) A (call (.ref a) us) Q (fun _ _ => False) s) :
    EvT prog w h₀ A C (.Call (.Name (fName f) pf) (e :: es) [] p) ρ σ v σ' := by
  intro s ad Q at0 kq
  obtain ⟨o, fd, body, ho, hd, _⟩ := F.made
  refine wpAny_Call_NameR (ld_glob W at0.base ok k (fName_dbg f) F.at_ ?_)
  have hx := ha s ad p (fun us s₁ => s₁.heap.get? a = some o ∧ wpAny (model prog w) A (call (.ref a) us) Q (fun _ _ => False) s₁) at0 fun us s' ad' x l r =>
    ⟨(at0.mono x.ext l).base.keep a o ho, hc s' ad' us Q (at0.mono x.ext l) r fun u s₂ ad₂ x₂ l₂ r₂ => kq u s₂ ad₂ (x.trans x₂) l₂ r₂⟩
  rw [hs] at hx ⊢
  exact Calls.callWith_function (o := o) (fd := fd) (Calls.evalArgs_plain (wpAny_mono hx (fun vs s₁ h₁ => ⟨⟨h₁.1, hd⟩, h₁.2⟩) fun _ _ x => x))
theorem bi_kind (f : Bi) : (∃ id, biVal f = .builtin id) ∨ ∃ T, biVal f = .type T := by cases f <;> first | exact .inl ⟨_, rfl⟩ | exact .inr ⟨_, rfl⟩
theorem rel1 {h : Heap} {ad : List Addr} {us : List Value} {v : V} (r : RelVs h ad us [v]) : ∃ u, us = [u] ∧ RelV h ad u v := by
  cases r with
  | cons h1 h2 => cases h2; exact ⟨_, rfl, h1⟩
theorem rel3 {h : Heap} {ad : List Addr} {us : List Value} {v₁ v₂ v₃ : V} (r : RelVs h ad us [v₁, v₂, v₃]) : ∃ u₁ u₂ u₃, us = [u₁, u₂, u₃] ∧ RelV h ad u₁ v₁ ∧ RelV h ad u₂ v₂ ∧ RelV h ad u₃ v₃ := by
  cases r with
  | cons h1 h2 => cases h2 with
    | cons h2 h3 => cases h3 with
      | cons h3 h4 => cases h4; exact ⟨_, _, _, rfl, h1, h2, h3⟩
theorem bi_ok {f : Bi} {vs : List V} {v : V} {s : Shared} {ad : List Addr} {us : List Value} {Q : Value → Shared → Prop} (hh : A.handled = none) (e : bicall f vs σ = some (v, σ')) (a : At h₀ C s.heap ad σ ρ) (r : RelVs s.heap ad us vs) (k : Wants C.fs s ad σ' v Q) :
    wpAny (model prog w) A (call (biVal f) us) Q (fun _ _ => False) s := by
  have l := a.led
  cases f with
  | len =>
    obtain ⟨x, hx, e2⟩ := bnd e
    obtain rfl := one_inv hx
    obtain ⟨u, rfl, r1⟩ := rel1 r
    cases x with
    | lst i =>
      obtain ⟨x, hx, e2⟩ := bnd e2
      obtain ⟨hn, e2⟩ := ifs e2
      obtain ⟨b, ws, rfl, hb, hl, hr⟩ := Led.list (l := l) hx r1
      have hlen : ws.length = x.length := hr.length
      refine PyProof.Rows.len_list hl.isList (by rw [List.size_toArray, hlen]; omega) ?_
      rw [List.size_toArray, hlen]
      exact (k.of e2).tk l ⟨_, rfl⟩
    | str q =>
      obtain ⟨t, rfl⟩ := r1
      exact PySem.P.len_str (by have := (ifs e2).1; omega) ((k.of (ifs e2).2).tk l ⟨_, rfl⟩)
    | frz q =>
      obtain ⟨hn, e2⟩ := ifs e2
      obtain ⟨b, ws, rfl, hb, hl, hr⟩ := r1
      have hlen := (ints_rel (ad := ad) (h := s.heap) hr).length
      rw [List.length_map] at hlen
      refine PyProof.Rows.len_list hl (by rw [List.size_toArray, hlen]; omega) ?_
      rw [List.size_toArray, hlen]
      exact (k.of e2).tk l ⟨_, rfl⟩
    | _ => exact (no e2).elim
  | sum =>
    obtain ⟨x, hx, e2⟩ := bnd e
    obtain rfl := one_inv hx
    obtain ⟨u, rfl, r1⟩ := rel1 r
    cases x with
    | frz q =>
      obtain ⟨b, ws, rfl, hb, hl, hr⟩ := r1
      exact sum_ok hh l hl hr (k.of (ifs e2).2)
    | _ => exact (no e2).elim
  | sorted =>
    obtain ⟨x, hx, e2⟩ := bnd e
    obtain rfl := one_inv hx
    obtain ⟨u, rfl, r1⟩ := rel1 r
    cases x with
    | lst i =>
      obtain ⟨x, hx, e2⟩ := bnd e2
      obtain ⟨ps, hps, e2⟩ := bnd e2
      obtain ⟨hn, e2⟩ := ift e2
      obtain ⟨ys, hy, e2⟩ := bnd e2
      obtain ⟨b, ws, rfl, hb, hl, hr⟩ := Led.list (l := l) hx r1
      exact sorted_ok (L := C.env.locals) l a.act.isNs (.head _) a.act.nL hl.isList hr hps hn.1 hn.2 hy (k.at e2)
    | _ => exact (no e2).elim
  | max =>
    obtain ⟨t, ht, e2⟩ := bnd e
    obtain rfl := three_inv ht
    obtain ⟨u₁, u₂, u₃, rfl, r1, r2, r3⟩ := rel3 r
    exact max3_ok hh l r1 r2 r3 (k.at e2)
  | min =>
    obtain ⟨t, ht, e2⟩ := bnd e
    obtain rfl := three_inv ht
    obtain ⟨u₁, u₂, u₃, rfl, r1, r2, r3⟩ := rel3 r
    exact min3_ok hh l r1 r2 r3 (k.at e2)
  | int =>
    obtain ⟨x, hx, e2⟩ := bnd e
    obtain rfl := one_inv hx
    obtain ⟨u, rfl, r1⟩ := rel1 r
    cases x with
    | flt q =>
      obtain ⟨t, rfl⟩ := r1
      obtain ⟨sg, m, ex, hd, e3⟩ := intV_inv e2
      exact call_int_float hd ((k.of e3).tk l ⟨_, rfl⟩)
    | _ => exact (no e2).elim
end
end Mine
end

section
set_option maxRecDepth 100000
set_option autoImplicit false
namespace Mine
open PySem PySem.W PyProof.Rows
section
variable (prog : Program) (w : World) (h₀ : Heap) (mg : Str → Option Value)
/-- what an evaluator says is so -/
structure Sound (R : Rec) (n : Nat) : Prop where
  e : ∀ (A : Around) (C : FC) (N : List (Str × NameKind)) (x : X) (ρ : Rho) (σ : St) (v : V) (σ' : St), AOk n A → FCOk C → AFr A C.fs → (∀ y, C.env.kindOf y = N.lookup y) → okX C.nm C.nv N x = true → R.e x ρ σ = some (v, σ') →
    EvT prog w h₀ A C (trE C.nm x) ρ σ v σ'
  l : ∀ (A : Around) (C : FC) (N : List (Str × NameKind)) (x : X) (ρ : Rho) (σ : St) (v : List V) (σ' : St), AOk n A → FCOk C → AFr A C.fs → (∀ y, C.env.kindOf y = N.lookup y) → okX C.nm C.nv N x = true → R.l x ρ σ = some (v, σ') →
    LvT prog w h₀ A C (trL C.nm x) ρ σ v σ'
  t : ∀ (A : Around) (C : FC) (N : List (Str × NameKind)) (x : X) (ρ : Rho) (σ : St) (v : Bool) (σ' : St), AOk n A → FCOk C → AFr A C.fs → (∀ y, C.env.kindOf y = N.lookup y) → okX C.nm C.nv N x = true → R.t x ρ σ = some (v, σ') →
    TvT prog w h₀ A C (trE C.nm x) ρ σ v σ'
  a : ∀ (A : Around) (C : FC) (N : List (Str × NameKind)) (i : Nat) (x : X) (pn p : Pos) (ρ : Rho) (σ : St) (v : V) (σ' : St), AOk n A → FCOk C → AFr A C.fs → (∀ y, C.env.kindOf y = N.lookup y) → okX C.nm C.nv N x = true →
    Sto C i → swX N (C.nm i) pn x = true → R.e x ρ σ = some (v, σ') → SvT prog w h₀ A C (.Assign [.Name (C.nm i) pn] (trE C.nm x) p) ρ σ .nx (put ρ i v) σ'
  s : ∀ (A : Around) (C : FC) (N : List (Str × NameKind)) (x : S) (ρ : Rho) (σ : St) (fl : Fl) (ρ' : Rho) (σ' : St), AOk n A → FCOk C → AFs A C → (∀ y, C.env.kindOf y = N.lookup y) → okS N C.nm C.nv x = true → R.s x ρ σ = some (fl, ρ', σ') →
    (isB x = true → BvT prog w h₀ A C (trB C.nm x) ρ σ fl ρ' σ') ∧ (isB x = false → SvT prog w h₀ A C (trS C.nm x) ρ σ fl ρ' σ')
  h : ∀ (A : Around) (C : FC) (i : Nat) (c : Int) (j : Nat) (ps : Nat → Pos) (ρ : Rho) (σ : St) (fl : Fl) (ρ' : Rho) (σ' : St), A.units + 64 < cLine → FCOk C → R.s (handS i c j ps) ρ σ = some (fl, ρ', σ') → BvT prog w h₀ A C (handT C.nm i c j ps) ρ σ fl ρ' σ'
  nn : ∀ (f : Nat) (vs : List V) (σ : St) (q : V × St), R.c f vs σ = some q → (FT f).isSome
  c : ∀ (A : Around) (f : Nat) (d : Fn) (a : Addr) (vs : List V) (σ : St) (v : V) (σ' : St) (L : List Addr) (s : Shared) (ad : List Addr) (us : List Value) (Q : Value → Shared → Prop), AOk n A → FT f = some d → FnAt h₀ mg f d a → Base h₀ s.heap ad →
    Led s.heap ad σ → IsNs s.heap L → (∀ l, l ∈ L → l ∉ ad) → (∀ l, l ∈ L → h₀.get? l = none) → AFr A L → RelVs s.heap ad us vs → R.c f vs σ = some (v, σ') → Wants L s ad σ' v Q → wpAny (model prog w) A (call (.ref a) us) Q (fun _ _ => False) s
end
section
variable {prog : Program} {w : World} {h₀ : Heap} {mg mb : Str → Option Value} {n : Nat}
theorem ev_e {n : Nat} {x : X} {ρ : Rho} {σ : St} {q : V × St} (h : (ev FT n).e x ρ σ = some q) : ∃ m, n = m + 1 ∧ stepE (ev FT m) x ρ σ = some q := by
  cases n with
  | zero => cases h
  | succ m => exact ⟨m, rfl, h⟩
theorem ev_l {n : Nat} {x : X} {ρ : Rho} {σ : St} {q : List V × St} (h : (ev FT n).l x ρ σ = some q) : ∃ m, n = m + 1 ∧ stepL (ev FT m) x ρ σ = some q := by
  cases n with
  | zero => cases h
  | succ m => exact ⟨m, rfl, h⟩
theorem ev_t {n : Nat} {x : X} {ρ : Rho} {σ : St} {q : Bool × St} (h : (ev FT n).t x ρ σ = some q) : ∃ m, n = m + 1 ∧ stepT (ev FT m) x ρ σ = some q := by
  cases n with
  | zero => cases h
  | succ m => exact ⟨m, rfl, h⟩
theorem ev_s {n : Nat} {x : S} {ρ : Rho} {σ : St} {q : Fl × Rho × St} (h : (ev FT n).s x ρ σ = some q) : ∃ m, n = m + 1 ∧ stepS (ev FT m) x ρ σ = some q := by
  cases n with
  | zero => cases h
  | succ m => exact ⟨m, rfl, h⟩
theorem band {a b : Bool} (h : (a && b) = true) : a = true ∧ b = true := by
  cases a with
  | true => exact ⟨rfl, h⟩
  | false => cases h
theorem band3 {a b c : Bool} (h : (a && b && c) = true) : (a = true ∧ b = true) ∧ c = true := ⟨band (band h).1, (band h).2⟩
theorem band4 {a b c d : Bool} (h : (a && b && c && d) = true) : ((a = true ∧ b = true) ∧ c = true) ∧ d = true := ⟨band3 (band h).1, (band h).2⟩
theorem EvT.to {A : Around} {C : FC} {e : Expr} {ρ : Rho} {σ σ0 σ' : St} {v0 v : V} (k : EvT prog w h₀ A C e ρ σ v0 σ0) (h : some (v0, σ0) = some (v, σ')) : EvT prog w h₀ A C e ρ σ v σ' := by cases h; exact k
theorem TvT.to {A : Around} {C : FC} {e : Expr} {ρ : Rho} {σ σ0 σ' : St} {v0 v : Bool} (k : TvT prog w h₀ A C e ρ σ v0 σ0) (h : some (v0, σ0) = some (v, σ')) : TvT prog w h₀ A C e ρ σ v σ' := by cases h; exact k
theorem LvT.to {A : Around} {C : FC} {e : List Expr} {ρ : Rho} {σ σ0 σ' : St} {v0 v : List V} (k : LvT prog w h₀ A C e ρ σ v0 σ0) (h : some (v0, σ0) = some (v, σ')) : LvT prog w h₀ A C e ρ σ v σ' := by cases h; exact k
theorem h_v {n i : Nat} {p : Pos} {ρ : Rho} {σ σ' : St} {v : V} (h : (ev FT n).e (.v i p) ρ σ = some (v, σ')) : get ρ i = some v ∧ σ' = σ := by
  obtain ⟨m, rfl, h⟩ := ev_e h
  obtain ⟨u, h1, h⟩ := bnd h
  cases h
  exact ⟨h1, rfl⟩
theorem h_k {n : Nat} {c : Int} {p : Pos} {ρ : Rho} {σ σ' : St} {v : V} (h : (ev FT n).e (.k (.int c) p) ρ σ = some (v, σ')) : v = .int c ∧ σ' = σ := by
  obtain ⟨m, rfl, h⟩ := ev_e h
  cases h
  exact ⟨rfl, rfl⟩
theorem h_lst {n : Nat} {p : Pos} {ρ : Rho} {σ σ' : St} {v : V} (h : (ev FT n).e (.lst .nil p) ρ σ = some (v, σ')) : v = .lst σ.length ∧ σ' = σ ++ [[]] := by
  obtain ⟨m, rfl, h⟩ := ev_e h
  obtain ⟨⟨vs, σ₁⟩, h1, h⟩ := bnd h
  obtain ⟨m', e, h1⟩ := ev_l h1
  cases h1
  cases (ift h).2
  exact ⟨rfl, rfl⟩
theorem h_cmp {A : Around} {C : FC} {n i : Nat} {c : Int} {pi pc pe : Pos} {ρ : Rho} {σ σ' : St} {b : Bool} (hu : A.units + 64 < cLine) (ok : FCOk C) (h : (ev FT n).t (.cmp (.v i pi) .Eq (.k (.int c) pc) pe) ρ σ = some (b, σ')) :
    TvT prog w h₀ A C (trE C.nm (.cmp (.v i pi) .Eq (.k (.int c) pc) pe)) ρ σ b σ' := by
  obtain ⟨m, rfl, h⟩ := ev_t h
  obtain ⟨⟨u1, s1⟩, e1, h⟩ := bnd h
  obtain ⟨⟨u2, s2⟩, e2, h⟩ := bnd h
  obtain ⟨b', e3, h4⟩ := bnd h
  clear h
  obtain ⟨g1, rfl⟩ := h_v e1
  obtain ⟨rfl, rfl⟩ := h_k e2
  exact (tv_cmp hu (ev_v ok g1) (ev_k rfl) rfl e3).to h4
theorem h_ife {A : Around} {C : FC} {n i j : Nat} {c : Int} {pi pc pe pj pl pf : Pos} {ρ : Rho} {σ σ' : St} {v : V} (hu : A.units + 64 < cLine) (ok : FCOk C) (h : (ev FT n).e (.ife (.cmp (.v i pi) .Eq (.k (.int c) pc) pe) (.v j pj) (.lst .nil pl) pf) ρ σ = some (v, σ')) :
    EvT prog w h₀ A C (trE C.nm (.ife (.cmp (.v i pi) .Eq (.k (.int c) pc) pe) (.v j pj) (.lst .nil pl) pf)) ρ σ v σ' := by
  obtain ⟨m, rfl, h⟩ := ev_e h
  obtain ⟨⟨b, σ₂⟩, h2, h⟩ := bnd h
  refine ev_ife (h_cmp hu ok h2) (fun hb => ?_) (fun hb => ?_)
  · subst hb
    obtain ⟨g2, rfl⟩ := h_v h
    exact ev_v ok g2
  · subst hb
    obtain ⟨rfl, rfl⟩ := h_lst h
    exact ev_lst lv_nil (by simp)
theorem hnd {A : Around} {C : FC} {n i j : Nat} {c : Int} {ps : Nat → Pos} {ρ ρ' : Rho} {σ σ' : St} {fl : Fl} (hu : A.units + 64 < cLine) (ok : FCOk C) (h : (ev FT n).s (handS i c j ps) ρ σ = some (fl, ρ', σ')) : BvT prog w h₀ A C (handT C.nm i c j ps) ρ σ fl ρ' σ' := by
  obtain ⟨m, rfl, h⟩ := ev_s h
  obtain ⟨q, h1, h⟩ := bnd h
  obtain ⟨m1, rfl, h2⟩ := ev_s h1
  obtain ⟨⟨v, σ₁⟩, h3, h4⟩ := bnd h2
  clear h1 h2
  cases h4
  cases h
  exact bv_out (sv_ret (h_ife hu ok h3)) (by intro q; cases q)
theorem bno (h : false = true) : False := by cases h
theorem isV_inv {x : X} (h : isV x = true) : ∃ i p, x = .v i p := by
  unfold isV at h
  split at h
  · exact ⟨_, _, rfl⟩
  · exact (bno h).elim
theorem isCons_tr {x : X} (h : isCons x = true) : ∃ e r, x = .cons e r := by
  unfold isCons at h
  split at h
  · exact ⟨_, _, rfl⟩
  · exact (bno h).elim
theorem step_e (W : Wld h₀ mg mb) {r : Rec} (H : Sound prog w h₀ mg r n) (A : Around) (C : FC) (N : List (Str × NameKind)) (x : X) (ρ : Rho) (σ : St) (v : V) (σ' : St) (aok : AOk (n + 1) A) (ok : FCOk C) (fr : AFr A C.fs) (hN : ∀ y, C.env.kindOf y = N.lookup y)
    (hx : okX C.nm C.nv N x = true) (h : stepE r x ρ σ = some (v, σ')) : EvT prog w h₀ A C (trE C.nm x) ρ σ v σ' := by
  have ao : AOk n A := aok.le (Nat.le_succ n)
  have hu : A.units + 64 < cLine := by have := aok.units; omega
  have comp : ∀ {elt it : X} {t : Nat} {pt p : Pos} {fv : List Nat} {sc : Scope} {ifs : List Expr} {test : Rho → St → Option (Bool × St)}, okX C.nm C.nv N it = true → scB N C.nm C.nv sc t fv = true → okX C.nm C.nv (relN N sc.names) elt = true →
      (∀ cl Cc, Cc ∉ C.fs → (∀ x c, cl.lookup x = some c → C.env.cells.lookup x = some c) → (∀ x, (x, NameKind.free) ∈ sc.names → (cl.lookup x).isSome) → ∀ ρ σ b σ', test ρ σ = some (b, σ') → IfsT prog w h₀ A (C.comp sc cl Cc) ifs ρ σ b σ') →
      compEval r elt t it test fv ρ σ = some (v, σ') → EvT prog w h₀ A C (.ListComp (trE C.nm elt) [⟨.Name (C.nm t) pt, trE C.nm it, ifs, 0⟩] sc p) ρ σ v σ' := by
    intro elt it t pt p fv sc ifs test h1 h2 h3 h4 h5
    obtain ⟨u, σ₁, src, m, g1, rfl, g2, g3⟩ := comp_inv h5
    have S := sc_ok hN h2
    refine ev_comp (A := A) ao ok S (H.e A C N it ρ σ u σ₁ ao ok fr hN h1 g1) g2 (fun cl Cc ρ σ y σ' hc c1 c2 g => ?_) (fun cl Cc ρ σ y σ' hc c1 c2 g => h4 cl Cc hc c1 c2 ρ σ y σ' g) g3 (tr_fold C.nm it C.env)
    exact H.e A (C.comp sc cl Cc) (relN N sc.names) elt ρ σ y σ' ao (ok.comp S c1 c2 hc) fr.more (comp_names ok hN) h3 g
  have He : ∀ {a : X} {ρ : Rho} {σ : St} {v : V} {σ' : St}, okX C.nm C.nv N a = true → r.e a ρ σ = some (v, σ') → EvT prog w h₀ A C (trE C.nm a) ρ σ v σ' := fun h1 h2 => H.e A C N _ _ _ _ _ ao ok fr hN h1 h2
  have Hl : ∀ {a : X} {ρ : Rho} {σ : St} {v : List V} {σ' : St}, okX C.nm C.nv N a = true → r.l a ρ σ = some (v, σ') → LvT prog w h₀ A C (trL C.nm a) ρ σ v σ' := fun h1 h2 => H.l A C N _ _ _ _ _ ao ok fr hN h1 h2
  cases x with
  | k c p =>
    obtain ⟨u, h1, h⟩ := bnd h
    exact (ev_k h1).to h
  | v i p =>
    obtain ⟨u, h1, h⟩ := bnd h
    exact (ev_v ok h1).to h
  | g i p => exact (ev_g W ok (by rw [hN]; exact eq_of_beq hx)).to h
  | bin a o b p =>
    obtain ⟨⟨u1, s1⟩, e1, h⟩ := bnd h
    obtain ⟨⟨u2, s2⟩, e2, h⟩ := bnd h
    exact ev_bin aok (He (band hx).1 e1) (He (band hx).2 e2) h
  | neg a p =>
    obtain ⟨⟨u1, s1⟩, e1, h⟩ := bnd h
    cases u1 with
    | int m => exact (ev_neg (He (a := a) hx e1)).to h
    | _ => exact (no h).elim
  | cmp a o b p =>
    obtain ⟨⟨u1, s1⟩, e1, h⟩ := bnd h
    obtain ⟨⟨u2, s2⟩, e2, h⟩ := bnd h
    obtain ⟨c, e3, h⟩ := bnd h
    exact (ev_cmp hu (He (band hx).1 e1) (He (band hx).2 e2) (tr_marks _ _ _) e3).to h
  | or a b p =>
    obtain ⟨⟨u1, s1⟩, e1, h⟩ := bnd h
    obtain ⟨c, e2, h⟩ := bnd h
    refine ev_or (He (band hx).1 e1) e2 (fun hc => ?_) (fun hc => ?_)
    · subst hc
      exact He (band hx).2 h
    · subst hc
      cases h
      exact ⟨rfl, rfl⟩
  | ife t a b p =>
    obtain ⟨⟨c, s1⟩, e1, h⟩ := bnd h
    refine ev_ife (H.t A C N t _ _ _ _ ao ok fr hN (band3 hx).1.1 e1) (fun hc => ?_) (fun hc => ?_)
    · subst hc
      exact He (band3 hx).1.2 h
    · subst hc
      exact He (band3 hx).2 h
  | call f as pf p =>
    obtain ⟨⟨x1, x2⟩, x3⟩ := band3 hx
    obtain ⟨⟨vs, s1⟩, e1, h2⟩ := bnd h
    clear h hx
    obtain ⟨e, q, rfl⟩ := isCons_tr x3
    cases hf : FT f with
    | none => have := H.nn _ _ _ _ h2; rw [hf] at this; cases this
    | some d =>
      obtain ⟨a, F⟩ := W.fn f d hf
      refine ev_ucall (d := d) W ok (by rw [hN]; exact eq_of_beq x1) F (tr_star _ _ _ _) (Hl x2 e1) fun s ad us Q a0 hr k => ?_
      exact H.c A f d a vs s1 v σ' C.fs s ad us Q ao hf F a0.base a0.led a0.act.isNs a0.act.nL a0.l0 fr hr h2 k
  | bi f as pf p =>
    obtain ⟨⟨x1, x2⟩, x3⟩ := band3 hx
    obtain ⟨⟨vs, s1⟩, e1, h2⟩ := bnd h
    clear h hx
    obtain ⟨e, q, rfl⟩ := isCons_tr x3
    refine ev_call (fun s ad B Q hq => ld_boot W B ok (by rw [hN]; exact eq_of_beq x1) (biName_dbg f) (W.bi f).1 (W.bi f).2 hq) (bi_kind f) (tr_star _ _ _ _) (tr_any _ _ _ (.cons e q)) (Hl x2 e1) fun s ad us Q a0 hr k => ?_
    exact bi_ok aok.handled h2 a0 hr k
  | cnt a s pa p =>
    obtain ⟨⟨⟨x1, x2⟩, x3⟩, x4⟩ := band4 hx
    obtain ⟨i, pi, rfl⟩ := isV_inv x1
    obtain ⟨⟨u1, s1⟩, e1, h⟩ := bnd h
    cases u1 with
    | str y =>
      obtain ⟨⟨u2, s2⟩, e2, h⟩ := bnd h
      cases u2 with
      | str z => exact (ev_cnt (He x2 e1) (He x3 e2) rfl (tr_star _ _ _ _) x4).to h
      | _ => exact (no h).elim
    | _ => exact (no h).elim
  | idx a i p =>
    obtain ⟨⟨u1, s1⟩, e1, h⟩ := bnd h
    obtain ⟨⟨u2, s2⟩, e2, h⟩ := bnd h
    obtain ⟨c, e3, h⟩ := bnd h
    exact (ev_idx aok (He (band hx).1 e1) (He (band hx).2 e2) (tr_subd _ _) (tr_noslice _ _) e3).to h
  | slU a hi ps p =>
    obtain ⟨⟨u1, s1⟩, e1, h⟩ := bnd h
    obtain ⟨⟨u2, s2⟩, e2, h⟩ := bnd h
    obtain ⟨c, e3, h⟩ := bnd h
    exact ev_slU (He (band hx).1 e1) (He (band hx).2 e2) e3 h
  | slL a lo ps p =>
    obtain ⟨⟨u1, s1⟩, e1, h⟩ := bnd h
    obtain ⟨⟨u2, s2⟩, e2, h⟩ := bnd h
    obtain ⟨c, e3, h⟩ := bnd h
    exact ev_slL (He (band hx).1 e1) (He (band hx).2 e2) e3 h
  | slB a lo hi ps p =>
    obtain ⟨⟨u1, s1⟩, e1, h⟩ := bnd h
    obtain ⟨⟨u2, s2⟩, e2, h⟩ := bnd h
    obtain ⟨⟨u3, s3⟩, e3, h⟩ := bnd h
    obtain ⟨c, e4, h⟩ := bnd h
    obtain ⟨d, e5, h⟩ := bnd h
    exact ev_slB (He (band3 hx).1.1 e1) (He (band3 hx).1.2 e2) (He (band3 hx).2 e3) e4 e5 h
  | tup es p =>
    obtain ⟨⟨vs, s1⟩, e1, h⟩ := bnd h
    obtain ⟨hn, h⟩ := ift h
    obtain ⟨ps, e2, h⟩ := bnd h
    exact (ev_tup (Hl (a := es) hx e1) hn e2).to h
  | lst es p =>
    obtain ⟨⟨vs, s1⟩, e1, h⟩ := bnd h
    obtain ⟨hn, h⟩ := ift h
    exact (ev_lst (Hl (a := es) hx e1) hn).to h
  | comp elt t pt it fv sc p =>
    exact comp (band3 hx).1.1 (band3 hx).1.2 (band3 hx).2 (fun cl Cc hc c1 c2 ρ σ b σ' g => by cases g; exact ifs_nil) h
  | compIf elt t pt it c fv sc p =>
    obtain ⟨⟨⟨x1, x2⟩, x3⟩, x4⟩ := band4 hx
    exact comp x1 x2 x3 (fun cl Cc hc c1 c2 ρ σ b σ' g => ifs_one (H.t A (C.comp sc cl Cc) (relN N sc.names) c ρ σ b σ' ao (ok.comp (sc_ok hN x2) c1 c2 hc) fr.more (comp_names ok hN) x4 g)) h
  | nil => exact (no h).elim
  | cons e r => exact (no h).elim
theorem step_l {r : Rec} (H : Sound prog w h₀ mg r n) (A : Around) (C : FC) (N : List (Str × NameKind)) (x : X) (ρ : Rho) (σ : St) (v : List V) (σ' : St) (aok : AOk (n + 1) A) (ok : FCOk C) (fr : AFr A C.fs) (hN : ∀ y, C.env.kindOf y = N.lookup y)
    (hx : okX C.nm C.nv N x = true) (h : stepL r x ρ σ = some (v, σ')) : LvT prog w h₀ A C (trL C.nm x) ρ σ v σ' := by
  have ao : AOk n A := aok.le (Nat.le_succ n)
  cases x with
  | nil => exact lv_nil.to h
  | cons e q =>
    obtain ⟨⟨u1, s1⟩, e1, h⟩ := bnd h
    obtain ⟨⟨u2, s2⟩, e2, h⟩ := bnd h
    exact (lv_cons (H.e A C N _ _ _ _ _ ao ok fr hN (band hx).1 e1) (H.l A C N _ _ _ _ _ ao ok fr hN (band hx).2 e2) (tr_star _ _ _)).to h
  | _ => exact (no h).elim
theorem step_t {r : Rec} (H : Sound prog w h₀ mg r n) (A : Around) (C : FC) (N : List (Str × NameKind)) (x : X) (ρ : Rho) (σ : St) (v : Bool) (σ' : St) (aok : AOk (n + 1) A) (ok : FCOk C) (fr : AFr A C.fs) (hN : ∀ y, C.env.kindOf y = N.lookup y)
    (hx : okX C.nm C.nv N x = true) (h : stepT r x ρ σ = some (v, σ')) : TvT prog w h₀ A C (trE C.nm x) ρ σ v σ' := by
  have ao : AOk n A := aok.le (Nat.le_succ n)
  have hu : A.units + 64 < cLine := by have := aok.units; omega
  cases x with
  | cmp a o b p =>
    obtain ⟨⟨u1, s1⟩, e1, h⟩ := bnd h
    obtain ⟨⟨u2, s2⟩, e2, h⟩ := bnd h
    obtain ⟨c, e3, h⟩ := bnd h
    exact (tv_cmp hu (H.e A C N a _ _ _ _ ao ok fr hN (band hx).1 e1) (H.e A C N b _ _ _ _ ao ok fr hN (band hx).2 e2) (tr_marks _ _ _) e3).to h
  | or a b p =>
    obtain ⟨⟨c, s1⟩, e1, h⟩ := bnd h
    refine tv_or (H.t A C N a _ _ _ _ ao ok fr hN (band hx).1 e1) (fun hc => ?_) (fun hc => ?_)
    · subst hc
      exact H.t A C N b _ _ _ _ ao ok fr hN (band hx).2 h
    · subst hc
      cases h
      exact ⟨rfl, rfl⟩
  | v i p =>
    obtain ⟨u, h1, h⟩ := bnd h
    obtain ⟨c, h2, h⟩ := bnd h
    exact (tv_v ok h1 h2).to h
  | _ => exact (no h).elim
end
end Mine
end

section
set_option maxRecDepth 100000
set_option autoImplicit false
namespace Mine
open PySem PySem.W PyProof.Rows
theorem RelV.sub {h : Heap} {ad ac : List Addr} {u : Value} {v : V} (r : RelV h ad u v) (hv : noLst v = true) (hs : ∀ a, a ∈ ac → a ∈ ad) : RelV h ac u v := by
  cases v with
  | tup l => obtain ⟨a, vs, e, ha, q⟩ := r; exact ⟨a, vs, e, fun m => ha (hs a m), q⟩
  | frz l => obtain ⟨a, vs, e, ha, q⟩ := r; exact ⟨a, vs, e, fun m => ha (hs a m), q⟩
  | lst k => cases hv
  | _ => exact r
theorem RelVs.sub {h : Heap} {ad ac : List Addr} {us : List Value} {vs : List V} (r : RelVs h ad us vs) (hv : vs.all noLst = true) (hs : ∀ a, a ∈ ac → a ∈ ad) : RelVs h ac us vs :=
  r.monoMem fun a b hb q => q.sub (List.all_eq_true.mp hv b hb) hs
theorem flat_noLst {v : V} (h : flat v = true) : noLst v = true := by cases v <;> first | rfl | cases h
theorem flats {x : List V} (h : x.all flat = true) : x.all noLst = true := List.all_eq_true.mpr fun v hv => flat_noLst (List.all_eq_true.mp h v hv)
noncomputable def LocR (h : Heap) (ad : List Addr) (σ σc : St) (us : List Value) (vs vs' : List V) : Prop := ∃ ac : List Addr, (∀ a, a ∈ ac → a ∈ ad) ∧ Led h ac σc ∧ RelVs h ac us vs' ∧ vs'.length = vs.length ∧ (∀ (i : Nat) (a : Addr), ac[i]? = some a → ∃ k : Nat, ad[k]? = some a ∧ σ[k]? = σc[i]?) ∧ ∀ x, x ∈ σc → x.all flat = true
theorem loc_ok {h : Heap} {ad : List Addr} {σ : St} (l : Led h ad σ) : ∀ {vs vs' : List V} {σc : St} {us : List Value}, loc σ vs = some (vs', σc) → RelVs h ad us vs → LocR h ad σ σc us vs vs'
  | [], vs', σc, us, e, r => by
    cases e
    cases r
    exact ⟨[], fun _ m => (by cases m), ⟨rfl, .nil, fun i a x ha _ => by cases ha⟩, .nil, rfl, (fun i a ha => by cases ha), fun _ m => by cases m⟩
  | v :: r, vs', σc, us, e, q => by
    cases q with
    | @cons u _ us' _ h1 h2 =>
    have other : noLst v = true → (do let y ← loc σ r; some (v :: y.1, y.2)) = some (vs', σc) → LocR h ad σ σc (u :: us') (v :: r) vs' := by
      intro hv e
      obtain ⟨y, e1, e⟩ := bnd e
      obtain ⟨rfl, rfl⟩ := pr (som e)
      obtain ⟨ac, g1, g2, g3, g4, g5, g6⟩ := loc_ok l (vs' := y.1) (σc := y.2) e1 h2
      exact ⟨ac, g1, g2, .cons (h1.sub hv g1) g3, by simp [g4], g5, g6⟩
    cases v with
    | lst k =>
      obtain ⟨x, hx, e2⟩ := bnd e
      obtain ⟨hc, e2⟩ := ift e2
      have hc := band hc
      obtain ⟨rfl, rfl⟩ := pr (som e2)
      clear e e2 other
      obtain ⟨a, rfl, ha⟩ := h1
      obtain ⟨a', ws, ha', hl, hr⟩ := l.at hx
      rw [ha] at ha'
      obtain rfl := som ha'
      have hm : ∀ b, b ∈ [a] → b ∈ ad := fun b hb => by rw [List.mem_singleton.mp hb]; exact List.mem_of_getElem? ha
      refine ⟨[a], hm, ⟨rfl, List.nodup_cons.mpr ⟨List.not_mem_nil, .nil⟩, fun i b y hb hy => ?_⟩, .cons ⟨a, rfl, rfl⟩ (RelVs.sub h2 hc.2 hm), rfl, fun i b hb => ?_, fun y hy => by rw [List.mem_singleton.mp hy]; exact hc.1⟩
      · cases i with
        | zero =>
          obtain rfl := som hb
          obtain rfl := som hy
          exact ⟨ws, hl, RelVs.sub hr (flats hc.1) hm⟩
        | succ i => exact (no hb).elim
      · cases i with
        | zero =>
          obtain rfl := som hb
          exact ⟨k, ha, hx⟩
        | succ i => exact (no hb).elim
    | _ => exact other rfl e
section
variable {L : List Addr} {s s' : Shared} {ad ac ac' : List Addr} {σ σc σ₂ : St}
theorem RelV.conv {h : Heap} {ac ad : List Addr} {u : Value} {v : V} (r : RelV h ac u v) (hv : flat v = true) (hp : ∀ a, a ∈ ad → ∃ t, PlainL h a t) : RelV h ad u v := by
  cases v with
  | tup l =>
    obtain ⟨a, vs, e, ha, ht, q⟩ := r
    refine ⟨a, vs, e, fun m => ?_, ht, q⟩
    obtain ⟨t, o, n, ho, hc, _⟩ := hp a m
    obtain ⟨o', ho', hc', _⟩ := ht
    rw [ho] at ho'; cases ho'
    rw [hc] at hc'; exact absurd hc' (by decide)
  | frz l => cases hv
  | lst k => cases hv
  | _ => exact r
theorem nodup_idx {α : Type} {l : List α} (nd : l.Nodup) {i j : Nat} {a : α} (hi : l[i]? = some a) (hj : l[j]? = some a) : i = j := by
  have h1 := (List.getElem?_eq_some_iff.mp hi)
  have h2 := (List.getElem?_eq_some_iff.mp hj)
  obtain ⟨p1, e1⟩ := h1
  obtain ⟨p2, e2⟩ := h2
  have nd := List.nodup_iff_pairwise_ne.mp nd
  rcases Nat.lt_trichotomy i j with q | q | q
  · exact absurd (e1.trans e2.symm) (List.pairwise_iff_getElem.mp nd i j p1 p2 q)
  · exact q
  · exact absurd (e2.trans e1.symm) (List.pairwise_iff_getElem.mp nd j i p2 p1 q)
theorem home_lists (led : Led s.heap ad σ) (n : IsNs s.heap L) (hL : ∀ l, l ∈ L → l ∉ ad) (nx : Nx L s s' ac ac') (l' : Led s'.heap ac' σ₂) (hk : ∀ (i : Nat) (a : Addr), ac[i]? = some a → ∃ k : Nat, ad[k]? = some a ∧ σ[k]? = σc[i]?)
    (hf : ∀ x, x ∈ σc → x.all flat = true) (ht : σ₂.take σc.length = σc) {ad'' : List Addr} (E : Ext L s.heap s'.heap ad ad'') (hp : ∀ a, a ∈ ad'' → ∃ t, PlainL s'.heap a t) :
    ∀ (k : Nat) (a : Addr) (y : List V), ad[k]? = some a → σ[k]? = some y → ∃ vs, PlainL s'.heap a (List.toArray vs) ∧ RelVs s'.heap ad'' vs y := by
  intro k a y ha hy
  by_cases m : a ∈ ac
  · obtain ⟨i, hi, e⟩ := List.mem_iff_getElem.mp m
    have e : ac[i]? = some a := by rw [List.getElem?_eq_getElem hi, e]
    obtain ⟨k', h1, h2⟩ := hk i a e
    obtain rfl := nodup_idx led.nd h1 ha
    rw [hy] at h2
    have hc : σc[i]? = some y := h2.symm
    have hi' := (List.getElem?_eq_some_iff.mp hc).1
    have h3 : σ₂[i]? = some y := by
      rw [← ht, List.getElem?_take] at hc
      rw [if_pos hi'] at hc
      exact hc
    obtain ⟨vs, g1, g2⟩ := l'.lists i a y (nx.ext.idx e) h3
    exact ⟨vs, g1, g2.monoMem fun u v hv q => q.conv (List.all_eq_true.mp (hf y (List.mem_of_getElem? hc)) v hv) hp⟩
  · obtain ⟨vs, ⟨o, n', ho, q⟩, g2⟩ := led.lists k a y ha hy
    exact ⟨vs, ⟨o, n', nx.ext.keep a o m (fun hl => hL a hl (List.mem_of_getElem? ha)) ho, q⟩, RelVs.mono g2 n E⟩
theorem home_plain (led : Led s.heap ad σ) (hL : ∀ l, l ∈ L → l ∉ ad) (nx : Nx L s s' ac ac') (l' : Led s'.heap ac' σ₂) {a : Addr} (ha : a ∈ ad) : ∃ t, PlainL s'.heap a t := by
  by_cases m : a ∈ ac
  · obtain ⟨i, hi, e⟩ := List.mem_iff_getElem.mp m
    have e : ac'[i]? = some a := nx.ext.idx (by rw [List.getElem?_eq_getElem hi, e])
    have hi' := (List.getElem?_eq_some_iff.mp e).1
    obtain ⟨vs, g1, _⟩ := l'.lists i a _ e (List.getElem?_eq_getElem (by rw [← l'.len]; exact hi'))
    exact ⟨_, g1⟩
  · obtain ⟨k, hk, e⟩ := List.mem_iff_getElem.mp ha
    obtain ⟨vs, ⟨o, n', ho, q⟩, _⟩ := led.lists k a _ (by rw [List.getElem?_eq_getElem hk, e]) (List.getElem?_eq_getElem (by rw [← led.len]; exact hk))
    exact ⟨_, o, n', nx.ext.keep a o m (fun hl => hL a hl ha) ho, q⟩
noncomputable def HomeR (L : List Addr) (s s' : Shared) (ad : List Addr) (σ' : St) (u : Value) (v : V) : Prop := ∃ ad' : List Addr, Nx L s s' ad ad' ∧ Led s'.heap ad' σ' ∧ RelV s'.heap ad' u v
theorem home_ok {u : Value} {v v' : V} {σ' : St} (led : Led s.heap ad σ) (n : IsNs s.heap L) (hL : ∀ l, l ∈ L → l ∉ ad) (nx : Nx L s s' ac ac') (l' : Led s'.heap ac' σ₂) (r : RelV s'.heap ac' u v') (hs : ∀ a, a ∈ ac → a ∈ ad) (hlen : ac.length = σc.length)
    (hk : ∀ (i : Nat) (a : Addr), ac[i]? = some a → ∃ k : Nat, ad[k]? = some a ∧ σ[k]? = σc[i]?) (hf : ∀ x, x ∈ σc → x.all flat = true) (h : home σc σ v' σ₂ = some (v, σ')) :
    HomeR L s s' ad σ' u v := by
  obtain ⟨ht, h⟩ := ift h
  have E : Ext L s.heap s'.heap ad ad := ⟨fun b o hb hl e => nx.ext.keep b o (fun q => hb (hs b q)) hl e, nx.ext.nsL, ⟨[], (List.append_nil ad).symm⟩, fun a h1 h2 => absurd h1 h2, nx.ext.live⟩
  have P : ∀ a, a ∈ ad → ∃ t, PlainL s'.heap a t := fun a ha => home_plain led hL nx l' ha
  have same : flat v' = true → some (v', σ) = some (v, σ') → HomeR L s s' ad σ' u v := fun hv e => by
    obtain ⟨rfl, rfl⟩ := pr (som e)
    exact ⟨ad, ⟨E, nx.gx, nx.dr, nx.os⟩, ⟨led.len, led.nd, home_lists led n hL nx l' hk hf ht E P⟩, r.conv hv P⟩
  cases v' with
  | lst k =>
    clear same
    obtain ⟨hkc, h⟩ := ift h
    obtain ⟨y, hy, h⟩ := bnd h
    obtain ⟨hfl, h⟩ := ift h
    obtain ⟨rfl, rfl⟩ := pr (som h)
    obtain ⟨D, rfl, hD⟩ := r
    have hDc : D ∉ ac := fun m => by
      obtain ⟨i, hi, e⟩ := List.mem_iff_getElem.mp m
      have := nodup_idx l'.nd (nx.ext.idx (by rw [List.getElem?_eq_getElem hi, e])) hD
      omega
    have h0 := nx.ext.fresh D (List.mem_of_getElem? hD) hDc
    have hDa : D ∉ ad := fun m => by
      obtain ⟨o, ho⟩ := led.live m
      rw [h0] at ho; exact (no ho).elim
    obtain ⟨vs, g1, g2⟩ := l'.lists k D y hD hy
    have E' : Ext L s.heap s'.heap ad (ad ++ [D]) := ⟨E.keep, E.nsL, ⟨[D], rfl⟩, fun a h1 h2 => by
      rcases List.mem_append.mp h1 with q | q
      · exact absurd q h2
      · rw [List.mem_singleton.mp q]; exact h0, E.live⟩
    have P' : ∀ a, a ∈ ad ++ [D] → ∃ t, PlainL s'.heap a t := fun a ha => by
      rcases List.mem_append.mp ha with q | q
      · exact P a q
      · rw [List.mem_singleton.mp q]; exact ⟨_, g1⟩
    refine ⟨ad ++ [D], ⟨E', nx.gx, nx.dr, nx.os⟩, ⟨by rw [List.length_append, List.length_append, led.len]; rfl, nodup_snoc led.nd hDa, fun i b x hb hx => ?_⟩, D, rfl, by rw [← led.len]; exact List.getElem?_concat_length⟩
    rcases snoc_get hb with hb | ⟨rfl, rfl⟩
    · rw [List.getElem?_append_left (by rw [← led.len]; exact (List.getElem?_eq_some_iff.mp hb).1)] at hx
      exact home_lists led n hL nx l' hk hf ht E' P' i b x hb hx
    · rw [led.len, List.getElem?_concat_length] at hx
      obtain rfl := som hx
      exact ⟨vs, g1, g2.monoMem fun u v hv q => q.conv (List.all_eq_true.mp hfl v hv) P'⟩
  | frz l => exact (no h).elim
  | _ => exact same rfl h
end
end Mine
end

section
set_option maxRecDepth 100000
set_option autoImplicit false
namespace Mine
open PySem PySem.W PyProof.Rows
section
variable {prog : Program} {w : World} {h₀ : Heap} {mg mb : Str → Option Value} {n : Nat}
theorem step_a {r : Rec} (H : Sound prog w h₀ mg r n) (A : Around) (C : FC) (N : List (Str × NameKind)) (i : Nat) (x : X) (pn p : Pos) (ρ : Rho) (σ : St) (v : V) (σ' : St) (aok : AOk (n + 1) A) (ok : FCOk C) (fr : AFr A C.fs) (hN : ∀ y, C.env.kindOf y = N.lookup y)
    (hx : okX C.nm C.nv N x = true) (st : Sto C i) (hw : swX N (C.nm i) pn x = true) (h : stepE r x ρ σ = some (v, σ'))
    (he : EvT prog w h₀ A C (trE C.nm x) ρ σ v σ') : SvT prog w h₀ A C (.Assign [.Name (C.nm i) pn] (trE C.nm x) p) ρ σ .nx (put ρ i v) σ' := by
  have ao : AOk n A := aok.le (Nat.le_succ n)
  have comp : ∀ {elt it : X} {t : Nat} {pt pc : Pos} {fv : List Nat} {sc : Scope} {ifs : List Expr} {test : Rho → St → Option (Bool × St)}, okX C.nm C.nv N it = true → scB N C.nm C.nv sc t fv = true → okX C.nm C.nv (relN N sc.names) elt = true →
      (∀ cl Cc, Cc ∉ C.fs → (∀ x c, cl.lookup x = some c → C.env.cells.lookup x = some c) → (∀ x, (x, NameKind.free) ∈ sc.names → (cl.lookup x).isSome) → ∀ ρ σ b σ', test ρ σ = some (b, σ') → IfsT prog w h₀ A (C.comp sc cl Cc) ifs ρ σ b σ') →
      swB N (C.nm i) pn sc pc = true → compEval r elt t it test fv ρ σ = some (v, σ') → SvT prog w h₀ A C (.Assign [.Name (C.nm i) pn] (.ListComp (trE C.nm elt) [⟨.Name (C.nm t) pt, trE C.nm it, ifs, 0⟩] sc pc) p) ρ σ .nx (put ρ i v) σ' := by
    intro elt it t pt p fv sc ifs test h1 h2 h3 h4 hs h5
    obtain ⟨u, σ₁, src, m, g1, rfl, g2, g3⟩ := comp_inv h5
    have S := sc_ok hN h2
    refine sv_comp (A := A) ao ok st S (H.e A C N it ρ σ u σ₁ ao ok fr hN h1 g1) g2 (fun cl Cc ρ σ y σ' hc c1 c2 g => ?_) (fun cl Cc ρ σ y σ' hc c1 c2 g => h4 cl Cc hc c1 c2 ρ σ y σ' g) g3 (tr_fold C.nm it C.env) (sw_yes ok.kind hN hs)
    exact H.e A (C.comp sc cl Cc) (relN N sc.names) elt ρ σ y σ' ao (ok.comp S c1 c2 hc) fr.more (comp_names ok hN) h3 g
  cases hc : isComp x with
  | false => exact sv_asg ok st he (sw_none hc)
  | true =>
    cases x with
    | comp elt t pt it fv sc pc => exact comp (band3 hx).1.1 (band3 hx).1.2 (band3 hx).2 (fun cl Cc hc c1 c2 ρ σ b σ' g => by cases g; exact ifs_nil) hw h
    | compIf elt t pt it c fv sc pc =>
      obtain ⟨⟨⟨x1, x2⟩, x3⟩, x4⟩ := band4 hx
      exact comp x1 x2 x3 (fun cl Cc hc c1 c2 ρ σ b σ' g => ifs_one (H.t A (C.comp sc cl Cc) (relN N sc.names) c ρ σ b σ' ao (ok.comp (sc_ok hN x2) c1 c2 hc) fr.more (comp_names ok hN) x4 g)) hw h
    | _ => exact (bno hc).elim
theorem SvT.to {A : Around} {C : FC} {e : Stmt} {ρ ρ0 ρ' : Rho} {σ σ0 σ' : St} {f0 f : Fl} (k : SvT prog w h₀ A C e ρ σ f0 ρ0 σ0) (h : some (f0, ρ0, σ0) = some (f, ρ', σ')) : SvT prog w h₀ A C e ρ σ f ρ' σ' := by cases h; exact k
theorem BvT.to {A : Around} {C : FC} {e : List Stmt} {ρ ρ0 ρ' : Rho} {σ σ0 σ' : St} {f0 f : Fl} (k : BvT prog w h₀ A C e ρ σ f0 ρ0 σ0) (h : some (f0, ρ0, σ0) = some (f, ρ', σ')) : BvT prog w h₀ A C e ρ σ f ρ' σ' := by cases h; exact k
theorem range_inv {vs : List V} {lo hi : Int} (h : rangeOf vs = some (lo, hi)) : (vs = [.int hi] ∧ lo = 0) ∨ vs = [.int lo, .int hi] := by
  cases vs with
  | nil => exact (no h).elim
  | cons a r => cases r with
    | nil =>
      obtain ⟨y, h1, h⟩ := bnd h
      obtain ⟨rfl, rfl⟩ := pr (som h)
      exact .inl ⟨by rw [intOf_inv h1], rfl⟩
    | cons b q => cases q with
      | nil =>
        obtain ⟨x, h1, h⟩ := bnd h
        obtain ⟨y, h2, h⟩ := bnd h
        obtain ⟨rfl, rfl⟩ := pr (som h)
        exact .inr (by rw [intOf_inv h1, intOf_inv h2])
      | cons _ _ => exact (no h).elim
theorem forR_of {A : Around} {C : FC} {ρ ρ' : Rho} {σ σ' σ₁ : St} {fl : Fl} {i m q : Nat} {b : S} {as : X} {vs : List V} {lo hi : Int} {kill : List Nat} {cy : Option Nat} {pf pc pn p : Pos} {bodyE : Rho → St → Option (Fl × Rho × St)} (W : Wld h₀ mg mb) (aok : AOk q A) (ok : FCOk C) (st : Sto C i)
    (kr : C.env.kindOf (Str.ofString "range") = some .globalImplicit) (ic : isCons as = true) (ha : LvT prog w h₀ A C (trL C.nm as) ρ σ vs σ₁) (hv : (vs = [.int hi] ∧ lo = 0) ∨ vs = [.int lo, .int hi]) (hlo : small lo = true) (hhi : small hi = true)
    (hB : ∀ ρ σ fl ρ' σ', bodyE ρ σ = some (fl, ρ', σ') → BvT prog w h₀ A C (trB C.nm b) ρ σ fl ρ' σ')
    (hl : loopF (fun _ => some (upFrom lo hi)) bodyE i σ₁.length kill cy m 0 ρ σ₁ = some (fl, ρ', σ')) : SvT prog w h₀ A C (trS C.nm (.forR i as b kill pf pc pn p)) ρ σ fl ρ' σ' := by
  obtain ⟨e, r, rfl⟩ := isCons_tr ic
  exact sv_forR W aok ok st kr ha hv hlo hhi (tr_star _ _ _ _) (tr_any _ _ _ (.cons e r)) hB hl
theorem tryG_of {A : Around} {C : FC} {ρ ρ' : Rho} {σ σ' σ₁ : St} {fl : Fl} {i k n : Nat} {e : X} {b : S} {hi : Nat} {hc : Int} {hj : Nat} {ps : Nat → Pos} {x : List V} {row : List Int} {pf pc pn pfor pe ph p : Pos} {bodyE handE : Rho → St → Option (Fl × Rho × St)} (W : Wld h₀ mg mb) (aok : AOk n A) (ok : FCOk C) (afs : AFs A C) (st : Sto C i)
    (kg : C.env.kindOf giName = some .globalImplicit) (kv : C.env.kindOf (Str.ofString "ValueError") = some .globalImplicit) (he : EvT prog w h₀ A C (trE C.nm e) ρ σ (.lst k) σ₁) (hx : σ₁[k]? = some x) (hr : intsOf x = some row)
    (hB : ∀ ρ σ fl ρ' σ', bodyE ρ σ = some (fl, ρ', σ') → BvT prog w h₀ A C (trB C.nm b) ρ σ fl ρ' σ') (hH : ∀ v ρ σ fl ρ' σ', handE ρ σ = some (fl, ρ', σ') → BvT prog w h₀ (A.mark v) C (handT C.nm hi hc hj ps) ρ σ fl ρ' σ')
    (h : (match gnext row .start with
        | .raise => handE ρ σ₁
        | _ => loopG bodyE i k row 1000 .start ρ σ₁) = some (fl, ρ', σ')) : SvT prog w h₀ A C (trS C.nm (.tryG i e b hi hc hj ps pf pc pn pfor pe ph p)) ρ σ fl ρ' σ' := by
  refine sv_tryG (b₀ := handR C.nm hi hc hj ps) (hrest := []) W aok ok afs st kg kv he (tr_star _ _ _ _) hx hr hB ?_
  generalize gnext row .start = g at h
  cases g with
  | raise => exact .inl ⟨rfl, fun v => hH v _ _ _ _ _ h⟩
  | stop => exact .inr ⟨(fun q => by cases q), h⟩
  | yield n g => exact .inr ⟨(fun q => by cases q), h⟩
theorem band5 {a b c d e : Bool} (h : (a && b && c && d && e) = true) : (((a = true ∧ b = true) ∧ c = true) ∧ d = true) ∧ e = true := ⟨band4 (band h).1, (band h).2⟩
theorem band6 {a b c d e f : Bool} (h : (a && b && c && d && e && f) = true) : ((((a = true ∧ b = true) ∧ c = true) ∧ d = true) ∧ e = true) ∧ f = true := ⟨band5 (band h).1, (band h).2⟩
theorem bnt {a : Bool} (h : (!a) = true) : a = false := by cases a <;> first | rfl | cases h
theorem step_s (W : Wld h₀ mg mb) {r : Rec} (H : Sound prog w h₀ mg r n) (A : Around) (C : FC) (N : List (Str × NameKind)) (x : S) (ρ : Rho) (σ : St) (fl : Fl) (ρ' : Rho) (σ' : St) (aok : AOk (n + 1) A) (ok : FCOk C) (afs : AFs A C) (hN : ∀ y, C.env.kindOf y = N.lookup y)
    (hx : okS N C.nm C.nv x = true) (h : stepS r x ρ σ = some (fl, ρ', σ')) :
    (isB x = true → BvT prog w h₀ A C (trB C.nm x) ρ σ fl ρ' σ') ∧ (isB x = false → SvT prog w h₀ A C (trS C.nm x) ρ σ fl ρ' σ') := by
  have ao : AOk n A := aok.le (Nat.le_succ n)
  have fr : AFr A C.fs := afs.weak ok
  have hu : A.units + 64 < cLine := by have := aok.units; omega
  have body : ∀ {b : S}, okS N C.nm C.nv b = true → isB b = true → ∀ ρ σ fl ρ' σ', r.s b ρ σ = some (fl, ρ', σ') → BvT prog w h₀ A C (trB C.nm b) ρ σ fl ρ' σ' := fun h1 h2 ρ σ fl ρ' σ' g => (H.s A C N _ ρ σ fl ρ' σ' ao ok afs hN h1 g).1 h2
  have He : ∀ {a : X} {ρ : Rho} {σ : St} {v : V} {σ' : St}, okX C.nm C.nv N a = true → r.e a ρ σ = some (v, σ') → EvT prog w h₀ A C (trE C.nm a) ρ σ v σ' := fun h1 h2 => H.e A C N _ _ _ _ _ ao ok fr hN h1 h2
  cases x with
  | nil => exact ⟨fun _ => bv_nil.to h, fun q => (bno q.symm).elim⟩
  | cons s q =>
    refine ⟨fun _ => ?_, fun q => (bno q.symm).elim⟩
    obtain ⟨⟨⟨x1, x2⟩, x3⟩, x4⟩ := band4 hx
    obtain ⟨⟨f1, ρ₁, σ₁⟩, e1, h⟩ := bnd h
    have h1 := (H.s A C N s ρ σ f1 ρ₁ σ₁ ao ok afs hN x1 e1).2 (bnt x3)
    cases f1 with
    | nx => exact bv_nx h1 (body x2 x4 _ _ _ _ _ h)
    | bk => exact (bv_out h1 (by intro q; cases q)).to h
    | rt v => exact (bv_out h1 (by intro q; cases q)).to h
  | near ih ib il ia c d fv sc ps q =>
    refine ⟨fun _ => ?_, fun q => (bno q.symm).elim⟩
    obtain ⟨hx, x10⟩ := band hx
    obtain ⟨hx, x9⟩ := band hx
    obtain ⟨hx, x8⟩ := band hx
    obtain ⟨hx, x7⟩ := band hx
    obtain ⟨⟨⟨⟨⟨x1, x2⟩, x3⟩, x4⟩, x5⟩, x6⟩ := band6 hx
    obtain ⟨bv, e1, h⟩ := bnd h
    cases bv with
    | flt b =>
      obtain ⟨lv, e2, h⟩ := bnd h
      cases lv with
      | lst k =>
        obtain ⟨xv, e3, h⟩ := bnd h
        obtain ⟨x, e4, h⟩ := bnd h
        split at h
        · exact (no h).elim
        · rename_i y ys hw
          obtain ⟨hc, h⟩ := ift h
          obtain ⟨m, e5, h⟩ := bnd h
          exact bv_near W ao ok (sto_ok hN x1) (sto_ok hN x2) (sc_ok hN x3) (List.contains_iff_mem.mp x4) (bne_iff_ne.mp x5) (bne_iff_ne.mp x6) (sto_ok hN x2).1 (by rw [hN]; exact eq_of_beq x7) e1 e2 e3 e4 hw hc.1 hc.2 e5 (sw_yes ok.kind hN x8) (body x9 x10 _ _ _ _ _ h)
      | _ => exact (no h).elim
    | _ => exact (no h).elim
  | asg i e pn p =>
    refine ⟨fun q => (bno q).elim, fun _ => ?_⟩
    obtain ⟨⟨x1, x2⟩, x3⟩ := band3 hx
    obtain ⟨⟨v, σ₁⟩, e1, h⟩ := bnd h
    exact (H.a A C N i e pn p ρ σ v σ₁ ao ok fr hN x2 (sto_ok hN x1) x3 e1).to h
  | aug i o e pn p =>
    refine ⟨fun q => (bno q).elim, fun _ => ?_⟩
    obtain ⟨x1, x2⟩ := band hx
    obtain ⟨u, e1, h⟩ := bnd h
    cases u with
    | int n =>
      obtain ⟨⟨y, σ₁⟩, e2, h⟩ := bnd h
      cases y with
      | int m => cases o with
        | Add => exact (sv_aug ok (sto_ok hN x1) e1 (He x2 e2) (.inl ⟨rfl, rfl⟩)).to h
        | Mult =>
          obtain ⟨hs, h⟩ := ift h
          exact (sv_aug ok (sto_ok hN x1) e1 (He x2 e2) (.inr ⟨rfl, hs, rfl⟩)).to h
        | _ => exact (no h).elim
      | _ => exact (no h).elim
    | _ => exact (no h).elim
  | ite t b o p =>
    refine ⟨fun q => (bno q).elim, fun _ => ?_⟩
    obtain ⟨⟨⟨⟨x1, x2⟩, x3⟩, x4⟩, x5⟩ := band5 hx
    obtain ⟨⟨c, σ₁⟩, e1, h⟩ := bnd h
    refine sv_ite (H.t A C N t _ _ _ _ ao ok fr hN x1 e1) (fun hc => ?_) (fun hc => ?_)
    · subst hc
      exact body x2 x4 _ _ _ _ _ h
    · subst hc
      exact body x3 x5 _ _ _ _ _ h
  | forL i it b kill cy pn p =>
    refine ⟨fun q => (bno q).elim, fun _ => ?_⟩
    obtain ⟨⟨⟨x1, x2⟩, x3⟩, x4⟩ := band4 hx
    obtain ⟨⟨y, σ₁⟩, e1, h⟩ := bnd h
    cases y with
    | lst k =>
      obtain ⟨x, e2, h⟩ := bnd h
      exact sv_forL ao ok (sto_ok hN x1) (He x2 e1) (by rw [e2]; rfl) (body x3 x4) h (tr_fold _ _ _)
    | _ => exact (no h).elim
  | forR i as b kill pf pc pn p =>
    refine ⟨fun q => (bno q).elim, fun _ => ?_⟩
    obtain ⟨⟨⟨⟨⟨x1, x2⟩, x3⟩, x4⟩, x5⟩, x6⟩ := band6 hx
    obtain ⟨⟨vs, σ₁⟩, e1, h⟩ := bnd h
    obtain ⟨⟨lo, hi⟩, e2, h⟩ := bnd h
    obtain ⟨hs, h⟩ := ift h
    obtain ⟨h1, h2⟩ := band hs
    exact forR_of W ao ok (sto_ok hN x1) (by rw [hN]; exact eq_of_beq x6) x3 (H.l A C N as _ _ _ _ ao ok fr hN x2 e1) (range_inv e2) h1 h2 (body x4 x5) h
  | whl lim t b p =>
    refine ⟨fun q => (bno q).elim, fun _ => ?_⟩
    obtain ⟨⟨x1, x2⟩, x3⟩ := band3 hx
    exact sv_whl (fun ρ σ c σ' g => H.t A C N t _ _ _ _ ao ok fr hN x1 g) (body x2 x3) h
  | ret e p =>
    refine ⟨fun q => (bno q).elim, fun _ => ?_⟩
    obtain ⟨⟨v, σ₁⟩, e1, h⟩ := bnd h
    exact (sv_ret (He (a := e) hx e1)).to h
  | brk p => exact ⟨fun q => (bno q).elim, fun _ => sv_brk.to h⟩
  | dead t => exact (no h).elim
  | app i e pn pa pc p =>
    refine ⟨fun q => (bno q).elim, fun _ => ?_⟩
    obtain ⟨x1, x2⟩ := band hx
    obtain ⟨u, e1, h⟩ := bnd h
    cases u with
    | lst k =>
      obtain ⟨⟨v, σ₁⟩, e2, h⟩ := bnd h
      obtain ⟨x, e3, h⟩ := bnd h
      obtain ⟨hl, h⟩ := ift h
      exact (sv_app ok e1 (He x1 e2) e3 hl x2 (tr_star _ _ _ _)).to h
    | _ => exact (no h).elim
  | ext i e pn pa pc p =>
    refine ⟨fun q => (bno q).elim, fun _ => ?_⟩
    obtain ⟨x1, x2⟩ := band hx
    obtain ⟨u, e1, h⟩ := bnd h
    cases u with
    | lst k =>
      obtain ⟨⟨v, σ₁⟩, e2, h⟩ := bnd h
      cases v with
      | lst j =>
        obtain ⟨x, e3, h⟩ := bnd h
        obtain ⟨z, e4, h⟩ := bnd h
        obtain ⟨hl, h⟩ := ift h
        exact (sv_ext ok e1 (He x1 e2) e3 e4 hl.1 hl.2.1 x2 (tr_star _ _ _ _)).to h
      | _ => exact (no h).elim
    | _ => exact (no h).elim
  | tryG i e b hi hc hj ps pf pc pn pfor pe ph p =>
    refine ⟨fun q => (bno q).elim, fun _ => ?_⟩
    obtain ⟨⟨⟨⟨⟨x1, x2⟩, x3⟩, x4⟩, x6⟩, x7⟩ := band6 hx
    obtain ⟨⟨y, σ₁⟩, e1, h⟩ := bnd h
    cases y with
    | lst k =>
      obtain ⟨xv, e2, h⟩ := bnd h
      obtain ⟨row, e3, h⟩ := bnd h
      obtain ⟨hl, h⟩ := ift h
      exact tryG_of W ao ok afs (sto_ok hN x1) (by rw [hN]; exact eq_of_beq x6) (by rw [hN]; exact eq_of_beq x7) (He x2 e1) e2 e3 (body x3 x4) (fun v ρ σ fl ρ' σ' h => H.h (A.mark v) C hi hc hj ps ρ σ fl ρ' σ' hu ok h) h
    | _ => exact (no h).elim
theorem step_c (W : Wld h₀ mg mb) {r : Rec} (H : Sound prog w h₀ mg r n) (A : Around) (f : Nat) (d : Fn) (a : Addr) (vs : List V) (σ : St) (v : V) (σ' : St) (L : List Addr) (s : Shared) (ad : List Addr) (us : List Value) (Q : Value → Shared → Prop) (aok : AOk (n + 1) A) (hf : FT f = some d) (F : FnAt h₀ mg f d a) (base : Base h₀ s.heap ad)
    (led : Led s.heap ad σ) (ns : IsNs s.heap L) (hL : ∀ l, l ∈ L → l ∉ ad) (hL0 : ∀ l, l ∈ L → h₀.get? l = none) (fr : AFr A L) (rv : RelVs s.heap ad us vs) (h : stepC FT r f vs σ = some (v, σ')) (kq : Wants L s ad σ' v Q) : wpAny (model prog w) A (call (.ref a) us) Q (fun _ _ => False) s := by
  obtain ⟨d', hd, h⟩ := bnd h
  rw [hf] at hd
  obtain rfl := som hd
  obtain ⟨O, hk, hb⟩ := fnB_ok (fn_b hf)
  obtain ⟨hl, h⟩ := ift h
  obtain ⟨y, ey, h⟩ := bnd h
  obtain ⟨⟨f1, ρ1, σ1⟩, e1, h⟩ := bnd h
  cases f1 with
  | rt v0 =>
    obtain ⟨z, ez, h⟩ := bnd h
    obtain ⟨ac, g1, g2, g3, g4, g5, g6⟩ := loc_ok led (vs' := y.1) (σc := y.2) ey rv
    refine call_fn (ρ' := ρ1) (v' := z.1) (σ' := z.2) W F O aok ⟨base.keep, fun b o e m => base.off b o e (g1 b m)⟩ g2 ns (fun l hl m => hL l hl (g1 l m)) hL0 fr g3 (g4.trans hl.1) (fun C ok hs hn hv ho afs => ?_) ez ?_
    · have hN : ∀ y, C.env.kindOf y = (SC f).names.lookup y := fun y => by unfold Env.kindOf; rw [hs]
      rw [← hn]
      exact (H.s (A.deeper C.env) C (SC f).names d.body _ _ _ _ _ (aok.deeper _) ok afs hN (by rw [hn, hv]; exact hk) e1).1 hb
    · intro u s' ac' x l r
      obtain ⟨ad', x', l', r'⟩ := home_ok led ns hL x l r g1 g2.len g5 g6 h
      exact kq u s' ad' x' l' r'
  | _ => exact (no h).elim
theorem sound (W : Wld h₀ mg mb) : ∀ n, Sound prog w h₀ mg (ev FT n) n
  | 0 => ⟨fun _ _ _ _ _ _ _ _ _ _ _ _ _ h => (nomatch h), fun _ _ _ _ _ _ _ _ _ _ _ _ _ h => (nomatch h), fun _ _ _ _ _ _ _ _ _ _ _ _ _ h => (nomatch h), fun _ _ _ _ _ _ _ _ _ _ _ _ _ _ _ _ _ _ h => (nomatch h),
      fun _ _ _ _ _ _ _ _ _ _ _ _ _ _ h => (nomatch h), fun _ _ _ _ _ _ _ _ _ _ _ hu ok h => hnd (n := 0) hu ok h, fun _ _ _ _ h => (nomatch h), fun _ _ _ _ _ _ _ _ _ _ _ _ _ _ _ _ _ _ _ _ _ _ _ h => (nomatch h)⟩
  | n + 1 => by
    have H := sound W n
    have E : ∀ (A : Around) (C : FC) (N : List (Str × NameKind)) (x : X) (ρ : Rho) (σ : St) (v : V) (σ' : St), AOk (n + 1) A → FCOk C → AFr A C.fs → (∀ y, C.env.kindOf y = N.lookup y) → okX C.nm C.nv N x = true → (ev FT (n + 1)).e x ρ σ = some (v, σ') → EvT prog w h₀ A C (trE C.nm x) ρ σ v σ' :=
      fun A C N x ρ σ v σ' aok ok fr hN hx h => step_e W H A C N x ρ σ v σ' aok ok fr hN hx h
    exact ⟨E, fun A C N x ρ σ v σ' aok ok fr hN hx h => step_l H A C N x ρ σ v σ' aok ok fr hN hx h, fun A C N x ρ σ v σ' aok ok fr hN hx h => step_t H A C N x ρ σ v σ' aok ok fr hN hx h,
      fun A C N i x pn p ρ σ v σ' aok ok fr hN hx st hw h => step_a H A C N i x pn p ρ σ v σ' aok ok fr hN hx st hw h (E A C N x ρ σ v σ' aok ok fr hN hx h),
      fun A C N x ρ σ fl ρ' σ' aok ok afs hN hx h => step_s W H A C N x ρ σ fl ρ' σ' aok ok afs hN hx h,
      fun A C i c j ps ρ σ fl ρ' σ' hu ok h => hnd hu ok h, fun f vs σ q h => by
        obtain ⟨d, hd, _⟩ := bnd (x := FT f) h
        rw [hd]; rfl,
      fun A f d a vs σ v σ' L s ad us Q aok hf F base led ns hL hL0 fr rv h kq => step_c W H A f d a vs σ v σ' L s ad us Q aok hf F base led ns hL hL0 fr rv h kq⟩
end
end Mine
end

section
set_option maxRecDepth 100000
set_option autoImplicit false
namespace Mine
open PySem PySem.W PyProof.Rows PySem.Calls
noncomputable def defPar (i : Nat) : Arguments := match stmts[i]? with
  | some (.FunctionDef _ a _ _ _ _ _ _ _ _) => a
  | _ => default
noncomputable def defPos (i : Nat) : Pos := match stmts[i]? with
  | some (.FunctionDef _ _ _ _ _ _ _ _ _ p) => p
  | _ => default
noncomputable def recAt (i : Nat) : DefRec := ⟨defName i, defPar i, defBody i, defScope i, defPos i⟩
noncomputable def plainSc (s : Scope) : Bool := !s.isCoroutine && !s.isGenerator && decide (s.kind = .function)
section
variable {p : Program} {loose : List Str} {mean : ExcName → Option Value} {mg mb : Str → Option Value} {h : Heap}
theorem fn_of (T : Top p loose mean mg mb h) {f i : Nat} {d : Fn} (hm : recAt i ∈ recsOf p) (hn : defName i = fName f) (hs : SC f = defScope i) (hb : trB (NM f) d.body = defBody i) (hp : plainSc (defScope i) = true)
    (hbind : ∀ (pm code doc : Value) (us : List Value), us.length = d.args → bindArgs (docDef (defName i) (defPar i) (defBody i) (defScope i) pm code doc) ⟨us, []⟩ = pure (((List.range d.args).map (NM f)).zip us)) : ∃ a, FnAt h mg f d a := by
  obtain ⟨a, o, pm, code, doc, h1, h2, h3, h4⟩ := T.fn _ hm
  simp only [plainSc, Bool.and_eq_true, Bool.not_eq_true'] at hp
  exact ⟨a, by rw [← hn]; exact h1, o, _, defBody i, h2, h3, h4, rfl, hb.symm, hp.1.1, hp.1.2, of_decide_eq_true hp.2, hs.symm, rfl, rfl, rfl, hbind pm code doc⟩
theorem bind1 {fd : FuncData} {n : Nat → Str} (e : ∀ a, bindArgs fd ⟨[a], []⟩ = pure [(n 0, a)]) (us : List Value) (hl : us.length = 1) : bindArgs fd ⟨us, []⟩ = pure (((List.range 1).map n).zip us) := by
  match us, hl with
  | [a], _ => exact e a
theorem bind2 {fd : FuncData} {n : Nat → Str} (e : ∀ a b, bindArgs fd ⟨[a, b], []⟩ = pure [(n 0, a), (n 1, b)]) (us : List Value) (hl : us.length = 2) : bindArgs fd ⟨us, []⟩ = pure (((List.range 2).map n).zip us) := by
  match us, hl with
  | [a, b], _ => exact e a b
theorem bind3 {fd : FuncData} {n : Nat → Str} (e : ∀ a b c, bindArgs fd ⟨[a, b, c], []⟩ = pure [(n 0, a), (n 1, b), (n 2, c)]) (us : List Value) (hl : us.length = 3) : bindArgs fd ⟨us, []⟩ = pure (((List.range 3).map n).zip us) := by
  match us, hl with
  | [a, b, c], _ => exact e a b c
noncomputable def rec0 : List DefRec := recsOf PySem.Challenge.pw_wu0027_01
theorem mem_rec {i j : Nat} (h : rec0[j]? = some (recAt i)) : recAt i ∈ rec0 := List.mem_of_getElem? h
theorem mem_g : recAt gIdx ∈ rec0 := mem_rec (i := gIdx) (j := 0) (by kernel_rfl)
theorem mem_0 : recAt 11 ∈ rec0 := mem_rec (j := 5) (by kernel_rfl)
theorem bnd_0 (pm code doc : Value) (us : List Value) (hl : us.length = 3) : bindArgs (docDef (defName 11) (defPar 11) (defBody 11) (defScope 11) pm code doc) ⟨us, []⟩ = pure (((List.range 3).map (NM 0)).zip us) := bind3 (fun a b c => by kernel_rfl) us hl
theorem mem_1 : recAt 10 ∈ rec0 := mem_rec (j := 4) (by kernel_rfl)
theorem bnd_1 (pm code doc : Value) (us : List Value) (hl : us.length = 3) : bindArgs (docDef (defName 10) (defPar 10) (defBody 10) (defScope 10) pm code doc) ⟨us, []⟩ = pure (((List.range 3).map (NM 1)).zip us) := bind3 (fun a b c => by kernel_rfl) us hl
theorem mem_2 : recAt 7 ∈ rec0 := mem_rec (j := 1) (by kernel_rfl)
theorem bnd_2 (pm code doc : Value) (us : List Value) (hl : us.length = 3) : bindArgs (docDef (defName 7) (defPar 7) (defBody 7) (defScope 7) pm code doc) ⟨us, []⟩ = pure (((List.range 3).map (NM 2)).zip us) := bind3 (fun a b c => by kernel_rfl) us hl
theorem mem_3 : recAt 8 ∈ rec0 := mem_rec (j := 2) (by kernel_rfl)
theorem bnd_3 (pm code doc : Value) (us : List Value) (hl : us.length = 3) : bindArgs (docDef (defName 8) (defPar 8) (defBody 8) (defScope 8) pm code doc) ⟨us, []⟩ = pure (((List.range 3).map (NM 3)).zip us) := bind3 (fun a b c => by kernel_rfl) us hl
theorem mem_4 : recAt 9 ∈ rec0 := mem_rec (j := 3) (by kernel_rfl)
theorem bnd_4 (pm code doc : Value) (us : List Value) (hl : us.length = 3) : bindArgs (docDef (defName 9) (defPar 9) (defBody 9) (defScope 9) pm code doc) ⟨us, []⟩ = pure (((List.range 3).map (NM 4)).zip us) := bind3 (fun a b c => by kernel_rfl) us hl
theorem mem_5 : recAt 15 ∈ rec0 := mem_rec (j := 6) (by kernel_rfl)
theorem bnd_5 (pm code doc : Value) (us : List Value) (hl : us.length = 1) : bindArgs (docDef (defName 15) (defPar 15) (defBody 15) (defScope 15) pm code doc) ⟨us, []⟩ = pure (((List.range 1).map (NM 5)).zip us) := bind1 (fun a => by kernel_rfl) us hl
theorem mem_6 : recAt 17 ∈ rec0 := mem_rec (j := 7) (by kernel_rfl)
theorem bnd_6 (pm code doc : Value) (us : List Value) (hl : us.length = 2) : bindArgs (docDef (defName 17) (defPar 17) (defBody 17) (defScope 17) pm code doc) ⟨us, []⟩ = pure (((List.range 2).map (NM 6)).zip us) := bind2 (fun a b => by kernel_rfl) us hl
theorem mem_7 : recAt 18 ∈ rec0 := mem_rec (j := 8) (by kernel_rfl)
theorem bnd_7 (pm code doc : Value) (us : List Value) (hl : us.length = 2) : bindArgs (docDef (defName 18) (defPar 18) (defBody 18) (defScope 18) pm code doc) ⟨us, []⟩ = pure (((List.range 2).map (NM 7)).zip us) := bind2 (fun a b => by kernel_rfl) us hl
theorem mem_8 : recAt 19 ∈ rec0 := mem_rec (j := 9) (by kernel_rfl)
theorem bnd_8 (pm code doc : Value) (us : List Value) (hl : us.length = 1) : bindArgs (docDef (defName 19) (defPar 19) (defBody 19) (defScope 19) pm code doc) ⟨us, []⟩ = pure (((List.range 1).map (NM 8)).zip us) := bind1 (fun a => by kernel_rfl) us hl
theorem mem_9 : recAt 20 ∈ rec0 := mem_rec (j := 10) (by kernel_rfl)
theorem bnd_9 (pm code doc : Value) (us : List Value) (hl : us.length = 1) : bindArgs (docDef (defName 20) (defPar 20) (defBody 20) (defScope 20) pm code doc) ⟨us, []⟩ = pure (((List.range 1).map (NM 9)).zip us) := bind1 (fun a => by kernel_rfl) us hl
noncomputable def biNames : List Str := [Str.ofString "len", Str.ofString "sum", Str.ofString "sorted", Str.ofString "min", Str.ofString "max", Str.ofString "int", Str.ofString "range", Str.ofString "ValueError"]
theorem biName_in (f : Bi) : biName f ∈ biNames := by cases f <;> simp [biName, biNames]
theorem boot_bi (f : Bi) : bootBuiltins (biName f) = some (biVal f) := by cases f <;> kernel_rfl
theorem wld_of (T : Top p loose mean mg mb h) (hrec : recsOf p = rec0) (hval : valOf p (Str.ofString "CHAR_MAX") = some (.int 127))
    (hfree : biNames.all (fun x => !startupNames.contains x && !loose.contains x && !((recsOf p).map (·.name)).contains x && !((litsOf p).map (·.1)).contains x && !((clssOf p loose).map (·.name)).contains x && !(x == Str.ofString "__name__")) = true)
    (hf : ∀ i, ∃ t, mg (gName i) = some (.float (gBits i) t)) : Wld h mg mb := by
  have fr : ∀ x, x ∈ biNames → mg x = none ∧ mb x = bootBuiltins x := fun x hx => by
    have := List.all_eq_true.mp hfree x hx
    simp only [Bool.and_eq_true, Bool.not_eq_true', ← Bool.not_eq_true, List.contains_iff_mem, beq_iff_eq] at this
    obtain ⟨⟨⟨⟨⟨h1, h2⟩, h3⟩, h4⟩, h5⟩, h6⟩ := this
    exact ⟨T.free x h1 h2 h3 h4 h5, T.builtins x h6⟩
  refine ⟨T.g, T.b, T.nolimit, hf, fun f => ?_, ?_, fun f d hd => ?_, ?_, ?_, ?_⟩
  · obtain ⟨h1, h2⟩ := fr _ (biName_in f)
    exact ⟨h1, h2.trans (boot_bi f)⟩
  · obtain ⟨h1, h2⟩ := fr (Str.ofString "range") (by simp [biNames])
    exact ⟨h1, h2.trans (by kernel_rfl)⟩
  · match f, hd with
    | 0, hd => cases hd; exact fn_of T (by rw [hrec]; exact mem_0) dn0 rfl tr0 (by decide +kernel) bnd_0
    | 1, hd => cases hd; exact fn_of T (by rw [hrec]; exact mem_1) dn1 rfl tr1 (by decide +kernel) bnd_1
    | 2, hd => cases hd; exact fn_of T (by rw [hrec]; exact mem_2) dn2 rfl tr2 (by decide +kernel) bnd_2
    | 3, hd => cases hd; exact fn_of T (by rw [hrec]; exact mem_3) dn3 rfl tr3 (by decide +kernel) bnd_3
    | 4, hd => cases hd; exact fn_of T (by rw [hrec]; exact mem_4) dn4 rfl tr4 (by decide +kernel) bnd_4
    | 5, hd => cases hd; exact fn_of T (by rw [hrec]; exact mem_5) dn5 rfl tr5 (by decide +kernel) bnd_5
    | 6, hd => cases hd; exact fn_of T (by rw [hrec]; exact mem_6) dn6 rfl tr6 (by decide +kernel) bnd_6
    | 7, hd => cases hd; exact fn_of T (by rw [hrec]; exact mem_7) dn7 rfl tr7 (by decide +kernel) bnd_7
    | 8, hd => cases hd; exact fn_of T (by rw [hrec]; exact mem_8) dn8 rfl tr8 (by decide +kernel) bnd_8
    | 9, hd => cases hd; exact fn_of T (by rw [hrec]; exact mem_9) dn9 rfl tr9 (by decide +kernel) bnd_9
    | n + 10, hd => cases hd
  · obtain ⟨v, h1, h2⟩ := T.const _ _ hval
    cases h2 h
    exact ⟨_, h1⟩
  · obtain ⟨h1, h2⟩ := fr (Str.ofString "ValueError") (by simp [biNames])
    exact ⟨h1, h2.trans (by kernel_rfl)⟩
  · obtain ⟨a, o, pm, code, doc, h1, h2, h3, h4⟩ := T.fn (recAt gIdx) (by rw [hrec]; exact mem_g)
    exact ⟨a, o, _, h1, h2, h3, h4, rfl, rfl, rfl, rfl, rfl, fun u => by rfl⟩
end
end Mine
end

section
set_option maxRecDepth 100000
set_option maxHeartbeats 8000000
namespace Mine
open PySem PySem.W PyProof.Rows
open_top hd for PySem.Challenge.rw_wu0027_01
theorem canon_eq {b n : UInt64} (h : canon b = n) (hn : Float64.isNaN n = false) : b = n := by
  unfold canon at h
  split at h
  · subst h
    exact absurd hn (by decide +kernel)
  · exact h
noncomputable def Post (s : Shared) (u : Value) (s' : Shared) : Prop := u = .bool true ∧ (∀ b o, s.heap.get? b = some o → s'.heap.get? b = some o) ∧ s'.os = s.os ∧ (AllBare s.gens → AllBare s'.gens)
theorem holds_of (hE : ∀ ns : List Int, ns.length ≤ 63 → (Mine.ev Mine.FT 300).c 9 [.frz ns] [] = some (.bool true, [])) : PySem.Challenge.rw_wu0027_01.Holds := hd (by
  intro w s₀ s₁ mg mb G Y fa o pm cd doc dV kV ho hd1 hcd hD hmg hg args vals as hpre hlay hrd hwl hlo
  have X := G.X.2
  have T := G.T
  clear Y ho hd1 hcd hD
  have W : Mine.Wld s₁.heap mg mb := Mine.wld_of T (by kernel_rfl) (by kernel_rfl) (by decide +kernel) (fun i => by
    have g : ∀ x n, (x, WData.float n) ∈ [(Str.ofString "ONE_THIRD", WData.float 4599676419421066581), (Str.ofString "ONE_SIXTH", WData.float 4595172819793696085), (Str.ofString "TWO_THIRD", WData.float 4604180019048437077)] → ∃ b t, mg x = some (.float b t) ∧ canon b = n := fun x n hx => by
      obtain ⟨v, h1, h2⟩ := X.val _ hx
      generalize hw : WData.float n = wd at h2
      cases h2 <;> first | (cases hw; exact ⟨_, _, h1, rfl⟩) | cases hw
    match i with
    | 0 => obtain ⟨b, t, h1, h2⟩ := g (Str.ofString "ONE_THIRD") _ (.head _); exact ⟨t, by rw [Mine.canon_eq h2 (by decide +kernel)] at h1; exact h1⟩
    | 1 => obtain ⟨b, t, h1, h2⟩ := g (Str.ofString "ONE_SIXTH") _ (.tail _ (.head _)); exact ⟨t, by rw [Mine.canon_eq h2 (by decide +kernel)] at h1; exact h1⟩
    | _ + 2 => obtain ⟨b, t, h1, h2⟩ := g (Str.ofString "TWO_THIRD") _ (.tail _ (.tail _ (.head _))); exact ⟨t, by rw [Mine.canon_eq h2 (by decide +kernel)] at h1; exact h1⟩)
  obtain ⟨a9, F⟩ := W.fn 9 _ rfl
  have ea : a9 = fa := by
    have h1 := F.at_
    have h2 : mg (Str.ofString "law") = some (.ref fa) := hmg
    have h3 : mg (Str.ofString "law") = some (.ref a9) := h1
    rw [h2] at h3
    cases h3; rfl
  subst ea
  clear hmg X T G
  wrow_args hpre hlay hrd hwl hlo
  rename_i ns h1 h2 h3 h4 h5 as1 as2 la vs as3 hL ra w1 r0 hI hr hc hc2
  have S := Mine.sound (prog := PySem.Challenge.rw_wu0027_01.row.prog) (w := w) W 300
  refine wpAny_mono (S.c callerA 9 Mine.fn9 a9 [.frz ns] [] (.bool true) [] [] s₁ [] [.ref la] _ ⟨rfl, by decide, by decide⟩ rfl F ⟨fun _ _ e => e, fun _ _ _ q => by cases q⟩ ⟨rfl, .nil, fun i a x ha _ => by cases ha⟩ (fun _ q => by cases q) (fun _ q => by cases q) (fun _ q => by cases q)
    ⟨[], rfl, fun _ q => by cases q⟩ (.cons ⟨la, vs, rfl, by simp, hL, hI⟩ .nil) (hE ns (by omega)) (fun u s' ad' x l r => (show Mine.Post s₁ u s' from ?_))) (fun v s' g => ?_) (fun _ _ q => q.elim)
  · exact ⟨r, fun b o e => x.ext.keep b o (by simp) (by simp) e, x.os, x.gx.2⟩
  · obtain ⟨rfl, g1, g2, g3⟩ := g
    exact ⟨.inl ⟨_, .bool true, [], rfl, raisesW_false (by wrow_none_raised), .bool true, by wrow_post, fun _ => ⟨.nil, fun a h => by cases h⟩⟩, .of_keep g1, g2, g3 (.of_eq hg)⟩)
end Mine
end

section
set_option maxRecDepth 100000
set_option autoImplicit false
namespace Mine
open PySem
noncomputable def nthS : S → Nat → S
  | .cons s _, 0 => s
  | .cons _ r, n + 1 => nthS r n
  | _, _ => .nil
noncomputable def restS : S → Nat → S
  | r, 0 => r
  | .cons _ r, n + 1 => restS r n
  | _, _ => .nil
noncomputable def inFor : S → S
  | .forL _ _ b _ _ _ _ => b
  | .forR _ _ b _ _ _ _ _ => b
  | .whl _ _ b _ => b
  | _ => .nil
theorem bs {α β : Type} {x : Option α} {f : α → Option β} {a : α} {r : Option β} (h : x = some a) (h2 : f a = r) : x.bind f = r := by rw [h]; exact h2
theorem ifp {α : Type} {c : Prop} [Decidable c] {x y r : α} (h : c) (h2 : x = r) : (if c then x else y) = r := by rw [if_pos h]; exact h2
theorem ifq {α : Type} {c : Prop} [Decidable c] {x y r : α} (h : ¬ c) (h2 : y = r) : (if c then x else y) = r := by rw [if_neg h]; exact h2
section
variable {src : St → Option (List V)} {body : Rho → St → Option (Fl × Rho × St)} {tgt n f i : Nat} {kill : List Nat} {cy : Option Nat} {ρ ρ₁ ρ₂ : Rho} {σ σ₁ σ₂ : St} {x : List V} {v : V}
theorem loopF_nx (h1 : src σ = some x) (h2 : x[i]? = some v) (h3 : body (put ρ tgt v) σ = some (.nx, ρ₁, σ₁)) (h4 : trimC n cy (killR ρ₁ kill) σ₁ = some (ρ₂, σ₂)) :
    loopF src body tgt n kill cy (f + 1) i ρ σ = loopF src body tgt n kill cy f (i + 1) ρ₂ σ₂ := by
  refine bs h1 ?_
  rw [h2]
  exact bs h3 (bs h4 rfl)
theorem loopF_rt {u : V} (h1 : src σ = some x) (h2 : x[i]? = some v) (h3 : body (put ρ tgt v) σ = some (.rt u, ρ₁, σ₁)) :
    loopF src body tgt n kill cy (f + 1) i ρ σ = some (.rt u, ρ₁, σ₁) := by
  refine bs h1 ?_
  rw [h2]
  exact bs h3 rfl
theorem loopF_end (h1 : src σ = some x) (h2 : x[i]? = none) : loopF src body tgt n kill cy (f + 1) i ρ σ = some (.nx, ρ, σ) := by
  refine bs h1 ?_
  rw [h2]
/-- a turn and what is forgotten behind it -/
noncomputable def turnF (body : Rho → St → Option (Fl × Rho × St)) (n : Nat) (kill : List Nat) (cy : Option Nat) (ρ : Rho) (σ : St) : Option (Rho × St) := match body ρ σ with
  | some (.nx, ρ, σ) => trimC n cy (killR ρ kill) σ
  | _ => none
theorem loopF_turn (h1 : src σ = some x) (h2 : x[i]? = some v) (h3 : turnF body n kill cy (put ρ tgt v) σ = some (ρ₂, σ₂)) :
    loopF src body tgt n kill cy (f + 1) i ρ σ = loopF src body tgt n kill cy f (i + 1) ρ₂ σ₂ := by
  unfold turnF at h3
  split at h3
  · rename_i ρ' σ' e
    exact loopF_nx h1 h2 e h3
  · cases h3
end
theorem c_of {n f : Nat} {d : Fn} {vs vs' : List V} {σ σc σ₁ σ₂ : St} {v v' : V} {ρ₁ : Rho} {r : V × St} (hf : FT f = some d) (hl : vs.length = d.args) (hd : d.args ≤ d.vars) (h1 : loc σ vs = some (vs', σc))
    (h2 : (ev FT n).s d.body (padR vs' d.vars) σc = some (.rt v, ρ₁, σ₁)) (h3 : back σc.length v σ₁ = some (v', σ₂)) (h4 : home σc σ v' σ₂ = some r) : (ev FT (n + 1)).c f vs σ = some r := by
  exact bs (x := FT f) hf (ifp ⟨hl, hd⟩ (bs h1 (bs h2 (bs h3 h4))))
theorem loc_flat {σ : St} : ∀ {vs : List V}, vs.all noLst = true → loc σ vs = some (vs, [])
  | [], _ => rfl
  | v :: r, h => by
    cases v with
    | lst k => exact Bool.noConfusion h
    | _ => exact bs (loc_flat (σ := σ) h) rfl
theorem home_flat {σ : St} {v : V} (h : flat v = true) : home [] σ v [] = some (v, σ) := by
  cases v <;> first | rfl | cases h
theorem c_flat {n f : Nat} {d : Fn} {vs : List V} {σ σ₁ : St} {v : V} {ρ₁ : Rho} (hf : FT f = some d) (hl : vs.length = d.args) (hd : d.args ≤ d.vars) (h1 : vs.all noLst = true)
    (h2 : (ev FT n).s d.body (padR vs d.vars) [] = some (.rt v, ρ₁, σ₁)) (h4 : flat v = true) : (ev FT (n + 1)).c f vs σ = some (v, σ) := by
  refine c_of hf hl hd (loc_flat h1) h2 (v' := v) (σ₂ := []) ?_ (home_flat h4)
  cases v <;> first | rfl | cases h4
theorem home_lst {σ : St} {x : List V} (h : x.all flat = true) : home [] σ (.lst 0) [x] = some (.lst σ.length, σ ++ [x]) := by
  show (if [x].take 0 = [] then (if 0 = 0 then (do let y ← [x][0]?; if y.all flat then some (V.lst σ.length, σ ++ [y]) else none) else none) else none) = _
  simp only [List.take_zero, if_true, List.getElem?_cons_zero, Option.bind_eq_bind, Option.bind_some, h]
theorem c_list {n f : Nat} {d : Fn} {vs : List V} {σ σ₁ : St} {v : V} {x : List V} {ρ₁ : Rho} (hf : FT f = some d) (hl : vs.length = d.args) (hd : d.args ≤ d.vars) (h1 : vs.all noLst = true)
    (h2 : (ev FT n).s d.body (padR vs d.vars) [] = some (.rt v, ρ₁, σ₁)) (h3 : back 0 v σ₁ = some (.lst 0, [x])) (h4 : x.all flat = true) : (ev FT (n + 1)).c f vs σ = some (.lst σ.length, σ ++ [x]) :=
  c_of hf hl hd (loc_flat h1) h2 h3 (home_lst h4)
noncomputable def callL (n : Nat) (d : Fn) (vs : List V) : Option (List V) := match (ev FT n).s d.body (padR vs d.vars) [] with
  | some (.rt v, _, σ₁) => (match back 0 v σ₁ with
    | some (.lst 0, [x]) => if x.all flat then some x else none
    | _ => none)
  | _ => none
theorem c_callL {n f : Nat} {d : Fn} {vs x : List V} {σ : St} (hf : FT f = some d) (hl : vs.length = d.args) (hd : d.args ≤ d.vars) (h1 : vs.all noLst = true) (h : callL n d vs = some x) : (ev FT (n + 1)).c f vs σ = some (.lst σ.length, σ ++ [x]) := by
  unfold callL at h
  split at h
  · rename_i e
    split at h
    · rename_i e'
      split at h
      · rename_i e''
        cases h
        exact c_list hf hl hd h1 e e' e''
      · cases h
    · cases h
  · cases h
noncomputable def callV (n : Nat) (d : Fn) (vs : List V) : Option V := match (ev FT n).s d.body (padR vs d.vars) [] with
  | some (.rt v, _, _) => if flat v then some v else none
  | _ => none
theorem c_callV {n f : Nat} {d : Fn} {vs : List V} {σ : St} {v : V} (hf : FT f = some d) (hl : vs.length = d.args) (hd : d.args ≤ d.vars) (h1 : vs.all noLst = true) (h : callV n d vs = some v) : (ev FT (n + 1)).c f vs σ = some (v, σ) := by
  unfold callV at h
  split at h
  · rename_i e
    split at h
    · rename_i e'
      cases h
      exact c_flat hf hl hd h1 e e'
    · cases h
  · cases h
/-- how a body ends that hands a list back -/
noncomputable def outB (n : Nat) (body : Rho → St → Option (Fl × Rho × St)) (ρ : Rho) (σ : St) : Option (V × St) := match body ρ σ with
  | some (.rt v, _, σ₁) => back n v σ₁
  | _ => none
theorem outB_inv {n : Nat} {body : Rho → St → Option (Fl × Rho × St)} {ρ : Rho} {σ : St} {r : V × St} (h : outB n body ρ σ = some r) : ∃ v ρ₁ σ₁, body ρ σ = some (.rt v, ρ₁, σ₁) ∧ back n v σ₁ = some r := by
  unfold outB at h
  split at h
  · rename_i e
    exact ⟨_, _, _, e, h⟩
  · cases h
section
variable {n : Nat} {s q : S} {ρ ρ₁ : Rho} {σ σ₁ : St}
theorem s_nx (h : (ev FT n).s s ρ σ = some (.nx, ρ₁, σ₁)) : (ev FT (n + 1)).s (.cons s q) ρ σ = (ev FT n).s q ρ₁ σ₁ := by
  exact bs h rfl
theorem s_rt {v : V} (h : (ev FT n).s s ρ σ = some (.rt v, ρ₁, σ₁)) : (ev FT (n + 1)).s (.cons s q) ρ σ = some (.rt v, ρ₁, σ₁) := by
  exact bs h rfl
theorem s_forL {i k : Nat} {it : X} {b : S} {kill : List Nat} {cy : Option Nat} {pn p : Pos} {x : List V} (h1 : (ev FT n).e it ρ σ = some (.lst k, σ₁)) (h2 : σ₁[k]? = some x) :
    (ev FT (n + 1)).s (.forL i it b kill cy pn p) ρ σ = loopF (fun σ => σ[k]?) ((ev FT n).s b) i σ₁.length kill cy (x.length + 1) 0 ρ σ₁ := by
  exact bs h1 (bs h2 rfl)
end
end Mine
end

section
set_option maxRecDepth 100000
set_option autoImplicit false
namespace Mine
open PySem
noncomputable def fP : P → Option UInt64
  | .f w => some w
  | .i _ => none
noncomputable def triP (l : List P) : Option (UInt64 × UInt64 × UInt64) := match l with
  | [] => none
  | a :: r => match r with
    | [] => none
    | b :: q => match q with
      | [] => none
      | c :: t => match t with
        | [] => do
          let x ← fP a
          let y ← fP b
          let z ← fP c
          some (x, y, z)
        | _ :: _ => none
noncomputable def triV : V → Option (UInt64 × UInt64 × UInt64)
  | .tup l => triP l
  | _ => none
theorem fP_inv {p : P} {w : UInt64} (h : fP p = some w) : p = .f w := by
  cases p with
  | f x => exact congrArg P.f (som h)
  | i n => exact (no h).elim
theorem triP_inv {l : List P} {x y z : UInt64} (h : triP l = some (x, y, z)) : l = [.f x, .f y, .f z] := by
  cases l with
  | nil => exact (no h).elim
  | cons a r => cases r with
    | nil => exact (no h).elim
    | cons b q => cases q with
      | nil => exact (no h).elim
      | cons c t => cases t with
        | nil =>
          obtain ⟨x', h1, h⟩ := bnd h
          obtain ⟨y', h2, h⟩ := bnd h
          obtain ⟨z', h3, h⟩ := bnd h
          cases h
          rw [fP_inv h1, fP_inv h2, fP_inv h3]
        | cons _ _ => exact (no h).elim
theorem triV_inv {v : V} {x y z : UInt64} (h : triV v = some (x, y, z)) : v = .tup [.f x, .f y, .f z] := by
  cases v with
  | tup l => exact congrArg V.tup (triP_inv h)
  | _ => exact (no h).elim
noncomputable def rgb3 (n : Nat) (d : Fn) (a b c : UInt64) : Option (UInt64 × UInt64 × UInt64) := (callV n d [.flt a, .flt b, .flt c]).bind triV
noncomputable def hueArg (p t : Int) : UInt64 := Float64.sub (Float64.add (Float64.div (Float64.ofInt (2 * p + 1)) 0x4040000000000000) (Float64.ofInt t)) (Float64.ofInt 2)
noncomputable def lightArg (l : Int) : UInt64 := Float64.div (Float64.ofInt l) 0x4010000000000000
noncomputable def fullArg (f : Int) : UInt64 := Float64.div (Float64.ofInt f) 0x4000000000000000
noncomputable def micro (w : UInt64) : UInt64 := Float64.add (Float64.mul w (Float64.ofInt 1000000)) 0x3fe0000000000000
noncomputable def toI (w : UInt64) : Option Int := match Float64.decode w with
  | .fin s m e => some (Float64.truncOf s m e)
  | _ => none
/-- the hues of a place -/
noncomputable def hueOf : Nat → List UInt64
  | 0 => [4584664420663164917, 4584664420663164912]
  | 1 => [4591419820104220667, 4591419820104220672, 4591419820104220679]
  | 2 => [4594797519824748541, 4594797519824748543, 4594797519824748547]
  | 3 => [4597049319638433789, 4597049319638433792, 4597049319638433800, 4597049319638433797]
  | 4 => [4598738169498697728, 4598738169498697731]
  | 5 => [4599864069405540352, 4599864069405540353, 4599864069405540349]
  | 6 => [4600989969312382977, 4600989969312382976, 4600989969312382973, 4600989969312382975]
  | 7 => [4602115869219225601, 4602115869219225604, 4602115869219225600, 4602115869219225597, 4602115869219225596]
  | 8 => [4602960294149357568, 4602960294149357569]
  | 9 => [4603523244102778880]
  | 10 => [4604086194056200192]
  | 11 => [4604649144009621504, 4604649144009621505]
  | 12 => [4605212093963042815, 4605212093963042816, 4605212093963042817]
  | 13 => [4605775043916464129, 4605775043916464127]
  | 14 => [4606337993869885441, 4606337993869885438, 4606337993869885439]
  | 15 => [4606900943823306753, 4606900943823306751, 4606900943823306750]
  | _ => []
abbrev T3 := UInt64 × UInt64 × UInt64
abbrev L4 := T3 × T3 × T3 × T3
noncomputable def t3 (a b c : Nat) : T3 := (UInt64.ofNat a, UInt64.ofNat b, UInt64.ofNat c)
noncomputable def l4 (a b c d e f g h i j k l : Nat) : L4 := (t3 a b c, t3 d e f, t3 g h i, t3 j k l)
/-- red green blue; y i q; red green blue again; hue light full -/
noncomputable def okTail (l f : Int) (h : List UInt64) (q : L4) : Bool :=
  rgb3 283 fn2 q.1.1 q.1.2.1 q.1.2.2 == some q.2.1 && rgb3 282 fn3 q.2.1.1 q.2.1.2.1 q.2.1.2.2 == some q.2.2.1 && rgb3 281 fn4 q.2.2.1.1 q.2.2.1.2.1 q.2.2.1.2.2 == some q.2.2.2 && toI (micro q.2.2.2.2.1) == some (l * 250000) && toI (micro q.2.2.2.2.2) == some (f * 500000) && h.contains q.2.2.2.1
noncomputable def okHead (p : Nat) (t l f : Int) (a : T3) (ts : List L4) : Bool := rgb3 284 fn1 (hueArg p t) (lightArg l) (fullArg f) == some a && ts.any fun q => q.1 == a
noncomputable def okTails (h : List UInt64) (x1 x2 x3 x4 x5 x6 : List L4) : Bool := x1.all (okTail 1 1 h) && (x2.all (okTail 1 2 h) && (x3.all (okTail 2 1 h) && (x4.all (okTail 2 2 h) && (x5.all (okTail 3 1 h) && x6.all (okTail 3 2 h)))))
noncomputable def okHeads (p : Nat) (t : Int) (x1 x2 x3 x4 x5 x6 : List L4) (a1 a2 a3 a4 a5 a6 : T3) : Bool := okHead p t 1 1 a1 x1 && (okHead p t 1 2 a2 x2 && (okHead p t 2 1 a3 x3 && (okHead p t 2 2 a4 x4 && (okHead p t 3 1 a5 x5 && okHead p t 3 2 a6 x6))))
/-- a colour goes out and comes back -/
noncomputable def Col (p : Nat) (t l f : Int) : Prop := ∃ r g b y i q r' g' b' h l' s', rgb3 284 fn1 (hueArg p t) (lightArg l) (fullArg f) = some (r, g, b) ∧ rgb3 283 fn2 r g b = some (y, i, q) ∧ rgb3 282 fn3 y i q = some (r', g', b') ∧ rgb3 281 fn4 r' g' b' = some (h, l', s') ∧
  toI (micro l') = some (l * 250000) ∧ toI (micro s') = some (f * 500000) ∧ h ∈ hueOf p
theorem and2 {a b : Bool} (h : (a && b) = true) : a = true ∧ b = true := by
  cases a with
  | true => exact ⟨rfl, h⟩
  | false => cases h
theorem col_of {p : Nat} {t l f : Int} {ts : List L4} {a : T3} (h2 : ts.all (okTail l f (hueOf p)) = true) (h1 : okHead p t l f a ts = true) : Col p t l f := by
  obtain ⟨e1, h1⟩ := and2 h1
  obtain ⟨⟨a', b, c, d⟩, hq, e⟩ := List.any_eq_true.mp h1
  obtain rfl : a' = a := eq_of_beq e
  obtain ⟨h, e7⟩ := and2 (List.all_eq_true.mp h2 _ hq)
  obtain ⟨h, e6⟩ := and2 h
  obtain ⟨h, e5⟩ := and2 h
  obtain ⟨h, e4⟩ := and2 h
  obtain ⟨e2, e3⟩ := and2 h
  exact ⟨_, _, _, _, _, _, _, _, _, _, _, _, eq_of_beq e1, eq_of_beq e2, eq_of_beq e3, eq_of_beq e4, eq_of_beq e5, eq_of_beq e6, List.contains_iff_mem.mp e7⟩
noncomputable def Col6 (p : Nat) (t : Int) : Prop := Col p t 1 1 ∧ Col p t 1 2 ∧ Col p t 2 1 ∧ Col p t 2 2 ∧ Col p t 3 1 ∧ Col p t 3 2
theorem col6 {p : Nat} {t : Int} {x1 x2 x3 x4 x5 x6 : List L4} {a1 a2 a3 a4 a5 a6 : T3} (h : okTails (hueOf p) x1 x2 x3 x4 x5 x6 = true) (g : okHeads p t x1 x2 x3 x4 x5 x6 a1 a2 a3 a4 a5 a6 = true) : Col6 p t :=
  have h1 := and2 h
  have h2 := and2 h1.2
  have h3 := and2 h2.2
  have h4 := and2 h3.2
  have h5 := and2 h4.2
  have g1 := and2 g
  have g2 := and2 g1.2
  have g3 := and2 g2.2
  have g4 := and2 g3.2
  have g5 := and2 g4.2
  ⟨col_of h1.1 g1.1, col_of h2.1 g2.1, col_of h3.1 g3.1, col_of h4.1 g4.1, col_of h5.1 g5.1, col_of h5.2 g5.2⟩
noncomputable def ta0_0 : List L4 := [l4 (nat_lit 4600427019358961664) (nat_lit 4595360469778169856) (nat_lit 4593671619917905920) (nat_lit 4597370201111883939) (nat_lit 4594095014577874089) (nat_lit 4583910968445505850) (nat_lit 4600427019358961664) (nat_lit 4595360469778169855) (nat_lit 4593671619917905921) (nat_lit 4584664420663164917) (nat_lit 4598175219545276416) (nat_lit 4602678819172646911)]
noncomputable def ta0_1 : List L4 := [l4 (nat_lit 4602678819172646912) (nat_lit 4591419820104220672) (nat_lit 0) (nat_lit 4596565182678491464) (nat_lit 4598598614205244584) (nat_lit 4588414568072876340) (nat_lit 4602678819172646912) (nat_lit 4591419820104220672) (nat_lit 4367365738642538496) (nat_lit 4584664420663164917) (nat_lit 4598175219545276417) (nat_lit 4607182418800017404)]
noncomputable def ta0_2 : List L4 := [l4 (nat_lit 4604930618986332160) (nat_lit 4599864069405540352) (nat_lit 4598175219545276416) (nat_lit 4601873800739254435) (nat_lit 4598598614205244585) (nat_lit 4588414568072876346) (nat_lit 4604930618986332160) (nat_lit 4599864069405540351) (nat_lit 4598175219545276417) (nat_lit 4584664420663164917) (nat_lit 4602678819172646912) (nat_lit 4602678819172646911)]
noncomputable def ta0_3 : List L4 := [l4 (nat_lit 4607182418800017408) (nat_lit 4595923419731591168) (nat_lit 0) (nat_lit 4601068782305861960) (nat_lit 4603102213832615080) (nat_lit 4592918167700246836) (nat_lit 4607182418800017408) (nat_lit 4595923419731591168) (nat_lit 4371869338269908992) (nat_lit 4584664420663164917) (nat_lit 4602678819172646913) (nat_lit 4607182418800017408)]
noncomputable def ta0_4 : List L4 := [l4 (nat_lit 4606056518893174784) (nat_lit 4604226931544555520) (nat_lit 4603804719079489536) (nat_lit 4604729364377984041) (nat_lit 4594095014577874088) (nat_lit 4583910968445505844) (nat_lit 4606056518893174784) (nat_lit 4604226931544555520) (nat_lit 4603804719079489537) (nat_lit 4584664420663164912) (nat_lit 4604930618986332160) (nat_lit 4602678819172646910)]
noncomputable def ta0_5 : List L4 := [l4 (nat_lit 4607182418800017408) (nat_lit 4603523244102778880) (nat_lit 4602678819172646912) (nat_lit 4604528109769635922) (nat_lit 4598598614205244584) (nat_lit 4588414568072876340) (nat_lit 4607182418800017408) (nat_lit 4603523244102778880) (nat_lit 4602678819172646913) (nat_lit 4584664420663164917) (nat_lit 4604930618986332160) (nat_lit 4607182418800017408)]
theorem tk0 : okTails (hueOf 0) ta0_0 ta0_1 ta0_2 ta0_3 ta0_4 ta0_5 = true := by kernel_rfl
theorem ch0_0 : okHeads 0 0 ta0_0 ta0_1 ta0_2 ta0_3 ta0_4 ta0_5 (t3 (nat_lit 4600427019358961664) (nat_lit 4595360469778169856) (nat_lit 4593671619917905920)) (t3 (nat_lit 4602678819172646912) (nat_lit 4591419820104220672) (nat_lit 0)) (t3 (nat_lit 4604930618986332160) (nat_lit 4599864069405540352) (nat_lit 4598175219545276416)) (t3 (nat_lit 4607182418800017408) (nat_lit 4595923419731591168) (nat_lit 0)) (t3 (nat_lit 4606056518893174784) (nat_lit 4604226931544555520) (nat_lit 4603804719079489536)) (t3 (nat_lit 4607182418800017408) (nat_lit 4603523244102778880) (nat_lit 4602678819172646912)) = true := by kernel_rfl
theorem ch0_1 : okHeads 0 1 ta0_0 ta0_1 ta0_2 ta0_3 ta0_4 ta0_5 (t3 (nat_lit 4600427019358961664) (nat_lit 4595360469778169856) (nat_lit 4593671619917905920)) (t3 (nat_lit 4602678819172646912) (nat_lit 4591419820104220672) (nat_lit 0)) (t3 (nat_lit 4604930618986332160) (nat_lit 4599864069405540352) (nat_lit 4598175219545276416)) (t3 (nat_lit 4607182418800017408) (nat_lit 4595923419731591168) (nat_lit 0)) (t3 (nat_lit 4606056518893174784) (nat_lit 4604226931544555520) (nat_lit 4603804719079489536)) (t3 (nat_lit 4607182418800017408) (nat_lit 4603523244102778880) (nat_lit 4602678819172646912)) = true := by kernel_rfl
theorem ch0_2 : okHeads 0 2 ta0_0 ta0_1 ta0_2 ta0_3 ta0_4 ta0_5 (t3 (nat_lit 4600427019358961664) (nat_lit 4595360469778169856) (nat_lit 4593671619917905920)) (t3 (nat_lit 4602678819172646912) (nat_lit 4591419820104220672) (nat_lit 0)) (t3 (nat_lit 4604930618986332160) (nat_lit 4599864069405540352) (nat_lit 4598175219545276416)) (t3 (nat_lit 4607182418800017408) (nat_lit 4595923419731591168) (nat_lit 0)) (t3 (nat_lit 4606056518893174784) (nat_lit 4604226931544555520) (nat_lit 4603804719079489536)) (t3 (nat_lit 4607182418800017408) (nat_lit 4603523244102778880) (nat_lit 4602678819172646912)) = true := by kernel_rfl
theorem ch0_3 : okHeads 0 3 ta0_0 ta0_1 ta0_2 ta0_3 ta0_4 ta0_5 (t3 (nat_lit 4600427019358961664) (nat_lit 4595360469778169856) (nat_lit 4593671619917905920)) (t3 (nat_lit 4602678819172646912) (nat_lit 4591419820104220672) (nat_lit 0)) (t3 (nat_lit 4604930618986332160) (nat_lit 4599864069405540352) (nat_lit 4598175219545276416)) (t3 (nat_lit 4607182418800017408) (nat_lit 4595923419731591168) (nat_lit 0)) (t3 (nat_lit 4606056518893174784) (nat_lit 4604226931544555520) (nat_lit 4603804719079489536)) (t3 (nat_lit 4607182418800017408) (nat_lit 4603523244102778880) (nat_lit 4602678819172646912)) = true := by kernel_rfl
theorem ch0_4 : okHeads 0 4 ta0_0 ta0_1 ta0_2 ta0_3 ta0_4 ta0_5 (t3 (nat_lit 4600427019358961664) (nat_lit 4595360469778169856) (nat_lit 4593671619917905920)) (t3 (nat_lit 4602678819172646912) (nat_lit 4591419820104220672) (nat_lit 0)) (t3 (nat_lit 4604930618986332160) (nat_lit 4599864069405540352) (nat_lit 4598175219545276416)) (t3 (nat_lit 4607182418800017408) (nat_lit 4595923419731591168) (nat_lit 0)) (t3 (nat_lit 4606056518893174784) (nat_lit 4604226931544555520) (nat_lit 4603804719079489536)) (t3 (nat_lit 4607182418800017408) (nat_lit 4603523244102778880) (nat_lit 4602678819172646912)) = true := by kernel_rfl
noncomputable def ta1_0 : List L4 := [l4 (nat_lit 4600427019358961664) (nat_lit 4598456694521987072) (nat_lit 4593671619917905920) (nat_lit 4598769131746135899) (nat_lit 4592645136972837502) (nat_lit 13804964552212111306) (nat_lit 4600427019358961664) (nat_lit 4598456694521987070) (nat_lit 4593671619917905919) (nat_lit 4591419820104220667) (nat_lit 4598175219545276416) (nat_lit 4602678819172646912)]
noncomputable def ta1_1 : List L4 := [l4 (nat_lit 4602678819172646912) (nat_lit 4598738169498697728) (nat_lit 0) (nat_lit 4599363043946995384) (nat_lit 4597148736600207996) (nat_lit 13809468151839481812) (nat_lit 4602678819172646912) (nat_lit 4598738169498697728) (nat_lit 4361736239108325376) (nat_lit 4591419820104220672) (nat_lit 4598175219545276416) (nat_lit 4607182418800017407)]
noncomputable def ta1_2 : List L4 := [l4 (nat_lit 4604930618986332160) (nat_lit 4602960294149357568) (nat_lit 4598175219545276416) (nat_lit 4603272731373506395) (nat_lit 4597148736600207998) (nat_lit 13809468151839481802) (nat_lit 4604930618986332160) (nat_lit 4602960294149357566) (nat_lit 4598175219545276415) (nat_lit 4591419820104220667) (nat_lit 4602678819172646912) (nat_lit 4602678819172646912)]
noncomputable def ta1_3 : List L4 := [l4 (nat_lit 4607182418800017408) (nat_lit 4603241769126068224) (nat_lit 0) (nat_lit 4603866643574365880) (nat_lit 4601652336227578492) (nat_lit 13813971751466852308) (nat_lit 4607182418800017408) (nat_lit 4603241769126068224) (nat_lit 4366239838735695872) (nat_lit 4591419820104220672) (nat_lit 4602678819172646912) (nat_lit 4607182418800017407)]
noncomputable def ta1_4 : List L4 := [l4 (nat_lit 4606056518893174784) (nat_lit 4605071356474687488) (nat_lit 4603804719079489536) (nat_lit 4605227575086761902) (nat_lit 4592645136972837500) (nat_lit 13804964552212111316) (nat_lit 4606056518893174784) (nat_lit 4605071356474687488) (nat_lit 4603804719079489536) (nat_lit 4591419820104220672) (nat_lit 4604930618986332160) (nat_lit 4602678819172646912)]
noncomputable def ta1_5 : List L4 := [l4 (nat_lit 4607182418800017408) (nat_lit 4605212093963042816) (nat_lit 4602678819172646912) (nat_lit 4605524531187191645) (nat_lit 4597148736600207994) (nat_lit 13809468151839481828) (nat_lit 4607182418800017407) (nat_lit 4605212093963042818) (nat_lit 4602678819172646912) (nat_lit 4591419820104220679) (nat_lit 4604930618986332160) (nat_lit 4607182418800017406)]
theorem tk1 : okTails (hueOf 1) ta1_0 ta1_1 ta1_2 ta1_3 ta1_4 ta1_5 = true := by kernel_rfl
theorem ch1_0 : okHeads 1 0 ta1_0 ta1_1 ta1_2 ta1_3 ta1_4 ta1_5 (t3 (nat_lit 4600427019358961664) (nat_lit 4598456694521987072) (nat_lit 4593671619917905920)) (t3 (nat_lit 4602678819172646912) (nat_lit 4598738169498697728) (nat_lit 0)) (t3 (nat_lit 4604930618986332160) (nat_lit 4602960294149357568) (nat_lit 4598175219545276416)) (t3 (nat_lit 4607182418800017408) (nat_lit 4603241769126068224) (nat_lit 0)) (t3 (nat_lit 4606056518893174784) (nat_lit 4605071356474687488) (nat_lit 4603804719079489536)) (t3 (nat_lit 4607182418800017408) (nat_lit 4605212093963042816) (nat_lit 4602678819172646912)) = true := by kernel_rfl
theorem ch1_1 : okHeads 1 1 ta1_0 ta1_1 ta1_2 ta1_3 ta1_4 ta1_5 (t3 (nat_lit 4600427019358961664) (nat_lit 4598456694521987072) (nat_lit 4593671619917905920)) (t3 (nat_lit 4602678819172646912) (nat_lit 4598738169498697728) (nat_lit 0)) (t3 (nat_lit 4604930618986332160) (nat_lit 4602960294149357568) (nat_lit 4598175219545276416)) (t3 (nat_lit 4607182418800017408) (nat_lit 4603241769126068224) (nat_lit 0)) (t3 (nat_lit 4606056518893174784) (nat_lit 4605071356474687488) (nat_lit 4603804719079489536)) (t3 (nat_lit 4607182418800017408) (nat_lit 4605212093963042816) (nat_lit 4602678819172646912)) = true := by kernel_rfl
theorem ch1_2 : okHeads 1 2 ta1_0 ta1_1 ta1_2 ta1_3 ta1_4 ta1_5 (t3 (nat_lit 4600427019358961664) (nat_lit 4598456694521987072) (nat_lit 4593671619917905920)) (t3 (nat_lit 4602678819172646912) (nat_lit 4598738169498697728) (nat_lit 0)) (t3 (nat_lit 4604930618986332160) (nat_lit 4602960294149357568) (nat_lit 4598175219545276416)) (t3 (nat_lit 4607182418800017408) (nat_lit 4603241769126068224) (nat_lit 0)) (t3 (nat_lit 4606056518893174784) (nat_lit 4605071356474687488) (nat_lit 4603804719079489536)) (t3 (nat_lit 4607182418800017408) (nat_lit 4605212093963042816) (nat_lit 4602678819172646912)) = true := by kernel_rfl
theorem ch1_3 : okHeads 1 3 ta1_0 ta1_1 ta1_2 ta1_3 ta1_4 ta1_5 (t3 (nat_lit 4600427019358961664) (nat_lit 4598456694521987072) (nat_lit 4593671619917905920)) (t3 (nat_lit 4602678819172646912) (nat_lit 4598738169498697728) (nat_lit 0)) (t3 (nat_lit 4604930618986332160) (nat_lit 4602960294149357568) (nat_lit 4598175219545276416)) (t3 (nat_lit 4607182418800017408) (nat_lit 4603241769126068224) (nat_lit 0)) (t3 (nat_lit 4606056518893174784) (nat_lit 4605071356474687488) (nat_lit 4603804719079489536)) (t3 (nat_lit 4607182418800017408) (nat_lit 4605212093963042816) (nat_lit 4602678819172646912)) = true := by kernel_rfl
theorem ch1_4 : okHeads 1 4 ta1_0 ta1_1 ta1_2 ta1_3 ta1_4 ta1_5 (t3 (nat_lit 4600427019358961664) (nat_lit 4598456694521987072) (nat_lit 4593671619917905920)) (t3 (nat_lit 4602678819172646912) (nat_lit 4598738169498697728) (nat_lit 0)) (t3 (nat_lit 4604930618986332160) (nat_lit 4602960294149357568) (nat_lit 4598175219545276416)) (t3 (nat_lit 4607182418800017408) (nat_lit 4603241769126068224) (nat_lit 0)) (t3 (nat_lit 4606056518893174784) (nat_lit 4605071356474687488) (nat_lit 4603804719079489536)) (t3 (nat_lit 4607182418800017408) (nat_lit 4605212093963042816) (nat_lit 4602678819172646912)) = true := by kernel_rfl
noncomputable def ta2_0 : List L4 := [l4 (nat_lit 4600427019358961664) (nat_lit 4600145544382251008) (nat_lit 4593671619917905920) (nat_lit 4599765553163691621) (nat_lit 4590771864707832745) (nat_lit 13813067541251666996) (nat_lit 4600427019358961664) (nat_lit 4600145544382251006) (nat_lit 4593671619917905919) (nat_lit 4594797519824748541) (nat_lit 4598175219545276416) (nat_lit 4602678819172646912)]
noncomputable def ta2_1 : List L4 := [l4 (nat_lit 4602678819172646912) (nat_lit 4602115869219225600) (nat_lit 0) (nat_lit 4601355886782106828) (nat_lit 4595275464335203239) (nat_lit 13817571140879037496) (nat_lit 4602678819172646912) (nat_lit 4602115869219225598) (nat_lit 0) (nat_lit 4594797519824748543) (nat_lit 4598175219545276416) (nat_lit 4607182418800017408)]
noncomputable def ta2_2 : List L4 := [l4 (nat_lit 4604930618986332160) (nat_lit 4604649144009621504) (nat_lit 4598175219545276416) (nat_lit 4604269152791062117) (nat_lit 4595275464335203241) (nat_lit 13817571140879037492) (nat_lit 4604930618986332160) (nat_lit 4604649144009621502) (nat_lit 4598175219545276415) (nat_lit 4594797519824748541) (nat_lit 4602678819172646912) (nat_lit 4602678819172646912)]
noncomputable def ta2_3 : List L4 := [l4 (nat_lit 4607182418800017408) (nat_lit 4606619468846596096) (nat_lit 0) (nat_lit 4605859486409477324) (nat_lit 4599779063962573735) (nat_lit 13822074740506407992) (nat_lit 4607182418800017408) (nat_lit 4606619468846596094) (nat_lit 0) (nat_lit 4594797519824748543) (nat_lit 4602678819172646912) (nat_lit 4607182418800017408)]
noncomputable def ta2_4 : List L4 := [l4 (nat_lit 4606056518893174784) (nat_lit 4605915781404819456) (nat_lit 4603804719079489536) (nat_lit 4605725785795539763) (nat_lit 4590771864707832743) (nat_lit 13813067541251667000) (nat_lit 4606056518893174784) (nat_lit 4605915781404819455) (nat_lit 4603804719079489536) (nat_lit 4594797519824748541) (nat_lit 4604930618986332160) (nat_lit 4602678819172646912)]
noncomputable def ta2_5 : List L4 := [l4 (nat_lit 4607182418800017408) (nat_lit 4606900943823306752) (nat_lit 4602678819172646912) (nat_lit 4606520952604747367) (nat_lit 4595275464335203237) (nat_lit 13817571140879037499) (nat_lit 4607182418800017407) (nat_lit 4606900943823306753) (nat_lit 4602678819172646912) (nat_lit 4594797519824748547) (nat_lit 4604930618986332160) (nat_lit 4607182418800017406)]
theorem tk2 : okTails (hueOf 2) ta2_0 ta2_1 ta2_2 ta2_3 ta2_4 ta2_5 = true := by kernel_rfl
theorem ch2_0 : okHeads 2 0 ta2_0 ta2_1 ta2_2 ta2_3 ta2_4 ta2_5 (t3 (nat_lit 4600427019358961664) (nat_lit 4600145544382251008) (nat_lit 4593671619917905920)) (t3 (nat_lit 4602678819172646912) (nat_lit 4602115869219225600) (nat_lit 0)) (t3 (nat_lit 4604930618986332160) (nat_lit 4604649144009621504) (nat_lit 4598175219545276416)) (t3 (nat_lit 4607182418800017408) (nat_lit 4606619468846596096) (nat_lit 0)) (t3 (nat_lit 4606056518893174784) (nat_lit 4605915781404819456) (nat_lit 4603804719079489536)) (t3 (nat_lit 4607182418800017408) (nat_lit 4606900943823306752) (nat_lit 4602678819172646912)) = true := by kernel_rfl
theorem ch2_1 : okHeads 2 1 ta2_0 ta2_1 ta2_2 ta2_3 ta2_4 ta2_5 (t3 (nat_lit 4600427019358961664) (nat_lit 4600145544382251008) (nat_lit 4593671619917905920)) (t3 (nat_lit 4602678819172646912) (nat_lit 4602115869219225600) (nat_lit 0)) (t3 (nat_lit 4604930618986332160) (nat_lit 4604649144009621504) (nat_lit 4598175219545276416)) (t3 (nat_lit 4607182418800017408) (nat_lit 4606619468846596096) (nat_lit 0)) (t3 (nat_lit 4606056518893174784) (nat_lit 4605915781404819456) (nat_lit 4603804719079489536)) (t3 (nat_lit 4607182418800017408) (nat_lit 4606900943823306752) (nat_lit 4602678819172646912)) = true := by kernel_rfl
theorem ch2_2 : okHeads 2 2 ta2_0 ta2_1 ta2_2 ta2_3 ta2_4 ta2_5 (t3 (nat_lit 4600427019358961664) (nat_lit 4600145544382251008) (nat_lit 4593671619917905920)) (t3 (nat_lit 4602678819172646912) (nat_lit 4602115869219225600) (nat_lit 0)) (t3 (nat_lit 4604930618986332160) (nat_lit 4604649144009621504) (nat_lit 4598175219545276416)) (t3 (nat_lit 4607182418800017408) (nat_lit 4606619468846596096) (nat_lit 0)) (t3 (nat_lit 4606056518893174784) (nat_lit 4605915781404819456) (nat_lit 4603804719079489536)) (t3 (nat_lit 4607182418800017408) (nat_lit 4606900943823306752) (nat_lit 4602678819172646912)) = true := by kernel_rfl
theorem ch2_3 : okHeads 2 3 ta2_0 ta2_1 ta2_2 ta2_3 ta2_4 ta2_5 (t3 (nat_lit 4600427019358961664) (nat_lit 4600145544382251008) (nat_lit 4593671619917905920)) (t3 (nat_lit 4602678819172646912) (nat_lit 4602115869219225600) (nat_lit 0)) (t3 (nat_lit 4604930618986332160) (nat_lit 4604649144009621504) (nat_lit 4598175219545276416)) (t3 (nat_lit 4607182418800017408) (nat_lit 4606619468846596096) (nat_lit 0)) (t3 (nat_lit 4606056518893174784) (nat_lit 4605915781404819456) (nat_lit 4603804719079489536)) (t3 (nat_lit 4607182418800017408) (nat_lit 4606900943823306752) (nat_lit 4602678819172646912)) = true := by kernel_rfl
theorem ch2_4 : okHeads 2 4 ta2_0 ta2_1 ta2_2 ta2_3 ta2_4 ta2_5 (t3 (nat_lit 4600427019358961664) (nat_lit 4600145544382251008) (nat_lit 4593671619917905920)) (t3 (nat_lit 4602678819172646912) (nat_lit 4602115869219225600) (nat_lit 0)) (t3 (nat_lit 4604930618986332160) (nat_lit 4604649144009621504) (nat_lit 4598175219545276416)) (t3 (nat_lit 4607182418800017408) (nat_lit 4606619468846596096) (nat_lit 0)) (t3 (nat_lit 4606056518893174784) (nat_lit 4605915781404819456) (nat_lit 4603804719079489536)) (t3 (nat_lit 4607182418800017408) (nat_lit 4606900943823306752) (nat_lit 4602678819172646912)) = true := by kernel_rfl
noncomputable def ta3_0 : List L4 := [l4 (nat_lit 4599019644475408385) (nat_lit 4600427019358961664) (nat_lit 4593671619917905920) (nat_lit 4599509410934884925) (nat_lit 4585007144594807831) (nat_lit 13814857834693537454) (nat_lit 4599019644475408385) (nat_lit 4600427019358961663) (nat_lit 4593671619917905918) (nat_lit 4597049319638433789) (nat_lit 4598175219545276414) (nat_lit 4602678819172646913), l4 (nat_lit 4599019644475408379) (nat_lit 4600427019358961664) (nat_lit 4593671619917905920) (nat_lit 4599509410934884924) (nat_lit 4585007144594807798) (nat_lit 13814857834693537461) (nat_lit 4599019644475408379) (nat_lit 4600427019358961664) (nat_lit 4593671619917905921) (nat_lit 4597049319638433800) (nat_lit 4598175219545276416) (nat_lit 4602678819172646911)]
noncomputable def ta3_1 : List L4 := [l4 (nat_lit 4599864069405540354) (nat_lit 4602678819172646912) (nat_lit 0) (nat_lit 4600843602324493435) (nat_lit 4589510744222178326) (nat_lit 13819361434320907952) (nat_lit 4599864069405540354) (nat_lit 4602678819172646911) (nat_lit 0) (nat_lit 4597049319638433789) (nat_lit 4598175219545276415) (nat_lit 4607182418800017408), l4 (nat_lit 4599864069405540342) (nat_lit 4602678819172646912) (nat_lit 0) (nat_lit 4600843602324493432) (nat_lit 4589510744222178294) (nat_lit 13819361434320907957) (nat_lit 4599864069405540342) (nat_lit 4602678819172646912) (nat_lit 4363988038922010624) (nat_lit 4597049319638433800) (nat_lit 4598175219545276416) (nat_lit 4607182418800017407)]
noncomputable def ta3_2 : List L4 := [l4 (nat_lit 4603523244102778881) (nat_lit 4604930618986332160) (nat_lit 4598175219545276416) (nat_lit 4604013010562255421) (nat_lit 4589510744222178327) (nat_lit 13819361434320907950) (nat_lit 4603523244102778881) (nat_lit 4604930618986332159) (nat_lit 4598175219545276414) (nat_lit 4597049319638433789) (nat_lit 4602678819172646910) (nat_lit 4602678819172646913), l4 (nat_lit 4603523244102778875) (nat_lit 4604930618986332160) (nat_lit 4598175219545276416) (nat_lit 4604013010562255420) (nat_lit 4589510744222178294) (nat_lit 13819361434320907957) (nat_lit 4603523244102778875) (nat_lit 4604930618986332160) (nat_lit 4598175219545276417) (nat_lit 4597049319638433800) (nat_lit 4602678819172646912) (nat_lit 4602678819172646911)]
noncomputable def ta3_3 : List L4 := [l4 (nat_lit 4604367669032910850) (nat_lit 4607182418800017408) (nat_lit 0) (nat_lit 4605347201951863931) (nat_lit 4594014343849548822) (nat_lit 13823865033948278448) (nat_lit 4604367669032910850) (nat_lit 4607182418800017407) (nat_lit 0) (nat_lit 4597049319638433789) (nat_lit 4602678819172646911) (nat_lit 4607182418800017408), l4 (nat_lit 4604367669032910838) (nat_lit 4607182418800017408) (nat_lit 0) (nat_lit 4605347201951863928) (nat_lit 4594014343849548790) (nat_lit 13823865033948278453) (nat_lit 4604367669032910838) (nat_lit 4607182418800017408) (nat_lit 4368491638549381120) (nat_lit 4597049319638433800) (nat_lit 4602678819172646912) (nat_lit 4607182418800017407)]
noncomputable def ta3_4 : List L4 := [l4 (nat_lit 4605352831451398144) (nat_lit 4606056518893174784) (nat_lit 4603804719079489536) (nat_lit 4605597714681136414) (nat_lit 4585007144594807828) (nat_lit 13814857834693537452) (nat_lit 4605352831451398144) (nat_lit 4606056518893174783) (nat_lit 4603804719079489536) (nat_lit 4597049319638433789) (nat_lit 4604930618986332160) (nat_lit 4602678819172646908), l4 (nat_lit 4605352831451398142) (nat_lit 4606056518893174784) (nat_lit 4603804719079489536) (nat_lit 4605597714681136414) (nat_lit 4585007144594807804) (nat_lit 13814857834693537460) (nat_lit 4605352831451398142) (nat_lit 4606056518893174784) (nat_lit 4603804719079489536) (nat_lit 4597049319638433797) (nat_lit 4604930618986332160) (nat_lit 4602678819172646912)]
noncomputable def ta3_5 : List L4 := [l4 (nat_lit 4605775043916464129) (nat_lit 4607182418800017408) (nat_lit 4602678819172646912) (nat_lit 4606264810375940670) (nat_lit 4589510744222178324) (nat_lit 13819361434320907954) (nat_lit 4605775043916464129) (nat_lit 4607182418800017408) (nat_lit 4602678819172646912) (nat_lit 4597049319638433792) (nat_lit 4604930618986332160) (nat_lit 4607182418800017408), l4 (nat_lit 4605775043916464123) (nat_lit 4607182418800017408) (nat_lit 4602678819172646912) (nat_lit 4606264810375940668) (nat_lit 4589510744222178294) (nat_lit 13819361434320907957) (nat_lit 4605775043916464123) (nat_lit 4607182418800017408) (nat_lit 4602678819172646912) (nat_lit 4597049319638433797) (nat_lit 4604930618986332160) (nat_lit 4607182418800017408)]
theorem tk3 : okTails (hueOf 3) ta3_0 ta3_1 ta3_2 ta3_3 ta3_4 ta3_5 = true := by kernel_rfl
theorem ch3_0 : okHeads 3 0 ta3_0 ta3_1 ta3_2 ta3_3 ta3_4 ta3_5 (t3 (nat_lit 4599019644475408385) (nat_lit 4600427019358961664) (nat_lit 4593671619917905920)) (t3 (nat_lit 4599864069405540354) (nat_lit 4602678819172646912) (nat_lit 0)) (t3 (nat_lit 4603523244102778881) (nat_lit 4604930618986332160) (nat_lit 4598175219545276416)) (t3 (nat_lit 4604367669032910850) (nat_lit 4607182418800017408) (nat_lit 0)) (t3 (nat_lit 4605352831451398144) (nat_lit 4606056518893174784) (nat_lit 4603804719079489536)) (t3 (nat_lit 4605775043916464129) (nat_lit 4607182418800017408) (nat_lit 4602678819172646912)) = true := by kernel_rfl
theorem ch3_1 : okHeads 3 1 ta3_0 ta3_1 ta3_2 ta3_3 ta3_4 ta3_5 (t3 (nat_lit 4599019644475408385) (nat_lit 4600427019358961664) (nat_lit 4593671619917905920)) (t3 (nat_lit 4599864069405540354) (nat_lit 4602678819172646912) (nat_lit 0)) (t3 (nat_lit 4603523244102778881) (nat_lit 4604930618986332160) (nat_lit 4598175219545276416)) (t3 (nat_lit 4604367669032910850) (nat_lit 4607182418800017408) (nat_lit 0)) (t3 (nat_lit 4605352831451398144) (nat_lit 4606056518893174784) (nat_lit 4603804719079489536)) (t3 (nat_lit 4605775043916464129) (nat_lit 4607182418800017408) (nat_lit 4602678819172646912)) = true := by kernel_rfl
theorem ch3_2 : okHeads 3 2 ta3_0 ta3_1 ta3_2 ta3_3 ta3_4 ta3_5 (t3 (nat_lit 4599019644475408385) (nat_lit 4600427019358961664) (nat_lit 4593671619917905920)) (t3 (nat_lit 4599864069405540354) (nat_lit 4602678819172646912) (nat_lit 0)) (t3 (nat_lit 4603523244102778881) (nat_lit 4604930618986332160) (nat_lit 4598175219545276416)) (t3 (nat_lit 4604367669032910850) (nat_lit 4607182418800017408) (nat_lit 0)) (t3 (nat_lit 4605352831451398144) (nat_lit 4606056518893174784) (nat_lit 4603804719079489536)) (t3 (nat_lit 4605775043916464129) (nat_lit 4607182418800017408) (nat_lit 4602678819172646912)) = true := by kernel_rfl
theorem ch3_3 : okHeads 3 3 ta3_0 ta3_1 ta3_2 ta3_3 ta3_4 ta3_5 (t3 (nat_lit 4599019644475408385) (nat_lit 4600427019358961664) (nat_lit 4593671619917905920)) (t3 (nat_lit 4599864069405540354) (nat_lit 4602678819172646912) (nat_lit 0)) (t3 (nat_lit 4603523244102778881) (nat_lit 4604930618986332160) (nat_lit 4598175219545276416)) (t3 (nat_lit 4604367669032910850) (nat_lit 4607182418800017408) (nat_lit 0)) (t3 (nat_lit 4605352831451398144) (nat_lit 4606056518893174784) (nat_lit 4603804719079489536)) (t3 (nat_lit 4605775043916464129) (nat_lit 4607182418800017408) (nat_lit 4602678819172646912)) = true := by kernel_rfl
theorem ch3_4 : okHeads 3 4 ta3_0 ta3_1 ta3_2 ta3_3 ta3_4 ta3_5 (t3 (nat_lit 4599019644475408379) (nat_lit 4600427019358961664) (nat_lit 4593671619917905920)) (t3 (nat_lit 4599864069405540342) (nat_lit 4602678819172646912) (nat_lit 0)) (t3 (nat_lit 4603523244102778875) (nat_lit 4604930618986332160) (nat_lit 4598175219545276416)) (t3 (nat_lit 4604367669032910838) (nat_lit 4607182418800017408) (nat_lit 0)) (t3 (nat_lit 4605352831451398142) (nat_lit 4606056518893174784) (nat_lit 4603804719079489536)) (t3 (nat_lit 4605775043916464123) (nat_lit 4607182418800017408) (nat_lit 4602678819172646912)) = true := by kernel_rfl
noncomputable def ta4_0 : List L4 := [l4 (nat_lit 4596486369685012482) (nat_lit 4600427019358961664) (nat_lit 4593671619917905920) (nat_lit 4599002755976805745) (nat_lit 13805522548205942514) (nat_lit 13816296734774482330) (nat_lit 4596486369685012482) (nat_lit 4600427019358961664) (nat_lit 4593671619917905920) (nat_lit 4598738169498697728) (nat_lit 4598175219545276416) (nat_lit 4602678819172646912), l4 (nat_lit 4596486369685012470) (nat_lit 4600427019358961664) (nat_lit 4593671619917905920) (nat_lit 4599002755976805743) (nat_lit 13805522548205942572) (nat_lit 13816296734774482335) (nat_lit 4596486369685012470) (nat_lit 4600427019358961664) (nat_lit 4593671619917905920) (nat_lit 4598738169498697731) (nat_lit 4598175219545276416) (nat_lit 4602678819172646912)]
noncomputable def ta4_1 : List L4 := [l4 (nat_lit 4594797519824748548) (nat_lit 4602678819172646912) (nat_lit 0) (nat_lit 4599830292408335074) (nat_lit 13810026147833313010) (nat_lit 13820800334401852826) (nat_lit 4594797519824748549) (nat_lit 4602678819172646912) (nat_lit 0) (nat_lit 4598738169498697728) (nat_lit 4598175219545276416) (nat_lit 4607182418800017408), l4 (nat_lit 4594797519824748524) (nat_lit 4602678819172646912) (nat_lit 0) (nat_lit 4599830292408335070) (nat_lit 13810026147833313068) (nat_lit 13820800334401852831) (nat_lit 4594797519824748524) (nat_lit 4602678819172646911) (nat_lit 0) (nat_lit 4598738169498697731) (nat_lit 4598175219545276415) (nat_lit 4607182418800017408)]
noncomputable def ta4_2 : List L4 := [l4 (nat_lit 4600989969312382978) (nat_lit 4604930618986332160) (nat_lit 4598175219545276416) (nat_lit 4603506355604176241) (nat_lit 13810026147833313010) (nat_lit 13820800334401852826) (nat_lit 4600989969312382978) (nat_lit 4604930618986332160) (nat_lit 4598175219545276416) (nat_lit 4598738169498697728) (nat_lit 4602678819172646912) (nat_lit 4602678819172646912), l4 (nat_lit 4600989969312382966) (nat_lit 4604930618986332160) (nat_lit 4598175219545276416) (nat_lit 4603506355604176239) (nat_lit 13810026147833313068) (nat_lit 13820800334401852831) (nat_lit 4600989969312382966) (nat_lit 4604930618986332160) (nat_lit 4598175219545276416) (nat_lit 4598738169498697731) (nat_lit 4602678819172646912) (nat_lit 4602678819172646912)]
noncomputable def ta4_3 : List L4 := [l4 (nat_lit 4599301119452119044) (nat_lit 4607182418800017408) (nat_lit 0) (nat_lit 4604333892035705570) (nat_lit 13814529747460683506) (nat_lit 13825303934029223322) (nat_lit 4599301119452119045) (nat_lit 4607182418800017408) (nat_lit 0) (nat_lit 4598738169498697728) (nat_lit 4602678819172646912) (nat_lit 4607182418800017408), l4 (nat_lit 4599301119452119020) (nat_lit 4607182418800017408) (nat_lit 0) (nat_lit 4604333892035705566) (nat_lit 13814529747460683564) (nat_lit 13825303934029223327) (nat_lit 4599301119452119020) (nat_lit 4607182418800017407) (nat_lit 0) (nat_lit 4598738169498697731) (nat_lit 4602678819172646911) (nat_lit 4607182418800017408)]
noncomputable def ta4_4 : List L4 := [l4 (nat_lit 4604508406521266176) (nat_lit 4606056518893174784) (nat_lit 4603804719079489536) (nat_lit 4605344387202096824) (nat_lit 13805522548205942518) (nat_lit 13816296734774482328) (nat_lit 4604508406521266176) (nat_lit 4606056518893174783) (nat_lit 4603804719079489536) (nat_lit 4598738169498697728) (nat_lit 4604930618986332160) (nat_lit 4602678819172646908), l4 (nat_lit 4604508406521266174) (nat_lit 4606056518893174784) (nat_lit 4603804719079489536) (nat_lit 4605344387202096823) (nat_lit 13805522548205942552) (nat_lit 13816296734774482329) (nat_lit 4604508406521266174) (nat_lit 4606056518893174783) (nat_lit 4603804719079489536) (nat_lit 4598738169498697731) (nat_lit 4604930618986332160) (nat_lit 4602678819172646908)]
noncomputable def ta4_5 : List L4 := [l4 (nat_lit 4604086194056200193) (nat_lit 4607182418800017408) (nat_lit 4602678819172646912) (nat_lit 4605758155417861489) (nat_lit 13810026147833313010) (nat_lit 13820800334401852826) (nat_lit 4604086194056200193) (nat_lit 4607182418800017408) (nat_lit 4602678819172646912) (nat_lit 4598738169498697728) (nat_lit 4604930618986332160) (nat_lit 4607182418800017408), l4 (nat_lit 4604086194056200187) (nat_lit 4607182418800017408) (nat_lit 4602678819172646912) (nat_lit 4605758155417861487) (nat_lit 13810026147833313068) (nat_lit 13820800334401852831) (nat_lit 4604086194056200187) (nat_lit 4607182418800017408) (nat_lit 4602678819172646912) (nat_lit 4598738169498697731) (nat_lit 4604930618986332160) (nat_lit 4607182418800017408)]
theorem tk4 : okTails (hueOf 4) ta4_0 ta4_1 ta4_2 ta4_3 ta4_4 ta4_5 = true := by kernel_rfl
theorem ch4_0 : okHeads 4 0 ta4_0 ta4_1 ta4_2 ta4_3 ta4_4 ta4_5 (t3 (nat_lit 4596486369685012482) (nat_lit 4600427019358961664) (nat_lit 4593671619917905920)) (t3 (nat_lit 4594797519824748548) (nat_lit 4602678819172646912) (nat_lit 0)) (t3 (nat_lit 4600989969312382978) (nat_lit 4604930618986332160) (nat_lit 4598175219545276416)) (t3 (nat_lit 4599301119452119044) (nat_lit 4607182418800017408) (nat_lit 0)) (t3 (nat_lit 4604508406521266176) (nat_lit 4606056518893174784) (nat_lit 4603804719079489536)) (t3 (nat_lit 4604086194056200193) (nat_lit 4607182418800017408) (nat_lit 4602678819172646912)) = true := by kernel_rfl
theorem ch4_1 : okHeads 4 1 ta4_0 ta4_1 ta4_2 ta4_3 ta4_4 ta4_5 (t3 (nat_lit 4596486369685012482) (nat_lit 4600427019358961664) (nat_lit 4593671619917905920)) (t3 (nat_lit 4594797519824748548) (nat_lit 4602678819172646912) (nat_lit 0)) (t3 (nat_lit 4600989969312382978) (nat_lit 4604930618986332160) (nat_lit 4598175219545276416)) (t3 (nat_lit 4599301119452119044) (nat_lit 4607182418800017408) (nat_lit 0)) (t3 (nat_lit 4604508406521266176) (nat_lit 4606056518893174784) (nat_lit 4603804719079489536)) (t3 (nat_lit 4604086194056200193) (nat_lit 4607182418800017408) (nat_lit 4602678819172646912)) = true := by kernel_rfl
theorem ch4_2 : okHeads 4 2 ta4_0 ta4_1 ta4_2 ta4_3 ta4_4 ta4_5 (t3 (nat_lit 4596486369685012482) (nat_lit 4600427019358961664) (nat_lit 4593671619917905920)) (t3 (nat_lit 4594797519824748548) (nat_lit 4602678819172646912) (nat_lit 0)) (t3 (nat_lit 4600989969312382978) (nat_lit 4604930618986332160) (nat_lit 4598175219545276416)) (t3 (nat_lit 4599301119452119044) (nat_lit 4607182418800017408) (nat_lit 0)) (t3 (nat_lit 4604508406521266176) (nat_lit 4606056518893174784) (nat_lit 4603804719079489536)) (t3 (nat_lit 4604086194056200193) (nat_lit 4607182418800017408) (nat_lit 4602678819172646912)) = true := by kernel_rfl
theorem ch4_3 : okHeads 4 3 ta4_0 ta4_1 ta4_2 ta4_3 ta4_4 ta4_5 (t3 (nat_lit 4596486369685012482) (nat_lit 4600427019358961664) (nat_lit 4593671619917905920)) (t3 (nat_lit 4594797519824748548) (nat_lit 4602678819172646912) (nat_lit 0)) (t3 (nat_lit 4600989969312382978) (nat_lit 4604930618986332160) (nat_lit 4598175219545276416)) (t3 (nat_lit 4599301119452119044) (nat_lit 4607182418800017408) (nat_lit 0)) (t3 (nat_lit 4604508406521266176) (nat_lit 4606056518893174784) (nat_lit 4603804719079489536)) (t3 (nat_lit 4604086194056200193) (nat_lit 4607182418800017408) (nat_lit 4602678819172646912)) = true := by kernel_rfl
theorem ch4_4 : okHeads 4 4 ta4_0 ta4_1 ta4_2 ta4_3 ta4_4 ta4_5 (t3 (nat_lit 4596486369685012470) (nat_lit 4600427019358961664) (nat_lit 4593671619917905920)) (t3 (nat_lit 4594797519824748524) (nat_lit 4602678819172646912) (nat_lit 0)) (t3 (nat_lit 4600989969312382966) (nat_lit 4604930618986332160) (nat_lit 4598175219545276416)) (t3 (nat_lit 4599301119452119020) (nat_lit 4607182418800017408) (nat_lit 0)) (t3 (nat_lit 4604508406521266174) (nat_lit 4606056518893174784) (nat_lit 4603804719079489536)) (t3 (nat_lit 4604086194056200187) (nat_lit 4607182418800017408) (nat_lit 4602678819172646912)) = true := by kernel_rfl
noncomputable def ta5_0 : List L4 := [l4 (nat_lit 4593671619917905920) (nat_lit 4600427019358961664) (nat_lit 4594234569871327236) (nat_lit 4598611505759177933) (nat_lit 13813394052224651364) (nat_lit 13817094040793512934) (nat_lit 4593671619917905919) (nat_lit 4600427019358961664) (nat_lit 4594234569871327234) (nat_lit 4599864069405540352) (nat_lit 4598175219545276416) (nat_lit 4602678819172646912), l4 (nat_lit 4593671619917905920) (nat_lit 4600427019358961664) (nat_lit 4594234569871327233) (nat_lit 4598611505759177932) (nat_lit 13813394052224651360) (nat_lit 13817094040793512934) (nat_lit 4593671619917905919) (nat_lit 4600427019358961662) (nat_lit 4594234569871327230) (nat_lit 4599864069405540352) (nat_lit 4598175219545276414) (nat_lit 4602678819172646910), l4 (nat_lit 4593671619917905920) (nat_lit 4600427019358961664) (nat_lit 4594234569871327224) (nat_lit 4598611505759177932) (nat_lit 13813394052224651356) (nat_lit 13817094040793512937) (nat_lit 4593671619917905919) (nat_lit 4600427019358961663) (nat_lit 4594234569871327223) (nat_lit 4599864069405540349) (nat_lit 4598175219545276415) (nat_lit 4602678819172646911)]
noncomputable def ta5_1 : List L4 := [l4 (nat_lit 0) (nat_lit 4602678819172646912) (nat_lit 4584664420663164960) (nat_lit 4599047791973079450) (nat_lit 13817897651852021860) (nat_lit 13821597640420883430) (nat_lit 0) (nat_lit 4602678819172646912) (nat_lit 4584664420663164952) (nat_lit 4599864069405540353) (nat_lit 4598175219545276416) (nat_lit 4607182418800017408), l4 (nat_lit 0) (nat_lit 4602678819172646912) (nat_lit 4584664420663164936) (nat_lit 4599047791973079449) (nat_lit 13817897651852021858) (nat_lit 13821597640420883430) (nat_lit 0) (nat_lit 4602678819172646910) (nat_lit 4584664420663164928) (nat_lit 4599864069405540352) (nat_lit 4598175219545276414) (nat_lit 4607182418800017408), l4 (nat_lit 0) (nat_lit 4602678819172646912) (nat_lit 4584664420663164800) (nat_lit 4599047791973079448) (nat_lit 13817897651852021852) (nat_lit 13821597640420883433) (nat_lit 0) (nat_lit 4602678819172646910) (nat_lit 4584664420663164784) (nat_lit 4599864069405540349) (nat_lit 4598175219545276414) (nat_lit 4607182418800017408)]
noncomputable def ta5_2 : List L4 := [l4 (nat_lit 4598175219545276416) (nat_lit 4604930618986332160) (nat_lit 4598738169498697732) (nat_lit 4603115105386548429) (nat_lit 13817897651852021860) (nat_lit 13821597640420883430) (nat_lit 4598175219545276415) (nat_lit 4604930618986332160) (nat_lit 4598738169498697730) (nat_lit 4599864069405540352) (nat_lit 4602678819172646912) (nat_lit 4602678819172646912), l4 (nat_lit 4598175219545276416) (nat_lit 4604930618986332160) (nat_lit 4598738169498697729) (nat_lit 4603115105386548428) (nat_lit 13817897651852021856) (nat_lit 13821597640420883430) (nat_lit 4598175219545276415) (nat_lit 4604930618986332158) (nat_lit 4598738169498697726) (nat_lit 4599864069405540352) (nat_lit 4602678819172646910) (nat_lit 4602678819172646910), l4 (nat_lit 4598175219545276416) (nat_lit 4604930618986332160) (nat_lit 4598738169498697720) (nat_lit 4603115105386548428) (nat_lit 13817897651852021852) (nat_lit 13821597640420883433) (nat_lit 4598175219545276415) (nat_lit 4604930618986332159) (nat_lit 4598738169498697719) (nat_lit 4599864069405540349) (nat_lit 4602678819172646911) (nat_lit 4602678819172646911)]
noncomputable def ta5_3 : List L4 := [l4 (nat_lit 0) (nat_lit 4607182418800017408) (nat_lit 4589168020290535456) (nat_lit 4603551391600449946) (nat_lit 13822401251479392356) (nat_lit 13826101240048253926) (nat_lit 0) (nat_lit 4607182418800017408) (nat_lit 4589168020290535448) (nat_lit 4599864069405540353) (nat_lit 4602678819172646912) (nat_lit 4607182418800017408), l4 (nat_lit 0) (nat_lit 4607182418800017408) (nat_lit 4589168020290535432) (nat_lit 4603551391600449945) (nat_lit 13822401251479392354) (nat_lit 13826101240048253926) (nat_lit 0) (nat_lit 4607182418800017406) (nat_lit 4589168020290535424) (nat_lit 4599864069405540352) (nat_lit 4602678819172646910) (nat_lit 4607182418800017408), l4 (nat_lit 0) (nat_lit 4607182418800017408) (nat_lit 4589168020290535296) (nat_lit 4603551391600449944) (nat_lit 13822401251479392348) (nat_lit 13826101240048253929) (nat_lit 0) (nat_lit 4607182418800017406) (nat_lit 4589168020290535280) (nat_lit 4599864069405540349) (nat_lit 4602678819172646910) (nat_lit 4607182418800017408)]
noncomputable def ta5_4 : List L4 := [l4 (nat_lit 4603804719079489536) (nat_lit 4606056518893174784) (nat_lit 4603945456567844865) (nat_lit 4605148762093282918) (nat_lit 13813394052224651362) (nat_lit 13817094040793512932) (nat_lit 4603804719079489536) (nat_lit 4606056518893174783) (nat_lit 4603945456567844864) (nat_lit 4599864069405540352) (nat_lit 4604930618986332160) (nat_lit 4602678819172646908), l4 (nat_lit 4603804719079489536) (nat_lit 4606056518893174784) (nat_lit 4603945456567844864) (nat_lit 4605148762093282918) (nat_lit 13813394052224651360) (nat_lit 13817094040793512934) (nat_lit 4603804719079489536) (nat_lit 4606056518893174784) (nat_lit 4603945456567844864) (nat_lit 4599864069405540352) (nat_lit 4604930618986332160) (nat_lit 4602678819172646912), l4 (nat_lit 4603804719079489536) (nat_lit 4606056518893174784) (nat_lit 4603945456567844862) (nat_lit 4605148762093282918) (nat_lit 13813394052224651356) (nat_lit 13817094040793512937) (nat_lit 4603804719079489536) (nat_lit 4606056518893174784) (nat_lit 4603945456567844862) (nat_lit 4599864069405540349) (nat_lit 4604930618986332160) (nat_lit 4602678819172646912)]
noncomputable def ta5_5 : List L4 := [l4 (nat_lit 4602678819172646912) (nat_lit 4607182418800017408) (nat_lit 4602960294149357570) (nat_lit 4605366905200233677) (nat_lit 13817897651852021860) (nat_lit 13821597640420883430) (nat_lit 4602678819172646912) (nat_lit 4607182418800017408) (nat_lit 4602960294149357569) (nat_lit 4599864069405540352) (nat_lit 4604930618986332160) (nat_lit 4607182418800017408), l4 (nat_lit 4602678819172646912) (nat_lit 4607182418800017408) (nat_lit 4602960294149357568) (nat_lit 4605366905200233677) (nat_lit 13817897651852021858) (nat_lit 13821597640420883432) (nat_lit 4602678819172646912) (nat_lit 4607182418800017408) (nat_lit 4602960294149357568) (nat_lit 4599864069405540352) (nat_lit 4604930618986332160) (nat_lit 4607182418800017408), l4 (nat_lit 4602678819172646912) (nat_lit 4607182418800017408) (nat_lit 4602960294149357564) (nat_lit 4605366905200233676) (nat_lit 13817897651852021852) (nat_lit 13821597640420883433) (nat_lit 4602678819172646912) (nat_lit 4607182418800017407) (nat_lit 4602960294149357564) (nat_lit 4599864069405540349) (nat_lit 4604930618986332160) (nat_lit 4607182418800017406)]
theorem tk5 : okTails (hueOf 5) ta5_0 ta5_1 ta5_2 ta5_3 ta5_4 ta5_5 = true := by kernel_rfl
theorem ch5_0 : okHeads 5 0 ta5_0 ta5_1 ta5_2 ta5_3 ta5_4 ta5_5 (t3 (nat_lit 4593671619917905920) (nat_lit 4600427019358961664) (nat_lit 4594234569871327236)) (t3 (nat_lit 0) (nat_lit 4602678819172646912) (nat_lit 4584664420663164960)) (t3 (nat_lit 4598175219545276416) (nat_lit 4604930618986332160) (nat_lit 4598738169498697732)) (t3 (nat_lit 0) (nat_lit 4607182418800017408) (nat_lit 4589168020290535456)) (t3 (nat_lit 4603804719079489536) (nat_lit 4606056518893174784) (nat_lit 4603945456567844865)) (t3 (nat_lit 4602678819172646912) (nat_lit 4607182418800017408) (nat_lit 4602960294149357570)) = true := by kernel_rfl
theorem ch5_1 : okHeads 5 1 ta5_0 ta5_1 ta5_2 ta5_3 ta5_4 ta5_5 (t3 (nat_lit 4593671619917905920) (nat_lit 4600427019358961664) (nat_lit 4594234569871327236)) (t3 (nat_lit 0) (nat_lit 4602678819172646912) (nat_lit 4584664420663164960)) (t3 (nat_lit 4598175219545276416) (nat_lit 4604930618986332160) (nat_lit 4598738169498697732)) (t3 (nat_lit 0) (nat_lit 4607182418800017408) (nat_lit 4589168020290535456)) (t3 (nat_lit 4603804719079489536) (nat_lit 4606056518893174784) (nat_lit 4603945456567844865)) (t3 (nat_lit 4602678819172646912) (nat_lit 4607182418800017408) (nat_lit 4602960294149357570)) = true := by kernel_rfl
theorem ch5_2 : okHeads 5 2 ta5_0 ta5_1 ta5_2 ta5_3 ta5_4 ta5_5 (t3 (nat_lit 4593671619917905920) (nat_lit 4600427019358961664) (nat_lit 4594234569871327233)) (t3 (nat_lit 0) (nat_lit 4602678819172646912) (nat_lit 4584664420663164936)) (t3 (nat_lit 4598175219545276416) (nat_lit 4604930618986332160) (nat_lit 4598738169498697729)) (t3 (nat_lit 0) (nat_lit 4607182418800017408) (nat_lit 4589168020290535432)) (t3 (nat_lit 4603804719079489536) (nat_lit 4606056518893174784) (nat_lit 4603945456567844864)) (t3 (nat_lit 4602678819172646912) (nat_lit 4607182418800017408) (nat_lit 4602960294149357568)) = true := by kernel_rfl
theorem ch5_3 : okHeads 5 3 ta5_0 ta5_1 ta5_2 ta5_3 ta5_4 ta5_5 (t3 (nat_lit 4593671619917905920) (nat_lit 4600427019358961664) (nat_lit 4594234569871327236)) (t3 (nat_lit 0) (nat_lit 4602678819172646912) (nat_lit 4584664420663164960)) (t3 (nat_lit 4598175219545276416) (nat_lit 4604930618986332160) (nat_lit 4598738169498697732)) (t3 (nat_lit 0) (nat_lit 4607182418800017408) (nat_lit 4589168020290535456)) (t3 (nat_lit 4603804719079489536) (nat_lit 4606056518893174784) (nat_lit 4603945456567844865)) (t3 (nat_lit 4602678819172646912) (nat_lit 4607182418800017408) (nat_lit 4602960294149357570)) = true := by kernel_rfl
theorem ch5_4 : okHeads 5 4 ta5_0 ta5_1 ta5_2 ta5_3 ta5_4 ta5_5 (t3 (nat_lit 4593671619917905920) (nat_lit 4600427019358961664) (nat_lit 4594234569871327224)) (t3 (nat_lit 0) (nat_lit 4602678819172646912) (nat_lit 4584664420663164800)) (t3 (nat_lit 4598175219545276416) (nat_lit 4604930618986332160) (nat_lit 4598738169498697720)) (t3 (nat_lit 0) (nat_lit 4607182418800017408) (nat_lit 4589168020290535296)) (t3 (nat_lit 4603804719079489536) (nat_lit 4606056518893174784) (nat_lit 4603945456567844862)) (t3 (nat_lit 4602678819172646912) (nat_lit 4607182418800017408) (nat_lit 4602960294149357564)) = true := by kernel_rfl
noncomputable def ta6_0 : List L4 := [l4 (nat_lit 4593671619917905920) (nat_lit 4600427019358961664) (nat_lit 4597612269591855108) (nat_lit 4598797279243806966) (nat_lit 13815567264224838998) (nat_lit 13815036064648790642) (nat_lit 4593671619917905920) (nat_lit 4600427019358961664) (nat_lit 4597612269591855109) (nat_lit 4600989969312382977) (nat_lit 4598175219545276416) (nat_lit 4602678819172646912), l4 (nat_lit 4593671619917905920) (nat_lit 4600427019358961664) (nat_lit 4597612269591855105) (nat_lit 4598797279243806965) (nat_lit 13815567264224838994) (nat_lit 13815036064648790641) (nat_lit 4593671619917905920) (nat_lit 4600427019358961662) (nat_lit 4597612269591855106) (nat_lit 4600989969312382977) (nat_lit 4598175219545276414) (nat_lit 4602678819172646910), l4 (nat_lit 4593671619917905920) (nat_lit 4600427019358961664) (nat_lit 4597612269591855096) (nat_lit 4598797279243806965) (nat_lit 13815567264224838989) (nat_lit 13815036064648790649) (nat_lit 4593671619917905920) (nat_lit 4600427019358961664) (nat_lit 4597612269591855095) (nat_lit 4600989969312382973) (nat_lit 4598175219545276416) (nat_lit 4602678819172646912)]
noncomputable def ta6_1 : List L4 := [l4 (nat_lit 0) (nat_lit 4602678819172646912) (nat_lit 4597049319638433800) (nat_lit 4599419338942337516) (nat_lit 13820070863852209494) (nat_lit 13819539664276161138) (nat_lit 0) (nat_lit 4602678819172646912) (nat_lit 4597049319638433802) (nat_lit 4600989969312382977) (nat_lit 4598175219545276416) (nat_lit 4607182418800017408), l4 (nat_lit 0) (nat_lit 4602678819172646912) (nat_lit 4597049319638433794) (nat_lit 4599419338942337515) (nat_lit 13820070863852209490) (nat_lit 13819539664276161139) (nat_lit 4359484439294640128) (nat_lit 4602678819172646910) (nat_lit 4597049319638433792) (nat_lit 4600989969312382976) (nat_lit 4598175219545276414) (nat_lit 4607182418800017408), l4 (nat_lit 0) (nat_lit 4602678819172646912) (nat_lit 4597049319638433776) (nat_lit 4599419338942337514) (nat_lit 13820070863852209485) (nat_lit 13819539664276161145) (nat_lit 0) (nat_lit 4602678819172646911) (nat_lit 4597049319638433774) (nat_lit 4600989969312382973) (nat_lit 4598175219545276415) (nat_lit 4607182418800017408)]
noncomputable def ta6_2 : List L4 := [l4 (nat_lit 4598175219545276416) (nat_lit 4604930618986332160) (nat_lit 4602115869219225604) (nat_lit 4603300878871177462) (nat_lit 13820070863852209494) (nat_lit 13819539664276161138) (nat_lit 4598175219545276416) (nat_lit 4604930618986332160) (nat_lit 4602115869219225605) (nat_lit 4600989969312382977) (nat_lit 4602678819172646912) (nat_lit 4602678819172646912), l4 (nat_lit 4598175219545276416) (nat_lit 4604930618986332160) (nat_lit 4602115869219225601) (nat_lit 4603300878871177461) (nat_lit 13820070863852209490) (nat_lit 13819539664276161137) (nat_lit 4598175219545276416) (nat_lit 4604930618986332158) (nat_lit 4602115869219225602) (nat_lit 4600989969312382977) (nat_lit 4602678819172646910) (nat_lit 4602678819172646910), l4 (nat_lit 4598175219545276416) (nat_lit 4604930618986332160) (nat_lit 4602115869219225592) (nat_lit 4603300878871177461) (nat_lit 13820070863852209485) (nat_lit 13819539664276161145) (nat_lit 4598175219545276416) (nat_lit 4604930618986332160) (nat_lit 4602115869219225591) (nat_lit 4600989969312382973) (nat_lit 4602678819172646912) (nat_lit 4602678819172646912)]
noncomputable def ta6_3 : List L4 := [l4 (nat_lit 0) (nat_lit 4607182418800017408) (nat_lit 4601552919265804296) (nat_lit 4603922938569708012) (nat_lit 13824574463479579990) (nat_lit 13824043263903531634) (nat_lit 0) (nat_lit 4607182418800017408) (nat_lit 4601552919265804298) (nat_lit 4600989969312382977) (nat_lit 4602678819172646912) (nat_lit 4607182418800017408), l4 (nat_lit 0) (nat_lit 4607182418800017408) (nat_lit 4601552919265804290) (nat_lit 4603922938569708011) (nat_lit 13824574463479579986) (nat_lit 13824043263903531635) (nat_lit 4363988038922010624) (nat_lit 4607182418800017406) (nat_lit 4601552919265804288) (nat_lit 4600989969312382976) (nat_lit 4602678819172646910) (nat_lit 4607182418800017408), l4 (nat_lit 0) (nat_lit 4607182418800017408) (nat_lit 4601552919265804272) (nat_lit 4603922938569708010) (nat_lit 13824574463479579981) (nat_lit 13824043263903531641) (nat_lit 0) (nat_lit 4607182418800017407) (nat_lit 4601552919265804270) (nat_lit 4600989969312382973) (nat_lit 4602678819172646911) (nat_lit 4607182418800017408)]
noncomputable def ta6_4 : List L4 := [l4 (nat_lit 4603804719079489536) (nat_lit 4606056518893174784) (nat_lit 4604789881497976833) (nat_lit 4605241648835597435) (nat_lit 13815567264224838998) (nat_lit 13815036064648790642) (nat_lit 4603804719079489536) (nat_lit 4606056518893174784) (nat_lit 4604789881497976833) (nat_lit 4600989969312382977) (nat_lit 4604930618986332160) (nat_lit 4602678819172646912), l4 (nat_lit 4603804719079489536) (nat_lit 4606056518893174784) (nat_lit 4604789881497976832) (nat_lit 4605241648835597435) (nat_lit 13815567264224838996) (nat_lit 13815036064648790646) (nat_lit 4603804719079489536) (nat_lit 4606056518893174785) (nat_lit 4604789881497976832) (nat_lit 4600989969312382976) (nat_lit 4604930618986332160) (nat_lit 4602678819172646914), l4 (nat_lit 4603804719079489536) (nat_lit 4606056518893174784) (nat_lit 4604789881497976830) (nat_lit 4605241648835597434) (nat_lit 13815567264224838987) (nat_lit 13815036064648790645) (nat_lit 4603804719079489536) (nat_lit 4606056518893174782) (nat_lit 4604789881497976830) (nat_lit 4600989969312382975) (nat_lit 4604930618986332159) (nat_lit 4602678819172646900)]
noncomputable def ta6_5 : List L4 := [l4 (nat_lit 4602678819172646912) (nat_lit 4607182418800017408) (nat_lit 4604649144009621506) (nat_lit 4605552678684862710) (nat_lit 13820070863852209494) (nat_lit 13819539664276161138) (nat_lit 4602678819172646911) (nat_lit 4607182418800017408) (nat_lit 4604649144009621506) (nat_lit 4600989969312382977) (nat_lit 4604930618986332160) (nat_lit 4607182418800017408), l4 (nat_lit 4602678819172646912) (nat_lit 4607182418800017408) (nat_lit 4604649144009621504) (nat_lit 4605552678684862710) (nat_lit 13820070863852209492) (nat_lit 13819539664276161142) (nat_lit 4602678819172646912) (nat_lit 4607182418800017408) (nat_lit 4604649144009621504) (nat_lit 4600989969312382976) (nat_lit 4604930618986332160) (nat_lit 4607182418800017408), l4 (nat_lit 4602678819172646912) (nat_lit 4607182418800017408) (nat_lit 4604649144009621500) (nat_lit 4605552678684862709) (nat_lit 13820070863852209485) (nat_lit 13819539664276161145) (nat_lit 4602678819172646912) (nat_lit 4607182418800017408) (nat_lit 4604649144009621500) (nat_lit 4600989969312382973) (nat_lit 4604930618986332160) (nat_lit 4607182418800017408)]
theorem tk6 : okTails (hueOf 6) ta6_0 ta6_1 ta6_2 ta6_3 ta6_4 ta6_5 = true := by kernel_rfl
theorem ch6_0 : okHeads 6 0 ta6_0 ta6_1 ta6_2 ta6_3 ta6_4 ta6_5 (t3 (nat_lit 4593671619917905920) (nat_lit 4600427019358961664) (nat_lit 4597612269591855108)) (t3 (nat_lit 0) (nat_lit 4602678819172646912) (nat_lit 4597049319638433800)) (t3 (nat_lit 4598175219545276416) (nat_lit 4604930618986332160) (nat_lit 4602115869219225604)) (t3 (nat_lit 0) (nat_lit 4607182418800017408) (nat_lit 4601552919265804296)) (t3 (nat_lit 4603804719079489536) (nat_lit 4606056518893174784) (nat_lit 4604789881497976833)) (t3 (nat_lit 4602678819172646912) (nat_lit 4607182418800017408) (nat_lit 4604649144009621506)) = true := by kernel_rfl
theorem ch6_1 : okHeads 6 1 ta6_0 ta6_1 ta6_2 ta6_3 ta6_4 ta6_5 (t3 (nat_lit 4593671619917905920) (nat_lit 4600427019358961664) (nat_lit 4597612269591855108)) (t3 (nat_lit 0) (nat_lit 4602678819172646912) (nat_lit 4597049319638433800)) (t3 (nat_lit 4598175219545276416) (nat_lit 4604930618986332160) (nat_lit 4602115869219225604)) (t3 (nat_lit 0) (nat_lit 4607182418800017408) (nat_lit 4601552919265804296)) (t3 (nat_lit 4603804719079489536) (nat_lit 4606056518893174784) (nat_lit 4604789881497976833)) (t3 (nat_lit 4602678819172646912) (nat_lit 4607182418800017408) (nat_lit 4604649144009621506)) = true := by kernel_rfl
theorem ch6_2 : okHeads 6 2 ta6_0 ta6_1 ta6_2 ta6_3 ta6_4 ta6_5 (t3 (nat_lit 4593671619917905920) (nat_lit 4600427019358961664) (nat_lit 4597612269591855105)) (t3 (nat_lit 0) (nat_lit 4602678819172646912) (nat_lit 4597049319638433794)) (t3 (nat_lit 4598175219545276416) (nat_lit 4604930618986332160) (nat_lit 4602115869219225601)) (t3 (nat_lit 0) (nat_lit 4607182418800017408) (nat_lit 4601552919265804290)) (t3 (nat_lit 4603804719079489536) (nat_lit 4606056518893174784) (nat_lit 4604789881497976832)) (t3 (nat_lit 4602678819172646912) (nat_lit 4607182418800017408) (nat_lit 4604649144009621504)) = true := by kernel_rfl
theorem ch6_3 : okHeads 6 3 ta6_0 ta6_1 ta6_2 ta6_3 ta6_4 ta6_5 (t3 (nat_lit 4593671619917905920) (nat_lit 4600427019358961664) (nat_lit 4597612269591855108)) (t3 (nat_lit 0) (nat_lit 4602678819172646912) (nat_lit 4597049319638433800)) (t3 (nat_lit 4598175219545276416) (nat_lit 4604930618986332160) (nat_lit 4602115869219225604)) (t3 (nat_lit 0) (nat_lit 4607182418800017408) (nat_lit 4601552919265804296)) (t3 (nat_lit 4603804719079489536) (nat_lit 4606056518893174784) (nat_lit 4604789881497976833)) (t3 (nat_lit 4602678819172646912) (nat_lit 4607182418800017408) (nat_lit 4604649144009621506)) = true := by kernel_rfl
theorem ch6_4 : okHeads 6 4 ta6_0 ta6_1 ta6_2 ta6_3 ta6_4 ta6_5 (t3 (nat_lit 4593671619917905920) (nat_lit 4600427019358961664) (nat_lit 4597612269591855096)) (t3 (nat_lit 0) (nat_lit 4602678819172646912) (nat_lit 4597049319638433776)) (t3 (nat_lit 4598175219545276416) (nat_lit 4604930618986332160) (nat_lit 4602115869219225592)) (t3 (nat_lit 0) (nat_lit 4607182418800017408) (nat_lit 4601552919265804272)) (t3 (nat_lit 4603804719079489536) (nat_lit 4606056518893174784) (nat_lit 4604789881497976830)) (t3 (nat_lit 4602678819172646912) (nat_lit 4607182418800017408) (nat_lit 4604649144009621500)) = true := by kernel_rfl
noncomputable def ta7_0 : List L4 := [l4 (nat_lit 4593671619917905920) (nat_lit 4600427019358961664) (nat_lit 4599582594428829698) (nat_lit 4598983052728435999) (nat_lit 13817392066498854180) (nat_lit 13812927704483237145) (nat_lit 4593671619917905919) (nat_lit 4600427019358961664) (nat_lit 4599582594428829698) (nat_lit 4602115869219225601) (nat_lit 4598175219545276416) (nat_lit 4602678819172646912), l4 (nat_lit 4593671619917905920) (nat_lit 4600427019358961664) (nat_lit 4599582594428829696) (nat_lit 4598983052728435998) (nat_lit 13817392066498854177) (nat_lit 13812927704483237144) (nat_lit 4593671619917905921) (nat_lit 4600427019358961663) (nat_lit 4599582594428829696) (nat_lit 4602115869219225600) (nat_lit 4598175219545276416) (nat_lit 4602678819172646909), l4 (nat_lit 4593671619917905920) (nat_lit 4600427019358961664) (nat_lit 4599582594428829692) (nat_lit 4598983052728435998) (nat_lit 13817392066498854175) (nat_lit 13812927704483237151) (nat_lit 4593671619917905920) (nat_lit 4600427019358961663) (nat_lit 4599582594428829692) (nat_lit 4602115869219225597) (nat_lit 4598175219545276415) (nat_lit 4602678819172646911)]
noncomputable def ta7_1 : List L4 := [l4 (nat_lit 0) (nat_lit 4602678819172646912) (nat_lit 4600989969312382980) (nat_lit 4599790885911595582) (nat_lit 13821895666126224676) (nat_lit 13817431304110607641) (nat_lit 0) (nat_lit 4602678819172646912) (nat_lit 4600989969312382980) (nat_lit 4602115869219225601) (nat_lit 4598175219545276416) (nat_lit 4607182418800017408), l4 (nat_lit 0) (nat_lit 4602678819172646912) (nat_lit 4600989969312382977) (nat_lit 4599790885911595581) (nat_lit 13821895666126224674) (nat_lit 13817431304110607641) (nat_lit 4359484439294640128) (nat_lit 4602678819172646910) (nat_lit 4600989969312382978) (nat_lit 4602115869219225601) (nat_lit 4598175219545276414) (nat_lit 4607182418800017408), l4 (nat_lit 0) (nat_lit 4602678819172646912) (nat_lit 4600989969312382968) (nat_lit 4599790885911595580) (nat_lit 13821895666126224671) (nat_lit 13817431304110607647) (nat_lit 0) (nat_lit 4602678819172646911) (nat_lit 4600989969312382968) (nat_lit 4602115869219225597) (nat_lit 4598175219545276415) (nat_lit 4607182418800017408)]
noncomputable def ta7_2 : List L4 := [l4 (nat_lit 4598175219545276416) (nat_lit 4604930618986332160) (nat_lit 4604086194056200194) (nat_lit 4603486652355806495) (nat_lit 13821895666126224676) (nat_lit 13817431304110607641) (nat_lit 4598175219545276415) (nat_lit 4604930618986332160) (nat_lit 4604086194056200194) (nat_lit 4602115869219225601) (nat_lit 4602678819172646912) (nat_lit 4602678819172646912), l4 (nat_lit 4598175219545276416) (nat_lit 4604930618986332160) (nat_lit 4604086194056200192) (nat_lit 4603486652355806494) (nat_lit 13821895666126224673) (nat_lit 13817431304110607640) (nat_lit 4598175219545276417) (nat_lit 4604930618986332159) (nat_lit 4604086194056200192) (nat_lit 4602115869219225600) (nat_lit 4602678819172646912) (nat_lit 4602678819172646909), l4 (nat_lit 4598175219545276416) (nat_lit 4604930618986332160) (nat_lit 4604086194056200188) (nat_lit 4603486652355806494) (nat_lit 13821895666126224671) (nat_lit 13817431304110607647) (nat_lit 4598175219545276416) (nat_lit 4604930618986332159) (nat_lit 4604086194056200188) (nat_lit 4602115869219225597) (nat_lit 4602678819172646911) (nat_lit 4602678819172646911)]
noncomputable def ta7_3 : List L4 := [l4 (nat_lit 0) (nat_lit 4607182418800017408) (nat_lit 4605493568939753476) (nat_lit 4604294485538966078) (nat_lit 13826399265753595172) (nat_lit 13821934903737978137) (nat_lit 0) (nat_lit 4607182418800017408) (nat_lit 4605493568939753476) (nat_lit 4602115869219225601) (nat_lit 4602678819172646912) (nat_lit 4607182418800017408), l4 (nat_lit 0) (nat_lit 4607182418800017408) (nat_lit 4605493568939753473) (nat_lit 4604294485538966077) (nat_lit 13826399265753595170) (nat_lit 13821934903737978137) (nat_lit 4363988038922010624) (nat_lit 4607182418800017406) (nat_lit 4605493568939753474) (nat_lit 4602115869219225601) (nat_lit 4602678819172646910) (nat_lit 4607182418800017408), l4 (nat_lit 0) (nat_lit 4607182418800017408) (nat_lit 4605493568939753464) (nat_lit 4604294485538966076) (nat_lit 13826399265753595167) (nat_lit 13821934903737978143) (nat_lit 0) (nat_lit 4607182418800017407) (nat_lit 4605493568939753464) (nat_lit 4602115869219225597) (nat_lit 4602678819172646911) (nat_lit 4607182418800017408)]
noncomputable def ta7_4 : List L4 := [l4 (nat_lit 4603804719079489536) (nat_lit 4606056518893174784) (nat_lit 4605634306428108801) (nat_lit 4605334535577911951) (nat_lit 13817392066498854178) (nat_lit 13812927704483237141) (nat_lit 4603804719079489536) (nat_lit 4606056518893174783) (nat_lit 4605634306428108802) (nat_lit 4602115869219225604) (nat_lit 4604930618986332160) (nat_lit 4602678819172646908), l4 (nat_lit 4603804719079489536) (nat_lit 4606056518893174784) (nat_lit 4605634306428108800) (nat_lit 4605334535577911951) (nat_lit 13817392066498854177) (nat_lit 13812927704483237144) (nat_lit 4603804719079489536) (nat_lit 4606056518893174783) (nat_lit 4605634306428108800) (nat_lit 4602115869219225601) (nat_lit 4604930618986332160) (nat_lit 4602678819172646908), l4 (nat_lit 4603804719079489536) (nat_lit 4606056518893174784) (nat_lit 4605634306428108798) (nat_lit 4605334535577911951) (nat_lit 13817392066498854175) (nat_lit 13812927704483237151) (nat_lit 4603804719079489536) (nat_lit 4606056518893174784) (nat_lit 4605634306428108797) (nat_lit 4602115869219225596) (nat_lit 4604930618986332160) (nat_lit 4602678819172646912)]
noncomputable def ta7_5 : List L4 := [l4 (nat_lit 4602678819172646912) (nat_lit 4607182418800017408) (nat_lit 4606337993869885442) (nat_lit 4605738452169491743) (nat_lit 13821895666126224676) (nat_lit 13817431304110607641) (nat_lit 4602678819172646912) (nat_lit 4607182418800017408) (nat_lit 4606337993869885441) (nat_lit 4602115869219225600) (nat_lit 4604930618986332160) (nat_lit 4607182418800017408), l4 (nat_lit 4602678819172646912) (nat_lit 4607182418800017408) (nat_lit 4606337993869885440) (nat_lit 4605738452169491743) (nat_lit 13821895666126224674) (nat_lit 13817431304110607644) (nat_lit 4602678819172646912) (nat_lit 4607182418800017408) (nat_lit 4606337993869885440) (nat_lit 4602115869219225600) (nat_lit 4604930618986332160) (nat_lit 4607182418800017408), l4 (nat_lit 4602678819172646912) (nat_lit 4607182418800017408) (nat_lit 4606337993869885436) (nat_lit 4605738452169491742) (nat_lit 13821895666126224671) (nat_lit 13817431304110607647) (nat_lit 4602678819172646912) (nat_lit 4607182418800017407) (nat_lit 4606337993869885435) (nat_lit 4602115869219225597) (nat_lit 4604930618986332160) (nat_lit 4607182418800017406)]
theorem tk7 : okTails (hueOf 7) ta7_0 ta7_1 ta7_2 ta7_3 ta7_4 ta7_5 = true := by kernel_rfl
theorem ch7_0 : okHeads 7 0 ta7_0 ta7_1 ta7_2 ta7_3 ta7_4 ta7_5 (t3 (nat_lit 4593671619917905920) (nat_lit 4600427019358961664) (nat_lit 4599582594428829698)) (t3 (nat_lit 0) (nat_lit 4602678819172646912) (nat_lit 4600989969312382980)) (t3 (nat_lit 4598175219545276416) (nat_lit 4604930618986332160) (nat_lit 4604086194056200194)) (t3 (nat_lit 0) (nat_lit 4607182418800017408) (nat_lit 4605493568939753476)) (t3 (nat_lit 4603804719079489536) (nat_lit 4606056518893174784) (nat_lit 4605634306428108801)) (t3 (nat_lit 4602678819172646912) (nat_lit 4607182418800017408) (nat_lit 4606337993869885442)) = true := by kernel_rfl
theorem ch7_1 : okHeads 7 1 ta7_0 ta7_1 ta7_2 ta7_3 ta7_4 ta7_5 (t3 (nat_lit 4593671619917905920) (nat_lit 4600427019358961664) (nat_lit 4599582594428829698)) (t3 (nat_lit 0) (nat_lit 4602678819172646912) (nat_lit 4600989969312382980)) (t3 (nat_lit 4598175219545276416) (nat_lit 4604930618986332160) (nat_lit 4604086194056200194)) (t3 (nat_lit 0) (nat_lit 4607182418800017408) (nat_lit 4605493568939753476)) (t3 (nat_lit 4603804719079489536) (nat_lit 4606056518893174784) (nat_lit 4605634306428108801)) (t3 (nat_lit 4602678819172646912) (nat_lit 4607182418800017408) (nat_lit 4606337993869885442)) = true := by kernel_rfl
theorem ch7_2 : okHeads 7 2 ta7_0 ta7_1 ta7_2 ta7_3 ta7_4 ta7_5 (t3 (nat_lit 4593671619917905920) (nat_lit 4600427019358961664) (nat_lit 4599582594428829696)) (t3 (nat_lit 0) (nat_lit 4602678819172646912) (nat_lit 4600989969312382977)) (t3 (nat_lit 4598175219545276416) (nat_lit 4604930618986332160) (nat_lit 4604086194056200192)) (t3 (nat_lit 0) (nat_lit 4607182418800017408) (nat_lit 4605493568939753473)) (t3 (nat_lit 4603804719079489536) (nat_lit 4606056518893174784) (nat_lit 4605634306428108800)) (t3 (nat_lit 4602678819172646912) (nat_lit 4607182418800017408) (nat_lit 4606337993869885440)) = true := by kernel_rfl
theorem ch7_3 : okHeads 7 3 ta7_0 ta7_1 ta7_2 ta7_3 ta7_4 ta7_5 (t3 (nat_lit 4593671619917905920) (nat_lit 4600427019358961664) (nat_lit 4599582594428829698)) (t3 (nat_lit 0) (nat_lit 4602678819172646912) (nat_lit 4600989969312382980)) (t3 (nat_lit 4598175219545276416) (nat_lit 4604930618986332160) (nat_lit 4604086194056200194)) (t3 (nat_lit 0) (nat_lit 4607182418800017408) (nat_lit 4605493568939753476)) (t3 (nat_lit 4603804719079489536) (nat_lit 4606056518893174784) (nat_lit 4605634306428108801)) (t3 (nat_lit 4602678819172646912) (nat_lit 4607182418800017408) (nat_lit 4606337993869885442)) = true := by kernel_rfl
theorem ch7_4 : okHeads 7 4 ta7_0 ta7_1 ta7_2 ta7_3 ta7_4 ta7_5 (t3 (nat_lit 4593671619917905920) (nat_lit 4600427019358961664) (nat_lit 4599582594428829692)) (t3 (nat_lit 0) (nat_lit 4602678819172646912) (nat_lit 4600989969312382968)) (t3 (nat_lit 4598175219545276416) (nat_lit 4604930618986332160) (nat_lit 4604086194056200188)) (t3 (nat_lit 0) (nat_lit 4607182418800017408) (nat_lit 4605493568939753464)) (t3 (nat_lit 4603804719079489536) (nat_lit 4606056518893174784) (nat_lit 4605634306428108798)) (t3 (nat_lit 4602678819172646912) (nat_lit 4607182418800017408) (nat_lit 4606337993869885436)) = true := by kernel_rfl
noncomputable def ta8_0 : List L4 := [l4 (nat_lit 4593671619917905920) (nat_lit 4599582594428829695) (nat_lit 4600427019358961664) (nat_lit 4598577728761972653) (nat_lit 13817467051432649896) (nat_lit 13807283005300281636) (nat_lit 4593671619917905920) (nat_lit 4599582594428829694) (nat_lit 4600427019358961664) (nat_lit 4602960294149357568) (nat_lit 4598175219545276416) (nat_lit 4602678819172646912)]
noncomputable def ta8_1 : List L4 := [l4 (nat_lit 0) (nat_lit 4600989969312382974) (nat_lit 4602678819172646912) (nat_lit 4598980237978668891) (nat_lit 13821970651060020392) (nat_lit 13811786604927652140) (nat_lit 4350477240039899136) (nat_lit 4600989969312382974) (nat_lit 4602678819172646910) (nat_lit 4602960294149357568) (nat_lit 4598175219545276414) (nat_lit 4607182418800017408)]
noncomputable def ta8_2 : List L4 := [l4 (nat_lit 4598175219545276416) (nat_lit 4604086194056200191) (nat_lit 4604930618986332160) (nat_lit 4603081328389343149) (nat_lit 13821970651060020392) (nat_lit 13811786604927652132) (nat_lit 4598175219545276416) (nat_lit 4604086194056200190) (nat_lit 4604930618986332160) (nat_lit 4602960294149357568) (nat_lit 4602678819172646912) (nat_lit 4602678819172646912)]
noncomputable def ta8_3 : List L4 := [l4 (nat_lit 0) (nat_lit 4605493568939753470) (nat_lit 4607182418800017408) (nat_lit 4603483837606039387) (nat_lit 13826474250687390888) (nat_lit 13816290204555022636) (nat_lit 4354980839667269632) (nat_lit 4605493568939753470) (nat_lit 4607182418800017406) (nat_lit 4602960294149357568) (nat_lit 4602678819172646910) (nat_lit 4607182418800017408)]
noncomputable def ta8_4 : List L4 := [l4 (nat_lit 4603804719079489536) (nat_lit 4605634306428108800) (nat_lit 4606056518893174784) (nat_lit 4605131873594680278) (nat_lit 13817467051432649895) (nat_lit 13807283005300281622) (nat_lit 4603804719079489536) (nat_lit 4605634306428108798) (nat_lit 4606056518893174784) (nat_lit 4602960294149357569) (nat_lit 4604930618986332160) (nat_lit 4602678819172646912)]
noncomputable def ta8_5 : List L4 := [l4 (nat_lit 4602678819172646912) (nat_lit 4606337993869885439) (nat_lit 4607182418800017408) (nat_lit 4605333128203028397) (nat_lit 13821970651060020392) (nat_lit 13811786604927652132) (nat_lit 4602678819172646912) (nat_lit 4606337993869885438) (nat_lit 4607182418800017408) (nat_lit 4602960294149357568) (nat_lit 4604930618986332160) (nat_lit 4607182418800017408)]
theorem tk8 : okTails (hueOf 8) ta8_0 ta8_1 ta8_2 ta8_3 ta8_4 ta8_5 = true := by kernel_rfl
theorem ch8_0 : okHeads 8 0 ta8_0 ta8_1 ta8_2 ta8_3 ta8_4 ta8_5 (t3 (nat_lit 4593671619917905920) (nat_lit 4599582594428829695) (nat_lit 4600427019358961664)) (t3 (nat_lit 0) (nat_lit 4600989969312382974) (nat_lit 4602678819172646912)) (t3 (nat_lit 4598175219545276416) (nat_lit 4604086194056200191) (nat_lit 4604930618986332160)) (t3 (nat_lit 0) (nat_lit 4605493568939753470) (nat_lit 4607182418800017408)) (t3 (nat_lit 4603804719079489536) (nat_lit 4605634306428108800) (nat_lit 4606056518893174784)) (t3 (nat_lit 4602678819172646912) (nat_lit 4606337993869885439) (nat_lit 4607182418800017408)) = true := by kernel_rfl
theorem ch8_1 : okHeads 8 1 ta8_0 ta8_1 ta8_2 ta8_3 ta8_4 ta8_5 (t3 (nat_lit 4593671619917905920) (nat_lit 4599582594428829695) (nat_lit 4600427019358961664)) (t3 (nat_lit 0) (nat_lit 4600989969312382974) (nat_lit 4602678819172646912)) (t3 (nat_lit 4598175219545276416) (nat_lit 4604086194056200191) (nat_lit 4604930618986332160)) (t3 (nat_lit 0) (nat_lit 4605493568939753470) (nat_lit 4607182418800017408)) (t3 (nat_lit 4603804719079489536) (nat_lit 4605634306428108800) (nat_lit 4606056518893174784)) (t3 (nat_lit 4602678819172646912) (nat_lit 4606337993869885439) (nat_lit 4607182418800017408)) = true := by kernel_rfl
theorem ch8_2 : okHeads 8 2 ta8_0 ta8_1 ta8_2 ta8_3 ta8_4 ta8_5 (t3 (nat_lit 4593671619917905920) (nat_lit 4599582594428829695) (nat_lit 4600427019358961664)) (t3 (nat_lit 0) (nat_lit 4600989969312382974) (nat_lit 4602678819172646912)) (t3 (nat_lit 4598175219545276416) (nat_lit 4604086194056200191) (nat_lit 4604930618986332160)) (t3 (nat_lit 0) (nat_lit 4605493568939753470) (nat_lit 4607182418800017408)) (t3 (nat_lit 4603804719079489536) (nat_lit 4605634306428108800) (nat_lit 4606056518893174784)) (t3 (nat_lit 4602678819172646912) (nat_lit 4606337993869885439) (nat_lit 4607182418800017408)) = true := by kernel_rfl
theorem ch8_3 : okHeads 8 3 ta8_0 ta8_1 ta8_2 ta8_3 ta8_4 ta8_5 (t3 (nat_lit 4593671619917905920) (nat_lit 4599582594428829695) (nat_lit 4600427019358961664)) (t3 (nat_lit 0) (nat_lit 4600989969312382974) (nat_lit 4602678819172646912)) (t3 (nat_lit 4598175219545276416) (nat_lit 4604086194056200191) (nat_lit 4604930618986332160)) (t3 (nat_lit 0) (nat_lit 4605493568939753470) (nat_lit 4607182418800017408)) (t3 (nat_lit 4603804719079489536) (nat_lit 4605634306428108800) (nat_lit 4606056518893174784)) (t3 (nat_lit 4602678819172646912) (nat_lit 4606337993869885439) (nat_lit 4607182418800017408)) = true := by kernel_rfl
theorem ch8_4 : okHeads 8 4 ta8_0 ta8_1 ta8_2 ta8_3 ta8_4 ta8_5 (t3 (nat_lit 4593671619917905920) (nat_lit 4599582594428829695) (nat_lit 4600427019358961664)) (t3 (nat_lit 0) (nat_lit 4600989969312382974) (nat_lit 4602678819172646912)) (t3 (nat_lit 4598175219545276416) (nat_lit 4604086194056200191) (nat_lit 4604930618986332160)) (t3 (nat_lit 0) (nat_lit 4605493568939753470) (nat_lit 4607182418800017408)) (t3 (nat_lit 4603804719079489536) (nat_lit 4605634306428108800) (nat_lit 4606056518893174784)) (t3 (nat_lit 4602678819172646912) (nat_lit 4606337993869885439) (nat_lit 4607182418800017408)) = true := by kernel_rfl
noncomputable def ta9_0 : List L4 := [l4 (nat_lit 4593671619917905920) (nat_lit 4597612269591855102) (nat_lit 4600427019358961664) (nat_lit 4596987395143557447) (nat_lit 13816017173827613308) (nat_lit 4581592515357335516) (nat_lit 4593671619917905919) (nat_lit 4597612269591855103) (nat_lit 4600427019358961664) (nat_lit 4603523244102778880) (nat_lit 4598175219545276416) (nat_lit 4602678819172646912)]
noncomputable def ta9_1 : List L4 := [l4 (nat_lit 0) (nat_lit 4597049319638433788) (nat_lit 4602678819172646912) (nat_lit 4595799570741838477) (nat_lit 13820520773454983803) (nat_lit 4586096114984706018) (nat_lit 0) (nat_lit 4597049319638433788) (nat_lit 4602678819172646912) (nat_lit 4603523244102778880) (nat_lit 4598175219545276416) (nat_lit 4607182418800017408)]
noncomputable def ta9_2 : List L4 := [l4 (nat_lit 4598175219545276416) (nat_lit 4602115869219225598) (nat_lit 4604930618986332160) (nat_lit 4601490994770927943) (nat_lit 13820520773454983804) (nat_lit 4586096114984706012) (nat_lit 4598175219545276415) (nat_lit 4602115869219225599) (nat_lit 4604930618986332160) (nat_lit 4603523244102778880) (nat_lit 4602678819172646912) (nat_lit 4602678819172646912)]
noncomputable def ta9_3 : List L4 := [l4 (nat_lit 0) (nat_lit 4601552919265804284) (nat_lit 4607182418800017408) (nat_lit 4600303170369208973) (nat_lit 13825024373082354299) (nat_lit 4590599714612076514) (nat_lit 0) (nat_lit 4601552919265804284) (nat_lit 4607182418800017408) (nat_lit 4603523244102778880) (nat_lit 4602678819172646912) (nat_lit 4607182418800017408)]
noncomputable def ta9_4 : List L4 := [l4 (nat_lit 4603804719079489536) (nat_lit 4604789881497976832) (nat_lit 4606056518893174784) (nat_lit 4604633662885902418) (nat_lit 13816017173827613308) (nat_lit 4581592515357335508) (nat_lit 4603804719079489536) (nat_lit 4604789881497976832) (nat_lit 4606056518893174784) (nat_lit 4603523244102778880) (nat_lit 4604930618986332160) (nat_lit 4602678819172646912)]
noncomputable def ta9_5 : List L4 := [l4 (nat_lit 4602678819172646912) (nat_lit 4604649144009621503) (nat_lit 4607182418800017408) (nat_lit 4604336706785472675) (nat_lit 13820520773454983802) (nat_lit 4586096114984706020) (nat_lit 4602678819172646912) (nat_lit 4604649144009621502) (nat_lit 4607182418800017408) (nat_lit 4603523244102778880) (nat_lit 4604930618986332160) (nat_lit 4607182418800017408)]
theorem tk9 : okTails (hueOf 9) ta9_0 ta9_1 ta9_2 ta9_3 ta9_4 ta9_5 = true := by kernel_rfl
theorem ch9_0 : okHeads 9 0 ta9_0 ta9_1 ta9_2 ta9_3 ta9_4 ta9_5 (t3 (nat_lit 4593671619917905920) (nat_lit 4597612269591855102) (nat_lit 4600427019358961664)) (t3 (nat_lit 0) (nat_lit 4597049319638433788) (nat_lit 4602678819172646912)) (t3 (nat_lit 4598175219545276416) (nat_lit 4602115869219225598) (nat_lit 4604930618986332160)) (t3 (nat_lit 0) (nat_lit 4601552919265804284) (nat_lit 4607182418800017408)) (t3 (nat_lit 4603804719079489536) (nat_lit 4604789881497976832) (nat_lit 4606056518893174784)) (t3 (nat_lit 4602678819172646912) (nat_lit 4604649144009621503) (nat_lit 4607182418800017408)) = true := by kernel_rfl
theorem ch9_1 : okHeads 9 1 ta9_0 ta9_1 ta9_2 ta9_3 ta9_4 ta9_5 (t3 (nat_lit 4593671619917905920) (nat_lit 4597612269591855102) (nat_lit 4600427019358961664)) (t3 (nat_lit 0) (nat_lit 4597049319638433788) (nat_lit 4602678819172646912)) (t3 (nat_lit 4598175219545276416) (nat_lit 4602115869219225598) (nat_lit 4604930618986332160)) (t3 (nat_lit 0) (nat_lit 4601552919265804284) (nat_lit 4607182418800017408)) (t3 (nat_lit 4603804719079489536) (nat_lit 4604789881497976832) (nat_lit 4606056518893174784)) (t3 (nat_lit 4602678819172646912) (nat_lit 4604649144009621503) (nat_lit 4607182418800017408)) = true := by kernel_rfl
theorem ch9_2 : okHeads 9 2 ta9_0 ta9_1 ta9_2 ta9_3 ta9_4 ta9_5 (t3 (nat_lit 4593671619917905920) (nat_lit 4597612269591855102) (nat_lit 4600427019358961664)) (t3 (nat_lit 0) (nat_lit 4597049319638433788) (nat_lit 4602678819172646912)) (t3 (nat_lit 4598175219545276416) (nat_lit 4602115869219225598) (nat_lit 4604930618986332160)) (t3 (nat_lit 0) (nat_lit 4601552919265804284) (nat_lit 4607182418800017408)) (t3 (nat_lit 4603804719079489536) (nat_lit 4604789881497976832) (nat_lit 4606056518893174784)) (t3 (nat_lit 4602678819172646912) (nat_lit 4604649144009621503) (nat_lit 4607182418800017408)) = true := by kernel_rfl
theorem ch9_3 : okHeads 9 3 ta9_0 ta9_1 ta9_2 ta9_3 ta9_4 ta9_5 (t3 (nat_lit 4593671619917905920) (nat_lit 4597612269591855102) (nat_lit 4600427019358961664)) (t3 (nat_lit 0) (nat_lit 4597049319638433788) (nat_lit 4602678819172646912)) (t3 (nat_lit 4598175219545276416) (nat_lit 4602115869219225598) (nat_lit 4604930618986332160)) (t3 (nat_lit 0) (nat_lit 4601552919265804284) (nat_lit 4607182418800017408)) (t3 (nat_lit 4603804719079489536) (nat_lit 4604789881497976832) (nat_lit 4606056518893174784)) (t3 (nat_lit 4602678819172646912) (nat_lit 4604649144009621503) (nat_lit 4607182418800017408)) = true := by kernel_rfl
theorem ch9_4 : okHeads 9 4 ta9_0 ta9_1 ta9_2 ta9_3 ta9_4 ta9_5 (t3 (nat_lit 4593671619917905920) (nat_lit 4597612269591855102) (nat_lit 4600427019358961664)) (t3 (nat_lit 0) (nat_lit 4597049319638433788) (nat_lit 4602678819172646912)) (t3 (nat_lit 4598175219545276416) (nat_lit 4602115869219225598) (nat_lit 4604930618986332160)) (t3 (nat_lit 0) (nat_lit 4601552919265804284) (nat_lit 4607182418800017408)) (t3 (nat_lit 4603804719079489536) (nat_lit 4604789881497976832) (nat_lit 4606056518893174784)) (t3 (nat_lit 4602678819172646912) (nat_lit 4604649144009621503) (nat_lit 4607182418800017408)) = true := by kernel_rfl
noncomputable def ta10_0 : List L4 := [l4 (nat_lit 4593671619917905920) (nat_lit 4594234569871327230) (nat_lit 4600427019358961664) (nat_lit 4594994552308446002) (nat_lit 13814143901562608549) (nat_lit 4589695504396891195) (nat_lit 4593671619917905920) (nat_lit 4594234569871327230) (nat_lit 4600427019358961664) (nat_lit 4604086194056200192) (nat_lit 4598175219545276416) (nat_lit 4602678819172646912)]
noncomputable def ta10_1 : List L4 := [l4 (nat_lit 0) (nat_lit 4584664420663164896) (nat_lit 4602678819172646912) (nat_lit 4589956150225325256) (nat_lit 13818647501189979045) (nat_lit 4594199104024261691) (nat_lit 0) (nat_lit 4584664420663164900) (nat_lit 4602678819172646912) (nat_lit 4604086194056200192) (nat_lit 4598175219545276416) (nat_lit 4607182418800017408)]
noncomputable def ta10_2 : List L4 := [l4 (nat_lit 4598175219545276416) (nat_lit 4598738169498697726) (nat_lit 4604930618986332160) (nat_lit 4599498151935816498) (nat_lit 13818647501189979045) (nat_lit 4594199104024261691) (nat_lit 4598175219545276416) (nat_lit 4598738169498697726) (nat_lit 4604930618986332160) (nat_lit 4604086194056200192) (nat_lit 4602678819172646912) (nat_lit 4602678819172646912)]
noncomputable def ta10_3 : List L4 := [l4 (nat_lit 0) (nat_lit 4589168020290535392) (nat_lit 4607182418800017408) (nat_lit 4594459749852695752) (nat_lit 13823151100817349541) (nat_lit 4598702703651632187) (nat_lit 0) (nat_lit 4589168020290535396) (nat_lit 4607182418800017408) (nat_lit 4604086194056200192) (nat_lit 4602678819172646912) (nat_lit 4607182418800017408)]
noncomputable def ta10_4 : List L4 := [l4 (nat_lit 4603804719079489536) (nat_lit 4603945456567844864) (nat_lit 4606056518893174784) (nat_lit 4604135452177124556) (nat_lit 13814143901562608548) (nat_lit 4589695504396891198) (nat_lit 4603804719079489536) (nat_lit 4603945456567844863) (nat_lit 4606056518893174784) (nat_lit 4604086194056200192) (nat_lit 4604930618986332160) (nat_lit 4602678819172646912)]
noncomputable def ta10_5 : List L4 := [l4 (nat_lit 4602678819172646912) (nat_lit 4602960294149357567) (nat_lit 4607182418800017408) (nat_lit 4603340285367916953) (nat_lit 13818647501189979045) (nat_lit 4594199104024261691) (nat_lit 4602678819172646912) (nat_lit 4602960294149357567) (nat_lit 4607182418800017408) (nat_lit 4604086194056200192) (nat_lit 4604930618986332160) (nat_lit 4607182418800017408)]
theorem tk10 : okTails (hueOf 10) ta10_0 ta10_1 ta10_2 ta10_3 ta10_4 ta10_5 = true := by kernel_rfl
theorem ch10_0 : okHeads 10 0 ta10_0 ta10_1 ta10_2 ta10_3 ta10_4 ta10_5 (t3 (nat_lit 4593671619917905920) (nat_lit 4594234569871327230) (nat_lit 4600427019358961664)) (t3 (nat_lit 0) (nat_lit 4584664420663164896) (nat_lit 4602678819172646912)) (t3 (nat_lit 4598175219545276416) (nat_lit 4598738169498697726) (nat_lit 4604930618986332160)) (t3 (nat_lit 0) (nat_lit 4589168020290535392) (nat_lit 4607182418800017408)) (t3 (nat_lit 4603804719079489536) (nat_lit 4603945456567844864) (nat_lit 4606056518893174784)) (t3 (nat_lit 4602678819172646912) (nat_lit 4602960294149357567) (nat_lit 4607182418800017408)) = true := by kernel_rfl
theorem ch10_1 : okHeads 10 1 ta10_0 ta10_1 ta10_2 ta10_3 ta10_4 ta10_5 (t3 (nat_lit 4593671619917905920) (nat_lit 4594234569871327230) (nat_lit 4600427019358961664)) (t3 (nat_lit 0) (nat_lit 4584664420663164896) (nat_lit 4602678819172646912)) (t3 (nat_lit 4598175219545276416) (nat_lit 4598738169498697726) (nat_lit 4604930618986332160)) (t3 (nat_lit 0) (nat_lit 4589168020290535392) (nat_lit 4607182418800017408)) (t3 (nat_lit 4603804719079489536) (nat_lit 4603945456567844864) (nat_lit 4606056518893174784)) (t3 (nat_lit 4602678819172646912) (nat_lit 4602960294149357567) (nat_lit 4607182418800017408)) = true := by kernel_rfl
theorem ch10_2 : okHeads 10 2 ta10_0 ta10_1 ta10_2 ta10_3 ta10_4 ta10_5 (t3 (nat_lit 4593671619917905920) (nat_lit 4594234569871327230) (nat_lit 4600427019358961664)) (t3 (nat_lit 0) (nat_lit 4584664420663164896) (nat_lit 4602678819172646912)) (t3 (nat_lit 4598175219545276416) (nat_lit 4598738169498697726) (nat_lit 4604930618986332160)) (t3 (nat_lit 0) (nat_lit 4589168020290535392) (nat_lit 4607182418800017408)) (t3 (nat_lit 4603804719079489536) (nat_lit 4603945456567844864) (nat_lit 4606056518893174784)) (t3 (nat_lit 4602678819172646912) (nat_lit 4602960294149357567) (nat_lit 4607182418800017408)) = true := by kernel_rfl
theorem ch10_3 : okHeads 10 3 ta10_0 ta10_1 ta10_2 ta10_3 ta10_4 ta10_5 (t3 (nat_lit 4593671619917905920) (nat_lit 4594234569871327230) (nat_lit 4600427019358961664)) (t3 (nat_lit 0) (nat_lit 4584664420663164896) (nat_lit 4602678819172646912)) (t3 (nat_lit 4598175219545276416) (nat_lit 4598738169498697726) (nat_lit 4604930618986332160)) (t3 (nat_lit 0) (nat_lit 4589168020290535392) (nat_lit 4607182418800017408)) (t3 (nat_lit 4603804719079489536) (nat_lit 4603945456567844864) (nat_lit 4606056518893174784)) (t3 (nat_lit 4602678819172646912) (nat_lit 4602960294149357567) (nat_lit 4607182418800017408)) = true := by kernel_rfl
theorem ch10_4 : okHeads 10 4 ta10_0 ta10_1 ta10_2 ta10_3 ta10_4 ta10_5 (t3 (nat_lit 4593671619917905920) (nat_lit 4594234569871327230) (nat_lit 4600427019358961664)) (t3 (nat_lit 0) (nat_lit 4584664420663164896) (nat_lit 4602678819172646912)) (t3 (nat_lit 4598175219545276416) (nat_lit 4598738169498697726) (nat_lit 4604930618986332160)) (t3 (nat_lit 0) (nat_lit 4589168020290535392) (nat_lit 4607182418800017408)) (t3 (nat_lit 4603804719079489536) (nat_lit 4603945456567844864) (nat_lit 4606056518893174784)) (t3 (nat_lit 4602678819172646912) (nat_lit 4602960294149357567) (nat_lit 4607182418800017408)) = true := by kernel_rfl
noncomputable def ta11_0 : List L4 := [l4 (nat_lit 4596486369685012476) (nat_lit 4593671619917905920) (nat_lit 4600427019358961664) (nat_lit 4595506836766059396) (nat_lit 13808379181449583641) (nat_lit 4591485797838761648) (nat_lit 4596486369685012476) (nat_lit 4593671619917905920) (nat_lit 4600427019358961664) (nat_lit 4604649144009621504) (nat_lit 4598175219545276416) (nat_lit 4602678819172646912), l4 (nat_lit 4596486369685012479) (nat_lit 4593671619917905920) (nat_lit 4600427019358961664) (nat_lit 4595506836766059397) (nat_lit 13808379181449583634) (nat_lit 4591485797838761649) (nat_lit 4596486369685012480) (nat_lit 4593671619917905921) (nat_lit 4600427019358961664) (nat_lit 4604649144009621504) (nat_lit 4598175219545276416) (nat_lit 4602678819172646911), l4 (nat_lit 4596486369685012488) (nat_lit 4593671619917905920) (nat_lit 4600427019358961664) (nat_lit 4595506836766059400) (nat_lit 13808379181449583612) (nat_lit 4591485797838761652) (nat_lit 4596486369685012488) (nat_lit 4593671619917905921) (nat_lit 4600427019358961664) (nat_lit 4604649144009621505) (nat_lit 4598175219545276416) (nat_lit 4602678819172646911)]
noncomputable def ta11_1 : List L4 := [l4 (nat_lit 4594797519824748536) (nat_lit 0) (nat_lit 4602678819172646912) (nat_lit 4592005288055778832) (nat_lit 13812882781076954137) (nat_lit 4595989397466132144) (nat_lit 4594797519824748536) (nat_lit 0) (nat_lit 4602678819172646912) (nat_lit 4604649144009621504) (nat_lit 4598175219545276416) (nat_lit 4607182418800017408), l4 (nat_lit 4594797519824748542) (nat_lit 0) (nat_lit 4602678819172646912) (nat_lit 4592005288055778835) (nat_lit 13812882781076954130) (nat_lit 4595989397466132145) (nat_lit 4594797519824748542) (nat_lit 4354980839667269632) (nat_lit 4602678819172646912) (nat_lit 4604649144009621504) (nat_lit 4598175219545276416) (nat_lit 4607182418800017408), l4 (nat_lit 4594797519824748560) (nat_lit 0) (nat_lit 4602678819172646912) (nat_lit 4592005288055778846) (nat_lit 13812882781076954107) (nat_lit 4595989397466132148) (nat_lit 4594797519824748560) (nat_lit 4354980839667269632) (nat_lit 4602678819172646911) (nat_lit 4604649144009621505) (nat_lit 4598175219545276415) (nat_lit 4607182418800017408)]
noncomputable def ta11_2 : List L4 := [l4 (nat_lit 4600989969312382972) (nat_lit 4598175219545276416) (nat_lit 4604930618986332160) (nat_lit 4600010436393429892) (nat_lit 13812882781076954137) (nat_lit 4595989397466132144) (nat_lit 4600989969312382972) (nat_lit 4598175219545276416) (nat_lit 4604930618986332160) (nat_lit 4604649144009621504) (nat_lit 4602678819172646912) (nat_lit 4602678819172646912), l4 (nat_lit 4600989969312382975) (nat_lit 4598175219545276416) (nat_lit 4604930618986332160) (nat_lit 4600010436393429893) (nat_lit 13812882781076954130) (nat_lit 4595989397466132145) (nat_lit 4600989969312382976) (nat_lit 4598175219545276417) (nat_lit 4604930618986332160) (nat_lit 4604649144009621504) (nat_lit 4602678819172646912) (nat_lit 4602678819172646911), l4 (nat_lit 4600989969312382984) (nat_lit 4598175219545276416) (nat_lit 4604930618986332160) (nat_lit 4600010436393429896) (nat_lit 13812882781076954108) (nat_lit 4595989397466132148) (nat_lit 4600989969312382984) (nat_lit 4598175219545276417) (nat_lit 4604930618986332160) (nat_lit 4604649144009621505) (nat_lit 4602678819172646912) (nat_lit 4602678819172646911)]
noncomputable def ta11_3 : List L4 := [l4 (nat_lit 4599301119452119032) (nat_lit 0) (nat_lit 4607182418800017408) (nat_lit 4596508887683149328) (nat_lit 13817386380704324633) (nat_lit 4600492997093502640) (nat_lit 4599301119452119032) (nat_lit 0) (nat_lit 4607182418800017408) (nat_lit 4604649144009621504) (nat_lit 4602678819172646912) (nat_lit 4607182418800017408), l4 (nat_lit 4599301119452119038) (nat_lit 0) (nat_lit 4607182418800017408) (nat_lit 4596508887683149331) (nat_lit 13817386380704324626) (nat_lit 4600492997093502641) (nat_lit 4599301119452119038) (nat_lit 4359484439294640128) (nat_lit 4607182418800017408) (nat_lit 4604649144009621504) (nat_lit 4602678819172646912) (nat_lit 4607182418800017408), l4 (nat_lit 4599301119452119056) (nat_lit 0) (nat_lit 4607182418800017408) (nat_lit 4596508887683149342) (nat_lit 13817386380704324603) (nat_lit 4600492997093502644) (nat_lit 4599301119452119056) (nat_lit 4359484439294640128) (nat_lit 4607182418800017407) (nat_lit 4604649144009621505) (nat_lit 4602678819172646911) (nat_lit 4607182418800017408)]
noncomputable def ta11_4 : List L4 := [l4 (nat_lit 4604508406521266175) (nat_lit 4603804719079489536) (nat_lit 4606056518893174784) (nat_lit 4604263523291527904) (nat_lit 13808379181449583634) (nat_lit 4591485797838761655) (nat_lit 4604508406521266175) (nat_lit 4603804719079489534) (nat_lit 4606056518893174784) (nat_lit 4604649144009621504) (nat_lit 4604930618986332159) (nat_lit 4602678819172646914), l4 (nat_lit 4604508406521266176) (nat_lit 4603804719079489536) (nat_lit 4606056518893174784) (nat_lit 4604263523291527904) (nat_lit 13808379181449583622) (nat_lit 4591485797838761658) (nat_lit 4604508406521266176) (nat_lit 4603804719079489534) (nat_lit 4606056518893174784) (nat_lit 4604649144009621505) (nat_lit 4604930618986332159) (nat_lit 4602678819172646914), l4 (nat_lit 4604508406521266178) (nat_lit 4603804719079489536) (nat_lit 4606056518893174784) (nat_lit 4604263523291527906) (nat_lit 13808379181449583612) (nat_lit 4591485797838761652) (nat_lit 4604508406521266178) (nat_lit 4603804719079489536) (nat_lit 4606056518893174784) (nat_lit 4604649144009621505) (nat_lit 4604930618986332160) (nat_lit 4602678819172646912)]
noncomputable def ta11_5 : List L4 := [l4 (nat_lit 4604086194056200190) (nat_lit 4602678819172646912) (nat_lit 4607182418800017408) (nat_lit 4603596427596723650) (nat_lit 13812882781076954137) (nat_lit 4595989397466132144) (nat_lit 4604086194056200190) (nat_lit 4602678819172646912) (nat_lit 4607182418800017408) (nat_lit 4604649144009621504) (nat_lit 4604930618986332160) (nat_lit 4607182418800017408), l4 (nat_lit 4604086194056200192) (nat_lit 4602678819172646912) (nat_lit 4607182418800017408) (nat_lit 4603596427596723650) (nat_lit 13812882781076954126) (nat_lit 4595989397466132148) (nat_lit 4604086194056200192) (nat_lit 4602678819172646910) (nat_lit 4607182418800017408) (nat_lit 4604649144009621504) (nat_lit 4604930618986332160) (nat_lit 4607182418800017408), l4 (nat_lit 4604086194056200196) (nat_lit 4602678819172646912) (nat_lit 4607182418800017408) (nat_lit 4603596427596723652) (nat_lit 13812882781076954108) (nat_lit 4595989397466132148) (nat_lit 4604086194056200196) (nat_lit 4602678819172646913) (nat_lit 4607182418800017408) (nat_lit 4604649144009621505) (nat_lit 4604930618986332160) (nat_lit 4607182418800017408)]
theorem tk11 : okTails (hueOf 11) ta11_0 ta11_1 ta11_2 ta11_3 ta11_4 ta11_5 = true := by kernel_rfl
theorem ch11_0 : okHeads 11 0 ta11_0 ta11_1 ta11_2 ta11_3 ta11_4 ta11_5 (t3 (nat_lit 4596486369685012476) (nat_lit 4593671619917905920) (nat_lit 4600427019358961664)) (t3 (nat_lit 4594797519824748536) (nat_lit 0) (nat_lit 4602678819172646912)) (t3 (nat_lit 4600989969312382972) (nat_lit 4598175219545276416) (nat_lit 4604930618986332160)) (t3 (nat_lit 4599301119452119032) (nat_lit 0) (nat_lit 4607182418800017408)) (t3 (nat_lit 4604508406521266175) (nat_lit 4603804719079489536) (nat_lit 4606056518893174784)) (t3 (nat_lit 4604086194056200190) (nat_lit 4602678819172646912) (nat_lit 4607182418800017408)) = true := by kernel_rfl
theorem ch11_1 : okHeads 11 1 ta11_0 ta11_1 ta11_2 ta11_3 ta11_4 ta11_5 (t3 (nat_lit 4596486369685012479) (nat_lit 4593671619917905920) (nat_lit 4600427019358961664)) (t3 (nat_lit 4594797519824748542) (nat_lit 0) (nat_lit 4602678819172646912)) (t3 (nat_lit 4600989969312382975) (nat_lit 4598175219545276416) (nat_lit 4604930618986332160)) (t3 (nat_lit 4599301119452119038) (nat_lit 0) (nat_lit 4607182418800017408)) (t3 (nat_lit 4604508406521266176) (nat_lit 4603804719079489536) (nat_lit 4606056518893174784)) (t3 (nat_lit 4604086194056200192) (nat_lit 4602678819172646912) (nat_lit 4607182418800017408)) = true := by kernel_rfl
theorem ch11_2 : okHeads 11 2 ta11_0 ta11_1 ta11_2 ta11_3 ta11_4 ta11_5 (t3 (nat_lit 4596486369685012476) (nat_lit 4593671619917905920) (nat_lit 4600427019358961664)) (t3 (nat_lit 4594797519824748536) (nat_lit 0) (nat_lit 4602678819172646912)) (t3 (nat_lit 4600989969312382972) (nat_lit 4598175219545276416) (nat_lit 4604930618986332160)) (t3 (nat_lit 4599301119452119032) (nat_lit 0) (nat_lit 4607182418800017408)) (t3 (nat_lit 4604508406521266175) (nat_lit 4603804719079489536) (nat_lit 4606056518893174784)) (t3 (nat_lit 4604086194056200190) (nat_lit 4602678819172646912) (nat_lit 4607182418800017408)) = true := by kernel_rfl
theorem ch11_3 : okHeads 11 3 ta11_0 ta11_1 ta11_2 ta11_3 ta11_4 ta11_5 (t3 (nat_lit 4596486369685012488) (nat_lit 4593671619917905920) (nat_lit 4600427019358961664)) (t3 (nat_lit 4594797519824748560) (nat_lit 0) (nat_lit 4602678819172646912)) (t3 (nat_lit 4600989969312382984) (nat_lit 4598175219545276416) (nat_lit 4604930618986332160)) (t3 (nat_lit 4599301119452119056) (nat_lit 0) (nat_lit 4607182418800017408)) (t3 (nat_lit 4604508406521266178) (nat_lit 4603804719079489536) (nat_lit 4606056518893174784)) (t3 (nat_lit 4604086194056200196) (nat_lit 4602678819172646912) (nat_lit 4607182418800017408)) = true := by kernel_rfl
theorem ch11_4 : okHeads 11 4 ta11_0 ta11_1 ta11_2 ta11_3 ta11_4 ta11_5 (t3 (nat_lit 4596486369685012488) (nat_lit 4593671619917905920) (nat_lit 4600427019358961664)) (t3 (nat_lit 4594797519824748560) (nat_lit 0) (nat_lit 4602678819172646912)) (t3 (nat_lit 4600989969312382984) (nat_lit 4598175219545276416) (nat_lit 4604930618986332160)) (t3 (nat_lit 4599301119452119056) (nat_lit 0) (nat_lit 4607182418800017408)) (t3 (nat_lit 4604508406521266178) (nat_lit 4603804719079489536) (nat_lit 4606056518893174784)) (t3 (nat_lit 4604086194056200196) (nat_lit 4602678819172646912) (nat_lit 4607182418800017408)) = true := by kernel_rfl
noncomputable def ta12_0 : List L4 := [l4 (nat_lit 4599019644475408382) (nat_lit 4593671619917905920) (nat_lit 4600427019358961664) (nat_lit 4596520146682217758) (nat_lit 4582150511351166694) (nat_lit 4592924697919706520) (nat_lit 4599019644475408382) (nat_lit 4593671619917905921) (nat_lit 4600427019358961664) (nat_lit 4605212093963042815) (nat_lit 4598175219545276416) (nat_lit 4602678819172646911), l4 (nat_lit 4599019644475408384) (nat_lit 4593671619917905920) (nat_lit 4600427019358961664) (nat_lit 4596520146682217759) (nat_lit 4582150511351166716) (nat_lit 4592924697919706522) (nat_lit 4599019644475408384) (nat_lit 4593671619917905920) (nat_lit 4600427019358961664) (nat_lit 4605212093963042816) (nat_lit 4598175219545276416) (nat_lit 4602678819172646912), l4 (nat_lit 4599019644475408388) (nat_lit 4593671619917905920) (nat_lit 4600427019358961664) (nat_lit 4596520146682217761) (nat_lit 4582150511351166752) (nat_lit 4592924697919706527) (nat_lit 4599019644475408388) (nat_lit 4593671619917905920) (nat_lit 4600427019358961664) (nat_lit 4605212093963042817) (nat_lit 4598175219545276416) (nat_lit 4602678819172646912)]
noncomputable def ta12_1 : List L4 := [l4 (nat_lit 4599864069405540348) (nat_lit 0) (nat_lit 4602678819172646912) (nat_lit 4594865073819159099) (nat_lit 4586654110978537194) (nat_lit 4597428297547077017) (nat_lit 4599864069405540348) (nat_lit 0) (nat_lit 4602678819172646912) (nat_lit 4605212093963042816) (nat_lit 4598175219545276416) (nat_lit 4607182418800017408), l4 (nat_lit 4599864069405540351) (nat_lit 0) (nat_lit 4602678819172646912) (nat_lit 4594865073819159101) (nat_lit 4586654110978537206) (nat_lit 4597428297547077018) (nat_lit 4599864069405540351) (nat_lit 4359484439294640128) (nat_lit 4602678819172646912) (nat_lit 4605212093963042816) (nat_lit 4598175219545276416) (nat_lit 4607182418800017408), l4 (nat_lit 4599864069405540360) (nat_lit 0) (nat_lit 4602678819172646912) (nat_lit 4594865073819159106) (nat_lit 4586654110978537248) (nat_lit 4597428297547077023) (nat_lit 4599864069405540360) (nat_lit 0) (nat_lit 4602678819172646912) (nat_lit 4605212093963042817) (nat_lit 4598175219545276416) (nat_lit 4607182418800017408)]
noncomputable def ta12_2 : List L4 := [l4 (nat_lit 4603523244102778878) (nat_lit 4598175219545276416) (nat_lit 4604930618986332160) (nat_lit 4601023746309588254) (nat_lit 4586654110978537190) (nat_lit 4597428297547077016) (nat_lit 4603523244102778878) (nat_lit 4598175219545276417) (nat_lit 4604930618986332160) (nat_lit 4605212093963042815) (nat_lit 4602678819172646912) (nat_lit 4602678819172646911), l4 (nat_lit 4603523244102778880) (nat_lit 4598175219545276416) (nat_lit 4604930618986332160) (nat_lit 4601023746309588255) (nat_lit 4586654110978537212) (nat_lit 4597428297547077018) (nat_lit 4603523244102778880) (nat_lit 4598175219545276416) (nat_lit 4604930618986332160) (nat_lit 4605212093963042816) (nat_lit 4602678819172646912) (nat_lit 4602678819172646912), l4 (nat_lit 4603523244102778884) (nat_lit 4598175219545276416) (nat_lit 4604930618986332160) (nat_lit 4601023746309588257) (nat_lit 4586654110978537248) (nat_lit 4597428297547077023) (nat_lit 4603523244102778884) (nat_lit 4598175219545276416) (nat_lit 4604930618986332160) (nat_lit 4605212093963042817) (nat_lit 4602678819172646912) (nat_lit 4602678819172646912)]
noncomputable def ta12_3 : List L4 := [l4 (nat_lit 4604367669032910844) (nat_lit 0) (nat_lit 4607182418800017408) (nat_lit 4599368673446529595) (nat_lit 4591157710605907690) (nat_lit 4601931897174447513) (nat_lit 4604367669032910844) (nat_lit 0) (nat_lit 4607182418800017408) (nat_lit 4605212093963042816) (nat_lit 4602678819172646912) (nat_lit 4607182418800017408), l4 (nat_lit 4604367669032910847) (nat_lit 0) (nat_lit 4607182418800017408) (nat_lit 4599368673446529597) (nat_lit 4591157710605907702) (nat_lit 4601931897174447514) (nat_lit 4604367669032910847) (nat_lit 4363988038922010624) (nat_lit 4607182418800017408) (nat_lit 4605212093963042816) (nat_lit 4602678819172646912) (nat_lit 4607182418800017408), l4 (nat_lit 4604367669032910856) (nat_lit 0) (nat_lit 4607182418800017408) (nat_lit 4599368673446529602) (nat_lit 4591157710605907744) (nat_lit 4601931897174447519) (nat_lit 4604367669032910856) (nat_lit 0) (nat_lit 4607182418800017408) (nat_lit 4605212093963042817) (nat_lit 4602678819172646912) (nat_lit 4607182418800017408)]
noncomputable def ta12_4 : List L4 := [l4 (nat_lit 4605352831451398143) (nat_lit 4603804719079489536) (nat_lit 4606056518893174784) (nat_lit 4604516850770567494) (nat_lit 4582150511351166718) (nat_lit 4592924697919706531) (nat_lit 4605352831451398143) (nat_lit 4603804719079489534) (nat_lit 4606056518893174784) (nat_lit 4605212093963042816) (nat_lit 4604930618986332159) (nat_lit 4602678819172646914), l4 (nat_lit 4605352831451398144) (nat_lit 4603804719079489536) (nat_lit 4606056518893174784) (nat_lit 4604516850770567496) (nat_lit 4582150511351166710) (nat_lit 4592924697919706520) (nat_lit 4605352831451398144) (nat_lit 4603804719079489537) (nat_lit 4606056518893174784) (nat_lit 4605212093963042816) (nat_lit 4604930618986332160) (nat_lit 4602678819172646910), l4 (nat_lit 4605352831451398146) (nat_lit 4603804719079489536) (nat_lit 4606056518893174784) (nat_lit 4604516850770567496) (nat_lit 4582150511351166758) (nat_lit 4592924697919706528) (nat_lit 4605352831451398146) (nat_lit 4603804719079489535) (nat_lit 4606056518893174784) (nat_lit 4605212093963042817) (nat_lit 4604930618986332160) (nat_lit 4602678819172646913)]
noncomputable def ta12_5 : List L4 := [l4 (nat_lit 4605775043916464126) (nat_lit 4602678819172646912) (nat_lit 4607182418800017408) (nat_lit 4604103082554802831) (nat_lit 4586654110978537190) (nat_lit 4597428297547077016) (nat_lit 4605775043916464126) (nat_lit 4602678819172646913) (nat_lit 4607182418800017408) (nat_lit 4605212093963042815) (nat_lit 4604930618986332160) (nat_lit 4607182418800017408), l4 (nat_lit 4605775043916464128) (nat_lit 4602678819172646912) (nat_lit 4607182418800017408) (nat_lit 4604103082554802831) (nat_lit 4586654110978537214) (nat_lit 4597428297547077020) (nat_lit 4605775043916464128) (nat_lit 4602678819172646910) (nat_lit 4607182418800017408) (nat_lit 4605212093963042816) (nat_lit 4604930618986332160) (nat_lit 4607182418800017408), l4 (nat_lit 4605775043916464132) (nat_lit 4602678819172646912) (nat_lit 4607182418800017408) (nat_lit 4604103082554802832) (nat_lit 4586654110978537254) (nat_lit 4597428297547077024) (nat_lit 4605775043916464132) (nat_lit 4602678819172646910) (nat_lit 4607182418800017408) (nat_lit 4605212093963042817) (nat_lit 4604930618986332160) (nat_lit 4607182418800017408)]
theorem tk12 : okTails (hueOf 12) ta12_0 ta12_1 ta12_2 ta12_3 ta12_4 ta12_5 = true := by kernel_rfl
theorem ch12_0 : okHeads 12 0 ta12_0 ta12_1 ta12_2 ta12_3 ta12_4 ta12_5 (t3 (nat_lit 4599019644475408382) (nat_lit 4593671619917905920) (nat_lit 4600427019358961664)) (t3 (nat_lit 4599864069405540348) (nat_lit 0) (nat_lit 4602678819172646912)) (t3 (nat_lit 4603523244102778878) (nat_lit 4598175219545276416) (nat_lit 4604930618986332160)) (t3 (nat_lit 4604367669032910844) (nat_lit 0) (nat_lit 4607182418800017408)) (t3 (nat_lit 4605352831451398143) (nat_lit 4603804719079489536) (nat_lit 4606056518893174784)) (t3 (nat_lit 4605775043916464126) (nat_lit 4602678819172646912) (nat_lit 4607182418800017408)) = true := by kernel_rfl
theorem ch12_1 : okHeads 12 1 ta12_0 ta12_1 ta12_2 ta12_3 ta12_4 ta12_5 (t3 (nat_lit 4599019644475408384) (nat_lit 4593671619917905920) (nat_lit 4600427019358961664)) (t3 (nat_lit 4599864069405540351) (nat_lit 0) (nat_lit 4602678819172646912)) (t3 (nat_lit 4603523244102778880) (nat_lit 4598175219545276416) (nat_lit 4604930618986332160)) (t3 (nat_lit 4604367669032910847) (nat_lit 0) (nat_lit 4607182418800017408)) (t3 (nat_lit 4605352831451398144) (nat_lit 4603804719079489536) (nat_lit 4606056518893174784)) (t3 (nat_lit 4605775043916464128) (nat_lit 4602678819172646912) (nat_lit 4607182418800017408)) = true := by kernel_rfl
theorem ch12_2 : okHeads 12 2 ta12_0 ta12_1 ta12_2 ta12_3 ta12_4 ta12_5 (t3 (nat_lit 4599019644475408382) (nat_lit 4593671619917905920) (nat_lit 4600427019358961664)) (t3 (nat_lit 4599864069405540348) (nat_lit 0) (nat_lit 4602678819172646912)) (t3 (nat_lit 4603523244102778878) (nat_lit 4598175219545276416) (nat_lit 4604930618986332160)) (t3 (nat_lit 4604367669032910844) (nat_lit 0) (nat_lit 4607182418800017408)) (t3 (nat_lit 4605352831451398143) (nat_lit 4603804719079489536) (nat_lit 4606056518893174784)) (t3 (nat_lit 4605775043916464126) (nat_lit 4602678819172646912) (nat_lit 4607182418800017408)) = true := by kernel_rfl
theorem ch12_3 : okHeads 12 3 ta12_0 ta12_1 ta12_2 ta12_3 ta12_4 ta12_5 (t3 (nat_lit 4599019644475408388) (nat_lit 4593671619917905920) (nat_lit 4600427019358961664)) (t3 (nat_lit 4599864069405540360) (nat_lit 0) (nat_lit 4602678819172646912)) (t3 (nat_lit 4603523244102778884) (nat_lit 4598175219545276416) (nat_lit 4604930618986332160)) (t3 (nat_lit 4604367669032910856) (nat_lit 0) (nat_lit 4607182418800017408)) (t3 (nat_lit 4605352831451398146) (nat_lit 4603804719079489536) (nat_lit 4606056518893174784)) (t3 (nat_lit 4605775043916464132) (nat_lit 4602678819172646912) (nat_lit 4607182418800017408)) = true := by kernel_rfl
theorem ch12_4 : okHeads 12 4 ta12_0 ta12_1 ta12_2 ta12_3 ta12_4 ta12_5 (t3 (nat_lit 4599019644475408388) (nat_lit 4593671619917905920) (nat_lit 4600427019358961664)) (t3 (nat_lit 4599864069405540360) (nat_lit 0) (nat_lit 4602678819172646912)) (t3 (nat_lit 4603523244102778884) (nat_lit 4598175219545276416) (nat_lit 4604930618986332160)) (t3 (nat_lit 4604367669032910856) (nat_lit 0) (nat_lit 4607182418800017408)) (t3 (nat_lit 4605352831451398146) (nat_lit 4603804719079489536) (nat_lit 4606056518893174784)) (t3 (nat_lit 4605775043916464132) (nat_lit 4602678819172646912) (nat_lit 4607182418800017408)) = true := by kernel_rfl
noncomputable def ta13_0 : List L4 := [l4 (nat_lit 4600427019358961664) (nat_lit 4593671619917905920) (nat_lit 4600145544382251005) (nat_lit 4597302647117473381) (nat_lit 4590022015369875559) (nat_lit 4593722003938737126) (nat_lit 4600427019358961664) (nat_lit 4593671619917905917) (nat_lit 4600145544382251005) (nat_lit 4605775043916464129) (nat_lit 4598175219545276415) (nat_lit 4602678819172646914), l4 (nat_lit 4600427019358961664) (nat_lit 4593671619917905920) (nat_lit 4600145544382251011) (nat_lit 4597302647117473382) (nat_lit 4590022015369875551) (nat_lit 4593722003938737130) (nat_lit 4600427019358961664) (nat_lit 4593671619917905916) (nat_lit 4600145544382251012) (nat_lit 4605775043916464127) (nat_lit 4598175219545276415) (nat_lit 4602678819172646914)]
noncomputable def ta13_1 : List L4 := [l4 (nat_lit 4602678819172646912) (nat_lit 0) (nat_lit 4602115869219225594) (nat_lit 4596430074689670347) (nat_lit 4594525614997246054) (nat_lit 4598225603566107621) (nat_lit 4602678819172646912) (nat_lit 4359484439294640128) (nat_lit 4602115869219225594) (nat_lit 4605775043916464129) (nat_lit 4598175219545276416) (nat_lit 4607182418800017408), l4 (nat_lit 4602678819172646912) (nat_lit 0) (nat_lit 4602115869219225606) (nat_lit 4596430074689670350) (nat_lit 4594525614997246046) (nat_lit 4598225603566107625) (nat_lit 4602678819172646912) (nat_lit 4359484439294640128) (nat_lit 4602115869219225606) (nat_lit 4605775043916464127) (nat_lit 4598175219545276416) (nat_lit 4607182418800017408)]
noncomputable def ta13_2 : List L4 := [l4 (nat_lit 4604930618986332160) (nat_lit 4598175219545276416) (nat_lit 4604649144009621501) (nat_lit 4601806246744843877) (nat_lit 4594525614997246055) (nat_lit 4598225603566107622) (nat_lit 4604930618986332160) (nat_lit 4598175219545276413) (nat_lit 4604649144009621501) (nat_lit 4605775043916464129) (nat_lit 4602678819172646911) (nat_lit 4602678819172646914), l4 (nat_lit 4604930618986332160) (nat_lit 4598175219545276416) (nat_lit 4604649144009621507) (nat_lit 4601806246744843878) (nat_lit 4594525614997246047) (nat_lit 4598225603566107626) (nat_lit 4604930618986332160) (nat_lit 4598175219545276412) (nat_lit 4604649144009621508) (nat_lit 4605775043916464127) (nat_lit 4602678819172646911) (nat_lit 4602678819172646914)]
noncomputable def ta13_3 : List L4 := [l4 (nat_lit 4607182418800017408) (nat_lit 0) (nat_lit 4606619468846596090) (nat_lit 4600933674317040843) (nat_lit 4599029214624616550) (nat_lit 4602729203193478117) (nat_lit 4607182418800017408) (nat_lit 4363988038922010624) (nat_lit 4606619468846596090) (nat_lit 4605775043916464129) (nat_lit 4602678819172646912) (nat_lit 4607182418800017408), l4 (nat_lit 4607182418800017408) (nat_lit 0) (nat_lit 4606619468846596102) (nat_lit 4600933674317040846) (nat_lit 4599029214624616542) (nat_lit 4602729203193478121) (nat_lit 4607182418800017408) (nat_lit 4363988038922010624) (nat_lit 4606619468846596102) (nat_lit 4605775043916464127) (nat_lit 4602678819172646912) (nat_lit 4607182418800017408)]
noncomputable def ta13_4 : List L4 := [l4 (nat_lit 4606056518893174784) (nat_lit 4603804719079489536) (nat_lit 4605915781404819454) (nat_lit 4604712475879381401) (nat_lit 4590022015369875560) (nat_lit 4593722003938737126) (nat_lit 4606056518893174784) (nat_lit 4603804719079489535) (nat_lit 4605915781404819454) (nat_lit 4605775043916464129) (nat_lit 4604930618986332160) (nat_lit 4602678819172646913), l4 (nat_lit 4606056518893174784) (nat_lit 4603804719079489536) (nat_lit 4605915781404819458) (nat_lit 4604712475879381402) (nat_lit 4590022015369875548) (nat_lit 4593722003938737129) (nat_lit 4606056518893174784) (nat_lit 4603804719079489536) (nat_lit 4605915781404819458) (nat_lit 4605775043916464127) (nat_lit 4604930618986332160) (nat_lit 4602678819172646912)]
noncomputable def ta13_5 : List L4 := [l4 (nat_lit 4607182418800017408) (nat_lit 4602678819172646912) (nat_lit 4606900943823306749) (nat_lit 4604494332772430643) (nat_lit 4594525614997246054) (nat_lit 4598225603566107621) (nat_lit 4607182418800017408) (nat_lit 4602678819172646912) (nat_lit 4606900943823306749) (nat_lit 4605775043916464129) (nat_lit 4604930618986332160) (nat_lit 4607182418800017408), l4 (nat_lit 4607182418800017408) (nat_lit 4602678819172646912) (nat_lit 4606900943823306755) (nat_lit 4604494332772430643) (nat_lit 4594525614997246047) (nat_lit 4598225603566107626) (nat_lit 4607182418800017408) (nat_lit 4602678819172646911) (nat_lit 4606900943823306756) (nat_lit 4605775043916464127) (nat_lit 4604930618986332160) (nat_lit 4607182418800017408)]
theorem tk13 : okTails (hueOf 13) ta13_0 ta13_1 ta13_2 ta13_3 ta13_4 ta13_5 = true := by kernel_rfl
theorem ch13_0 : okHeads 13 0 ta13_0 ta13_1 ta13_2 ta13_3 ta13_4 ta13_5 (t3 (nat_lit 4600427019358961664) (nat_lit 4593671619917905920) (nat_lit 4600145544382251005)) (t3 (nat_lit 4602678819172646912) (nat_lit 0) (nat_lit 4602115869219225594)) (t3 (nat_lit 4604930618986332160) (nat_lit 4598175219545276416) (nat_lit 4604649144009621501)) (t3 (nat_lit 4607182418800017408) (nat_lit 0) (nat_lit 4606619468846596090)) (t3 (nat_lit 4606056518893174784) (nat_lit 4603804719079489536) (nat_lit 4605915781404819454)) (t3 (nat_lit 4607182418800017408) (nat_lit 4602678819172646912) (nat_lit 4606900943823306749)) = true := by kernel_rfl
theorem ch13_1 : okHeads 13 1 ta13_0 ta13_1 ta13_2 ta13_3 ta13_4 ta13_5 (t3 (nat_lit 4600427019358961664) (nat_lit 4593671619917905920) (nat_lit 4600145544382251005)) (t3 (nat_lit 4602678819172646912) (nat_lit 0) (nat_lit 4602115869219225594)) (t3 (nat_lit 4604930618986332160) (nat_lit 4598175219545276416) (nat_lit 4604649144009621501)) (t3 (nat_lit 4607182418800017408) (nat_lit 0) (nat_lit 4606619468846596090)) (t3 (nat_lit 4606056518893174784) (nat_lit 4603804719079489536) (nat_lit 4605915781404819454)) (t3 (nat_lit 4607182418800017408) (nat_lit 4602678819172646912) (nat_lit 4606900943823306749)) = true := by kernel_rfl
theorem ch13_2 : okHeads 13 2 ta13_0 ta13_1 ta13_2 ta13_3 ta13_4 ta13_5 (t3 (nat_lit 4600427019358961664) (nat_lit 4593671619917905920) (nat_lit 4600145544382251005)) (t3 (nat_lit 4602678819172646912) (nat_lit 0) (nat_lit 4602115869219225594)) (t3 (nat_lit 4604930618986332160) (nat_lit 4598175219545276416) (nat_lit 4604649144009621501)) (t3 (nat_lit 4607182418800017408) (nat_lit 0) (nat_lit 4606619468846596090)) (t3 (nat_lit 4606056518893174784) (nat_lit 4603804719079489536) (nat_lit 4605915781404819454)) (t3 (nat_lit 4607182418800017408) (nat_lit 4602678819172646912) (nat_lit 4606900943823306749)) = true := by kernel_rfl
theorem ch13_3 : okHeads 13 3 ta13_0 ta13_1 ta13_2 ta13_3 ta13_4 ta13_5 (t3 (nat_lit 4600427019358961664) (nat_lit 4593671619917905920) (nat_lit 4600145544382251005)) (t3 (nat_lit 4602678819172646912) (nat_lit 0) (nat_lit 4602115869219225594)) (t3 (nat_lit 4604930618986332160) (nat_lit 4598175219545276416) (nat_lit 4604649144009621501)) (t3 (nat_lit 4607182418800017408) (nat_lit 0) (nat_lit 4606619468846596090)) (t3 (nat_lit 4606056518893174784) (nat_lit 4603804719079489536) (nat_lit 4605915781404819454)) (t3 (nat_lit 4607182418800017408) (nat_lit 4602678819172646912) (nat_lit 4606900943823306749)) = true := by kernel_rfl
theorem ch13_4 : okHeads 13 4 ta13_0 ta13_1 ta13_2 ta13_3 ta13_4 ta13_5 (t3 (nat_lit 4600427019358961664) (nat_lit 4593671619917905920) (nat_lit 4600145544382251011)) (t3 (nat_lit 4602678819172646912) (nat_lit 0) (nat_lit 4602115869219225606)) (t3 (nat_lit 4604930618986332160) (nat_lit 4598175219545276416) (nat_lit 4604649144009621507)) (t3 (nat_lit 4607182418800017408) (nat_lit 0) (nat_lit 4606619468846596102)) (t3 (nat_lit 4606056518893174784) (nat_lit 4603804719079489536) (nat_lit 4605915781404819458)) (t3 (nat_lit 4607182418800017408) (nat_lit 4602678819172646912) (nat_lit 4606900943823306755)) = true := by kernel_rfl
noncomputable def ta14_0 : List L4 := [l4 (nat_lit 4600427019358961664) (nat_lit 4593671619917905920) (nat_lit 4598456694521987069) (nat_lit 4596931100148215315) (nat_lit 4592195227370063191) (nat_lit 4591664027794014835) (nat_lit 4600427019358961664) (nat_lit 4593671619917905918) (nat_lit 4598456694521987070) (nat_lit 4606337993869885441) (nat_lit 4598175219545276416) (nat_lit 4602678819172646912), l4 (nat_lit 4600427019358961664) (nat_lit 4593671619917905920) (nat_lit 4598456694521987075) (nat_lit 4596931100148215316) (nat_lit 4592195227370063184) (nat_lit 4591664027794014843) (nat_lit 4600427019358961664) (nat_lit 4593671619917905916) (nat_lit 4598456694521987076) (nat_lit 4606337993869885438) (nat_lit 4598175219545276415) (nat_lit 4602678819172646914)]
noncomputable def ta14_1 : List L4 := [l4 (nat_lit 4602678819172646912) (nat_lit 0) (nat_lit 4598738169498697722) (nat_lit 4595686980751154216) (nat_lit 4596698826997433687) (nat_lit 4596167627421385329) (nat_lit 4602678819172646912) (nat_lit 4354980839667269632) (nat_lit 4598738169498697722) (nat_lit 4606337993869885441) (nat_lit 4598175219545276416) (nat_lit 4607182418800017408), l4 (nat_lit 4602678819172646912) (nat_lit 0) (nat_lit 4598738169498697734) (nat_lit 4595686980751154218) (nat_lit 4596698826997433679) (nat_lit 4596167627421385337) (nat_lit 4602678819172646912) (nat_lit 0) (nat_lit 4598738169498697734) (nat_lit 4606337993869885439) (nat_lit 4598175219545276416) (nat_lit 4607182418800017408)]
noncomputable def ta14_2 : List L4 := [l4 (nat_lit 4604930618986332160) (nat_lit 4598175219545276416) (nat_lit 4602960294149357565) (nat_lit 4601434699775585811) (nat_lit 4596698826997433687) (nat_lit 4596167627421385331) (nat_lit 4604930618986332160) (nat_lit 4598175219545276414) (nat_lit 4602960294149357566) (nat_lit 4606337993869885441) (nat_lit 4602678819172646912) (nat_lit 4602678819172646912), l4 (nat_lit 4604930618986332160) (nat_lit 4598175219545276416) (nat_lit 4602960294149357571) (nat_lit 4601434699775585812) (nat_lit 4596698826997433680) (nat_lit 4596167627421385339) (nat_lit 4604930618986332160) (nat_lit 4598175219545276412) (nat_lit 4602960294149357572) (nat_lit 4606337993869885438) (nat_lit 4602678819172646911) (nat_lit 4602678819172646914)]
noncomputable def ta14_3 : List L4 := [l4 (nat_lit 4607182418800017408) (nat_lit 0) (nat_lit 4603241769126068218) (nat_lit 4600190580378524712) (nat_lit 4601202426624804183) (nat_lit 4600671227048755825) (nat_lit 4607182418800017408) (nat_lit 4359484439294640128) (nat_lit 4603241769126068218) (nat_lit 4606337993869885441) (nat_lit 4602678819172646912) (nat_lit 4607182418800017408), l4 (nat_lit 4607182418800017408) (nat_lit 0) (nat_lit 4603241769126068230) (nat_lit 4600190580378524714) (nat_lit 4601202426624804175) (nat_lit 4600671227048755833) (nat_lit 4607182418800017408) (nat_lit 0) (nat_lit 4603241769126068230) (nat_lit 4606337993869885439) (nat_lit 4602678819172646912) (nat_lit 4607182418800017408)]
noncomputable def ta14_4 : List L4 := [l4 (nat_lit 4606056518893174784) (nat_lit 4603804719079489536) (nat_lit 4605071356474687486) (nat_lit 4604619589137066885) (nat_lit 4592195227370063192) (nat_lit 4591664027794014831) (nat_lit 4606056518893174784) (nat_lit 4603804719079489536) (nat_lit 4605071356474687486) (nat_lit 4606337993869885441) (nat_lit 4604930618986332160) (nat_lit 4602678819172646912), l4 (nat_lit 4606056518893174784) (nat_lit 4603804719079489536) (nat_lit 4605071356474687490) (nat_lit 4604619589137066885) (nat_lit 4592195227370063183) (nat_lit 4591664027794014844) (nat_lit 4606056518893174784) (nat_lit 4603804719079489536) (nat_lit 4605071356474687490) (nat_lit 4606337993869885439) (nat_lit 4604930618986332160) (nat_lit 4602678819172646912)]
noncomputable def ta14_5 : List L4 := [l4 (nat_lit 4607182418800017408) (nat_lit 4602678819172646912) (nat_lit 4605212093963042813) (nat_lit 4604308559287801610) (nat_lit 4596698826997433687) (nat_lit 4596167627421385329) (nat_lit 4607182418800017408) (nat_lit 4602678819172646913) (nat_lit 4605212093963042813) (nat_lit 4606337993869885441) (nat_lit 4604930618986332160) (nat_lit 4607182418800017408), l4 (nat_lit 4607182418800017408) (nat_lit 4602678819172646912) (nat_lit 4605212093963042819) (nat_lit 4604308559287801610) (nat_lit 4596698826997433680) (nat_lit 4596167627421385339) (nat_lit 4607182418800017408) (nat_lit 4602678819172646910) (nat_lit 4605212093963042820) (nat_lit 4606337993869885438) (nat_lit 4604930618986332160) (nat_lit 4607182418800017408)]
theorem tk14 : okTails (hueOf 14) ta14_0 ta14_1 ta14_2 ta14_3 ta14_4 ta14_5 = true := by kernel_rfl
theorem ch14_0 : okHeads 14 0 ta14_0 ta14_1 ta14_2 ta14_3 ta14_4 ta14_5 (t3 (nat_lit 4600427019358961664) (nat_lit 4593671619917905920) (nat_lit 4598456694521987069)) (t3 (nat_lit 4602678819172646912) (nat_lit 0) (nat_lit 4598738169498697722)) (t3 (nat_lit 4604930618986332160) (nat_lit 4598175219545276416) (nat_lit 4602960294149357565)) (t3 (nat_lit 4607182418800017408) (nat_lit 0) (nat_lit 4603241769126068218)) (t3 (nat_lit 4606056518893174784) (nat_lit 4603804719079489536) (nat_lit 4605071356474687486)) (t3 (nat_lit 4607182418800017408) (nat_lit 4602678819172646912) (nat_lit 4605212093963042813)) = true := by kernel_rfl
theorem ch14_1 : okHeads 14 1 ta14_0 ta14_1 ta14_2 ta14_3 ta14_4 ta14_5 (t3 (nat_lit 4600427019358961664) (nat_lit 4593671619917905920) (nat_lit 4598456694521987069)) (t3 (nat_lit 4602678819172646912) (nat_lit 0) (nat_lit 4598738169498697722)) (t3 (nat_lit 4604930618986332160) (nat_lit 4598175219545276416) (nat_lit 4602960294149357565)) (t3 (nat_lit 4607182418800017408) (nat_lit 0) (nat_lit 4603241769126068218)) (t3 (nat_lit 4606056518893174784) (nat_lit 4603804719079489536) (nat_lit 4605071356474687486)) (t3 (nat_lit 4607182418800017408) (nat_lit 4602678819172646912) (nat_lit 4605212093963042813)) = true := by kernel_rfl
theorem ch14_2 : okHeads 14 2 ta14_0 ta14_1 ta14_2 ta14_3 ta14_4 ta14_5 (t3 (nat_lit 4600427019358961664) (nat_lit 4593671619917905920) (nat_lit 4598456694521987069)) (t3 (nat_lit 4602678819172646912) (nat_lit 0) (nat_lit 4598738169498697722)) (t3 (nat_lit 4604930618986332160) (nat_lit 4598175219545276416) (nat_lit 4602960294149357565)) (t3 (nat_lit 4607182418800017408) (nat_lit 0) (nat_lit 4603241769126068218)) (t3 (nat_lit 4606056518893174784) (nat_lit 4603804719079489536) (nat_lit 4605071356474687486)) (t3 (nat_lit 4607182418800017408) (nat_lit 4602678819172646912) (nat_lit 4605212093963042813)) = true := by kernel_rfl
theorem ch14_3 : okHeads 14 3 ta14_0 ta14_1 ta14_2 ta14_3 ta14_4 ta14_5 (t3 (nat_lit 4600427019358961664) (nat_lit 4593671619917905920) (nat_lit 4598456694521987069)) (t3 (nat_lit 4602678819172646912) (nat_lit 0) (nat_lit 4598738169498697722)) (t3 (nat_lit 4604930618986332160) (nat_lit 4598175219545276416) (nat_lit 4602960294149357565)) (t3 (nat_lit 4607182418800017408) (nat_lit 0) (nat_lit 4603241769126068218)) (t3 (nat_lit 4606056518893174784) (nat_lit 4603804719079489536) (nat_lit 4605071356474687486)) (t3 (nat_lit 4607182418800017408) (nat_lit 4602678819172646912) (nat_lit 4605212093963042813)) = true := by kernel_rfl
theorem ch14_4 : okHeads 14 4 ta14_0 ta14_1 ta14_2 ta14_3 ta14_4 ta14_5 (t3 (nat_lit 4600427019358961664) (nat_lit 4593671619917905920) (nat_lit 4598456694521987075)) (t3 (nat_lit 4602678819172646912) (nat_lit 0) (nat_lit 4598738169498697734)) (t3 (nat_lit 4604930618986332160) (nat_lit 4598175219545276416) (nat_lit 4602960294149357571)) (t3 (nat_lit 4607182418800017408) (nat_lit 0) (nat_lit 4603241769126068230)) (t3 (nat_lit 4606056518893174784) (nat_lit 4603804719079489536) (nat_lit 4605071356474687490)) (t3 (nat_lit 4607182418800017408) (nat_lit 4602678819172646912) (nat_lit 4605212093963042819)) = true := by kernel_rfl
noncomputable def ta15_0 : List L4 := [l4 (nat_lit 4600427019358961664) (nat_lit 4593671619917905920) (nat_lit 4595360469778169850) (nat_lit 4596559553178957249) (nat_lit 4594020029644078373) (nat_lit 4589555667628461337) (nat_lit 4600427019358961664) (nat_lit 4593671619917905916) (nat_lit 4595360469778169850) (nat_lit 4606900943823306753) (nat_lit 4598175219545276415) (nat_lit 4602678819172646914), l4 (nat_lit 4600427019358961664) (nat_lit 4593671619917905920) (nat_lit 4595360469778169862) (nat_lit 4596559553178957250) (nat_lit 4594020029644078369) (nat_lit 4589555667628461345) (nat_lit 4600427019358961664) (nat_lit 4593671619917905917) (nat_lit 4595360469778169862) (nat_lit 4606900943823306751) (nat_lit 4598175219545276415) (nat_lit 4602678819172646914)]
noncomputable def ta15_1 : List L4 := [l4 (nat_lit 4602678819172646912) (nat_lit 0) (nat_lit 4591419820104220648) (nat_lit 4594943886812638084) (nat_lit 4598523629271448868) (nat_lit 4594059267255831831) (nat_lit 4602678819172646912) (nat_lit 4354980839667269632) (nat_lit 4591419820104220648) (nat_lit 4606900943823306753) (nat_lit 4598175219545276416) (nat_lit 4607182418800017408), l4 (nat_lit 4602678819172646912) (nat_lit 0) (nat_lit 4591419820104220696) (nat_lit 4594943886812638086) (nat_lit 4598523629271448864) (nat_lit 4594059267255831839) (nat_lit 4602678819172646911) (nat_lit 0) (nat_lit 4591419820104220698) (nat_lit 4606900943823306751) (nat_lit 4598175219545276415) (nat_lit 4607182418800017408)]
noncomputable def ta15_2 : List L4 := [l4 (nat_lit 4604930618986332160) (nat_lit 4598175219545276416) (nat_lit 4599864069405540346) (nat_lit 4601063152806327745) (nat_lit 4598523629271448869) (nat_lit 4594059267255831833) (nat_lit 4604930618986332160) (nat_lit 4598175219545276412) (nat_lit 4599864069405540346) (nat_lit 4606900943823306753) (nat_lit 4602678819172646911) (nat_lit 4602678819172646914), l4 (nat_lit 4604930618986332160) (nat_lit 4598175219545276416) (nat_lit 4599864069405540358) (nat_lit 4601063152806327746) (nat_lit 4598523629271448865) (nat_lit 4594059267255831841) (nat_lit 4604930618986332160) (nat_lit 4598175219545276413) (nat_lit 4599864069405540358) (nat_lit 4606900943823306751) (nat_lit 4602678819172646911) (nat_lit 4602678819172646914)]
noncomputable def ta15_3 : List L4 := [l4 (nat_lit 4607182418800017408) (nat_lit 0) (nat_lit 4595923419731591144) (nat_lit 4599447486440008580) (nat_lit 4603027228898819364) (nat_lit 4598562866883202327) (nat_lit 4607182418800017408) (nat_lit 4359484439294640128) (nat_lit 4595923419731591144) (nat_lit 4606900943823306753) (nat_lit 4602678819172646912) (nat_lit 4607182418800017408), l4 (nat_lit 4607182418800017408) (nat_lit 0) (nat_lit 4595923419731591192) (nat_lit 4599447486440008582) (nat_lit 4603027228898819360) (nat_lit 4598562866883202335) (nat_lit 4607182418800017407) (nat_lit 0) (nat_lit 4595923419731591194) (nat_lit 4606900943823306751) (nat_lit 4602678819172646911) (nat_lit 4607182418800017408)]
noncomputable def ta15_4 : List L4 := [l4 (nat_lit 4606056518893174784) (nat_lit 4603804719079489536) (nat_lit 4604226931544555518) (nat_lit 4604526702394752368) (nat_lit 4594020029644078373) (nat_lit 4589555667628461337) (nat_lit 4606056518893174784) (nat_lit 4603804719079489535) (nat_lit 4604226931544555518) (nat_lit 4606900943823306753) (nat_lit 4604930618986332160) (nat_lit 4602678819172646913), l4 (nat_lit 4606056518893174784) (nat_lit 4603804719079489536) (nat_lit 4604226931544555522) (nat_lit 4604526702394752369) (nat_lit 4594020029644078367) (nat_lit 4589555667628461343) (nat_lit 4606056518893174784) (nat_lit 4603804719079489536) (nat_lit 4604226931544555523) (nat_lit 4606900943823306750) (nat_lit 4604930618986332160) (nat_lit 4602678819172646912)]
noncomputable def ta15_5 : List L4 := [l4 (nat_lit 4607182418800017408) (nat_lit 4602678819172646912) (nat_lit 4603523244102778877) (nat_lit 4604122785803172577) (nat_lit 4598523629271448868) (nat_lit 4594059267255831831) (nat_lit 4607182418800017408) (nat_lit 4602678819172646912) (nat_lit 4603523244102778877) (nat_lit 4606900943823306753) (nat_lit 4604930618986332160) (nat_lit 4607182418800017408), l4 (nat_lit 4607182418800017408) (nat_lit 4602678819172646912) (nat_lit 4603523244102778883) (nat_lit 4604122785803172577) (nat_lit 4598523629271448865) (nat_lit 4594059267255831841) (nat_lit 4607182418800017408) (nat_lit 4602678819172646910) (nat_lit 4603523244102778883) (nat_lit 4606900943823306751) (nat_lit 4604930618986332160) (nat_lit 4607182418800017408)]
theorem tk15 : okTails (hueOf 15) ta15_0 ta15_1 ta15_2 ta15_3 ta15_4 ta15_5 = true := by kernel_rfl
theorem ch15_0 : okHeads 15 0 ta15_0 ta15_1 ta15_2 ta15_3 ta15_4 ta15_5 (t3 (nat_lit 4600427019358961664) (nat_lit 4593671619917905920) (nat_lit 4595360469778169850)) (t3 (nat_lit 4602678819172646912) (nat_lit 0) (nat_lit 4591419820104220648)) (t3 (nat_lit 4604930618986332160) (nat_lit 4598175219545276416) (nat_lit 4599864069405540346)) (t3 (nat_lit 4607182418800017408) (nat_lit 0) (nat_lit 4595923419731591144)) (t3 (nat_lit 4606056518893174784) (nat_lit 4603804719079489536) (nat_lit 4604226931544555518)) (t3 (nat_lit 4607182418800017408) (nat_lit 4602678819172646912) (nat_lit 4603523244102778877)) = true := by kernel_rfl
theorem ch15_1 : okHeads 15 1 ta15_0 ta15_1 ta15_2 ta15_3 ta15_4 ta15_5 (t3 (nat_lit 4600427019358961664) (nat_lit 4593671619917905920) (nat_lit 4595360469778169850)) (t3 (nat_lit 4602678819172646912) (nat_lit 0) (nat_lit 4591419820104220648)) (t3 (nat_lit 4604930618986332160) (nat_lit 4598175219545276416) (nat_lit 4599864069405540346)) (t3 (nat_lit 4607182418800017408) (nat_lit 0) (nat_lit 4595923419731591144)) (t3 (nat_lit 4606056518893174784) (nat_lit 4603804719079489536) (nat_lit 4604226931544555518)) (t3 (nat_lit 4607182418800017408) (nat_lit 4602678819172646912) (nat_lit 4603523244102778877)) = true := by kernel_rfl
theorem ch15_2 : okHeads 15 2 ta15_0 ta15_1 ta15_2 ta15_3 ta15_4 ta15_5 (t3 (nat_lit 4600427019358961664) (nat_lit 4593671619917905920) (nat_lit 4595360469778169850)) (t3 (nat_lit 4602678819172646912) (nat_lit 0) (nat_lit 4591419820104220648)) (t3 (nat_lit 4604930618986332160) (nat_lit 4598175219545276416) (nat_lit 4599864069405540346)) (t3 (nat_lit 4607182418800017408) (nat_lit 0) (nat_lit 4595923419731591144)) (t3 (nat_lit 4606056518893174784) (nat_lit 4603804719079489536) (nat_lit 4604226931544555518)) (t3 (nat_lit 4607182418800017408) (nat_lit 4602678819172646912) (nat_lit 4603523244102778877)) = true := by kernel_rfl
theorem ch15_3 : okHeads 15 3 ta15_0 ta15_1 ta15_2 ta15_3 ta15_4 ta15_5 (t3 (nat_lit 4600427019358961664) (nat_lit 4593671619917905920) (nat_lit 4595360469778169850)) (t3 (nat_lit 4602678819172646912) (nat_lit 0) (nat_lit 4591419820104220648)) (t3 (nat_lit 4604930618986332160) (nat_lit 4598175219545276416) (nat_lit 4599864069405540346)) (t3 (nat_lit 4607182418800017408) (nat_lit 0) (nat_lit 4595923419731591144)) (t3 (nat_lit 4606056518893174784) (nat_lit 4603804719079489536) (nat_lit 4604226931544555518)) (t3 (nat_lit 4607182418800017408) (nat_lit 4602678819172646912) (nat_lit 4603523244102778877)) = true := by kernel_rfl
theorem ch15_4 : okHeads 15 4 ta15_0 ta15_1 ta15_2 ta15_3 ta15_4 ta15_5 (t3 (nat_lit 4600427019358961664) (nat_lit 4593671619917905920) (nat_lit 4595360469778169862)) (t3 (nat_lit 4602678819172646912) (nat_lit 0) (nat_lit 4591419820104220696)) (t3 (nat_lit 4604930618986332160) (nat_lit 4598175219545276416) (nat_lit 4599864069405540358)) (t3 (nat_lit 4607182418800017408) (nat_lit 0) (nat_lit 4595923419731591192)) (t3 (nat_lit 4606056518893174784) (nat_lit 4603804719079489536) (nat_lit 4604226931544555522)) (t3 (nat_lit 4607182418800017408) (nat_lit 4602678819172646912) (nat_lit 4603523244102778883)) = true := by kernel_rfl
end Mine
end

section
set_option maxRecDepth 100000
set_option autoImplicit false
namespace Mine
open PySem
theorem int5 {P : Int → Prop} (h0 : P 0) (h1 : P 1) (h2 : P 2) (h3 : P 3) (h4 : P 4) {t : Int} (a : 0 ≤ t) (b : t < 5) : P t := by
  obtain ⟨k, rfl⟩ := Int.eq_ofNat_of_zero_le a
  have b := Int.ofNat_lt.mp b
  match k, b with
  | 0, _ => exact h0
  | 1, _ => exact h1
  | 2, _ => exact h2
  | 3, _ => exact h3
  | 4, _ => exact h4
theorem int3 {P : Int → Prop} (h1 : P 1) (h2 : P 2) (h3 : P 3) {t : Int} (a : 1 ≤ t) (b : t ≤ 3) : P t := by
  obtain ⟨k, rfl⟩ := Int.eq_ofNat_of_zero_le (Int.le_trans (by decide) a)
  have a := Int.ofNat_le.mp a
  have b := Int.ofNat_le.mp b
  match k, a, b with
  | 1, _, _ => exact h1
  | 2, _, _ => exact h2
  | 3, _, _ => exact h3
theorem int2 {P : Int → Prop} (h1 : P 1) (h2 : P 2) {t : Int} (a : 1 ≤ t) (b : t ≤ 2) : P t := by
  obtain ⟨k, rfl⟩ := Int.eq_ofNat_of_zero_le (Int.le_trans (by decide) a)
  have a := Int.ofNat_le.mp a
  have b := Int.ofNat_le.mp b
  match k, a, b with
  | 1, _, _ => exact h1
  | 2, _, _ => exact h2
theorem col_all {t : Int} (a : 0 ≤ t) (b : t < 5) (p : Nat) (hp : p < 16) : Col6 p t :=
  match p, hp with
  | 0, _ => int5 (P := Col6 0) (col6 tk0 ch0_0) (col6 tk0 ch0_1) (col6 tk0 ch0_2) (col6 tk0 ch0_3) (col6 tk0 ch0_4) a b
  | 1, _ => int5 (P := Col6 1) (col6 tk1 ch1_0) (col6 tk1 ch1_1) (col6 tk1 ch1_2) (col6 tk1 ch1_3) (col6 tk1 ch1_4) a b
  | 2, _ => int5 (P := Col6 2) (col6 tk2 ch2_0) (col6 tk2 ch2_1) (col6 tk2 ch2_2) (col6 tk2 ch2_3) (col6 tk2 ch2_4) a b
  | 3, _ => int5 (P := Col6 3) (col6 tk3 ch3_0) (col6 tk3 ch3_1) (col6 tk3 ch3_2) (col6 tk3 ch3_3) (col6 tk3 ch3_4) a b
  | 4, _ => int5 (P := Col6 4) (col6 tk4 ch4_0) (col6 tk4 ch4_1) (col6 tk4 ch4_2) (col6 tk4 ch4_3) (col6 tk4 ch4_4) a b
  | 5, _ => int5 (P := Col6 5) (col6 tk5 ch5_0) (col6 tk5 ch5_1) (col6 tk5 ch5_2) (col6 tk5 ch5_3) (col6 tk5 ch5_4) a b
  | 6, _ => int5 (P := Col6 6) (col6 tk6 ch6_0) (col6 tk6 ch6_1) (col6 tk6 ch6_2) (col6 tk6 ch6_3) (col6 tk6 ch6_4) a b
  | 7, _ => int5 (P := Col6 7) (col6 tk7 ch7_0) (col6 tk7 ch7_1) (col6 tk7 ch7_2) (col6 tk7 ch7_3) (col6 tk7 ch7_4) a b
  | 8, _ => int5 (P := Col6 8) (col6 tk8 ch8_0) (col6 tk8 ch8_1) (col6 tk8 ch8_2) (col6 tk8 ch8_3) (col6 tk8 ch8_4) a b
  | 9, _ => int5 (P := Col6 9) (col6 tk9 ch9_0) (col6 tk9 ch9_1) (col6 tk9 ch9_2) (col6 tk9 ch9_3) (col6 tk9 ch9_4) a b
  | 10, _ => int5 (P := Col6 10) (col6 tk10 ch10_0) (col6 tk10 ch10_1) (col6 tk10 ch10_2) (col6 tk10 ch10_3) (col6 tk10 ch10_4) a b
  | 11, _ => int5 (P := Col6 11) (col6 tk11 ch11_0) (col6 tk11 ch11_1) (col6 tk11 ch11_2) (col6 tk11 ch11_3) (col6 tk11 ch11_4) a b
  | 12, _ => int5 (P := Col6 12) (col6 tk12 ch12_0) (col6 tk12 ch12_1) (col6 tk12 ch12_2) (col6 tk12 ch12_3) (col6 tk12 ch12_4) a b
  | 13, _ => int5 (P := Col6 13) (col6 tk13 ch13_0) (col6 tk13 ch13_1) (col6 tk13 ch13_2) (col6 tk13 ch13_3) (col6 tk13 ch13_4) a b
  | 14, _ => int5 (P := Col6 14) (col6 tk14 ch14_0) (col6 tk14 ch14_1) (col6 tk14 ch14_2) (col6 tk14 ch14_3) (col6 tk14 ch14_4) a b
  | 15, _ => int5 (P := Col6 15) (col6 tk15 ch15_0) (col6 tk15 ch15_1) (col6 tk15 ch15_2) (col6 tk15 ch15_3) (col6 tk15 ch15_4) a b
  | n + 16, h => absurd h (Nat.not_lt_of_le (Nat.le_add_left 16 n))
theorem colour_ok {p : Nat} {t l f : Int} (hp : p < 16) (ht : 0 ≤ t ∧ t < 5) (hl : 1 ≤ l ∧ l ≤ 3) (hf : 1 ≤ f ∧ f ≤ 2) : Col p t l f :=
  have h := col_all ht.1 ht.2 p hp
  int3 (P := fun l => Col p t l f) (int2 (P := Col p t 1) h.1 h.2.1 hf.1 hf.2) (int2 (P := Col p t 2) h.2.2.1 h.2.2.2.1 hf.1 hf.2) (int2 (P := Col p t 3) h.2.2.2.2.1 h.2.2.2.2.2 hf.1 hf.2) hl.1 hl.2
theorem rgb3_c {n f : Nat} {d : Fn} {a b c x y z : UInt64} {σ : St} (hf : FT f = some d) (hl : d.args = 3) (hd : d.args ≤ d.vars) (h : rgb3 n d a b c = some (x, y, z)) : (ev FT (n + 1)).c f [.flt a, .flt b, .flt c] σ = some (.tup [.f x, .f y, .f z], σ) := by
  obtain ⟨v, e, h⟩ := bnd h
  rw [triV_inv h] at e
  exact c_callV hf hl.symm hd rfl e
end Mine
end

section
set_option maxRecDepth 100000
set_option autoImplicit false
namespace Mine
open PySem
noncomputable def exc : Nat → List Int
  | 5 => [1, 3, 0, 4, 2]
  | 6 => [1, 3, 5, 2, 0, 4]
  | 7 => [1, 3, 5, 0, 4, 2, 6]
  | 8 => [1, 3, 5, 7, 2, 6, 4, 0]
  | 9 => [1, 3, 5, 7, 0, 4, 8, 6, 2]
  | 10 => [1, 3, 5, 7, 9, 2, 6, 0, 8, 4]
  | 11 => [1, 3, 5, 7, 9, 0, 4, 8, 2, 10, 6]
  | 12 => [1, 3, 5, 7, 9, 11, 2, 6, 10, 4, 0, 8]
  | _ => []
noncomputable def rb : S := inFor (nthS body6 4)
noncomputable def rst (n m f st : Int) : Rho := [some (.int n), some (.lst 0), some (.lst 1), some (.int m), some (.int f), some (.int st), none, none, none, none, none, none, none, none]
noncomputable abbrev k6 : List Nat := [6, 7, 8, 12, 9, 10, 11, 13]
noncomputable def es5 (a b c d e : Int) : List V := [.int a, .int b, .int c, .int d, .int e]
/-- an ending -/
noncomputable def En (e : Int) : Prop := e = 0 ∨ e = 1 ∨ e = 2
theorem ex5 (k : Nat) (σ : St) : (ev FT (k + 61)).c 8 [.int 5] σ = some (.lst σ.length, σ ++ [(exc 5).map .int]) := c_callL (n := k + 60) rfl rfl (by decide) rfl (by kernel_rfl)
theorem ex6 (k : Nat) (σ : St) : (ev FT (k + 61)).c 8 [.int 6] σ = some (.lst σ.length, σ ++ [(exc 6).map .int]) := c_callL (n := k + 60) rfl rfl (by decide) rfl (by kernel_rfl)
theorem ex7 (k : Nat) (σ : St) : (ev FT (k + 61)).c 8 [.int 7] σ = some (.lst σ.length, σ ++ [(exc 7).map .int]) := c_callL (n := k + 60) rfl rfl (by decide) rfl (by kernel_rfl)
theorem ex8 (k : Nat) (σ : St) : (ev FT (k + 61)).c 8 [.int 8] σ = some (.lst σ.length, σ ++ [(exc 8).map .int]) := c_callL (n := k + 60) rfl rfl (by decide) rfl (by kernel_rfl)
theorem ex9 (k : Nat) (σ : St) : (ev FT (k + 61)).c 8 [.int 9] σ = some (.lst σ.length, σ ++ [(exc 9).map .int]) := c_callL (n := k + 60) rfl rfl (by decide) rfl (by kernel_rfl)
theorem ex10 (k : Nat) (σ : St) : (ev FT (k + 61)).c 8 [.int 10] σ = some (.lst σ.length, σ ++ [(exc 10).map .int]) := c_callL (n := k + 60) rfl rfl (by decide) rfl (by kernel_rfl)
theorem ex11 (k : Nat) (σ : St) : (ev FT (k + 61)).c 8 [.int 11] σ = some (.lst σ.length, σ ++ [(exc 11).map .int]) := c_callL (n := k + 60) rfl rfl (by decide) rfl (by kernel_rfl)
theorem ex12 (k : Nat) (σ : St) : (ev FT (k + 61)).c 8 [.int 12] σ = some (.lst σ.length, σ ++ [(exc 12).map .int]) := c_callL (n := k + 60) rfl rfl (by decide) rfl (by kernel_rfl)
theorem ru5_0_0 (a b c d e : Int) (k : Nat) : turnF ((ev FT (k + 60)).s rb) 2 k6 none (put (rst 5 5 0 1) 6 (.int 0)) [es5 a b c d e, []] = some (rst 5 2 2 2, [es5 a b c d e, ([1, 3, 0] : List Int).map .int]) := by kernel_rfl
theorem ru5_0_1 (a b c d e : Int) (k : Nat) : turnF ((ev FT (k + 60)).s rb) 2 k6 none (put (rst 5 5 0 1) 6 (.int 1)) [es5 a b c d e, []] = some (rst 5 2 2 2, [es5 a b c d e, ([1, 3, 0] : List Int).map .int]) := by kernel_rfl
theorem ru5_0_2 (a b c d e : Int) (k : Nat) : turnF ((ev FT (k + 60)).s rb) 2 k6 none (put (rst 5 5 0 1) 6 (.int 2)) [es5 a b c d e, []] = some (rst 5 2 2 2, [es5 a b c d e, ([1, 3, 0] : List Int).map .int]) := by kernel_rfl
theorem ru5_0 (a b c d e : Int) (k : Nat) (x : Int) (h : En x) : turnF ((ev FT (k + 60)).s rb) 2 k6 none (put (rst 5 5 0 1) 6 (.int x)) [es5 a b c d e, []] = some (rst 5 2 2 2, [es5 a b c d e, ([1, 3, 0] : List Int).map .int]) := by
  rcases h with rfl | rfl | rfl
  · exact ru5_0_0 a b c d e k
  · exact ru5_0_1 a b c d e k
  · exact ru5_0_2 a b c d e k
theorem ru5_1_0 (a b c d e : Int) (k : Nat) : turnF ((ev FT (k + 60)).s rb) 2 k6 none (put (rst 5 2 2 2) 6 (.int 0)) [es5 a b c d e, ([1, 3, 0] : List Int).map .int] = some (rst 5 1 2 4, [es5 a b c d e, ([1, 3, 0, 4] : List Int).map .int]) := by kernel_rfl
theorem ru5_1_1 (a b c d e : Int) (k : Nat) : turnF ((ev FT (k + 60)).s rb) 2 k6 none (put (rst 5 2 2 2) 6 (.int 1)) [es5 a b c d e, ([1, 3, 0] : List Int).map .int] = some (rst 5 1 2 4, [es5 a b c d e, ([1, 3, 0, 4] : List Int).map .int]) := by kernel_rfl
theorem ru5_1_2 (a b c d e : Int) (k : Nat) : turnF ((ev FT (k + 60)).s rb) 2 k6 none (put (rst 5 2 2 2) 6 (.int 2)) [es5 a b c d e, ([1, 3, 0] : List Int).map .int] = some (rst 5 1 2 4, [es5 a b c d e, ([1, 3, 0, 4] : List Int).map .int]) := by kernel_rfl
theorem ru5_1 (a b c d e : Int) (k : Nat) (x : Int) (h : En x) : turnF ((ev FT (k + 60)).s rb) 2 k6 none (put (rst 5 2 2 2) 6 (.int x)) [es5 a b c d e, ([1, 3, 0] : List Int).map .int] = some (rst 5 1 2 4, [es5 a b c d e, ([1, 3, 0, 4] : List Int).map .int]) := by
  rcases h with rfl | rfl | rfl
  · exact ru5_1_0 a b c d e k
  · exact ru5_1_1 a b c d e k
  · exact ru5_1_2 a b c d e k
theorem ru5_2_0 (a b c d e : Int) (k : Nat) : turnF ((ev FT (k + 60)).s rb) 2 k6 none (put (rst 5 1 2 4) 6 (.int 0)) [es5 a b c d e, ([1, 3, 0, 4] : List Int).map .int] = some (rst 5 0 10 8, [es5 a b c d e, ([1, 3, 0, 4, 2] : List Int).map .int]) := by kernel_rfl
theorem ru5_2_1 (a b c d e : Int) (k : Nat) : turnF ((ev FT (k + 60)).s rb) 2 k6 none (put (rst 5 1 2 4) 6 (.int 1)) [es5 a b c d e, ([1, 3, 0, 4] : List Int).map .int] = some (rst 5 0 10 8, [es5 a b c d e, ([1, 3, 0, 4, 2] : List Int).map .int]) := by kernel_rfl
theorem ru5_2_2 (a b c d e : Int) (k : Nat) : turnF ((ev FT (k + 60)).s rb) 2 k6 none (put (rst 5 1 2 4) 6 (.int 2)) [es5 a b c d e, ([1, 3, 0, 4] : List Int).map .int] = some (rst 5 0 10 8, [es5 a b c d e, ([1, 3, 0, 4, 2] : List Int).map .int]) := by kernel_rfl
theorem ru5_2 (a b c d e : Int) (k : Nat) (x : Int) (h : En x) : turnF ((ev FT (k + 60)).s rb) 2 k6 none (put (rst 5 1 2 4) 6 (.int x)) [es5 a b c d e, ([1, 3, 0, 4] : List Int).map .int] = some (rst 5 0 10 8, [es5 a b c d e, ([1, 3, 0, 4, 2] : List Int).map .int]) := by
  rcases h with rfl | rfl | rfl
  · exact ru5_2_0 a b c d e k
  · exact ru5_2_1 a b c d e k
  · exact ru5_2_2 a b c d e k
theorem ru5_end (a b c d e : Int) (k : Nat) (x : Int) : outB 1 ((ev FT (k + 60)).s rb) (put (rst 5 0 10 8) 6 (.int x)) [es5 a b c d e, ([1, 3, 0, 4, 2] : List Int).map .int] = some (.lst 1, [es5 a b c d e, (exc 5).map .int]) := by kernel_rfl
theorem ru6_0_0 (a b c d e : Int) (k : Nat) : turnF ((ev FT (k + 60)).s rb) 2 k6 none (put (rst 6 6 0 1) 6 (.int 0)) [es5 a b c d e, []] = some (rst 6 3 0 2, [es5 a b c d e, ([1, 3, 5] : List Int).map .int]) := by kernel_rfl
theorem ru6_0_1 (a b c d e : Int) (k : Nat) : turnF ((ev FT (k + 60)).s rb) 2 k6 none (put (rst 6 6 0 1) 6 (.int 1)) [es5 a b c d e, []] = some (rst 6 3 0 2, [es5 a b c d e, ([1, 3, 5] : List Int).map .int]) := by kernel_rfl
theorem ru6_0_2 (a b c d e : Int) (k : Nat) : turnF ((ev FT (k + 60)).s rb) 2 k6 none (put (rst 6 6 0 1) 6 (.int 2)) [es5 a b c d e, []] = some (rst 6 3 0 2, [es5 a b c d e, ([1, 3, 5] : List Int).map .int]) := by kernel_rfl
theorem ru6_0 (a b c d e : Int) (k : Nat) (x : Int) (h : En x) : turnF ((ev FT (k + 60)).s rb) 2 k6 none (put (rst 6 6 0 1) 6 (.int x)) [es5 a b c d e, []] = some (rst 6 3 0 2, [es5 a b c d e, ([1, 3, 5] : List Int).map .int]) := by
  rcases h with rfl | rfl | rfl
  · exact ru6_0_0 a b c d e k
  · exact ru6_0_1 a b c d e k
  · exact ru6_0_2 a b c d e k
theorem ru6_1_0 (a b c d e : Int) (k : Nat) : turnF ((ev FT (k + 60)).s rb) 2 k6 none (put (rst 6 3 0 2) 6 (.int 0)) [es5 a b c d e, ([1, 3, 5] : List Int).map .int] = some (rst 6 1 4 4, [es5 a b c d e, ([1, 3, 5, 2, 0] : List Int).map .int]) := by kernel_rfl
theorem ru6_1_1 (a b c d e : Int) (k : Nat) : turnF ((ev FT (k + 60)).s rb) 2 k6 none (put (rst 6 3 0 2) 6 (.int 1)) [es5 a b c d e, ([1, 3, 5] : List Int).map .int] = some (rst 6 1 4 4, [es5 a b c d e, ([1, 3, 5, 2, 0] : List Int).map .int]) := by kernel_rfl
theorem ru6_1_2 (a b c d e : Int) (k : Nat) : turnF ((ev FT (k + 60)).s rb) 2 k6 none (put (rst 6 3 0 2) 6 (.int 2)) [es5 a b c d e, ([1, 3, 5] : List Int).map .int] = some (rst 6 1 4 4, [es5 a b c d e, ([1, 3, 5, 2, 0] : List Int).map .int]) := by kernel_rfl
theorem ru6_1 (a b c d e : Int) (k : Nat) (x : Int) (h : En x) : turnF ((ev FT (k + 60)).s rb) 2 k6 none (put (rst 6 3 0 2) 6 (.int x)) [es5 a b c d e, ([1, 3, 5] : List Int).map .int] = some (rst 6 1 4 4, [es5 a b c d e, ([1, 3, 5, 2, 0] : List Int).map .int]) := by
  rcases h with rfl | rfl | rfl
  · exact ru6_1_0 a b c d e k
  · exact ru6_1_1 a b c d e k
  · exact ru6_1_2 a b c d e k
theorem ru6_2_0 (a b c d e : Int) (k : Nat) : turnF ((ev FT (k + 60)).s rb) 2 k6 none (put (rst 6 1 4 4) 6 (.int 0)) [es5 a b c d e, ([1, 3, 5, 2, 0] : List Int).map .int] = some (rst 6 0 12 8, [es5 a b c d e, ([1, 3, 5, 2, 0, 4] : List Int).map .int]) := by kernel_rfl
theorem ru6_2_1 (a b c d e : Int) (k : Nat) : turnF ((ev FT (k + 60)).s rb) 2 k6 none (put (rst 6 1 4 4) 6 (.int 1)) [es5 a b c d e, ([1, 3, 5, 2, 0] : List Int).map .int] = some (rst 6 0 12 8, [es5 a b c d e, ([1, 3, 5, 2, 0, 4] : List Int).map .int]) := by kernel_rfl
theorem ru6_2_2 (a b c d e : Int) (k : Nat) : turnF ((ev FT (k + 60)).s rb) 2 k6 none (put (rst 6 1 4 4) 6 (.int 2)) [es5 a b c d e, ([1, 3, 5, 2, 0] : List Int).map .int] = some (rst 6 0 12 8, [es5 a b c d e, ([1, 3, 5, 2, 0, 4] : List Int).map .int]) := by kernel_rfl
theorem ru6_2 (a b c d e : Int) (k : Nat) (x : Int) (h : En x) : turnF ((ev FT (k + 60)).s rb) 2 k6 none (put (rst 6 1 4 4) 6 (.int x)) [es5 a b c d e, ([1, 3, 5, 2, 0] : List Int).map .int] = some (rst 6 0 12 8, [es5 a b c d e, ([1, 3, 5, 2, 0, 4] : List Int).map .int]) := by
  rcases h with rfl | rfl | rfl
  · exact ru6_2_0 a b c d e k
  · exact ru6_2_1 a b c d e k
  · exact ru6_2_2 a b c d e k
theorem ru6_end (a b c d e : Int) (k : Nat) (x : Int) : outB 1 ((ev FT (k + 60)).s rb) (put (rst 6 0 12 8) 6 (.int x)) [es5 a b c d e, ([1, 3, 5, 2, 0, 4] : List Int).map .int] = some (.lst 1, [es5 a b c d e, (exc 6).map .int]) := by kernel_rfl
theorem ru7_0_0 (a b c d e : Int) (k : Nat) : turnF ((ev FT (k + 60)).s rb) 2 k6 none (put (rst 7 7 0 1) 6 (.int 0)) [es5 a b c d e, []] = some (rst 7 3 2 2, [es5 a b c d e, ([1, 3, 5, 0] : List Int).map .int]) := by kernel_rfl
theorem ru7_0_1 (a b c d e : Int) (k : Nat) : turnF ((ev FT (k + 60)).s rb) 2 k6 none (put (rst 7 7 0 1) 6 (.int 1)) [es5 a b c d e, []] = some (rst 7 3 2 2, [es5 a b c d e, ([1, 3, 5, 0] : List Int).map .int]) := by kernel_rfl
theorem ru7_0_2 (a b c d e : Int) (k : Nat) : turnF ((ev FT (k + 60)).s rb) 2 k6 none (put (rst 7 7 0 1) 6 (.int 2)) [es5 a b c d e, []] = some (rst 7 3 2 2, [es5 a b c d e, ([1, 3, 5, 0] : List Int).map .int]) := by kernel_rfl
theorem ru7_0 (a b c d e : Int) (k : Nat) (x : Int) (h : En x) : turnF ((ev FT (k + 60)).s rb) 2 k6 none (put (rst 7 7 0 1) 6 (.int x)) [es5 a b c d e, []] = some (rst 7 3 2 2, [es5 a b c d e, ([1, 3, 5, 0] : List Int).map .int]) := by
  rcases h with rfl | rfl | rfl
  · exact ru7_0_0 a b c d e k
  · exact ru7_0_1 a b c d e k
  · exact ru7_0_2 a b c d e k
theorem ru7_1_0 (a b c d e : Int) (k : Nat) : turnF ((ev FT (k + 60)).s rb) 2 k6 none (put (rst 7 3 2 2) 6 (.int 0)) [es5 a b c d e, ([1, 3, 5, 0] : List Int).map .int] = some (rst 7 1 6 4, [es5 a b c d e, ([1, 3, 5, 0, 4, 2] : List Int).map .int]) := by kernel_rfl
theorem ru7_1_1 (a b c d e : Int) (k : Nat) : turnF ((ev FT (k + 60)).s rb) 2 k6 none (put (rst 7 3 2 2) 6 (.int 1)) [es5 a b c d e, ([1, 3, 5, 0] : List Int).map .int] = some (rst 7 1 6 4, [es5 a b c d e, ([1, 3, 5, 0, 4, 2] : List Int).map .int]) := by kernel_rfl
theorem ru7_1_2 (a b c d e : Int) (k : Nat) : turnF ((ev FT (k + 60)).s rb) 2 k6 none (put (rst 7 3 2 2) 6 (.int 2)) [es5 a b c d e, ([1, 3, 5, 0] : List Int).map .int] = some (rst 7 1 6 4, [es5 a b c d e, ([1, 3, 5, 0, 4, 2] : List Int).map .int]) := by kernel_rfl
theorem ru7_1 (a b c d e : Int) (k : Nat) (x : Int) (h : En x) : turnF ((ev FT (k + 60)).s rb) 2 k6 none (put (rst 7 3 2 2) 6 (.int x)) [es5 a b c d e, ([1, 3, 5, 0] : List Int).map .int] = some (rst 7 1 6 4, [es5 a b c d e, ([1, 3, 5, 0, 4, 2] : List Int).map .int]) := by
  rcases h with rfl | rfl | rfl
  · exact ru7_1_0 a b c d e k
  · exact ru7_1_1 a b c d e k
  · exact ru7_1_2 a b c d e k
theorem ru7_2_0 (a b c d e : Int) (k : Nat) : turnF ((ev FT (k + 60)).s rb) 2 k6 none (put (rst 7 1 6 4) 6 (.int 0)) [es5 a b c d e, ([1, 3, 5, 0, 4, 2] : List Int).map .int] = some (rst 7 0 14 8, [es5 a b c d e, ([1, 3, 5, 0, 4, 2, 6] : List Int).map .int]) := by kernel_rfl
theorem ru7_2_1 (a b c d e : Int) (k : Nat) : turnF ((ev FT (k + 60)).s rb) 2 k6 none (put (rst 7 1 6 4) 6 (.int 1)) [es5 a b c d e, ([1, 3, 5, 0, 4, 2] : List Int).map .int] = some (rst 7 0 14 8, [es5 a b c d e, ([1, 3, 5, 0, 4, 2, 6] : List Int).map .int]) := by kernel_rfl
theorem ru7_2_2 (a b c d e : Int) (k : Nat) : turnF ((ev FT (k + 60)).s rb) 2 k6 none (put (rst 7 1 6 4) 6 (.int 2)) [es5 a b c d e, ([1, 3, 5, 0, 4, 2] : List Int).map .int] = some (rst 7 0 14 8, [es5 a b c d e, ([1, 3, 5, 0, 4, 2, 6] : List Int).map .int]) := by kernel_rfl
theorem ru7_2 (a b c d e : Int) (k : Nat) (x : Int) (h : En x) : turnF ((ev FT (k + 60)).s rb) 2 k6 none (put (rst 7 1 6 4) 6 (.int x)) [es5 a b c d e, ([1, 3, 5, 0, 4, 2] : List Int).map .int] = some (rst 7 0 14 8, [es5 a b c d e, ([1, 3, 5, 0, 4, 2, 6] : List Int).map .int]) := by
  rcases h with rfl | rfl | rfl
  · exact ru7_2_0 a b c d e k
  · exact ru7_2_1 a b c d e k
  · exact ru7_2_2 a b c d e k
theorem ru7_end (a b c d e : Int) (k : Nat) (x : Int) : outB 1 ((ev FT (k + 60)).s rb) (put (rst 7 0 14 8) 6 (.int x)) [es5 a b c d e, ([1, 3, 5, 0, 4, 2, 6] : List Int).map .int] = some (.lst 1, [es5 a b c d e, (exc 7).map .int]) := by kernel_rfl
theorem ru8_0_0 (a b c d e : Int) (k : Nat) : turnF ((ev FT (k + 60)).s rb) 2 k6 none (put (rst 8 8 0 1) 6 (.int 0)) [es5 a b c d e, []] = some (rst 8 4 0 2, [es5 a b c d e, ([1, 3, 5, 7] : List Int).map .int]) := by kernel_rfl
theorem ru8_0_1 (a b c d e : Int) (k : Nat) : turnF ((ev FT (k + 60)).s rb) 2 k6 none (put (rst 8 8 0 1) 6 (.int 1)) [es5 a b c d e, []] = some (rst 8 4 0 2, [es5 a b c d e, ([1, 3, 5, 7] : List Int).map .int]) := by kernel_rfl
theorem ru8_0_2 (a b c d e : Int) (k : Nat) : turnF ((ev FT (k + 60)).s rb) 2 k6 none (put (rst 8 8 0 1) 6 (.int 2)) [es5 a b c d e, []] = some (rst 8 4 0 2, [es5 a b c d e, ([1, 3, 5, 7] : List Int).map .int]) := by kernel_rfl
theorem ru8_0 (a b c d e : Int) (k : Nat) (x : Int) (h : En x) : turnF ((ev FT (k + 60)).s rb) 2 k6 none (put (rst 8 8 0 1) 6 (.int x)) [es5 a b c d e, []] = some (rst 8 4 0 2, [es5 a b c d e, ([1, 3, 5, 7] : List Int).map .int]) := by
  rcases h with rfl | rfl | rfl
  · exact ru8_0_0 a b c d e k
  · exact ru8_0_1 a b c d e k
  · exact ru8_0_2 a b c d e k
theorem ru8_1_0 (a b c d e : Int) (k : Nat) : turnF ((ev FT (k + 60)).s rb) 2 k6 none (put (rst 8 4 0 2) 6 (.int 0)) [es5 a b c d e, ([1, 3, 5, 7] : List Int).map .int] = some (rst 8 2 0 4, [es5 a b c d e, ([1, 3, 5, 7, 2, 6] : List Int).map .int]) := by kernel_rfl
theorem ru8_1_1 (a b c d e : Int) (k : Nat) : turnF ((ev FT (k + 60)).s rb) 2 k6 none (put (rst 8 4 0 2) 6 (.int 1)) [es5 a b c d e, ([1, 3, 5, 7] : List Int).map .int] = some (rst 8 2 0 4, [es5 a b c d e, ([1, 3, 5, 7, 2, 6] : List Int).map .int]) := by kernel_rfl
theorem ru8_1_2 (a b c d e : Int) (k : Nat) : turnF ((ev FT (k + 60)).s rb) 2 k6 none (put (rst 8 4 0 2) 6 (.int 2)) [es5 a b c d e, ([1, 3, 5, 7] : List Int).map .int] = some (rst 8 2 0 4, [es5 a b c d e, ([1, 3, 5, 7, 2, 6] : List Int).map .int]) := by kernel_rfl
theorem ru8_1 (a b c d e : Int) (k : Nat) (x : Int) (h : En x) : turnF ((ev FT (k + 60)).s rb) 2 k6 none (put (rst 8 4 0 2) 6 (.int x)) [es5 a b c d e, ([1, 3, 5, 7] : List Int).map .int] = some (rst 8 2 0 4, [es5 a b c d e, ([1, 3, 5, 7, 2, 6] : List Int).map .int]) := by
  rcases h with rfl | rfl | rfl
  · exact ru8_1_0 a b c d e k
  · exact ru8_1_1 a b c d e k
  · exact ru8_1_2 a b c d e k
theorem ru8_2_0 (a b c d e : Int) (k : Nat) : turnF ((ev FT (k + 60)).s rb) 2 k6 none (put (rst 8 2 0 4) 6 (.int 0)) [es5 a b c d e, ([1, 3, 5, 7, 2, 6] : List Int).map .int] = some (rst 8 1 0 8, [es5 a b c d e, ([1, 3, 5, 7, 2, 6, 4] : List Int).map .int]) := by kernel_rfl
theorem ru8_2_1 (a b c d e : Int) (k : Nat) : turnF ((ev FT (k + 60)).s rb) 2 k6 none (put (rst 8 2 0 4) 6 (.int 1)) [es5 a b c d e, ([1, 3, 5, 7, 2, 6] : List Int).map .int] = some (rst 8 1 0 8, [es5 a b c d e, ([1, 3, 5, 7, 2, 6, 4] : List Int).map .int]) := by kernel_rfl
theorem ru8_2_2 (a b c d e : Int) (k : Nat) : turnF ((ev FT (k + 60)).s rb) 2 k6 none (put (rst 8 2 0 4) 6 (.int 2)) [es5 a b c d e, ([1, 3, 5, 7, 2, 6] : List Int).map .int] = some (rst 8 1 0 8, [es5 a b c d e, ([1, 3, 5, 7, 2, 6, 4] : List Int).map .int]) := by kernel_rfl
theorem ru8_2 (a b c d e : Int) (k : Nat) (x : Int) (h : En x) : turnF ((ev FT (k + 60)).s rb) 2 k6 none (put (rst 8 2 0 4) 6 (.int x)) [es5 a b c d e, ([1, 3, 5, 7, 2, 6] : List Int).map .int] = some (rst 8 1 0 8, [es5 a b c d e, ([1, 3, 5, 7, 2, 6, 4] : List Int).map .int]) := by
  rcases h with rfl | rfl | rfl
  · exact ru8_2_0 a b c d e k
  · exact ru8_2_1 a b c d e k
  · exact ru8_2_2 a b c d e k
theorem ru8_3_0 (a b c d e : Int) (k : Nat) : turnF ((ev FT (k + 60)).s rb) 2 k6 none (put (rst 8 1 0 8) 6 (.int 0)) [es5 a b c d e, ([1, 3, 5, 7, 2, 6, 4] : List Int).map .int] = some (rst 8 0 16 16, [es5 a b c d e, ([1, 3, 5, 7, 2, 6, 4, 0] : List Int).map .int]) := by kernel_rfl
theorem ru8_3_1 (a b c d e : Int) (k : Nat) : turnF ((ev FT (k + 60)).s rb) 2 k6 none (put (rst 8 1 0 8) 6 (.int 1)) [es5 a b c d e, ([1, 3, 5, 7, 2, 6, 4] : List Int).map .int] = some (rst 8 0 16 16, [es5 a b c d e, ([1, 3, 5, 7, 2, 6, 4, 0] : List Int).map .int]) := by kernel_rfl
theorem ru8_3_2 (a b c d e : Int) (k : Nat) : turnF ((ev FT (k + 60)).s rb) 2 k6 none (put (rst 8 1 0 8) 6 (.int 2)) [es5 a b c d e, ([1, 3, 5, 7, 2, 6, 4] : List Int).map .int] = some (rst 8 0 16 16, [es5 a b c d e, ([1, 3, 5, 7, 2, 6, 4, 0] : List Int).map .int]) := by kernel_rfl
theorem ru8_3 (a b c d e : Int) (k : Nat) (x : Int) (h : En x) : turnF ((ev FT (k + 60)).s rb) 2 k6 none (put (rst 8 1 0 8) 6 (.int x)) [es5 a b c d e, ([1, 3, 5, 7, 2, 6, 4] : List Int).map .int] = some (rst 8 0 16 16, [es5 a b c d e, ([1, 3, 5, 7, 2, 6, 4, 0] : List Int).map .int]) := by
  rcases h with rfl | rfl | rfl
  · exact ru8_3_0 a b c d e k
  · exact ru8_3_1 a b c d e k
  · exact ru8_3_2 a b c d e k
theorem ru8_end (a b c d e : Int) (k : Nat) (x : Int) : outB 1 ((ev FT (k + 60)).s rb) (put (rst 8 0 16 16) 6 (.int x)) [es5 a b c d e, ([1, 3, 5, 7, 2, 6, 4, 0] : List Int).map .int] = some (.lst 1, [es5 a b c d e, (exc 8).map .int]) := by kernel_rfl
theorem ru9_0_0 (a b c d e : Int) (k : Nat) : turnF ((ev FT (k + 60)).s rb) 2 k6 none (put (rst 9 9 0 1) 6 (.int 0)) [es5 a b c d e, []] = some (rst 9 4 2 2, [es5 a b c d e, ([1, 3, 5, 7, 0] : List Int).map .int]) := by kernel_rfl
theorem ru9_0_1 (a b c d e : Int) (k : Nat) : turnF ((ev FT (k + 60)).s rb) 2 k6 none (put (rst 9 9 0 1) 6 (.int 1)) [es5 a b c d e, []] = some (rst 9 4 2 2, [es5 a b c d e, ([1, 3, 5, 7, 0] : List Int).map .int]) := by kernel_rfl
theorem ru9_0_2 (a b c d e : Int) (k : Nat) : turnF ((ev FT (k + 60)).s rb) 2 k6 none (put (rst 9 9 0 1) 6 (.int 2)) [es5 a b c d e, []] = some (rst 9 4 2 2, [es5 a b c d e, ([1, 3, 5, 7, 0] : List Int).map .int]) := by kernel_rfl
theorem ru9_0 (a b c d e : Int) (k : Nat) (x : Int) (h : En x) : turnF ((ev FT (k + 60)).s rb) 2 k6 none (put (rst 9 9 0 1) 6 (.int x)) [es5 a b c d e, []] = some (rst 9 4 2 2, [es5 a b c d e, ([1, 3, 5, 7, 0] : List Int).map .int]) := by
  rcases h with rfl | rfl | rfl
  · exact ru9_0_0 a b c d e k
  · exact ru9_0_1 a b c d e k
  · exact ru9_0_2 a b c d e k
theorem ru9_1_0 (a b c d e : Int) (k : Nat) : turnF ((ev FT (k + 60)).s rb) 2 k6 none (put (rst 9 4 2 2) 6 (.int 0)) [es5 a b c d e, ([1, 3, 5, 7, 0] : List Int).map .int] = some (rst 9 2 2 4, [es5 a b c d e, ([1, 3, 5, 7, 0, 4, 8] : List Int).map .int]) := by kernel_rfl
theorem ru9_1_1 (a b c d e : Int) (k : Nat) : turnF ((ev FT (k + 60)).s rb) 2 k6 none (put (rst 9 4 2 2) 6 (.int 1)) [es5 a b c d e, ([1, 3, 5, 7, 0] : List Int).map .int] = some (rst 9 2 2 4, [es5 a b c d e, ([1, 3, 5, 7, 0, 4, 8] : List Int).map .int]) := by kernel_rfl
theorem ru9_1_2 (a b c d e : Int) (k : Nat) : turnF ((ev FT (k + 60)).s rb) 2 k6 none (put (rst 9 4 2 2) 6 (.int 2)) [es5 a b c d e, ([1, 3, 5, 7, 0] : List Int).map .int] = some (rst 9 2 2 4, [es5 a b c d e, ([1, 3, 5, 7, 0, 4, 8] : List Int).map .int]) := by kernel_rfl
theorem ru9_1 (a b c d e : Int) (k : Nat) (x : Int) (h : En x) : turnF ((ev FT (k + 60)).s rb) 2 k6 none (put (rst 9 4 2 2) 6 (.int x)) [es5 a b c d e, ([1, 3, 5, 7, 0] : List Int).map .int] = some (rst 9 2 2 4, [es5 a b c d e, ([1, 3, 5, 7, 0, 4, 8] : List Int).map .int]) := by
  rcases h with rfl | rfl | rfl
  · exact ru9_1_0 a b c d e k
  · exact ru9_1_1 a b c d e k
  · exact ru9_1_2 a b c d e k
theorem ru9_2_0 (a b c d e : Int) (k : Nat) : turnF ((ev FT (k + 60)).s rb) 2 k6 none (put (rst 9 2 2 4) 6 (.int 0)) [es5 a b c d e, ([1, 3, 5, 7, 0, 4, 8] : List Int).map .int] = some (rst 9 1 2 8, [es5 a b c d e, ([1, 3, 5, 7, 0, 4, 8, 6] : List Int).map .int]) := by kernel_rfl
theorem ru9_2_1 (a b c d e : Int) (k : Nat) : turnF ((ev FT (k + 60)).s rb) 2 k6 none (put (rst 9 2 2 4) 6 (.int 1)) [es5 a b c d e, ([1, 3, 5, 7, 0, 4, 8] : List Int).map .int] = some (rst 9 1 2 8, [es5 a b c d e, ([1, 3, 5, 7, 0, 4, 8, 6] : List Int).map .int]) := by kernel_rfl
theorem ru9_2_2 (a b c d e : Int) (k : Nat) : turnF ((ev FT (k + 60)).s rb) 2 k6 none (put (rst 9 2 2 4) 6 (.int 2)) [es5 a b c d e, ([1, 3, 5, 7, 0, 4, 8] : List Int).map .int] = some (rst 9 1 2 8, [es5 a b c d e, ([1, 3, 5, 7, 0, 4, 8, 6] : List Int).map .int]) := by kernel_rfl
theorem ru9_2 (a b c d e : Int) (k : Nat) (x : Int) (h : En x) : turnF ((ev FT (k + 60)).s rb) 2 k6 none (put (rst 9 2 2 4) 6 (.int x)) [es5 a b c d e, ([1, 3, 5, 7, 0, 4, 8] : List Int).map .int] = some (rst 9 1 2 8, [es5 a b c d e, ([1, 3, 5, 7, 0, 4, 8, 6] : List Int).map .int]) := by
  rcases h with rfl | rfl | rfl
  · exact ru9_2_0 a b c d e k
  · exact ru9_2_1 a b c d e k
  · exact ru9_2_2 a b c d e k
theorem ru9_3_0 (a b c d e : Int) (k : Nat) : turnF ((ev FT (k + 60)).s rb) 2 k6 none (put (rst 9 1 2 8) 6 (.int 0)) [es5 a b c d e, ([1, 3, 5, 7, 0, 4, 8, 6] : List Int).map .int] = some (rst 9 0 18 16, [es5 a b c d e, ([1, 3, 5, 7, 0, 4, 8, 6, 2] : List Int).map .int]) := by kernel_rfl
theorem ru9_3_1 (a b c d e : Int) (k : Nat) : turnF ((ev FT (k + 60)).s rb) 2 k6 none (put (rst 9 1 2 8) 6 (.int 1)) [es5 a b c d e, ([1, 3, 5, 7, 0, 4, 8, 6] : List Int).map .int] = some (rst 9 0 18 16, [es5 a b c d e, ([1, 3, 5, 7, 0, 4, 8, 6, 2] : List Int).map .int]) := by kernel_rfl
theorem ru9_3_2 (a b c d e : Int) (k : Nat) : turnF ((ev FT (k + 60)).s rb) 2 k6 none (put (rst 9 1 2 8) 6 (.int 2)) [es5 a b c d e, ([1, 3, 5, 7, 0, 4, 8, 6] : List Int).map .int] = some (rst 9 0 18 16, [es5 a b c d e, ([1, 3, 5, 7, 0, 4, 8, 6, 2] : List Int).map .int]) := by kernel_rfl
theorem ru9_3 (a b c d e : Int) (k : Nat) (x : Int) (h : En x) : turnF ((ev FT (k + 60)).s rb) 2 k6 none (put (rst 9 1 2 8) 6 (.int x)) [es5 a b c d e, ([1, 3, 5, 7, 0, 4, 8, 6] : List Int).map .int] = some (rst 9 0 18 16, [es5 a b c d e, ([1, 3, 5, 7, 0, 4, 8, 6, 2] : List Int).map .int]) := by
  rcases h with rfl | rfl | rfl
  · exact ru9_3_0 a b c d e k
  · exact ru9_3_1 a b c d e k
  · exact ru9_3_2 a b c d e k
theorem ru9_end (a b c d e : Int) (k : Nat) (x : Int) : outB 1 ((ev FT (k + 60)).s rb) (put (rst 9 0 18 16) 6 (.int x)) [es5 a b c d e, ([1, 3, 5, 7, 0, 4, 8, 6, 2] : List Int).map .int] = some (.lst 1, [es5 a b c d e, (exc 9).map .int]) := by kernel_rfl
theorem ru10_0_0 (a b c d e : Int) (k : Nat) : turnF ((ev FT (k + 60)).s rb) 2 k6 none (put (rst 10 10 0 1) 6 (.int 0)) [es5 a b c d e, []] = some (rst 10 5 0 2, [es5 a b c d e, ([1, 3, 5, 7, 9] : List Int).map .int]) := by kernel_rfl
theorem ru10_0_1 (a b c d e : Int) (k : Nat) : turnF ((ev FT (k + 60)).s rb) 2 k6 none (put (rst 10 10 0 1) 6 (.int 1)) [es5 a b c d e, []] = some (rst 10 5 0 2, [es5 a b c d e, ([1, 3, 5, 7, 9] : List Int).map .int]) := by kernel_rfl
theorem ru10_0_2 (a b c d e : Int) (k : Nat) : turnF ((ev FT (k + 60)).s rb) 2 k6 none (put (rst 10 10 0 1) 6 (.int 2)) [es5 a b c d e, []] = some (rst 10 5 0 2, [es5 a b c d e, ([1, 3, 5, 7, 9] : List Int).map .int]) := by kernel_rfl
theorem ru10_0 (a b c d e : Int) (k : Nat) (x : Int) (h : En x) : turnF ((ev FT (k + 60)).s rb) 2 k6 none (put (rst 10 10 0 1) 6 (.int x)) [es5 a b c d e, []] = some (rst 10 5 0 2, [es5 a b c d e, ([1, 3, 5, 7, 9] : List Int).map .int]) := by
  rcases h with rfl | rfl | rfl
  · exact ru10_0_0 a b c d e k
  · exact ru10_0_1 a b c d e k
  · exact ru10_0_2 a b c d e k
theorem ru10_1_0 (a b c d e : Int) (k : Nat) : turnF ((ev FT (k + 60)).s rb) 2 k6 none (put (rst 10 5 0 2) 6 (.int 0)) [es5 a b c d e, ([1, 3, 5, 7, 9] : List Int).map .int] = some (rst 10 2 4 4, [es5 a b c d e, ([1, 3, 5, 7, 9, 2, 6, 0] : List Int).map .int]) := by kernel_rfl
theorem ru10_1_1 (a b c d e : Int) (k : Nat) : turnF ((ev FT (k + 60)).s rb) 2 k6 none (put (rst 10 5 0 2) 6 (.int 1)) [es5 a b c d e, ([1, 3, 5, 7, 9] : List Int).map .int] = some (rst 10 2 4 4, [es5 a b c d e, ([1, 3, 5, 7, 9, 2, 6, 0] : List Int).map .int]) := by kernel_rfl
theorem ru10_1_2 (a b c d e : Int) (k : Nat) : turnF ((ev FT (k + 60)).s rb) 2 k6 none (put (rst 10 5 0 2) 6 (.int 2)) [es5 a b c d e, ([1, 3, 5, 7, 9] : List Int).map .int] = some (rst 10 2 4 4, [es5 a b c d e, ([1, 3, 5, 7, 9, 2, 6, 0] : List Int).map .int]) := by kernel_rfl
theorem ru10_1 (a b c d e : Int) (k : Nat) (x : Int) (h : En x) : turnF ((ev FT (k + 60)).s rb) 2 k6 none (put (rst 10 5 0 2) 6 (.int x)) [es5 a b c d e, ([1, 3, 5, 7, 9] : List Int).map .int] = some (rst 10 2 4 4, [es5 a b c d e, ([1, 3, 5, 7, 9, 2, 6, 0] : List Int).map .int]) := by
  rcases h with rfl | rfl | rfl
  · exact ru10_1_0 a b c d e k
  · exact ru10_1_1 a b c d e k
  · exact ru10_1_2 a b c d e k
theorem ru10_2_0 (a b c d e : Int) (k : Nat) : turnF ((ev FT (k + 60)).s rb) 2 k6 none (put (rst 10 2 4 4) 6 (.int 0)) [es5 a b c d e, ([1, 3, 5, 7, 9, 2, 6, 0] : List Int).map .int] = some (rst 10 1 4 8, [es5 a b c d e, ([1, 3, 5, 7, 9, 2, 6, 0, 8] : List Int).map .int]) := by kernel_rfl
theorem ru10_2_1 (a b c d e : Int) (k : Nat) : turnF ((ev FT (k + 60)).s rb) 2 k6 none (put (rst 10 2 4 4) 6 (.int 1)) [es5 a b c d e, ([1, 3, 5, 7, 9, 2, 6, 0] : List Int).map .int] = some (rst 10 1 4 8, [es5 a b c d e, ([1, 3, 5, 7, 9, 2, 6, 0, 8] : List Int).map .int]) := by kernel_rfl
theorem ru10_2_2 (a b c d e : Int) (k : Nat) : turnF ((ev FT (k + 60)).s rb) 2 k6 none (put (rst 10 2 4 4) 6 (.int 2)) [es5 a b c d e, ([1, 3, 5, 7, 9, 2, 6, 0] : List Int).map .int] = some (rst 10 1 4 8, [es5 a b c d e, ([1, 3, 5, 7, 9, 2, 6, 0, 8] : List Int).map .int]) := by kernel_rfl
theorem ru10_2 (a b c d e : Int) (k : Nat) (x : Int) (h : En x) : turnF ((ev FT (k + 60)).s rb) 2 k6 none (put (rst 10 2 4 4) 6 (.int x)) [es5 a b c d e, ([1, 3, 5, 7, 9, 2, 6, 0] : List Int).map .int] = some (rst 10 1 4 8, [es5 a b c d e, ([1, 3, 5, 7, 9, 2, 6, 0, 8] : List Int).map .int]) := by
  rcases h with rfl | rfl | rfl
  · exact ru10_2_0 a b c d e k
  · exact ru10_2_1 a b c d e k
  · exact ru10_2_2 a b c d e k
theorem ru10_3_0 (a b c d e : Int) (k : Nat) : turnF ((ev FT (k + 60)).s rb) 2 k6 none (put (rst 10 1 4 8) 6 (.int 0)) [es5 a b c d e, ([1, 3, 5, 7, 9, 2, 6, 0, 8] : List Int).map .int] = some (rst 10 0 20 16, [es5 a b c d e, ([1, 3, 5, 7, 9, 2, 6, 0, 8, 4] : List Int).map .int]) := by kernel_rfl
theorem ru10_3_1 (a b c d e : Int) (k : Nat) : turnF ((ev FT (k + 60)).s rb) 2 k6 none (put (rst 10 1 4 8) 6 (.int 1)) [es5 a b c d e, ([1, 3, 5, 7, 9, 2, 6, 0, 8] : List Int).map .int] = some (rst 10 0 20 16, [es5 a b c d e, ([1, 3, 5, 7, 9, 2, 6, 0, 8, 4] : List Int).map .int]) := by kernel_rfl
theorem ru10_3_2 (a b c d e : Int) (k : Nat) : turnF ((ev FT (k + 60)).s rb) 2 k6 none (put (rst 10 1 4 8) 6 (.int 2)) [es5 a b c d e, ([1, 3, 5, 7, 9, 2, 6, 0, 8] : List Int).map .int] = some (rst 10 0 20 16, [es5 a b c d e, ([1, 3, 5, 7, 9, 2, 6, 0, 8, 4] : List Int).map .int]) := by kernel_rfl
theorem ru10_3 (a b c d e : Int) (k : Nat) (x : Int) (h : En x) : turnF ((ev FT (k + 60)).s rb) 2 k6 none (put (rst 10 1 4 8) 6 (.int x)) [es5 a b c d e, ([1, 3, 5, 7, 9, 2, 6, 0, 8] : List Int).map .int] = some (rst 10 0 20 16, [es5 a b c d e, ([1, 3, 5, 7, 9, 2, 6, 0, 8, 4] : List Int).map .int]) := by
  rcases h with rfl | rfl | rfl
  · exact ru10_3_0 a b c d e k
  · exact ru10_3_1 a b c d e k
  · exact ru10_3_2 a b c d e k
theorem ru10_end (a b c d e : Int) (k : Nat) (x : Int) : outB 1 ((ev FT (k + 60)).s rb) (put (rst 10 0 20 16) 6 (.int x)) [es5 a b c d e, ([1, 3, 5, 7, 9, 2, 6, 0, 8, 4] : List Int).map .int] = some (.lst 1, [es5 a b c d e, (exc 10).map .int]) := by kernel_rfl
theorem ru11_0_0 (a b c d e : Int) (k : Nat) : turnF ((ev FT (k + 60)).s rb) 2 k6 none (put (rst 11 11 0 1) 6 (.int 0)) [es5 a b c d e, []] = some (rst 11 5 2 2, [es5 a b c d e, ([1, 3, 5, 7, 9, 0] : List Int).map .int]) := by kernel_rfl
theorem ru11_0_1 (a b c d e : Int) (k : Nat) : turnF ((ev FT (k + 60)).s rb) 2 k6 none (put (rst 11 11 0 1) 6 (.int 1)) [es5 a b c d e, []] = some (rst 11 5 2 2, [es5 a b c d e, ([1, 3, 5, 7, 9, 0] : List Int).map .int]) := by kernel_rfl
theorem ru11_0_2 (a b c d e : Int) (k : Nat) : turnF ((ev FT (k + 60)).s rb) 2 k6 none (put (rst 11 11 0 1) 6 (.int 2)) [es5 a b c d e, []] = some (rst 11 5 2 2, [es5 a b c d e, ([1, 3, 5, 7, 9, 0] : List Int).map .int]) := by kernel_rfl
theorem ru11_0 (a b c d e : Int) (k : Nat) (x : Int) (h : En x) : turnF ((ev FT (k + 60)).s rb) 2 k6 none (put (rst 11 11 0 1) 6 (.int x)) [es5 a b c d e, []] = some (rst 11 5 2 2, [es5 a b c d e, ([1, 3, 5, 7, 9, 0] : List Int).map .int]) := by
  rcases h with rfl | rfl | rfl
  · exact ru11_0_0 a b c d e k
  · exact ru11_0_1 a b c d e k
  · exact ru11_0_2 a b c d e k
theorem ru11_1_0 (a b c d e : Int) (k : Nat) : turnF ((ev FT (k + 60)).s rb) 2 k6 none (put (rst 11 5 2 2) 6 (.int 0)) [es5 a b c d e, ([1, 3, 5, 7, 9, 0] : List Int).map .int] = some (rst 11 2 6 4, [es5 a b c d e, ([1, 3, 5, 7, 9, 0, 4, 8, 2] : List Int).map .int]) := by kernel_rfl
theorem ru11_1_1 (a b c d e : Int) (k : Nat) : turnF ((ev FT (k + 60)).s rb) 2 k6 none (put (rst 11 5 2 2) 6 (.int 1)) [es5 a b c d e, ([1, 3, 5, 7, 9, 0] : List Int).map .int] = some (rst 11 2 6 4, [es5 a b c d e, ([1, 3, 5, 7, 9, 0, 4, 8, 2] : List Int).map .int]) := by kernel_rfl
theorem ru11_1_2 (a b c d e : Int) (k : Nat) : turnF ((ev FT (k + 60)).s rb) 2 k6 none (put (rst 11 5 2 2) 6 (.int 2)) [es5 a b c d e, ([1, 3, 5, 7, 9, 0] : List Int).map .int] = some (rst 11 2 6 4, [es5 a b c d e, ([1, 3, 5, 7, 9, 0, 4, 8, 2] : List Int).map .int]) := by kernel_rfl
theorem ru11_1 (a b c d e : Int) (k : Nat) (x : Int) (h : En x) : turnF ((ev FT (k + 60)).s rb) 2 k6 none (put (rst 11 5 2 2) 6 (.int x)) [es5 a b c d e, ([1, 3, 5, 7, 9, 0] : List Int).map .int] = some (rst 11 2 6 4, [es5 a b c d e, ([1, 3, 5, 7, 9, 0, 4, 8, 2] : List Int).map .int]) := by
  rcases h with rfl | rfl | rfl
  · exact ru11_1_0 a b c d e k
  · exact ru11_1_1 a b c d e k
  · exact ru11_1_2 a b c d e k
theorem ru11_2_0 (a b c d e : Int) (k : Nat) : turnF ((ev FT (k + 60)).s rb) 2 k6 none (put (rst 11 2 6 4) 6 (.int 0)) [es5 a b c d e, ([1, 3, 5, 7, 9, 0, 4, 8, 2] : List Int).map .int] = some (rst 11 1 6 8, [es5 a b c d e, ([1, 3, 5, 7, 9, 0, 4, 8, 2, 10] : List Int).map .int]) := by kernel_rfl
theorem ru11_2_1 (a b c d e : Int) (k : Nat) : turnF ((ev FT (k + 60)).s rb) 2 k6 none (put (rst 11 2 6 4) 6 (.int 1)) [es5 a b c d e, ([1, 3, 5, 7, 9, 0, 4, 8, 2] : List Int).map .int] = some (rst 11 1 6 8, [es5 a b c d e, ([1, 3, 5, 7, 9, 0, 4, 8, 2, 10] : List Int).map .int]) := by kernel_rfl
theorem ru11_2_2 (a b c d e : Int) (k : Nat) : turnF ((ev FT (k + 60)).s rb) 2 k6 none (put (rst 11 2 6 4) 6 (.int 2)) [es5 a b c d e, ([1, 3, 5, 7, 9, 0, 4, 8, 2] : List Int).map .int] = some (rst 11 1 6 8, [es5 a b c d e, ([1, 3, 5, 7, 9, 0, 4, 8, 2, 10] : List Int).map .int]) := by kernel_rfl
theorem ru11_2 (a b c d e : Int) (k : Nat) (x : Int) (h : En x) : turnF ((ev FT (k + 60)).s rb) 2 k6 none (put (rst 11 2 6 4) 6 (.int x)) [es5 a b c d e, ([1, 3, 5, 7, 9, 0, 4, 8, 2] : List Int).map .int] = some (rst 11 1 6 8, [es5 a b c d e, ([1, 3, 5, 7, 9, 0, 4, 8, 2, 10] : List Int).map .int]) := by
  rcases h with rfl | rfl | rfl
  · exact ru11_2_0 a b c d e k
  · exact ru11_2_1 a b c d e k
  · exact ru11_2_2 a b c d e k
theorem ru11_3_0 (a b c d e : Int) (k : Nat) : turnF ((ev FT (k + 60)).s rb) 2 k6 none (put (rst 11 1 6 8) 6 (.int 0)) [es5 a b c d e, ([1, 3, 5, 7, 9, 0, 4, 8, 2, 10] : List Int).map .int] = some (rst 11 0 22 16, [es5 a b c d e, ([1, 3, 5, 7, 9, 0, 4, 8, 2, 10, 6] : List Int).map .int]) := by kernel_rfl
theorem ru11_3_1 (a b c d e : Int) (k : Nat) : turnF ((ev FT (k + 60)).s rb) 2 k6 none (put (rst 11 1 6 8) 6 (.int 1)) [es5 a b c d e, ([1, 3, 5, 7, 9, 0, 4, 8, 2, 10] : List Int).map .int] = some (rst 11 0 22 16, [es5 a b c d e, ([1, 3, 5, 7, 9, 0, 4, 8, 2, 10, 6] : List Int).map .int]) := by kernel_rfl
theorem ru11_3_2 (a b c d e : Int) (k : Nat) : turnF ((ev FT (k + 60)).s rb) 2 k6 none (put (rst 11 1 6 8) 6 (.int 2)) [es5 a b c d e, ([1, 3, 5, 7, 9, 0, 4, 8, 2, 10] : List Int).map .int] = some (rst 11 0 22 16, [es5 a b c d e, ([1, 3, 5, 7, 9, 0, 4, 8, 2, 10, 6] : List Int).map .int]) := by kernel_rfl
theorem ru11_3 (a b c d e : Int) (k : Nat) (x : Int) (h : En x) : turnF ((ev FT (k + 60)).s rb) 2 k6 none (put (rst 11 1 6 8) 6 (.int x)) [es5 a b c d e, ([1, 3, 5, 7, 9, 0, 4, 8, 2, 10] : List Int).map .int] = some (rst 11 0 22 16, [es5 a b c d e, ([1, 3, 5, 7, 9, 0, 4, 8, 2, 10, 6] : List Int).map .int]) := by
  rcases h with rfl | rfl | rfl
  · exact ru11_3_0 a b c d e k
  · exact ru11_3_1 a b c d e k
  · exact ru11_3_2 a b c d e k
theorem ru11_end (a b c d e : Int) (k : Nat) (x : Int) : outB 1 ((ev FT (k + 60)).s rb) (put (rst 11 0 22 16) 6 (.int x)) [es5 a b c d e, ([1, 3, 5, 7, 9, 0, 4, 8, 2, 10, 6] : List Int).map .int] = some (.lst 1, [es5 a b c d e, (exc 11).map .int]) := by kernel_rfl
theorem ru12_0_0 (a b c d e : Int) (k : Nat) : turnF ((ev FT (k + 60)).s rb) 2 k6 none (put (rst 12 12 0 1) 6 (.int 0)) [es5 a b c d e, []] = some (rst 12 6 0 2, [es5 a b c d e, ([1, 3, 5, 7, 9, 11] : List Int).map .int]) := by kernel_rfl
theorem ru12_0_1 (a b c d e : Int) (k : Nat) : turnF ((ev FT (k + 60)).s rb) 2 k6 none (put (rst 12 12 0 1) 6 (.int 1)) [es5 a b c d e, []] = some (rst 12 6 0 2, [es5 a b c d e, ([1, 3, 5, 7, 9, 11] : List Int).map .int]) := by kernel_rfl
theorem ru12_0_2 (a b c d e : Int) (k : Nat) : turnF ((ev FT (k + 60)).s rb) 2 k6 none (put (rst 12 12 0 1) 6 (.int 2)) [es5 a b c d e, []] = some (rst 12 6 0 2, [es5 a b c d e, ([1, 3, 5, 7, 9, 11] : List Int).map .int]) := by kernel_rfl
theorem ru12_0 (a b c d e : Int) (k : Nat) (x : Int) (h : En x) : turnF ((ev FT (k + 60)).s rb) 2 k6 none (put (rst 12 12 0 1) 6 (.int x)) [es5 a b c d e, []] = some (rst 12 6 0 2, [es5 a b c d e, ([1, 3, 5, 7, 9, 11] : List Int).map .int]) := by
  rcases h with rfl | rfl | rfl
  · exact ru12_0_0 a b c d e k
  · exact ru12_0_1 a b c d e k
  · exact ru12_0_2 a b c d e k
theorem ru12_1_0 (a b c d e : Int) (k : Nat) : turnF ((ev FT (k + 60)).s rb) 2 k6 none (put (rst 12 6 0 2) 6 (.int 0)) [es5 a b c d e, ([1, 3, 5, 7, 9, 11] : List Int).map .int] = some (rst 12 3 0 4, [es5 a b c d e, ([1, 3, 5, 7, 9, 11, 2, 6, 10] : List Int).map .int]) := by kernel_rfl
theorem ru12_1_1 (a b c d e : Int) (k : Nat) : turnF ((ev FT (k + 60)).s rb) 2 k6 none (put (rst 12 6 0 2) 6 (.int 1)) [es5 a b c d e, ([1, 3, 5, 7, 9, 11] : List Int).map .int] = some (rst 12 3 0 4, [es5 a b c d e, ([1, 3, 5, 7, 9, 11, 2, 6, 10] : List Int).map .int]) := by kernel_rfl
theorem ru12_1_2 (a b c d e : Int) (k : Nat) : turnF ((ev FT (k + 60)).s rb) 2 k6 none (put (rst 12 6 0 2) 6 (.int 2)) [es5 a b c d e, ([1, 3, 5, 7, 9, 11] : List Int).map .int] = some (rst 12 3 0 4, [es5 a b c d e, ([1, 3, 5, 7, 9, 11, 2, 6, 10] : List Int).map .int]) := by kernel_rfl
theorem ru12_1 (a b c d e : Int) (k : Nat) (x : Int) (h : En x) : turnF ((ev FT (k + 60)).s rb) 2 k6 none (put (rst 12 6 0 2) 6 (.int x)) [es5 a b c d e, ([1, 3, 5, 7, 9, 11] : List Int).map .int] = some (rst 12 3 0 4, [es5 a b c d e, ([1, 3, 5, 7, 9, 11, 2, 6, 10] : List Int).map .int]) := by
  rcases h with rfl | rfl | rfl
  · exact ru12_1_0 a b c d e k
  · exact ru12_1_1 a b c d e k
  · exact ru12_1_2 a b c d e k
theorem ru12_2_0 (a b c d e : Int) (k : Nat) : turnF ((ev FT (k + 60)).s rb) 2 k6 none (put (rst 12 3 0 4) 6 (.int 0)) [es5 a b c d e, ([1, 3, 5, 7, 9, 11, 2, 6, 10] : List Int).map .int] = some (rst 12 1 8 8, [es5 a b c d e, ([1, 3, 5, 7, 9, 11, 2, 6, 10, 4, 0] : List Int).map .int]) := by kernel_rfl
theorem ru12_2_1 (a b c d e : Int) (k : Nat) : turnF ((ev FT (k + 60)).s rb) 2 k6 none (put (rst 12 3 0 4) 6 (.int 1)) [es5 a b c d e, ([1, 3, 5, 7, 9, 11, 2, 6, 10] : List Int).map .int] = some (rst 12 1 8 8, [es5 a b c d e, ([1, 3, 5, 7, 9, 11, 2, 6, 10, 4, 0] : List Int).map .int]) := by kernel_rfl
theorem ru12_2_2 (a b c d e : Int) (k : Nat) : turnF ((ev FT (k + 60)).s rb) 2 k6 none (put (rst 12 3 0 4) 6 (.int 2)) [es5 a b c d e, ([1, 3, 5, 7, 9, 11, 2, 6, 10] : List Int).map .int] = some (rst 12 1 8 8, [es5 a b c d e, ([1, 3, 5, 7, 9, 11, 2, 6, 10, 4, 0] : List Int).map .int]) := by kernel_rfl
theorem ru12_2 (a b c d e : Int) (k : Nat) (x : Int) (h : En x) : turnF ((ev FT (k + 60)).s rb) 2 k6 none (put (rst 12 3 0 4) 6 (.int x)) [es5 a b c d e, ([1, 3, 5, 7, 9, 11, 2, 6, 10] : List Int).map .int] = some (rst 12 1 8 8, [es5 a b c d e, ([1, 3, 5, 7, 9, 11, 2, 6, 10, 4, 0] : List Int).map .int]) := by
  rcases h with rfl | rfl | rfl
  · exact ru12_2_0 a b c d e k
  · exact ru12_2_1 a b c d e k
  · exact ru12_2_2 a b c d e k
theorem ru12_3_0 (a b c d e : Int) (k : Nat) : turnF ((ev FT (k + 60)).s rb) 2 k6 none (put (rst 12 1 8 8) 6 (.int 0)) [es5 a b c d e, ([1, 3, 5, 7, 9, 11, 2, 6, 10, 4, 0] : List Int).map .int] = some (rst 12 0 24 16, [es5 a b c d e, ([1, 3, 5, 7, 9, 11, 2, 6, 10, 4, 0, 8] : List Int).map .int]) := by kernel_rfl
theorem ru12_3_1 (a b c d e : Int) (k : Nat) : turnF ((ev FT (k + 60)).s rb) 2 k6 none (put (rst 12 1 8 8) 6 (.int 1)) [es5 a b c d e, ([1, 3, 5, 7, 9, 11, 2, 6, 10, 4, 0] : List Int).map .int] = some (rst 12 0 24 16, [es5 a b c d e, ([1, 3, 5, 7, 9, 11, 2, 6, 10, 4, 0, 8] : List Int).map .int]) := by kernel_rfl
theorem ru12_3_2 (a b c d e : Int) (k : Nat) : turnF ((ev FT (k + 60)).s rb) 2 k6 none (put (rst 12 1 8 8) 6 (.int 2)) [es5 a b c d e, ([1, 3, 5, 7, 9, 11, 2, 6, 10, 4, 0] : List Int).map .int] = some (rst 12 0 24 16, [es5 a b c d e, ([1, 3, 5, 7, 9, 11, 2, 6, 10, 4, 0, 8] : List Int).map .int]) := by kernel_rfl
theorem ru12_3 (a b c d e : Int) (k : Nat) (x : Int) (h : En x) : turnF ((ev FT (k + 60)).s rb) 2 k6 none (put (rst 12 1 8 8) 6 (.int x)) [es5 a b c d e, ([1, 3, 5, 7, 9, 11, 2, 6, 10, 4, 0] : List Int).map .int] = some (rst 12 0 24 16, [es5 a b c d e, ([1, 3, 5, 7, 9, 11, 2, 6, 10, 4, 0, 8] : List Int).map .int]) := by
  rcases h with rfl | rfl | rfl
  · exact ru12_3_0 a b c d e k
  · exact ru12_3_1 a b c d e k
  · exact ru12_3_2 a b c d e k
theorem ru12_end (a b c d e : Int) (k : Nat) (x : Int) : outB 1 ((ev FT (k + 60)).s rb) (put (rst 12 0 24 16) 6 (.int x)) [es5 a b c d e, ([1, 3, 5, 7, 9, 11, 2, 6, 10, 4, 0, 8] : List Int).map .int] = some (.lst 1, [es5 a b c d e, (exc 12).map .int]) := by kernel_rfl
theorem loc_il {σ : St} {n : Int} {kk : Nat} {x : List V} (h : σ[kk]? = some x) (hx : x.all flat = true) : loc σ [.int n, .lst kk] = some ([.int n, .lst 0], [x]) := by
  simp only [loc, Option.bind_eq_bind, h, Option.bind_some, hx, List.all_nil, Bool.and_self, if_true]
theorem home_1 {σ : St} {e x : List V} (h : x.all flat = true) : home [e] σ (.lst 1) [e, x] = some (.lst σ.length, σ ++ [x]) := by
  show (if [e, x].take 1 = [e] then (if 1 = 1 then (do let y ← [e, x][1]?; if y.all flat then some (V.lst σ.length, σ ++ [y]) else none) else none) else none) = _
  have q : [e, x].take 1 = [e] := rfl
  have q' : [e, x][1]? = some x := rfl
  rw [if_pos q, if_pos rfl, q']
  simp only [Option.bind_eq_bind, Option.bind_some, h, if_true]
theorem ru_pre (n : Int) (es : List V) (k : Nat) : (ev FT (k + 70)).s body6 (padR [.int n, .lst 0] 14) [es] = (ev FT (k + 66)).s (.cons (nthS body6 4) (restS body6 5)) (rst n n 0 1) [es, []] := by
  have h0 : (ev FT (k + 69)).s (nthS body6 0) (padR [.int n, .lst 0] 14) [es] = some (.nx, [some (.int n), some (.lst 0), some (.lst 1), none, none, none, none, none, none, none, none, none, none, none], [es, []]) := by kernel_rfl
  have h1 : (ev FT (k + 68)).s (nthS body6 1) [some (.int n), some (.lst 0), some (.lst 1), none, none, none, none, none, none, none, none, none, none, none] [es, []] = some (.nx, [some (.int n), some (.lst 0), some (.lst 1), some (.int n), none, none, none, none, none, none, none, none, none, none], [es, []]) := by kernel_rfl
  have h2 : (ev FT (k + 67)).s (nthS body6 2) [some (.int n), some (.lst 0), some (.lst 1), some (.int n), none, none, none, none, none, none, none, none, none, none] [es, []] = some (.nx, [some (.int n), some (.lst 0), some (.lst 1), some (.int n), some (.int 0), none, none, none, none, none, none, none, none, none], [es, []]) := by kernel_rfl
  have h3 : (ev FT (k + 66)).s (nthS body6 3) [some (.int n), some (.lst 0), some (.lst 1), some (.int n), some (.int 0), none, none, none, none, none, none, none, none, none] [es, []] = some (.nx, rst n n 0 1, [es, []]) := by kernel_rfl
  exact (s_nx (n := k + 69) h0).trans ((s_nx (n := k + 68) h1).trans ((s_nx (n := k + 67) h2).trans (s_nx (n := k + 66) h3)))
theorem ru_fin {n : Int} {a b c d e : Int} {k kk : Nat} {σ σ' : St} {v : V} {ρ : Rho} {x : List V} (hk : σ[kk]? = some (es5 a b c d e)) (hl : loopF (fun σ => σ[0]?) ((ev FT (k + 64)).s rb) 6 2 k6 none 6 0 (rst n n 0 1) [es5 a b c d e, []] = some (.rt v, ρ, σ'))
    (hb : back 1 v σ' = some (.lst 1, [es5 a b c d e, x])) (hx : x.all flat = true) : (ev FT (k + 71)).c 6 [.int n, .lst kk] σ = some (.lst σ.length, σ ++ [x]) := by
  refine c_of (ρ₁ := ρ) (n := k + 70) (d := fn6) rfl rfl (by decide) (loc_il hk rfl) ?_ hb (home_1 hx)
  refine (ru_pre n _ k).trans ?_
  refine s_rt (n := k + 65) ?_
  exact (s_forL (n := k + 64) (x := es5 a b c d e) (k := 0) (σ₁ := [es5 a b c d e, []]) (by kernel_rfl) rfl).trans hl
theorem ru5 (a b c d e : Int) (k kk : Nat) (σ : St) (hk : σ[kk]? = some (es5 a b c d e)) (h0 : En a) (h1 : En b) (h2 : En c) (h3 : En d) : (ev FT (k + 71)).c 6 [.int 5, .lst kk] σ = some (.lst σ.length, σ ++ [(exc 5).map .int]) := by
  obtain ⟨v, ρ, σ', e1, e2⟩ := outB_inv (ru5_end a b c d e (k + 4) d)
  refine ru_fin (ρ := ρ) hk ?_ e2 (by decide)
  refine (loopF_turn (x := es5 a b c d e) (v := .int a) rfl rfl (ru5_0 a b c d e (k + 4) a h0)).trans ?_
  refine (loopF_turn (x := es5 a b c d e) (v := .int b) rfl rfl (ru5_1 a b c d e (k + 4) b h1)).trans ?_
  refine (loopF_turn (x := es5 a b c d e) (v := .int c) rfl rfl (ru5_2 a b c d e (k + 4) c h2)).trans ?_
  exact loopF_rt (x := es5 a b c d e) (v := .int d) rfl rfl e1
theorem ru6 (a b c d e : Int) (k kk : Nat) (σ : St) (hk : σ[kk]? = some (es5 a b c d e)) (h0 : En a) (h1 : En b) (h2 : En c) (h3 : En d) : (ev FT (k + 71)).c 6 [.int 6, .lst kk] σ = some (.lst σ.length, σ ++ [(exc 6).map .int]) := by
  obtain ⟨v, ρ, σ', e1, e2⟩ := outB_inv (ru6_end a b c d e (k + 4) d)
  refine ru_fin (ρ := ρ) hk ?_ e2 (by decide)
  refine (loopF_turn (x := es5 a b c d e) (v := .int a) rfl rfl (ru6_0 a b c d e (k + 4) a h0)).trans ?_
  refine (loopF_turn (x := es5 a b c d e) (v := .int b) rfl rfl (ru6_1 a b c d e (k + 4) b h1)).trans ?_
  refine (loopF_turn (x := es5 a b c d e) (v := .int c) rfl rfl (ru6_2 a b c d e (k + 4) c h2)).trans ?_
  exact loopF_rt (x := es5 a b c d e) (v := .int d) rfl rfl e1
theorem ru7 (a b c d e : Int) (k kk : Nat) (σ : St) (hk : σ[kk]? = some (es5 a b c d e)) (h0 : En a) (h1 : En b) (h2 : En c) (h3 : En d) : (ev FT (k + 71)).c 6 [.int 7, .lst kk] σ = some (.lst σ.length, σ ++ [(exc 7).map .int]) := by
  obtain ⟨v, ρ, σ', e1, e2⟩ := outB_inv (ru7_end a b c d e (k + 4) d)
  refine ru_fin (ρ := ρ) hk ?_ e2 (by decide)
  refine (loopF_turn (x := es5 a b c d e) (v := .int a) rfl rfl (ru7_0 a b c d e (k + 4) a h0)).trans ?_
  refine (loopF_turn (x := es5 a b c d e) (v := .int b) rfl rfl (ru7_1 a b c d e (k + 4) b h1)).trans ?_
  refine (loopF_turn (x := es5 a b c d e) (v := .int c) rfl rfl (ru7_2 a b c d e (k + 4) c h2)).trans ?_
  exact loopF_rt (x := es5 a b c d e) (v := .int d) rfl rfl e1
theorem ru8 (a b c d e : Int) (k kk : Nat) (σ : St) (hk : σ[kk]? = some (es5 a b c d e)) (h0 : En a) (h1 : En b) (h2 : En c) (h3 : En d) : (ev FT (k + 71)).c 6 [.int 8, .lst kk] σ = some (.lst σ.length, σ ++ [(exc 8).map .int]) := by
  obtain ⟨v, ρ, σ', e1, e2⟩ := outB_inv (ru8_end a b c d e (k + 4) e)
  refine ru_fin (ρ := ρ) hk ?_ e2 (by decide)
  refine (loopF_turn (x := es5 a b c d e) (v := .int a) rfl rfl (ru8_0 a b c d e (k + 4) a h0)).trans ?_
  refine (loopF_turn (x := es5 a b c d e) (v := .int b) rfl rfl (ru8_1 a b c d e (k + 4) b h1)).trans ?_
  refine (loopF_turn (x := es5 a b c d e) (v := .int c) rfl rfl (ru8_2 a b c d e (k + 4) c h2)).trans ?_
  refine (loopF_turn (x := es5 a b c d e) (v := .int d) rfl rfl (ru8_3 a b c d e (k + 4) d h3)).trans ?_
  exact loopF_rt (x := es5 a b c d e) (v := .int e) rfl rfl e1
theorem ru9 (a b c d e : Int) (k kk : Nat) (σ : St) (hk : σ[kk]? = some (es5 a b c d e)) (h0 : En a) (h1 : En b) (h2 : En c) (h3 : En d) : (ev FT (k + 71)).c 6 [.int 9, .lst kk] σ = some (.lst σ.length, σ ++ [(exc 9).map .int]) := by
  obtain ⟨v, ρ, σ', e1, e2⟩ := outB_inv (ru9_end a b c d e (k + 4) e)
  refine ru_fin (ρ := ρ) hk ?_ e2 (by decide)
  refine (loopF_turn (x := es5 a b c d e) (v := .int a) rfl rfl (ru9_0 a b c d e (k + 4) a h0)).trans ?_
  refine (loopF_turn (x := es5 a b c d e) (v := .int b) rfl rfl (ru9_1 a b c d e (k + 4) b h1)).trans ?_
  refine (loopF_turn (x := es5 a b c d e) (v := .int c) rfl rfl (ru9_2 a b c d e (k + 4) c h2)).trans ?_
  refine (loopF_turn (x := es5 a b c d e) (v := .int d) rfl rfl (ru9_3 a b c d e (k + 4) d h3)).trans ?_
  exact loopF_rt (x := es5 a b c d e) (v := .int e) rfl rfl e1
theorem ru10 (a b c d e : Int) (k kk : Nat) (σ : St) (hk : σ[kk]? = some (es5 a b c d e)) (h0 : En a) (h1 : En b) (h2 : En c) (h3 : En d) : (ev FT (k + 71)).c 6 [.int 10, .lst kk] σ = some (.lst σ.length, σ ++ [(exc 10).map .int]) := by
  obtain ⟨v, ρ, σ', e1, e2⟩ := outB_inv (ru10_end a b c d e (k + 4) e)
  refine ru_fin (ρ := ρ) hk ?_ e2 (by decide)
  refine (loopF_turn (x := es5 a b c d e) (v := .int a) rfl rfl (ru10_0 a b c d e (k + 4) a h0)).trans ?_
  refine (loopF_turn (x := es5 a b c d e) (v := .int b) rfl rfl (ru10_1 a b c d e (k + 4) b h1)).trans ?_
  refine (loopF_turn (x := es5 a b c d e) (v := .int c) rfl rfl (ru10_2 a b c d e (k + 4) c h2)).trans ?_
  refine (loopF_turn (x := es5 a b c d e) (v := .int d) rfl rfl (ru10_3 a b c d e (k + 4) d h3)).trans ?_
  exact loopF_rt (x := es5 a b c d e) (v := .int e) rfl rfl e1
theorem ru11 (a b c d e : Int) (k kk : Nat) (σ : St) (hk : σ[kk]? = some (es5 a b c d e)) (h0 : En a) (h1 : En b) (h2 : En c) (h3 : En d) : (ev FT (k + 71)).c 6 [.int 11, .lst kk] σ = some (.lst σ.length, σ ++ [(exc 11).map .int]) := by
  obtain ⟨v, ρ, σ', e1, e2⟩ := outB_inv (ru11_end a b c d e (k + 4) e)
  refine ru_fin (ρ := ρ) hk ?_ e2 (by decide)
  refine (loopF_turn (x := es5 a b c d e) (v := .int a) rfl rfl (ru11_0 a b c d e (k + 4) a h0)).trans ?_
  refine (loopF_turn (x := es5 a b c d e) (v := .int b) rfl rfl (ru11_1 a b c d e (k + 4) b h1)).trans ?_
  refine (loopF_turn (x := es5 a b c d e) (v := .int c) rfl rfl (ru11_2 a b c d e (k + 4) c h2)).trans ?_
  refine (loopF_turn (x := es5 a b c d e) (v := .int d) rfl rfl (ru11_3 a b c d e (k + 4) d h3)).trans ?_
  exact loopF_rt (x := es5 a b c d e) (v := .int e) rfl rfl e1
theorem ru12 (a b c d e : Int) (k kk : Nat) (σ : St) (hk : σ[kk]? = some (es5 a b c d e)) (h0 : En a) (h1 : En b) (h2 : En c) (h3 : En d) : (ev FT (k + 71)).c 6 [.int 12, .lst kk] σ = some (.lst σ.length, σ ++ [(exc 12).map .int]) := by
  obtain ⟨v, ρ, σ', e1, e2⟩ := outB_inv (ru12_end a b c d e (k + 4) e)
  refine ru_fin (ρ := ρ) hk ?_ e2 (by decide)
  refine (loopF_turn (x := es5 a b c d e) (v := .int a) rfl rfl (ru12_0 a b c d e (k + 4) a h0)).trans ?_
  refine (loopF_turn (x := es5 a b c d e) (v := .int b) rfl rfl (ru12_1 a b c d e (k + 4) b h1)).trans ?_
  refine (loopF_turn (x := es5 a b c d e) (v := .int c) rfl rfl (ru12_2 a b c d e (k + 4) c h2)).trans ?_
  refine (loopF_turn (x := es5 a b c d e) (v := .int d) rfl rfl (ru12_3 a b c d e (k + 4) d h3)).trans ?_
  exact loopF_rt (x := es5 a b c d e) (v := .int e) rfl rfl e1
end Mine
end

section
set_option maxRecDepth 100000
set_option autoImplicit false
namespace Mine
open PySem PySem.W PyProof.Rows
theorem runK_bind {α β : Type} {n : Nat} {ltf : Nat → Nat → Bool} {f : α → KasT β} : ∀ t : KasT α, runK n ltf (t.bind f) = (runK n ltf t).bind fun a => runK n ltf (f a)
  | .ret a => rfl
  | .ask i j k => by
    show runK n ltf (.ask i j fun b => (k b).bind f) = _
    show (if i < n ∧ j < n then runK n ltf ((k (ltf i j)).bind f) else none) = (if i < n ∧ j < n then runK n ltf (k (ltf i j)) else none).bind fun a => runK n ltf (f a)
    by_cases h : i < n ∧ j < n
    · rw [if_pos h, if_pos h]
      exact runK_bind (k (ltf i j))
    · rw [if_neg h, if_neg h]; rfl
section
variable {n : Nat} {K : Nat → Int} {ltf : Nat → Nat → Bool}
noncomputable def gA (p : Array Nat) (i : Nat) : Nat := p.getD i 0
noncomputable def Pm (n : Nat) (p : Array Nat) : Prop := p.toList.Perm (List.range n)
theorem gA_eq (p : Array Nat) (i : Nat) : gA p i = (p[i]?).getD 0 := by unfold gA; rw [Array.getD_eq_getD_getElem?]
theorem Pm.size {p : Array Nat} (h : Pm n p) : p.size = n := by have := h.length_eq; simpa using this
theorem Pm.lt {p : Array Nat} (h : Pm n p) {i : Nat} (hi : i < n) : gA p i < n := by
  have hs := h.size
  rw [gA_eq, Array.getElem?_eq_getElem (by omega)]
  have : p[i]'(by omega) ∈ p.toList := by simp
  exact List.mem_range.mp (h.mem_iff.mp this)
theorem Pm.inj {p : Array Nat} (h : Pm n p) {i j : Nat} (hi : i < n) (hj : j < n) (e : gA p i = gA p j) : i = j := by
  have hs := h.size
  rw [gA_eq, gA_eq, Array.getElem?_eq_getElem (by omega), Array.getElem?_eq_getElem (by omega)] at e
  simp only [Option.getD_some] at e
  have nd : p.toList.Nodup := h.symm.nodup List.nodup_range
  have nd := List.nodup_iff_pairwise_ne.mp nd
  have li : i < p.toList.length := by rw [Array.length_toList]; omega
  have lj : j < p.toList.length := by rw [Array.length_toList]; omega
  rcases Nat.lt_trichotomy i j with q | q | q
  · exact absurd (by rw [Array.getElem_toList, Array.getElem_toList]; exact e) (List.pairwise_iff_getElem.mp nd i j li lj q)
  · exact q
  · exact absurd (by rw [Array.getElem_toList, Array.getElem_toList]; exact e.symm) (List.pairwise_iff_getElem.mp nd j i lj li q)
theorem Pm.of {p q : Array Nat} (h : Pm n p) (e : q.Perm p) : Pm n q := (Array.perm_iff_toList_perm.mp e).trans h
/-- the keys: no two alike -/
structure Keys (n : Nat) (K : Nat → Int) (ltf : Nat → Nat → Bool) : Prop where
  lt : ∀ i j, i < n → j < n → ltf i j = decide (K i < K j)
  inj : ∀ i j, i < n → j < n → K i = K j → i = j
noncomputable def Up (K : Nat → Int) (p : Array Nat) (m : Nat) : Prop := ∀ i j, i < j → j < m → K (gA p i) < K (gA p j)
theorem Keys.ne (k : Keys n K ltf) {p : Array Nat} (h : Pm n p) {i j : Nat} (hi : i < n) (hj : j < n) (e : i ≠ j) : K (gA p i) ≠ K (gA p j) := fun q => e (h.inj hi hj (k.inj _ _ (h.lt hi) (h.lt hj) q))
theorem Keys.ge (k : Keys n K ltf) {p : Array Nat} (h : Pm n p) {i j : Nat} (hi : i < n) (hj : j < n) (e : i ≠ j) (c : ¬ K (gA p i) < K (gA p j)) : K (gA p j) < K (gA p i) := by
  have := k.ne h hi hj e
  omega
theorem run_ask {α : Type} (k : Keys n K ltf) {p : Array Nat} (h : Pm n p) {i j : Nat} (hi : i < n) (hj : j < n) (f : Bool → KasT α) : runK n ltf (.ask (gA p i) (gA p j) f) = runK n ltf (f (decide (K (gA p i) < K (gA p j)))) := by
  show (if gA p i < n ∧ gA p j < n then runK n ltf (f (ltf (gA p i) (gA p j))) else none) = _
  rw [if_pos ⟨h.lt hi, h.lt hj⟩, k.lt _ _ (h.lt hi) (h.lt hj)]
theorem dno {c : Prop} [Decidable c] (h : ¬ c) : ¬ (decide c = true) := fun e => h (of_decide_eq_true e)
theorem a_lt {m f : Nat} (h : m + (f + 1) = n) : m < n := by omega
theorem a_pr {m : Nat} (h : m < n) : m - 1 < n := Nat.lt_of_le_of_lt (Nat.sub_le m 1) h
theorem a_nx {m f : Nat} (h : m + (f + 1) = n) : m + 1 + f = n := by omega
theorem a_ne {m : Nat} (h : 1 ≤ m) : m ≠ m - 1 := by omega
theorem Up.snoc {K : Nat → Int} {p : Array Nat} {m : Nat} (u : Up K p m) (h1 : 1 ≤ m) (hlt : K (gA p (m - 1)) < K (gA p m)) : Up K p (m + 1) := fun i j hij hj => by
  rcases Nat.lt_succ_iff_lt_or_eq.mp hj with q | rfl
  · exact u i j hij q
  · rcases Nat.lt_or_eq_of_le (Nat.le_sub_one_of_lt hij) with r | rfl
    · exact Int.lt_trans (u i (j - 1) r (Nat.sub_lt h1 Nat.one_pos)) hlt
    · exact hlt
theorem asc_ok (k : Keys n K ltf) {p : Array Nat} (h : Pm n p) : ∀ (f m : Nat), 1 ≤ m → m + f = n → Up K p m → ∃ m', runK n ltf (kas_asc p f m) = some m' ∧ m ≤ m' ∧ m' ≤ n ∧ Up K p m' ∧ (m' < n → K (gA p m') < K (gA p (m' - 1)))
  | 0, m, h1, h2, u => ⟨m, rfl, Nat.le_refl _, Nat.le_of_eq h2, u, fun q => absurd h2 (Nat.ne_of_lt q)⟩
  | f + 1, m, h1, h2, u => by
    have hm := a_lt h2
    show ∃ m', runK n ltf (.ask (gA p m) (gA p (m - 1)) fun c => if c = true then .ret m else kas_asc p f (m + 1)) = some m' ∧ _
    rw [run_ask k h hm (a_pr hm)]
    by_cases c : K (gA p m) < K (gA p (m - 1))
    · rw [if_pos (decide_eq_true c)]
      exact ⟨m, rfl, Nat.le_refl _, Nat.le_of_lt hm, u, fun _ => c⟩
    · rw [if_neg (dno c)]
      obtain ⟨m', e1, e2, e3⟩ := asc_ok k h f (m + 1) (Nat.le_add_left 1 m) (a_nx h2) (u.snoc h1 (k.ge h hm (a_pr hm) (a_ne h1) c))
      exact ⟨m', e1, Nat.le_of_succ_le e2, e3⟩
theorem neg_lt {x y : Int} (h : x < y) : -y < -x := Int.neg_lt_neg h
theorem desc_ok (k : Keys n K ltf) {p : Array Nat} (h : Pm n p) : ∀ (f m : Nat), 1 ≤ m → m + f = n → Up (fun i => -K i) p m → ∃ m', runK n ltf (kas_desc f p m 0) = some (p, m', 0) ∧ m ≤ m' ∧ m' ≤ n ∧ Up (fun i => -K i) p m'
  | 0, m, h1, h2, u => ⟨m, rfl, Nat.le_refl _, Nat.le_of_eq h2, u⟩
  | f + 1, m, h1, h2, u => by
    have hm := a_lt h2
    show ∃ m', runK n ltf (.ask (gA p m) (gA p (m - 1)) fun c => if c = true then (if 0 > 0 then kas_desc f (kas_rev p (m - (0 + 1)) m) (m + 1) 0 else kas_desc f p (m + 1) 0)
      else .ask (gA p (m - 1)) (gA p m) fun d => if d = true then .ret (p, m, 0) else kas_desc f p (m + 1) (0 + 1)) = some (p, m', 0) ∧ _
    rw [run_ask k h hm (a_pr hm)]
    by_cases c : K (gA p m) < K (gA p (m - 1))
    · rw [if_pos (decide_eq_true c), if_neg (Nat.lt_irrefl 0)]
      obtain ⟨m', e1, e2, e3⟩ := desc_ok k h f (m + 1) (Nat.le_add_left 1 m) (a_nx h2) (u.snoc h1 (neg_lt c))
      exact ⟨m', e1, Nat.le_of_succ_le e2, e3⟩
    · rw [if_neg (dno c), run_ask k h (a_pr hm) hm, if_pos (decide_eq_true (k.ge h hm (a_pr hm) (a_ne h1) c))]
      exact ⟨m, rfl, Nat.le_refl _, Nat.le_of_lt hm, u⟩
theorem gA_rev {p : Array Nat} (h : Pm n p) {m i : Nat} (hm : m ≤ n) (hi : i < m) : gA (kas_rev p 0 m) i = gA p (m - 1 - i) := by
  rw [gA_eq, gA_eq]
  have := getElem?_mirror_all (xs := p) (i := 0) (j := m) (by rw [h.size]; exact hm) i
  unfold kas_rev
  rw [this, if_pos ⟨Nat.zero_le _, hi⟩, Nat.zero_add]
theorem rev_lt {m i j : Nat} (hij : i < j) (hj : j < m) : m - 1 - j < m - 1 - i ∧ m - 1 - i < m := by omega
theorem count_ok (k : Keys n K ltf) {p : Array Nat} (h : Pm n p) (hn : 1 ≤ n) : ∃ m q, runK n ltf (kas_count n p) = some (m, q) ∧ 1 ≤ m ∧ m ≤ n ∧ Pm n q ∧ Up K q m := by
  obtain ⟨m, e1, e2, e3, e4, e5⟩ := asc_ok k h (n - 1) 1 (Nat.le_refl _) (Nat.add_sub_cancel' hn) (fun i j hij hj => absurd (Nat.lt_of_lt_of_le hij (Nat.le_of_lt_succ hj)) (Nat.not_lt_zero i))
  unfold kas_count
  rw [runK_bind, e1]
  show ∃ m' q, runK n ltf (if (m == n) = true then .ret (m, p) else if m > 1 then .ask (gA p 0) (gA p (m - 1)) fun c => if c = true then .ret (m, p) else kas_descPart m n (kas_rev p 0 m) else kas_descPart m n p) = some (m', q) ∧ _
  by_cases c1 : m = n
  · rw [if_pos (beq_iff_eq.mpr c1)]
    exact ⟨m, p, rfl, e2, e3, h, e4⟩
  · rw [if_neg fun q => c1 (beq_iff_eq.mp q)]
    have hlt := Nat.lt_of_le_of_ne e3 c1
    by_cases c2 : m > 1
    · rw [if_pos c2, run_ask k h hn (a_pr hlt), if_pos (decide_eq_true (e4 0 (m - 1) (Nat.sub_pos_of_lt c2) (Nat.sub_lt e2 Nat.one_pos)))]
      exact ⟨m, p, rfl, e2, e3, h, e4⟩
    · rw [if_neg c2]
      obtain rfl : 1 = m := Nat.le_antisymm e2 (Nat.le_of_not_lt c2)
      have h2 := e5 hlt
      obtain ⟨m', d1, d2, d3, d4⟩ := desc_ok k h (n - 2) 2 (by decide) (Nat.add_sub_cancel' hlt) (Up.snoc (fun i j hij hj => absurd (Nat.lt_of_lt_of_le hij (Nat.le_of_lt_succ hj)) (Nat.not_lt_zero i)) (Nat.le_refl 1) (neg_lt h2))
      unfold kas_descPart
      rw [runK_bind, show n - (1 + 1) = n - 2 from rfl, d1]
      show ∃ m'' q, runK n ltf (if 0 > 0 then _ else kas_tail3 m' n p) = some (m'', q) ∧ _
      rw [if_neg (Nat.lt_irrefl 0)]
      unfold kas_tail3
      have hr : Pm n (kas_rev p 0 m') := h.of (mirror_perm _ _ _ _)
      obtain ⟨m2, f1, f2, f3, f4, _⟩ := asc_ok k hr (n - m') m' (Nat.le_of_succ_le d2) (Nat.add_sub_cancel' d3) (fun i j hij hj => by
        rw [gA_rev h d3 (Nat.lt_trans hij hj), gA_rev h d3 hj]
        exact Int.neg_lt_neg_iff.mp (d4 _ _ (rev_lt hij hj).1 (rev_lt hij hj).2))
      rw [runK_bind, f1]
      exact ⟨m2, _, rfl, Nat.le_trans (Nat.le_of_succ_le d2) f2, f3, hr, f4⟩
theorem mids {l r f : Nat} (c : ¬ l ≥ r) (h : r - l ≤ f + 1) : l ≤ (l + r) / 2 ∧ (l + r) / 2 < r ∧ (l + r) / 2 - l ≤ f ∧ r - ((l + r) / 2 + 1) ≤ f := by omega
theorem place_ok (k : Keys n K ltf) {p : Array Nat} (h : Pm n p) {m : Nat} (hm : m < n) (u : Up K p m) : ∀ (f l r : Nat), l ≤ r → r ≤ m → r - l ≤ f → (∀ i, i < l → K (gA p i) < K (gA p m)) → (∀ i, r ≤ i → i < m → K (gA p m) < K (gA p i)) →
    ∃ l', runK n ltf (kas_place p m f l r) = some l' ∧ l' ≤ m ∧ (∀ i, i < l' → K (gA p i) < K (gA p m)) ∧ (∀ i, l' ≤ i → i < m → K (gA p m) < K (gA p i))
  | 0, l, r, h1, h2, h3, a, b => ⟨l, rfl, Nat.le_trans h1 h2, a, fun i hi hm => b i (Nat.le_trans (Nat.le_of_sub_eq_zero (Nat.le_zero.mp h3)) hi) hm⟩
  | f + 1, l, r, h1, h2, h3, a, b => by
    show ∃ l', runK n ltf (if l ≥ r then .ret l else .ask (gA p m) (gA p ((l + r) / 2)) fun c => if c = true then kas_place p m f l ((l + r) / 2) else kas_place p m f ((l + r) / 2 + 1) r) = some l' ∧ _
    by_cases c : l ≥ r
    · rw [if_pos c]
      exact ⟨l, rfl, Nat.le_trans h1 h2, a, fun i hi hm => b i (Nat.le_trans c hi) hm⟩
    · rw [if_neg c]
      obtain ⟨m1, m2, m3, m4⟩ := mids c h3
      generalize (l + r) / 2 = q at m1 m2 m3 m4 ⊢
      have hq := Nat.lt_of_lt_of_le m2 h2
      rw [run_ask k h hm (Nat.lt_trans hq hm)]
      by_cases d : K (gA p m) < K (gA p q)
      · rw [if_pos (decide_eq_true d)]
        refine place_ok k h hm u f l q m1 (Nat.le_of_lt hq) m3 a fun i hi him => ?_
        rcases Nat.lt_or_eq_of_le hi with z | rfl
        · exact Int.lt_trans d (u q i z him)
        · exact d
      · rw [if_neg (dno d)]
        have d' := k.ge h hm (Nat.lt_trans hq hm) (Nat.ne_of_gt hq) d
        refine place_ok k h hm u f (q + 1) r m2 h2 m4 (fun i hi => ?_) b
        rcases Nat.lt_succ_iff_lt_or_eq.mp hi with z | rfl
        · exact Int.lt_trans (u i q z hq) d'
        · exact d'
theorem gA_bub {p : Array Nat} {s d : Nat} (hs : s < p.size) (hd : d ≤ s) (i : Nat) : gA (bubble p s d) i = if i = s - d then gA p s else if s - d < i ∧ i ≤ s then gA p (i - 1) else gA p i := by
  rw [gA_eq, getElem?_bubble hs d hd i]
  split
  · rw [gA_eq]
  · split <;> rw [gA_eq]
/-- the row with its m-th put in at l -/
theorem put_in {g B : Nat → Int} {l m : Nat} (hl : l ≤ m) (u : ∀ i j, i < j → j < m → g i < g j) (lo : ∀ i, i < l → g i < g m) (hi : ∀ i, l ≤ i → i < m → g m < g i) (hB : ∀ i, B i = if i = l then g m else if l < i ∧ i ≤ m then g (i - 1) else g i) : ∀ i j, i < j → j < m + 1 → B i < B j := by
  intro i j hij hj
  have hj := Nat.le_of_lt_succ hj
  rcases Nat.lt_trichotomy j l with q | rfl | q
  · rw [hB i, hB j, if_neg (Nat.ne_of_lt (Nat.lt_trans hij q)), if_neg (Nat.ne_of_lt q), if_neg (fun z => Nat.lt_asymm z.1 (Nat.lt_trans hij q)), if_neg fun z => Nat.lt_asymm z.1 q]
    exact u i j hij (Nat.lt_of_lt_of_le q hl)
  · rw [hB i, hB j, if_neg (Nat.ne_of_lt hij), if_pos rfl, if_neg fun z => Nat.lt_asymm z.1 hij]
    exact lo i hij
  · rw [hB j, if_neg (Nat.ne_of_gt q), if_pos ⟨q, hj⟩]
    have hj1 : j - 1 < m := Nat.lt_of_lt_of_le (Nat.sub_lt (Nat.zero_lt_of_lt q) Nat.one_pos) hj
    rcases Nat.lt_trichotomy i l with z | rfl | z
    · rw [hB i, if_neg (Nat.ne_of_lt z), if_neg fun y => Nat.lt_asymm y.1 z]
      exact u i (j - 1) (Nat.lt_of_lt_of_le z (Nat.le_sub_one_of_lt q)) hj1
    · rw [hB i, if_pos rfl]
      exact hi (j - 1) (Nat.le_sub_one_of_lt q) hj1
    · rw [hB i, if_neg (Nat.ne_of_gt z), if_pos ⟨z, Nat.le_of_lt (Nat.lt_of_lt_of_le hij hj)⟩]
      exact u (i - 1) (j - 1) (Nat.sub_lt_sub_right (Nat.zero_lt_of_lt z) hij) hj1
theorem sbin_ok (k : Keys n K ltf) : ∀ (f m : Nat) (p : Array Nat), Pm n p → m + f = n → Up K p m → ∃ q, runK n ltf (kas_bin f p m) = some q ∧ Pm n q ∧ Up K q n
  | 0, m, p, h, e, u => ⟨p, rfl, h, by rw [← e]; exact u⟩
  | f + 1, m, p, h, e, u => by
    show ∃ q, runK n ltf ((kas_place p m m 0 m).bind fun l => kas_bin f (bubble p m (m - l)) (m + 1)) = some q ∧ _
    obtain ⟨l, e1, e2, e3, e4⟩ := place_ok k h (a_lt e) u m 0 m (Nat.zero_le _) (Nat.le_refl _) (Nat.le_refl _) (fun i hi => absurd hi (Nat.not_lt_zero i)) (fun i h1 h2 => absurd h2 (Nat.not_lt_of_le h1))
    rw [runK_bind, e1]
    refine sbin_ok k f (m + 1) (bubble p m (m - l)) (h.of (bubble_perm _ _ _)) (a_nx e) (put_in (g := fun i => K (gA p i)) e2 u e3 e4 fun i => ?_)
    show K (gA (bubble p m (m - l)) i) = _
    rw [gA_bub (by rw [h.size]; exact a_lt e) (Nat.sub_le m l), Nat.sub_sub_self e2]
    split
    · rfl
    · split <;> rfl
theorem sort_ok (k : Keys n K ltf) (hn : 1 ≤ n) : ∃ q, runK n ltf (kas_sort n) = some q ∧ Pm n q ∧ Up K q n := by
  obtain ⟨m, q, e1, e2, e3, e4, e5⟩ := count_ok k (p := List.toArray (List.range n)) (.refl _) hn
  unfold kas_sort
  rw [runK_bind, e1]
  show ∃ q', runK n ltf (if m < n then kas_bin (n - max m 1) q (max m 1) else .ret q) = some q' ∧ _
  by_cases c : m < n
  · rw [if_pos c, Nat.max_eq_left e2]
    exact sbin_ok k (n - m) m q e4 (Nat.add_sub_cancel' e3) e5
  · rw [if_neg c]
    obtain rfl : m = n := Nat.le_antisymm e3 (Nat.le_of_not_lt c)
    exact ⟨q, rfl, e4, e5⟩
end
end Mine
end

section
set_option maxRecDepth 100000
set_option autoImplicit false
namespace Mine
open PySem PySem.W PyProof.Rows
theorem map_range {x : List (Int × Int)} : (List.range x.length).map (pAt x) = x := by
  apply List.ext_getElem
  · simp
  · intro i h1 h2
    simp [pAt, List.getD_eq_getElem?_getD, List.getElem?_eq_getElem h2]
theorem pAt_get {x : List (Int × Int)} {i : Nat} (h : i < x.length) : pAt x i = x[i] := by
  simp [pAt, List.getD_eq_getElem?_getD, List.getElem?_eq_getElem h]
theorem sortP_ok {x : List (Int × Int)} (h1 : 1 ≤ x.length) (hd : x.Pairwise fun a b => a.1 ≠ b.1) : ∃ y, sortP x = some y ∧ y.Perm x ∧ y.Pairwise fun a b => a.1 < b.1 := by
  have inj : ∀ i j, i < x.length → j < x.length → (pAt x i).1 = (pAt x j).1 → i = j := fun i j hi hj e => by
    rw [pAt_get hi, pAt_get hj] at e
    rcases Nat.lt_trichotomy i j with q | q | q
    · exact absurd e (List.pairwise_iff_getElem.mp hd i j hi hj q)
    · exact q
    · exact absurd e.symm (List.pairwise_iff_getElem.mp hd j i hj hi q)
  have k : Keys x.length (fun i => (pAt x i).1) (fun i j => iLt (pAt x i) (pAt x j)) := ⟨fun i j hi hj => by
    unfold iLt
    by_cases e : (pAt x i).1 = (pAt x j).1
    · obtain rfl := inj i j hi hj e
      simp
    · rw [if_neg e], inj⟩
  obtain ⟨q, e1, e2, e3⟩ := sort_ok k h1
  refine ⟨q.toList.map (pAt x), ?_, ?_, ?_⟩
  · unfold sortP
    rw [e1]
    simp only [Option.bind_eq_bind, Option.bind_some]
    rw [if_pos]
    refine List.all_eq_true.mpr fun i hi => ?_
    have := List.mem_range.mp (e2.mem_iff.mp hi)
    simpa using this
  · have := e2.map (pAt x)
    rw [map_range] at this
    exact this
  · have hs := e2.size
    refine List.pairwise_map.mpr (List.pairwise_iff_getElem.mpr fun i j hi hj hij => ?_)
    have := e3 i j hij (by rw [Array.length_toList] at hj; omega)
    rw [gA_eq, gA_eq, Array.getElem?_eq_getElem (by rw [Array.length_toList] at hi; exact hi), Array.getElem?_eq_getElem (by rw [Array.length_toList] at hj; exact hj)] at this
    exact this
end Mine
end

section
set_option maxRecDepth 100000
set_option autoImplicit false
namespace Mine
open PySem
noncomputable def fin (w : UInt64) : Bool := match Float64.decode w with
  | .fin .. => true
  | _ => false
/-- thirty-two times a word's value, to the nearest whole number -/
noncomputable def rank (w : UInt64) : Int := (64 * Float64.val w + 2 ^ 1074) / 2 ^ 1075
theorem cmp_fin {x y : UInt64} (hx : fin x = true) (hy : fin y = true) : Float64.cmp x y = some (compare (Float64.val x) (Float64.val y)) := by
  unfold fin at hx hy
  split at hx
  · rename_i e
    split at hy
    · rename_i e'
      exact Float64.cmp_right e e'
    · cases hy
  · cases hx
theorem val_lt {x y : UInt64} (h : rank x < rank y) : Float64.val x < Float64.val y := by
  unfold rank at h
  rcases Int.lt_or_le (Float64.val x) (Float64.val y) with q | q
  · exact q
  · exfalso
    have : (64 * Float64.val y + 2 ^ 1074) / 2 ^ 1075 ≤ (64 * Float64.val x + 2 ^ 1074) / 2 ^ 1075 := Int.ediv_le_ediv (by decide) (by omega)
    omega
theorem fLt_rank {x y : UInt64} (hx : fin x = true) (hy : fin y = true) (h : rank x < rank y) : fLt x y = true := by
  unfold fLt
  rw [cmp_fin hx hy]
  have := val_lt h
  simp [Int.compare_eq_lt.mpr this]
theorem fLt_rank' {x y : UInt64} (hx : fin x = true) (hy : fin y = true) (h : rank y < rank x) : fLt x y = false := by
  unfold fLt
  rw [cmp_fin hx hy]
  have := val_lt h
  simp [Int.compare_eq_gt.mpr this]
theorem fEq_rank {x y : UInt64} (hx : fin x = true) (hy : fin y = true) (h : rank x ≠ rank y) : fEq x y = false := by
  unfold fEq
  rw [cmp_fin hx hy]
  rcases Int.lt_or_gt_of_ne h with q | q
  · have := val_lt q
    simp [Int.compare_eq_lt.mpr this]
  · have := val_lt q
    simp [Int.compare_eq_gt.mpr this]
/-- the least rank is the nearest -/
theorem nearest_ok : ∀ (l : List (UInt64 × UInt64)) (a m : UInt64 × UInt64), (∀ x, x ∈ a :: l → fin x.1 = true) → (a :: l).Pairwise (fun x y => rank x.1 ≠ rank y.1) → m ∈ a :: l → (∀ x, x ∈ a :: l → rank m.1 ≤ rank x.1) → nearest a l = some m
  | [], a, m, _, _, hm, _ => by
    rcases List.mem_cons.mp hm with rfl | hm
    · rfl
    · cases hm
  | b :: r, a, m, hf, hp, hm, hle => by
    have ha := hf a (.head _)
    have hb := hf b (.tail _ (.head _))
    obtain ⟨h1, h2⟩ := List.pairwise_cons.mp hp
    have hab : rank a.1 ≠ rank b.1 := h1 b (.head _)
    unfold nearest
    have e1 : (fEq b.1 a.1 || b.1 == a.1) = false := by
      rw [fEq_rank hb ha (Ne.symm hab)]
      have : (b.1 == a.1) = false := by
        rw [beq_eq_false_iff_ne]
        intro q
        exact hab (by rw [q])
      rw [this]; rfl
    rw [e1]
    simp only [Bool.false_eq_true, if_false]
    rcases Int.lt_or_gt_of_ne hab with q | q
    · rw [fLt_rank' hb ha q]
      refine nearest_ok r a m (fun x hx => hf x ?_) (List.pairwise_cons.mpr ⟨fun x hx => h1 x (.tail _ hx), (List.pairwise_cons.mp h2).2⟩) ?_ fun x hx => hle x ?_
      · rcases List.mem_cons.mp hx with rfl | hx
        · exact .head _
        · exact .tail _ (.tail _ hx)
      · rcases List.mem_cons.mp hm with rfl | hm
        · exact .head _
        · rcases List.mem_cons.mp hm with rfl | hm
          · have := hle a (.head _); omega
          · exact .tail _ hm
      · rcases List.mem_cons.mp hx with rfl | hx
        · exact .head _
        · exact .tail _ (.tail _ hx)
    · rw [fLt_rank hb ha q]
      refine nearest_ok r b m (fun x hx => hf x (.tail _ hx)) h2 ?_ fun x hx => hle x (.tail _ hx)
      rcases List.mem_cons.mp hm with rfl | hm
      · have := hle b (.tail _ (.head _)); omega
      · exact hm
end Mine
end

section
set_option maxRecDepth 100000
set_option autoImplicit false
namespace Mine
open PySem
/-! the evaluator, node by node -/
theorem asI {h : Int} (hs : small h = true) : asInt (.int h) = some h := ifp hs rfl
section
variable {n : Nat} {ρ ρ₁ : Rho} {σ σ₁ σ₂ : St} {p p2 p3 p4 p5 : Pos}
theorem n_v {i : Nat} {v : V} (h : get ρ i = some v) : (ev FT (n + 1)).e (.v i p) ρ σ = some (v, σ) := bs h rfl
theorem n_k {c : Const} {v : V} (h : constV c = some v) : (ev FT (n + 1)).e (.k c p) ρ σ = some (v, σ) := bs h rfl
theorem n_bin {a b : X} {o : Operator} {u w : V} {r : V × St} (h1 : (ev FT n).e a ρ σ = some (u, σ₁)) (h2 : (ev FT n).e b ρ σ₁ = some (w, σ₂)) (h3 : binop o u w σ₂ = some r) : (ev FT (n + 1)).e (.bin a o b p) ρ σ = some r := bs h1 (bs h2 h3)
theorem n_cmp {a b : X} {o : CmpOp} {u w : V} {r : Bool} (h1 : (ev FT n).e a ρ σ = some (u, σ₁)) (h2 : (ev FT n).e b ρ σ₁ = some (w, σ₂)) (h3 : cmpop o u w σ₂ = some r) : (ev FT (n + 1)).e (.cmp a o b p) ρ σ = some (.bool r, σ₂) := bs h1 (bs h2 (bs h3 rfl))
theorem n_tcmp {a b : X} {o : CmpOp} {u w : V} {r : Bool} (h1 : (ev FT n).e a ρ σ = some (u, σ₁)) (h2 : (ev FT n).e b ρ σ₁ = some (w, σ₂)) (h3 : cmpop o u w σ₂ = some r) : (ev FT (n + 1)).t (.cmp a o b p) ρ σ = some (r, σ₂) := bs h1 (bs h2 (bs h3 rfl))
theorem n_idx {a b : X} {u w r : V} (h1 : (ev FT n).e a ρ σ = some (u, σ₁)) (h2 : (ev FT n).e b ρ σ₁ = some (w, σ₂)) (h3 : index u w σ₂ = some r) : (ev FT (n + 1)).e (.idx a b p) ρ σ = some (r, σ₂) := bs h1 (bs h2 (bs h3 rfl))
theorem n_call {f : Nat} {as : X} {vs : List V} {r : V × St} (h1 : (ev FT n).l as ρ σ = some (vs, σ₁)) (h2 : (ev FT n).c f vs σ₁ = some r) : (ev FT (n + 1)).e (.call f as p p2) ρ σ = some r := bs h1 h2
theorem n_bi {f : Bi} {as : X} {vs : List V} {r : V × St} (h1 : (ev FT n).l as ρ σ = some (vs, σ₁)) (h2 : bicall f vs σ₁ = some r) : (ev FT (n + 1)).e (.bi f as p p2) ρ σ = some r := bs h1 h2
theorem n_nil : (ev FT (n + 1)).l .nil ρ σ = some ([], σ) := rfl
theorem n_cons {e q : X} {v : V} {vs : List V} (h1 : (ev FT n).e e ρ σ = some (v, σ₁)) (h2 : (ev FT n).l q ρ σ₁ = some (vs, σ₂)) : (ev FT (n + 1)).l (.cons e q) ρ σ = some (v :: vs, σ₂) := bs h1 (bs h2 rfl)
theorem n_lst {es : X} {vs : List V} (h1 : (ev FT n).l es ρ σ = some (vs, σ₁)) (h2 : vs.length ≤ 1000) : (ev FT (n + 1)).e (.lst es p) ρ σ = some (.lst σ₁.length, σ₁ ++ [vs]) := bs h1 (ifp h2 rfl)
theorem n_tup {es : X} {vs : List V} {ps : List P} (h1 : (ev FT n).l es ρ σ = some (vs, σ₁)) (h2 : vs.length ≤ 1000) (h3 : toPs vs = some ps) : (ev FT (n + 1)).e (.tup es p) ρ σ = some (.tup ps, σ₁) := bs h1 (ifp h2 (bs h3 rfl))
theorem n_slU {a hi : X} {u : V} {h : Int} {r : V × St} (h1 : (ev FT n).e a ρ σ = some (u, σ₁)) (h2 : (ev FT n).e hi ρ σ₁ = some (.int h, σ₂)) (hs : small h = true) (h3 : slice u none (some h) σ₂ = some r) : (ev FT (n + 1)).e (.slU a hi p p2) ρ σ = some r := bs h1 (bs h2 (bs (asI hs) h3))
theorem n_slL {a lo : X} {u : V} {l : Int} {r : V × St} (h1 : (ev FT n).e a ρ σ = some (u, σ₁)) (h2 : (ev FT n).e lo ρ σ₁ = some (.int l, σ₂)) (hs : small l = true) (h3 : slice u (some l) none σ₂ = some r) : (ev FT (n + 1)).e (.slL a lo p p2) ρ σ = some r := bs h1 (bs h2 (bs (asI hs) h3))
theorem n_comp {elt it : X} {t : Nat} {fv : List Nat} {sc : Scope} {k : Nat} {x : List V} (h1 : (ev FT n).e it ρ σ = some (.lst k, σ₁)) (h2 : σ₁[k]? = some x) (h3 : x.length ≤ 1000)
    (h4 : loopC (·[k]?) ((ev FT n).e elt) (fun _ σ => some (true, σ)) t (compRho ρ fv ρ.length) σ₁.length (x.length + 1) 0 (σ₁ ++ [[]]) = some σ₂) : (ev FT (n + 1)).e (.comp elt t p it fv sc p2) ρ σ = some (.lst σ₁.length, σ₂) := bs h1 (bs h2 (ifp h3 (bs h4 rfl)))
theorem n_asg {i : Nat} {e : X} {v : V} (h : (ev FT n).e e ρ σ = some (v, σ₁)) : (ev FT (n + 1)).s (.asg i e p p2) ρ σ = some (.nx, put ρ i v, σ₁) := bs h rfl
theorem n_app {i k : Nat} {e : X} {v : V} {x : List V} (h : get ρ i = some (.lst k)) (h1 : (ev FT n).e e ρ σ = some (v, σ₁)) (h2 : σ₁[k]? = some x) (h3 : x.length ≤ 1000) : (ev FT (n + 1)).s (.app i e p p2 p3 p4) ρ σ = some (.nx, ρ, σ₁.set k (x ++ [v])) := bs h (bs h1 (bs h2 (ifp h3 rfl)))
theorem n_ret {e : X} {v : V} (h : (ev FT n).e e ρ σ = some (v, σ₁)) : (ev FT (n + 1)).s (.ret e p) ρ σ = some (.rt v, ρ, σ₁) := bs h rfl
theorem n_ite_f {t : X} {b o : S} {r : Fl × Rho × St} (h : (ev FT n).t t ρ σ = some (false, σ₁)) (h2 : (ev FT n).s o ρ σ₁ = some r) : (ev FT (n + 1)).s (.ite t b o p) ρ σ = some r := bs h h2
end
/-- a comprehension's turns -/
theorem loopC_gen {elt : Rho → St → Option (V × St)} {test : Rho → St → Option (Bool × St)} {t L : Nat} {ρc : Rho} {σ : St} {xs : List V} {g : V → V} {p : V → Bool} (hL : σ[L]? = some xs) (hlen : xs.length ≤ 1000)
    (hT : ∀ v acc, v ∈ xs → test (put ρc t v) (σ ++ [acc]) = some (p v, σ ++ [acc])) (hE : ∀ v acc, v ∈ xs → elt (put ρc t v) (σ ++ [acc]) = some (g v, σ ++ [acc])) :
    ∀ (f i : Nat) (acc : List V), i + f = xs.length + 1 → acc.length ≤ i → i ≤ xs.length → loopC (·[L]?) elt test t ρc σ.length f i (σ ++ [acc]) = some (σ ++ [acc ++ ((xs.drop i).filter p).map g])
  | 0, i, acc, h, _, hi => absurd hi (by rw [show i = xs.length + 1 from h]; exact Nat.not_succ_le_self _)
  | f + 1, i, acc, h, ha, hi => by
    have e0 : (σ ++ [acc])[L]? = some xs := by rw [List.getElem?_append_left (List.getElem?_eq_some_iff.mp hL).1]; exact hL
    have hn : i + 1 + f = xs.length + 1 := by rw [Nat.add_assoc, Nat.add_comm 1 f]; exact h
    refine bs e0 ?_
    rcases Nat.lt_or_eq_of_le hi with q | q
    · rw [List.getElem?_eq_getElem q]
      have hm : xs[i] ∈ xs := List.getElem_mem q
      refine bs (hT _ acc hm) ?_
      rw [List.drop_eq_getElem_cons q, List.filter_cons]
      cases hp : p xs[i] with
      | false => exact loopC_gen hL hlen hT hE f (i + 1) acc hn (Nat.le_succ_of_le ha) q
      | true =>
        refine bs (hE _ acc hm) (bs List.getElem?_concat_length (ifp (Nat.le_trans ha (Nat.le_trans hi hlen)) ?_))
        have es : (σ ++ [acc]).set σ.length (acc ++ [g xs[i]]) = σ ++ [acc ++ [g xs[i]]] := by rw [List.set_append_right _ _ (Nat.le_refl _), Nat.sub_self]; rfl
        show loopC _ _ _ _ _ _ f (i + 1) ((σ ++ [acc]).set σ.length (acc ++ [g xs[i]])) = _
        rw [es, loopC_gen hL hlen hT hE f (i + 1) (acc ++ [g xs[i]]) hn (by rw [List.length_append]; exact Nat.succ_le_succ ha) q, if_pos rfl, List.map_cons, List.append_assoc]
        rfl
    · rw [List.getElem?_eq_none (Nat.le_of_eq q.symm), List.drop_eq_nil_of_le (Nat.le_of_eq q.symm)]
      show some (σ ++ [acc]) = some (σ ++ [acc ++ []])
      rw [List.append_nil]
theorem f_true (x : List V) : x.filter (fun _ => true) = x := List.filter_eq_self.mpr fun _ _ => rfl
theorem n_map {n : Nat} {ρ : Rho} {σ σ₁ : St} {p p2 : Pos} {elt it : X} {t : Nat} {fv : List Nat} {sc : Scope} {k : Nat} {x : List V} {g : V → V} (h1 : (ev FT n).e it ρ σ = some (.lst k, σ₁)) (h2 : σ₁[k]? = some x) (h3 : x.length ≤ 1000)
    (h4 : ∀ v acc, v ∈ x → (ev FT n).e elt (put (compRho ρ fv ρ.length) t v) (σ₁ ++ [acc]) = some (g v, σ₁ ++ [acc])) : (ev FT (n + 1)).e (.comp elt t p it fv sc p2) ρ σ = some (.lst σ₁.length, σ₁ ++ [x.map g]) :=
  n_comp h1 h2 h3 ((loopC_gen (p := fun _ => true) h2 h3 (fun _ _ _ => rfl) h4 (x.length + 1) 0 [] (Nat.zero_add _) (Nat.le_refl _) (Nat.zero_le _)).trans (by rw [List.drop_zero, f_true]; rfl))
end Mine
end

section
set_option maxRecDepth 100000
set_option autoImplicit false
namespace Mine
open PySem
noncomputable def stepW (b h : UInt64) : UInt64 := way 0x3ff0000000000000 0x3ff0000000000000 b h
noncomputable def startW (s : Int) : UInt64 := Float64.div (Float64.ofInt s) 0x4030000000000000
noncomputable def okStart (s : Nat) : Bool := (List.range 16).all fun p => (hueOf p).all fun h => fin (stepW (startW s) h) && rank (stepW (startW s) h) == ((2 * ((p + 16 - s) % 16) + 1 : Nat) : Int)
noncomputable def okHue (q : Nat) : Bool := (hueOf q).all fun b => (List.range 16).all fun p => (hueOf p).all fun h => (p == q && b != h) || (fin (stepW b h) && rank (stepW b h) == ((2 * ((p + 15 - q) % 16) + 2 : Nat) : Int))
noncomputable def okRead (p : Nat) : Bool := (hueOf p).all fun h => match Float64.decode (Float64.add (Float64.mul h (Float64.ofInt 1000000)) 0x3fe0000000000000) with
  | .fin s m e => Float64.truncOf s m e == (2 * (p : Int) + 1) * 31250
  | _ => false
theorem st0 : okStart 0 = true := by decide +kernel
theorem hu0 : okHue 0 = true := by decide +kernel
theorem re0 : okRead 0 = true := by decide +kernel
theorem st1 : okStart 1 = true := by decide +kernel
theorem hu1 : okHue 1 = true := by decide +kernel
theorem re1 : okRead 1 = true := by decide +kernel
theorem st2 : okStart 2 = true := by decide +kernel
theorem hu2 : okHue 2 = true := by decide +kernel
theorem re2 : okRead 2 = true := by decide +kernel
theorem st3 : okStart 3 = true := by decide +kernel
theorem hu3 : okHue 3 = true := by decide +kernel
theorem re3 : okRead 3 = true := by decide +kernel
theorem st4 : okStart 4 = true := by decide +kernel
theorem hu4 : okHue 4 = true := by decide +kernel
theorem re4 : okRead 4 = true := by decide +kernel
theorem st5 : okStart 5 = true := by decide +kernel
theorem hu5 : okHue 5 = true := by decide +kernel
theorem re5 : okRead 5 = true := by decide +kernel
theorem st6 : okStart 6 = true := by decide +kernel
theorem hu6 : okHue 6 = true := by decide +kernel
theorem re6 : okRead 6 = true := by decide +kernel
theorem st7 : okStart 7 = true := by decide +kernel
theorem hu7 : okHue 7 = true := by decide +kernel
theorem re7 : okRead 7 = true := by decide +kernel
theorem st8 : okStart 8 = true := by decide +kernel
theorem hu8 : okHue 8 = true := by decide +kernel
theorem re8 : okRead 8 = true := by decide +kernel
theorem st9 : okStart 9 = true := by decide +kernel
theorem hu9 : okHue 9 = true := by decide +kernel
theorem re9 : okRead 9 = true := by decide +kernel
theorem st10 : okStart 10 = true := by decide +kernel
theorem hu10 : okHue 10 = true := by decide +kernel
theorem re10 : okRead 10 = true := by decide +kernel
theorem st11 : okStart 11 = true := by decide +kernel
theorem hu11 : okHue 11 = true := by decide +kernel
theorem re11 : okRead 11 = true := by decide +kernel
theorem st12 : okStart 12 = true := by decide +kernel
theorem hu12 : okHue 12 = true := by decide +kernel
theorem re12 : okRead 12 = true := by decide +kernel
theorem st13 : okStart 13 = true := by decide +kernel
theorem hu13 : okHue 13 = true := by decide +kernel
theorem re13 : okRead 13 = true := by decide +kernel
theorem st14 : okStart 14 = true := by decide +kernel
theorem hu14 : okHue 14 = true := by decide +kernel
theorem re14 : okRead 14 = true := by decide +kernel
theorem st15 : okStart 15 = true := by decide +kernel
theorem hu15 : okHue 15 = true := by decide +kernel
theorem re15 : okRead 15 = true := by decide +kernel
theorem st_all (p : Nat) (hp : p < 16) : okStart p = true := by
  match p, hp with
  | 0, _ => exact st0
  | 1, _ => exact st1
  | 2, _ => exact st2
  | 3, _ => exact st3
  | 4, _ => exact st4
  | 5, _ => exact st5
  | 6, _ => exact st6
  | 7, _ => exact st7
  | 8, _ => exact st8
  | 9, _ => exact st9
  | 10, _ => exact st10
  | 11, _ => exact st11
  | 12, _ => exact st12
  | 13, _ => exact st13
  | 14, _ => exact st14
  | 15, _ => exact st15
  | n + 16, h => omega
theorem hu_all (p : Nat) (hp : p < 16) : okHue p = true := by
  match p, hp with
  | 0, _ => exact hu0
  | 1, _ => exact hu1
  | 2, _ => exact hu2
  | 3, _ => exact hu3
  | 4, _ => exact hu4
  | 5, _ => exact hu5
  | 6, _ => exact hu6
  | 7, _ => exact hu7
  | 8, _ => exact hu8
  | 9, _ => exact hu9
  | 10, _ => exact hu10
  | 11, _ => exact hu11
  | 12, _ => exact hu12
  | 13, _ => exact hu13
  | 14, _ => exact hu14
  | 15, _ => exact hu15
  | n + 16, h => omega
theorem re_all (p : Nat) (hp : p < 16) : okRead p = true := by
  match p, hp with
  | 0, _ => exact re0
  | 1, _ => exact re1
  | 2, _ => exact re2
  | 3, _ => exact re3
  | 4, _ => exact re4
  | 5, _ => exact re5
  | 6, _ => exact re6
  | 7, _ => exact re7
  | 8, _ => exact re8
  | 9, _ => exact re9
  | 10, _ => exact re10
  | 11, _ => exact re11
  | 12, _ => exact re12
  | 13, _ => exact re13
  | 14, _ => exact re14
  | 15, _ => exact re15
  | n + 16, h => omega
theorem way_start {s p : Nat} {h : UInt64} (hs : s < 16) (hp : p < 16) (hh : h ∈ hueOf p) : fin (stepW (startW s) h) = true ∧ rank (stepW (startW s) h) = ((2 * ((p + 16 - s) % 16) + 1 : Nat) : Int) := by
  have H := st_all s hs
  unfold okStart at H
  have H := List.all_eq_true.mp (List.all_eq_true.mp H p (List.mem_range.mpr hp)) h hh
  simp only [Bool.and_eq_true, beq_iff_eq] at H
  exact H
theorem way_hue {q p : Nat} {b h : UInt64} (hq : q < 16) (hp : p < 16) (hb : b ∈ hueOf q) (hh : h ∈ hueOf p) (e : p = q → b = h) : fin (stepW b h) = true ∧ rank (stepW b h) = ((2 * ((p + 15 - q) % 16) + 2 : Nat) : Int) := by
  have H := hu_all q hq
  unfold okHue at H
  have H := List.all_eq_true.mp (List.all_eq_true.mp (List.all_eq_true.mp H b hb) p (List.mem_range.mpr hp)) h hh
  simp only [Bool.or_eq_true, Bool.and_eq_true, beq_iff_eq, bne_iff_ne] at H
  rcases H with H | H
  · exact absurd (e H.1) H.2
  · exact H
theorem hue_read {p : Nat} {h : UInt64} (hp : p < 16) (hh : h ∈ hueOf p) : ∃ s m e, Float64.decode (Float64.add (Float64.mul h (Float64.ofInt 1000000)) 0x3fe0000000000000) = .fin s m e ∧ Float64.truncOf s m e = (2 * (p : Int) + 1) * 31250 := by
  have H := re_all p hp
  unfold okRead at H
  have H := List.all_eq_true.mp H h hh
  split at H
  · rename_i s m e q
    exact ⟨s, m, e, q, by simpa using H⟩
  · cases H
end Mine
end

section
set_option maxRecDepth 100000
set_option autoImplicit false
namespace Mine
open PySem
noncomputable def hv (l : List UInt64) : List V := l.map .flt
theorem floatsOf_hv : ∀ l : List UInt64, floatsOf (hv l) = some l
  | [] => rfl
  | w :: r => by
    show (fltOf (.flt w)).bind (fun n => (floatsOf (hv r)).bind fun q => some (n :: q)) = _
    exact bs (x := fltOf (.flt w)) rfl (bs (floatsOf_hv r) rfl)
theorem hv_ok (n : Nat) (l : List UInt64) : ((hv l).all fun v => okV n (some v)) = true := by
  refine List.all_eq_true.mpr fun v hv' => ?_
  obtain ⟨w, _, rfl⟩ := List.mem_map.mp hv'
  rfl
theorem iv_ok (n : Nat) (l : List Int) : ((l.map V.int).all fun v => okV n (some v)) = true := by
  refine List.all_eq_true.mpr fun v hv' => ?_
  obtain ⟨w, _, rfl⟩ := List.mem_map.mp hv'
  rfl
noncomputable def outer7 : S := inFor (nthS body7 3)
noncomputable def near7 : S := inFor (nthS outer7 0)
theorem near_step {n L : Nat} {ρ : Rho} {σ : St} {b : UInt64} {x : List UInt64} {y m : UInt64 × UInt64} {ys : List (UInt64 × UInt64)} (h4 : get ρ 4 = some (.flt b)) (h3 : get ρ 3 = some (.lst L)) (hx : σ[L]? = some (hv x)) (hlen : x.length ≤ 1000)
    (hw : x.map (fun h => (stepW b h, h)) = y :: ys) (hm : nearest y ys = some m) :
    (ev FT (n + 2)).s near7 ρ σ = some (.nx, put (put ρ 7 (.lst σ.length)) 4 (.flt m.2), σ ++ [(y :: ys).map fun z => .tup [.f z.1, .f z.2]]) := by
  show stepS (ev FT (n + 1)) near7 ρ σ = _
  have e : near7 = .near 8 4 3 7 0x3ff0000000000000 0x3ff0000000000000 [4] { kind := .function, names := [(Str.ofString ".0", .local), (Str.ofString "hue", .local), (Str.ofString "here", .free)], isGenerator := false, isCoroutine := false, more := [] } (match near7 with | .near _ _ _ _ _ _ _ _ ps _ => ps | _ => fun _ => default) .nil := by rfl
  rw [e]
  refine bs h4 (bs h3 (bs hx (bs (floatsOf_hv x) ?_)))
  rw [show (x.map fun h => (way 0x3ff0000000000000 0x3ff0000000000000 b h, h)) = y :: ys from hw]
  exact ifp ⟨hlen, by decide +kernel⟩ (bs hm rfl)
end Mine
end

section
set_option maxRecDepth 100000
set_option autoImplicit false
namespace Mine
open PySem
noncomputable def R7 (s : Int) (L : Nat) (b : UInt64) (lamp : Option V) : Rho := [some (.lst 0), some (.int s), some (.lst 1), some (.lst L), some (.flt b), lamp, none, none, none]
theorem near_turn {n L : Nat} {σ : St} {s j : Int} {b lw : UInt64} {x : List UInt64} {y m : UInt64 × UInt64} {ys : List (UInt64 × UInt64)} (hx : σ[L]? = some (hv x)) (hlen : x.length ≤ 1000)
    (hw : x.map (fun h => (stepW b h, h)) = y :: ys) (hm : nearest y ys = some m) (hok : (σ.all fun l => l.all fun v => okV σ.length (some v)) = true) (h2 : 1 < σ.length) :
    turnF ((ev FT (n + 2)).s near7) σ.length [6, 7] none (put (R7 s L b (some (.flt lw))) 6 (.int j)) σ = some (R7 s L m.2 (some (.flt lw)), σ) := by
  have hL : L < σ.length := (List.getElem?_eq_some_iff.mp hx).1
  unfold turnF
  rw [near_step (ρ := put (R7 s L b (some (.flt lw))) 6 (.int j)) (b := b) (L := L) rfl rfl hx hlen hw hm]
  show trim σ.length [some (.lst 0), some (.int s), some (.lst 1), some (.lst L), some (.flt m.2), some (.flt lw), none, none, none] (σ ++ [(y :: ys).map fun z => .tup [.f z.1, .f z.2]]) = _
  unfold trim
  have e : (σ ++ [(y :: ys).map fun z => V.tup [.f z.1, .f z.2]]).take σ.length = σ := by simp
  rw [e]
  have h0 : 0 < σ.length := by omega
  have e2 : ([some (.lst 0), some (.int s), some (.lst 1), some (.lst L), some (.flt m.2), some (.flt lw), none, none, none] : Rho).all (okV σ.length) = true := by
    simp [okV, h0, h2, hL]
  rw [e2, hok]
  rfl
theorem s_forR {n i : Nat} {as : X} {b : S} {kill : List Nat} {pf pc pn p : Pos} {hi : Int} {ρ : Rho} {σ σ₁ : St} (h1 : (ev FT n).l as ρ σ = some ([.int hi], σ₁)) (h2 : small hi = true) :
    (ev FT (n + 1)).s (.forR i as b kill pf pc pn p) ρ σ = loopF (fun _ => some (upFrom 0 hi)) ((ev FT n).s b) i σ₁.length kill none ((upFrom 0 hi).length + 1) 0 ρ σ₁ := by
  refine bs h1 (bs (x := rangeOf [.int hi]) rfl (ifp ?_ rfl))
  show (true && small hi) = true
  rw [h2]; rfl
theorem two_turns {n L : Nat} {σ : St} {s : Int} {b lw : UInt64} {x : List UInt64} {y m y' m' : UInt64 × UInt64} {ys ys' : List (UInt64 × UInt64)} (hx : σ[L]? = some (hv x)) (hlen : x.length ≤ 1000)
    (hw : x.map (fun h => (stepW b h, h)) = y :: ys) (hm : nearest y ys = some m) (hw' : x.map (fun h => (stepW m.2 h, h)) = y' :: ys') (hm' : nearest y' ys' = some m')
    (hok : (σ.all fun l => l.all fun v => okV σ.length (some v)) = true) (h2 : 1 < σ.length) :
    (ev FT (n + 3)).s (nthS outer7 0) (R7 s L b (some (.flt lw))) σ = some (.nx, R7 s L m'.2 (some (.flt lw)), σ) := by
  have hl : (ev FT (n + 2)).l (.cons (.k (.int 2) ⟨145, 26, 145, 27⟩) .nil) (R7 s L b (some (.flt lw))) σ = some ([.int 2], σ) := by rfl
  refine (s_forR (n := n + 2) (σ₁ := σ) hl (by decide)).trans ?_
  show loopF (fun _ => some (upFrom 0 2)) ((ev FT (n + 2)).s near7) 6 σ.length [6, 7] none 3 0 (R7 s L b (some (.flt lw))) σ = _
  refine (loopF_turn (x := upFrom 0 2) (v := .int 0) rfl rfl (near_turn hx hlen hw hm hok h2)).trans ?_
  refine (loopF_turn (x := upFrom 0 2) (v := .int 1) rfl rfl (near_turn hx hlen hw' hm' hok h2)).trans ?_
  exact loopF_end (x := upFrom 0 2) rfl rfl
end Mine
end

section
set_option maxRecDepth 100000
set_option autoImplicit false
namespace Mine
open PySem
end Mine
end

section
set_option maxRecDepth 100000
set_option autoImplicit false
namespace Mine
open PySem
noncomputable def fne (b h : UInt64) : Bool := Float64.cmp h b != some .eq
theorem e_succ (n : Nat) (x : X) (ρ : Rho) (σ : St) : (ev FT (n + 1)).e x ρ σ = stepE (ev FT n) x ρ σ := rfl
theorem l_succ (n : Nat) (x : X) (ρ : Rho) (σ : St) : (ev FT (n + 1)).l x ρ σ = stepL (ev FT n) x ρ σ := rfl
theorem t_succ (n : Nat) (x : X) (ρ : Rho) (σ : St) : (ev FT (n + 1)).t x ρ σ = stepT (ev FT n) x ρ σ := rfl
theorem s_succ (n : Nat) (x : S) (ρ : Rho) (σ : St) : (ev FT (n + 1)).s x ρ σ = stepS (ev FT n) x ρ σ := rfl
theorem int_fin {σ : St} {w : UInt64} {sg : Bool} {m : Nat} {e : Int} (hd : Float64.decode w = .fin sg m e) : bicall .int [.flt w] σ = some (.int (Float64.truncOf sg m e), σ) := by
  show (match Float64.decode w with
    | .fin s m e => some (V.int (Float64.truncOf s m e), σ)
    | _ => none) = _
  rw [hd]
theorem read_e {n : Nat} {ρ : Rho} {σ : St} {b : UInt64} {sg : Bool} {m : Nat} {e : Int} (h4 : get ρ 4 = some (.flt b)) (hd : Float64.decode (Float64.add (Float64.mul b (Float64.ofInt 1000000)) 0x3fe0000000000000) = .fin sg m e) {p1 p2 p3 p4 p5 p6 p7 : Pos} :
    (ev FT (n + 6)).e (.bi .int (.cons (.bin (.bin (.v 4 p1) .Mult (.k (.int 1000000) p2) p3) .Add (.k (.float 0x3fe0000000000000) p4) p5) .nil) p6 p7) ρ σ = some (.int (Float64.truncOf sg m e), σ) := by
  exact n_bi (n := n + 5) (n_cons (n := n + 4) (n_bin (n := n + 3) (n_bin (n := n + 2) (n_v (n := n + 1) h4) (n_k (n := n + 1) (v := .int 1000000) rfl) (r := (.flt (Float64.mul b (Float64.ofInt 1000000)), σ)) rfl) (n_k (n := n + 2) (v := .flt 0x3fe0000000000000) rfl) (r := (.flt (Float64.add (Float64.mul b (Float64.ofInt 1000000)) 0x3fe0000000000000), σ)) rfl) (n_nil (n := n + 3))) (int_fin hd)
end Mine
end

section
set_option maxRecDepth 100000
set_option autoImplicit false
namespace Mine
open PySem
theorem filter_hv (b : UInt64) : ∀ x : List UInt64, (hv x).filter (fun v => match v with | .flt w => fne b w | _ => false) = hv (x.filter (fne b))
  | [] => rfl
  | w :: r => by
    have ih := filter_hv b r
    unfold hv at ih ⊢
    rw [List.map_cons, List.filter_cons, List.filter_cons, ih]
    by_cases q : fne b w = true
    · rw [if_pos q, if_pos q]; rfl
    · rw [if_neg q, if_neg q]
theorem drop_comp {n L : Nat} {σ : St} {s : Int} {b : UInt64} {lamp : Option V} {x : List UInt64} (hx : σ[L]? = some (hv x)) (hlen : x.length ≤ 1000) {pe p1 p2 p3 p4 p5 p6 : Pos} {sc : Scope} :
    (ev FT (n + 4)).e (.compIf (.v 8 p1) 8 p2 (.v 3 p3) (.cmp (.v 8 p4) .NotEq (.v 4 p5) p6) [4] sc pe) (R7 s L b lamp) σ = some (.lst σ.length, σ ++ [hv (x.filter (fne b))]) := by
  rw [e_succ]
  show compEval (ev FT (n + 3)) (.v 8 p1) 8 (.v 3 p3) ((ev FT (n + 3)).t (.cmp (.v 8 p4) .NotEq (.v 4 p5) p6)) [4] (R7 s L b lamp) σ = _
  unfold compEval
  have hlen' : (hv x).length ≤ 1000 := by unfold hv; rw [List.length_map]; exact hlen
  have key := loopC_gen (g := fun v => v) (elt := (ev FT (n + 3)).e (.v 8 p1)) (test := (ev FT (n + 3)).t (.cmp (.v 8 p4) .NotEq (.v 4 p5) p6)) (t := 8) (ρc := compRho (R7 s L b lamp) [4] (R7 s L b lamp).length)
    (p := fun v => match v with | .flt w => fne b w | _ => false) hx hlen' (fun v acc hv' => by
      obtain ⟨w, _, rfl⟩ := List.mem_map.mp hv'
      exact n_tcmp (n := n + 2) (n_v (n := n + 1) (v := .flt w) (by kernel_rfl)) (n_v (n := n + 1) (v := .flt b) (by kernel_rfl)) rfl) (fun v acc hv' => by rfl) ((hv x).length + 1) 0 [] (Nat.zero_add _) (Nat.le_refl _) (Nat.zero_le _)
  rw [List.drop_zero, List.nil_append, filter_hv, List.map_id'] at key
  exact bs (x := (ev FT (n + 3)).e (.v 3 p3) (R7 s L b lamp) σ) rfl (bs hx (ifp hlen' (bs key rfl)))
end Mine
end

section
set_option maxRecDepth 100000
set_option autoImplicit false
namespace Mine
open PySem
theorem outer_turn {n L : Nat} {s r : Int} {b lw : UInt64} {x hs : List UInt64} {ord : List Int} {rest : St} {y m y' m' : UInt64 × UInt64} {ys ys' : List (UInt64 × UInt64)} {sg : Bool} {mm : Nat} {ex : Int}
    (hx : (hv hs :: ord.map V.int :: rest)[L]? = some (hv x)) (hlen : x.length ≤ 1000) (hol : ord.length ≤ 1000)
    (hw : x.map (fun h => (stepW b h, h)) = y :: ys) (hm : nearest y ys = some m) (hw' : x.map (fun h => (stepW m.2 h, h)) = y' :: ys') (hm' : nearest y' ys' = some m')
    (hok : ((hv hs :: ord.map V.int :: rest).all fun l => l.all fun v => okV (hv hs :: ord.map V.int :: rest).length (some v)) = true)
    (hd : Float64.decode (Float64.add (Float64.mul m'.2 (Float64.ofInt 1000000)) 0x3fe0000000000000) = .fin sg mm ex) (hr : Float64.truncOf sg mm ex = r) (hL : L ≠ 1) :
    turnF ((ev FT (n + 10)).s outer7) 2 [5, 6, 7] (some 3) (R7 s L b (some (.flt lw))) (hv hs :: ord.map V.int :: rest) = some (R7 s 2 m'.2 none, [hv hs, (ord ++ [r]).map V.int, hv (x.filter (fne m'.2))]) := by
  have e0 : outer7 = .cons (nthS outer7 0) (.cons (nthS outer7 1) (.cons (nthS outer7 2) .nil)) := by rfl
  have h0 : (ev FT (n + 9)).s (nthS outer7 0) (R7 s L b (some (.flt lw))) (hv hs :: ord.map V.int :: rest) = some (.nx, R7 s L m'.2 (some (.flt lw)), hv hs :: ord.map V.int :: rest) :=
    two_turns (n := n + 6) hx hlen hw hm hw' hm' hok (by simp)
  have h1 : (ev FT (n + 8)).s (nthS outer7 1) (R7 s L m'.2 (some (.flt lw))) (hv hs :: ord.map V.int :: rest) = some (.nx, R7 s L m'.2 (some (.flt lw)), hv hs :: (ord ++ [r]).map V.int :: rest) := by
    have hread := read_e (n := n + 1) (ρ := R7 s L m'.2 (some (.flt lw))) (σ := hv hs :: ord.map V.int :: rest) (b := m'.2) rfl hd (p1 := ⟨148, 25, 148, 29⟩) (p2 := ⟨148, 32, 148, 39⟩) (p3 := ⟨148, 25, 148, 39⟩) (p4 := ⟨148, 42, 148, 45⟩) (p5 := ⟨148, 25, 148, 45⟩) (p6 := ⟨148, 21, 148, 24⟩) (p7 := ⟨148, 21, 148, 46⟩)
    have hg : get (R7 s L m'.2 (some (.flt lw))) 2 = some (.lst 1) := rfl
    have es : nthS outer7 1 = .app 2 (.bi .int (.cons (.bin (.bin (.v 4 ⟨148, 25, 148, 29⟩) .Mult (.k (.int 1000000) ⟨148, 32, 148, 39⟩) ⟨148, 25, 148, 39⟩) .Add (.k (.float 0x3fe0000000000000) ⟨148, 42, 148, 45⟩) ⟨148, 25, 148, 45⟩) .nil) ⟨148, 21, 148, 24⟩ ⟨148, 21, 148, 46⟩) ⟨148, 8, 148, 13⟩ ⟨148, 8, 148, 20⟩ ⟨148, 8, 148, 47⟩ ⟨148, 8, 148, 47⟩ := by rfl
    have e2 : (hv hs :: ord.map V.int :: rest).set 1 (ord.map V.int ++ [.int (Float64.truncOf sg mm ex)]) = hv hs :: (ord ++ [r]).map V.int :: rest := by
      rw [hr, List.map_append]; rfl
    rw [es, ← e2]
    exact n_app (n := n + 7) hg hread rfl (by rw [List.length_map]; exact hol)
  have hx1 : (hv hs :: (ord ++ [r]).map V.int :: rest)[L]? = some (hv x) := by
    match L, hL, hx with
    | 0, _, hx => exact hx
    | k + 2, _, hx => exact hx
  have h2 : (ev FT (n + 7)).s (nthS outer7 2) (R7 s L m'.2 (some (.flt lw))) (hv hs :: (ord ++ [r]).map V.int :: rest) = some (.nx, put (R7 s L m'.2 (some (.flt lw))) 3 (.lst (rest.length + 2)), (hv hs :: (ord ++ [r]).map V.int :: rest) ++ [hv (x.filter (fne m'.2))]) := by
    have hc := drop_comp (n := n + 2) (L := L) (σ := hv hs :: (ord ++ [r]).map V.int :: rest) (s := s) (b := m'.2) (lamp := some (.flt lw)) hx1 hlen (pe := ⟨149, 14, 149, 49⟩) (p1 := ⟨149, 15, 149, 18⟩) (p2 := ⟨149, 23, 149, 26⟩) (p3 := ⟨149, 30, 149, 33⟩) (p4 := ⟨149, 37, 149, 40⟩) (p5 := ⟨149, 44, 149, 48⟩) (p6 := ⟨149, 37, 149, 48⟩)
      (sc := { kind := .function, names := [(Str.ofString ".0", .local), (Str.ofString "hue", .local), (Str.ofString "here", .free)], isGenerator := false, isCoroutine := false, more := [] })
    have es : nthS outer7 2 = .asg 3 (.compIf (.v 8 ⟨149, 15, 149, 18⟩) 8 ⟨149, 23, 149, 26⟩ (.v 3 ⟨149, 30, 149, 33⟩) (.cmp (.v 8 ⟨149, 37, 149, 40⟩) .NotEq (.v 4 ⟨149, 44, 149, 48⟩) ⟨149, 37, 149, 48⟩) [4] { kind := .function, names := [(Str.ofString ".0", .local), (Str.ofString "hue", .local), (Str.ofString "here", .free)], isGenerator := false, isCoroutine := false, more := [] } ⟨149, 14, 149, 49⟩) ⟨149, 8, 149, 11⟩ ⟨149, 8, 149, 49⟩ := by rfl
    rw [es]
    exact n_asg (n := n + 6) hc
  have hb : (ev FT (n + 10)).s outer7 (R7 s L b (some (.flt lw))) (hv hs :: ord.map V.int :: rest) = some (.nx, put (R7 s L m'.2 (some (.flt lw))) 3 (.lst (rest.length + 2)), (hv hs :: (ord ++ [r]).map V.int :: rest) ++ [hv (x.filter (fne m'.2))]) := by
    rw [e0]
    exact (s_nx (n := n + 9) h0).trans ((s_nx (n := n + 8) h1).trans ((s_nx (n := n + 7) h2).trans rfl))
  unfold turnF
  rw [hb]
  show trimC 2 (some 3) [some (.lst 0), some (.int s), some (.lst 1), some (.lst (rest.length + 2)), some (.flt m'.2), none, none, none, none] (hv hs :: (ord ++ [r]).map V.int :: (rest ++ [hv (x.filter (fne m'.2))])) = _
  have hg : get [some (.lst 0), some (.int s), some (.lst 1), some (.lst (rest.length + 2)), some (.flt m'.2), none, none, none, none] 3 = some (.lst (rest.length + 2)) := rfl
  unfold trimC
  simp only [hg]
  rw [if_pos (by omega)]
  unfold carry
  have hk : (hv hs :: (ord ++ [r]).map V.int :: (rest ++ [hv (x.filter (fne m'.2))]))[rest.length + 2]? = some (hv (x.filter (fne m'.2))) := by simp
  rw [hk]
  simp only [Option.bind_eq_bind, Option.bind_some]
  have e2 : ((hv hs :: (ord ++ [r]).map V.int :: (rest ++ [hv (x.filter (fne m'.2))])).take 2).all (fun l => l.all fun v => okV 2 (some v)) = true := by
    show (((hv hs).all fun v => okV 2 (some v)) && ((((ord ++ [r]).map V.int).all fun v => okV 2 (some v)) && true)) = true
    rw [hv_ok, iv_ok]; rfl
  rw [e2, hv_ok]
  rfl
end Mine
end

section
set_option maxRecDepth 100000
set_option autoImplicit false
namespace Mine
open PySem
/-- the order in which the lamps go out, two moves each -/
noncomputable def J {α : Type} : Nat → List α → List α
  | 0, _ => []
  | _ + 1, [] => []
  | _ + 1, [a] => [a]
  | n + 1, a :: b :: t => b :: J n (t ++ [a])
theorem J_map {α β : Type} (f : α → β) : ∀ (n : Nat) (l : List α), J n (l.map f) = (J n l).map f
  | 0, _ => by simp [J]
  | n + 1, [] => rfl
  | n + 1, [a] => rfl
  | n + 1, a :: b :: t => by
    have := J_map f n (t ++ [a])
    simp only [List.map_append, List.map_cons, List.map_nil] at this
    simp only [List.map_cons, J, this]
noncomputable def okSelf (p : Nat) : Bool := (hueOf p).all fun h => fin h && rank h == ((2 * p + 1 : Nat) : Int)
theorem self_all : ((List.range 16).all okSelf) = true := by decide +kernel
theorem self_ok {p : Nat} {h : UInt64} (hp : p < 16) (hh : h ∈ hueOf p) : fin h = true ∧ rank h = ((2 * p + 1 : Nat) : Int) := by
  have H := List.all_eq_true.mp self_all p (List.mem_range.mpr hp)
  unfold okSelf at H
  have H := List.all_eq_true.mp H h hh
  simp only [Bool.and_eq_true, beq_iff_eq] at H
  exact H
theorem fne_ok {p q : Nat} {h b : UInt64} (hp : p < 16) (hq : q < 16) (hh : h ∈ hueOf p) (hb : b ∈ hueOf q) (e : p ≠ q) : fne b h = true := by
  obtain ⟨f1, r1⟩ := self_ok hp hh
  obtain ⟨f2, r2⟩ := self_ok hq hb
  have := fEq_rank f1 f2 (by rw [r1, r2]; omega)
  unfold fEq at this
  unfold fne
  rw [bne, this]; rfl
theorem fne_self {p : Nat} {h : UInt64} (hp : p < 16) (hh : h ∈ hueOf p) : fne h h = false := by
  obtain ⟨f1, _⟩ := self_ok hp hh
  unfold fne
  rw [cmp_fin f1 f1]
  simp
end Mine
end

section
set_option maxRecDepth 100000
set_option autoImplicit false
namespace Mine
open PySem
/-- how far ahead of u a place lies -/
noncomputable def dist (u p : Nat) : Nat := (p + 16 - u) % 16
/-- the lamps still lit, in the order in which the hand at b meets them -/
structure Ring (u : Nat) (b : UInt64) (cl : List (Nat × UInt64)) : Prop where
  pl : ∀ c, c ∈ cl → c.1 < 16 ∧ c.2 ∈ hueOf c.1
  ord : cl.Pairwise fun a c => dist u a.1 < dist u c.1
  rk : ∃ k : Nat, ∀ c, c ∈ cl → fin (stepW b c.2) = true ∧ rank (stepW b c.2) = ((2 * dist u c.1 + k : Nat) : Int)
theorem dist_move {u q p : Nat} (hu : u ≤ 16) (hq : q < 16) (hp : p < 16) (h : dist u q < dist u p) : dist (q + 1) p + (dist u q + 1) = dist u p := by
  unfold dist at *
  omega
theorem dist_self {q : Nat} (hq : q < 16) : dist (q + 1) q = 15 := by
  unfold dist
  omega
theorem dist_le (u p : Nat) : dist u p ≤ 15 := Nat.le_of_lt_succ (Nat.mod_lt _ (by decide))
theorem Ring.move {u : Nat} {b : UInt64} {a : Nat × UInt64} {t : List (Nat × UInt64)} (hu : u ≤ 16) (R : Ring u b (a :: t)) : Ring (a.1 + 1) a.2 (t ++ [a]) := by
  obtain ⟨ha1, ha2⟩ := R.pl a (.head _)
  obtain ⟨o1, o2⟩ := List.pairwise_cons.mp R.ord
  have hmem : ∀ c, c ∈ t ++ [a] → c ∈ a :: t := fun c hc => by
    rcases List.mem_append.mp hc with h | h
    · exact .tail _ h
    · rw [List.mem_singleton] at h; subst h; exact .head _
  refine ⟨fun c hc => R.pl c (hmem c hc), ?_, 2, fun c hc => ?_⟩
  · refine List.pairwise_append.mpr ⟨?_, List.pairwise_singleton _ _, fun c hc d hd => ?_⟩
    · refine (List.pairwise_iff_forall_sublist.mpr fun {c d} hs => ?_)
      have hc : c ∈ t := hs.subset (.head _)
      have hd : d ∈ t := hs.subset (.tail _ (.head _))
      have h3 : dist u c.1 < dist u d.1 := List.pairwise_iff_forall_sublist.mp o2 hs
      rw [← dist_move hu ha1 (R.pl c (.tail _ hc)).1 (o1 c hc), ← dist_move hu ha1 (R.pl d (.tail _ hd)).1 (o1 d hd)] at h3
      exact Nat.lt_of_add_lt_add_right h3
    · rw [List.mem_singleton] at hd; subst hd
      have h1 := dist_move hu ha1 (R.pl c (.tail _ hc)).1 (o1 c hc)
      have h2 := dist_le u c.1
      rw [dist_self ha1]
      omega
  · have hc' := hmem c hc
    obtain ⟨hc1, hc2⟩ := R.pl c hc'
    have := way_hue (b := a.2) (h := c.2) ha1 hc1 ha2 hc2 (fun e => by
      rcases List.mem_cons.mp hc' with rfl | h
      · rfl
      · have := o1 c h
        rw [e] at this
        exact absurd this (Nat.lt_irrefl _))
    refine ⟨this.1, this.2.trans ?_⟩
    unfold dist
    rw [show c.1 + 16 - (a.1 + 1) = c.1 + 15 - a.1 from Nat.add_sub_add_right (c.1 + 15) 1 a.1]
theorem Ring.head {u : Nat} {b : UInt64} {a : Nat × UInt64} {t : List (Nat × UInt64)} {x : List UInt64} (R : Ring u b (a :: t)) (hx : x.Perm ((a :: t).map (·.2))) :
    ∃ y ys, x.map (fun h => (stepW b h, h)) = y :: ys ∧ nearest y ys = some (stepW b a.2, a.2) := by
  obtain ⟨k, hk⟩ := R.rk
  have hne : x ≠ [] := by
    intro e
    subst e
    exact List.cons_ne_nil _ _ (List.Perm.nil_eq hx).symm
  match x, hne with
  | h0 :: r, _ =>
    refine ⟨(stepW b h0, h0), r.map (fun h => (stepW b h, h)), rfl, ?_⟩
    have hp : ((stepW b h0, h0) :: r.map (fun h => (stepW b h, h))).Perm ((a :: t).map fun c => (stepW b c.2, c.2)) := by
      have := hx.map (fun h => (stepW b h, h))
      rw [List.map_map] at this
      exact this
    obtain ⟨o1, o2⟩ := List.pairwise_cons.mp R.ord
    refine nearest_ok _ _ _ (fun z hz => ?_) ?_ ?_ fun z hz => ?_
    · obtain ⟨c, hc, rfl⟩ := List.mem_map.mp (hp.mem_iff.mp hz)
      exact (hk c hc).1
    · refine (hp.pairwise_iff (fun {p q} h => Ne.symm h)).mpr (List.pairwise_map.mpr ?_)
      refine (List.pairwise_iff_forall_sublist.mpr fun {c d} hs => ?_)
      have h3 : dist u c.1 < dist u d.1 := List.pairwise_iff_forall_sublist.mp R.ord hs
      have e1 := (hk c (hs.subset (.head _))).2
      have e2 := (hk d (hs.subset (.tail _ (.head _)))).2
      show rank (stepW b c.2) ≠ rank (stepW b d.2)
      omega
    · exact hp.mem_iff.mpr (.head _)
    · obtain ⟨c, hc, rfl⟩ := List.mem_map.mp (hp.mem_iff.mp hz)
      have e1 := (hk c hc).2
      have e2 := (hk a (.head _)).2
      show rank (stepW b a.2) ≤ rank (stepW b c.2)
      rcases List.mem_cons.mp hc with rfl | hc
      · exact Int.le_refl _
      · have := o1 c hc
        omega
theorem Ring.drop {u : Nat} {b : UInt64} {a : Nat × UInt64} {t : List (Nat × UInt64)} {x : List UInt64} (R : Ring u b (a :: t)) (hx : x.Perm ((a :: t).map (·.2))) : (x.filter (fne a.2)).Perm (t.map (·.2)) := by
  refine (hx.filter _).trans ?_
  obtain ⟨o1, _⟩ := List.pairwise_cons.mp R.ord
  obtain ⟨ha1, ha2⟩ := R.pl a (.head _)
  rw [List.map_cons, List.filter_cons, if_neg (by rw [fne_self ha1 ha2]; decide), List.filter_eq_self.mpr]
  intro h hh
  obtain ⟨c, hc, rfl⟩ := List.mem_map.mp hh
  obtain ⟨hc1, hc2⟩ := R.pl c (.tail _ hc)
  refine fne_ok hc1 ha1 hc2 ha2 fun e => ?_
  have := o1 c hc
  rw [e] at this
  exact absurd this (Nat.lt_irrefl _)
theorem Ring.sub {u : Nat} {b : UInt64} {t t' : List (Nat × UInt64)} (R : Ring u b t) (h : t'.Sublist t) : Ring u b t' :=
  ⟨fun c hc => R.pl c (h.subset hc), R.ord.sublist h, R.rk.imp fun _ hk c hc => hk c (h.subset hc)⟩
noncomputable def goes (c : Nat × UInt64) : Int := (2 * (c.1 : Int) + 1) * 31250
/-- the second lamp ahead, or the only one, goes out -/
theorem Ring.turn {n L : Nat} {s : Int} {u : Nat} {b lw : UInt64} {x hs : List UInt64} {ord : List Int} {rest : St} {a : Nat × UInt64} {t : List (Nat × UInt64)}
    (hu : u ≤ 16) (R : Ring u b (a :: t)) (hp : x.Perm ((a :: t).map (·.2))) (hr : (L = 0 ∧ rest = [] ∧ x = hs) ∨ (L = 2 ∧ rest = [hv x])) (hlen : x.length ≤ 1000) (hol : ord.length ≤ 1000) :
    ∃ g t' u', turnF ((ev FT (n + 10)).s outer7) 2 [5, 6, 7] (some 3) (R7 s L b (some (.flt lw))) (hv hs :: ord.map V.int :: rest) = some (R7 s 2 g.2 none, [hv hs, (ord ++ [goes g]).map V.int, hv (x.filter (fne g.2))]) ∧
      (x.filter (fne g.2)).Perm (t'.map (·.2)) ∧ Ring u' g.2 t' ∧ u' ≤ 16 ∧ t'.length = t.length ∧ ∀ k, J (k + 1) (a :: t) = g :: J k t' := by
  have hx : (hv hs :: ord.map V.int :: rest)[L]? = some (hv x) := by
    rcases hr with ⟨rfl, rfl, rfl⟩ | ⟨rfl, rfl⟩ <;> rfl
  have hok : ((hv hs :: ord.map V.int :: rest).all fun l => l.all fun v => okV (hv hs :: ord.map V.int :: rest).length (some v)) = true := by
    rcases hr with ⟨rfl, rfl, rfl⟩ | ⟨rfl, rfl⟩ <;> simp only [List.all_cons, List.all_nil, hv_ok, iv_ok, Bool.and_self, List.length_cons]
  have hL : L ≠ 1 := by rcases hr with ⟨rfl, _⟩ | ⟨rfl, _⟩ <;> decide
  obtain ⟨y, ys, e1, e2⟩ := R.head hp
  have M := R.move hu
  have ha := R.pl a (.head _)
  have hp1 : x.Perm ((t ++ [a]).map (·.2)) := hp.trans ((List.perm_append_comm (l₁ := t) (l₂ := [a])).symm.map _)
  match t, R, M, hp, hp1 with
  | [], R, M, hp, hp1 =>
    obtain ⟨y', ys', e3, e4⟩ := Ring.head (t := []) M hp1
    obtain ⟨sg, mm, ex, hd, hre⟩ := hue_read ha.1 ha.2
    refine ⟨a, [], a.1 + 1, outer_turn hx hlen hol e1 e2 e3 e4 hok hd hre hL, R.drop hp, M.sub (List.nil_sublist _), by omega, rfl, fun k => ?_⟩
    cases k <;> rfl
  | c :: t', R, M, hp, hp1 =>
    obtain ⟨y', ys', e3, e4⟩ := Ring.head (t := t' ++ [a]) M hp1
    have hc := R.pl c (.tail _ (.head _))
    obtain ⟨sg, mm, ex, hd, hre⟩ := hue_read hc.1 hc.2
    have M2 := Ring.move (t := t' ++ [a]) (by omega) M
    exact ⟨c, t' ++ [a], c.1 + 1, outer_turn hx hlen hol e1 e2 e3 e4 hok hd hre hL, Ring.drop (t := t' ++ [a]) M hp1, M2.sub (List.sublist_append_left _ _), by omega, by simp, fun k => rfl⟩
theorem wheel_loop {n : Nat} {s : Int} {hs : List UInt64} (hh : hs.length ≤ 100) : ∀ (k i L u : Nat) (b : UInt64) (x : List UInt64) (ord : List Int) (rest : St) (cl : List (Nat × UInt64)), cl.length = k → i + k = hs.length → ord.length ≤ i → u ≤ 16 → Ring u b cl → x.Perm (cl.map (·.2)) →
    ((L = 0 ∧ rest = [] ∧ x = hs) ∨ (L = 2 ∧ rest = [hv x])) →
    ∃ L' b' rest', loopF (fun σ => σ[0]?) ((ev FT (n + 10)).s outer7) 5 2 [5, 6, 7] (some 3) (k + 1) i (R7 s L b none) (hv hs :: ord.map V.int :: rest) = some (.nx, R7 s L' b' none, hv hs :: (ord ++ (J k cl).map goes).map V.int :: rest')
  | 0, i, L, u, b, x, ord, rest, cl, hc, hi, ho, hu, R, hp, hr => by
    refine ⟨L, b, rest, (loopF_end (x := hv hs) rfl (List.getElem?_eq_none (by simp [hv]; omega))).trans ?_⟩
    have : J 0 cl = [] := by unfold J; rfl
    rw [this, List.map_nil, List.append_nil]
  | k + 1, i, L, u, b, x, ord, rest, a :: t, hc, hi, ho, hu, R, hp, hr => by
    have hlx : x.length = k + 1 := by rw [hp.length_eq, List.length_map, hc]
    obtain ⟨g, t', u', h1, h2, h3, h4, h5, h6⟩ := Ring.turn (n := n) (s := s) (lw := hs[i]'(by omega)) (ord := ord) hu R hp hr (by omega) (by omega)
    obtain ⟨L', b', rest', ih⟩ := wheel_loop (n := n) (s := s) hh k (i + 1) 2 u' g.2 (x.filter (fne g.2)) (ord ++ [goes g]) [hv (x.filter (fne g.2))] t' (by simpa [h5] using hc) (by omega) (by simp; omega) h4 h3 h2 (.inr ⟨rfl, rfl⟩)
    refine ⟨L', b', rest', ?_⟩
    have hg : (hv hs)[i]? = some (.flt (hs[i]'(by omega))) := by
      unfold hv
      rw [List.getElem?_map, List.getElem?_eq_getElem (by omega)]
      rfl
    refine (loopF_turn (x := hv hs) (v := .flt (hs[i]'(by omega))) rfl hg h1).trans (ih.trans ?_)
    rw [h6 k]
    simp
end Mine
end

section
set_option maxRecDepth 100000
set_option autoImplicit false
namespace Mine
open PySem
noncomputable def lb : S := inFor (nthS body9 4)
/-- the names of the law: x, place, light, full, colour, sent, told -/
noncomputable def R9 (ns : List Int) (st : Int) (x p l f c se to : Option V) : Rho := [some (.frz ns), some (.lst 4), x, some (.int st), some (.lst 5), some (.lst 6), p, l, f, c, se, to, none, none, none, none]
noncomputable def iv (l : List Int) : List V := l.map .int
noncomputable def nv (l : List Nat) : List Int := l.map fun (q : Nat) => (q : Int)
theorem intsOf_iv : ∀ l : List Int, intsOf (iv l) = some l
  | [] => rfl
  | w :: r => by
    show (intOf (.int w)).bind (fun n => (intsOf (iv r)).bind fun q => some (n :: q)) = _
    exact bs (x := intOf (.int w)) rfl (bs (intsOf_iv r) rfl)
theorem mem_nv {p : Nat} {ps : List Nat} : (nv ps).contains (p : Int) = decide (p ∈ ps) := by
  rw [Bool.eq_iff_iff]
  simp only [List.contains_iff_mem, decide_eq_true_eq, nv, List.mem_map]
  constructor
  · rintro ⟨q, h, e⟩
    have : q = p := by omega
    exact this ▸ h
  · intro h
    exact ⟨p, h, rfl⟩
theorem fmod_nat (p m : Nat) : ((p : Int)).fmod (m : Int) = ((p % m : Nat) : Int) := by
  rw [Int.fmod_eq_emod_of_nonneg _ (Int.natCast_nonneg m)]; omega
theorem full_len : ∀ (n : Nat) (l : List Nat), (∀ q, q < n → q ∈ l) → n ≤ l.length
  | 0, _, _ => Nat.zero_le _
  | n + 1, l, h => by
    have h1 := full_len n (l.erase n) fun q hq => (List.mem_erase_of_ne (by omega)).mpr (h q (by omega))
    have h2 := h n (by omega)
    rw [List.length_erase_of_mem h2] at h1
    have := List.length_pos_of_mem h2
    omega
theorem free_place {ps : List Nat} (h : ps.length < 16) : ∃ q, q < 16 ∧ q ∉ ps := by
  apply Classical.byContradiction
  intro hn
  have := full_len 16 ps fun q hq => Classical.byContradiction fun e => hn ⟨q, hq, e⟩
  omega
section
variable {k : Nat} {ns : List Int} {st : Int} {x p l f c se to : Option V} {σ : St}
theorem b0 {y : Int} : (ev FT (k + 5)).s (nthS lb 0) (R9 ns st (some (.int y)) p l f c se to) σ = some (.nx, R9 ns st (some (.int y)) (some (.int (y.fmod 16))) l f c se to, σ) := by kernel_rfl
noncomputable def wtest : X := match nthS lb 1 with
  | .whl _ t _ _ => t
  | _ => .nil
noncomputable def wbody : S := inFor (nthS lb 1)
theorem w_body {q : Nat} : (ev FT (k + 8)).s wbody (R9 ns st x (some (.int q)) l f c se to) σ = some (.nx, R9 ns st x (some (.int ((q + 1) % 16 : Nat))) l f c se to, σ) := by
  have h : (ev FT (k + 8)).s wbody (R9 ns st x (some (.int q)) l f c se to) σ = some (.nx, R9 ns st x (some (.int (((q : Int) + 1).fmod 16))) l f c se to, σ) := by kernel_rfl
  rw [h]
  have := fmod_nat (q + 1) 16
  rw [show ((q : Int) + 1).fmod 16 = (((q + 1) % 16 : Nat) : Int) from this]
theorem w_test {q : Nat} {ps : List Nat} (h : σ[5]? = some (iv (nv ps))) (hl : ps.length ≤ 1000) : (ev FT (k + 8)).t wtest (R9 ns st x (some (.int q)) l f c se to) σ = some (decide (q ∈ ps), σ) := by
  refine n_tcmp (n := k + 7) (u := .int q) (w := .lst 5) (σ₁ := σ) rfl rfl ?_
  show (do let y ← intsOf (← σ[5]?); if y.length ≤ 1000 then some (y.contains (q : Int)) else none) = _
  rw [h]
  simp only [Option.bind_eq_bind, Option.bind_some, intsOf_iv]
  rw [if_pos (by simpa [nv] using hl), mem_nv]
theorem probe {ps : List Nat} (h : σ[5]? = some (iv (nv ps))) (hl : ps.length ≤ 1000) : ∀ (j m q : Nat), q < 16 → (q + j) % 16 ∉ ps → j < m →
    ∃ q', (q' < 16 ∧ q' ∉ ps) ∧ loopW ((ev FT (k + 8)).t wtest) ((ev FT (k + 8)).s wbody) m (R9 ns st x (some (.int q)) l f c se to) σ = some (.nx, R9 ns st x (some (.int q')) l f c se to, σ)
  | j, 0, q, _, _, hd => absurd hd (Nat.not_lt_zero j)
  | j, m + 1, q, hq, e, hd => by
    by_cases hm : q ∈ ps
    · match j, e, hd with
      | 0, e, hd => exact absurd hm (by rw [Nat.add_zero, Nat.mod_eq_of_lt hq] at e; exact e)
      | j + 1, e, hd =>
        obtain ⟨q', h1, h3⟩ := probe h hl j m ((q + 1) % 16) (Nat.mod_lt _ (by decide)) (by rw [Nat.mod_add_mod, Nat.add_assoc, Nat.add_comm 1 j]; exact e) (Nat.lt_of_succ_lt_succ hd)
        exact ⟨q', h1, bs (w_test h hl) (by rw [decide_eq_true hm]; exact bs w_body h3)⟩
    · exact ⟨q, ⟨hq, hm⟩, bs (w_test h hl) (by rw [decide_eq_false hm])⟩
theorem b1 {ps : List Nat} {q : Nat} (h : σ[5]? = some (iv (nv ps))) (hl : ps.length < 16) (hq : q < 16) :
    ∃ q', (q' < 16 ∧ q' ∉ ps) ∧ (ev FT (k + 9)).s (nthS lb 1) (R9 ns st x (some (.int q)) l f c se to) σ = some (.nx, R9 ns st x (some (.int q')) l f c se to, σ) := by
  obtain ⟨r, hr, hrp⟩ := free_place hl
  have e : q + (r + 16 - q) = r + 16 := Nat.add_sub_cancel' (Nat.le_trans (Nat.le_of_lt hq) (Nat.le_add_left 16 r))
  exact probe (k := k) (ns := ns) (st := st) (x := x) (l := l) (f := f) (c := c) (se := se) (to := to) h (Nat.le_trans (Nat.le_of_lt hl) (by decide)) (r + 16 - q) 40 q hq (by rw [e, Nat.add_mod_right, Nat.mod_eq_of_lt hr]; exact hrp) (Nat.lt_of_le_of_lt (Nat.sub_le _ _) (Nat.lt_of_lt_of_le (Nat.add_lt_add_right hr 16) (by decide)))
theorem b2 {A B C D dr pl hu : List V} {q : V} (hl : pl.length ≤ 1000) : (ev FT (k + 2)).s (nthS lb 2) (R9 ns st x (some q) l f c se to) [A, B, C, D, dr, pl, hu] = some (.nx, R9 ns st x (some q) l f c se to, [A, B, C, D, dr, pl ++ [q], hu]) :=
  n_app (n := k + 1) (k := 5) (v := q) (x := pl) (σ₁ := [A, B, C, D, dr, pl, hu]) rfl rfl rfl hl
theorem fd_ok {y m : Int} (h : small y = true) (h1 : small m = true) (h2 : m ≠ 0) : binop .FloorDiv (.int y) (.int m) σ = some (.int (y.fdiv m), σ) := by
  show (if small y && small m && !decide (m = 0) then _ else _) = _
  rw [h, h1, decide_eq_false h2]; rfl
theorem md_ok {y m : Int} (h2 : m ≠ 0) : binop .Mod (.int y) (.int m) σ = some (.int (y.fmod m), σ) := by
  show (if decide (m = 0) then _ else _) = _
  rw [decide_eq_false h2]; rfl
theorem ad_ok {y m : Int} : binop .Add (.int y) (.int m) σ = some (.int (y + m), σ) := rfl
theorem mu_ok {y m : Int} (h : small y = true) : binop .Mult (.int y) (.int m) σ = some (.int (y * m), σ) := by
  show (if small y then _ else _) = _
  rw [h]; rfl
theorem dv_ok {y : Int} {w : UInt64} (h : small y = true) (hw : Float64.isZero w = false) : binop .Div (.int y) (.flt w) σ = some (.flt (Float64.div (Float64.ofInt y) w), σ) := by
  show (if small y && !Float64.isZero w then _ else _) = _
  rw [h, hw]; rfl
theorem af_ok {y : Int} {w : UInt64} (h : small y = true) : binop .Add (.flt w) (.int y) σ = some (.flt (Float64.add w (Float64.ofInt y)), σ) := by
  show (if small y then _ else _) = _
  rw [h]; rfl
theorem sf_ok {y : Int} {w : UInt64} (h : small y = true) : binop .Sub (.flt w) (.int y) σ = some (.flt (Float64.sub w (Float64.ofInt y)), σ) := by
  show (if small y then _ else _) = _
  rw [h]; rfl
theorem mf_ok {y : Int} {w : UInt64} (h : small y = true) : binop .Mult (.flt w) (.int y) σ = some (.flt (Float64.mul w (Float64.ofInt y)), σ) := by
  show (if small y then _ else _) = _
  rw [h]; rfl
theorem b3 {y : Int} (h : small y = true) : (ev FT (k + 6)).s (nthS lb 3) (R9 ns st (some (.int y)) p l f c se to) σ = some (.nx, R9 ns st (some (.int y)) p (some (.int (1 + (y.fdiv 16).fmod 3))) f c se to, σ) :=
  n_asg (n := k + 5) (v := .int (1 + (y.fdiv 16).fmod 3))
    (n_bin (n := k + 4) (n_k (n := k + 3) rfl) (n_bin (n := k + 3) (n_bin (n := k + 2) (n_v (n := k + 1) (v := .int y) rfl) (n_k (n := k + 1) (v := .int 16) rfl) (fd_ok h rfl (by decide))) (n_k (n := k + 2) (v := .int 3) rfl) (md_ok (by decide))) ad_ok)
theorem b4 {y : Int} (h : small y = true) : (ev FT (k + 6)).s (nthS lb 4) (R9 ns st (some (.int y)) p l f c se to) σ = some (.nx, R9 ns st (some (.int y)) p l (some (.int (1 + (y.fdiv 48).fmod 2))) c se to, σ) :=
  n_asg (n := k + 5) (v := .int (1 + (y.fdiv 48).fmod 2))
    (n_bin (n := k + 4) (n_k (n := k + 3) rfl) (n_bin (n := k + 3) (n_bin (n := k + 2) (n_v (n := k + 1) (v := .int y) rfl) (n_k (n := k + 1) (v := .int 48) rfl) (fd_ok h rfl (by decide))) (n_k (n := k + 2) (v := .int 2) rfl) (md_ok (by decide))) ad_ok)
end
end Mine
end

section
set_option maxRecDepth 100000
set_option autoImplicit false
namespace Mine
open PySem
theorem loc_li {σ : St} {n : Int} {kk : Nat} {x : List V} (h : σ[kk]? = some x) (hx : x.all flat = true) : loc σ [.lst kk, .int n] = some ([.lst 0, .int n], [x]) := by
  simp only [loc, Option.bind_eq_bind, h, Option.bind_some, hx, List.all_cons, List.all_nil, Bool.and_true, noLst, if_true]
theorem hv_flat (l : List UInt64) : (hv l).all flat = true := by
  refine List.all_eq_true.mpr fun v hv' => ?_
  obtain ⟨w, _, rfl⟩ := List.mem_map.mp hv'
  rfl
theorem iv_flat (l : List Int) : (l.map V.int).all flat = true := by
  refine List.all_eq_true.mpr fun v hv' => ?_
  obtain ⟨w, _, rfl⟩ := List.mem_map.mp hv'
  rfl
theorem home_w {σ : St} {e x : List V} (h : x.all flat = true) : home [e] σ (.lst 1) [e, x] = some (.lst σ.length, σ ++ [x]) := by
  show (if [e, x].take 1 = [e] then (if 1 = 1 then (do let y ← [e, x][1]?; if y.all flat then some (V.lst σ.length, σ ++ [y]) else none) else none) else none) = _
  have q : [e, x].take 1 = [e] := rfl
  have q' : [e, x][1]? = some x := rfl
  rw [if_pos q, if_pos rfl, q']
  simp only [Option.bind_eq_bind, Option.bind_some, h, if_true]
theorem back_w {hs : List UInt64} {o : List Int} {rest : St} : back 1 (.lst 1) (hv hs :: o.map V.int :: rest) = some (.lst 1, [hv hs, o.map V.int]) := by
  unfold back
  have e : (hv hs :: o.map V.int :: rest).take 1 = [hv hs] := rfl
  rw [e]
  have e2 : ([hv hs].all fun l => l.all fun v => okV 1 (some v)) = true := by
    simp only [List.all_cons, List.all_nil, hv_ok, Bool.and_self]
  rw [e2]
  have e3 : (hv hs :: o.map V.int :: rest)[1]? = some (o.map V.int) := rfl
  simp only [if_true, Nat.le_refl, e3, Option.bind_eq_bind, Option.bind_some, iv_ok]
  rfl
theorem wheel_ok {k kk : Nat} {s : Nat} {hs : List UInt64} {σ : St} {cl : List (Nat × UInt64)} (hk : σ[kk]? = some (hv hs)) (hs16 : s < 16) (hh : hs.length ≤ 100) (R : Ring s (startW s) cl) (hp : hs.Perm (cl.map (·.2))) :
    (ev FT (k + 31)).c 7 [.lst kk, .int s] σ = some (.lst σ.length, σ ++ [((J cl.length cl).map goes).map V.int]) := by
  have hl : cl.length = hs.length := by rw [hp.length_eq, List.length_map]
  obtain ⟨L', b', rest', h⟩ := wheel_loop (n := k + 15) (s := s) hh cl.length 0 0 s (startW s) hs [] [] cl rfl (by omega) (Nat.zero_le _) (by omega) R hp (.inl ⟨rfl, rfl, rfl⟩)
  refine c_of (ρ₁ := R7 s L' b' none) (v := .lst 1) (n := k + 30) (d := fn7) rfl rfl (by decide) (loc_li hk (hv_flat hs)) ?_ (back_w (rest := rest')) (home_w (iv_flat _))
  have e0 : body7 = .cons (nthS body7 0) (.cons (nthS body7 1) (.cons (nthS body7 2) (.cons (nthS body7 3) (.cons (nthS body7 4) .nil)))) := by rfl
  have h0 : (ev FT (k + 29)).s (nthS body7 0) (padR [.lst 0, .int s] 9) [hv hs] = some (.nx, [some (.lst 0), some (.int s), some (.lst 1), none, none, none, none, none, none], [hv hs, []]) := by kernel_rfl
  have h1 : (ev FT (k + 28)).s (nthS body7 1) [some (.lst 0), some (.int s), some (.lst 1), none, none, none, none, none, none] [hv hs, []] = some (.nx, [some (.lst 0), some (.int s), some (.lst 1), some (.lst 0), none, none, none, none, none], [hv hs, []]) := by kernel_rfl
  have hsm : small (s : Int) = true := by
    unfold small
    exact decide_eq_true (by omega)
  have hz : Float64.isZero 0x4030000000000000 = false := by decide +kernel
  have h2 : (ev FT (k + 27)).s (nthS body7 2) [some (.lst 0), some (.int s), some (.lst 1), some (.lst 0), none, none, none, none, none] [hv hs, []] = some (.nx, R7 s 0 (startW s) none, [hv hs, []]) :=
    n_asg (n := k + 26) (v := .flt (startW s)) (n_bin (n := k + 25) (n_v (n := k + 24) (v := .int s) rfl) (n_k (n := k + 24) (v := .flt 0x4030000000000000) rfl) (dv_ok hsm hz))
  have h3 : (ev FT (k + 26)).s (nthS body7 3) (R7 s 0 (startW s) none) [hv hs, []] = some (.nx, R7 s L' b' none, hv hs :: (([] ++ (J cl.length cl).map goes : List Int)).map V.int :: rest') := by
    refine (s_forL (n := k + 25) (x := hv hs) (k := 0) (σ₁ := [hv hs, []]) (by kernel_rfl) rfl).trans ?_
    have : (hv hs).length = cl.length := by simp [hv, hl]
    rw [this]
    exact h
  have h4 : (ev FT (k + 25)).s (nthS body7 4) (R7 s L' b' none) (hv hs :: (([] ++ (J cl.length cl).map goes : List Int)).map V.int :: rest') = some (.rt (.lst 1), R7 s L' b' none, hv hs :: (([] ++ (J cl.length cl).map goes : List Int)).map V.int :: rest') :=
    n_ret (n := k + 24) (n_v (n := k + 23) (v := .lst 1) rfl)
  show (ev FT (k + 30)).s body7 (padR [.lst 0, .int s] 9) [hv hs] = _
  rw [e0]
  exact (s_nx (n := k + 29) h0).trans ((s_nx (n := k + 28) h1).trans ((s_nx (n := k + 27) h2).trans ((s_nx (n := k + 26) h3).trans (s_rt (n := k + 25) h4))))
end Mine
end

section
set_option maxRecDepth 100000
set_option autoImplicit false
namespace Mine
open PySem
section
variable {ns : List Int} {st : Int} {x p l f c se to : Option V} {σ : St}
theorem b5 {y q li fu : Int} {r g b : UInt64} (hy : small y = true) (hq : small (2 * q + 1) = true) (ht : small ((y.fdiv 96).fmod 5) = true) (hl : small li = true) (hf : small fu = true)
    (h : rgb3 284 fn1 (hueArg q ((y.fdiv 96).fmod 5)) (lightArg li) (fullArg fu) = some (r, g, b)) :
    (ev FT 287).s (nthS lb 5) (R9 ns st (some (.int y)) (some (.int q)) (some (.int li)) (some (.int fu)) c se to) σ = some (.nx, R9 ns st (some (.int y)) (some (.int q)) (some (.int li)) (some (.int fu)) (some (.tup [.f r, .f g, .f b])) se to, σ) := by
  have z32 : Float64.isZero 0x4040000000000000 = false := by decide +kernel
  have z4 : Float64.isZero 0x4010000000000000 = false := by decide +kernel
  have z2 : Float64.isZero 0x4000000000000000 = false := by decide +kernel
  refine n_asg (n := 286) (v := .tup [.f r, .f g, .f b]) ?_
  refine n_call (n := 285) (vs := [.flt (hueArg q ((y.fdiv 96).fmod 5)), .flt (lightArg li), .flt (fullArg fu)]) (σ₁ := σ) ?_ (rgb3_c (n := 284) (d := fn1) rfl rfl (by decide) h)
  refine n_cons (n := 284) (σ₁ := σ) ?_ (n_cons (n := 283) (σ₁ := σ) ?_ (n_cons (n := 282) (σ₁ := σ) ?_ (n_nil (n := 281))))
  · exact n_bin (n := 283) (n_bin (n := 282) (n_bin (n := 281) (n_bin (n := 280) (n_bin (n := 279) (n_k (n := 278) (v := .int 2) rfl) (n_v (n := 278) (v := .int q) rfl) (mu_ok rfl)) (n_k (n := 279) (v := .int 1) rfl) ad_ok) (n_k (n := 280) (v := .flt 0x4040000000000000) rfl) (dv_ok hq z32))
      (n_bin (n := 281) (n_bin (n := 280) (n_v (n := 279) (v := .int y) rfl) (n_k (n := 279) (v := .int 96) rfl) (fd_ok hy rfl (by decide))) (n_k (n := 280) (v := .int 5) rfl) (md_ok (by decide))) (af_ok ht)) (n_k (n := 282) (v := .int 2) rfl) (sf_ok rfl)
  · exact n_bin (n := 282) (n_v (n := 281) (v := .int li) rfl) (n_k (n := 281) (v := .flt 0x4010000000000000) rfl) (dv_ok hl z4)
  · exact n_bin (n := 281) (n_v (n := 280) (v := .int fu) rfl) (n_k (n := 280) (v := .flt 0x4000000000000000) rfl) (dv_ok hf z2)
theorem b6 {r g b r' g' b' : UInt64} (h : rgb3 283 fn2 r g b = some (r', g', b')) :
    (ev FT 286).s (nthS lb 6) (R9 ns st x p l f (some (.tup [.f r, .f g, .f b])) se to) σ = some (.nx, R9 ns st x p l f (some (.tup [.f r, .f g, .f b])) (some (.tup [.f r', .f g', .f b'])) to, σ) := by
  refine n_asg (n := 285) (v := .tup [.f r', .f g', .f b']) ?_
  exact n_call (n := 284) (vs := [.flt r, .flt g, .flt b]) (σ₁ := σ) (by kernel_rfl) (rgb3_c (n := 283) (d := fn2) rfl rfl (by decide) h)
theorem b7 {r g b r' g' b' : UInt64} (h : rgb3 282 fn3 r g b = some (r', g', b')) :
    (ev FT 285).s (nthS lb 7) (R9 ns st x p l f c (some (.tup [.f r, .f g, .f b])) to) σ = some (.nx, R9 ns st x p l f (some (.tup [.f r', .f g', .f b'])) (some (.tup [.f r, .f g, .f b])) to, σ) := by
  refine n_asg (n := 284) (v := .tup [.f r', .f g', .f b']) ?_
  exact n_call (n := 283) (vs := [.flt r, .flt g, .flt b]) (σ₁ := σ) (by kernel_rfl) (rgb3_c (n := 282) (d := fn3) rfl rfl (by decide) h)
theorem b8 {r g b r' g' b' : UInt64} (h : rgb3 281 fn4 r g b = some (r', g', b')) :
    (ev FT 284).s (nthS lb 8) (R9 ns st x p l f (some (.tup [.f r, .f g, .f b])) se to) σ = some (.nx, R9 ns st x p l f (some (.tup [.f r, .f g, .f b])) se (some (.tup [.f r', .f g', .f b'])), σ) := by
  refine n_asg (n := 283) (v := .tup [.f r', .f g', .f b']) ?_
  exact n_call (n := 282) (vs := [.flt r, .flt g, .flt b]) (σ₁ := σ) (by kernel_rfl) (rgb3_c (n := 281) (d := fn4) rfl rfl (by decide) h)
theorem bi_int {w : UInt64} {r : Int} (h : toI w = some r) : bicall .int [.flt w] σ = some (.int r, σ) := by
  unfold toI at h
  show (match Float64.decode w with
    | .fin s m e => some (V.int (Float64.truncOf s m e), σ)
    | _ => none) = _
  split at h
  · rename_i e
    cases h
    first
      | rfl
      | rw [e]
  · cases h
noncomputable def tcomp : X := match nthS lb 9 with
  | .ite (.cmp a _ _ _) _ _ _ => a
  | _ => .nil
noncomputable def telt : X := match tcomp with
  | .comp e _ _ _ _ _ _ => e
  | _ => .nil
theorem telt_ok {k : Nat} {ρ : Rho} {u : V} {j : Int} {w : UInt64} {r : Int} (h1 : get ρ 11 = some u) (h2 : get ρ 12 = some (.int j)) (h3 : index u (.int j) σ = some (.flt w)) (h4 : toI (micro w) = some r) :
    (ev FT (k + 8)).e telt ρ σ = some (.int r, σ) := by
  refine n_bi (n := k + 7) (vs := [.flt (micro w)]) (σ₁ := σ) ?_ (bi_int h4)
  exact n_cons (n := k + 6) (n_bin (n := k + 5) (n_bin (n := k + 4) (n_idx (n := k + 3) (n_v (n := k + 2) h1) (n_v (n := k + 2) h2) h3) (n_k (n := k + 3) (v := .int 1000000) rfl) (mf_ok rfl)) (n_k (n := k + 4) (v := .flt 0x3fe0000000000000) rfl) (r := (.flt (micro w), σ)) rfl) (n_nil (n := k + 5))
end
section
variable {src : St → Option (List V)} {elt : Rho → St → Option (V × St)} {t n f i : Nat} {ρc : Rho} {σ σ₂ : St} {x acc : List V} {v y : V}
theorem loopC_step (h1 : src σ = some x) (h2 : x[i]? = some v) (h3 : elt (put ρc t v) σ = some (y, σ₂)) (h4 : σ₂[n]? = some acc) (h5 : acc.length ≤ 1000) :
    loopC src elt (fun _ σ => some (true, σ)) t ρc n (f + 1) i σ = loopC src elt (fun _ σ => some (true, σ)) t ρc n f (i + 1) (σ₂.set n (acc ++ [y])) := by
  refine bs h1 ?_
  rw [h2]
  exact bs rfl (bs h3 (bs h4 (ifp h5 rfl)))
theorem loopC_end (h1 : src σ = some x) (h2 : x[i]? = none) : loopC src elt (fun _ σ => some (true, σ)) t ρc n (f + 1) i σ = some σ := by
  refine bs h1 ?_
  rw [h2]
end
theorem n_compT {n : Nat} {ρ : Rho} {σ σ₁ σ₂ : St} {p p2 : Pos} {elt it : X} {t : Nat} {fv : List Nat} {sc : Scope} {l : List P} (h1 : (ev FT n).e it ρ σ = some (.tup l, σ₁)) (h3 : l.length ≤ 1000)
    (h4 : loopC (fun _ => some (l.map ofP)) ((ev FT n).e elt) (fun _ σ => some (true, σ)) t (compRho ρ fv ρ.length) σ₁.length (l.length + 1) 0 (σ₁ ++ [[]]) = some σ₂) : (ev FT (n + 1)).e (.comp elt t p it fv sc p2) ρ σ = some (.lst σ₁.length, σ₂) := bs h1 (ifp h3 (bs h4 rfl))
section
variable {k : Nat} {ns : List Int} {st : Int} {x p l f c se to : Option V} {σ : St}
noncomputable def zz (a b : Int) : List V := [.int a, .int b]
theorem tget {h lt su : UInt64} {v : V} : get (put (compRho (R9 ns st x p l f c se (some (.tup [.f h, .f lt, .f su]))) [11] (R9 ns st x p l f c se (some (.tup [.f h, .f lt, .f su]))).length) 12 v) 11 = some (.tup [.f h, .f lt, .f su]) := by kernel_rfl
theorem tget2 {to : Option V} {v : V} : get (put (compRho (R9 ns st x p l f c se to) [11] (R9 ns st x p l f c se to).length) 12 v) 12 = some v := by kernel_rfl
theorem tcomp_ok {h lt su : UInt64} {a b : Int} (h1 : toI (micro lt) = some a) (h2 : toI (micro su) = some b) :
    (ev FT (k + 9)).e tcomp (R9 ns st x p l f c se (some (.tup [.f h, .f lt, .f su]))) σ = some (.lst σ.length, σ ++ [zz a b]) := by
  have g1 : (σ ++ [([] : List V)])[σ.length]? = some [] := by simp
  have g2 : (σ ++ [([.int a] : List V)])[σ.length]? = some [.int a] := by simp
  have s1 : (σ ++ [([] : List V)]).set σ.length ([] ++ [.int a]) = σ ++ [[.int a]] := by simp
  have s2 : (σ ++ [([.int a] : List V)]).set σ.length ([.int a] ++ [.int b]) = σ ++ [zz a b] := by simp [zz]
  have e1 := telt_ok (σ := σ ++ [([] : List V)]) (k := k) (u := .tup [.f h, .f lt, .f su]) (j := 1) (w := lt) (tget (ns := ns) (st := st) (x := x) (p := p) (l := l) (f := f) (c := c) (se := se)) tget2 rfl h1
  have e2 := telt_ok (σ := σ ++ [([.int a] : List V)]) (k := k) (u := .tup [.f h, .f lt, .f su]) (j := 2) (w := su) (tget (ns := ns) (st := st) (x := x) (p := p) (l := l) (f := f) (c := c) (se := se)) tget2 rfl h2
  have et : tcomp = .comp telt 12 ⟨175, 45, 175, 46⟩ (.tup (.cons (.k (.int 1) ⟨175, 51, 175, 52⟩) (.cons (.k (.int 2) ⟨175, 54, 175, 55⟩) .nil)) ⟨175, 50, 175, 56⟩) [11] { kind := .function, names := [(Str.ofString ".0", .local), (Str.ofString "k", .local), (Str.ofString "int", .globalImplicit), (Str.ofString "told", .free)], isGenerator := false, isCoroutine := false, more := [] } ⟨175, 11, 175, 57⟩ := by rfl
  rw [et]
  refine n_compT (n := k + 8) (l := [.i 1, .i 2]) (σ₁ := σ) (by kernel_rfl) (by decide) ?_
  refine (loopC_step (x := [.int 1, .int 2]) (v := .int 1) (y := .int a) rfl rfl e1 g1 (Nat.zero_le _)).trans ?_
  rw [s1]
  refine (loopC_step (x := [.int 1, .int 2]) (v := .int 2) (y := .int b) rfl rfl e2 g2 (by simp)).trans ?_
  rw [s2]
  exact loopC_end (x := [.int 1, .int 2]) rfl rfl
theorem b9 {h lt su : UInt64} {li fu : Int} (hl : small li = true) (hf : small fu = true) (h1 : toI (micro lt) = some (li * 250000)) (h2 : toI (micro su) = some (fu * 500000)) :
    (ev FT (k + 11)).s (nthS lb 9) (R9 ns st x p (some (.int li)) (some (.int fu)) c se (some (.tup [.f h, .f lt, .f su]))) σ = some (.nx, R9 ns st x p (some (.int li)) (some (.int fu)) c se (some (.tup [.f h, .f lt, .f su])), σ ++ [zz (li * 250000) (fu * 500000)] ++ [zz (li * 250000) (fu * 500000)]) := by
  refine n_ite_f (n := k + 10) (σ₁ := σ ++ [zz (li * 250000) (fu * 500000)] ++ [zz (li * 250000) (fu * 500000)]) ?_ rfl
  refine n_tcmp (n := k + 9) (w := .lst (σ.length + 1)) (tcomp_ok h1 h2) (σ₂ := σ ++ [zz (li * 250000) (fu * 500000)] ++ [zz (li * 250000) (fu * 500000)]) ?_ ?_
  · have := n_lst (n := k + 8) (ρ := R9 ns st x p (some (.int li)) (some (.int fu)) c se (some (.tup [.f h, .f lt, .f su]))) (σ := σ ++ [zz (li * 250000) (fu * 500000)]) (p := ⟨175, 61, 175, 92⟩) (n_cons (n := k + 7) (n_bin (n := k + 6) (p := ⟨175, 62, 175, 76⟩) (n_v (n := k + 5) (i := 7) (p := ⟨175, 62, 175, 67⟩) (v := .int li) rfl) (n_k (n := k + 5) (c := .int 250000) (p := ⟨175, 70, 175, 76⟩) (v := .int 250000) rfl) (mu_ok hl)) (n_cons (n := k + 6) (n_bin (n := k + 5) (p := ⟨175, 78, 175, 91⟩) (n_v (n := k + 4) (i := 8) (p := ⟨175, 78, 175, 82⟩) (v := .int fu) rfl) (n_k (n := k + 4) (c := .int 500000) (p := ⟨175, 85, 175, 91⟩) (v := .int 500000) rfl) (mu_ok hf)) (n_nil (n := k + 5)))) (by simp)
    rw [List.length_append] at this
    exact this
  · have g1 : (σ ++ [zz (li * 250000) (fu * 500000)] ++ [zz (li * 250000) (fu * 500000)])[σ.length]? = some (zz (li * 250000) (fu * 500000)) := by simp
    have g2 : (σ ++ [zz (li * 250000) (fu * 500000)] ++ [zz (li * 250000) (fu * 500000)])[σ.length + 1]? = some (zz (li * 250000) (fu * 500000)) := by simp
    show (do
      let x ← intsOf (← (σ ++ [zz (li * 250000) (fu * 500000)] ++ [zz (li * 250000) (fu * 500000)])[σ.length]?)
      let y ← intsOf (← (σ ++ [zz (li * 250000) (fu * 500000)] ++ [zz (li * 250000) (fu * 500000)])[σ.length + 1]?)
      if x.length ≤ 1000 ∧ y.length ≤ 1000 then some (x != y) else none) = _
    have e : intsOf (zz (li * 250000) (fu * 500000)) = some [li * 250000, fu * 500000] := rfl
    exact bs g1 (bs e (bs g2 (bs e (ifp ⟨Nat.le_of_ble_eq_true rfl, Nat.le_of_ble_eq_true rfl⟩ (by rw [bne_self_eq_false])))))
theorem b10 {A B C D dr pl hu : List V} {rest : St} {h a b : UInt64} (hl : hu.length ≤ 1000) : (ev FT (k + 5)).s (nthS lb 10) (R9 ns st x p l f c se (some (.tup [.f h, .f a, .f b]))) (A :: B :: C :: D :: dr :: pl :: hu :: rest) = some (.nx, R9 ns st x p l f c se (some (.tup [.f h, .f a, .f b])), A :: B :: C :: D :: dr :: pl :: (hu ++ [.flt h]) :: rest) :=
  n_app (n := k + 4) (k := 6) (v := .flt h) (x := hu) (σ₁ := A :: B :: C :: D :: dr :: pl :: hu :: rest) rfl (by kernel_rfl) rfl hl
end
end Mine
end

section
set_option maxRecDepth 100000
set_option autoImplicit false
namespace Mine
open PySem
noncomputable abbrev k9 : List Nat := [2, 6, 7, 8, 9, 10, 11]
noncomputable abbrev R0 (ns : List Int) (st : Int) : Rho := R9 ns st none none none none none none none
noncomputable def S9 (a b c d dr : List Int) (ps : List Nat) (hs : List UInt64) : St := [iv a, iv b, iv c, iv d, iv dr, iv (nv ps), hv hs]
theorem small_of {n : Int} (h1 : -2000000 ≤ n) (h2 : n ≤ 2000000) : small n = true := by
  unfold small
  exact decide_eq_true (by omega)
theorem iv_ok' (n : Nat) (l : List Int) : ((iv l).all fun v => okV n (some v)) = true := iv_ok n l
theorem S9_ok (n : Nat) (a b c d dr : List Int) (ps : List Nat) (hs : List UInt64) : ((S9 a b c d dr ps hs).all fun l => l.all fun v => okV n (some v)) = true := by
  simp only [S9, List.all_cons, List.all_nil, iv_ok', hv_ok, Bool.and_self]
theorem nv_snoc (ps : List Nat) (q : Nat) : iv (nv ps) ++ [.int q] = iv (nv (ps ++ [q])) := by simp [iv, nv]
theorem hv_snoc (hs : List UInt64) (h : UInt64) : hv hs ++ [.flt h] = hv (hs ++ [h]) := by simp [hv]
theorem s_nil {n : Nat} {ρ : Rho} {σ : St} : (ev FT (n + 1)).s .nil ρ σ = some (.nx, ρ, σ) := rfl
theorem one_mod {a m : Int} (h : 0 < m) : 1 ≤ 1 + a.fmod m ∧ 1 + a.fmod m ≤ m := by
  have h1 := Int.fmod_nonneg_of_pos a h
  have h2 := Int.fmod_lt_of_pos a h
  omega
theorem turn9 {ns : List Int} {st y : Int} {a b c d dr : List Int} {ps : List Nat} {hs : List UInt64} (hps : ps.length < 16) (hhs : hs.length ≤ 1000) (hy : 0 ≤ y ∧ y < 1000000) :
    ∃ q h, q < 16 ∧ q ∉ ps ∧ h ∈ hueOf q ∧ turnF ((ev FT 293).s lb) 7 k9 none (put (R0 ns st) 2 (.int y)) (S9 a b c d dr ps hs) = some (R0 ns st, S9 a b c d dr (ps ++ [q]) (hs ++ [h])) := by
  have e16 : y.fmod 16 = ((y.toNat % 16 : Nat) : Int) := by
    have := fmod_nat y.toNat 16
    rw [Int.toNat_of_nonneg hy.1] at this
    exact this
  have hsy : small y = true := small_of (by omega) (by omega)
  have hli := one_mod (a := y.fdiv 16) (m := 3) (by decide)
  have hfu := one_mod (a := y.fdiv 48) (m := 2) (by decide)
  have htu : 0 ≤ (y.fdiv 96).fmod 5 ∧ (y.fdiv 96).fmod 5 < 5 := ⟨Int.fmod_nonneg_of_pos _ (by decide), Int.fmod_lt_of_pos _ (by decide)⟩
  generalize e3 : 1 + (y.fdiv 16).fmod 3 = li at hli
  generalize e4 : 1 + (y.fdiv 48).fmod 2 = fu at hfu
  generalize e5 : (y.fdiv 96).fmod 5 = tu at htu
  have h0 := b0 (k := 287) (ns := ns) (st := st) (y := y) (p := none) (l := none) (f := none) (c := none) (se := none) (to := none) (σ := S9 a b c d dr ps hs)
  rw [e16] at h0
  obtain ⟨q, ⟨hq, hqn⟩, h1⟩ := b1 (k := 282) (ns := ns) (st := st) (x := some (.int y)) (l := none) (f := none) (c := none) (se := none) (to := none) (σ := S9 a b c d dr ps hs) (ps := ps) (q := y.toNat % 16) rfl hps (Nat.mod_lt _ (by decide))
  obtain ⟨r, g, bb, yy, i, qq, r', g', b', h, l', s', c1, c2, c3, c4, c5, c6, c7⟩ := colour_ok hq htu hli hfu
  refine ⟨q, h, hq, hqn, c7, ?_⟩
  have hlen : (iv (nv ps)).length ≤ 1000 := by simp [iv, nv]; omega
  have hlen2 : (hv hs).length ≤ 1000 := by simpa [hv] using hhs
  have h2 := b2 (k := 288) (ns := ns) (st := st) (x := some (.int y)) (q := .int q) (l := none) (f := none) (c := none) (se := none) (to := none) (A := iv a) (B := iv b) (C := iv c) (D := iv d) (dr := iv dr) (hu := hv hs) hlen
  rw [nv_snoc] at h2
  have h3 := b3 (k := 283) (ns := ns) (st := st) (p := some (.int q)) (f := none) (l := none) (c := none) (se := none) (to := none) (σ := S9 a b c d dr (ps ++ [q]) hs) hsy
  rw [e3] at h3
  have h4 := b4 (k := 282) (ns := ns) (st := st) (p := some (.int q)) (f := none) (l := some (.int li)) (c := none) (se := none) (to := none) (σ := S9 a b c d dr (ps ++ [q]) hs) hsy
  rw [e4] at h4
  have sl : small li = true := small_of (by omega) (by omega)
  have sf : small fu = true := small_of (by omega) (by omega)
  have h5 := b5 (ns := ns) (st := st) (c := none) (se := none) (to := none) (σ := S9 a b c d dr (ps ++ [q]) hs) hsy (small_of (n := 2 * (q : Int) + 1) (by omega) (by omega)) (by rw [e5]; exact small_of (by omega) (by omega)) sl sf (by rw [e5]; exact c1)
  have h6 := b6 (ns := ns) (st := st) (x := some (.int y)) (p := some (.int q)) (l := some (.int li)) (f := some (.int fu)) (se := none) (to := none) (σ := S9 a b c d dr (ps ++ [q]) hs) c2
  have h7 := b7 (ns := ns) (st := st) (x := some (.int y)) (p := some (.int q)) (l := some (.int li)) (f := some (.int fu)) (c := some (.tup [.f r, .f g, .f bb])) (to := none) (σ := S9 a b c d dr (ps ++ [q]) hs) c3
  have h8 := b8 (ns := ns) (st := st) (x := some (.int y)) (p := some (.int q)) (l := some (.int li)) (f := some (.int fu)) (se := some (.tup [.f yy, .f i, .f qq])) (to := none) (σ := S9 a b c d dr (ps ++ [q]) hs) c4
  have h9 := b9 (k := 272) (ns := ns) (st := st) (x := some (.int y)) (p := some (.int q)) (c := some (.tup [.f r', .f g', .f b'])) (se := some (.tup [.f yy, .f i, .f qq])) (h := h) (σ := S9 a b c d dr (ps ++ [q]) hs) sl sf c5 c6
  have h10 := b10 (k := 277) (ns := ns) (st := st) (x := some (.int y)) (p := some (.int q)) (l := some (.int li)) (f := some (.int fu)) (c := some (.tup [.f r', .f g', .f b'])) (se := some (.tup [.f yy, .f i, .f qq])) (h := h) (a := l') (b := s') (A := iv a) (B := iv b) (C := iv c) (D := iv d) (dr := iv dr) (pl := iv (nv (ps ++ [q])))
    (rest := [zz (li * 250000) (fu * 500000), zz (li * 250000) (fu * 500000)]) hlen2
  rw [hv_snoc] at h10
  have e0 : lb = .cons (nthS lb 0) (.cons (nthS lb 1) (.cons (nthS lb 2) (.cons (nthS lb 3) (.cons (nthS lb 4) (.cons (nthS lb 5) (.cons (nthS lb 6) (.cons (nthS lb 7) (.cons (nthS lb 8) (.cons (nthS lb 9) (.cons (nthS lb 10) .nil)))))))))) := by rfl
  have hb := (congrArg (fun s => (ev FT 293).s s (put (R0 ns st) 2 (.int y)) (S9 a b c d dr ps hs)) e0).trans ((s_nx (n := 292) h0).trans ((s_nx (n := 291) h1).trans ((s_nx (n := 290) h2).trans ((s_nx (n := 289) h3).trans ((s_nx (n := 288) h4).trans ((s_nx (n := 287) h5).trans ((s_nx (n := 286) h6).trans ((s_nx (n := 285) h7).trans ((s_nx (n := 284) h8).trans ((s_nx (n := 283) h9).trans ((s_nx (n := 282) h10).trans (s_nil (n := 281)))))))))))))
  unfold turnF
  simp only [hb]
  show trim 7 (R0 ns st) (S9 a b c d dr (ps ++ [q]) (hs ++ [h]) ++ _) = _
  unfold trim
  have e1 : (R0 ns st).all (okV 7) = true := by rfl
  have e2 : (S9 a b c d dr (ps ++ [q]) (hs ++ [h]) ++ [zz (li * 250000) (fu * 500000), zz (li * 250000) (fu * 500000)]).take 7 = S9 a b c d dr (ps ++ [q]) (hs ++ [h]) := rfl
  rw [e1, e2, S9_ok]
  rfl
/-- lamps: place and hue -/
structure Lamps (cs : List (Nat × UInt64)) : Prop where
  pl : ∀ c, c ∈ cs → c.1 < 16 ∧ c.2 ∈ hueOf c.1
  nd : (cs.map (·.1)).Nodup
theorem law_loop {ns : List Int} {st : Int} {a b c d dr : List Int} (hd : ∀ y, y ∈ dr → 0 ≤ y ∧ y < 1000000) (hl : dr.length ≤ 12) : ∀ (k i : Nat) (cs : List (Nat × UInt64)), i + k = dr.length → cs.length = i → Lamps cs →
    ∃ cs', Lamps cs' ∧ cs'.length = dr.length ∧ loopF (fun σ => σ[4]?) ((ev FT 293).s lb) 2 7 k9 none (k + 1) i (R0 ns st) (S9 a b c d dr (cs.map (·.1)) (cs.map (·.2))) = some (.nx, R0 ns st, S9 a b c d dr (cs'.map (·.1)) (cs'.map (·.2)))
  | 0, i, cs, hi, hc, L => ⟨cs, L, by omega, loopF_end (x := iv dr) rfl (List.getElem?_eq_none (by simp [iv]; omega))⟩
  | k + 1, i, cs, hi, hc, L => by
    have hlt : i < dr.length := by omega
    obtain ⟨q, h, h1, h2, h3, h4⟩ := turn9 (ns := ns) (st := st) (y := dr[i]) (a := a) (b := b) (c := c) (d := d) (dr := dr) (ps := cs.map (·.1)) (hs := cs.map (·.2)) (by simp; omega) (by simp; omega) (hd _ (List.getElem_mem hlt))
    have L' : Lamps (cs ++ [(q, h)]) := by
      refine ⟨fun c hc => ?_, ?_⟩
      · rcases List.mem_append.mp hc with hc | hc
        · exact L.pl c hc
        · rw [List.mem_singleton] at hc; subst hc; exact ⟨h1, h3⟩
      · rw [List.map_append]
        refine List.nodup_append.mpr ⟨L.nd, by simp, fun x hx y hy e => ?_⟩
        simp at hy
        subst hy
        exact h2 (e ▸ hx)
    obtain ⟨cs', g1, g2, g3⟩ := law_loop (ns := ns) (st := st) (a := a) (b := b) (c := c) (d := d) hd hl k (i + 1) (cs ++ [(q, h)]) (by omega) (by simp [hc]) L'
    refine ⟨cs', g1, g2, ?_⟩
    have hg : (iv dr)[i]? = some (.int dr[i]) := by
      unfold iv
      rw [List.getElem?_map, List.getElem?_eq_getElem hlt]
      rfl
    refine (loopF_turn (x := iv dr) (v := .int dr[i]) rfl hg h4).trans ?_
    rw [List.map_append, List.map_append] at g3
    exact g3
end Mine
end

section
set_option maxRecDepth 100000
set_option autoImplicit false
namespace Mine
open PySem PySem.W PyProof.Rows
theorem cutL_eq {α : Type} (l : List α) (lo hi : Option Int) : cutL l lo hi = (l.drop (lo.elim 0 (clipAt l.length))).take (hi.elim l.length (clipAt l.length) - lo.elim 0 (clipAt l.length)) := by
  unfold cutL
  rw [sliceBounds_plain]
  have := pick_run l.toArray (lo.elim 0 (clipAt l.length)) (hi.elim l.length (clipAt l.length) - lo.elim 0 (clipAt l.length))
  simp only [List.getElem?_toArray] at this
  simp only [sliceRange_one]
  exact this
theorem cutL_upto {α : Type} (l : List α) (m : Nat) : cutL l none (some (m : Int)) = l.take m := by
  rw [cutL_eq]
  simp only [Option.elim, clipAt_nat, List.drop_zero, Nat.sub_zero]
  rw [Nat.min_def]
  split
  · rfl
  · rw [List.take_of_length_le (Nat.le_refl _), List.take_of_length_le (by omega)]
theorem cutL_from {α : Type} (l : List α) (m : Nat) : cutL l (some (m : Int)) none = l.drop m := by
  rw [cutL_eq]
  simp only [Option.elim, clipAt_nat]
  rcases Nat.lt_or_ge m l.length with q | q
  · rw [Nat.min_eq_left (by omega)]
    exact List.take_of_length_le (by simp)
  · rw [Nat.min_eq_right q]
    simp [List.drop_eq_nil_of_le q]
theorem perm_lift {α β : Type} {f : α → β} {y x : List β} (h : y.Perm x) : ∀ cs : List α, x = cs.map f → ∃ cl : List α, cl.Perm cs ∧ y = cl.map f := by
  induction h with
  | nil =>
    intro cs e
    exact ⟨cs, .refl _, e⟩
  | cons a _ ih =>
    intro cs e
    match cs, e with
    | c :: cs, e =>
      rw [List.map_cons, List.cons.injEq] at e
      obtain ⟨cl, h1, rfl⟩ := ih cs e.2
      exact ⟨c :: cl, h1.cons c, by rw [List.map_cons, e.1]⟩
  | swap a b _ =>
    intro cs e
    match cs, e with
    | c :: d :: cs, e =>
      simp only [List.map_cons, List.cons.injEq] at e
      exact ⟨d :: c :: cs, .swap c d cs, by rw [e.1, e.2.1, e.2.2]; rfl⟩
  | trans _ _ ih1 ih2 =>
    intro cs e
    obtain ⟨cl, h1, h2⟩ := ih2 cs e
    obtain ⟨cl', h3, h4⟩ := ih1 cl h2
    exact ⟨cl', h3.trans h1, h4⟩
/-- a lamp's key from the start on -/
noncomputable def key (st : Int) (c : Nat × UInt64) : Int × Int := (((c.1 : Int) - st).fmod 16, (c.1 : Int))
theorem key_dist {s p : Nat} (hs : s < 16) : ((p : Int) - (s : Int)).fmod 16 = ((dist s p : Nat) : Int) := by
  rw [Int.fmod_eq_emod_of_nonneg _ (by decide)]
  unfold dist
  omega
theorem dist_inj {s p q : Nat} (hs : s < 16) (hp : p < 16) (hq : q < 16) (h : dist s p = dist s q) : p = q := by
  unfold dist at h
  omega
theorem ring_ok {s : Nat} {cs : List (Nat × UInt64)} (hs : s < 16) (L : Lamps cs) (h1 : 1 ≤ cs.length) : ∃ cl : List (Nat × UInt64), sortP (cs.map (key s)) = some (cl.map (key s)) ∧ cl.Perm cs ∧ Ring s (startW s) cl := by
  have hd : (cs.map (key s)).Pairwise fun a b => a.1 ≠ b.1 := by
    refine List.pairwise_map.mpr (List.pairwise_iff_forall_sublist.mpr fun {c d} hsub => ?_)
    have hc := (L.pl c (hsub.subset (.head _))).1
    have hd := (L.pl d (hsub.subset (.tail _ (.head _)))).1
    have hn : c.1 ≠ d.1 := List.pairwise_iff_forall_sublist.mp (List.pairwise_map.mp L.nd) hsub
    show ((c.1 : Int) - (s : Int)).fmod 16 ≠ ((d.1 : Int) - (s : Int)).fmod 16
    rw [key_dist hs, key_dist hs]
    intro e
    exact hn (dist_inj hs hc hd (by omega))
  obtain ⟨y, e1, e2, e3⟩ := sortP_ok (x := cs.map (key s)) (by simpa using h1) hd
  obtain ⟨cl, e4, rfl⟩ := perm_lift e2 cs rfl
  refine ⟨cl, e1, e4, fun c hc => L.pl c (e4.mem_iff.mp hc), ?_, 1, fun c hc => ?_⟩
  · refine (List.pairwise_map.mp e3).imp fun {c d} h => ?_
    have h : ((c.1 : Int) - (s : Int)).fmod 16 < ((d.1 : Int) - (s : Int)).fmod 16 := h
    rw [key_dist hs, key_dist hs] at h
    omega
  · obtain ⟨h1, h2⟩ := L.pl c (e4.mem_iff.mp hc)
    exact way_start hs h1 h2
noncomputable def jOk (n : Nat) : Bool := (J n (List.range n) == (exc n).map Int.toNat) && (exc n).all fun r => decide (0 ≤ r ∧ r < n)
theorem J_nth {n : Nat} {cl : List (Nat × UInt64)} (hj : jOk n = true) (hl : cl.length = n) : J n cl = (exc n).map fun r => cl.getD r.toNat default := by
  simp only [jOk, Bool.and_eq_true, beq_iff_eq] at hj
  have e : cl = (List.range n).map fun i => cl.getD i default := by
    apply List.ext_getElem
    · simp [hl]
    · intro i h1 h2
      simp [List.getElem?_eq_getElem h1]
  rw [e, J_map, hj.1, List.map_map]
  rw [← e]
  rfl
/-- what is asked of n from 5 to 12 -/
structure Nok (n : Nat) : Prop where
  ex : ∀ (k : Nat) (σ : St), (ev FT (k + 61)).c 8 [.int n] σ = some (.lst σ.length, σ ++ [(exc n).map .int])
  ru : ∀ (a b c d e : Int) (k kk : Nat) (σ : St), σ[kk]? = some (es5 a b c d e) → En a → En b → En c → En d → (ev FT (k + 71)).c 6 [.int n, .lst kk] σ = some (.lst σ.length, σ ++ [(exc n).map .int])
  j : jOk n = true
  len : (exc n).length = n
theorem nok {n : Nat} (h : 5 ≤ n ∧ n ≤ 12) : Nok n := by
  obtain ⟨k, rfl⟩ := Nat.exists_eq_add_of_le h.1
  have h := Nat.le_of_add_le_add_left (a := 5) (b := k) (c := 7) h.2
  match k, h with
  | 0, _ => exact ⟨ex5, ru5, rfl, rfl⟩
  | 1, _ => exact ⟨ex6, ru6, rfl, rfl⟩
  | 2, _ => exact ⟨ex7, ru7, rfl, rfl⟩
  | 3, _ => exact ⟨ex8, ru8, rfl, rfl⟩
  | 4, _ => exact ⟨ex9, ru9, rfl, rfl⟩
  | 5, _ => exact ⟨ex10, ru10, rfl, rfl⟩
  | 6, _ => exact ⟨ex11, ru11, rfl, rfl⟩
  | 7, _ => exact ⟨ex12, ru12, rfl, rfl⟩
  | k + 8, h => exact absurd h (Nat.not_le_of_lt (Nat.lt_of_lt_of_le (by decide) (Nat.le_add_left 8 k)))
end Mine
end

section
set_option maxRecDepth 100000
set_option autoImplicit false
namespace Mine
open PySem PySem.W PyProof.Rows
noncomputable def RZ (ns : List Int) (st : Int) (ri od : Option V) : Rho := [some (.frz ns), some (.lst 4), none, some (.int st), some (.lst 5), some (.lst 6), none, none, none, none, none, none, none, ri, od, none]
noncomputable def RA (ns : List Int) (dr st pl hu : Option V) : Rho := [some (.frz ns), dr, none, st, pl, hu, none, none, none, none, none, none, none, none, none, none]
noncomputable def gI (f : Int → V) : V → V
  | .int n => f n
  | v => v
theorem iv_gI (f : Int → Int) (l : List Int) : (iv l).map (gI fun n => .int (f n)) = iv (l.map f) := by
  unfold iv
  rw [List.map_map, List.map_map]; rfl
theorem mem_iv {v : V} {l : List Int} (h : v ∈ iv l) : ∃ n, n ∈ l ∧ v = .int n := by
  obtain ⟨n, h1, rfl⟩ := List.mem_map.mp h
  exact ⟨n, h1, rfl⟩
theorem iv_len (l : List Int) : (iv l).length = l.length := by simp [iv]
theorem iv_app (a b : List Int) : iv a ++ iv b = iv (a ++ b) := by simp [iv]
noncomputable def c5 : List Int := [37, 700, 5, 133, 250]
noncomputable def drawn (ns : List Int) : List Int := (ns.take 12).map (·.fmod 1000000) ++ c5.drop ns.length
theorem drawn_len {ns : List Int} : 5 ≤ (drawn ns).length ∧ (drawn ns).length ≤ 12 := by
  unfold drawn c5
  simp only [List.length_append, List.length_map, List.length_take, List.length_drop, List.length_cons, List.length_nil]
  omega
theorem drawn_mem {ns : List Int} {y : Int} (h : y ∈ drawn ns) : 0 ≤ y ∧ y < 1000000 := by
  rcases List.mem_append.mp h with h | h
  · obtain ⟨x, _, rfl⟩ := List.mem_map.mp h
    exact ⟨Int.fmod_nonneg_of_pos _ (by decide), Int.fmod_lt_of_pos _ (by decide)⟩
  · have : y ∈ c5 := (List.drop_sublist _ _).subset h
    simp only [c5, List.mem_cons, List.not_mem_nil, or_false] at this
    omega
section
variable {ns : List Int} {σ : St}
theorem slice_frz (hn : ns.length ≤ 1000) (m : Nat) : slice (.frz ns) none (some (m : Int)) σ = some (.lst σ.length, σ ++ [iv (ns.take m)]) := by
  show (if ns.length ≤ 1000 then some (V.lst σ.length, σ ++ [cutL (ns.map .int) none (some (m : Int))]) else none) = _
  rw [if_pos hn, cutL_upto, ← List.map_take]
  rfl
theorem slice_up {k : Nat} {l : List Int} (h : σ[k]? = some (iv l)) (hn : l.length ≤ 1000) (m : Nat) : slice (.lst k) none (some (m : Int)) σ = some (.lst σ.length, σ ++ [iv (l.take m)]) := by
  show (do let x ← σ[k]?; if x.length ≤ 1000 then some (V.lst σ.length, σ ++ [cutL x none (some (m : Int))]) else none) = _
  refine bs h (ifp (by rw [iv_len]; exact hn) ?_)
  rw [cutL_upto]
  unfold iv
  rw [List.map_take]
theorem slice_from {k : Nat} {l : List Int} (h : σ[k]? = some (iv l)) (hn : l.length ≤ 1000) (m : Nat) : slice (.lst k) (some (m : Int)) none σ = some (.lst σ.length, σ ++ [iv (l.drop m)]) := by
  show (do let x ← σ[k]?; if x.length ≤ 1000 then some (V.lst σ.length, σ ++ [cutL x (some (m : Int)) none]) else none) = _
  refine bs h (ifp (by rw [iv_len]; exact hn) ?_)
  rw [cutL_from]
  unfold iv
  rw [List.map_drop]
theorem len_frz (hn : ns.length ≤ 1000) : bicall .len [.frz ns] σ = some (.int ns.length, σ) := by
  show (if ns.length ≤ 1000 then _ else _) = _
  rw [if_pos hn]
theorem len_lst {k : Nat} {x : List V} (h : σ[k]? = some x) (hn : x.length ≤ 1000) : bicall .len [.lst k] σ = some (.int x.length, σ) := by
  show (do let x ← σ[k]?; if x.length ≤ 1000 then some (V.int x.length, σ) else none) = _
  exact bs h (ifp hn rfl)
theorem sum_frz (hn : ns.length ≤ 1000) : bicall .sum [.frz ns] σ = some (.int ns.sum, σ) := by
  show (if ns.length ≤ 1000 then _ else _) = _
  rw [if_pos hn]
theorem add_lst {i j : Nat} {a b : List Int} (h1 : σ[i]? = some (iv a)) (h2 : σ[j]? = some (iv b)) (hn : a.length + b.length ≤ 1000) : binop .Add (.lst i) (.lst j) σ = some (.lst σ.length, σ ++ [iv (a ++ b)]) := by
  show (do
    let x ← σ[i]?
    let y ← σ[j]?
    if x.length + y.length ≤ 1000 then some (V.lst σ.length, σ ++ [x ++ y]) else none) = _
  exact bs h1 (bs h2 (ifp (by rw [iv_len, iv_len]; exact hn) (by rw [iv_app])))
theorem law0 (hn : ns.length ≤ 63) : (ev FT 298).s (nthS body9 0) (padR [.frz ns] 16) [] =
    some (.nx, RA ns (some (.lst 4)) none none none, [iv (ns.take 12), iv ((ns.take 12).map (·.fmod 1000000)), iv c5, iv (c5.drop ns.length), iv (drawn ns)]) := by
  refine n_asg (n := 297) (v := .lst 4) (σ₁ := [iv (ns.take 12), iv ((ns.take 12).map (·.fmod 1000000)), iv c5, iv (c5.drop ns.length), iv (drawn ns)]) ?_
  refine n_bin (n := 296) (u := .lst 1) (w := .lst 3) (σ₁ := [iv (ns.take 12), iv ((ns.take 12).map (·.fmod 1000000))]) (σ₂ := [iv (ns.take 12), iv ((ns.take 12).map (·.fmod 1000000)), iv c5, iv (c5.drop ns.length)]) ?_ ?_ ?_
  · rw [← iv_gI]
    refine n_map (n := 295) (k := 0) (σ₁ := [iv (ns.take 12)]) (x := iv (ns.take 12)) (g := gI fun n => .int (n.fmod 1000000)) ?_ rfl (by rw [iv_len, List.length_take]; omega) fun v acc hv' => ?_
    · exact n_slU (n := 294) (u := .frz ns) (h := 12) (σ₁ := []) (σ₂ := []) (n_v (n := 293) rfl) (n_k (n := 293) rfl) rfl (slice_frz (by omega) 12)
    · obtain ⟨y, _, rfl⟩ := mem_iv hv'
      exact n_bin (n := 294) (n_v (n := 293) (v := .int y) (by kernel_rfl)) (n_k (n := 293) (v := .int 1000000) rfl) (md_ok (by decide))
  · refine n_slL (n := 295) (u := .lst 2) (l := (ns.length : Nat)) (σ₁ := [iv (ns.take 12), iv ((ns.take 12).map (·.fmod 1000000)), iv c5]) (σ₂ := [iv (ns.take 12), iv ((ns.take 12).map (·.fmod 1000000)), iv c5]) (by kernel_rfl) ?_ (small_of (by omega) (by omega)) (slice_from (l := c5) rfl (by decide) ns.length)
    exact n_bi (n := 294) (vs := [.frz ns]) (n_cons (n := 293) (n_v (n := 292) rfl) (n_nil (n := 292))) (len_frz (by omega))
  · refine add_lst (σ := [iv (ns.take 12), iv ((ns.take 12).map (·.fmod 1000000)), iv c5, iv (c5.drop ns.length)]) (i := 1) (j := 3) (a := (ns.take 12).map (·.fmod 1000000)) (b := c5.drop ns.length) rfl rfl ?_
    have := drawn_len (ns := ns)
    unfold drawn at this
    rw [List.length_append] at this
    omega
noncomputable def start (ns : List Int) : Int := (7 + ns.sum).fmod 16
theorem law1 (hn : ns.length ≤ 63) : (ev FT 297).s (nthS body9 1) (RA ns (some (.lst 4)) none none none) σ = some (.nx, RA ns (some (.lst 4)) (some (.int (start ns))) none none, σ) := by
  refine n_asg (n := 296) (v := .int (start ns)) ?_
  refine n_bin (n := 295) (n_bin (n := 294) (n_k (n := 293) (v := .int 7) rfl) (n_bi (n := 293) (vs := [.frz ns]) (n_cons (n := 292) (n_v (n := 291) rfl) (n_nil (n := 291))) (sum_frz (by omega))) ad_ok) (n_k (n := 294) (v := .int 16) rfl) (md_ok (by decide))
theorem law2 {a b c d e : List V} {st : V} : (ev FT 296).s (nthS body9 2) (RA ns (some (.lst 4)) (some st) none none) [a, b, c, d, e] = some (.nx, RA ns (some (.lst 4)) (some st) (some (.lst 5)) none, [a, b, c, d, e, []]) := by kernel_rfl
theorem law3 {a b c d e f : List V} {st : V} : (ev FT 295).s (nthS body9 3) (RA ns (some (.lst 4)) (some st) (some (.lst 5)) none) [a, b, c, d, e, f] = some (.nx, RA ns (some (.lst 4)) (some st) (some (.lst 5)) (some (.lst 6)), [a, b, c, d, e, f, []]) := by kernel_rfl
end
end Mine
end

section
set_option maxRecDepth 100000
set_option autoImplicit false
namespace Mine
open PySem PySem.W PyProof.Rows
noncomputable def tk (x : List (Int × Int)) : List V := x.map fun p => .tup [.i p.1, .i p.2]
theorem ipairs_tk : ∀ x : List (Int × Int), ipairs (tk x) = some x
  | [] => rfl
  | (a, b) :: r => by
    show (pairV (.tup [.i a, .i b])).bind (fun p => (ipairs (tk r)).bind fun q => some (p :: q)) = _
    exact bs (x := pairV (.tup [.i a, .i b])) rfl (bs (ipairs_tk r) rfl)
theorem tk_len (x : List (Int × Int)) : (tk x).length = x.length := by simp [tk]
theorem iv_nv_key (st : Int) (cs : List (Nat × UInt64)) : (iv (nv (cs.map (·.1)))).map (gI fun p => .tup [.i ((p - st).fmod 16), .i p]) = tk (cs.map (key st)) := by
  unfold iv nv tk
  simp only [List.map_map]
  rfl
theorem lsorted_ok {σ : St} {k : Nat} {x y : List (Int × Int)} (h : σ[k]? = some (tk x)) (hl : 2 ≤ x.length ∧ x.length < 64) (hs : sortP x = some y) : bicall .sorted [.lst k] σ = some (.lst σ.length, σ ++ [tk y]) := by
  show (do
    let x ← ipairs (← σ[k]?)
    if 2 ≤ x.length ∧ x.length < 64 then (do
      let y ← sortP x
      some (V.lst σ.length, σ ++ [y.map fun (p : Int × Int) => V.tup [P.i p.1, P.i p.2]])) else none) = _
  exact bs h (bs (ipairs_tk x) (ifp hl (bs hs rfl)))
theorem sb_ok {σ : St} {y m : Int} : binop .Sub (.int y) (.int m) σ = some (.int (y - m), σ) := rfl
section
variable {ns : List Int} {st : Int} {a b c d dr : List Int} {cs cl : List (Nat × UInt64)}
noncomputable abbrev SS (a b c d dr : List Int) (cs : List (Nat × UInt64)) : St := S9 a b c d dr (cs.map (·.1)) (cs.map (·.2))
theorem law5 (hc : 2 ≤ cs.length ∧ cs.length < 64) (hs : sortP (cs.map (key st)) = some (cl.map (key st))) :
    (ev FT 293).s (nthS body9 5) (RZ ns st none none) (SS a b c d dr cs) = some (.nx, RZ ns st (some (.lst 8)) none, SS a b c d dr cs ++ [tk (cs.map (key st)), tk (cl.map (key st))]) := by
  refine n_asg (n := 292) (v := .lst 8) ?_
  have hcomp : (ev FT 290).e (match nthS body9 5 with | .asg _ (.bi _ (.cons e _) _ _) _ _ => e | _ => .nil) (RZ ns st none none) (SS a b c d dr cs) = some (.lst 7, SS a b c d dr cs ++ [tk (cs.map (key st))]) := by
    rw [← iv_nv_key]
    refine n_map (n := 289) (k := 5) (σ₁ := SS a b c d dr cs) (x := iv (nv (cs.map (·.1)))) (g := gI fun p => .tup [.i ((p - st).fmod 16), .i p]) (n_v (n := 288) rfl) rfl (by simp [iv, nv]; omega) fun v acc hv' => ?_
    obtain ⟨y, _, rfl⟩ := mem_iv hv'
    exact n_tup (n := 288) (vs := [.int ((y - st).fmod 16), .int y]) (n_cons (n := 287) (n_bin (n := 286) (n_bin (n := 285) (n_v (n := 284) (v := .int y) (by kernel_rfl)) (n_v (n := 284) (v := .int st) (by kernel_rfl)) sb_ok) (n_k (n := 285) (v := .int 16) rfl) (md_ok (by decide))) (n_cons (n := 286) (n_v (n := 285) (v := .int y) (by kernel_rfl)) (n_nil (n := 285)))) (Nat.le_of_ble_eq_true rfl) rfl
  refine n_bi (n := 291) (vs := [.lst 7]) (σ₁ := SS a b c d dr cs ++ [tk (cs.map (key st))]) (n_cons (n := 290) hcomp (n_nil (n := 289))) ?_
  exact lsorted_ok (σ := SS a b c d dr cs ++ [tk (cs.map (key st))]) (k := 7) (x := cs.map (key st)) rfl (by simpa using hc) hs
noncomputable abbrev S11 (st : Int) (a b c d dr : List Int) (cs cl : List (Nat × UInt64)) : St := SS a b c d dr cs ++ [tk (cs.map (key st)), tk (cl.map (key st))]
theorem len_ring {n : Nat} {p1 p2 p3 : Pos} {od : Option V} {rest : St} (hl : cl.length ≤ 1000) : (ev FT (n + 4)).e (.bi .len (.cons (.v 13 p1) .nil) p2 p3) (RZ ns st (some (.lst 8)) od) (S11 st a b c d dr cs cl ++ rest) = some (.int cl.length, S11 st a b c d dr cs cl ++ rest) := by
  have h := len_lst (σ := S11 st a b c d dr cs cl ++ rest) (k := 8) (x := tk (cl.map (key st))) rfl (by rw [tk_len, List.length_map]; exact hl)
  rw [tk_len, List.length_map] at h
  exact n_bi (n := n + 3) (vs := [.lst 8]) (n_cons (n := n + 2) (n_v (n := n + 1) rfl) (n_nil (n := n + 1))) h
theorem law6 (hl : cl.length ≤ 1000) (N : Nok cl.length) : (ev FT 292).s (nthS body9 6) (RZ ns st (some (.lst 8)) none) (S11 st a b c d dr cs cl) = some (.nx, RZ ns st (some (.lst 8)) (some (.lst 9)), S11 st a b c d dr cs cl ++ [iv (exc cl.length)]) := by
  refine n_asg (n := 291) (v := .lst 9) ?_
  exact n_call (n := 290) (vs := [.int cl.length]) (σ₁ := S11 st a b c d dr cs cl) (n_cons (n := 289) (len_ring (n := 285) (rest := []) hl) (n_nil (n := 288))) (N.ex 229 (S11 st a b c d dr cs cl))
noncomputable def end5 (dr : List Int) : List Int := (dr.take 5).map fun x => (x.fdiv 480).fmod 3
theorem end5_ok (h5 : 5 ≤ dr.length) : ∃ a b c d e, iv (end5 dr) = es5 a b c d e ∧ En a ∧ En b ∧ En c ∧ En d := by
  have en : ∀ x : Int, En ((x.fdiv 480).fmod 3) := fun x => by
    have h1 := Int.fmod_nonneg_of_pos (x.fdiv 480) (b := 3) (by decide)
    have h2 := Int.fmod_lt_of_pos (x.fdiv 480) (b := 3) (by decide)
    obtain ⟨k, e⟩ := Int.eq_ofNat_of_zero_le h1
    rw [e] at h2 ⊢
    have h2 := Int.ofNat_lt.mp h2
    match k, h2 with
    | 0, _ => exact .inl rfl
    | 1, _ => exact .inr (.inl rfl)
    | 2, _ => exact .inr (.inr rfl)
  match dr, h5 with
  | a :: b :: c :: d :: e :: _, _ => exact ⟨_, _, _, _, _, rfl, en a, en b, en c, en d⟩
theorem cmp_ne {σ : St} {i j : Nat} {x : List Int} (h1 : σ[i]? = some (iv x)) (h2 : σ[j]? = some (iv x)) (hl : x.length ≤ 1000) : cmpop .NotEq (.lst i) (.lst j) σ = some false := by
  show (do
    let x ← intsOf (← σ[i]?)
    let y ← intsOf (← σ[j]?)
    if x.length ≤ 1000 ∧ y.length ≤ 1000 then some (x != y) else none) = _
  exact bs h1 (bs (intsOf_iv x) (bs h2 (bs (intsOf_iv x) (ifp ⟨hl, hl⟩ (by rw [bne_self_eq_false])))))
theorem cmp_eq {σ : St} {i j : Nat} {x : List Int} (h1 : σ[i]? = some (iv x)) (h2 : σ[j]? = some (iv x)) (hl : x.length ≤ 1000) : cmpop .Eq (.lst i) (.lst j) σ = some true := by
  show (do
    let x ← intsOf (← σ[i]?)
    let y ← intsOf (← σ[j]?)
    if x.length ≤ 1000 ∧ y.length ≤ 1000 then some (x == y) else none) = _
  exact bs h1 (bs (intsOf_iv x) (bs h2 (bs (intsOf_iv x) (ifp ⟨hl, hl⟩ (by rw [beq_self_eq_true])))))
theorem law7 (hd : ∀ y, y ∈ dr → 0 ≤ y ∧ y < 1000000) (h5 : 5 ≤ dr.length ∧ dr.length ≤ 12) (hl : cl.length ≤ 1000) (N : Nok cl.length) (he : (exc cl.length).length ≤ 1000) :
    ∃ rest, (ev FT 291).s (nthS body9 7) (RZ ns st (some (.lst 8)) (some (.lst 9))) (S11 st a b c d dr cs cl ++ [iv (exc cl.length)]) = some (.nx, RZ ns st (some (.lst 8)) (some (.lst 9)), S11 st a b c d dr cs cl ++ [iv (exc cl.length), iv (dr.take 5), iv (end5 dr), rest]) := by
  obtain ⟨e1, e2, e3, e4, e5, he5, g1, g2, g3, g4⟩ := end5_ok (dr := dr) h5.1
  refine ⟨iv (exc cl.length), ?_⟩
  refine n_ite_f (n := 290) (σ₁ := S11 st a b c d dr cs cl ++ [iv (exc cl.length), iv (dr.take 5), iv (end5 dr), iv (exc cl.length)]) ?_ (s_nil (n := 289))
  refine n_tcmp (n := 289) (u := .lst 12) (w := .lst 9) (σ₁ := S11 st a b c d dr cs cl ++ [iv (exc cl.length), iv (dr.take 5), iv (end5 dr), iv (exc cl.length)]) (σ₂ := S11 st a b c d dr cs cl ++ [iv (exc cl.length), iv (dr.take 5), iv (end5 dr), iv (exc cl.length)]) ?_ (n_v (n := 288) rfl) (cmp_ne (x := exc cl.length) rfl rfl he)
  have hcomp : (ev FT 286).e (match nthS body9 7 with | .ite (.cmp (.call _ (.cons _ (.cons e _)) _ _) _ _ _) _ _ _ => e | _ => .nil) (RZ ns st (some (.lst 8)) (some (.lst 9))) (S11 st a b c d dr cs cl ++ [iv (exc cl.length)]) = some (.lst 11, S11 st a b c d dr cs cl ++ [iv (exc cl.length), iv (dr.take 5), iv (end5 dr)]) := by
    unfold end5
    rw [← iv_gI]
    refine n_map (n := 285) (k := 10) (σ₁ := S11 st a b c d dr cs cl ++ [iv (exc cl.length), iv (dr.take 5)]) (x := iv (dr.take 5)) (g := gI fun x => .int ((x.fdiv 480).fmod 3)) ?_ rfl (by rw [iv_len, List.length_take]; omega) fun v acc hv' => ?_
    · exact n_slU (n := 284) (u := .lst 4) (h := 5) (σ₁ := S11 st a b c d dr cs cl ++ [iv (exc cl.length)]) (σ₂ := S11 st a b c d dr cs cl ++ [iv (exc cl.length)]) (n_v (n := 283) rfl) (n_k (n := 283) rfl) rfl (slice_up (σ := S11 st a b c d dr cs cl ++ [iv (exc cl.length)]) (k := 4) (l := dr) rfl (by omega) 5)
    · obtain ⟨y, hy, rfl⟩ := mem_iv hv'
      have := hd y ((List.take_sublist _ _).subset hy)
      exact n_bin (n := 284) (n_bin (n := 283) (n_v (n := 282) (v := .int y) (by kernel_rfl)) (n_k (n := 282) (v := .int 480) rfl) (fd_ok (small_of (by omega) (by omega)) rfl (by decide))) (n_k (n := 283) (v := .int 3) rfl) (md_ok (by decide))
  refine n_call (n := 288) (vs := [.int cl.length, .lst 11]) (σ₁ := S11 st a b c d dr cs cl ++ [iv (exc cl.length), iv (dr.take 5), iv (end5 dr)]) (n_cons (n := 287) (len_ring (n := 283) (rest := [iv (exc cl.length)]) hl) (n_cons (n := 286) hcomp (n_nil (n := 285)))) ?_
  exact N.ru e1 e2 e3 e4 e5 217 11 (S11 st a b c d dr cs cl ++ [iv (exc cl.length), iv (dr.take 5), iv (end5 dr)]) (congrArg some he5) g1 g2 g3 g4
end
end Mine
end

section
set_option maxRecDepth 100000
set_option autoImplicit false
namespace Mine
open PySem PySem.W PyProof.Rows
theorem idx_ring {σ : St} {k : Nat} {st r : Int} {cl : List (Nat × UInt64)} (h : σ[k]? = some (tk (cl.map (key st)))) (hr : 0 ≤ r ∧ r < cl.length) (hl : cl.length ≤ 1000) :
    index (.lst k) (.int r) σ = some (.tup [.i (key st (cl.getD r.toNat default)).1, .i (key st (cl.getD r.toNat default)).2]) := by
  show (do let x ← σ[k]?; if 0 ≤ r ∧ r ≤ 1000 then x[r.toNat]? else none) = _
  rw [h]
  simp only [Option.bind_eq_bind, Option.bind_some]
  rw [if_pos ⟨hr.1, by omega⟩]
  have hlt : r.toNat < cl.length := by omega
  simp [tk, List.getElem?_eq_getElem hlt, key]
noncomputable def wants (cl : List (Nat × UInt64)) : List Int := (exc cl.length).map fun r => goes (cl.getD r.toNat default)
noncomputable def wx : X := match nthS body9 8 with
  | .ret (.cmp _ _ e _) _ => e
  | _ => .nil
section
variable {ns : List Int} {s : Nat} {cl : List (Nat × UInt64)} {σ : St} {hs : List UInt64}
theorem wget {st : Int} {v : V} : get (put (compRho (RZ ns st (some (.lst 8)) (some (.lst 9))) [13] (RZ ns st (some (.lst 8)) (some (.lst 9))).length) 15 v) 13 = some (.lst 8) := by kernel_rfl
theorem wget2 {st : Int} {v : V} : get (put (compRho (RZ ns st (some (.lst 8)) (some (.lst 9))) [13] (RZ ns st (some (.lst 8)) (some (.lst 9))).length) 15 v) 15 = some v := by kernel_rfl
theorem wcomp (hl : 5 ≤ cl.length ∧ cl.length ≤ 12) (N : Nok cl.length) (R : Ring s (startW s) cl) (h8 : σ[8]? = some (tk (cl.map (key s)))) (h9 : σ[9]? = some (iv (exc cl.length))) :
    (ev FT 288).e wx (RZ ns s (some (.lst 8)) (some (.lst 9))) σ = some (.lst σ.length, σ ++ [iv (wants cl)]) := by
  have hN := N.j
  simp only [jOk, Bool.and_eq_true, List.all_eq_true, decide_eq_true_eq] at hN
  unfold wants
  rw [← iv_gI]
  refine n_map (n := 287) (k := 9) (σ₁ := σ) (x := iv (exc cl.length)) (g := gI fun r => .int (goes (cl.getD r.toNat default))) (n_v (n := 286) rfl) h9 (by rw [iv_len, N.len]; omega) fun v acc hv' => ?_
  obtain ⟨r, hr, rfl⟩ := mem_iv hv'
  have hr' := hN.2 r hr
  have hlt : r.toNat < cl.length := by omega
  have hc : (cl.getD r.toNat default).1 < 16 := by
    rw [List.getD_eq_getElem?_getD, List.getElem?_eq_getElem hlt]
    exact (R.pl _ (List.getElem_mem hlt)).1
  have h8' : (σ ++ [acc])[8]? = some (tk (cl.map (key s))) := by
    rw [List.getElem?_append_left (List.getElem?_eq_some_iff.mp h8).1]
    exact h8
  have h1 := idx_ring (k := 8) (st := s) (cl := cl) h8' hr' (by omega)
  rw [show gI (fun r => .int (goes (cl.getD r.toNat default))) (.int r) = .int (goes (cl.getD r.toNat default)) from rfl]
  generalize cl.getD r.toNat default = q at h1 hc ⊢
  rw [show goes q = (2 * (q.1 : Int) + 1) * 31250 from rfl]
  have h2 : index (.tup [.i (key s q).1, .i (key s q).2]) (.int 1) (σ ++ [acc]) = some (.int q.1) := rfl
  exact n_bin (n := 286) (n_bin (n := 285) (n_bin (n := 284) (n_k (n := 283) (v := .int 2) rfl) (n_idx (n := 283) (n_idx (n := 282) (n_v (n := 281) wget) (n_v (n := 281) wget2) h1) (n_k (n := 282) (v := .int 1) rfl) h2) (mu_ok rfl)) (n_k (n := 284) (v := .int 1) rfl) ad_ok) (n_k (n := 285) (v := .int 31250) rfl) (mu_ok (small_of (by omega) (by omega)))
theorem law8 (hs16 : s < 16) (hl : 5 ≤ cl.length ∧ cl.length ≤ 12) (N : Nok cl.length) (R : Ring s (startW s) cl) (hp : hs.Perm (cl.map (·.2))) (h6 : σ[6]? = some (hv hs)) (h8 : σ[8]? = some (tk (cl.map (key s)))) (h9 : σ[9]? = some (iv (exc cl.length))) :
    ∃ σ₁, (ev FT 290).s (nthS body9 8) (RZ ns s (some (.lst 8)) (some (.lst 9))) σ = some (.rt (.bool true), RZ ns s (some (.lst 8)) (some (.lst 9)), σ₁) := by
  have hcall := wheel_ok (k := 256) (kk := 6) (s := s) (hs := hs) (σ := σ) (cl := cl) h6 hs16 (by rw [hp.length_eq, List.length_map]; omega) R hp
  have ej : (J cl.length cl).map goes = wants cl := by
    rw [J_nth N.j (cl := cl) rfl, List.map_map]
    rfl
  rw [ej] at hcall
  have hcall : (ev FT (256 + 31)).c 7 [.lst 6, .int s] σ = some (.lst σ.length, σ ++ [iv (wants cl)]) := hcall
  have hw : (wants cl).length ≤ 1000 := by
    unfold wants
    rw [List.length_map, N.len]
    omega
  have hcomp := wcomp (ns := ns) (σ := σ ++ [iv (wants cl)]) hl N R (by rw [List.getElem?_append_left (List.getElem?_eq_some_iff.mp h8).1]; exact h8) (by rw [List.getElem?_append_left (List.getElem?_eq_some_iff.mp h9).1]; exact h9)
  generalize wants cl = W at hcall hcomp hw
  refine ⟨σ ++ [iv W] ++ [iv W], n_ret (n := 289) (n_cmp (n := 288) (u := .lst σ.length) (w := .lst (σ ++ [iv W]).length) (n_call (n := 287) (vs := [.lst 6, .int s]) (n_cons (n := 286) (n_v (n := 285) rfl) (n_cons (n := 285) (n_v (n := 284) rfl) (n_nil (n := 284)))) hcall) hcomp (cmp_eq (x := W) ?_ ?_ hw))⟩
  · rw [List.getElem?_append_left (by simp)]; simp
  · exact List.getElem?_concat_length
end
theorem start_ok (ns : List Int) : ∃ s : Nat, s < 16 ∧ start ns = (s : Int) := by
  have h1 := Int.fmod_nonneg_of_pos (7 + ns.sum) (b := 16) (by decide)
  have h2 := Int.fmod_lt_of_pos (7 + ns.sum) (b := 16) (by decide)
  refine ⟨(start ns).toNat, ?_, ?_⟩ <;> unfold start <;> omega
theorem law_true (ns : List Int) (hn : ns.length ≤ 63) : (ev FT 300).c 9 [.frz ns] [] = some (.bool true, []) := by
  obtain ⟨s, hs, es⟩ := start_ok ns
  have hd := @drawn_mem ns
  have hl := drawn_len (ns := ns)
  obtain ⟨cs, L, hc, h4⟩ := law_loop (ns := ns) (st := s) (a := ns.take 12) (b := (ns.take 12).map (·.fmod 1000000)) (c := c5) (d := c5.drop ns.length) (dr := drawn ns) (fun y hy => hd hy) hl.2 (drawn ns).length 0 [] (by omega) rfl ⟨(fun _ h => by cases h), List.nodup_nil⟩
  obtain ⟨cl, k1, k2, k3⟩ := ring_ok hs L (by omega)
  have hcl : cl.length = (drawn ns).length := by rw [k2.length_eq, hc]
  have N : Nok cl.length := nok (by omega)
  have h0 := law0 hn
  have h1 := law1 (σ := [iv (ns.take 12), iv ((ns.take 12).map (·.fmod 1000000)), iv c5, iv (c5.drop ns.length), iv (drawn ns)]) hn
  rw [es] at h1
  have h2 := law2 (ns := ns) (a := iv (ns.take 12)) (b := iv ((ns.take 12).map (·.fmod 1000000))) (c := iv c5) (d := iv (c5.drop ns.length)) (e := iv (drawn ns)) (st := .int s)
  have h3 := law3 (ns := ns) (a := iv (ns.take 12)) (b := iv ((ns.take 12).map (·.fmod 1000000))) (c := iv c5) (d := iv (c5.drop ns.length)) (e := iv (drawn ns)) (f := []) (st := .int s)
  have h4' : (ev FT 294).s (nthS body9 4) (R0 ns s) (S9 (ns.take 12) ((ns.take 12).map (·.fmod 1000000)) c5 (c5.drop ns.length) (drawn ns) [] []) = some (.nx, R0 ns s, S9 (ns.take 12) ((ns.take 12).map (·.fmod 1000000)) c5 (c5.drop ns.length) (drawn ns) (cs.map (·.1)) (cs.map (·.2))) := by
    refine (s_forL (n := 293) (x := iv (drawn ns)) (k := 4) (σ₁ := S9 (ns.take 12) ((ns.take 12).map (·.fmod 1000000)) c5 (c5.drop ns.length) (drawn ns) [] []) (by kernel_rfl) rfl).trans ?_
    rw [iv_len]
    exact h4
  have h5 := law5 (ns := ns) (st := s) (a := ns.take 12) (b := (ns.take 12).map (·.fmod 1000000)) (c := c5) (d := c5.drop ns.length) (dr := drawn ns) (cs := cs) (cl := cl) (by omega) k1
  have h6 := law6 (ns := ns) (st := s) (a := ns.take 12) (b := (ns.take 12).map (·.fmod 1000000)) (c := c5) (d := c5.drop ns.length) (dr := drawn ns) (cs := cs) (cl := cl) (by omega) N
  obtain ⟨w, h7⟩ := law7 (ns := ns) (st := s) (a := ns.take 12) (b := (ns.take 12).map (·.fmod 1000000)) (c := c5) (d := c5.drop ns.length) (dr := drawn ns) (cs := cs) (cl := cl) (fun y hy => hd hy) hl (by omega) N (by rw [N.len]; omega)
  obtain ⟨σ₁, h8⟩ := law8 (ns := ns) (hs := cs.map (·.2)) (σ := S11 s (ns.take 12) ((ns.take 12).map (·.fmod 1000000)) c5 (c5.drop ns.length) (drawn ns) cs cl ++ [iv (exc cl.length), iv ((drawn ns).take 5), iv (end5 (drawn ns)), w]) hs (by omega) N k3 (k2.symm.map _) rfl rfl rfl
  refine c_flat (n := 299) (d := fn9) (ρ₁ := RZ ns s (some (.lst 8)) (some (.lst 9))) (σ₁ := σ₁) rfl rfl (by decide) rfl ?_ rfl
  have e0 : body9 = .cons (nthS body9 0) (.cons (nthS body9 1) (.cons (nthS body9 2) (.cons (nthS body9 3) (.cons (nthS body9 4) (.cons (nthS body9 5) (.cons (nthS body9 6) (.cons (nthS body9 7) (.cons (nthS body9 8) .nil)))))))) := by rfl
  show (ev FT 299).s body9 (padR [.frz ns] 16) [] = _
  rw [e0]
  exact (s_nx (n := 298) h0).trans ((s_nx (n := 297) h1).trans ((s_nx (n := 296) h2).trans ((s_nx (n := 295) h3).trans ((s_nx (n := 294) h4').trans ((s_nx (n := 293) h5).trans ((s_nx (n := 292) h6).trans ((s_nx (n := 291) h7).trans (s_rt (n := 290) h8))))))))
end Mine
end

theorem PySem.Challenge.cw_wu0027_01_holds : PySem.Challenge.rw_wu0027_01.Holds :=
  Mine.holds_of Mine.law_true
