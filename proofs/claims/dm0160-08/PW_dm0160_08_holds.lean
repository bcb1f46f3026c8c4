import PyProof.Rows.All
import Wide.All
import OpenK.AllK
import Wide.FinOn
import PySem.Challenge.RW_dm0160_08
set_option Elab.async false
set_option bootstrap.genMatcherCode false
set_option genSizeOf false
set_option genSizeOfSpec false
set_option genInjectivity false
/-! A1 -/
section
open PySem
namespace Mine

/-! ## values -/
set_option genSizeOf true in
set_option genSizeOfSpec true in
inductive D where
  | none
  | bool (b : Bool)
  | int (i : Int)
  | str (s : List Nat)
  | tup (xs : List D)
  | list (xs : List D)
  | range (a b c : Int)

/-- a variable's slot: unset, a value (shared, never changed), a list that this variable alone holds -/
inductive Slot where
  | unset
  | val (d : D)
  | own (xs : List D)

noncomputable def LIM : Nat := 16777216

/-! ## texts -/
noncomputable def isWs (c : Nat) : Bool := Unicode.isSpace c
noncomputable def splitBy (p : Nat → Bool) : List Nat → List (List Nat)
  | [] => [[]]
  | x :: r => if p x then [] :: splitBy p r else
    match splitBy p r with
    | [] => [[x]]
    | w :: ws => (x :: w) :: ws
noncomputable def splitOn (c : Nat) (s : List Nat) : List (List Nat) := splitBy (· == c) s
noncomputable def wordsBy (p : Nat → Bool) (s : List Nat) : List (List Nat) := (splitBy p s).filter (fun w => !w.isEmpty)
noncomputable def rstripBy (p : Nat → Bool) (s : List Nat) : List Nat := (s.reverse.dropWhile p).reverse
noncomputable def expandGo : Nat → List Nat → List Nat
  | _, [] => []
  | col, c :: r =>
    if c = 9 then List.replicate (8 - col % 8) 32 ++ expandGo (col + (8 - col % 8)) r
    else c :: expandGo (if c = 10 ∨ c = 13 then 0 else col + 1) r
/-- the parts of a text between its runs of what is white, and the runs: word, run, word, .., word -/
noncomputable def reGo (p : Nat → Bool) : Bool → List Nat → List (List Nat)
  | _, [] => [[]]
  | white, x :: r =>
    if p x == white then
      match reGo p white r with
      | [] => [[x]]
      | w :: ws => (x :: w) :: ws
    else [] :: (match reGo p (!white) r with | [] => [[x]] | w :: ws => (x :: w) :: ws)
/-- odd places hold the runs; a text that ends in a run has an empty last part -/
noncomputable def reSplit (p : Nat → Bool) (s : List Nat) : List (List Nat) :=
  let ps := reGo p false s
  if ps.length % 2 = 0 then ps ++ [[]] else ps
noncomputable def joinWith (sep : List Nat) : List (List Nat) → List Nat
  | [] => []
  | [x] => x
  | x :: r => x ++ sep ++ joinWith sep r
noncomputable def infixB (y : List Nat) : List Nat → Bool
  | [] => y.isEmpty
  | x :: r => y.isPrefixOf (x :: r) || infixB y r
noncomputable def indentOf (s : List Nat) : List Nat := s.takeWhile (fun c => c == 32 || c == 9)

/-! ## the operations -/
inductive Bop | add | sub | mul | fdiv | mod
inductive Cop | eq | ne | lt | le | gt | ge | isNone | notNone | isIn | notIn
inductive Fn | len | min | max | sum | chr | ord | range | list | isBool
inductive Mth | split | join | rstrip | lstrip | expandtabs | index

noncomputable def ints? : List D → Option (List Int)
  | [] => some []
  | .int i :: r => (ints? r).map (i :: ·)
  | _ :: _ => Option.none
noncomputable def strs? : List D → Option (List (List Nat))
  | [] => some []
  | .str i :: r => (strs? r).map (i :: ·)
  | _ :: _ => Option.none

noncomputable def binD (op : Bop) (a b : D) : Option D :=
  match op with
  | .add => (match a, b with
    | .int a, .int b => some (.int (a + b))
    | .str a, .str b => if a.length + b.length ≤ LIM then some (.str (a ++ b)) else Option.none
    | .list a, .list b => if a.length + b.length ≤ LIM then some (.list (a ++ b)) else Option.none
    | _, _ => Option.none)
  | .sub => (match a, b with
    | .int a, .int b => some (.int (a - b))
    | _, _ => Option.none)
  | .mul => (match a, b with
    | .str a, .int n => if 0 ≤ n ∧ n.toNat ≤ 16777216 ∧ a.length * n.toNat ≤ LIM then some (.str (List.replicate n.toNat a).flatten) else Option.none
    | .list a, .int n => if 0 ≤ n ∧ n.toNat ≤ 16777216 ∧ a.length * n.toNat ≤ LIM then some (.list (List.replicate n.toNat a).flatten) else Option.none
    | .int a, .int b => if b = 2 ∨ b = 8 then some (.int (a * b)) else Option.none
    | _, _ => Option.none)
  | .fdiv => (match a, b with
    | .int a, .int b => if 0 < b ∧ b < 1000000 then some (.int (a / b)) else Option.none
    | _, _ => Option.none)
  | .mod => (match a, b with
    | .int a, .int b => if 0 < b then some (.int (a % b)) else Option.none
    | _, _ => Option.none)

noncomputable def eqS : D → D → Option Bool
  | .int a, .int b => some (a == b)
  | .str a, .str b => some (a == b)
  | .list a, .list b =>
    if a.length ≠ b.length then some false else
    match ints? a, ints? b with
    | some x, some y => some (x == y)
    | _, _ => match strs? a, strs? b with
      | some x, some y => some (x == y)
      | _, _ => Option.none
  | _, _ => Option.none

noncomputable def inD : D → D → Option Bool
  | .str a, .str b => some (infixB a b)
  | .str a, .tup b => (strs? b).map (·.contains a)
  | _, _ => Option.none

noncomputable def cmpD (op : Cop) (a b : D) : Option Bool :=
  match op with
  | .eq => eqS a b
  | .ne => (eqS a b).map (!·)
  | .lt => (match a, b with
    | .int a, .int b => some (decide (a < b))
    | _, _ => Option.none)
  | .le => (match a, b with
    | .int a, .int b => some (decide (a ≤ b))
    | _, _ => Option.none)
  | .gt => (match a, b with
    | .int a, .int b => some (decide (b < a))
    | _, _ => Option.none)
  | .ge => (match a, b with
    | .int a, .int b => some (decide (b ≤ a))
    | _, _ => Option.none)
  | .isNone => (match b with
    | _ => Option.none)
  | .notNone => (match b with
    | _ => Option.none)
  | .isIn => inD a b
  | .notIn => (inD a b).map (!·)

noncomputable def truthD : D → Option Bool
  | .bool b => some b
  | .str s => some (!s.isEmpty)
  | _ => Option.none

noncomputable def place? (i : Int) (n : Nat) : Option Nat :=
  if 0 ≤ i then (if i < n then some i.toNat else Option.none) else if 0 ≤ i + n then some (i + n).toNat else Option.none
noncomputable def idxD : D → D → Option D
  | .list xs, .int i => (place? i xs.length).bind (xs[·]?)
  | .str s, .int i => ((place? i s.length).bind (s[·]?)).map fun c => .str [c]
  | _, _ => Option.none

noncomputable def clip (n : Nat) (i : Int) : Nat := if i < 0 then (i + n).toNat else min i.toNat n
noncomputable def part? : D → Option (Option Int)
  | .none => some Option.none
  | .int i => some (some i)
  | _ => Option.none
noncomputable def cut {α : Type} (xs : List α) (lo hi : Option Int) : List α :=
  let a := lo.elim 0 (clip xs.length)
  let b := hi.elim xs.length (clip xs.length)
  (xs.drop a).take (b - a)
noncomputable def sliceD (d l u : D) : Option D := do
  let lo ← part? l
  let hi ← part? u
  match d with
  | .list xs => some (.list (cut xs lo hi))
  | .str s => some (.str (cut s lo hi))
  | _ => Option.none

noncomputable def rangeD (a b c : Int) : List Int := if 0 < c then (List.range ((b - a + c - 1) / c).toNat).map (fun (k : Nat) => a + c * (k : Int)) else []

noncomputable def minL : List Int → Int
  | [] => 0
  | [x] => x
  | x :: r => min x (minL r)
noncomputable def maxL : List Int → Int
  | [] => 0
  | [x] => x
  | x :: r => max x (maxL r)

noncomputable def small (i : Int) : Bool := decide (i.natAbs ≤ 1099511627776)

noncomputable def fnD (f : Fn) (ds : List D) : Option D :=
  match f with
  | .len => (match ds with
    | [.list xs] => some (.int xs.length)
    | [.str xs] => some (.int xs.length)
    | _ => Option.none)
  | .min => (match ds with
    | [.list xs] => (ints? xs).bind fun l => if l.isEmpty then Option.none else some (.int (minL l))
    | _ => Option.none)
  | .max => (match ds with
    | [.int a, .int b] => some (.int (max a b))
    | [.list xs] => (ints? xs).bind fun l => if l.isEmpty then Option.none else some (.int (maxL l))
    | _ => Option.none)
  | .sum => (match ds with
    | _ => Option.none)
  | .chr => (match ds with
    | _ => Option.none)
  | .ord => (match ds with
    | _ => Option.none)
  | .range => (match ds with
    | [.int b] => if small b then some (.range 0 b 1) else Option.none
    | [.int a, .int b] => if small a && small b then some (.range a b 1) else Option.none
    | [.int a, .int b, .int c] => if small a && small b && decide (1 ≤ c) && small c then some (.range a b c) else Option.none
    | _ => Option.none)
  | .list => (match ds with
    | _ => Option.none)
  | .isBool => (match ds with
    | _ => Option.none)

noncomputable def methD (m : Mth) (o : D) (ds : List D) : Option D :=
  match m with
  | .split => (match o, ds with
    | .str s, [.str [c]] => if s.length < LIM then some (.list ((splitOn c s).map .str)) else Option.none
    | .str s, [] => if s.length < LIM then some (.list ((wordsBy isWs s).map .str)) else Option.none
    | _, _ => Option.none)
  | .join => (match o, ds with
    | .str sep, [.list xs] => (strs? xs).bind fun l => if (l.map fun w => w.length + sep.length).sum ≤ LIM then some (.str (joinWith sep l)) else Option.none
    | _, _ => Option.none)
  | .rstrip => (match o, ds with
    | .str s, [] => some (.str (rstripBy isWs s))
    | _, _ => Option.none)
  | .lstrip => (match o, ds with
    | _, _ => Option.none)
  | .expandtabs => (match o, ds with
    | .str s, [] => if 8 * s.length ≤ LIM then some (.str (expandGo 0 s)) else Option.none
    | _, _ => Option.none)
  | .index => (match o, ds with
    | _, _ => Option.none)

noncomputable def itemsD : D → Option (List D)
  | .list xs => some xs
  | .range a b c => if 0 < c then some ((rangeD a b c).map .int) else Option.none
  | _ => Option.none

/-! ## the small language -/
inductive E where
  | const (d : D)
  | var (x : Nat)
  | cvar (x : Nat)
  | bin (op : Bop) (a b : E)
  | neg (a : E)
  | cmp (op : Cop) (a b : E)
  | cmp2 (op1 op2 : Cop) (a b c : E)
  | bools (isAnd : Bool) (es : E)
  | not (a : E)
  | ite (t a b : E)
  | list (es : E)
  | tup (es : E)
  | nil
  | cons (e es : E)
  | idx (a i : E)
  | slice (a l u : E)
  | fn (f : Fn) (es : E)
  | meth (m : Mth) (o es : E)
  | resplit (a : E)
  | ucall (f : Nat) (es : E)
  /-- one `for` over src; k names (1 or 2) are bound; the test; the element -/
  | comp (k : Nat) (src test elt : E)
  /-- two `for`s, one name each -/
  | comp2 (src1 src2 elt : E)

noncomputable def isOwn : Slot → Bool
  | .own _ => true
  | _ => false

/-- no list that a variable alone holds can be the very value of e -/
noncomputable def strong (ρ : List Slot) : E → Bool
  | .var x => !(ρ[x]?.any isOwn)
  | .ite _ a b => strong ρ a && strong ρ b
  | .bools _ es => strong ρ es
  | .cons e es => strong ρ e && strong ρ es
  | _ => true

noncomputable def scalar : D → Bool
  | .tup _ | .list _ | .range .. => false
  | _ => true
noncomputable def tupS : D → Bool
  | .tup xs => xs.all scalar
  | _ => false
/-- the lists differ in their first things -/
noncomputable def diffL (xs zs : List D) : Bool :=
  match zs.head? with
  | some (.int b) => (match xs.head? with
    | some (.int a) => a != b
    | some (.str _) => true
    | _ => false)
  | _ => false
noncomputable def isL (zs : List D) : D → Bool
  | .list xs => diffL xs zs
  | _ => true
noncomputable def itemOk (ds : List D) : D → Bool
  | .list zs => zs.all scalar && ds.all (isL zs)
  | d => scalar d || tupS d
noncomputable def flat (ds : List D) : D → Bool
  | .list ys => ys.all (itemOk ds)
  | d => tupS d

noncomputable def bind1 (k : Nat) (d : D) : Option (List D) :=
  if k = 1 then some [d] else
  match d with
  | .tup [a, b] => if k = 2 then some [a, b] else Option.none
  | _ => Option.none

noncomputable def mapO (f : D → Option (List D)) : List D → Option (List D)
  | [] => some []
  | d :: r => do
    let x ← f d
    let y ← mapO f r
    some (x ++ y)

noncomputable abbrev Funs := Nat → List D → Option (D × Bool)

section
variable (Φ : Funs) (ρ : List Slot)
mutual
noncomputable def ev (κ : List D) : E → Option D
  | .const d => some d
  | .var x => match ρ[x]? with
    | some (.val d) => some d
    | some (.own xs) => some (.list xs)
    | _ => Option.none
  | .cvar x => κ[x]?
  | .bin op a b => do binD op (← ev κ a) (← ev κ b)
  | .neg a => do match ← ev κ a with
    | .int i => some (.int (-i))
    | _ => Option.none
  | .cmp op a b => do some (.bool (← cmpD op (← ev κ a) (← ev κ b)))
  | .cmp2 op1 op2 a b c => do
    let x ← ev κ a
    let y ← ev κ b
    if ← cmpD op1 x y then
      some (.bool (← cmpD op2 y (← ev κ c)))
    else some (.bool false)
  | .bools k es => evB κ k es
  | .not a => do some (.bool (!(← truthD (← ev κ a))))
  | .ite t a b => do if ← truthD (← ev κ t) then ev κ a else ev κ b
  | .list es => if strong ρ es then do
      let ds ← evs κ es
      if ds.length ≤ LIM then some (.list ds) else Option.none
    else Option.none
  | .tup es => if strong ρ es then do
      let ds ← evs κ es
      if ds.length ≤ LIM then some (.tup ds) else Option.none
    else Option.none
  | .nil => Option.none
  | .cons _ _ => Option.none
  | .idx a i => do idxD (← ev κ a) (← ev κ i)
  | .slice a l u => do sliceD (← ev κ a) (← ev κ l) (← ev κ u)
  | .fn f es => do fnD f (← evs κ es)
  | .meth m o es => do methD m (← ev κ o) (← evs κ es)
  | .resplit a => do match ← ev κ a with
    | .str s => if s.length < 1000000 then some (.list ((reSplit isWs s).map .str)) else Option.none
    | _ => Option.none
  | .ucall f es => do
    let ds ← evs κ es
    let (d, fresh) ← Φ f ds
    if strong ρ es || scalar d || tupS d || (fresh && flat ds d) then some d else Option.none
  | .comp k src test elt => if strong ρ elt then do
      let ds ← itemsD (← ev κ src)
      let out ← mapO (fun d => do
        let κ' ← bind1 k d
        if ← truthD (← ev κ' test) then some [← ev κ' elt] else some []) ds
      if ds.length ≤ LIM then some (.list out) else Option.none
    else Option.none
  | .comp2 src1 src2 elt => if strong ρ elt && strong ρ src2 then do
      let ds ← itemsD (← ev κ src1)
      let out ← mapO (fun d => do
        let es ← itemsD (← ev [d] src2)
        mapO (fun e => do some [← ev [d, e] elt]) es) ds
      if out.length ≤ LIM then some (.list out) else Option.none
    else Option.none
noncomputable def evs (κ : List D) : E → Option (List D)
  | .nil => some []
  | .cons e es => do
    let d ← ev κ e
    let ds ← evs κ es
    some (d :: ds)
  | _ => Option.none
noncomputable def evB (κ : List D) (isAnd : Bool) : E → Option D
  | .cons e .nil => ev κ e
  | .cons e es => do
    let d ← ev κ e
    if (← truthD d) == isAnd then evB κ isAnd es else some d
  | _ => Option.none
end
end

inductive Fl where
  | next | brk | cont
  | ret (d : D) (fresh : Bool)

inductive Src where
  | e (e : E)
  | zip (a b : E)
  | rev (e : E)

inductive C where
  | skip
  | seq (a b : C)
  | assign (x : Nat) (e : E)
  | assign2 (x y : Nat) (e : E)
  | setItem (x : Nat) (i e : E)
  | append (x : Nat) (e : E)
  | extend (x : Nat) (e : E)
  | ite (t : E) (a b : C)
  | whil (t : E) (b : C)
  | for1 (x : Nat) (s : Src) (b : C)
  | for2 (x y : Nat) (s : Src) (b : C)
  | ret (e : E)
  | retv (x : Nat)
  | brk
  | cont

/-- the value of e, where it is a list, is new -/
noncomputable def newE : E → Bool
  | .list _ | .comp .. | .comp2 .. | .slice .. | .bin .. | .meth .. | .resplit _ => true
  | .ite _ a b => newE a && newE b
  | _ => false

/-- the variables whose list may be the very value of e -/
noncomputable def aliased : E → List Nat
  | .var x => [x]
  | .ite _ a b => aliased a ++ aliased b
  | .bools _ es => aliased es
  | .cons e es => aliased e ++ aliased es
  | _ => []

noncomputable def freeze1 (x : Nat) (ρ : List Slot) : List Slot :=
  match ρ[x]? with
  | some (.own xs) => ρ.set x (.val (.list xs))
  | _ => ρ
noncomputable def freeze (xs : List Nat) (ρ : List Slot) : List Slot := xs.foldr freeze1 ρ

noncomputable def slotOf (e : E) (d : D) : Slot :=
  match d with
  | .list xs => if newE e then .own xs else .val d
  | _ => .val d

noncomputable def zipD : List D → List D → List D
  | a :: as, b :: bs => .tup [a, b] :: zipD as bs
  | _, _ => []

noncomputable def srcD (Φ : Funs) (ρ : List Slot) : Src → Option (List D)
  | .e e => do itemsD (← ev Φ ρ [] e)
  | .zip a b => do
    match ← ev Φ ρ [] a, ← ev Φ ρ [] b with
    | .list xs, .list ys => some (zipD xs ys)
    | _, _ => Option.none
  | .rev e => do
    match ← ev Φ ρ [] e with
    | .str s => some (s.reverse.map fun c => .str [c])
    | _ => Option.none
noncomputable def srcVars : Src → List Nat
  | .e e => aliased e
  | .zip a b => aliased a ++ aliased b
  | .rev _ => []

noncomputable def whileF (test : List Slot → Option Bool) (body : List Slot → Option (List Slot × Fl)) : Nat → List Slot → Option (List Slot × Fl)
  | 0, _ => Option.none
  | n + 1, ρ => do
    if ← test ρ then
      match ← body ρ with
      | (ρ', .next) | (ρ', .cont) => whileF test body n ρ'
      | (ρ', .brk) => some (ρ', .next)
      | (ρ', .ret d f) => some (ρ', .ret d f)
    else some (ρ, .next)

noncomputable def forF (put : D → List Slot → Option (List Slot)) (body : List Slot → Option (List Slot × Fl)) : List D → List Slot → Option (List Slot × Fl)
  | [], ρ => some (ρ, .next)
  | d :: ds, ρ => do
    let ρ₁ ← put d ρ
    match ← body ρ₁ with
    | (ρ', .next) | (ρ', .cont) => forF put body ds ρ'
    | (ρ', .brk) => some (ρ', .next)
    | (ρ', .ret d f) => some (ρ', .ret d f)

noncomputable def put1 (x : Nat) (d : D) (ρ : List Slot) : Option (List Slot) := if x < ρ.length then some (ρ.set x (.val d)) else Option.none
noncomputable def put2 (x y : Nat) (d : D) (ρ : List Slot) : Option (List Slot) :=
  match d with
  | .tup [a, b] => if x < ρ.length ∧ y < ρ.length ∧ x ≠ y then some ((ρ.set x (.val a)).set y (.val b)) else Option.none
  | _ => Option.none

noncomputable def WHILE : Nat := 100000

noncomputable def ex (Φ : Funs) : C → List Slot → Option (List Slot × Fl)
  | .skip, ρ => some (ρ, .next)
  | .seq a b, ρ => do
    match ← ex Φ a ρ with
    | (ρ', .next) => ex Φ b ρ'
    | r => some r
  | .assign x e, ρ => do
    let ρ := freeze (aliased e) ρ
    let d ← ev Φ ρ [] e
    if x < ρ.length then some (ρ.set x (slotOf e d), .next) else Option.none
  | .assign2 x y e, ρ => do
    let ρ := freeze (aliased e) ρ
    let d ← ev Φ ρ [] e
    let ρ' ← put2 x y d ρ
    some (ρ', .next)
  | .setItem x i e, ρ => do
    let ρ := freeze (aliased e) ρ
    let d ← ev Φ ρ [] e
    match ρ[x]?, ← ev Φ ρ [] i with
    | some (.own xs), .int j => do
      let k ← place? j xs.length
      some (ρ.set x (.own (xs.set k d)), .next)
    | _, _ => Option.none
  | .append x e, ρ => do
    let ρ := freeze (aliased e) ρ
    let d ← ev Φ ρ [] e
    match ρ[x]? with
    | some (.own xs) => if xs.length < LIM then some (ρ.set x (.own (xs ++ [d])), .next) else Option.none
    | _ => Option.none
  | .extend x e, ρ => do
    let ρ := freeze (aliased e) ρ
    match ρ[x]?, ← ev Φ ρ [] e with
    | some (.own xs), .list ys => if xs.length + ys.length ≤ LIM then some (ρ.set x (.own (xs ++ ys)), .next) else Option.none
    | _, _ => Option.none
  | .ite t a b, ρ => do if ← truthD (← ev Φ ρ [] t) then ex Φ a ρ else ex Φ b ρ
  | .whil t b, ρ => whileF (fun ρ => do truthD (← ev Φ ρ [] t)) (fun ρ => ex Φ b ρ) WHILE ρ
  | .for1 x s b, ρ => do
    let ρ := freeze (srcVars s) ρ
    forF (put1 x) (fun ρ => ex Φ b ρ) (← srcD Φ ρ s) ρ
  | .for2 x y s b, ρ => do
    let ρ := freeze (srcVars s) ρ
    forF (put2 x y) (fun ρ => ex Φ b ρ) (← srcD Φ ρ s) ρ
  | .ret e, ρ => do
    let ρ := freeze (aliased e) ρ
    let d ← ev Φ ρ [] e
    some (ρ, .ret d (newE e))
  | .retv x, ρ => match ρ[x]? with
    | some (.val d) => some (ρ, .ret d false)
    | some (.own xs) => some (freeze1 x ρ, .ret (.list xs) true)
    | _ => Option.none
  | .brk, ρ => some (ρ, .brk)
  | .cont, ρ => some (ρ, .cont)

structure Fun where
  nargs : Nat
  nslots : Nat
  body : C

noncomputable def runF (Φ : Funs) (f : Fun) (ds : List D) : Option (D × Bool) :=
  if ds.length = f.nargs then
    match ex Φ f.body (ds.map .val ++ List.replicate (f.nslots - f.nargs) .unset) with
    | some (_, .ret d fr) => some (d, fr)
    | some (_, .next) => some (.none, false)
    | _ => Option.none
  else Option.none

/-- 0: is_all_white, 1: get_indent, by themselves; k + 2: the k-th written function -/
noncomputable def Phi (fs : List Fun) : Nat → Funs
  | 0, _, _ => Option.none
  | n + 1, f, ds =>
    match f, ds with
    | 0, [.str s] => if s.length < 1000000 then some (.bool (s.all isWs), false) else Option.none
    | 1, [.str s] => if s.length < 1000000 then some (.str (indentOf s), false) else Option.none
    | k + 2, ds => match fs[k]? with
      | some fn => runF (Phi fs n) fn ds
      | Option.none => Option.none
    | _, _ => Option.none

/-! the equations, each by itself -/
section
variable {Φ : Funs} {ρ : List Slot} {κ : List D}
theorem evq1 {d : D} : ev Φ ρ κ (.const d) = some d := rfl
theorem evq2 {x : Nat} : ev Φ ρ κ (.var x) = (match ρ[x]? with
    | some (.val d) => some d
    | some (.own xs) => some (.list xs)
    | _ => Option.none) := rfl
theorem evq3 {x : Nat} : ev Φ ρ κ (.cvar x) = κ[x]? := rfl
theorem evq4 {op : Bop} {a b : E} : ev Φ ρ κ (.bin op a b) = (ev Φ ρ κ a).bind fun x => (ev Φ ρ κ b).bind fun y => binD op x y := rfl
theorem evq5 {a : E} : ev Φ ρ κ (.neg a) = (ev Φ ρ κ a).bind fun x => (match x with
    | .int i => some (.int (-i))
    | _ => Option.none) := rfl
theorem evq6 {op : Cop} {a b : E} : ev Φ ρ κ (.cmp op a b) = (ev Φ ρ κ a).bind fun x => (ev Φ ρ κ b).bind fun y => (cmpD op x y).bind fun t => some (.bool t) := rfl
theorem evq7 {o1 o2 : Cop} {a b c : E} : ev Φ ρ κ (.cmp2 o1 o2 a b c) = (ev Φ ρ κ a).bind fun x => (ev Φ ρ κ b).bind fun y => (cmpD o1 x y).bind fun t => if t = true then (ev Φ ρ κ c).bind fun z => (cmpD o2 y z).bind fun t => some (.bool t) else some (.bool false) := rfl
theorem evq8 {k : Bool} {es : E} : ev Φ ρ κ (.bools k es) = evB Φ ρ κ k es := rfl
theorem evq9 {a : E} : ev Φ ρ κ (.not a) = (ev Φ ρ κ a).bind fun x => (truthD x).bind fun t => some (.bool !t) := rfl
theorem evq10 {t a b : E} : ev Φ ρ κ (.ite t a b) = (ev Φ ρ κ t).bind fun x => (truthD x).bind fun c => if c = true then ev Φ ρ κ a else ev Φ ρ κ b := rfl
theorem evq11 {es : E} : ev Φ ρ κ (.list es) = if strong ρ es = true then (evs Φ ρ κ es).bind fun ds => if ds.length ≤ LIM then some (.list ds) else Option.none else Option.none := rfl
theorem evq12 {es : E} : ev Φ ρ κ (.tup es) = if strong ρ es = true then (evs Φ ρ κ es).bind fun ds => if ds.length ≤ LIM then some (.tup ds) else Option.none else Option.none := rfl
theorem evq13 {a i : E} : ev Φ ρ κ (.idx a i) = (ev Φ ρ κ a).bind fun x => (ev Φ ρ κ i).bind fun y => idxD x y := rfl
theorem evq14 {a l u : E} : ev Φ ρ κ (.slice a l u) = (ev Φ ρ κ a).bind fun x => (ev Φ ρ κ l).bind fun y => (ev Φ ρ κ u).bind fun z => sliceD x y z := rfl
theorem evq15 {f : Fn} {es : E} : ev Φ ρ κ (.fn f es) = (evs Φ ρ κ es).bind fun ds => fnD f ds := rfl
theorem evq16 {m : Mth} {o es : E} : ev Φ ρ κ (.meth m o es) = (ev Φ ρ κ o).bind fun x => (evs Φ ρ κ es).bind fun ds => methD m x ds := rfl
theorem evq17 {a : E} : ev Φ ρ κ (.resplit a) = (ev Φ ρ κ a).bind fun x => (match x with
    | .str s => if s.length < 1000000 then some (.list ((reSplit isWs s).map .str)) else Option.none
    | _ => Option.none) := rfl
theorem evq18 {f : Nat} {es : E} : ev Φ ρ κ (.ucall f es) = (evs Φ ρ κ es).bind fun ds => (Φ f ds).bind fun p => (match p with
    | (d, fresh) => if (strong ρ es || scalar d || tupS d || (fresh && flat ds d)) = true then some d else Option.none) := rfl
theorem evq19 {k : Nat} {src test elt : E} : ev Φ ρ κ (.comp k src test elt) = if strong ρ elt = true then (ev Φ ρ κ src).bind fun x => (itemsD x).bind fun ds => (mapO (fun d => (bind1 k d).bind fun κ' => (ev Φ ρ κ' test).bind fun t => (truthD t).bind fun c => if c = true then (ev Φ ρ κ' elt).bind fun y => some [y] else some []) ds).bind fun out => if ds.length ≤ LIM then some (.list out) else Option.none else Option.none := rfl
theorem evq20 {src1 src2 elt : E} : ev Φ ρ κ (.comp2 src1 src2 elt) = if (strong ρ elt && strong ρ src2) = true then (ev Φ ρ κ src1).bind fun x => (itemsD x).bind fun ds => (mapO (fun d => (ev Φ ρ [d] src2).bind fun y => (itemsD y).bind fun es => mapO (fun e => (ev Φ ρ [d, e] elt).bind fun z => some [z]) es) ds).bind fun out => if out.length ≤ LIM then some (.list out) else Option.none else Option.none := rfl
theorem evsq1 : evs Φ ρ κ .nil = some [] := rfl
theorem evsq2 {e es : E} : evs Φ ρ κ (.cons e es) = (ev Φ ρ κ e).bind fun d => (evs Φ ρ κ es).bind fun ds => some (d :: ds) := rfl
theorem exq1 : ex Φ .skip ρ = some (ρ, .next) := rfl
theorem exq2 {a b : C} : ex Φ (.seq a b) ρ = (ex Φ a ρ).bind fun r => (match r with
    | (ρ', .next) => ex Φ b ρ'
    | r => some r) := rfl
theorem exq3 {x : Nat} {e : E} : ex Φ (.assign x e) ρ = (ev Φ (freeze (aliased e) ρ) [] e).bind fun d => if x < (freeze (aliased e) ρ).length then some ((freeze (aliased e) ρ).set x (slotOf e d), .next) else Option.none := rfl
theorem exq4 {x y : Nat} {e : E} : ex Φ (.assign2 x y e) ρ = (ev Φ (freeze (aliased e) ρ) [] e).bind fun d => (put2 x y d (freeze (aliased e) ρ)).bind fun ρ' => some (ρ', .next) := rfl
theorem exq5 {x : Nat} {i e : E} : ex Φ (.setItem x i e) ρ = (ev Φ (freeze (aliased e) ρ) [] e).bind fun d => (ev Φ (freeze (aliased e) ρ) [] i).bind fun j => (match (freeze (aliased e) ρ)[x]?, j with
    | some (.own xs), .int j => (place? j xs.length).bind fun k => some ((freeze (aliased e) ρ).set x (.own (xs.set k d)), .next)
    | _, _ => Option.none) := rfl
theorem exq6 {x : Nat} {e : E} : ex Φ (.append x e) ρ = (ev Φ (freeze (aliased e) ρ) [] e).bind fun d => (match (freeze (aliased e) ρ)[x]? with
    | some (.own xs) => if xs.length < LIM then some ((freeze (aliased e) ρ).set x (.own (xs ++ [d])), .next) else Option.none
    | _ => Option.none) := rfl
theorem exq7 {x : Nat} {e : E} : ex Φ (.extend x e) ρ = (ev Φ (freeze (aliased e) ρ) [] e).bind fun d => (match (freeze (aliased e) ρ)[x]?, d with
    | some (.own xs), .list ys => if xs.length + ys.length ≤ LIM then some ((freeze (aliased e) ρ).set x (.own (xs ++ ys)), .next) else Option.none
    | _, _ => Option.none) := rfl
theorem exq8 {t : E} {a b : C} : ex Φ (.ite t a b) ρ = (ev Φ ρ [] t).bind fun d => (truthD d).bind fun c => if c = true then ex Φ a ρ else ex Φ b ρ := rfl
theorem exq9 {t : E} {b : C} : ex Φ (.whil t b) ρ = whileF (fun ρ => (ev Φ ρ [] t).bind fun d => truthD d) (fun ρ => ex Φ b ρ) WHILE ρ := rfl
theorem exq10 {x : Nat} {s : Src} {b : C} : ex Φ (.for1 x s b) ρ = (srcD Φ (freeze (srcVars s) ρ) s).bind fun ds => forF (put1 x) (fun ρ => ex Φ b ρ) ds (freeze (srcVars s) ρ) := rfl
theorem exq11 {x y : Nat} {s : Src} {b : C} : ex Φ (.for2 x y s b) ρ = (srcD Φ (freeze (srcVars s) ρ) s).bind fun ds => forF (put2 x y) (fun ρ => ex Φ b ρ) ds (freeze (srcVars s) ρ) := rfl
theorem exq12 {e : E} : ex Φ (.ret e) ρ = (ev Φ (freeze (aliased e) ρ) [] e).bind fun d => some (freeze (aliased e) ρ, .ret d (newE e)) := rfl
theorem exq13 {x : Nat} : ex Φ (.retv x) ρ = (match ρ[x]? with
    | some (.val d) => some (ρ, .ret d false)
    | some (.own xs) => some (freeze1 x ρ, .ret (.list xs) true)
    | _ => Option.none) := rfl
theorem exq14 : ex Φ .brk ρ = some (ρ, .brk) := rfl
theorem exq15 : ex Φ .cont ρ = some (ρ, .cont) := rfl
end
set_option tactic.hygienic false in
theorem reGo_flat (p : Nat → Bool) : ∀ (s : List Nat) (b : Bool), (reGo p b s).flatten = s ∧ reGo p b s ≠ [] ∧ (reGo p b s).length ≤ s.length + 1
  | [], b => by simp [reGo]
  | x :: r, b => by
    unfold reGo
    split
    · obtain ⟨h1, h2, h3⟩ := reGo_flat p r b
      cases h : reGo p b r with
      | nil => exact absurd h h2
      | cons w ws => rw [h] at h1 h3; simp at h1 h3 ⊢; exact ⟨h1, by (first | lia | omega)⟩
    · obtain ⟨h1, h2, h3⟩ := reGo_flat p r (!b)
      cases h : reGo p (!b) r with
      | nil => exact absurd h h2
      | cons w ws => rw [h] at h1 h3; simp at h1 h3 ⊢; exact ⟨h1, by (first | lia | omega)⟩
set_option tactic.hygienic false in
theorem reSplit_flat (s : List Nat) : (reSplit isWs s).flatten = s ∧ (reSplit isWs s).length ≤ s.length + 2 := by
  obtain ⟨h1, h2, h3⟩ := reGo_flat isWs s false
  unfold reSplit
  simp only
  split
  · simp [h1]; omega
  · exact ⟨h1, by omega⟩
end Mine
end
/-! A2 -/
section
open PySem PySem.W PyProof.Rows
namespace Mine

noncomputable def PTup (h : Heap) (a : Addr) (items : Array Value) : Prop := ∃ n, h.get? a = some { cls := .type "tuple", data := .seq items n }
theorem PTup.isTup {h : Heap} {a : Addr} {items : Array Value} (x : PTup h a items) : IsTup h a items := let ⟨n, e⟩ := x; ⟨_, e, rfl, n, rfl⟩

inductive Rep (N : Addr → Prop) (h : Heap) : Value → D → Prop
  | none : Rep N h .none .none
  | bool (b : Bool) : Rep N h (.bool b) (.bool b)
  | int (i : Int) (t : Tok) : Rep N h (.int i t) (.int i)
  | str (s : List Nat) (t : Tok) (hs : s.length ≤ LIM) : Rep N h (.str ⟨s.toArray⟩ t) (.str s)
  | tup (a : Addr) (vs : List Value) (ds : List D) (hn : ¬ N a) (ha : PTup h a vs.toArray) (hl : vs.length ≤ LIM) (he : vs.length = ds.length)
      (hi : ∀ (i : Nat) (v : Value) (d : D), vs[i]? = some v → ds[i]? = some d → Rep N h v d) : Rep N h (.ref a) (.tup ds)
  | list (a : Addr) (vs : List Value) (ds : List D) (hn : ¬ N a) (ha : h.PlainList a vs.toArray) (hl : vs.length ≤ LIM) (he : vs.length = ds.length)
      (hi : ∀ (i : Nat) (v : Value) (d : D), vs[i]? = some v → ds[i]? = some d → Rep N h v d) : Rep N h (.ref a) (.list ds)
  | range (r : Addr) (a b c : Int) (t u v : Tok) (hn : ¬ N r) (hr : IsRange h r a b c t u v) (hs : small a && small b && decide (1 ≤ c) && small c) : Rep N h (.ref r) (.range a b c)

noncomputable def RepAll (N : Addr → Prop) (h : Heap) (vs : List Value) (ds : List D) : Prop :=
  vs.length = ds.length ∧ ∀ (i : Nat) (v : Value) (d : D), vs[i]? = some v → ds[i]? = some d → Rep N h v d

/-- as Rep, but a list's own address may lie in N -/
noncomputable def RepT (N : Addr → Prop) (h : Heap) (v : Value) : D → Prop
  | .list ds => ∃ a vs, v = .ref a ∧ h.PlainList a vs.toArray ∧ vs.length ≤ LIM ∧ RepAll N h vs ds
  | d => Rep N h v d

noncomputable def RepTAll (N : Addr → Prop) (h : Heap) : List Value → List D → Prop
  | [], [] => True
  | v :: vs, d :: ds => RepT N h v d ∧ RepTAll N h vs ds
  | _, _ => False

structure Grow (s s' : Shared) : Prop where
  os : s'.os = s.os
  gens : s'.gens = s.gens
  keep : ∀ b o, s.heap.get? b = some o → s'.heap.get? b = some o

theorem Grow.rfl' (s : Shared) : Grow s s := ⟨rfl, rfl, fun _ _ e => e⟩
theorem Grow.trans {s s' s'' : Shared} (a : Grow s s') (b : Grow s' s'') : Grow s s'' :=
  ⟨b.os.trans a.os, b.gens.trans a.gens, fun x o e => b.keep x o (a.keep x o e)⟩
theorem Grow.toks (s : Shared) (t : Nat) : Grow s { s with toks := t } := ⟨rfl, rfl, fun _ _ e => e⟩
theorem Grow.push (s : Shared) (o : Obj) (t : Nat) : Grow s { s with heap := s.heap.push o, toks := t } :=
  ⟨rfl, rfl, fun _ _ e => Heap.get?_push_of_some _ e⟩
theorem Grow.of {s : Shared} {h' : Heap} {t : Nat} (hk : ∀ b o, s.heap.get? b = some o → h'.get? b = some o) : Grow s { s with heap := h', toks := t } := ⟨rfl, rfl, hk⟩
set_option tactic.hygienic false in
theorem get_size (h : Heap) : h.get? h.objs.size = none := by
  cases e : h.get? h.objs.size with
  | none => rfl
  | some o => exact absurd (Heap.lt_size e) (Nat.lt_irrefl _)
/-- all of N stands in the heap -/
noncomputable def Alive (N : Addr → Prop) (h : Heap) : Prop := ∀ a, N a → h.get? a ≠ none
theorem Alive.not {N : Addr → Prop} {h : Heap} {a : Addr} (x : Alive N h) (e : h.get? a = none) : ¬ N a := fun y => x a y e
set_option tactic.hygienic false in
theorem Alive.keeps {N : Addr → Prop} {h h' : Heap} (x : Alive N h) (hk : ∀ b o, h.get? b = some o → h'.get? b = some o) : Alive N h' := fun a ha e => by
  cases q : h.get? a with
  | none => exact x a ha q
  | some o => rw [hk a o q] at e; cases e
theorem Alive.grow {N : Addr → Prop} {s s' : Shared} (x : Alive N s.heap) (g : Grow s s') : Alive N s'.heap := x.keeps g.keep

set_option tactic.hygienic false in
theorem Rep.mono {N N' : Addr → Prop} {h h' : Heap} (hk : ∀ a o, ¬ N a → h.get? a = some o → h'.get? a = some o ∧ ¬ N' a) {v : Value} {d : D} (r : Rep N h v d) : Rep N' h' v d := by
  induction r with
  | none => exact .none
  | bool b => exact .bool b
  | int i t => exact .int i t
  | str s t hs => exact .str s t hs
  | tup a vs ds hn ha hl he _ ih =>
    obtain ⟨n, ho⟩ := ha
    exact .tup a vs ds (hk a _ hn ho).2 ⟨n, (hk a _ hn ho).1⟩ hl he ih
  | list a vs ds hn ha hl he _ ih =>
    obtain ⟨n, ho⟩ := ha
    exact .list a vs ds (hk a _ hn ho).2 ⟨n, (hk a _ hn ho).1⟩ hl he ih
  | range r a b c t u v hn hr hs => exact .range r a b c t u v (hk r _ hn hr).2 (hk r _ hn hr).1 hs
theorem Rep.grow {N : Addr → Prop} {s s' : Shared} (g : Grow s s') {v : Value} {d : D} (r : Rep N s.heap v d) : Rep N s'.heap v d :=
  r.mono fun _ _ hn e => ⟨g.keep _ _ e, hn⟩
theorem Rep.sub {N N' : Addr → Prop} {h : Heap} (hs : ∀ a, N' a → N a) {v : Value} {d : D} (r : Rep N h v d) : Rep N' h v d :=
  r.mono fun _ _ hn e => ⟨e, fun x => hn (hs _ x)⟩

theorem RepAll.mono {N N' : Addr → Prop} {h h' : Heap} (hk : ∀ a o, ¬ N a → h.get? a = some o → h'.get? a = some o ∧ ¬ N' a) {vs : List Value} {ds : List D} (r : RepAll N h vs ds) : RepAll N' h' vs ds :=
  ⟨r.1, fun i v d e1 e2 => (r.2 i v d e1 e2).mono hk⟩
theorem RepAll.grow {N : Addr → Prop} {s s' : Shared} (g : Grow s s') {vs : List Value} {ds : List D} (r : RepAll N s.heap vs ds) : RepAll N s'.heap vs ds :=
  r.mono fun _ _ hn e => ⟨g.keep _ _ e, hn⟩
theorem RepAll.sub {N N' : Addr → Prop} {h : Heap} (hs : ∀ a, N' a → N a) {vs : List Value} {ds : List D} (r : RepAll N h vs ds) : RepAll N' h vs ds :=
  ⟨r.1, fun i v d e1 e2 => (r.2 i v d e1 e2).sub hs⟩
set_option tactic.hygienic false in
theorem RepAll.nil {N : Addr → Prop} {h : Heap} : RepAll N h [] [] := ⟨rfl, fun i v d e _ => by simp at e⟩
set_option tactic.hygienic false in
theorem RepAll.cons {N : Addr → Prop} {h : Heap} {v : Value} {d : D} {vs : List Value} {ds : List D} (a : Rep N h v d) (r : RepAll N h vs ds) : RepAll N h (v :: vs) (d :: ds) :=
  ⟨by simp [r.1], fun i => by
    cases i with
    | zero => intro v' d' e1 e2; simp at e1 e2; subst e1; subst e2; exact a
    | succ i => intro v' d' e1 e2; simp at e1 e2; exact r.2 i v' d' e1 e2⟩
theorem RepAll.head {N : Addr → Prop} {h : Heap} {v : Value} {d : D} {vs : List Value} {ds : List D} (r : RepAll N h (v :: vs) (d :: ds)) : Rep N h v d := r.2 0 v d rfl rfl
set_option tactic.hygienic false in
theorem RepAll.tail {N : Addr → Prop} {h : Heap} {v : Value} {d : D} {vs : List Value} {ds : List D} (r : RepAll N h (v :: vs) (d :: ds)) : RepAll N h vs ds :=
  ⟨by simpa using r.1, fun i v' d' e1 e2 => r.2 (i + 1) v' d' (by simpa using e1) (by simpa using e2)⟩
set_option tactic.hygienic false in
theorem RepAll.append {N : Addr → Prop} {h : Heap} {vs vs' : List Value} {ds ds' : List D} (a : RepAll N h vs ds) (b : RepAll N h vs' ds') : RepAll N h (vs ++ vs') (ds ++ ds') := by
  induction vs generalizing ds with
  | nil => cases ds with
    | nil => exact b
    | cons d ds => exact absurd a.1 (by simp)
  | cons v vs ih => cases ds with
    | nil => exact absurd a.1 (by simp)
    | cons d ds => exact RepAll.cons a.head (ih a.tail)
set_option tactic.hygienic false in
theorem RepAll.drop {N : Addr → Prop} {h : Heap} {vs : List Value} {ds : List D} (a : RepAll N h vs ds) (k : Nat) : RepAll N h (vs.drop k) (ds.drop k) :=
  ⟨by simp [a.1], fun i v d e1 e2 => a.2 (k + i) v d (by simpa using e1) (by simpa using e2)⟩
theorem RepAll.take {N : Addr → Prop} {h : Heap} {vs : List Value} {ds : List D} (a : RepAll N h vs ds) (k : Nat) : RepAll N h (vs.take k) (ds.take k) :=
  ⟨by simp [a.1], fun i v d e1 e2 => by
    rw [List.getElem?_take] at e1 e2
    split at e1
    · rename_i hlt; rw [if_pos hlt] at e2; exact a.2 i v d e1 e2
    · cases e1⟩
theorem RepAll.set {N : Addr → Prop} {h : Heap} {vs : List Value} {ds : List D} (a : RepAll N h vs ds) {k : Nat} {v : Value} {d : D} (r : Rep N h v d) : RepAll N h (vs.set k v) (ds.set k d) :=
  ⟨by simp [a.1], fun i v' d' e1 e2 => by
    rw [List.getElem?_set] at e1 e2
    by_cases hik : k = i
    · subst hik
      simp only [if_true] at e1 e2
      split at e1
      · rename_i hlt
        rw [if_pos (a.1 ▸ hlt)] at e2
        cases e1; cases e2; exact r
      · cases e1
    · rw [if_neg hik] at e1 e2; exact a.2 i v' d' e1 e2⟩

set_option tactic.hygienic false in
theorem Rep.toT {N : Addr → Prop} {h : Heap} {v : Value} {d : D} (r : Rep N h v d) : RepT N h v d := by
  cases r with
  | list a vs ds hn ha hl he hi => exact ⟨a, vs, rfl, ha, hl, he, hi⟩
  | none => exact .none
  | bool b => exact .bool b
  | int i t => exact .int i t
  | str s t hs => exact .str s t hs
  | tup a vs ds hn ha hl he hi => exact .tup a vs ds hn ha hl he hi
  | range r a b c t u v hn hr hs => exact .range r a b c t u v hn hr hs
set_option tactic.hygienic false in
theorem RepT.mono {N N' : Addr → Prop} {h h' : Heap} (hk : ∀ a o, h.get? a = some o → h'.get? a = some o ∧ (¬ N a → ¬ N' a)) {v : Value} {d : D} (r : RepT N h v d) : RepT N' h' v d := by
  have hk' : ∀ a o, ¬ N a → h.get? a = some o → h'.get? a = some o ∧ ¬ N' a := fun a o hn e => ⟨(hk a o e).1, (hk a o e).2 hn⟩
  cases d with
  | list ds =>
    obtain ⟨a, vs, rfl, ⟨n, ho⟩, hl, ra⟩ := r
    exact ⟨a, vs, rfl, ⟨n, (hk a _ ho).1⟩, hl, ra.mono hk'⟩
  | none => exact Rep.mono hk' r
  | bool b => exact Rep.mono hk' r
  | int i => exact Rep.mono hk' r
  | str s => exact Rep.mono hk' r
  | tup ds => exact Rep.mono hk' r
  | range a b c => exact Rep.mono hk' r
theorem RepT.grow {N : Addr → Prop} {s s' : Shared} (g : Grow s s') {v : Value} {d : D} (r : RepT N s.heap v d) : RepT N s'.heap v d :=
  r.mono fun _ _ e => ⟨g.keep _ _ e, id⟩
theorem RepTAll.grow {N : Addr → Prop} {s s' : Shared} (g : Grow s s') : ∀ {vs : List Value} {ds : List D}, RepTAll N s.heap vs ds → RepTAll N s'.heap vs ds
  | [], [], _ => trivial
  | _ :: _, _ :: _, h => ⟨h.1.grow g, RepTAll.grow g h.2⟩
  | [], _ :: _, h => h.elim
  | _ :: _, [], h => h.elim
set_option tactic.hygienic false in
theorem RepTAll.length {N : Addr → Prop} {h : Heap} : ∀ {vs : List Value} {ds : List D}, RepTAll N h vs ds → vs.length = ds.length
  | [], [], _ => rfl
  | _ :: _, _ :: _, h => by simp [RepTAll.length h.2]
  | [], _ :: _, h => h.elim
  | _ :: _, [], h => h.elim

/-! inversion by the datum -/
set_option tactic.hygienic false in
theorem Rep.inv_int {N : Addr → Prop} {h : Heap} {v : Value} {i : Int} (r : Rep N h v (.int i)) : ∃ t, v = .int i t := by cases r with | int _ t => exact ⟨t, rfl⟩
set_option tactic.hygienic false in
theorem Rep.inv_bool {N : Addr → Prop} {h : Heap} {v : Value} {b : Bool} (r : Rep N h v (.bool b)) : v = .bool b := by cases r; rfl
set_option tactic.hygienic false in
theorem Rep.inv_none {N : Addr → Prop} {h : Heap} {v : Value} (r : Rep N h v .none) : v = .none := by cases r; rfl
set_option tactic.hygienic false in
theorem Rep.inv_str {N : Addr → Prop} {h : Heap} {v : Value} {s : List Nat} (r : Rep N h v (.str s)) : ∃ t, v = .str ⟨s.toArray⟩ t ∧ s.length ≤ LIM := by cases r with | str _ t hs => exact ⟨t, rfl, hs⟩
set_option tactic.hygienic false in
theorem Rep.inv_tup {N : Addr → Prop} {h : Heap} {v : Value} {ds : List D} (r : Rep N h v (.tup ds)) : ∃ a vs, v = .ref a ∧ ¬ N a ∧ PTup h a vs.toArray ∧ vs.length ≤ LIM ∧ RepAll N h vs ds := by
  cases r with | tup a vs _ hn ha hl he hi => exact ⟨a, vs, rfl, hn, ha, hl, he, hi⟩
set_option tactic.hygienic false in
theorem Rep.inv_list {N : Addr → Prop} {h : Heap} {v : Value} {ds : List D} (r : Rep N h v (.list ds)) : ∃ a vs, v = .ref a ∧ ¬ N a ∧ h.PlainList a vs.toArray ∧ vs.length ≤ LIM ∧ RepAll N h vs ds := by
  cases r with | list a vs _ hn ha hl he hi => exact ⟨a, vs, rfl, hn, ha, hl, he, hi⟩
set_option tactic.hygienic false in
theorem Rep.inv_range {N : Addr → Prop} {h : Heap} {v : Value} {a b c : Int} (r : Rep N h v (.range a b c)) : ∃ r t u w, v = .ref r ∧ ¬ N r ∧ IsRange h r a b c t u w ∧ (small a && small b && decide (1 ≤ c) && small c) = true := by
  cases r with | range r _ _ _ t u w hn hr hs => exact ⟨r, t, u, w, rfl, hn, hr, hs⟩
theorem Rep.mk_list {N : Addr → Prop} {h : Heap} {a : Addr} {vs : List Value} {ds : List D} (hn : ¬ N a) (ha : h.PlainList a vs.toArray) (hl : vs.length ≤ LIM) (r : RepAll N h vs ds) : Rep N h (.ref a) (.list ds) := .list a vs ds hn ha hl r.1 r.2
theorem Rep.mk_tup {N : Addr → Prop} {h : Heap} {a : Addr} {vs : List Value} {ds : List D} (hn : ¬ N a) (ha : PTup h a vs.toArray) (hl : vs.length ≤ LIM) (r : RepAll N h vs ds) : Rep N h (.ref a) (.tup ds) := .tup a vs ds hn ha hl r.1 r.2
set_option tactic.hygienic false in
theorem Rep.scalar_any {N N' : Addr → Prop} {h h' : Heap} {v : Value} {d : D} (hd : scalar d = true) (r : Rep N h v d) : Rep N' h' v d := by
  cases r with
  | none => exact .none
  | bool b => exact .bool b
  | int i t => exact .int i t
  | str s t hs => exact .str s t hs
  | tup => cases hd
  | list => cases hd
  | range => cases hd

set_option tactic.hygienic false in
theorem RepAll.ints {N : Addr → Prop} {h : Heap} : ∀ {vs : List Value} {ds : List D} {l : List Int}, RepAll N h vs ds → ints? ds = some l → ∃ ts : List Tok, vs = (l.zip ts).map (fun p => Value.int p.1 p.2) ∧ ts.length = l.length
  | [], [], l, _, e => by cases e; exact ⟨[], rfl, rfl⟩
  | v :: vs, d :: ds, l, r, e => by
    cases d with
    | int i =>
      simp only [ints?, Option.map_eq_some_iff] at e
      obtain ⟨l', e', rfl⟩ := e
      obtain ⟨ts, rfl, ht⟩ := RepAll.ints r.tail e'
      obtain ⟨t, rfl⟩ := r.head.inv_int
      exact ⟨t :: ts, rfl, by simp [ht]⟩
    | _ => cases e
  | [], _ :: _, _, r, _ => absurd r.1 (by simp)
  | _ :: _, [], _, r, _ => absurd r.1 (by simp)
set_option tactic.hygienic false in
theorem RepAll.strs {N : Addr → Prop} {h : Heap} : ∀ {vs : List Value} {ds : List D} {l : List (List Nat)}, RepAll N h vs ds → strs? ds = some l → ∃ ts : List Tok, vs = (l.zip ts).map (fun p => Value.str ⟨p.1.toArray⟩ p.2) ∧ ts.length = l.length
  | [], [], l, _, e => by cases e; exact ⟨[], rfl, rfl⟩
  | v :: vs, d :: ds, l, r, e => by
    cases d with
    | str i =>
      simp only [strs?, Option.map_eq_some_iff] at e
      obtain ⟨l', e', rfl⟩ := e
      obtain ⟨ts, rfl, ht⟩ := RepAll.strs r.tail e'
      obtain ⟨t, rfl, _⟩ := r.head.inv_str
      exact ⟨t :: ts, rfl, by simp [ht]⟩
    | _ => cases e
  | [], _ :: _, _, r, _ => absurd r.1 (by simp)
  | _ :: _, [], _, r, _ => absurd r.1 (by simp)

set_option tactic.hygienic false in
theorem LIM_eq : LIM = sizeLine := by decide
end Mine
end
/-! P1 -/
section
open PySem PySem.W PyProof.Rows
namespace Mine

noncomputable abbrev NoE : Value → Shared → Prop := fun _ _ => False

/-- what an operation gives: the datum, all else as it was; a list is a new one -/
structure Ok (N : Addr → Prop) (s : Shared) (d : D) (v : Value) (s' : Shared) : Prop where
  grow : Grow s s'
  rep : Rep N s'.heap v d
  new : ∀ xs, d = .list xs → ∃ a vs, v = .ref a ∧ s.heap.get? a = none ∧ s'.heap.PlainList a vs

noncomputable def pyBop : Bop → Operator
  | .add => .Add | .sub => .Sub | .mul => .Mult | .fdiv => .FloorDiv | .mod => .Mod
noncomputable def pyCop : Cop → CmpOp
  | .eq => .Eq | .ne => .NotEq | .lt => .Lt | .le => .LtE | .gt => .Gt | .ge => .GtE | .isNone => .Is | .notNone => .IsNot | .isIn => .In | .notIn => .NotIn

section
variable {prog : Program} {w : World} {A : Around} {s : Shared} {N : Addr → Prop}

set_option tactic.hygienic false in
theorem Ok.int {i : Int} {t : Nat} : Ok N s (.int i) (.int i t) s := ⟨Grow.rfl' _, .int _ _, fun _ e => by cases e⟩
set_option tactic.hygienic false in
theorem Ok.int' {i : Int} {t k : Nat} : Ok N s (.int i) (.int i t) { s with toks := k } := ⟨Grow.toks _ _, .int _ _, fun _ e => by cases e⟩
set_option tactic.hygienic false in
theorem Ok.str' {x : List Nat} {t k : Nat} (h : x.length ≤ LIM) : Ok N s (.str x) (.str ⟨x.toArray⟩ t) { s with toks := k } := ⟨Grow.toks _ _, .str _ _ h, fun _ e => by cases e⟩
set_option tactic.hygienic false in
theorem Ok.newList {vs : List Value} {ds : List D} {k : Nat} (hN : Alive N s.heap) (hl : vs.length ≤ LIM) (r : RepAll N s.heap vs ds) :
    Ok N s (.list ds) (.ref s.heap.objs.size) { s with heap := s.heap.push { cls := .type "list", data := .seq vs.toArray }, toks := k } := by
  have hp : (s.heap.push { cls := .type "list", data := .seq vs.toArray }).PlainList s.heap.objs.size vs.toArray := ⟨0, Heap.get?_push_size _ rfl⟩
  exact ⟨Grow.push _ _ _, Rep.mk_list (hN.not (get_size _)) hp hl (r.grow (Grow.push s _ k)), fun _ _ => ⟨_, _, rfl, get_size _, hp⟩⟩
set_option tactic.hygienic false in
theorem Ok.newTup {vs : List Value} {ds : List D} {k : Nat} (hN : Alive N s.heap) (hl : vs.length ≤ LIM) (r : RepAll N s.heap vs ds) :
    Ok N s (.tup ds) (.ref s.heap.objs.size) { s with heap := s.heap.push { cls := .type "tuple", data := .seq vs.toArray }, toks := k } :=
  ⟨Grow.push _ _ _, Rep.mk_tup (hN.not (get_size _)) ⟨0, Heap.get?_push_size _ rfl⟩ hl (r.grow (Grow.push s _ k)), fun _ e => by cases e⟩

set_option tactic.hygienic false in
theorem foldl_replicate (x : Array Nat) (n : Nat) : ∀ acc : Array Nat, ((List.replicate n x).foldl (· ++ ·) acc).toList = acc.toList ++ (List.replicate n x.toList).flatten := by
  induction n with
  | zero => simp
  | succ n ih => intro acc; rw [List.replicate_succ, List.foldl_cons, ih]; simp [List.replicate_succ]
set_option tactic.hygienic false in
theorem foldl_replicateV (x : Array Value) (n : Nat) : ∀ acc : Array Value, ((List.replicate n x).foldl (· ++ ·) acc).toList = acc.toList ++ (List.replicate n x.toList).flatten := by
  induction n with
  | zero => simp
  | succ n ih => intro acc; rw [List.replicate_succ, List.foldl_cons, ih]; simp [List.replicate_succ]

set_option tactic.hygienic false in
theorem RepAll.rep {h : Heap} {vs : List Value} {ds : List D} (r : RepAll N h vs ds) : ∀ n : Nat, RepAll N h (List.replicate n vs).flatten (List.replicate n ds).flatten
  | 0 => .nil
  | n + 1 => by simp only [List.replicate_succ, List.flatten_cons]; exact r.append (RepAll.rep r n)

theorem binD_sound {op : Bop} {a b d : D} {v u : Value} (hN : Alive N s.heap) (ra : RepT N s.heap v a) (rb : RepT N s.heap u b) (e : binD op a b = some d) :
    wpAny (model prog w) A (binaryOp (pyBop op) v u) (Ok N s d) NoE s := by
  unfold binD at e
  cases op with
  | add =>
    dsimp only at e
    split at e
    · cases e
      obtain ⟨t, rfl⟩ := Rep.inv_int ra; obtain ⟨t', rfl⟩ := Rep.inv_int rb
      exact add_int .int'
    · split at e
      · cases e
        rename_i x y hlen
        obtain ⟨t, rfl, h1⟩ := Rep.inv_str ra; obtain ⟨t', rfl, h2⟩ := Rep.inv_str rb
        refine P.add_str ?_
        split
        · rename_i h0
          have : x = [] := by simpa [Str.length] using h0
          subst this
          exact ⟨Grow.rfl' _, .str _ _ h2, fun _ e => by cases e⟩
        · split
          · rename_i h0
            have : y = [] := by simpa [Str.length] using h0
            subst this
            exact ⟨Grow.rfl' _, by simpa using Rep.str (N := N) (h := s.heap) x t h1, fun _ e => by cases e⟩
          · have hx : (⟨x.toArray⟩ : Str) ++ (⟨y.toArray⟩ : Str) = ⟨(x ++ y).toArray⟩ := by show Str.append _ _ = _; simp [Str.append]
            rw [hx]
            exact ⟨by show (x ++ y).toArray.size ≤ sizeLine; rw [← LIM_eq]; simpa using hlen, Ok.str' (by simpa using hlen)⟩
      · cases e
    · split at e
      · cases e
        rename_i x y hlen
        obtain ⟨l, vs, rfl, ⟨n, hl⟩, h1, r1⟩ := ra; obtain ⟨l', vs', rfl, ⟨n', hl'⟩, h2, r2⟩ := rb
        refine P.add_list hl hl' ?_ ?_
        · have hv : vs.toArray ++ vs'.toArray = (vs ++ vs').toArray := by simp
          rw [hv]
          exact Ok.newList hN (by simp [r1.1, r2.1]; exact hlen) (r1.append r2)
        · rw [← LIM_eq]; simp [r1.1, r2.1]; exact hlen
      · cases e
    · cases e
  | sub =>
    dsimp only at e
    split at e
    · cases e
      obtain ⟨t, rfl⟩ := Rep.inv_int ra; obtain ⟨t', rfl⟩ := Rep.inv_int rb
      exact sub_int .int'
    · cases e
  | mul =>
    dsimp only at e
    split at e
    · split at e
      · cases e
        rename_i x n hb
        obtain ⟨t, rfl, h1⟩ := Rep.inv_str ra; obtain ⟨t', rfl⟩ := Rep.inv_int rb
        obtain ⟨hn0, hn1, hn2⟩ := hb
        refine P.mul_str ?_ ?_ ?_ ?_
        · simp only [Bool.or_eq_false_iff, decide_eq_false_iff_not]; (first | lia | omega)
        · intro _ _ hgt
          have hx : (Str.length ⟨x.toArray⟩ : Nat) = x.length := by simp [Str.length]
          rw [hx] at hgt
          have : ((2 ^ 63 - 1 : Int) / n) < x.length := hgt
          have h3 : (2 ^ 63 - 1 : Int) < x.length * n := by
            rw [Int.ediv_lt_iff_lt_mul (by (first | lia | omega))] at this; exact this
          have h4 : (x.length * n.toNat : Nat) ≤ 16777216 := hn2
          have h5 : ((x.length * n.toNat : Nat) : Int) = x.length * n := by rw [Int.natCast_mul, Int.toNat_of_nonneg hn0]
          (first | lia | omega)
        · intro _ _
          have hx : (Str.length ⟨x.toArray⟩ : Nat) = x.length := by simp [Str.length]
          rw [hx]
          simp only [Builtin.Str.tooLong, decide_eq_false_iff_not]
          rw [← LIM_eq]; (first | lia | omega)
        · have hlen : (List.replicate n.toNat x).flatten.length ≤ LIM := by simpa [Nat.mul_comm] using hn2
          split
          · have : n.toNat = 0 := by (first | lia | omega)
            rw [this]
            exact ⟨by decide, by simpa [Str.empty] using Ok.str' (N := N) (s := s) (x := []) (t := s.toks) (k := s.toks + 1) (by simp)⟩
          · split
            · rename_i h0
              rw [Bool.or_eq_true] at h0
              have hf : (List.replicate n.toNat x).flatten = x := by
                rcases h0 with h0 | h0
                · have : n = 1 := by simpa using h0
                  subst this; simp
                · have : x = [] := by simpa [Str.length] using h0
                  subst this; simp
              rw [hf]
              exact ⟨Grow.rfl' _, .str _ _ h1, fun _ e => by cases e⟩
            · have hx : (⟨(List.replicate n.toNat (Str.cps ⟨x.toArray⟩)).foldl (· ++ ·) #[]⟩ : Str) = ⟨(List.replicate n.toNat x).flatten.toArray⟩ := by
                congr 1
                apply Array.ext'
                rw [foldl_replicate]; simp
              rw [hx]
              exact ⟨by show (List.replicate n.toNat x).flatten.toArray.size ≤ sizeLine; rw [← LIM_eq]; simpa using hlen, Ok.str' hlen⟩
      · cases e
    · split at e
      · cases e
        rename_i x n hb
        obtain ⟨l, vs, rfl, ⟨k, hl⟩, h1, r1⟩ := ra; obtain ⟨t', rfl⟩ := Rep.inv_int rb
        obtain ⟨hn0, hn1, hn2⟩ := hb
        have hbig : ¬ vs.toArray.size * n.toNat > (2 ^ 63 - 1) / 8 := by
          have h3 : vs.toArray.size = x.length := by simp [r1.1]
          have h4 : LIM = 16777216 := rfl
          rw [h3]; (first | lia | omega)
        refine wpAny_binaryOp_repeat_ref (T := "list") (U := "int") (by decide) ⟨_, hl, rfl⟩ (fun s' => typeIs_int s' n t') noFill_list_mul F.fills_int_mul F.slot_int_rmul repeat_list F.slot_int_index.lookup
          (call_meets F.slot_int_rmul (typeIs_int s n t') F.entry_int_rmul (F.args_int_rmul_2 _ _) (int___rmul___int_list n t' l vs.toArray k)
            ⟨hl, rfl, ⟨_, hl, rfl⟩, call_meets F.slot_list_mul ⟨_, hl, rfl⟩ F.entry_list_mul (F.args_list_mul_2 _ _)
              (AutoListH.list___mul___list_int_3 l vs.toArray k n t' (by simp [Builtin.List.listFitsIndex]; (first | lia | omega)) hbig (by simp [Builtin.List.listTooLong]; rw [← LIM_eq, r1.1]; (first | lia | omega))) ⟨hl, ?_⟩⟩)
        have hx : ((List.replicate (if vs.toArray.isEmpty = true then 0 else n.toNat) vs.toArray).foldl (fun x1 x2 => x1 ++ x2) #[]) = (List.replicate n.toNat vs).flatten.toArray := by
          apply Array.ext'
          rw [foldl_replicateV]
          cases vs with
          | nil => simp
          | cons v vs => simp
        show Ok N s _ _ _
        rw [hx]
        exact Ok.newList hN (by simp [r1.1]; simpa [Nat.mul_comm] using hn2) (r1.rep _)
      · cases e
    · split at e
      · cases e
        rename_i x y hb
        obtain ⟨t, rfl⟩ := Rep.inv_int ra; obtain ⟨t', rfl⟩ := Rep.inv_int rb
        exact PySem.P.mul_int .int' (IntMulOk.of_right (by rcases hb with rfl | rfl <;> decide))
      · cases e
    · cases e
  | fdiv =>
    dsimp only at e
    split at e
    · split at e
      · cases e
        rename_i x y hb
        obtain ⟨t, rfl⟩ := Rep.inv_int ra; obtain ⟨t', rfl⟩ := Rep.inv_int rb
        refine floordiv_int (by (first | lia | omega)) ?_ (.inl (PyProof.noPylong_small (by (first | lia | omega))))
        rw [Int.fdiv_eq_ediv_of_nonneg _ (by (first | lia | omega))]
        exact .int'
      · cases e
    · cases e
  | mod =>
    dsimp only at e
    split at e
    · split at e
      · cases e
        rename_i x y hb
        obtain ⟨t, rfl⟩ := Rep.inv_int ra; obtain ⟨t', rfl⟩ := Rep.inv_int rb
        refine mod_int' (by (first | lia | omega)) ?_
        rw [Int.fmod_eq_emod_of_nonneg _ (by (first | lia | omega))]
        exact .int'
      · cases e
    · cases e
end
end Mine
end
/-! P2 -/
section
open PySem PySem.W PyProof.Rows PySem.SeqAt
namespace Mine

set_option tactic.hygienic false in
theorem range_all_beq {α : Type} [BEq α] [LawfulBEq α] : ∀ (xs ys : List α), xs.length = ys.length → (List.range xs.length).all (fun j => xs[j]? == ys[j]?) = (xs == ys)
  | [], [], _ => rfl
  | x :: xs, y :: ys, h => by
    have h' : xs.length = ys.length := by simpa using h
    rw [List.length_cons, List.range_succ_eq_map, List.all_cons, List.all_map]
    have := range_all_beq xs ys h'
    simp only [Function.comp_def, List.getElem?_cons_zero, List.getElem?_cons_succ]
    rw [this]
    simp [List.cons_beq_cons]
  | [], _ :: _, h => by simp at h
  | _ :: _, [], h => by simp at h

set_option tactic.hygienic false in
theorem str_beq (x y : List Nat) : ((⟨x.toArray⟩ : Str) == ⟨y.toArray⟩) = (x == y) := by
  rw [Bool.eq_iff_iff]
  simp only [beq_iff_eq, Str.mk.injEq]
  constructor
  · intro h; exact List.toArray_inj h
  · intro h; rw [h]

set_option tactic.hygienic false in
theorem infixB_iff (y x : List Nat) : infixB y x = true ↔ ∃ i, i + y.length ≤ x.length ∧ (x.drop i).take y.length = y := by
  induction x with
  | nil =>
    simp only [infixB, List.isEmpty_iff]
    constructor
    · rintro rfl; exact ⟨0, by simp⟩
    · rintro ⟨i, h1, h2⟩
      have : y.length = 0 := by simp only [List.length_nil] at h1; (first | lia | omega)
      exact List.length_eq_zero_iff.mp this
  | cons a x ih =>
    rw [infixB, Bool.or_eq_true, ih, List.isPrefixOf_iff_prefix]
    constructor
    · rintro (h | ⟨i, h1, h2⟩)
      · refine ⟨0, by simpa using h.length_le, ?_⟩
        rw [List.drop_zero]; exact (List.prefix_iff_eq_take.mp h).symm
      · exact ⟨i + 1, by simp; (first | lia | omega), by simpa using h2⟩
    · rintro ⟨i, h1, h2⟩
      cases i with
      | zero =>
        left
        rw [List.drop_zero] at h2
        rw [← h2]; exact List.take_prefix _ _
      | succ i => right; exact ⟨i, by simp at h1; (first | lia | omega), by simpa using h2⟩

set_option tactic.hygienic false in
theorem found_infix (x y : List Nat) : (!(Builtin.Str.occurrences ⟨x.toArray⟩ ⟨y.toArray⟩ 0 (Str.length ⟨x.toArray⟩) 1).isEmpty) = infixB y x := by
  rw [Bool.eq_iff_iff, StrLaws.found_iff, infixB_iff]
  constructor
  · rintro ⟨i, h1, h2⟩
    refine ⟨i, by simpa [Str.length] using h1, ?_⟩
    rw [StrLaws.subAt_eq] at h2
    simpa [Str.length] using h2
  · rintro ⟨i, h1, h2⟩
    refine ⟨i, by simpa [Str.length] using h1, ?_⟩
    rw [StrLaws.subAt_eq]
    simpa [Str.length] using h2

section
variable {prog : Program} {w : World} {A : Around} {s : Shared} {N : Addr → Prop}

theorem eqS_at {a b : D} {v u : Value} {k : Bool} (hu : A.units + 10 < cLine) (ra : RepT N s.heap v a) (rb : RepT N s.heap u b) (e : eqS a b = some k) :
    RcAt A s v u k ∧ RcNeAt A s v u (!k) := by
  unfold eqS at e
  split at e
  · cases e; obtain ⟨t, rfl⟩ := Rep.inv_int ra; obtain ⟨t', rfl⟩ := Rep.inv_int rb
    exact ⟨RcAt.int_int _ _ _ _, RcNeAt.int_int _ _ _ _⟩
  · cases e; obtain ⟨t, rfl, _⟩ := Rep.inv_str ra; obtain ⟨t', rfl, _⟩ := Rep.inv_str rb
    rw [← str_beq]
    exact ⟨RcAt.str_str _ _ _ _, RcNeAt.str_str _ _ _ _⟩
  · obtain ⟨l, vs, rfl, hl, h1, r1⟩ := ra; obtain ⟨l', vs', rfl, hl', h2, r2⟩ := rb
    split at e
    · rename_i hne
      cases e
      have hz : (vs.toArray.size != vs'.toArray.size) = true := by simpa [r1.1, r2.1] using hne
      exact ⟨RcAt.lists_lengths hl.isList hl'.isList hz (by (first | lia | omega)), RcNeAt.lists_lengths hl.isList hl'.isList hz (by (first | lia | omega))⟩
    · rename_i x y hne
      have hxy : x.length = y.length := by simpa using hne
      have hz : vs.toArray.size = vs'.toArray.size := by simp [r1.1, r2.1, hxy]
      split at e
      · rename_i lx ly ex ey
        cases e
        obtain ⟨ts, hv, ht⟩ := r1.ints ex; obtain ⟨ts', hv', ht'⟩ := r2.ints ey
        have hlx : lx.length = vs.length := by rw [hv]; simp [ht]
        have hly : ly.length = vs'.length := by rw [hv']; simp [ht']
        have hll : lx.length = ly.length := by rw [hlx, hly, r1.1, r2.1, hxy]
        have he : ∀ j (h1 : j < vs.toArray.size) (h2 : j < vs'.toArray.size), EqAt A.in1 s vs.toArray[j] vs'.toArray[j] (lx[j]? == ly[j]?) := by
          intro j g1 g2
          simp only [List.getElem_toArray]
          have g1' : j < lx.length := by simpa [hlx] using g1
          have g2' : j < ly.length := by simpa [hly] using g2
          have q1 : vs[j]'(by simpa using g1) = .int lx[j] (ts[j]'(by (first | lia | omega))) := by simp [hv]
          have q2 : vs'[j]'(by simpa using g2) = .int ly[j] (ts'[j]'(by (first | lia | omega))) := by simp [hv']
          rw [q1, q2, List.getElem?_eq_getElem g1', List.getElem?_eq_getElem g2']
          simpa using EqAt.int_int (A := A.in1) (s := s) lx[j] _ ly[j] _
        have hr : (List.range vs.toArray.size).all (fun j => lx[j]? == ly[j]?) = (lx == ly) := by
          rw [← range_all_beq lx ly hll, hlx]; simp
        exact ⟨hr ▸ RcAt.lists hl.isList hl'.isList hz (by (first | lia | omega)) he, hr ▸ RcNeAt.lists hl.isList hl'.isList hz (by (first | lia | omega)) he⟩
      · split at e
        · rename_i lx ly ex ey
          cases e
          obtain ⟨ts, hv, ht⟩ := r1.strs ex; obtain ⟨ts', hv', ht'⟩ := r2.strs ey
          have hlx : lx.length = vs.length := by rw [hv]; simp [ht]
          have hly : ly.length = vs'.length := by rw [hv']; simp [ht']
          have hll : lx.length = ly.length := by rw [hlx, hly, r1.1, r2.1, hxy]
          have he : ∀ j (h1 : j < vs.toArray.size) (h2 : j < vs'.toArray.size), EqAt A.in1 s vs.toArray[j] vs'.toArray[j] (lx[j]? == ly[j]?) := by
            intro j g1 g2
            simp only [List.getElem_toArray]
            have g1' : j < lx.length := by simpa [hlx] using g1
            have g2' : j < ly.length := by simpa [hly] using g2
            have q1 : vs[j]'(by simpa using g1) = .str ⟨lx[j].toArray⟩ (ts[j]'(by (first | lia | omega))) := by simp [hv]
            have q2 : vs'[j]'(by simpa using g2) = .str ⟨ly[j].toArray⟩ (ts'[j]'(by (first | lia | omega))) := by simp [hv']
            rw [q1, q2, List.getElem?_eq_getElem g1', List.getElem?_eq_getElem g2']
            have h := EqAt.str_str (A := A.in1) (s := s) ⟨lx[j].toArray⟩ (ts[j]'(by (first | lia | omega))) ⟨ly[j].toArray⟩ (ts'[j]'(by (first | lia | omega)))
            rw [str_beq] at h
            simpa using h
          have hr : (List.range vs.toArray.size).all (fun j => lx[j]? == ly[j]?) = (lx == ly) := by
            rw [← range_all_beq lx ly hll, hlx]; simp
          exact ⟨hr ▸ RcAt.lists hl.isList hl'.isList hz (by (first | lia | omega)) he, hr ▸ RcNeAt.lists hl.isList hl'.isList hz (by (first | lia | omega)) he⟩
        · cases e
  · cases e

theorem inD_sound {a b : D} {v u : Value} {k : Bool} {Q : Value → Shared → Prop} (ra : RepT N s.heap v a) (rb : RepT N s.heap u b) (e : inD a b = some k) :
    (Q (.bool k) s → wpAny (model prog w) A (compareOp .In v u) Q NoE s) ∧ (Q (.bool (!k)) s → wpAny (model prog w) A (compareOp .NotIn v u) Q NoE s) := by
  unfold inD at e
  split at e
  · cases e
    obtain ⟨t, rfl, _⟩ := Rep.inv_str ra; obtain ⟨t', rfl, _⟩ := Rep.inv_str rb
    rw [← found_infix]
    exact ⟨fun h => P.in_str h, fun h => P.notIn_str h⟩
  · simp only [Option.map_eq_some_iff] at e
    obtain ⟨l, el, rfl⟩ := e
    rename_i x y
    obtain ⟨t, rfl, _⟩ := Rep.inv_str ra
    obtain ⟨a', vs, rfl, hn, hl, h1, r1⟩ := Rep.inv_tup rb
    obtain ⟨ts, hv, ht⟩ := r1.strs el
    have he : ∀ y, y ∈ vs.toArray → EqAt A.in1 s y (.str ⟨x.toArray⟩ t) ((fun v => match v with | .str i _ => i == ⟨x.toArray⟩ | _ => false) y) := by
      intro y hy
      have hy' : y ∈ vs := by simpa using hy
      rw [hv] at hy'
      obtain ⟨⟨i, t'⟩, _, rfl⟩ := List.mem_map.mp hy'
      exact EqAt.str_str _ _ _ _
    have hany : vs.toArray.any (fun v => match v with | .str i _ => i == ⟨x.toArray⟩ | _ => false) = l.contains x := by
      simp only [List.any_toArray, hv, List.any_map, Function.comp_def]
      clear hv r1 h1 hl el he hn ra rb
      induction l generalizing ts with
      | nil => simp
      | cons i l ih => cases ts with
        | nil => simp at ht
        | cons t ts => simp at ht; simp only [List.zip_cons_cons, List.any_cons, List.contains_cons, str_beq]; rw [← ih ts ht]; simp [BEq.comm, str_beq]
    exact ⟨fun h => in_tupleAt _ hl.isTup he (hany ▸ h), fun h => notIn_tupleAt _ hl.isTup he (hany ▸ h)⟩
  · cases e

set_option tactic.hygienic false in
theorem cmpD_sound {op : Cop} {a b : D} {v u : Value} {k : Bool} (hu : A.units + 10 < cLine) (ra : RepT N s.heap v a) (rb : RepT N s.heap u b) (e : cmpD op a b = some k) :
    wpAny (model prog w) A (compareOp (pyCop op) v u) (fun r s' => r = .bool k ∧ Grow s s') NoE s := by
  unfold cmpD at e
  cases op with
  | eq =>
    exact (eqS_at hu ra rb e).1 prog w _ _ ⟨rfl, Grow.rfl' _⟩
  | ne =>
    simp only [Option.map_eq_some_iff] at e
    obtain ⟨k, e, rfl⟩ := e
    exact (eqS_at hu ra rb e).2 prog w _ _ ⟨rfl, Grow.rfl' _⟩
  | lt =>
    dsimp only at e
    split at e
    · cases e; obtain ⟨t, rfl⟩ := Rep.inv_int ra; obtain ⟨t', rfl⟩ := Rep.inv_int rb
      exact lt_int ⟨rfl, Grow.rfl' _⟩
    · cases e
  | le =>
    dsimp only at e
    split at e
    · cases e; obtain ⟨t, rfl⟩ := Rep.inv_int ra; obtain ⟨t', rfl⟩ := Rep.inv_int rb
      exact P.le_int ⟨rfl, Grow.rfl' _⟩
    · cases e
  | gt =>
    dsimp only at e
    split at e
    · cases e; obtain ⟨t, rfl⟩ := Rep.inv_int ra; obtain ⟨t', rfl⟩ := Rep.inv_int rb
      exact gt_int ⟨rfl, Grow.rfl' _⟩
    · cases e
  | ge =>
    dsimp only at e
    split at e
    · cases e; obtain ⟨t, rfl⟩ := Rep.inv_int ra; obtain ⟨t', rfl⟩ := Rep.inv_int rb
      exact P.ge_int ⟨rfl, Grow.rfl' _⟩
    · cases e
  | isNone =>
    cases e
  | notNone =>
    cases e
  | isIn =>
    exact (inD_sound ra rb e).1 ⟨rfl, Grow.rfl' _⟩
  | notIn =>
    simp only [Option.map_eq_some_iff] at e
    obtain ⟨k, e, rfl⟩ := e
    exact (inD_sound ra rb e).2 ⟨rfl, Grow.rfl' _⟩

theorem truthD_sound {d : D} {v : Value} {k : Bool} (ra : RepT N s.heap v d) (e : truthD d = some k) :
    wpAny (model prog w) A (truthy v) (fun b s' => b = k ∧ Grow s s') NoE s := by
  unfold truthD at e
  split at e
  · cases e; obtain rfl := Rep.inv_bool ra; exact wpAny_truthy_bool ⟨rfl, Grow.rfl' _⟩
  · rename_i x
    cases e; obtain ⟨t, rfl, hx⟩ := Rep.inv_str ra
    have hL : LIM = 16777216 := rfl
    refine P.truthy_str (by simp [Str.length]; (first | lia | omega)) ⟨?_, Grow.toks _ _⟩
    cases x <;> simp [Str.length]
    (first | lia | omega)
  · cases e
end
end Mine
end
/-! P3 -/
section
open PySem PySem.W PyProof.Rows PySem.SeqAt
namespace Mine

set_option tactic.hygienic false in
theorem place_seqIndex {i : Int} {n k : Nat} (h : place? i n = some k) : seqIndex? i n = some k := by
  unfold place? at h
  unfold seqIndex?
  split at h
  · split at h
    · cases h
      simp only [show ¬ i < 0 from by (first | lia | omega), if_false]
      rw [if_pos (by simp only [Bool.and_eq_true, decide_eq_true_eq]; (first | lia | omega))]
    · cases h
  · split at h
    · cases h
      simp only [show i < 0 from by (first | lia | omega), if_true]
      rw [if_pos (by simp only [Bool.and_eq_true, decide_eq_true_eq]; (first | lia | omega))]
    · cases h
set_option tactic.hygienic false in
theorem place_bounds {i : Int} {n k : Nat} (h : place? i n = some k) : -(n : Int) ≤ i ∧ i < n ∧ k < n := by
  unfold place? at h
  split at h
  · split at h
    · cases h; omega
    · cases h
  · split at h
    · cases h; omega
    · cases h
theorem clip_eq (n : Nat) (i : Int) : clip n i = clipAt n i := by
  have tn : ∀ x : Int, (max 0 x).toNat = x.toNat := fun x => by
    rcases Int.le_total 0 x with h | h
    · rw [Int.max_eq_right h]
    · rw [Int.max_eq_left h, Int.toNat_of_nonpos h]; rfl
  unfold clip clipAt
  rw [tn]
  split
  · rename_i h
    rw [Int.min_eq_left (by (first | lia | omega))]
  · rename_i h
    rcases Int.le_total i n with h' | h'
    · rw [Int.min_eq_left h', Nat.min_eq_left (Int.toNat_le.mpr h')]
    · rw [Int.min_eq_right h', Int.toNat_natCast, Nat.min_eq_right ((Int.le_toNat (Int.not_lt.mp h)).mpr h')]

section
variable {prog : Program} {w : World} {A : Around} {s : Shared} {N : Addr → Prop}

theorem idx_sound {value slice : Expr} {a b d : D} {v u : Value} (ra : RepT N s.heap v a) (rb : RepT N s.heap u b) (e : idxD a b = some d)
    (hs : ∀ o i, subscripted slice false o i = operate [o, i] (getItem o i)) :
    wpAny (model prog w) A (subscriptTail value slice v u) (fun r s' => Grow s s' ∧ Rep N s'.heap r d) NoE s := by
  have hL : LIM = 16777216 := rfl
  unfold idxD at e
  split at e
  · rename_i xs i
    obtain ⟨l, vs, rfl, hl, h1, r1⟩ := ra
    obtain ⟨t, rfl⟩ := Rep.inv_int rb
    simp only [Option.bind_eq_some_iff] at e
    obtain ⟨k, hk, hd⟩ := e
    obtain ⟨b1, b2, b3⟩ := place_bounds hk
    rw [← r1.1] at hk b1 b2 b3
    have hx : vs[k]? = some vs[k] := by simp
    have hr := r1.2 k _ _ hx hd
    refine tail_any hl.isList.typeIs slot_list_getitem.lookup ?_ (hs _ _)
    by_cases h0 : 0 ≤ i
    · refine wpAny_getItem_list (x := vs[k]) hl.isList h0 (by (first | lia | omega)) ?_ ⟨Grow.rfl' _, hr⟩
      unfold place? at hk
      rw [if_pos h0, if_pos b2] at hk
      cases hk; simp
    · refine wpAny_getItem_list_neg (x := vs[k]) hl.isList (by (first | lia | omega)) (by simp; (first | lia | omega)) (by (first | lia | omega)) ?_ ⟨Grow.rfl' _, hr⟩
      unfold place? at hk
      rw [if_neg h0, if_pos (by (first | lia | omega))] at hk
      cases hk; simp
  · rename_i xs i
    obtain ⟨t', rfl, h1⟩ := Rep.inv_str ra
    obtain ⟨t, rfl⟩ := Rep.inv_int rb
    simp only [Option.map_eq_some_iff, Option.bind_eq_some_iff] at e
    obtain ⟨c, ⟨k, hk, hd⟩, rfl⟩ := e
    obtain ⟨b1, b2, b3⟩ := place_bounds hk
    refine tail_any (typeIs_str s _ _) F.slot_str_getitem.lookup (P.getItem_str (c := c) ?_ ?_ ⟨Grow.toks _ _, ?_⟩) (hs _ _)
    · simp only [Bool.or_eq_false_iff, decide_eq_false_iff_not]; (first | lia | omega)
    · have : Str.length ⟨xs.toArray⟩ = xs.length := by simp [Str.length]
      rw [this, place_seqIndex hk]; simpa using hd
    · exact Rep.str [c] _ (by simp [LIM])
  · cases e

set_option tactic.hygienic false in
theorem part_is {d : D} {v : Value} {o : Option Int} (r : RepT N s.heap v d) (e : part? d = some o) : (∃ t : Option (Int × Tok), v = partValue t ∧ o = t.map (·.1)) ∧ IsPart v o := by
  unfold part? at e
  split at e
  · cases e; obtain rfl := Rep.inv_none r; exact ⟨⟨none, rfl, rfl⟩, .none⟩
  · cases e; obtain ⟨t, rfl⟩ := Rep.inv_int r; exact ⟨⟨some (_, t), rfl, rfl⟩, .int _ _⟩
  · cases e

set_option tactic.hygienic false in
theorem strSlice_cut (x : List Nat) (lo hi : Option Int) : (Builtin.Str.strSliceIndices lo hi 1 x.length).filterMap (x.toArray[·]?) = cut x lo hi := by
  have h : Builtin.Str.strSliceIndices lo hi 1 x.length = sliceRange (sliceBounds lo hi none x.length).1 (sliceBounds lo hi none x.length).2.1 1 := by
    cases lo <;> cases hi <;> simp [Builtin.Str.strSliceIndices, sliceBounds]
  rw [h, sliceBounds_plain]
  simp only [sliceRange_one]
  rw [pick_run]
  unfold cut
  cases lo <;> cases hi <;> simp [clip_eq]

theorem cut_len {α : Type} (x : List α) (lo hi : Option Int) : (cut x lo hi).length ≤ x.length := by
  unfold cut
  rw [List.length_take, List.length_drop]
  exact Nat.le_trans (Nat.min_le_right _ _) (Nat.sub_le _ _)
theorem cut_sub {α : Type} (x : List α) (lo hi : Option Int) : (cut x lo hi).Sublist x := (List.take_sublist _ _).trans (List.drop_sublist _ _)
theorem clip_le (n : Nat) (i : Int) : clip n i ≤ n := by
  unfold clip
  split
  · rename_i h
    exact Int.toNat_le.mpr (by (first | lia | omega))
  · exact Nat.min_le_right _ _
theorem slice_sound {value : Expr} {lower upper : Option Expr} {p : Pos} {a l u d : D} {v vl vu : Value} {sl : Addr} (hN : Alive N s.heap) (ra : RepT N s.heap v a) (rl : RepT N s.heap vl l) (ru : RepT N s.heap vu u)
    (hsl : s.heap.get? sl = some { cls := .type "slice", data := .fields #[vl, vu, .none] }) (e : sliceD a l u = some d) :
    wpAny (model prog w) A (subscriptTail value (.Slice lower upper none p) v (.ref sl)) (Ok N s d) NoE s := by
  have hL : LIM = 16777216 := rfl
  unfold sliceD at e
  simp only [bind, Option.bind_eq_some_iff] at e
  obtain ⟨lo, elo, hi, ehi, e⟩ := e
  obtain ⟨⟨tl, rfl, hlo⟩, pl⟩ := part_is rl elo
  obtain ⟨⟨tu, rfl, hhi⟩, pu⟩ := part_is ru ehi
  split at e
  · rename_i xs
    cases e
    obtain ⟨b, vs, rfl, hl, h1, r1⟩ := ra
    refine tail_any (ops := [.ref sl, .ref b]) hl.isList.typeIs slot_list_getitem.lookup ?_ rfl
    refine wpAny_getItem_list_slice hl.isList ⟨_, hsl, rfl, rfl⟩ pl pu .none (by simp) ?_ (by rw [← LIM_eq]; simpa using h1)
    rw [slicePick_plain]
    have hc : (List.drop (lo.elim 0 (clipAt vs.toArray.size)) vs.toArray.toList).take (hi.elim vs.toArray.size (clipAt vs.toArray.size) - lo.elim 0 (clipAt vs.toArray.size)) = cut vs lo hi := by
      unfold cut
      cases lo <;> cases hi <;> simp [clip_eq]
    rw [hc]
    refine Ok.newList hN ?_ ?_
    · exact Nat.le_trans (cut_len vs lo hi) h1
    · unfold cut
      have hlen : xs.length = vs.length := r1.1.symm
      rw [hlen]
      exact (r1.drop _).take _
  · rename_i x
    cases e
    obtain ⟨t, rfl, h1⟩ := Rep.inv_str ra
    refine tail_any (ops := [.ref sl, .str ⟨x.toArray⟩ t]) (typeIs_str s _ _) F.slot_str_getitem.lookup ?_ rfl
    refine wpAny_getItem_str_slice (l := tl) (u := tu) (st := none) ⟨_, hsl, rfl, rfl⟩ rfl ?_
    have hx : (slicePicked ⟨x.toArray⟩ tl tu none).filterMap ((Str.cps ⟨x.toArray⟩)[·]?) = cut x lo hi := by
      rw [hlo, hhi, ← strSlice_cut]
      simp [slicePicked, Str.length]
    have hlen := cut_len x lo hi
    unfold sliceMade
    split
    · rename_i hc
      rw [Bool.and_eq_true] at hc
      have hfull : cut x lo hi = x := by
        have h2 : (slicePicked ⟨x.toArray⟩ tl tu none).length = x.length := by simpa [Str.length] using hc.2
        have h3 : (cut x lo hi).length = x.length := by
          rw [← hx]
          have hsub : ∀ k ∈ slicePicked ⟨x.toArray⟩ tl tu none, k < x.length := by
            intro k hk
            have h : Builtin.Str.strSliceIndices lo hi 1 x.length = sliceRange (sliceBounds lo hi none x.length).1 (sliceBounds lo hi none x.length).2.1 1 := by
              cases lo <;> cases hi <;> simp [Builtin.Str.strSliceIndices, sliceBounds]
            have hk' : k ∈ Builtin.Str.strSliceIndices lo hi 1 x.length := by
              rw [hlo, hhi]; simpa [slicePicked, Str.length] using hk
            rw [h, sliceBounds_plain] at hk'
            simp only [sliceRange_one, List.mem_map, List.mem_range] at hk'
            obtain ⟨j, hj, rfl⟩ := hk'
            have hb : hi.elim x.length (clipAt x.length) ≤ x.length := by
              cases hi with
              | none => simp
              | some i => show clipAt x.length i ≤ x.length; rw [← clip_eq]; exact clip_le _ _
            (first | lia | omega)
          rw [List.length_filterMap_eq_countP, ← h2, List.countP_eq_length]
          intro k hk
          simp [hsub k hk]
        exact (cut_sub x lo hi).eq_of_length h3
      rw [hfull]
      exact ⟨Grow.rfl' _, .str _ _ h1, fun _ e => by cases e⟩
    · show _ ∧ _
      rw [hx]
      exact ⟨by show (cut x lo hi).toArray.size ≤ sizeLine; rw [← LIM_eq]; simp; (first | lia | omega), Ok.str' (by (first | lia | omega))⟩
  · cases e
end
end Mine
end
/-! P4 -/
section
open PySem PySem.W PyProof.Rows PySem.SeqAt
namespace Mine

set_option tactic.hygienic false in
theorem minL_mem : ∀ {l : List Int}, l ≠ [] → minL l ∈ l ∧ ∀ x ∈ l, minL l ≤ x
  | [], h => absurd rfl h
  | [x], _ => by simp [minL]
  | x :: y :: r, _ => by
    obtain ⟨h1, h2⟩ := minL_mem (l := y :: r) (by simp)
    show min x (minL (y :: r)) ∈ _ ∧ ∀ z ∈ _, min x (minL (y :: r)) ≤ z
    constructor
    · by_cases h : x ≤ minL (y :: r)
      · rw [Int.min_eq_left h]; exact List.mem_cons_self
      · rw [Int.min_eq_right (by (first | lia | omega))]; exact List.mem_cons_of_mem _ h1
    · intro z hz
      rcases List.mem_cons.mp hz with rfl | hz
      · (first | lia | omega)
      · have := h2 z hz; (first | lia | omega)
set_option tactic.hygienic false in
theorem maxL_mem : ∀ {l : List Int}, l ≠ [] → maxL l ∈ l ∧ ∀ x ∈ l, x ≤ maxL l
  | [], h => absurd rfl h
  | [x], _ => by simp [maxL]
  | x :: y :: r, _ => by
    obtain ⟨h1, h2⟩ := maxL_mem (l := y :: r) (by simp)
    show max x (maxL (y :: r)) ∈ _ ∧ ∀ z ∈ _, z ≤ max x (maxL (y :: r))
    constructor
    · by_cases h : maxL (y :: r) ≤ x
      · rw [Int.max_eq_left h]; exact List.mem_cons_self
      · rw [Int.max_eq_right (by (first | lia | omega))]; exact List.mem_cons_of_mem _ h1
    · intro z hz
      rcases List.mem_cons.mp hz with rfl | hz
      · (first | lia | omega)
      · have := h2 z hz; (first | lia | omega)

set_option tactic.hygienic false in
theorem small_range {a b c : Int} (h : (small a && small b && decide (1 ≤ c) && small c) = true) : Builtin.Range.small a b c = true ∧ Builtin.Range.rangeSize a b c = (rangeD a b c).length ∧ ∀ i : Nat, i < (rangeD a b c).length → (rangeD a b c)[i]? = some (a + i * c) := by
  simp only [small, Bool.and_eq_true, decide_eq_true_eq] at h
  obtain ⟨⟨⟨h1, h3⟩, h5⟩, h6⟩ := h
  have key : ∀ i : Int, i.natAbs ≤ 1099511627776 → -1099511627776 ≤ i ∧ i ≤ 1099511627776 := fun i h => by (first | lia | omega)
  replace h1 := key a h1
  replace h3 := key b h3
  replace h6 := key c h6
  clear key
  have hc : 0 < c := by (first | lia | omega)
  have hsz : Builtin.Range.rangeSize a b c = (((b - a + c - 1) / c).toNat : Int) := by
    unfold Builtin.Range.rangeSize
    rw [if_pos hc]
    clear h1 h3 h6
    by_cases hab : a < b
    · rw [if_pos hab]
      have e : b - a + c - 1 = (b - a - 1) + c := by (first | lia | omega)
      rw [e, Int.add_ediv_of_dvd_right (Int.dvd_refl _), Int.ediv_self (by (first | lia | omega))]
      have : 0 ≤ (b - a - 1) / c := Int.ediv_nonneg (by (first | lia | omega)) (by (first | lia | omega))
      (first | lia | omega)
    · rw [if_neg hab]
      have e : (b - a + c - 1) / c ≤ 0 := by
        have : (b - a + c - 1) / c < 1 := Int.ediv_lt_of_lt_mul hc (by (first | lia | omega))
        (first | lia | omega)
      (first | lia | omega)
  have hlen : ((rangeD a b c).length : Int) = (((b - a + c - 1) / c).toNat : Int) := by simp [rangeD, hc]
  have hle : (((b - a + c - 1) / c).toNat : Int) ≤ 2 ^ 43 := by
    have : (b - a + c - 1) / c ≤ 2 ^ 43 := by
      apply Int.ediv_le_of_le_mul hc
      have : (2 ^ 43 : Int) * 1 ≤ 2 ^ 43 * c := Int.mul_le_mul_of_nonneg_left (by (first | lia | omega)) (by (first | lia | omega))
      (first | lia | omega)
    (first | lia | omega)
  have hn0 : (0 : Int) ≤ (((b - a + c - 1) / c).toNat : Int) := Int.natCast_nonneg _
  refine ⟨?_, hsz.trans hlen.symm, fun i hi => ?_⟩
  · unfold Builtin.Range.small
    rw [hsz]
    simp only [Builtin.Range.rangeFitsLong, Bool.and_eq_true, Bool.or_eq_true, decide_eq_true_eq, beq_iff_eq]
    rw [if_pos hc]
    simp only [Bool.and_eq_true, decide_eq_true_eq]
    clear hsz hlen
    generalize ((((b - a + c - 1) / c).toNat : Nat) : Int) = n at hle hn0 ⊢
    have fit : ∀ i : Int, -8796093022208 ≤ i → i ≤ 8796093022208 → -2 ^ 63 ≤ i ∧ i < 2 ^ 63 := fun i h h' => ⟨Int.le_trans (by decide) h, Int.lt_of_le_of_lt h' (by decide)⟩
    exact ⟨⟨⟨⟨fit a (Int.le_trans (by decide) h1.1) (Int.le_trans h1.2 (by decide)), fit b (Int.le_trans (by decide) h3.1) (Int.le_trans h3.2 (by decide))⟩, fit c (Int.le_trans (by decide) h6.1) (Int.le_trans h6.2 (by decide))⟩, fit n (Int.le_trans (by decide) hn0) (Int.le_trans hle (by decide))⟩, .inr (fit _ (by (first | lia | omega)) (by (first | lia | omega)))⟩
  · simp only [rangeD, if_pos hc, List.length_map, List.length_range] at hi ⊢
    simp [List.getElem?_map, List.getElem?_range hi, Int.mul_comm]

noncomputable def fnVal : Fn → Value
  | .len => .builtin "len" | .min => .builtin "min" | .max => .builtin "max" | .sum => .builtin "sum" | .chr => .builtin "chr" | .ord => .builtin "ord"
  | .range => .type "range" | .list => .type "list" | .isBool => .builtin "isinstance"
noncomputable def fnArgs (f : Fn) (vs : List Value) : List Value := match f with
  | .isBool => vs ++ [.type "bool"]
  | _ => vs

set_option tactic.hygienic false in
theorem zip_ints (l : List Int) (ts : List Tok) (h : ts.length = l.length) : ((l.zip ts).map (fun p => Value.int p.1 p.2)).toArray = intItems (l.zip ts).toArray ∧ (l.zip ts).map (·.1) = l := by
  constructor
  · simp [intItems]
  · rw [List.map_fst_zip (by (first | lia | omega))]

section
variable {prog : Program} {w : World} {A : Around} {s : Shared} {N : Addr → Prop}

set_option tactic.hygienic false in
theorem Ok.newRange {a b c : Int} {t u v : Tok} {k : Nat} (hN : Alive N s.heap) (h : (small a && small b && decide (1 ≤ c) && small c) = true) :
    Ok N s (.range a b c) (.ref s.heap.objs.size) { s with heap := s.heap.push { cls := .type "range", data := .fields #[.int a t, .int b u, .int c v] }, toks := k } :=
  ⟨Grow.push _ _ _, .range _ a b c t u v (hN.not (get_size _)) (Heap.get?_push_size _ rfl) h, fun _ e => by cases e⟩

set_option tactic.hygienic false in
theorem RepTAll.cons {vs : List Value} {d : D} {ds : List D} (r : RepTAll N s.heap vs (d :: ds)) : ∃ v us, vs = v :: us ∧ RepT N s.heap v d ∧ RepTAll N s.heap us ds := by
  cases vs with
  | nil => exact r.elim
  | cons v us => exact ⟨v, us, rfl, r.1, r.2⟩
set_option tactic.hygienic false in
theorem RepTAll.nil {vs : List Value} (r : RepTAll N s.heap vs []) : vs = [] := by
  cases vs with
  | nil => rfl
  | cons v us => exact r.elim
set_option tactic.hygienic false in
theorem RepTAll.one {vs : List Value} {d : D} (r : RepTAll N s.heap vs [d]) : ∃ v, vs = [v] ∧ RepT N s.heap v d := by
  obtain ⟨v, us, rfl, h, r⟩ := r.cons
  rw [r.nil]
  exact ⟨v, rfl, h⟩
set_option tactic.hygienic false in
theorem RepTAll.two {vs : List Value} {d e : D} (r : RepTAll N s.heap vs [d, e]) : ∃ v u, vs = [v, u] ∧ RepT N s.heap v d ∧ RepT N s.heap u e := by
  obtain ⟨v, us, rfl, h, r⟩ := r.cons
  obtain ⟨u, rfl, h'⟩ := r.one
  exact ⟨v, u, rfl, h, h'⟩
set_option tactic.hygienic false in
theorem RepTAll.three {vs : List Value} {d e f : D} (r : RepTAll N s.heap vs [d, e, f]) : ∃ v u x, vs = [v, u, x] ∧ RepT N s.heap v d ∧ RepT N s.heap u e ∧ RepT N s.heap x f := by
  obtain ⟨v, us, rfl, h, r⟩ := r.cons
  obtain ⟨u, x, rfl, h', h''⟩ := r.two
  exact ⟨v, u, x, rfl, h, h', h''⟩

theorem fnD_sound {f : Fn} {ds : List D} {d : D} {vs : List Value} (hh : A.handled = none) (hN : Alive N s.heap) (r : RepTAll N s.heap vs ds) (e : fnD f ds = some d) :
    wpAny (model prog w) A (call (fnVal f) (fnArgs f vs)) (Ok N s d) NoE s := by
  have hL : LIM = 16777216 := rfl
  unfold fnD at e
  cases f with
  | len =>
    dsimp only at e
    split at e
    · cases e; obtain ⟨v, rfl, q⟩ := r.one
      obtain ⟨l, vs, rfl, hl, h1, r1⟩ := q
      refine Calls.call_len_list hl.isList (by simp; (first | lia | omega)) ?_
      have hz : vs.toArray.size = vs.length := by simp
      rw [hz, r1.1]; exact .int'
    · cases e; obtain ⟨v, rfl, q⟩ := r.one
      obtain ⟨t, rfl, h1⟩ := Rep.inv_str q
      refine P.len_str (by simp [Str.length]; (first | lia | omega)) ?_
      simp only [Str.length, List.size_toArray]
      exact .int'
    · cases e
  | min =>
    dsimp only at e
    split at e
    · simp only [Option.bind_eq_some_iff] at e
      obtain ⟨l, el, e⟩ := e
      split at e
      · cases e
      · rename_i hne
        cases e
        obtain ⟨v, rfl, q⟩ := r.one
        obtain ⟨a, vs, rfl, hl, h1, r1⟩ := q
        obtain ⟨ts, hv, ht⟩ := r1.ints el
        obtain ⟨z1, z2⟩ := zip_ints l ts ht
        have hne' : l ≠ [] := by simpa using hne
        have hls : 0 < l.length := List.length_pos_iff.mpr hne'
        rw [hv, z1] at hl
        have hsz : (l.zip ts).toArray.size = l.length := by simp [ht]
        refine min_intList hh hl.isList (by (first | lia | omega)) fun v h' tk hx hk => ?_
        obtain ⟨t, rfl⟩ := intItems_at hx
        have hnum : ∀ j, j < l.length → ∃ hj, numAt (l.zip ts).toArray j = l[j]'hj := fun j hj => ⟨hj, by simp [numAt, List.zip, hj, ht]⟩
        obtain ⟨b1, b2⟩ := argBest_lt (numAt (l.zip ts).toArray) ((l.zip ts).toArray.size - 1)
        obtain ⟨q1, q2⟩ := minL_mem hne'
        obtain ⟨g1, g2⟩ := hnum _ (show argBest (fun i j => decide (numAt (l.zip ts).toArray i < numAt (l.zip ts).toArray j)) ((l.zip ts).toArray.size - 1) < l.length by (first | lia | omega))
        have : numAt (l.zip ts).toArray (argBest (fun i j => decide (numAt (l.zip ts).toArray i < numAt (l.zip ts).toArray j)) ((l.zip ts).toArray.size - 1)) = minL l := by
          refine Int.le_antisymm ?_ ?_
          · obtain ⟨i, hi, he⟩ := List.getElem_of_mem q1
            obtain ⟨g3, g4⟩ := hnum i hi
            have := b2 i (by (first | lia | omega))
            rw [g4, he] at this; exact this
          · rw [g2]; exact q2 _ (List.getElem_mem _)
        rw [this]
        exact ⟨Grow.of hk, .int _ _, fun _ e => by cases e⟩
    · cases e
  | max =>
    dsimp only at e
    split at e
    · cases e; obtain ⟨v, u, rfl, r1, r2⟩ := r.two
      obtain ⟨t, rfl⟩ := Rep.inv_int r1; obtain ⟨t', rfl⟩ := Rep.inv_int r2
      refine max_two_ints hh fun h' tk hk => ?_
      refine ⟨Grow.of hk, ?_, fun _ e => by cases e⟩
      split
      · rw [Int.max_eq_right (by (first | lia | omega))]; exact .int _ _
      · rw [Int.max_eq_left (by (first | lia | omega))]; exact .int _ _
    · simp only [Option.bind_eq_some_iff] at e
      obtain ⟨l, el, e⟩ := e
      split at e
      · cases e
      · rename_i hne
        cases e
        obtain ⟨v, rfl, q⟩ := r.one
        obtain ⟨a, vs, rfl, hl, h1, r1⟩ := q
        obtain ⟨ts, hv, ht⟩ := r1.ints el
        obtain ⟨z1, z2⟩ := zip_ints l ts ht
        have hne' : l ≠ [] := by simpa using hne
        have hls : 0 < l.length := List.length_pos_iff.mpr hne'
        rw [hv, z1] at hl
        have hsz : (l.zip ts).toArray.size = l.length := by simp [ht]
        refine max_intList hh hl.isList (by (first | lia | omega)) fun v h' tk hx hk => ?_
        obtain ⟨t, rfl⟩ := intItems_at hx
        have hnum : ∀ j, j < l.length → ∃ hj, numAt (l.zip ts).toArray j = l[j]'hj := fun j hj => ⟨hj, by simp [numAt, List.zip, hj, ht]⟩
        obtain ⟨b1, b2⟩ := argBest_gt (numAt (l.zip ts).toArray) ((l.zip ts).toArray.size - 1)
        obtain ⟨q1, q2⟩ := maxL_mem hne'
        obtain ⟨g1, g2⟩ := hnum _ (show argBest (fun i j => decide (numAt (l.zip ts).toArray i > numAt (l.zip ts).toArray j)) ((l.zip ts).toArray.size - 1) < l.length by (first | lia | omega))
        have : numAt (l.zip ts).toArray (argBest (fun i j => decide (numAt (l.zip ts).toArray i > numAt (l.zip ts).toArray j)) ((l.zip ts).toArray.size - 1)) = maxL l := by
          refine Int.le_antisymm ?_ ?_
          · rw [g2]; exact q2 _ (List.getElem_mem _)
          · obtain ⟨i, hi, he⟩ := List.getElem_of_mem q1
            obtain ⟨g3, g4⟩ := hnum i hi
            have := b2 i (by (first | lia | omega))
            rw [g4, he] at this; exact this
        rw [this]
        exact ⟨Grow.of hk, .int _ _, fun _ e => by cases e⟩
    · cases e
  | sum =>
    cases e
  | chr =>
    cases e
  | ord =>
    cases e
  | range =>
    dsimp only at e
    split at e
    · split at e
      · rename_i b hb
        cases e
        obtain ⟨v, rfl, q⟩ := r.one
        obtain ⟨t, rfl⟩ := Rep.inv_int q
        exact call_range_1 (Ok.newRange hN (by simp only [hb, Bool.and_true]; decide))
      · cases e
    · split at e
      · rename_i a b hb
        cases e
        obtain ⟨v, u, rfl, r1, r2⟩ := r.two
        obtain ⟨t, rfl⟩ := Rep.inv_int r1; obtain ⟨t', rfl⟩ := Rep.inv_int r2
        exact call_range_2 (Ok.newRange hN (by simp only [hb, Bool.true_and]; decide))
      · cases e
    · split at e
      · rename_i a b c hb
        cases e
        obtain ⟨v, u, x, rfl, r1, r2, r3⟩ := r.three
        obtain ⟨t, rfl⟩ := Rep.inv_int r1; obtain ⟨t', rfl⟩ := Rep.inv_int r2; obtain ⟨t'', rfl⟩ := Rep.inv_int r3
        have hb' := hb
        simp only [small, Bool.and_eq_true, decide_eq_true_eq] at hb'
        refine call_range_3 (by (first | lia | omega)) (Ok.newRange hN hb) (.inl (PyProof.noPylong_of_log2 ?_))
        have h2 : c.natAbs < 2 ^ 41 := by (first | lia | omega)
        have : c.natAbs.log2 < 41 := (Nat.log2_lt (by (first | lia | omega))).mpr h2
        (first | lia | omega)
      · cases e
    · cases e
  | list =>
    cases e
  | isBool =>
    cases e
end
end Mine
end
/-! P5 -/
section
open PySem PySem.W PyProof.Rows PySem.SeqAt
open PySem.Builtin.Str (strSub occurrences partsBetween subAt spaceWords tooLong glued)
set_option linter.unusedSimpArgs false
namespace Mine

/-! ## texts of the model and lists of signs -/
noncomputable abbrev S (x : List Nat) : Str := ⟨x.toArray⟩
set_option tactic.hygienic false in
theorem S_length (x : List Nat) : (S x).length = x.length := by simp [S, Str.length]

noncomputable def idxs (c : Nat) : Nat → List Nat → List Nat
  | _, [] => []
  | k, y :: r => if y == c then k :: idxs c (k + 1) r else idxs c (k + 1) r

set_option tactic.hygienic false in
theorem occ_run (x : List Nat) (c limit : Nat) : ∀ (l : List Nat) (k : Nat) (acc : Array Nat) (free : Nat), x.drop k = l → k ≤ x.length → free ≤ k → acc.size + l.length ≤ limit → 
    (forIn (List.range' k (l.length + 1)) (acc, free) (StrLaws.occBody (S x) (S [c]) x.length limit)).run.fst.toList = acc.toList ++ idxs c k l
  | [], k, acc, free, hl, hk, hf, hlim => by
    have hkl : k = x.length := by
      have := congrArg List.length hl; simp at this; (first | lia | omega)
    simp only [List.length_nil, List.range'_succ, List.range'_zero, List.forIn_cons, List.forIn_nil, StrLaws.occBody]
    rw [if_neg (by rw [S_length]; simp; (first | lia | omega))]
    simp [idxs]
  | y :: r, k, acc, free, hl, hk, hf, hlim => by
    have hlen := congrArg List.length hl
    simp at hlen
    have hr : x.drop (k + 1) = r := by
      have : x.drop (k + 1) = (x.drop k).drop 1 := by rw [List.drop_drop]
      rw [this, hl]; rfl
    have hsub : subAt (S x) (S [c]) k = (y == c) := by
      rw [StrLaws.subAt_eq, S_length]
      simp [S, hl]
    rw [List.length_cons, List.range'_succ, List.forIn_cons]
    simp only [StrLaws.occBody, S_length, List.length_cons, List.length_nil, hsub]
    by_cases hy : (y == c) = true
    · rw [if_pos (by simp only [List.length_cons] at hlim; exact ⟨⟨⟨by (first | lia | omega), hf⟩, by (first | lia | omega)⟩, hy⟩)]
      simp only [pure_bind, idxs, hy, if_true]
      rw [occ_run x c limit r (k + 1) (acc.push k) (k + (0 + 1)) hr (by (first | lia | omega)) (by (first | lia | omega)) (by simp at hlim ⊢; (first | lia | omega))]
      simp
    · rw [if_neg (by simp [hy])]
      simp only [pure_bind, idxs, hy]
      rw [occ_run x c limit r (k + 1) acc free hr (by (first | lia | omega)) (by (first | lia | omega)) (by simp at hlim ⊢; (first | lia | omega))]
      simp

set_option tactic.hygienic false in
theorem occ_idxs (x : List Nat) (c : Nat) : occurrences (S x) (S [c]) 0 (S x).length ((S x).length + 1) = idxs c 0 x := by
  rw [StrLaws.occ_eq, S_length]
  have := occ_run x c (x.length + 1) x 0 #[] 0 (by simp) (by (first | lia | omega)) (by (first | lia | omega)) (by simp)
  simpa using this

set_option tactic.hygienic false in
theorem splitOn_ne (c : Nat) (l : List Nat) : splitOn c l ≠ [] := by
  unfold splitOn
  cases l with
  | nil => simp [splitBy]
  | cons y r => simp only [splitBy]; split <;> (try split) <;> simp

set_option tactic.hygienic false in
theorem parts_split (x : List Nat) (c : Nat) : ∀ (l : List Nat) (k a : Nat), x.drop k = l → k ≤ x.length → a ≤ k →
    ∀ w ws, splitOn c l = w :: ws → (StrLaws.partsFrom (S x) 1 a (idxs c k l)).map (fun z => z.cps.toList) = ((x.drop a).take (k - a) ++ w) :: ws
  | [], k, a, hl, hk, ha, w, ws, e => by
    have hkl : k = x.length := by
      have := congrArg List.length hl; simp at this; (first | lia | omega)
    simp only [splitOn, splitBy, List.cons.injEq] at e
    obtain ⟨rfl, rfl⟩ := e
    simp [idxs, StrLaws.partsFrom, StrLaws.strSub_toList, S_length, hkl]
  | y :: r, k, a, hl, hk, ha, w, ws, e => by
    have hlen := congrArg List.length hl
    simp at hlen
    have hr : x.drop (k + 1) = r := by
      have : x.drop (k + 1) = (x.drop k).drop 1 := by rw [List.drop_drop]
      rw [this, hl]; rfl
    obtain ⟨w', ws', e'⟩ := List.exists_cons_of_ne_nil (splitOn_ne c r)
    simp only [splitOn, splitBy] at e e'
    rw [e'] at e
    by_cases hy : (y == c) = true
    · rw [if_pos hy] at e
      cases e
      simp only [idxs, hy, if_true, StrLaws.partsFrom, List.map_cons]
      rw [parts_split x c r (k + 1) (k + 1) hr (by (first | lia | omega)) (by (first | lia | omega)) w' ws' e']
      simp [StrLaws.strSub_toList]
    · rw [if_neg hy] at e
      cases e
      simp only [idxs, hy]
      have h := parts_split x c r (k + 1) a hr (by (first | lia | omega)) (by (first | lia | omega)) w' ws e'
      simp only [Bool.false_eq_true, if_false]
      rw [h]
      have : (x.drop a).take (k + 1 - a) = (x.drop a).take (k - a) ++ [y] := by
        have h1 : k + 1 - a = (k - a) + 1 := by (first | lia | omega)
        rw [h1, List.take_add_one, List.getElem?_drop, show a + (k - a) = k from by (first | lia | omega)]
        have h2 : x[k]? = some y := by
          have := congrArg (fun l => l[0]?) hl
          simpa using this
        rw [h2]; simp
      rw [this]; simp

set_option tactic.hygienic false in
theorem splitOn_none (c : Nat) : ∀ l : List Nat, c ∉ l → splitOn c l = [l]
  | [], _ => rfl
  | y :: r, h => by
    simp at h
    have := splitOn_none c r h.2
    simp only [splitOn, splitBy] at this ⊢
    rw [this, if_neg (by simp; exact fun e => h.1 e.symm)]
theorem idxs_nil (c : Nat) : ∀ (k : Nat) (l : List Nat), idxs c k l = [] → c ∉ l
  | _, [], _ => by simp
  | k, y :: r, h => by
    simp only [idxs] at h
    split at h
    · cases h
    · rename_i hy
      simp at hy
      have := idxs_nil c (k + 1) r h
      simp; exact ⟨fun e => hy e.symm, this⟩
theorem kind_lt {x : List Nat} {c : Nat} (h : Builtin.Str.strKind (S x) < Builtin.Str.strKind (S [c])) : c ∉ x := by
  intro hm
  have mono : ∀ B : Nat, (∀ y ∈ x, y < B) → c < B := fun B hB => hB c hm
  have h1 : (x.all fun y => decide (y < 256)) = true → c < 256 := fun hx => mono 256 (by simpa using hx)
  have h2 : (x.all fun y => decide (y < 65536)) = true → c < 65536 := fun hx => mono 65536 (by simpa using hx)
  simp only [Builtin.Str.strKind, S, List.all_toArray] at h
  simp only [List.all_cons, List.all_nil, Bool.and_true, decide_eq_true_eq] at h
  split at h
  · rename_i hx; have := h1 hx; simp [this] at h
  · split at h
    · rename_i hx; have := h2 hx; simp [this] at h; split at h <;> (first | lia | omega)
    · split at h
      · (first | lia | omega)
      · split at h <;> (first | lia | omega)

/-! ## words -/
noncomputable def spans (p : Nat → Bool) : Nat → Option Nat → List Nat → List (Nat × Nat)
  | k, some b, [] => [(b, k)]
  | _, none, [] => []
  | k, some b, y :: r => if p y then (b, k) :: spans p (k + 1) none r else spans p (k + 1) (some b) r
  | k, none, y :: r => if p y then spans p (k + 1) none r else spans p (k + 1) (some k) r

set_option tactic.hygienic false in
theorem sw_run (x : List Nat) (limit : Nat) (hlim : x.length < limit) : ∀ (l : List Nat) (k : Nat) (acc : Array (Nat × Nat)) (st : Option Nat), x.drop k = l → k ≤ x.length → acc.size ≤ k →
    StrLaws.swEnd (S x) (forIn (List.range' k l.length) ((none, acc, st) : StrLaws.SwSt) (StrLaws.swBody (S x) limit)).run = acc.toList ++ spans isWs k st l
  | [], k, acc, st, hl, hk, ha => by
    have hkl : k = x.length := by
      have := congrArg List.length hl; simp at this; (first | lia | omega)
    cases st <;> simp [StrLaws.swEnd, spans, S_length, hkl]
  | y :: r, k, acc, st, hl, hk, ha => by
    have hlen := congrArg List.length hl
    simp at hlen
    have hr : x.drop (k + 1) = r := by
      have : x.drop (k + 1) = (x.drop k).drop 1 := by rw [List.drop_drop]
      rw [this, hl]; rfl
    have hy : (S x).cps.getD k 0 = y := by
      have := congrArg (fun l => l[0]?) hl
      simp at this
      simp [S, Array.getD_eq_getD_getElem?, this]
    rw [List.length_cons, List.range'_succ, List.forIn_cons]
    have hz : ¬ (acc.size == limit) = true := by simp; (first | lia | omega)
    simp only [StrLaws.swBody, hy, hz, Bool.false_eq_true, if_false]
    cases st with
    | none =>
      by_cases hs : isWs y = true
      · have hs' : Unicode.isSpace y = true := hs
        simp only [hs', pure_bind, spans, hs, if_true]
        exact sw_run x limit hlim r (k + 1) acc none hr (by (first | lia | omega)) (by (first | lia | omega))
      · have hs' : Unicode.isSpace y = false := by simpa [isWs] using hs
        simp only [hs', pure_bind, spans, hs]
        exact sw_run x limit hlim r (k + 1) acc (some k) hr (by (first | lia | omega)) (by (first | lia | omega))
    | some b =>
      by_cases hs : isWs y = true
      · have hs' : Unicode.isSpace y = true := hs
        simp only [hs', pure_bind, spans, hs, if_true]
        rw [sw_run x limit hlim r (k + 1) (acc.push (b, k)) none hr (by (first | lia | omega)) (by simp; (first | lia | omega))]
        simp
      · have hs' : Unicode.isSpace y = false := by simpa [isWs] using hs
        simp only [hs', pure_bind, spans, hs]
        exact sw_run x limit hlim r (k + 1) acc (some b) hr (by (first | lia | omega)) (by (first | lia | omega))

set_option tactic.hygienic false in
theorem splitBy_ne (p : Nat → Bool) (l : List Nat) : splitBy p l ≠ [] := by
  cases l with
  | nil => simp [splitBy]
  | cons y r => simp only [splitBy]; split <;> (try split) <;> simp

set_option tactic.hygienic false in
theorem spans_words (p : Nat → Bool) (x : List Nat) : ∀ (l : List Nat) (k : Nat), x.drop k = l → k ≤ x.length →
    ((spans p k none l).map (fun q => (strSub (S x) q.1 q.2).cps.toList) = wordsBy p l) ∧
    (∀ b, b < k → ∀ w ws, splitBy p l = w :: ws → (spans p k (some b) l).map (fun q => (strSub (S x) q.1 q.2).cps.toList) = ((x.drop b).take (k - b) ++ w) :: ws.filter (fun w => !w.isEmpty))
  | [], k, hl, hk => by
    have hkl : k = x.length := by
      have := congrArg List.length hl; simp at this; (first | lia | omega)
    refine ⟨by simp [spans, wordsBy, splitBy], fun b hb w ws e => ?_⟩
    simp only [splitBy, List.cons.injEq] at e
    obtain ⟨rfl, rfl⟩ := e
    simp [spans, StrLaws.strSub_toList]
  | y :: r, k, hl, hk => by
    have hlen := congrArg List.length hl
    simp at hlen
    have hr : x.drop (k + 1) = r := by
      have : x.drop (k + 1) = (x.drop k).drop 1 := by rw [List.drop_drop]
      rw [this, hl]; rfl
    have h2 : x[k]? = some y := by
      have := congrArg (fun l => l[0]?) hl
      simpa using this
    obtain ⟨ih1, ih2⟩ := spans_words p x r (k + 1) hr (by (first | lia | omega))
    obtain ⟨w', ws', e'⟩ := List.exists_cons_of_ne_nil (splitBy_ne p r)
    constructor
    · by_cases hy : p y = true
      · simp only [spans, hy, if_true, ih1, wordsBy, splitBy, List.filter_cons]
        simp
      · simp only [spans, hy, Bool.false_eq_true, if_false, wordsBy, splitBy]
        rw [ih2 k (by (first | lia | omega)) w' ws' e', e']
        have : (x.drop k).take (k + 1 - k) = [y] := by rw [hl]; simp
        rw [this]
        simp
    · intro b hb w ws e
      simp only [splitBy] at e
      by_cases hy : p y = true
      · rw [if_pos hy] at e
        cases e
        simp only [spans, hy, if_true, List.map_cons]
        rw [ih1, StrLaws.strSub_toList]
        simp [wordsBy]
      · rw [if_neg hy, e'] at e
        cases e
        simp only [spans, hy, Bool.false_eq_true, if_false]
        rw [ih2 b (by (first | lia | omega)) w' ws' e']
        have : (x.drop b).take (k + 1 - b) = (x.drop b).take (k - b) ++ [y] := by
          have h1 : k + 1 - b = (k - b) + 1 := by (first | lia | omega)
          rw [h1, List.take_add_one, List.getElem?_drop, show b + (k - b) = k from by (first | lia | omega), h2]; simp
        rw [this]; simp

set_option tactic.hygienic false in
theorem spaceWords_eq (x : List Nat) : ((spaceWords (S x) ((S x).length + 1)).map fun q => (strSub (S x) q.1 q.2).cps.toList) = wordsBy isWs x := by
  rw [StrLaws.sw_eq, S_length]
  have := sw_run x (x.length + 1) (by (first | lia | omega)) x 0 #[] none (by simp) (by (first | lia | omega)) (by simp)
  rw [this]
  simpa using (spans_words isWs x x 0 (by simp) (by (first | lia | omega))).1

/-! ## strip -/
set_option tactic.hygienic false in
theorem take_rev (p : Nat → Bool) (s : List Nat) : s.take (s.length - (s.reverse.takeWhile p).length) = rstripBy p s := by
  have h2 : (s.reverse.dropWhile p).reverse ++ (s.reverse.takeWhile p).reverse = s := by
    rw [← List.reverse_append, List.takeWhile_append_dropWhile, List.reverse_reverse]
  have hlen : (s.reverse.dropWhile p).length + (s.reverse.takeWhile p).length = s.length := by
    have := congrArg List.length h2
    simpa using this
  unfold rstripBy
  conv => lhs; rhs; rw [← h2]
  rw [List.take_append_of_le_length (by simp; (first | lia | omega)), List.take_of_length_le (by simp; (first | lia | omega))]
set_option tactic.hygienic false in
theorem drop_takeWhile (p : Nat → Bool) (s : List Nat) : s.drop (s.takeWhile p).length = s.dropWhile p := by
  conv => lhs; arg 2; rw [← List.takeWhile_append_dropWhile (p := p) (l := s)]
  rw [List.drop_left]

set_option tactic.hygienic false in
theorem stripped_r (p : Nat → Bool) (s : List Nat) : PySem.stripped p false true (S s) = S (rstripBy p s) := by
  apply Str.ext'
  apply Array.ext'
  simp only [PySem.stripped, StrLaws.strSub_toList, stripHi, stripLo, S]
  simp [Str.length, take_rev]
set_option tactic.hygienic false in
theorem stripSame_r {p : Nat → Bool} {s : List Nat} (h : stripSame p false true (S s) = true) : rstripBy p s = s := by
  simp only [stripSame, stripHi, stripLo, S, Bool.and_eq_true, beq_iff_eq] at h
  simp [Str.length] at h
  rw [← take_rev, h]; simp
set_option tactic.hygienic false in
theorem rstripBy_le (p : Nat → Bool) (s : List Nat) : (rstripBy p s).length ≤ s.length := by
  rw [← take_rev]; simp

/-! ## join -/
set_option tactic.hygienic false in
theorem join_eq (sep : List Nat) : ∀ l : List (List Nat), (Str.join (S sep) (l.map S)).cps.toList = joinWith sep l
  | [] => rfl
  | [x] => by simp [Str.join, joinWith, S]
  | x :: y :: r => by
    have := join_eq sep (y :: r)
    simp only [List.map_cons] at this
    show (S x ++ S sep ++ Str.join (S sep) (S y :: r.map S)).cps.toList = x ++ sep ++ joinWith sep (y :: r)
    rw [Str.cps_append, Str.cps_append]
    simp [this]
set_option tactic.hygienic false in
theorem joinWith_le (sep : List Nat) : ∀ l : List (List Nat), (joinWith sep l).length ≤ (l.map fun w => w.length + sep.length).sum
  | [] => by simp [joinWith]
  | [x] => by simp [joinWith]
  | x :: y :: r => by
    have := joinWith_le sep (y :: r)
    simp only [joinWith, List.length_append, List.map_cons, List.sum_cons] at this ⊢
    (first | lia | omega)
end Mine
end
/-! P6 -/
section
open PySem PySem.W PyProof.Rows PySem.SeqAt
open PySem.Builtin.Str (strSub occurrences partsBetween subAt spaceWords tooLong glued)
set_option linter.unusedSimpArgs false
namespace Mine

set_option tactic.hygienic false in
theorem expandGo_le : ∀ (l : List Nat) (col : Nat), (expandGo col l).length ≤ 8 * l.length
  | [], _ => by simp [expandGo]
  | c :: r, col => by
    simp only [expandGo]
    split
    · have := expandGo_le r (col + (8 - col % 8))
      simp only [List.length_append, List.length_replicate, List.length_cons]; (first | lia | omega)
    · have := expandGo_le r (if c = 10 ∨ c = 13 then 0 else col + 1)
      simp only [List.length_cons]; (first | lia | omega)

noncomputable def mthId : Mth → String
  | .split => "str.split" | .join => "str.join" | .rstrip => "str.rstrip" | .lstrip => "str.lstrip" | .expandtabs => "str.expandtabs" | .index => "list.index"
noncomputable def mthName : Mth → Str
  | .split => "split" | .join => "join" | .rstrip => "rstrip" | .lstrip => "lstrip" | .expandtabs => "expandtabs" | .index => "index"

section
variable {prog : Program} {w : World} {A : Around} {s : Shared} {N : Addr → Prop}

set_option tactic.hygienic false in
theorem strs_numbered {h : Heap} : ∀ (t : Tok) (l : List Str) (ds : List (List Nat)), l.map (fun z => z.cps.toList) = ds → (∀ d ∈ ds, d.length ≤ LIM) → RepAll N h (strsFrom t l) (ds.map .str)
  | _, [], ds, e, _ => by
    simp at e; subst e; exact .nil
  | t, z :: l, ds, e, hb => by
    cases ds with
    | nil => simp at e
    | cons d ds =>
      simp only [List.map_cons, List.cons.injEq] at e
      obtain ⟨e1, e2⟩ := e
      have hz : z = S d := by apply Str.ext'; apply Array.ext'; simpa using e1
      show RepAll N h (.str z t :: strsFrom (t + 1) l) (.str d :: ds.map .str)
      rw [hz]
      exact .cons (.str d t (hb d (by simp))) (strs_numbered (t + 1) l ds e2 fun d' hd => hb d' (by simp [hd]))
set_option tactic.hygienic false in
theorem strsFrom_length : ∀ (t : Tok) (l : List Str), (strsFrom t l).length = l.length
  | _, [] => rfl
  | t, z :: l => by show (_ :: strsFrom (t + 1) l).length = _; simp [strsFrom_length (t + 1) l]

set_option tactic.hygienic false in
theorem splitBy_len (p : Nat → Bool) : ∀ l : List Nat, (splitBy p l).length ≤ l.length + 1 ∧ ∀ w ∈ splitBy p l, w.length ≤ l.length
  | [] => by simp [splitBy]
  | y :: r => by
    obtain ⟨h1, h2⟩ := splitBy_len p r
    obtain ⟨w, ws, e⟩ := List.exists_cons_of_ne_nil (splitBy_ne p r)
    rw [e] at h1 h2
    simp only [splitBy]
    split
    · rw [e]
      refine ⟨by simp at h1 ⊢; (first | lia | omega), fun v hv => ?_⟩
      rcases List.mem_cons.mp hv with rfl | hv
      · simp
      · have := h2 v hv; simp; (first | lia | omega)
    · rw [e]
      refine ⟨by simp at h1 ⊢; (first | lia | omega), fun v hv => ?_⟩
      rcases List.mem_cons.mp hv with rfl | hv
      · have := h2 w (by simp); simp; (first | lia | omega)
      · have := h2 v (by simp [hv]); simp; (first | lia | omega)

set_option tactic.hygienic false in
theorem call_split {x : List Nat} {c : Nat} {t u : Tok} (hN : Alive N s.heap) (hx : x.length < LIM) :
    wpAny (model prog w) A (call (.builtin "str.split") [.str (S x) t, .str (S [c]) u]) (Ok N s (.list ((splitOn c x).map .str))) NoE s := by
  have hL : LIM = 16777216 := rfl
  have hS : sizeLine = 16777216 := by rw [← LIM_eq]; rfl
  have one : c ∉ x → Ok N s (.list ((splitOn c x).map .str)) (.ref s.heap.objs.size) { s with heap := s.heap.push { cls := .type "list", data := .seq #[.str (S x) t] } } := fun h => by
    rw [splitOn_none c x h]
    exact Ok.newList (vs := [.str (S x) t]) (k := s.toks) hN (by simp [LIM]) (.cons (.str x t (by (first | lia | omega))) .nil)
  cases h1 : (decide ((S x).length < (S [c]).length) || decide (Builtin.Str.strKind (S x) < Builtin.Str.strKind (S [c])))
  · cases hf : (occurrences (S x) (S [c]) 0 (S x).length ((S x).length + 1)).isEmpty
    · obtain ⟨wd, ws, e⟩ := List.exists_cons_of_ne_nil (splitOn_ne c x)
      have hp : (partsBetween (S x) (occurrences (S x) (S [c]) 0 (S x).length ((S x).length + 1)) (S [c]).length).map (fun z => z.cps.toList) = splitOn c x := by
        rw [StrLaws.partsBetween_eq, occ_idxs, S_length]
        have := parts_split x c x 0 0 (by simp) (by (first | lia | omega)) (by (first | lia | omega)) wd ws e
        simp at this
        simp only [List.length_cons, List.length_nil]
        rw [e]; simpa using this
      obtain ⟨b1, b2⟩ := splitBy_len (· == c) x
      have hlen : (partsBetween (S x) (occurrences (S x) (S [c]) 0 (S x).length ((S x).length + 1)) (S [c]).length).length = (splitOn c x).length := by rw [← hp]; simp
      refine call_meets F.slot_str_split (typeIs_str _ _ _) F.entry_str_split (F.args_str_split_2 _ _) (meets_str_split_sep (S x) (S [c]) t u h1 (by simp [S_length]) hf (by rw [S_length]; (first | lia | omega)) (by rw [hlen, hS]; unfold splitOn; (first | lia | omega))) ?_
      exact Ok.newList (ds := (splitOn c x).map .str) hN (by rw [strsFrom_length, hlen]; unfold splitOn; (first | lia | omega)) (strs_numbered _ _ _ hp fun d hd => by have := b2 d hd; (first | lia | omega))
    · refine call_meets F.slot_str_split (typeIs_str _ _ _) F.entry_str_split (F.args_str_split_2 _ _) (meets_str_split_not_found (S x) (S [c]) t u h1 (by simp [S_length]) hf) (one ?_)
      rw [occ_idxs] at hf
      exact idxs_nil c 0 x (by simpa using hf)
  · refine call_meets F.slot_str_split (typeIs_str _ _ _) F.entry_str_split (F.args_str_split_2 _ _) (meets_str_split_cannot_occur (S x) (S [c]) t u h1) (one ?_)
    rw [Bool.or_eq_true] at h1
    rcases h1 with h1 | h1
    · have : x = [] := by simpa [S_length] using h1
      simp [this]
    · exact kind_lt (by simpa using h1)

set_option tactic.hygienic false in
theorem call_words {x : List Nat} {t : Tok} (hN : Alive N s.heap) (hx : x.length < LIM) :
    wpAny (model prog w) A (call (.builtin "str.split") [.str (S x) t]) (Ok N s (.list ((wordsBy isWs x).map .str))) NoE s := by
  have hL : LIM = 16777216 := rfl
  have hS : sizeLine = 16777216 := by rw [← LIM_eq]; rfl
  have hw := spaceWords_eq x
  obtain ⟨b1, b2⟩ := splitBy_len isWs x
  have hwl : (wordsBy isWs x).length ≤ x.length + 1 := by unfold wordsBy; exact Nat.le_trans (List.length_filter_le _ _) b1
  have hwb : ∀ d ∈ wordsBy isWs x, d.length ≤ LIM := fun d hd => by
    have := b2 d (by unfold wordsBy at hd; exact (List.mem_filter.mp hd).1)
    (first | lia | omega)
  have hlen : (spaceWords (S x) ((S x).length + 1)).length = (wordsBy isWs x).length := by rw [← hw]; simp
  refine call_meets F.slot_str_split (typeIs_str _ _ _) F.entry_str_split (F.args_str_split_1 _) (meets_str_split_space (S x) t (by rw [S_length]; (first | lia | omega)) (by rw [hlen, hS]; (first | lia | omega))) ?_
  have hwo : (PySem.wordsOf (S x)).map (fun z => z.cps.toList) = wordsBy isWs x := by
    rw [← hw]; simp [PySem.wordsOf]
  cases hc : spaceWords (S x) ((S x).length + 1) == [(0, (S x).length)]
  · simp only [Bool.false_eq_true, if_false]
    exact Ok.newList (ds := (wordsBy isWs x).map .str) hN (by rw [strsFrom_length]; have : (PySem.wordsOf (S x)).length = (wordsBy isWs x).length := by rw [← hwo]; simp
                                                              (first | lia | omega)) (strs_numbered _ _ _ hwo hwb)
  · simp only [if_true]
    have h0 : wordsBy isWs x = [x] := by
      rw [← hw, eq_of_beq hc]
      simp [StrLaws.strSub_toList, S_length]
    rw [h0]
    exact Ok.newList (vs := [.str (S x) t]) (k := s.toks) hN (by simp [LIM]) (.cons (.str x t (by (first | lia | omega))) .nil)

set_option tactic.hygienic false in
theorem call_join {sep : List Nat} {t : Tok} {a : Addr} {vs : List Value} {ds : List D} {l : List (List Nat)} (hl : s.heap.PlainList a vs.toArray) (r : RepAll N s.heap vs ds) (e : strs? ds = some l)
    (hb : (l.map fun w => w.length + sep.length).sum ≤ LIM) :
    wpAny (model prog w) A (call (.builtin "str.join") [.str (S sep) t, .ref a]) (Ok N s (.str (joinWith sep l))) NoE s := by
  have hS : sizeLine = 16777216 := by rw [← LIM_eq]; rfl
  obtain ⟨ts, hv, ht⟩ := r.strs e
  have hv' : vs = strValues ((l.map S).zip ts) := by
    rw [hv]
    unfold strValues
    rw [List.zip_map_left, List.map_map]
    rfl
  have hz : ((l.map S).zip ts).map (·.1) = l.map S := by rw [List.map_fst_zip (by simp; (first | lia | omega))]
  refine SC.join (l := (l.map S).zip ts) (texts := l.map S) (by rw [← hv']; exact hl.isList) hz ?_ fun t' k => ?_
  · unfold JoinOk
    rw [StrLaws.joinTotal]
    simp only [tooLong, Bool.not_eq_true', decide_eq_false_iff_not]
    have : ∀ l : List (List Nat), ((l.map S).map (·.length)).sum + (l.map S).length * (S sep).length = (l.map fun w => w.length + sep.length).sum := by
      intro l
      induction l with
      | nil => simp
      | cons x r ih =>
        simp only [List.map_cons, List.sum_cons, List.length_cons, S_length] at ih ⊢
        have : (List.map S r).length = r.length := by simp
        rw [this] at ih ⊢
        rw [Nat.add_mul]; (first | lia | omega)
    rw [this, ← LIM_eq]; (first | lia | omega)
  · have hj : Txt.join (S sep) (l.map S) = S (joinWith sep l) := by
      apply Str.ext'; apply Array.ext'
      unfold Txt.join
      rw [StrLaws.glued_eq_join, join_eq]
    rw [hj]
    exact Ok.str' (Nat.le_trans (joinWith_le sep l) hb)

set_option tactic.hygienic false in
theorem call_expandtabs {x : List Nat} {t : Tok} (hx : 8 * x.length ≤ LIM) :
    wpAny (model prog w) A (call (.builtin "str.expandtabs") [.str (S x) t]) (Ok N s (.str (expandGo 0 x))) NoE s := by
  have hL : LIM = 16777216 := rfl
  have hS : sizeLine = 16777216 := by rw [← LIM_eq]; rfl
  refine wpAny_call_entry F.slot_str_expandtabs (typeIs_str _ _ _) F.entry_str_expandtabs ?_ (F.args_str_expandtabs_1 _)
  unfold Builtin.«str.expandtabs»
  refine wpAny_bind (m := Builtin.Str.strSelf _) (wpAny_pure ?_)
  refine wpAny_bind (m := Builtin.Str.bindOptional _ _ _ _ _ _) (wpAny_pure ?_)
  refine wpAny_bind (wpAny_pure ?_)
  simp only
  rw [if_neg (by decide)]
  by_cases hc : x.contains 9
  · rw [if_neg (by simp only [S, List.contains_toArray, hc]; decide)]
    refine wpAny_bind ?_
    have hfor : ∀ f, (forIn (S x).cps (#[], 0) f : Sem (Array Nat × Nat)) = forIn x (#[], 0) f := fun f => by simp [S]
    rw [hfor]
    refine wpAny_forIn_list _ (fun rest b s' => s' = s ∧ ∃ done, done ++ rest = x ∧ b.1.toList ++ expandGo b.2 rest = expandGo 0 x) _ ?_ ?_ x (#[], 0) ⟨rfl, [], rfl, by simp⟩
    · rintro y rest ⟨acc, col⟩ s' ⟨rfl, done, hd, he⟩
      have hle := expandGo_le x 0
      have hlen : acc.size ≤ 8 * x.length := by
        have := congrArg List.length he
        simp only [List.length_append, Array.length_toList] at this
        (first | lia | omega)
      by_cases hy : y = 9
      · subst hy
        simp only [beq_self_eq_true, if_true]
        have h8 : (if (8 : Int) > 0 then Int.toNat 8 - col % Int.toNat 8 else 0) = 8 - col % 8 := by simp
        rw [h8]
        have hsz : acc.size + (8 - col % 8) ≤ 8 * x.length := by
          have := congrArg List.length he
          simp only [expandGo, if_true, List.length_append, Array.length_toList, List.length_replicate] at this
          (first | lia | omega)
        rw [if_neg (by simp only [tooLong, decide_eq_true_eq]; (first | lia | omega))]
        refine wpAny_pure ⟨rfl, done ++ [9], by simpa using hd, ?_⟩
        simp only [expandGo, if_true] at he
        simpa using he
      · simp only [beq_iff_eq, hy, if_false]
        refine wpAny_pure ⟨rfl, done ++ [y], by simpa using hd, ?_⟩
        simp only [expandGo, hy, if_false] at he
        simp only [Array.toList_push, List.append_assoc, List.singleton_append]
        rw [← he]
        congr 3
        simp
    · rintro ⟨acc, col⟩ s' ⟨rfl, done, hd, he⟩
      simp only [expandGo, List.append_nil] at he
      have ha : (⟨acc⟩ : Str) = S (expandGo 0 x) := by
        apply Str.ext'; apply Array.ext'; simpa using he
      have hle := expandGo_le x 0
      unfold retStr
      refine wpAny_bind (wpAny_mkStr (wpAny_pure ⟨_, rfl, ?_⟩) (by rw [ha, S_length]; (first | lia | omega)))
      rw [ha]
      exact Ok.str' (by (first | lia | omega))
  · rw [if_pos (by simp only [S, List.contains_toArray]; simpa using hc)]
    refine wpAny_bind (wpAny_rule (wpAny_bind (wpAny_pure (wpAny_pure ⟨_, rfl, ?_⟩))))
    have hsame : ∀ (l : List Nat) (col : Nat), 9 ∉ l → expandGo col l = l := by
      intro l
      induction l with
      | nil => intro _ _; rfl
      | cons y r ih =>
        intro col h
        simp at h
        simp only [expandGo]
        rw [if_neg (fun e => h.1 e.symm), ih _ h.2]
    rw [hsame x 0 (by simpa using hc)]
    exact ⟨Grow.rfl' _, .str _ _ (by (first | lia | omega)), fun _ e => by cases e⟩

theorem call_strip_r {x : List Nat} {t : Tok} (hx : x.length ≤ LIM) :
    wpAny (model prog w) A (call (.builtin "str.rstrip") [.str (S x) t]) (Ok N s (.str (rstripBy isWs x))) NoE s := by
  refine call_gives F.slot_str_rstrip (typeIs_str _ _ _) F.entry_str_rstrip (F.args_str_rstrip_1 _) (gives_str_rstrip (S x) t) ?_
  have hle := rstripBy_le isWs x
  split
  · rename_i h
    have : rstripBy isWs x = x := stripSame_r h
    rw [this]
    exact ⟨Grow.rfl' _, .str _ _ hx, fun _ e => by cases e⟩
  · have : PySem.stripped Unicode.isSpace false true (S x) = S (rstripBy isWs x) := stripped_r isWs x
    rw [this]
    exact ⟨by rw [S_length, ← LIM_eq]; (first | lia | omega), Ok.str' (by (first | lia | omega))⟩
end
end Mine
end
/-! R1 -/
section
open PySem PySem.W PyProof.Rows
open PySem.Sre
set_option linter.unusedSimpArgs false
namespace Mine

noncomputable def code1 : Array Nat := #[14, 4, 0, 1, 4294967295, 17, 0, 24, 9, 1, 4294967295, 13, 4, 8, 12, 0, 1, 17, 1, 1]
noncomputable def code2 : Array Nat := #[14, 4, 0, 0, 4294967295, 6, 0, 24, 9, 0, 4294967295, 13, 4, 8, 12, 0, 1, 6, 5, 1]
noncomputable def code3 : Array Nat := #[14, 4, 0, 0, 4294967295, 6, 0, 17, 0, 24, 11, 0, 4294967295, 13, 6, 16, 32, 16, 9, 0, 1, 17, 1, 1]

set_option tactic.hygienic false in
theorem acc1 (c : Nat) (seen : Sre.Seen) : ∃ seen', accepts code1 11 c seen = .ok (isWs c, seen') := by
  have h : accepts code1 11 c seen = inSet code1 c 20 13 true seen := rfl
  rw [h]
  have h2 : inSet code1 c 20 13 true seen = (do if ← category 12 c then pure (true, (seen.add 8).add 67) else inSet code1 c 19 15 true ((seen.add 8).add 67)) := rfl
  rw [h2]
  have h3 : category 12 c = .ok (isWs c) := by
    show (Except.ok (Unicode.isSpace c) : Except String Bool).map (· != (12 % 2 == 1)) = _
    simp [Except.map, isWs]
  rw [h3]
  cases hc : isWs c
  · exact ⟨_, rfl⟩
  · exact ⟨_, rfl⟩
set_option tactic.hygienic false in
theorem acc2 (c : Nat) (seen : Sre.Seen) : ∃ seen', accepts code2 11 c seen = .ok (isWs c, seen') := by
  have h : accepts code2 11 c seen = inSet code2 c 20 13 true seen := rfl
  rw [h]
  have h2 : inSet code2 c 20 13 true seen = (do if ← category 12 c then pure (true, (seen.add 8).add 67) else inSet code2 c 19 15 true ((seen.add 8).add 67)) := rfl
  rw [h2]
  have h3 : category 12 c = .ok (isWs c) := by
    show (Except.ok (Unicode.isSpace c) : Except String Bool).map (· != (12 % 2 == 1)) = _
    simp [Except.map, isWs]
  rw [h3]
  cases hc : isWs c
  · exact ⟨_, rfl⟩
  · exact ⟨_, rfl⟩
set_option tactic.hygienic false in
theorem acc3 (c : Nat) (seen : Sre.Seen) : ∃ seen', accepts code3 13 c seen = .ok (c == 32 || c == 9, seen') := by
  have h : accepts code3 13 c seen = inSet code3 c 24 15 true seen := rfl
  rw [h]
  have h2 : inSet code3 c 24 15 true seen = if (c == 32) = true then .ok (true, seen.add 16) else if (c == 9) = true then .ok (true, (seen.add 16).add 16) else .ok (false, ((seen.add 16).add 16).add 0) := rfl
  rw [h2]
  cases h3 : (c == 32) <;> cases h4 : (c == 9) <;> exact ⟨_, rfl⟩

set_option tactic.hygienic false in
/-- the run of an item that takes the signs of p -/
theorem run_eq {code : Array Nat} {i : Nat} {p : Nat → Bool} (ha : ∀ c seen, ∃ seen', accepts code i c seen = .ok (p c, seen')) (x : List Nat) :
    ∀ (l : List Nat) (n q found : Nat) (seen : Sre.Seen), x.drop q = l → n = l.length → ∃ seen', run code x.toArray i n q found seen = .ok (found + (l.takeWhile p).length, seen')
  | [], n, q, found, seen, hl, hn => by subst hn; exact ⟨seen, rfl⟩
  | y :: r, n, q, found, seen, hl, hn => by
    subst hn
    have hr : x.drop (q + 1) = r := by
      have : x.drop (q + 1) = (x.drop q).drop 1 := by rw [List.drop_drop]
      rw [this, hl]; rfl
    have hy : x.toArray.getD q 0 = y := by
      have := congrArg (fun l => l[0]?) hl
      simp at this
      simp [Array.getD_eq_getD_getElem?, this]
    obtain ⟨seen', e⟩ := ha y seen
    show ∃ seen', (do let (yes, seen) ← accepts code i (x.toArray.getD q 0) seen; if yes then run code x.toArray i r.length (q + 1) (found + 1) seen else pure (found, seen)) = _
    rw [hy, e]
    cases hp : p y
    · exact ⟨seen', by simp [List.takeWhile, hp]; rfl⟩
    · obtain ⟨s2, e2⟩ := run_eq ha x r r.length (q + 1) (found + 1) seen' hr rfl
      refine ⟨s2, ?_⟩
      show run code x.toArray i r.length (q + 1) (found + 1) seen' = _
      rw [e2]
      simp [List.takeWhile, hp]; (first | lia | omega)

/-! ## the machine's steps -/
noncomputable def iter : Nat → M → M
  | 0, m => m
  | n + 1, m => iter n m.step
set_option tactic.hygienic false in
theorem iter_add (a b : Nat) (m : M) : iter (a + b) m = iter b (iter a m) := by
  induction a generalizing m with
  | zero => simp [iter]
  | succ a ih => rw [Nat.succ_add]; exact ih m.step
set_option tactic.hygienic false in
theorem step_done {m : M} (h : m.outcome.isSome = true) : m.step = m := by unfold M.step; rw [if_pos h]
set_option tactic.hygienic false in
theorem iter_done {m : M} (h : m.outcome.isSome = true) : ∀ n, iter n m = m
  | 0 => rfl
  | n + 1 => by rw [iter, step_done h]; exact iter_done h n
theorem runFor_iter : ∀ (n : Nat) (m : M), m.runFor n = iter n m
  | 0, _ => rfl
  | n + 1, m => by
    unfold M.runFor
    split
    · rename_i h; rw [iter_done h]
    · rw [runFor_iter n]; rfl


/-! ### the second pattern: all white -/
theorem step2_at {text : Array Nat} {lim : Nat} {marks : Array (Option Nat)} {seen : Sre.Seen} {handed : Nat} :
    ∃ seen', M.step { code := code2, text, lim, start := 0, pc := 5, pos := 0, handed, marks, seen } = { code := code2, text, lim, start := 0, pc := 7, pos := 0, handed, marks, seen := seen' } := ⟨_, rfl⟩

noncomputable abbrev gb2 (n : Nat) : Sre.Frame := { wait := .giveBack, pc := 7, pos := n, outermost := true, count := n }
/-- behind the run, n signs taken -/
noncomputable abbrev at2 (x : List Nat) (n : Nat) (seen : Sre.Seen) : M :=
  { code := code2, text := x.toArray, lim := x.length, start := 0, pc := 17, pos := n, handed := n, marks := #[], seen, frames := [gb2 n], weight := 1 }

set_option tactic.hygienic false in
theorem step2_rep (x : List Nat) (hx : x.length < 1000000) {seen : Sre.Seen} {handed : Nat} :
    ∃ seen', M.step { code := code2, text := x.toArray, lim := x.length, start := 0, pc := 7, pos := 0, handed, marks := #[], seen } = at2 x (x.takeWhile isWs).length seen' := by
  have hmin : min 4294967295 ((x.length : Int) - ((0 : Nat) : Int)).toNat = x.length := by simp; (first | lia | omega)
  obtain ⟨s1, h1⟩ := run_eq (fun c seen => acc2 c seen) x x x.length 0 0 ((seen.add 24).add 13) (by simp) rfl
  refine ⟨s1, ?_⟩
  unfold M.step
  rw [if_neg (by simp)]
  show (if 7 < code2.size then M.exec _ else _) = _
  rw [if_pos (by decide)]
  unfold M.exec
  show (if ((0 : Nat) : Int) > ((x.length : Int) - ((0 : Nat) : Int)) then _ else match run code2 x.toArray 11 (min 4294967295 ((x.length : Int) - ((0 : Nat) : Int)).toNat) 0 0 ((seen.add 24).add 13) with | .error why => _ | .ok (n, seen) => _) = _
  rw [if_neg (by simp), hmin, h1, Nat.zero_add]
  show (if (x.takeWhile isWs).length < 0 then _ else _) = _
  rw [if_neg (by (first | lia | omega))]
  dsimp only
  rw [Nat.zero_add]
  rfl

set_option tactic.hygienic false in
theorem match2_end (x : List Nat) (seen : Sre.Seen) : ∃ m, iter 4 (at2 x x.length seen) = m ∧ m.outcome = some .matched := by
  have h1 : M.step (at2 x x.length seen) = { at2 x x.length ((seen.add 6).add 48) with pc := 19 } := by
    unfold M.step
    rw [if_neg (by simp)]
    show (if 17 < code2.size then M.exec _ else _) = _
    rw [if_pos (by decide)]
    unfold M.exec
    show (if (x.length == x.length || (x.length + 1 == x.length && x.toArray.getD x.length 0 == 10)) = true then _ else _) = _
    rw [if_pos (by simp)]
    rfl
  refine ⟨_, rfl, ?_⟩
  show (iter 3 (M.step (at2 x x.length seen))).outcome = _
  rw [h1]
  rfl

set_option tactic.hygienic false in
theorem step2_no (x : List Nat) (n : Nat) (hn : n < x.length) (h10 : ¬ (n + 1 = x.length ∧ x.toArray.getD n 0 = 10)) (seen : Sre.Seen) :
    M.step (at2 x n seen) = { at2 x n ((seen.add 6).add 48) with answer := some false } := by
  unfold M.step
  rw [if_neg (by simp)]
  show (if 17 < code2.size then M.exec _ else _) = _
  rw [if_pos (by decide)]
  unfold M.exec
  show (if (n == x.length || (n + 1 == x.length && x.toArray.getD n 0 == 10)) = true then _ else _) = _
  rw [if_neg (by simp only [Bool.or_eq_true, beq_iff_eq, Bool.and_eq_true]; intro h; rcases h with h | h; (first | lia | omega); exact h10 h)]
  rfl

set_option tactic.hygienic false in
theorem fail2 (x : List Nat) : ∀ (n : Nat) (seen : Sre.Seen), n < x.length → (∀ k, k ≤ n → ¬ (k + 1 = x.length ∧ x.toArray.getD k 0 = 10)) → ∃ m, iter (2 * n + 3) (at2 x n seen) = m ∧ m.outcome = some .failed
  | 0, seen, hn, h10 => by
    refine ⟨_, rfl, ?_⟩
    show (iter 2 (M.step (at2 x 0 seen))).outcome = _
    rw [step2_no x 0 hn (h10 0 (Nat.le_refl _))]
    rfl
  | n + 1, seen, hn, h10 => by
    obtain ⟨m, h1, h2⟩ := fail2 x n ((seen.add 6).add 48) (by (first | lia | omega)) fun k hk => h10 k (by (first | lia | omega))
    refine ⟨m, ?_, h2⟩
    rw [show 2 * (n + 1) + 3 = (2 * n + 3) + 1 + 1 from by (first | lia | omega)]
    show iter (2 * n + 3) (M.step (M.step (at2 x (n + 1) seen))) = m
    rw [step2_no x (n + 1) hn (h10 _ (Nat.le_refl _))]
    have : M.step { at2 x (n + 1) ((seen.add 6).add 48) with answer := some false } = at2 x n ((seen.add 6).add 48) := by
      unfold M.step
      rw [if_neg (by simp)]
      show M.resume _ _ false = _
      unfold M.resume
      show (if (((n + 1 : Nat) : Int) - 1 < ((0 : Nat) : Int)) then _ else _) = _
      rw [if_neg (by (first | lia | omega))]
      have hc : (((n + 1 : Nat) : Int) - 1) = (n : Int) := by (first | lia | omega)
      show M.afterRun _ _ (((n + 1 : Nat) : Int) - 1) _ = _
      rw [hc]
      rfl
    rw [this, h1]

set_option tactic.hygienic false in
theorem takeWhile_all (p : Nat → Bool) : ∀ x : List Nat, x.all p = true → (x.takeWhile p).length = x.length
  | [], _ => rfl
  | y :: r, h => by
    rw [List.all_cons, Bool.and_eq_true] at h
    simp [List.takeWhile, h.1, takeWhile_all p r h.2]
set_option tactic.hygienic false in
theorem takeWhile_le (p : Nat → Bool) : ∀ x : List Nat, (x.takeWhile p).length ≤ x.length
  | [] => by simp
  | y :: r => by
    have := takeWhile_le p r
    simp only [List.takeWhile]
    split
    · simp; omega
    · simp
set_option tactic.hygienic false in
theorem takeWhile_stop (p : Nat → Bool) : ∀ x : List Nat, x.all p = false → (x.takeWhile p).length < x.length ∧ p (x.toArray.getD (x.takeWhile p).length 0) = false
  | [], h => by simp at h
  | y :: r, h => by
    rw [List.all_cons, Bool.and_eq_false_iff] at h
    cases hp : p y
    · simp [List.takeWhile, hp]
    · obtain ⟨h1, h2⟩ := takeWhile_stop p r (h.resolve_left (by simp [hp]))
      simp only [List.takeWhile, hp, List.length_cons]
      refine ⟨by (first | lia | omega), ?_⟩
      simpa [Array.getD_eq_getD_getElem?] using h2

set_option tactic.hygienic false in
theorem white2 (x : List Nat) (hx : x.length < 1000000) : ∃ K m, K ≤ 3000000 ∧ iter K (Sre.forMatch code2 x.toArray 0 0 x.length false false) = m ∧ m.outcome = some (if x.all isWs then .matched else .failed) := by
  have h0 : Sre.forMatch code2 x.toArray 0 0 x.length false false = { code := code2, text := x.toArray, lim := x.length, start := 0, pc := 5, pos := 0, handed := 0, marks := #[], seen := ({} : Sre.Seen).add 14 } := rfl
  obtain ⟨s1, h1⟩ := step2_at (text := x.toArray) (lim := x.length) (marks := #[]) (seen := ({} : Sre.Seen).add 14) (handed := 0)
  obtain ⟨s2, h2⟩ := step2_rep x hx (seen := s1) (handed := 0)
  have hl : (x.takeWhile isWs).length ≤ x.length := takeWhile_le isWs x
  cases ha : x.all isWs
  · obtain ⟨g1, g2⟩ := takeWhile_stop isWs x ha
    obtain ⟨m, e1, e2⟩ := fail2 x (x.takeWhile isWs).length s2 g1 (by
      intro k hk ⟨q1, q2⟩
      have : k = (x.takeWhile isWs).length := by (first | lia | omega)
      rw [this] at q2
      rw [q2] at g2
      exact absurd g2 (by decide))
    refine ⟨2 * (x.takeWhile isWs).length + 3 + 1 + 1, m, by (first | lia | omega), ?_, e2⟩
    show iter (2 * (x.takeWhile isWs).length + 3) (M.step (M.step _)) = m
    rw [h0, h1, h2, e1]
  · rw [takeWhile_all _ _ ha] at h2
    obtain ⟨m, e1, e2⟩ := match2_end x s2
    refine ⟨6, m, by (first | lia | omega), ?_, e2⟩
    show iter 4 (M.step (M.step _)) = m
    rw [h0, h1, h2, e1]

/-! ### the third pattern: the indent -/
set_option tactic.hygienic false in
theorem indent3 (x : List Nat) (hx : x.length < 1000000) : ∃ K m, K ≤ 3000000 ∧ iter K (Sre.forMatch code3 x.toArray 1 0 x.length false false) = m ∧ m.outcome = some .matched ∧
    m.start = 0 ∧ m.handed = (indentOf x).length ∧ m.lastmark = 1 ∧ m.marks = #[some 0, some (indentOf x).length] := by
  have hmin : min 4294967295 ((x.length : Int) - ((0 : Nat) : Int)).toNat = x.length := by simp; (first | lia | omega)
  have h0 : iter 2 (Sre.forMatch code3 x.toArray 1 0 x.length false false) = { code := code3, text := x.toArray, lim := x.length, start := 0, pc := 9, pos := 0, handed := 0, marks := #[some 0, none], lastmark := 0, seen := (((({} : Sre.Seen).add 14).add 6).add 43).add 17 } := rfl
  generalize hs : (((({} : Sre.Seen).add 14).add 6).add 43).add 17 = seen at h0
  obtain ⟨s1, h1⟩ := run_eq (fun c seen => acc3 c seen) x x x.length 0 0 ((seen.add 24).add 13) (by simp) rfl
  have h2 : M.step { code := code3, text := x.toArray, lim := x.length, start := 0, pc := 9, pos := 0, handed := 0, marks := #[some 0, none], lastmark := 0, seen := seen } =
      { code := code3, text := x.toArray, lim := x.length, start := 0, pc := 21, pos := (indentOf x).length, handed := (indentOf x).length, marks := #[some 0, none], lastmark := 0, seen := s1, weight := 1, frames := [{ wait := .giveBack, pc := 9, pos := (indentOf x).length, outermost := true, count := (indentOf x).length, kept := { lastmark := 0 } }] } := by
    unfold M.step
    rw [if_neg (by simp)]
    show (if 9 < code3.size then M.exec _ else _) = _
    rw [if_pos (by decide)]
    unfold M.exec
    show (if ((0 : Nat) : Int) > ((x.length : Int) - ((0 : Nat) : Int)) then _ else match run code3 x.toArray 13 (min 4294967295 ((x.length : Int) - ((0 : Nat) : Int)).toNat) 0 0 ((seen.add 24).add 13) with | .error why => _ | .ok (n, seen) => _) = _
    rw [if_neg (by simp), hmin, h1, Nat.zero_add]
    show (if (indentOf x).length < 0 then _ else _) = _
    rw [if_neg (by (first | lia | omega))]
    show M.afterRun _ _ _ _ = _
    dsimp only
    rw [Nat.zero_add]
    rfl
  generalize (indentOf x).length = n at h2
  obtain ⟨li, hli⟩ : ∃ li : Int, (M.step { code := code3, text := x.toArray, lim := x.length, start := 0, pc := 21, pos := n, handed := n, marks := #[some 0, none], lastmark := 0, seen := s1, weight := 1, frames := [{ wait := .giveBack, pc := 9, pos := n, outermost := true, count := n, kept := { lastmark := 0 } }] }).lastindex = li := ⟨_, rfl⟩
  have h3 : M.step { code := code3, text := x.toArray, lim := x.length, start := 0, pc := 21, pos := n, handed := n, marks := #[some 0, none], lastmark := 0, seen := s1, weight := 1, frames := [{ wait := .giveBack, pc := 9, pos := n, outermost := true, count := n, kept := { lastmark := 0 } }] } =
      { code := code3, text := x.toArray, lim := x.length, start := 0, pc := 23, pos := n, handed := n, marks := #[some 0, some n], lastmark := 1, lastindex := li, seen := s1.add 17, weight := 1, frames := [{ wait := .giveBack, pc := 9, pos := n, outermost := true, count := n, kept := { lastmark := 0 } }] } := by rw [← hli]; rfl
  have h4 : M.step { code := code3, text := x.toArray, lim := x.length, start := 0, pc := 23, pos := n, handed := n, marks := #[some 0, some n], lastmark := 1, lastindex := li, seen := s1.add 17, weight := 1, frames := [{ wait := .giveBack, pc := 9, pos := n, outermost := true, count := n, kept := { lastmark := 0 } }] } =
      { code := code3, text := x.toArray, lim := x.length, start := 0, pc := 23, pos := n, handed := n, marks := #[some 0, some n], lastmark := 1, lastindex := li, seen := (s1.add 17).add 1, weight := 1, frames := [{ wait := .giveBack, pc := 9, pos := n, outermost := true, count := n, kept := { lastmark := 0 } }], answer := some true } := rfl
  have h5 : iter 2 { code := code3, text := x.toArray, lim := x.length, start := 0, pc := 23, pos := n, handed := n, marks := #[some 0, some n], lastmark := 1, lastindex := li, seen := (s1.add 17).add 1, weight := 1, frames := [{ wait := .giveBack, pc := 9, pos := n, outermost := true, count := n, kept := { lastmark := 0 } }], answer := some true } =
      { code := code3, text := x.toArray, lim := x.length, start := 0, pc := 9, pos := n, handed := n, marks := #[some 0, some n], lastmark := 1, lastindex := li, seen := (s1.add 17).add 1, weight := 0, frames := [], answer := some true, outcome := some .matched } := rfl
  have h6 : iter 7 (Sre.forMatch code3 x.toArray 1 0 x.length false false) = iter 2 (M.step (M.step (M.step (iter 2 (Sre.forMatch code3 x.toArray 1 0 x.length false false))))) := rfl
  rw [h0, h2, h3, h4, h5] at h6
  exact ⟨7, _, by (first | lia | omega), h6, rfl, rfl, rfl, rfl, rfl⟩
end Mine
end
/-! R2 -/
section
open PySem PySem.W PyProof.Rows
open PySem.Sre
set_option linter.unusedSimpArgs false
namespace Mine

/-! ### the first pattern: the runs of what is white -/
noncomputable abbrev ns1 (q : Nat) (first : Bool) : Sre.Frame := { wait := .nextStart, pc := 5, pos := q, outermost := first }
/-- an attempt at q -/
noncomputable abbrev at1 (x : List Nat) (q : Nat) (first : Bool) (a b : Option Nat) (seen : Sre.Seen) : M :=
  { code := code1, text := x.toArray, lim := x.length, start := q, lastStart := x.length, pc := 5, pos := q, handed := q, outermost := first, marks := #[a, b], frames := [ns1 q first], weight := 1, seen }
noncomputable abbrev rep1 (x : List Nat) (q : Nat) (first : Bool) (b : Option Nat) (li : Int) (seen : Sre.Seen) : M :=
  { code := code1, text := x.toArray, lim := x.length, start := q, lastStart := x.length, pc := 7, pos := q, handed := q, outermost := first, marks := #[some q, b], lastmark := 0, lastindex := li, frames := [ns1 q first], weight := 1, seen }

theorem step1_mark (x : List Nat) (q : Nat) (first : Bool) (a b : Option Nat) (seen : Sre.Seen) : ∃ li seen', M.step (at1 x q first a b seen) = rep1 x q first b li seen' := ⟨_, _, rfl⟩

set_option tactic.hygienic false in
theorem step1_room (x : List Nat) (q : Nat) (first : Bool) (b : Option Nat) (li : Int) (seen : Sre.Seen) (hq : x.length ≤ q) :
    M.step (rep1 x q first b li seen) = { rep1 x q first b li (seen.add 24) with answer := some false } := by
  unfold M.step
  rw [if_neg (by simp)]
  show (if 7 < code1.size then M.exec _ else _) = _
  rw [if_pos (by decide)]
  unfold M.exec
  show (if ((1 : Nat) : Int) > ((x.length : Int) - (q : Int)) then _ else _) = _
  rw [if_pos (by (first | lia | omega))]
  rfl

set_option tactic.hygienic false in
theorem step1_none (x : List Nat) (hx : x.length < 1000000) (q : Nat) (first : Bool) (b : Option Nat) (li : Int) (seen : Sre.Seen) (y : Nat) (r : List Nat) (hl : x.drop q = y :: r) (hy : isWs y = false) :
    ∃ seen', M.step (rep1 x q first b li seen) = { rep1 x q first b li seen' with answer := some false } := by
  have hlen := congrArg List.length hl
  simp at hlen
  have hmin : min 4294967295 ((x.length : Int) - (q : Int)).toNat = (y :: r).length := by simp; (first | lia | omega)
  obtain ⟨s1, h1⟩ := run_eq (fun c seen => acc1 c seen) x (y :: r) (y :: r).length q 0 ((seen.add 24).add 13) hl rfl
  refine ⟨s1, ?_⟩
  unfold M.step
  rw [if_neg (by simp)]
  show (if 7 < code1.size then M.exec _ else _) = _
  rw [if_pos (by decide)]
  unfold M.exec
  show (if ((1 : Nat) : Int) > ((x.length : Int) - (q : Int)) then _ else match run code1 x.toArray 11 (min 4294967295 ((x.length : Int) - (q : Int)).toNat) q 0 ((seen.add 24).add 13) with | .error why => _ | .ok (n, seen) => _) = _
  rw [if_neg (by (first | lia | omega)), hmin, h1, Nat.zero_add]
  have hz : ((y :: r).takeWhile isWs).length = 0 := by simp [List.takeWhile, hy]
  rw [hz]
  rfl

set_option tactic.hygienic false in
theorem hit1 (x : List Nat) (hx : x.length < 1000000) (q : Nat) (first : Bool) (b : Option Nat) (li : Int) (seen : Sre.Seen) (y : Nat) (r : List Nat) (hl : x.drop q = y :: r) (hy : isWs y = true) :
    ∃ m, iter 6 (rep1 x q first b li seen) = m ∧ m.outcome = some .matched ∧ m.start = q ∧ m.handed = q + ((y :: r).takeWhile isWs).length ∧ m.lastmark = 1 ∧ m.marks = #[some q, some (q + ((y :: r).takeWhile isWs).length)] := by
  have hlen := congrArg List.length hl
  simp at hlen
  have hmin : min 4294967295 ((x.length : Int) - (q : Int)).toNat = (y :: r).length := by simp; (first | lia | omega)
  obtain ⟨s1, h1⟩ := run_eq (fun c seen => acc1 c seen) x (y :: r) (y :: r).length q 0 ((seen.add 24).add 13) hl rfl
  have hpos : 1 ≤ ((y :: r).takeWhile isWs).length := by simp [List.takeWhile, hy]
  rw [Nat.zero_add] at h1
  generalize ((y :: r).takeWhile isWs).length = n at h1 hpos
  have h2 : M.step (rep1 x q first b li seen) = { code := code1, text := x.toArray, lim := x.length, start := q, lastStart := x.length, pc := 17, pos := q + n, handed := q + n, outermost := first, marks := #[some q, b], lastmark := 0, lastindex := li, seen := s1, weight := 2, frames := [{ wait := .giveBack, pc := 7, pos := q + n, outermost := first, count := n, kept := { lastmark := 0, lastindex := li } }, ns1 q first] } := by
    unfold M.step
    rw [if_neg (by simp)]
    show (if 7 < code1.size then M.exec _ else _) = _
    rw [if_pos (by decide)]
    unfold M.exec
    show (if ((1 : Nat) : Int) > ((x.length : Int) - (q : Int)) then _ else match run code1 x.toArray 11 (min 4294967295 ((x.length : Int) - (q : Int)).toNat) q 0 ((seen.add 24).add 13) with | .error why => _ | .ok (n, seen) => _) = _
    rw [if_neg (by (first | lia | omega)), hmin, h1]
    show (if n < 1 then _ else _) = _
    rw [if_neg (by (first | lia | omega))]
    rfl
  obtain ⟨li', hli⟩ : ∃ li' : Int, (M.step { code := code1, text := x.toArray, lim := x.length, start := q, lastStart := x.length, pc := 17, pos := q + n, handed := q + n, outermost := first, marks := #[some q, b], lastmark := 0, lastindex := li, seen := s1, weight := 2, frames := [{ wait := .giveBack, pc := 7, pos := q + n, outermost := first, count := n, kept := { lastmark := 0, lastindex := li } }, ns1 q first] }).lastindex = li' := ⟨_, rfl⟩
  have h3 : M.step { code := code1, text := x.toArray, lim := x.length, start := q, lastStart := x.length, pc := 17, pos := q + n, handed := q + n, outermost := first, marks := #[some q, b], lastmark := 0, lastindex := li, seen := s1, weight := 2, frames := [{ wait := .giveBack, pc := 7, pos := q + n, outermost := first, count := n, kept := { lastmark := 0, lastindex := li } }, ns1 q first] } =
      { code := code1, text := x.toArray, lim := x.length, start := q, lastStart := x.length, pc := 19, pos := q + n, handed := q + n, outermost := first, marks := #[some q, some (q + n)], lastmark := 1, lastindex := li', seen := s1.add 17, weight := 2, frames := [{ wait := .giveBack, pc := 7, pos := q + n, outermost := first, count := n, kept := { lastmark := 0, lastindex := li } }, ns1 q first] } := by
    rw [← hli]; rfl
  have h4 : M.step { code := code1, text := x.toArray, lim := x.length, start := q, lastStart := x.length, pc := 19, pos := q + n, handed := q + n, outermost := first, marks := #[some q, some (q + n)], lastmark := 1, lastindex := li', seen := s1.add 17, weight := 2, frames := [{ wait := .giveBack, pc := 7, pos := q + n, outermost := first, count := n, kept := { lastmark := 0, lastindex := li } }, ns1 q first] } =
      { code := code1, text := x.toArray, lim := x.length, start := q, lastStart := x.length, pc := 19, pos := q + n, handed := q + n, outermost := first, marks := #[some q, some (q + n)], lastmark := 1, lastindex := li', seen := (s1.add 17).add 1, weight := 2, answer := some true, frames := [{ wait := .giveBack, pc := 7, pos := q + n, outermost := first, count := n, kept := { lastmark := 0, lastindex := li } }, ns1 q first] } := by
    cases first <;> rfl
  have h5 : iter 3 { code := code1, text := x.toArray, lim := x.length, start := q, lastStart := x.length, pc := 19, pos := q + n, handed := q + n, outermost := first, marks := #[some q, some (q + n)], lastmark := 1, lastindex := li', seen := (s1.add 17).add 1, weight := 2, answer := some true, frames := [{ wait := .giveBack, pc := 7, pos := q + n, outermost := first, count := n, kept := { lastmark := 0, lastindex := li } }, ns1 q first] } =
      { code := code1, text := x.toArray, lim := x.length, start := q, lastStart := x.length, pc := 5, pos := q, handed := q + n, outermost := first, marks := #[some q, some (q + n)], lastmark := 1, lastindex := li', seen := (s1.add 17).add 1, weight := 0, answer := some true, frames := [], outcome := some .matched } := rfl
  have h6 : iter 6 (rep1 x q first b li seen) = iter 3 (M.step (M.step (M.step (rep1 x q first b li seen)))) := rfl
  rw [h2, h3, h4, h5] at h6
  exact ⟨_, h6, rfl, rfl, rfl, rfl, rfl⟩

set_option tactic.hygienic false in
theorem next1 (x : List Nat) (q : Nat) (first : Bool) (b : Option Nat) (li : Int) (seen : Sre.Seen) (hq : q < x.length) :
    M.step { rep1 x q first b li seen with answer := some false } = at1 x (q + 1) false (some q) b seen := by
  unfold M.step
  rw [if_neg (by simp)]
  show M.resume _ _ false = _
  unfold M.resume
  show (if q < x.length then _ else _) = _
  rw [if_pos hq]
  rfl
set_option tactic.hygienic false in
theorem over1 (x : List Nat) (q : Nat) (first : Bool) (b : Option Nat) (li : Int) (seen : Sre.Seen) (hq : x.length ≤ q) :
    (iter 2 { rep1 x q first b li seen with answer := some false }).outcome = some .failed := by
  have h : M.step { rep1 x q first b li seen with answer := some false } = { rep1 x q first b li seen with pc := 5, answer := some false, frames := [], weight := 0 } := by
    unfold M.step
    rw [if_neg (by simp)]
    show M.resume _ _ false = _
    unfold M.resume
    show (if q < x.length then _ else _) = _
    rw [if_neg (by (first | lia | omega))]
    rfl
  show (iter 1 (M.step _)).outcome = _
  rw [h]
  rfl

noncomputable def Found (x : List Nat) (q : Nat) (m : M) : Prop :=
  match (x.drop q).dropWhile (fun c => !isWs c) with
  | [] => m.outcome = some .failed
  | r => m.outcome = some .matched ∧ m.start = q + ((x.drop q).takeWhile (fun c => !isWs c)).length ∧ m.handed = m.start + (r.takeWhile isWs).length ∧ m.lastmark = 1 ∧ m.marks = #[some m.start, some m.handed]

theorem find1 (x : List Nat) (hx : x.length < 1000000) : ∀ (l : List Nat) (q : Nat) (first : Bool) (a b : Option Nat) (seen : Sre.Seen), x.drop q = l → q ≤ x.length →
    ∃ K m, K ≤ 3 * l.length + 8 ∧ iter K (at1 x q first a b seen) = m ∧ Found x q m
  | [], q, first, a, b, seen, hl, hq => by
    have hlen := congrArg List.length hl
    simp at hlen
    obtain ⟨li, s1, h1⟩ := step1_mark x q first a b seen
    refine ⟨4, _, by simp, rfl, ?_⟩
    have h6 : iter 4 (at1 x q first a b seen) = iter 2 (M.step (M.step (at1 x q first a b seen))) := rfl
    rw [h1, step1_room x q first b li s1 (by (first | lia | omega))] at h6
    rw [h6]
    unfold Found
    rw [hl]
    exact over1 x q first b li _ (by (first | lia | omega))
  | y :: r, q, first, a, b, seen, hl, hq => by
    have hlen := congrArg List.length hl
    simp at hlen
    have hr : x.drop (q + 1) = r := by
      have : x.drop (q + 1) = (x.drop q).drop 1 := by rw [List.drop_drop]
      rw [this, hl]; rfl
    obtain ⟨li, s1, h1⟩ := step1_mark x q first a b seen
    cases hy : isWs y
    · obtain ⟨s2, h2⟩ := step1_none x hx q first b li s1 y r hl hy
      obtain ⟨K, m, hK, e, f⟩ := find1 x hx r (q + 1) false (some q) b s2 hr (by (first | lia | omega))
      refine ⟨K + 3, m, by simp; (first | lia | omega), ?_, ?_⟩
      · show iter K (M.step (M.step (M.step (at1 x q first a b seen)))) = m
        rw [h1, h2, next1 x q first b li s2 (by (first | lia | omega)), e]
      · unfold Found at f ⊢
        rw [hl]
        rw [hr] at f
        simp only [List.dropWhile, List.takeWhile, hy, Bool.not_false, List.length_cons]
        split at f
        · exact f
        · rename_i r' hr'
          obtain ⟨f1, f2, f3, f4, f5⟩ := f
          exact ⟨f1, by (first | lia | omega), f3, f4, f5⟩
    · obtain ⟨m, e1, e2, e3, e4, e5, e6⟩ := hit1 x hx q first b li s1 y r hl hy
      refine ⟨7, m, by simp, ?_, ?_⟩
      · show iter 6 (M.step (at1 x q first a b seen)) = m
        rw [h1, e1]
      · unfold Found
        rw [hl]
        simp only [List.dropWhile, List.takeWhile, hy, Bool.not_true]
        refine ⟨e2, by simpa using e3, ?_, e5, ?_⟩
        · rw [e4, e3]; simp [List.takeWhile, hy]
        · rw [e6, e3, e4]

set_option tactic.hygienic false in
theorem search1 (x : List Nat) (hx : x.length < 1000000) (q : Nat) (hq : q ≤ x.length) :
    ∃ K m, K ≤ 3000010 ∧ iter K (Sre.forSearch code1 x.toArray 1 q x.length false) = m ∧ Found x q m := by
  by_cases h : q = x.length
  · have h0 : Sre.forSearch code1 x.toArray 1 q x.length false = { code := code1, text := x.toArray, lim := x.length, start := q, pc := 5, pos := q, handed := q, marks := #[none, none], seen := ({} : Sre.Seen).add 14, answer := some false } := by
      unfold Sre.forSearch
      show (if (decide (q > x.length) || decide (x.length - q < 1)) = true then _ else _) = _
      rw [if_pos (by simp; (first | lia | omega))]
      rfl
    refine ⟨1, _, by (first | lia | omega), rfl, ?_⟩
    rw [h0]
    unfold Found
    rw [h, List.drop_length]
    rfl
  · have h0 : ∃ s, Sre.forSearch code1 x.toArray 1 q x.length false = at1 x q true none none s := by
      refine ⟨({} : Sre.Seen).add 14, ?_⟩
      unfold Sre.forSearch
      show (if (decide (q > x.length) || decide (x.length - q < 1)) = true then _ else _) = _
      rw [if_neg (by simp; (first | lia | omega))]
      rfl
    obtain ⟨s, h0⟩ := h0
    obtain ⟨K, m, hK, e, f⟩ := find1 x hx (x.drop q) q true none none s rfl hq
    refine ⟨K, m, by have : (x.drop q).length ≤ x.length := by simp
                     (first | lia | omega), ?_, f⟩
    rw [h0, e]
end Mine
end
/-! R3 -/
section
open PySem PySem.W PyProof.Rows
open PySem.Builtin.Re
set_option linter.unusedSimpArgs false
set_option maxRecDepth 100000
namespace Mine

set_option tactic.hygienic false in
theorem slot_pat_match : PySem.Slot "re.Pattern" "match" "re.Pattern.match" :=
  .of (owner := "re.Pattern") (n := "match") (by rw [typeLookup_type, builtinLookup_eq_fast]; kernel_rfl) (by decide +kernel) (by decide +kernel) (by decide +kernel)
    (by first | exact .inl (by decide +kernel) | exact .inr (by decide +kernel)) (by rw [isSubtype_type]; kernel_rfl)
set_option tactic.hygienic false in
theorem type_pat_match : typeOf (.builtin "re.Pattern.match") = pure (.type "method_descriptor") := by show builtinType _ = _; rw [builtinType_eq_fast]; kernel_rfl
set_option tactic.hygienic false in
theorem entry_pat_match : entryFor table "re.Pattern.match" = some Builtin.«re.Pattern.match» := entryFor_of_tree (by kernel_rfl)
set_option tactic.hygienic false in
theorem slot_pat_split : PySem.Slot "re.Pattern" "split" "re.Pattern.split" :=
  .of (owner := "re.Pattern") (n := "split") (by rw [typeLookup_type, builtinLookup_eq_fast]; kernel_rfl) (by decide +kernel) (by decide +kernel) (by decide +kernel)
    (by first | exact .inl (by decide +kernel) | exact .inr (by decide +kernel)) (by rw [isSubtype_type]; kernel_rfl)
set_option tactic.hygienic false in
theorem type_pat_split : typeOf (.builtin "re.Pattern.split") = pure (.type "method_descriptor") := by show builtinType _ = _; rw [builtinType_eq_fast]; kernel_rfl
set_option tactic.hygienic false in
theorem entry_pat_split : entryFor table "re.Pattern.split" = some Builtin.«re.Pattern.split» := entryFor_of_tree (by kernel_rfl)
set_option tactic.hygienic false in
theorem slot_match_group : PySem.Slot "re.Match" "group" "re.Match.group" :=
  .of (owner := "re.Match") (n := "group") (by rw [typeLookup_type, builtinLookup_eq_fast]; kernel_rfl) (by decide +kernel) (by decide +kernel) (by decide +kernel)
    (by first | exact .inl (by decide +kernel) | exact .inr (by decide +kernel)) (by rw [isSubtype_type]; kernel_rfl)
set_option tactic.hygienic false in
theorem type_match_group : typeOf (.builtin "re.Match.group") = pure (.type "method_descriptor") := by show builtinType _ = _; rw [builtinType_eq_fast]; kernel_rfl
set_option tactic.hygienic false in
theorem entry_match_group : entryFor table "re.Match.group" = some Builtin.«re.Match.group» := entryFor_of_tree (by kernel_rfl)
set_option tactic.hygienic false in
theorem plainAttrs_pat : PlainAttrs "re.Pattern" :=
  ⟨⟨"object.__getattribute__", by rw [typeLookup_type, builtinLookup_eq_fast]; kernel_rfl, by decide +kernel⟩, by rw [typeLookup_type, builtinLookup_eq_fast]; kernel_rfl⟩
set_option tactic.hygienic false in
theorem plainAttrs_match : PlainAttrs "re.Match" :=
  ⟨⟨"object.__getattribute__", by rw [typeLookup_type, builtinLookup_eq_fast]; kernel_rfl, by decide +kernel⟩, by rw [typeLookup_type, builtinLookup_eq_fast]; kernel_rfl⟩
set_option tactic.hygienic false in
theorem args_pat_match (a b : Value) : argsOk "re.Pattern.match" ⟨[a, b], []⟩ := by unfold argsOk; kernel_rfl
set_option tactic.hygienic false in
theorem args_pat_split (a b : Value) : argsOk "re.Pattern.split" ⟨[a, b], []⟩ := by unfold argsOk; kernel_rfl
set_option tactic.hygienic false in
theorem args_match_group (a : Value) : argsOk "re.Match.group" ⟨[a], []⟩ := by unfold argsOk; kernel_rfl
end Mine
end
/-! R4 -/
section
open PySem PySem.W PyProof.Rows
open PySem.Builtin.Re
open PySem.Sre (M)
set_option linter.unusedSimpArgs false
set_option maxRecDepth 100000
namespace Mine

/-- a compiled pattern of the text -/
noncomputable def IsPat (h : Heap) (P : Addr) (groups : Nat) (code : Array Nat) : Prop :=
  ∃ f0 f1 f3 f4 C n, h.get? P = some { cls := .type "re.Pattern", data := .fields #[f0, f1, .int groups 0, f3, f4, .ref C, .int 0 0] } ∧
    h.get? C = some { cls := .type "tuple", data := .seq (code.map fun (k : Nat) => Value.int (k : Int) 0) n }
theorem IsPat.keeps {h h' : Heap} {P groups code} (x : IsPat h P groups code) (hk : ∀ b o, h.get? b = some o → h'.get? b = some o) : IsPat h' P groups code :=
  let ⟨f0, f1, f3, f4, C, n, a, b⟩ := x; ⟨f0, f1, f3, f4, C, n, hk _ _ a, hk _ _ b⟩

section
variable {prog : Program} {w : World} {A : Around} {s : Shared} {N : Addr → Prop}

set_option tactic.hygienic false in
theorem drive {E : Value → Shared → Prop} {mf : M} {Q : M → Shared → Prop} (ho : mf.outcome.isSome = true) (hQ : Q mf s) :
    ∀ (T K : Nat) (m : M), iter K m = mf → K ≤ 4 * T → 0 < T → wpAny (model prog w) A (reDrive T m) Q E s
  | 0, _, _, _, _, h => absurd h (Nat.lt_irrefl _)
  | T + 1, K, m, e, hK, _ => by
    unfold reDrive
    have hm : m.runFor reTurnSteps = iter 4 m := runFor_iter 4 m
    simp only [hm]
    by_cases ho' : (iter 4 m).outcome.isSome = true
    · rw [if_pos ho']
      have : iter 4 m = mf := by
        by_cases h4 : K ≤ 4
        · have : iter 4 m = iter (4 - K) (iter K m) := by rw [← iter_add]; congr 1; omega
          rw [this, e, iter_done ho]
        · have : iter K m = iter (K - 4) (iter 4 m) := by rw [← iter_add]; congr 1; omega
          rw [iter_done ho', e] at this; exact this.symm
      rw [this]
      exact wpAny_pure hQ
    · rw [if_neg ho']
      have h4 : 4 < K := by
        apply Nat.lt_of_not_le
        intro h4
        have : iter 4 m = iter (4 - K) (iter K m) := by rw [← iter_add]; congr 1; omega
        rw [this, e, iter_done ho] at ho'
        exact ho' ho
      have h5 : iter (K - 4) (iter 4 m) = mf := by
        rw [← iter_add, ← e]; congr 1; omega
      exact wpAny_bind (wpAny_rule (drive ho hQ T (K - 4) (iter 4 m) h5 (by omega) (by omega)))

set_option tactic.hygienic false in
theorem rules_for {E : Value → Shared → Prop} (p : Nat → Bool) (f : Nat → String) (l : List Nat) {Q : PUnit → Shared → Prop} (h : Q ⟨⟩ s) :
    wpAny (model prog w) A (forIn l PUnit.unit fun i _ => if p i = true then do rule (f i); pure (ForInStep.yield PUnit.unit) else pure (ForInStep.yield PUnit.unit)) Q E s := by
  refine wpAny_forIn_list _ (fun _ _ s' => s' = s) _ ?_ ?_ l _ rfl
  · rintro i rest _ s' rfl
    split
    · exact wpAny_bind (wpAny_rule (wpAny_pure rfl))
    · exact wpAny_pure rfl
  · rintro _ s' rfl; exact h

set_option tactic.hygienic false in
theorem toEnd {E : Value → Shared → Prop} {m mf : M} {K : Nat} {Q : Option M → Shared → Prop} (e : iter K m = mf) (hK : K ≤ 4000000)
    (ho : (mf.outcome = some .matched ∧ Q (some mf) s) ∨ (mf.outcome = some .failed ∧ Q none s)) : wpAny (model prog w) A (reRunToEnd m) Q E s := by
  unfold reRunToEnd
  refine wpAny_bind (drive (mf := mf) (by rcases ho with ⟨h, _⟩ | ⟨h, _⟩ <;> rw [h] <;> rfl) ?_ (2 ^ 64) K m e (by (first | lia | omega)) (by decide))
  refine wpAny_bind (rules_for (fun i => mf.seen.has i) (fun i => Sre.names.getD i "") _ ?_)
  rcases ho with ⟨h, hq⟩ | ⟨h, hq⟩ <;> rw [h] <;> exact wpAny_pure hq

set_option tactic.hygienic false in
theorem raw_code (code : Array Nat) : (((code.map fun (k : Nat) => Value.int (k : Int) 0).map reRawOf).map (·.toNat)) = code := by
  rw [Array.map_map, Array.map_map]
  have : (((fun x : Int => x.toNat) ∘ reRawOf) ∘ fun (k : Nat) => Value.int (k : Int) 0) = id := by funext k; simp [reRawOf]
  rw [this]; simp

set_option tactic.hygienic false in
theorem target {E : Value → Shared → Prop} {P : Addr} {groups : Nat} {code : Array Nat} {x : List Nat} {t : Tok} {Q : ReTarget → Shared → Prop} (hp : IsPat s.heap P groups code) (hx : x.length < 1000000) {id f : String}
    (h : Q { pattern := .ref P, string := .str (S x) t, code, text := x.toArray, kind := 0, groups, pos := 0, lim := x.length } s) :
    wpAny (model prog w) A (reTarget id f ⟨[.ref P, .str (S x) t], []⟩) Q E s := by
  obtain ⟨f0, f1, f3, f4, C, n, hP, hC⟩ := hp
  unfold reTarget
  refine wpAny_bind (m := reNamed _ _ _ _ _ _) (wpAny_pure ?_)
  refine wpAny_bind (wpAny_pure (wpAny_bind (wpAny_pure ?_)))
  refine wpAny_bind (wpAny_fieldsOf hP rfl ?_)
  refine wpAny_bind (m := reTextOf _) (wpAny_pure ?_)
  simp only
  rw [if_neg (by simp)]
  rw [if_neg (by simp [reRawNat])]
  refine wpAny_bind (m := reNoCollectionInside _ _) (wpAny_pure ?_)
  refine wpAny_bind ?_
  unfold reRawItems
  refine wpAny_bind (m := seqItems? _) (wpAny_seqItems hC rfl (wpAny_pure (wpAny_pure ?_)))
  have h1 : min (2 ^ 63 - 1 : Int).toNat x.toArray.size = x.length := by simp; (first | lia | omega)
  show Q { pattern := .ref P, string := .str (S x) t, code := _, text := x.toArray, kind := 0, groups := groups, pos := 0, lim := min (2 ^ 63 - 1 : Int).toNat x.toArray.size } s
  rw [h1]
  have h2 := raw_code code
  show Q { pattern := .ref P, string := .str (S x) t, code := (((code.map fun (k : Nat) => Value.int (k : Int) 0).map reRawOf).map (·.toNat)), text := x.toArray, kind := 0, groups := groups, pos := 0, lim := x.length } s
  rw [h2]
  exact h

set_option tactic.hygienic false in
theorem newMatch0 {E : Value → Shared → Prop} {pat str : Value} {pos lim : Nat} {m : M} {Q : Value → Shared → Prop} (h : ∀ s' a, Grow s s' → Q (.ref a) s') :
    wpAny (model prog w) A (reNewMatch pat str 0 pos lim m) Q E s := by
  unfold reNewMatch
  rw [if_neg (by simp)]
  refine wpAny_bind (wpAny_newObj_type ?_ (by show (List.toArray _).size ≤ sizeLine; simp; decide))
  exact wpAny_newObj_type (h _ _ ((Grow.push s _ s.toks).trans (Grow.push _ _ _))) (by size_fits)

set_option tactic.hygienic false in
theorem call_match2 {P : Addr} {x : List Nat} {t : Tok} (hp : IsPat s.heap P 0 code2) (hx : x.length < 1000000) :
    wpAny (model prog w) A (call (.builtin "re.Pattern.match") [.ref P, .str (S x) t]) (fun r s' => Grow s s' ∧ (r == .none) = !(x.all isWs) ∧ (r = .none ∨ ∃ a, r = .ref a)) NoE s := by
  have hT : s.TypeIs (.ref P) "re.Pattern" := by obtain ⟨f0, f1, f3, f4, C, n, hP, hC⟩ := hp; exact ⟨_, hP, rfl⟩
  refine wpAny_call_entry slot_pat_match hT entry_pat_match ?_ (args_pat_match _ _)
  unfold Builtin.«re.Pattern.match»
  refine wpAny_bind (target hp hx ?_)
  show wpAny _ _ (reRunToEnd (Sre.forMatch code2 x.toArray 0 0 x.length false false) >>= _) _ _ _
  obtain ⟨K, m, hK, e, ho⟩ := white2 x hx
  refine wpAny_bind ?_
  generalize Sre.forMatch code2 x.toArray 0 0 x.length false false = m0 at e ⊢
  refine toEnd e (by (first | lia | omega)) ?_
  cases ha : x.all isWs
  · rw [ha] at ho
    exact .inr ⟨ho, wpAny_pure ⟨_, rfl, Grow.rfl' _, rfl, .inl rfl⟩⟩
  · rw [ha] at ho
    exact .inl ⟨ho, wpAny_bind (newMatch0 fun s' a g => wpAny_pure ⟨_, rfl, g, rfl, .inr ⟨a, rfl⟩⟩)⟩

noncomputable def IsMatch (h : Heap) (a : Addr) (x : List Nat) (b e : Int) : Prop :=
  ∃ t f1 f2 f3 f4 T n, ∃ rest : List Value, h.get? a = some { cls := .type "re.Match", data := .fields #[.str (S x) t, f1, f2, f3, f4, .ref T] } ∧
    h.get? T = some { cls := .type "tuple", data := .seq (Value.int b 0 :: Value.int e 0 :: rest).toArray n }

set_option tactic.hygienic false in
theorem newMatch1 {E : Value → Shared → Prop} {pat : Value} {x : List Nat} {t : Tok} {pos lim k : Nat} {m : M} {Q : Value → Shared → Prop} (h1 : m.start = 0) (h2 : m.handed = k) (h3 : m.lastmark = 1) (h4 : m.marks = #[some 0, some k])
    (h : ∀ s' a, Grow s s' → IsMatch s'.heap a x 0 k → Q (.ref a) s') :
    wpAny (model prog w) A (reNewMatch pat (.str (S x) t) 1 pos lim m) Q E s := by
  unfold reNewMatch
  have hr : List.range 1 = [0] := rfl
  simp only [hr, h1, h2, h3, h4]
  rw [if_neg (by simp)]
  refine wpAny_bind (wpAny_newObj_type ?_ (by show (List.toArray _).size ≤ sizeLine; simp; decide))
  refine wpAny_newObj_type (h _ _ ((Grow.push s _ s.toks).trans (Grow.push _ _ _)) ⟨t, _, _, _, _, s.heap.objs.size, 0, _, Heap.get?_push_size _ rfl, Heap.get?_push_of_some _ (Heap.get?_push_size _ rfl)⟩) (by size_fits)

set_option tactic.hygienic false in
theorem call_match3 {P : Addr} {x : List Nat} {t : Tok} (hp : IsPat s.heap P 1 code3) (hx : x.length < 1000000) :
    wpAny (model prog w) A (call (.builtin "re.Pattern.match") [.ref P, .str (S x) t]) (fun r s' => Grow s s' ∧ ∃ a, r = .ref a ∧ IsMatch s'.heap a x 0 (indentOf x).length) NoE s := by
  have hT : s.TypeIs (.ref P) "re.Pattern" := by obtain ⟨f0, f1, f3, f4, C, n, hP, hC⟩ := hp; exact ⟨_, hP, rfl⟩
  refine wpAny_call_entry slot_pat_match hT entry_pat_match ?_ (args_pat_match _ _)
  unfold Builtin.«re.Pattern.match»
  refine wpAny_bind (target hp hx ?_)
  show wpAny _ _ (reRunToEnd (Sre.forMatch code3 x.toArray 1 0 x.length false false) >>= _) _ _ _
  obtain ⟨K, m, hK, e, ho, h1, h2, h3, h4⟩ := indent3 x hx
  refine wpAny_bind ?_
  generalize Sre.forMatch code3 x.toArray 1 0 x.length false false = m0 at e ⊢
  exact (toEnd e (by (first | lia | omega)) (.inl ⟨ho, wpAny_bind (newMatch1 h1 h2 h3 h4 fun s' a g hm => wpAny_pure ⟨_, rfl, g, a, rfl, hm⟩)⟩))

set_option tactic.hygienic false in
theorem call_group {a : Addr} {x : List Nat} {k : Nat} (hm : IsMatch s.heap a x 0 k) (hx : x.length < 1000000) :
    wpAny (model prog w) A (call (.builtin "re.Match.group") [.ref a]) (Ok N s (.str (x.take k))) NoE s := by
  have hL : LIM = 16777216 := rfl
  obtain ⟨t, f1, f2, f3, f4, T, n, rest, ha, hT⟩ := hm
  refine wpAny_call_entry slot_match_group ⟨_, ha, rfl⟩ entry_match_group ?_ (args_match_group _)
  unfold Builtin.«re.Match.group»
  refine wpAny_bind (m := noKeywords _ _) (wpAny_pure ?_)
  refine wpAny_bind ?_
  unfold reFound
  refine wpAny_bind (wpAny_fieldsOf ha rfl ?_)
  refine wpAny_bind ?_
  unfold reRawItems
  refine wpAny_bind (m := seqItems? _) (wpAny_seqItems hT rfl (wpAny_pure (wpAny_pure ?_)))
  refine wpAny_bind ?_
  unfold reGroupText
  have h0 : ((Option.getD (some (Value.int 0 0 :: Value.int k 0 :: rest).toArray) #[]).map reRawOf).getD (2 * 0) (-1) = 0 := by simp [reRawOf, Array.getD_eq_getD_getElem?]
  have h1 : ((Option.getD (some (Value.int 0 0 :: Value.int k 0 :: rest).toArray) #[]).map reRawOf).getD (2 * 0 + 1) (-1) = k := by simp [reRawOf, Array.getD_eq_getD_getElem?]
  simp only [h0, h1]
  rw [if_neg (by simp)]
  refine wpAny_bind (m := reTextOf _) (wpAny_pure ?_)
  unfold reSlice
  have hs : (⟨Array.extract (S x).cps 0 k⟩ : Str) = S (x.take k) := by
    apply Str.ext'; apply Array.ext'; simp [S]
  show wpAny _ _ (mkStr ⟨Array.extract (S x).cps (Int.toNat 0) (Int.toNat k)⟩) _ _ _
  simp only [Int.toNat_natCast, Int.toNat_zero, hs]
  exact wpAny_mkStr (wpAny_pure ⟨_, rfl, Ok.str' (by simp; omega)⟩) (by rw [S_length, ← LIM_eq]; simp; omega)
end
end Mine
end
/-! R5 -/
section
open PySem PySem.W PyProof.Rows
open PySem.Builtin.Re
open PySem.Sre (M)
set_option linter.unusedSimpArgs false
set_option maxRecDepth 100000
namespace Mine
set_option tactic.hygienic false in
theorem reGo_eq (p : Nat → Bool) : ∀ (s : List Nat) (b : Bool), reGo p b s = (s.takeWhile (fun c => p c == b)) :: (match s.dropWhile (fun c => p c == b) with | [] => [] | r => reGo p (!b) r)
  | [], _ => rfl
  | x :: r, b => by
    simp only [reGo]
    by_cases h : (p x == b) = true
    · rw [if_pos h, reGo_eq p r b]
      simp only [List.takeWhile, List.dropWhile, h]
    · have hf : (p x == b) = false := by simpa using h
      rw [if_neg h]
      simp only [List.takeWhile, List.dropWhile, hf]
      have h2 : reGo p (!b) (x :: r) = match reGo p (!b) r with | [] => [[x]] | w :: ws => (x :: w) :: ws := by
        simp only [reGo]
        rw [if_pos (by revert hf; cases p x <;> cases b <;> simp)]
        all_goals (cases reGo p (!b) r <;> rfl)
      rw [h2]
      all_goals (cases reGo p (!b) r <;> rfl)

set_option tactic.hygienic false in
theorem take_takeWhile (p : Nat → Bool) (l : List Nat) : l.take (l.takeWhile p).length = l.takeWhile p := by
  have h := List.takeWhile_append_dropWhile (p := p) (l := l)
  calc l.take (l.takeWhile p).length = (l.takeWhile p ++ l.dropWhile p).take (l.takeWhile p).length := by rw [h]
    _ = l.takeWhile p := List.take_left ..

theorem dropWhile_head {p : Nat → Bool} : ∀ {l : List Nat} {y : Nat} {r : List Nat}, l.dropWhile p = y :: r → p y = false
  | [], _, _, h => by simp at h
  | x :: l, y, r, h => by
    simp only [List.dropWhile] at h
    split at h
    · exact dropWhile_head h
    · rename_i hp
      cases h; exact hp

theorem reSplit_eq (p : Nat → Bool) (s : List Nat) : reSplit p s = (match s.dropWhile (fun c => !p c) with
    | [] => [s.takeWhile (fun c => !p c)]
    | r => s.takeWhile (fun c => !p c) :: r.takeWhile p :: reSplit p (r.dropWhile p)) := by
  have hf : (fun c => p c == false) = (fun c => !p c) := by funext c; cases p c <;> rfl
  have ht : (fun c => p c == true) = p := by funext c; cases p c <;> rfl
  unfold reSplit
  simp only
  rw [reGo_eq p s false, hf]
  split
  · rfl
  · rename_i r hr
    rw [Bool.not_false, reGo_eq p (s.dropWhile fun c => !p c) true, ht]
    have hp : ∃ y r', (s.dropWhile fun c => !p c) = y :: r' := List.exists_cons_of_ne_nil (fun h => hr h)
    generalize (s.dropWhile fun c => !p c) = l at *
    split
    · rename_i he
      rw [he]
      simp [reGo]
    · rename_i r2 hr2
      rw [Bool.not_true]
      simp only [List.length_cons]
      split <;> split
      · rfl
      · rename_i h1 h2; exfalso; (first | lia | omega)
      · rename_i h1 h2; exfalso; (first | lia | omega)
      · rfl

section
variable {prog : Program} {w : World} {A : Around} {s : Shared} {N : Addr → Prop}
set_option tactic.hygienic false in
theorem wtarget {E : Value → Shared → Prop} {P : Addr} {groups : Nat} {code : Array Nat} {x : List Nat} {t : Tok} {Q : ReTarget → Shared → Prop} (hp : IsPat s.heap P groups code)
    (h : Q { pattern := .ref P, string := .str (S x) t, code, text := x.toArray, kind := 0, groups, pos := 0, lim := x.length } s) :
    wpAny (model prog w) A (reWholeTarget (.ref P) (.str (S x) t)) Q E s := by
  obtain ⟨f0, f1, f3, f4, C, n, hP, hC⟩ := hp
  unfold reWholeTarget
  refine wpAny_bind (wpAny_fieldsOf hP rfl ?_)
  refine wpAny_bind (m := reTextOf _) (wpAny_pure ?_)
  simp only
  rw [if_neg (by simp)]
  rw [if_neg (by simp [reRawNat])]
  refine wpAny_bind (m := reNoCollectionInside _ _) (wpAny_pure ?_)
  refine wpAny_bind ?_
  unfold reRawItems
  refine wpAny_bind (m := seqItems? _) (wpAny_seqItems hC rfl (wpAny_pure (wpAny_pure ?_)))
  show Q { pattern := .ref P, string := .str (S x) t, code := (((code.map fun (k : Nat) => Value.int (k : Int) 0).map reRawOf).map (·.toNat)), text := x.toArray, kind := 0, groups := groups, pos := 0, lim := x.toArray.size } s
  rw [raw_code code, List.size_toArray]
  exact h

set_option tactic.hygienic false in
theorem slice_ {E : Value → Shared → Prop} {x : List Nat} {b e : Nat} {Q : Value → Shared → Prop} (hx : x.length < 1000000) (h : Q (.str (S ((x.drop b).take (e - b))) s.toks) { s with toks := s.toks + 1 }) :
    wpAny (model prog w) A (reSlice x.toArray 0 b e) Q E s := by
  have hL : LIM = 16777216 := rfl
  have hs : (⟨x.toArray.extract b e⟩ : Str) = S ((x.drop b).take (e - b)) := by
    apply Str.ext'; apply Array.ext'; simp [S]
  unfold reSlice
  show wpAny _ _ (mkStr ⟨x.toArray.extract b e⟩) _ _ _
  rw [hs]
  exact wpAny_mkStr h (by rw [S_length, ← LIM_eq]; simp; (first | lia | omega))

set_option tactic.hygienic false in
theorem RepAll.toks {h : Heap} {out : Array Value} {done : List (List Nat)} {y : List Nat} {t : Tok} (r : RepAll N h out.toList (done.map .str)) (hy : y.length ≤ LIM) : RepAll N h (out.push (.str (S y) t)).toList ((done ++ [y]).map .str) := by
  rw [Array.toList_push, List.map_append]
  exact r.append (.cons (.str y t hy) .nil)

theorem call_resplit {P : Addr} {x : List Nat} {t : Tok} (hN : Alive N s.heap) (hp : IsPat s.heap P 1 code1) (hx : x.length < 1000000) :
    wpAny (model prog w) A (call (.builtin "re.Pattern.split") [.ref P, .str (S x) t]) (Ok N s (.list ((reSplit isWs x).map .str))) NoE s := by
  have hL : LIM = 16777216 := rfl
  have hT : s.TypeIs (.ref P) "re.Pattern" := by obtain ⟨f0, f1, f3, f4, C, n, hP, hC⟩ := hp; exact ⟨_, hP, rfl⟩
  refine wpAny_call_entry slot_pat_split hT entry_pat_split ?_ (args_pat_split _ _)
  unfold Builtin.«re.Pattern.split»
  refine wpAny_bind (m := reNamed _ _ _ _ _ _) (wpAny_pure ?_)
  refine wpAny_bind (wpAny_pure ?_)
  refine wpAny_bind (wtarget hp ?_)
  refine wpAny_bind ?_
  dsimp only
  refine wpAny_forIn_list _ (fun rest st s' => ∃ k done, s' = { s with toks := k } ∧ RepAll N s.heap st.1.toList (done.map .str) ∧
      ((st.2.2.2.2.2 = false ∧ ∃ q, st.2.1 = q ∧ st.2.2.1 = q ∧ st.2.2.2.1 = false ∧ q ≤ x.length ∧ x.length - q + 2 ≤ rest.length ∧ done ++ reSplit isWs (x.drop q) = reSplit isWs x) ∨
       (st.2.2.2.2.2 = true ∧ st.2.2.1 ≤ x.length ∧ done ++ [x.drop st.2.2.1] = reSplit isWs x))) _ ?_ ?_ _ _
    ⟨s.toks, [], rfl, .nil, .inl ⟨rfl, 0, rfl, rfl, rfl, Nat.zero_le _, by simp [reMostMatches]; (first | lia | omega), by simp⟩⟩
  · rintro i rest ⟨out, start, last, must, n, over⟩ s' ⟨k, done, rfl, r, h⟩
    dsimp only at r h ⊢
    rcases h with ⟨rfl, q, rfl, rfl, rfl, hq, hrest, hd⟩ | ⟨rfl, hlast, hd⟩
    · rw [if_pos (show (!false) = true from rfl)]
      obtain ⟨K, m, hK, e, f⟩ := search1 x hx last hq
      refine wpAny_bind ?_
      show wpAny _ _ (reRunToEnd (Sre.forSearch code1 x.toArray 1 last x.length false)) _ _ _
      generalize Sre.forSearch code1 x.toArray 1 last x.length false = m0 at e ⊢
      unfold Found at f
      rw [reSplit_eq isWs (x.drop last)] at hd
      have hl1 : ((x.drop last).takeWhile fun c => !isWs c).length ≤ x.length - last := by
        have := takeWhile_le (fun c => !isWs c) (x.drop last); simpa using this
      split at f
      · rename_i hnil
        rw [hnil] at hd
        refine toEnd e (by (first | lia | omega)) (.inr ⟨f, wpAny_pure ⟨k, done, rfl, r, .inr ⟨rfl, hq, ?_⟩⟩⟩)
        have : (x.drop last).takeWhile (fun c => !isWs c) = x.drop last := by
          have := List.takeWhile_append_dropWhile (p := fun c => !isWs c) (l := x.drop last)
          rw [hnil] at this; simpa using this
        rw [this] at hd; exact hd
      · rename_i r' hr'
        obtain ⟨f1, f2, f3, f4, f5⟩ := f
        generalize hd1 : (x.drop last).dropWhile (fun c => !isWs c) = dw at hd hr' f3
        obtain ⟨y, r2, hyr⟩ := List.exists_cons_of_ne_nil (fun h => hr' h : dw ≠ [])
        subst hyr
        simp only at hd f3
        have hy : isWs y = true := by simpa using dropWhile_head hd1
        have hst : x.drop m.start = y :: r2 := by
          rw [f2, ← List.drop_drop, drop_takeWhile, hd1]
        have hle2 : m.start + (y :: r2).length = x.length := by
          have h1 := congrArg List.length hst
          simp at h1 ⊢
          (first | lia | omega)
        have htw : ((y :: r2).takeWhile isWs).length ≤ (y :: r2).length := takeWhile_le isWs _
        have hpos : 1 ≤ ((y :: r2).takeWhile isWs).length := by simp [List.takeWhile, hy]
        have hhand : x.drop m.handed = (y :: r2).dropWhile isWs := by
          rw [f3, ← List.drop_drop, hst, drop_takeWhile]
        refine toEnd e (by (first | lia | omega)) (.inl ⟨f1, ?_⟩)
        refine wpAny_bind (slice_ hx ?_)
        have hw1 : (x.drop last).take (m.start - last) = (x.drop last).takeWhile (fun c => !isWs c) := by
          have h1 : m.start - last = ((x.drop last).takeWhile fun c => !isWs c).length := by (first | lia | omega)
          rw [h1, take_takeWhile]
        rw [hw1]
        refine wpAny_bind ?_
        have hr1 : List.range 1 = [0] := rfl
        rw [hr1]
        simp only [List.forIn_cons, List.forIn_nil]
        refine wpAny_bind (wpAny_bind ?_)
        unfold reMachineGroup
        rw [if_neg (by rw [f4]; simp), f5]
        show wpAny _ _ (if m.handed < m.start then _ else reSlice x.toArray 0 m.start m.handed) _ _ _
        rw [if_neg (by (first | lia | omega))]
        refine slice_ hx (wpAny_pure (wpAny_pure (wpAny_pure ?_)))
        have hw2 : (x.drop m.start).take (m.handed - m.start) = (y :: r2).takeWhile isWs := by
          have h1 : m.handed - m.start = ((y :: r2).takeWhile isWs).length := by (first | lia | omega)
          rw [hst, h1, take_takeWhile]
        rw [hw2]
        refine ⟨_, done ++ [(x.drop last).takeWhile fun c => !isWs c] ++ [(y :: r2).takeWhile isWs], rfl, ?_, .inl ⟨rfl, m.handed, rfl, rfl, ?_, by (first | lia | omega), ?_, ?_⟩⟩
        · exact RepAll.toks (RepAll.toks r (by (first | lia | omega))) (by (first | lia | omega))
        · simp; (first | lia | omega)
        · simp at hrest; (first | lia | omega)
        · rw [hhand]; simpa using hd
    · rw [if_neg (by simp)]
      exact wpAny_pure ⟨k, done, rfl, r, .inr ⟨rfl, hlast, hd⟩⟩
  · rintro ⟨out, start, last, must, n, over⟩ s' ⟨k, done, rfl, r, h⟩
    dsimp only at r h ⊢
    rcases h with ⟨rfl, q, rfl, rfl, rfl, hq, hrest, hd⟩ | ⟨rfl, hlast, hd⟩
    · simp at hrest
    · rw [if_neg (by simp)]
      refine wpAny_bind (slice_ hx ?_)
      have hw : (x.drop last).take (x.length - last) = x.drop last := List.take_of_length_le (by simp)
      rw [hw]
      have hr2 := RepAll.toks (t := k) (y := x.drop last) r (by simp; (first | lia | omega))
      rw [hd] at hr2
      have hlen := (reSplit_flat x).2
      have hl2 : (out.push (.str (S (x.drop last)) k)).toList.length ≤ LIM := by rw [hr2.1]; simp; (first | lia | omega)
      refine wpAny_bind (wpAny_newObj_type (wpAny_pure ⟨_, rfl, ?_⟩) (by show (List.toArray _).size ≤ sizeLine; rw [← LIM_eq, List.size_toArray]; exact hl2))
      exact Ok.newList hN hl2 hr2
end
end Mine
end
/-! S1 -/
section
open PySem PySem.W PyProof.Rows
set_option linter.unusedSimpArgs false
namespace Mine

/-! ## what stands at the top -/
noncomputable def fnName : Fn → Str
  | .len => "len" | .min => "min" | .max => "max" | .sum => "sum" | .chr => "chr" | .ord => "ord" | .range => "range" | .list => "list" | .isBool => "isinstance"

/-- the fixed things: the program, the heap at the law's call, the names of the text's own functions and where they lie, what they compute -/
structure Cx where
  prog : Program
  w : World
  h₀ : Heap
  mg : Str → Option Value
  mb : Str → Option Value
  fnames : List Str
  fas : List Addr
  hasPat : Bool
  Φ : Funs
  n : Nat

structure GOk (c : Cx) : Prop where
  g : c.h₀.Ns mainGlobals c.mg
  b : c.h₀.Ns builtinsNs c.mb
  nolimit : c.h₀.NoLimit
  bl : ∀ f : Fn, c.mg (fnName f) = none ∧ c.mb (fnName f) = some (fnVal f)
  bool : c.mg "bool" = none ∧ c.mb "bool" = some (.type "bool")
  rev : c.mg "reversed" = none ∧ c.mb "reversed" = some (.type "reversed")
  zip : c.mg "zip" = none ∧ c.mb "zip" = some (.type "zip")
  fn : ∀ (i : Nat) (nm : Str), c.fnames[i]? = some nm → nm ≠ "" → ∃ a, c.fas[i]? = some a ∧ c.mg nm = some (.ref a) ∧ ∃ o fd, c.h₀.get? a = some o ∧ o.data = .func fd
  pat : c.hasPat = true → ∃ P, c.mg "_twin_re_1" = some (.ref P) ∧ IsPat c.h₀ P 1 code1

noncomputable def AOk (n : Nat) (A : Around) : Prop := A.handled = none ∧ A.depth + n < recursionLimit ∧ A.units + 4 * n + 40 < cLine
set_option tactic.hygienic false in
theorem AOk.deeper {n : Nat} {A : Around} (h : AOk (n + 1) A) (env : Env) : AOk n (A.deeper env) :=
  ⟨h.1, by have := h.2.1; show A.depth + 1 + n < _; (first | lia | omega), by have := h.2.2; show A.units + 3 + 4 * n + 40 < _; (first | lia | omega)⟩

/-- the functions of the text do what Φ says -/
noncomputable def FnsOk (c : Cx) : Prop :=
  ∀ (i : Nat) (a : Addr) (nm : Str) (ds : List D) (d : D) (fr : Bool), c.fnames[i]? = some nm → nm ≠ "" → c.fas[i]? = some a → c.Φ i ds = some (d, fr) → ∀ (A : Around) (s : Shared) (X : Addr → Prop) (vs : List Value), AOk c.n A →
    (∀ b o, c.h₀.get? b = some o → s.heap.get? b = some o) → Alive X s.heap → RepAll X s.heap vs ds →
    codeAny (model c.prog c.w) A (.call (.ref a) ⟨vs, []⟩) (fun r s' => ∃ v, r = .ok (.ret v) ∧ Grow s s' ∧ Rep X s'.heap v d ∧ (fr = true → ∀ xs, d = .list xs → ∃ b, v = .ref b ∧ s.heap.get? b = none)) s

/-! ## the static context and the state -/
structure Tx where
  names : List (Str × NameKind)
  ft : List Str
  ct : List Str
  comp : Bool

noncomputable def Tx.kind (τ : Tx) (n : Str) : Option NameKind := τ.names.lookup n
noncomputable def Tx.varOk (τ : Tx) (n : Str) : Bool := if τ.comp then τ.kind n == some .cell else (τ.kind n == some .local || τ.kind n == some .cell)

noncomputable def VarAt (env : Env) (h : Heap) (nm : Str) (v : Value) : Prop :=
  (env.kindOf nm = some .local ∧ ∃ m, h.Ns env.locals m ∧ m nm = some v) ∨ (env.kindOf nm = some .cell ∧ ∃ c, env.cells.lookup nm = some c ∧ h.IsCell c (some v))
set_option tactic.hygienic false in
theorem VarAt.keeps {env : Env} {h h' : Heap} {nm : Str} {v : Value} (x : VarAt env h nm v) (hk : ∀ b o, h.get? b = some o → h'.get? b = some o) : VarAt env h' nm v := by
  rcases x with ⟨a, m, b, c⟩ | ⟨a, c, b, d⟩
  · exact .inl ⟨a, m, b.keeps hk, c⟩
  · exact .inr ⟨a, c, b, d.keeps hk⟩

noncomputable def SlotAt (env : Env) (N : Addr → Prop) (h : Heap) (nm : Str) : Slot → Prop
  | .unset => True
  | .val d => ∃ v, VarAt env h nm v ∧ Rep N h v d
  | .own xs => ∃ a vs, VarAt env h nm (.ref a) ∧ h.PlainList a vs.toArray ∧ vs.length ≤ LIM ∧ RepAll N h vs xs

structure InvE (h₀ : Heap) (τ : Tx) (env : Env) (N : Addr → Prop) (h : Heap) (ρ : List Slot) (κ : List D) : Prop where
  keep : ∀ b o, h₀.get? b = some o → h.get? b = some o
  alive : Alive N h
  kind : env.scope.kind = .function
  names : env.scope.names = τ.names
  glob : env.globals = mainGlobals
  blt : env.builtins = builtinsNs
  cells : ∀ nm, τ.kind nm = some .cell → ∃ c, env.cells.lookup nm = some c
  slots : ∀ (x : Nat) (nm : Str) (sl : Slot), τ.ft[x]? = some nm → ρ[x]? = some sl → τ.varOk nm = true → SlotAt env N h nm sl
  cvars : ∀ (x : Nat) (nm : Str) (d : D), τ.ct[x]? = some nm → κ[x]? = some d → τ.kind nm = some .local → ∃ v, VarAt env h nm v ∧ Rep N h v d

set_option tactic.hygienic false in
theorem SlotAt.grow {env : Env} {N : Addr → Prop} {s s' : Shared} {nm : Str} {sl : Slot} (g : Grow s s') (x : SlotAt env N s.heap nm sl) : SlotAt env N s'.heap nm sl := by
  cases sl with
  | unset => trivial
  | val d => obtain ⟨v, a, b⟩ := x; exact ⟨v, a.keeps g.keep, b.grow g⟩
  | own xs => obtain ⟨a, vs, b, ⟨n, c⟩, d, e⟩ := x; exact ⟨a, vs, b.keeps g.keep, ⟨n, g.keep _ _ c⟩, d, e.grow g⟩
theorem InvE.grow {h₀ : Heap} {τ : Tx} {env : Env} {N : Addr → Prop} {s s' : Shared} {ρ : List Slot} {κ : List D} (x : InvE h₀ τ env N s.heap ρ κ) (g : Grow s s') : InvE h₀ τ env N s'.heap ρ κ :=
  ⟨fun b o e => g.keep b o (x.keep b o e), x.alive.grow g, x.kind, x.names, x.glob, x.blt, x.cells, fun i nm sl a b c => (x.slots i nm sl a b c).grow g,
   fun i nm d a b c => let ⟨v, p, q⟩ := x.cvars i nm d a b c; ⟨v, p.keeps g.keep, q.grow g⟩⟩
set_option tactic.hygienic false in
theorem InvE.kindOf {h₀ : Heap} {τ : Tx} {env : Env} {N : Addr → Prop} {h : Heap} {ρ : List Slot} {κ : List D} (x : InvE h₀ τ env N h ρ κ) (nm : Str) : env.kindOf nm = τ.kind nm := by
  unfold Env.kindOf Tx.kind; rw [x.names]

/-- what an evaluation gives -/
structure EvOk (N : Addr → Prop) (ρ : List Slot) (e : E) (s : Shared) (d : D) (v : Value) (s' : Shared) : Prop where
  grow : Grow s s'
  rep : RepT N s'.heap v d
  str : strong ρ e = true → Rep N s'.heap v d
  new : newE e = true → ∀ xs, d = .list xs → ∃ a vs, v = .ref a ∧ s.heap.get? a = none ∧ s'.heap.PlainList a vs

theorem EvOk.of {N : Addr → Prop} {ρ : List Slot} {e : E} {s s' : Shared} {d : D} {v : Value} (h : Ok N s d v s') : EvOk N ρ e s d v s' := ⟨h.grow, h.rep.toT, fun _ => h.rep, fun _ => h.new⟩
set_option tactic.hygienic false in
theorem EvOk.ofRep {N : Addr → Prop} {ρ : List Slot} {e : E} {s s' : Shared} {d : D} {v : Value} (g : Grow s s') (h : Rep N s'.heap v d) (hn : newE e = false) : EvOk N ρ e s d v s' := ⟨g, h.toT, fun _ => h, fun x => by rw [hn] at x; cases x⟩
set_option tactic.hygienic false in
theorem Ok.back {N : Addr → Prop} {s₀ s s' : Shared} {d : D} {v : Value} (g : Grow s₀ s) (h : Ok N s d v s') : Ok N s₀ d v s' :=
  ⟨g.trans h.grow, h.rep, fun xs e => by
    obtain ⟨a, vs, h1, h2, h3⟩ := h.new xs e
    refine ⟨a, vs, h1, ?_, h3⟩
    cases q : s₀.heap.get? a with
    | none => rfl
    | some o => rw [g.keep _ _ q] at h2; cases h2⟩
set_option tactic.hygienic false in
theorem get_none_back {s₀ s : Shared} {a : Addr} (g : Grow s₀ s) (h : s.heap.get? a = none) : s₀.heap.get? a = none := by
  cases q : s₀.heap.get? a with
  | none => rfl
  | some o => rw [g.keep _ _ q] at h; cases h
set_option tactic.hygienic false in
theorem EvOk.back {N : Addr → Prop} {ρ : List Slot} {e : E} {s₀ s s' : Shared} {d : D} {v : Value} (g : Grow s₀ s) (h : EvOk N ρ e s d v s') : EvOk N ρ e s₀ d v s' :=
  ⟨g.trans h.grow, h.rep, h.str, fun x xs q => by
    obtain ⟨a, vs, h1, h2, h3⟩ := h.new x xs q
    exact ⟨a, vs, h1, get_none_back g h2, h3⟩⟩

/-! ## iteration -/
noncomputable def Items (N : Addr → Prop) (h : Heap) (P : Nat → Value → Prop) (ds : List D) : Prop := ∀ (i : Nat) (v : Value) (d : D), P i v → ds[i]? = some d → Rep N h v d
theorem Items.mono {N N' : Addr → Prop} {h h' : Heap} {P : Nat → Value → Prop} {ds : List D} (hk : ∀ a o, ¬ N a → h.get? a = some o → h'.get? a = some o ∧ ¬ N' a) (x : Items N h P ds) : Items N' h' P ds :=
  fun i v d a b => (x i v d a b).mono hk

/-- an iterator that owns no tuple -/
noncomputable def IterCls (h : Heap) (I : Addr) : Prop := ∃ o n, h.get? I = some o ∧ o.cls = .type n ∧ ["enumerate", "zip", "dict_itemiterator", "dict_reverseitemiterator", "odict_iterator", "itertools.zip_longest", "itertools.pairwise"].contains n = false
set_option tactic.hygienic false in
theorem IterCls.alive {h : Heap} {I : Addr} (x : IterCls h I) : h.get? I ≠ none := by obtain ⟨o, n, e, _⟩ := x; rw [e]; simp
theorem IterCls.at {h h' : Heap} {I : Addr} (x : IterCls h I) (hk : ∀ o, h.get? I = some o → h'.get? I = some o) : IterCls h' I := let ⟨o, n, e, r⟩ := x; ⟨o, n, hk _ e, r⟩

structure IterAt (prog : Program) (w : World) (N : Addr → Prop) (s : Shared) (strg : Prop) (ds : List D) (it : Value) (s' : Shared) : Prop where
  grow : Grow s s'
  ex : ∃ I fp P St, it = .ref I ∧ s.heap.get? I = none ∧ (∀ A : Around, A.handled = none → Walks prog w A I fp [I] ds.length P St) ∧ St 0 s'.heap ∧ (∀ i h, St i h → IterCls h I) ∧
    (∀ b ∈ fp, b = I ∨ (s.heap.get? b ≠ none ∧ (strg → ¬ N b))) ∧ Items N s.heap P ds

section
variable {prog : Program} {w : World} {A : Around} {s : Shared} {N : Addr → Prop}

theorem iter_sound {d : D} {ds : List D} {v : Value} {strg : Prop} (r : RepT N s.heap v d) (rs : strg → Rep N s.heap v d) (e : itemsD d = some ds) :
    wpAny (model prog w) A (pyIter v) (IterAt prog w N s strg ds) NoE s := by
  unfold itemsD at e
  split at e
  · cases e
    obtain ⟨l, vs, rfl, hl, h1, r1⟩ := r
    have hne : l ≠ s.heap.objs.size := by
      obtain ⟨n, hl⟩ := hl
      exact Nat.ne_of_lt (Heap.lt_size hl)
    refine wpAny_pyIter_list hl.isList (IterAt.mk (Grow.push s _ s.toks) ⟨s.heap.objs.size, [s.heap.objs.size, l], (fun i v => vs.toArray[i]? = some v), (fun i h => h.IsListIter s.heap.objs.size l i ∧ h.IsList l vs.toArray), rfl, get_size _, fun A' hh => ?_, ⟨⟨_, Heap.get?_push_size _ rfl, rfl, rfl⟩, hl.isList.push _⟩, ?_, ?_, ?_⟩)
    · have := Walks.list (prog := prog) (w := w) (A := A') hh s.heap.objs.size l hne vs.toArray
      have e : ds.length = vs.toArray.size := by rw [← r1.1]; rfl
      rw [e]; exact this
    · rintro i h ⟨⟨o, ho, hc, _⟩, _⟩
      exact ⟨o, _, ho, hc, by decide⟩
    · intro b hb
      rcases List.mem_cons.mp hb with rfl | hb
      · exact .inl rfl
      · rcases List.mem_cons.mp hb with rfl | hb
        · refine .inr ⟨?_, fun q => ?_⟩
          · obtain ⟨n, hl⟩ := hl; rw [hl]; simp
          · obtain ⟨a', vs', e1, hn, _⟩ := (rs q).inv_list
            cases e1; exact hn
        · cases hb
    · intro i v d hv hd
      exact r1.2 i v d (by simpa using hv) hd
  · split at e
    · rename_i a b c hc
      cases e
      obtain ⟨q, t, u, v', rfl, hn, hr, hs⟩ := Rep.inv_range r
      obtain ⟨g1, g2, g3⟩ := small_range hs
      refine wpAny_pyIter_range hr g1 (IterAt.mk (Grow.push s _ s.toks) ⟨s.heap.objs.size, [s.heap.objs.size], (fun i v => ∃ t, v = .int (a + i * c) t), (fun i h => IsRangeIter h s.heap.objs.size (a + (i : Nat) * c) (((rangeD a b c).length : Int) - (i : Nat)) c), rfl, get_size _, fun A' hh => ?_, ?_, ?_, fun b hb => .inl (by simpa using hb), ?_⟩)
      · have := Walks.range (prog := prog) (w := w) (A := A') hh s.heap.objs.size a c (rangeD a b c).length
        simpa using this
      · rw [g2]
        have e1 : a + ((0 : Nat) : Int) * c = a := by simp
        have e2 : ((rangeD a b c).length : Int) - ((0 : Nat) : Int) = (rangeD a b c).length := by simp
        show IsRangeIter _ _ (a + ((0 : Nat) : Int) * c) (((rangeD a b c).length : Int) - ((0 : Nat) : Int)) c
        rw [e1, e2]
        exact Heap.get?_push_size _ rfl
      · intro i h hi
        exact ⟨_, _, hi, rfl, by decide⟩
      · intro i v d hv hd
        obtain ⟨t, rfl⟩ := hv
        rw [List.getElem?_map] at hd
        have hi : i < (rangeD a b c).length := by
          simp only [Option.map_eq_some_iff] at hd
          obtain ⟨_, h, _⟩ := hd
          exact (List.getElem?_eq_some_iff.mp h).1
        rw [g3 i hi] at hd
        cases hd
        exact .int _ _
    · cases e
  · cases e
end
end Mine
end
/-! S2 -/
section
open PySem PySem.W PyProof.Rows
set_option linter.unusedSimpArgs false
set_option linter.unusedVariables false
namespace Mine

/-! ## the translator's small parts -/
noncomputable def idx? (x : Str) : List Str → Option Nat
  | [] => none
  | y :: r => if x == y then some 0 else (idx? x r).map (· + 1)
theorem idx?_get {x : Str} : ∀ {l : List Str} {i : Nat}, idx? x l = some i → l[i]? = some x
  | [], i, h => by cases h
  | y :: r, i, h => by
    unfold idx? at h
    split at h
    · rename_i e; cases h; simp [eq_of_beq e]
    · simp only [Option.map_eq_some_iff] at h
      obtain ⟨j, hj, rfl⟩ := h
      simpa using idx?_get hj

noncomputable def fnOf (nm : Str) : Option Fn := [Fn.len, .min, .max, .sum, .chr, .ord, .range, .list].find? fun f => fnName f == nm
set_option tactic.hygienic false in
theorem fnOf_name {nm : Str} {f : Fn} (h : fnOf nm = some f) : nm = fnName f := by
  have := List.find?_some (show List.find? (fun f => fnName f == nm) _ = some f from h)
  exact (eq_of_beq this).symm
set_option tactic.hygienic false in
theorem fnOf_ne {nm : Str} {f : Fn} (h : fnOf nm = some f) : f ≠ .isBool := by
  have := List.mem_of_find?_eq_some h
  rintro rfl
  simp at this
noncomputable def mthOf (nm : Str) : Option Mth := [Mth.split, .join, .rstrip, .lstrip, .expandtabs, .index].find? fun f => mthName f == nm
set_option tactic.hygienic false in
theorem mthOf_name {nm : Str} {f : Mth} (h : mthOf nm = some f) : nm = mthName f := by
  have := List.find?_some (show List.find? (fun f => mthName f == nm) _ = some f from h)
  exact (eq_of_beq this).symm
noncomputable def bopOf : Operator → Option Bop
  | .Add => some .add | .Sub => some .sub | .Mult => some .mul | .FloorDiv => some .fdiv | .Mod => some .mod | _ => none
set_option tactic.hygienic false in
theorem bopOf_py {op : Operator} {b : Bop} (h : bopOf op = some b) : pyBop b = op := by cases op <;> cases h <;> rfl
noncomputable def copOf : CmpOp → Option Cop
  | .Eq => some .eq | .NotEq => some .ne | .Lt => some .lt | .LtE => some .le | .Gt => some .gt | .GtE => some .ge | .Is => some .isNone | .IsNot => some .notNone | .In => some .isIn | .NotIn => some .notIn
set_option tactic.hygienic false in
theorem copOf_py {op : CmpOp} {b : Cop} (h : copOf op = some b) : pyCop b = op := by cases op <;> cases h <;> rfl

/-! ## what is asked of an expression -/
structure SndE (c : Cx) (τ : Tx) (e : Expr) (x : E) : Prop where
  val : ∀ {A : Around} {env : Env} {N : Addr → Prop} {s : Shared} {ρ : List Slot} {κ : List D} {d : D}, AOk c.n A → InvE c.h₀ τ env N s.heap ρ κ → ev c.Φ ρ κ x = some d →
    wpAny (model c.prog c.w) A (eval e env) (EvOk N ρ x s d) NoE s
  tru : ∀ {A : Around} {env : Env} {N : Addr → Prop} {s : Shared} {ρ : List Slot} {κ : List D} {d : D} {b : Bool}, AOk c.n A → InvE c.h₀ τ env N s.heap ρ κ → ev c.Φ ρ κ x = some d → truthD d = some b →
    wpAny (model c.prog c.w) A (isTrue e env (eval e env)) (fun b' s' => b' = b ∧ Grow s s') NoE s
  nst : ∀ x p, e ≠ .Starred x p

noncomputable abbrev EvSnd (c : Cx) (τ : Tx) (e : Expr) (x : E) : Prop := ∀ {A : Around} {env : Env} {N : Addr → Prop} {s : Shared} {ρ : List Slot} {κ : List D} {d : D}, AOk c.n A → InvE c.h₀ τ env N s.heap ρ κ → ev c.Φ ρ κ x = some d →
    wpAny (model c.prog c.w) A (eval e env) (EvOk N ρ x s d) NoE s

variable {c : Cx} {τ : Tx}

theorem SndE.ofEv {e : Expr} {x : E} (h : EvSnd c τ e x) (ht : ∀ env, isTrue e env (eval e env) = (do let v ← eval e env; standAt e.pos; holding [v] (truthy v))) (hs : ∀ x p, e ≠ .Starred x p) : SndE c τ e x :=
  ⟨h, fun hA I e1 e2 => wpAny_isTrue_value (wpAny_mono (h hA I e1) (fun v s₁ o₁ => wpAny_mono (truthD_sound o₁.rep e2) (fun b s₂ h₂ => ⟨h₂.1, o₁.grow.trans h₂.2⟩) fun _ _ e => e) fun _ _ e => e) (ht _), hs⟩

set_option tactic.hygienic false in
theorem AOk.cmp {n : Nat} {A : Around} (h : AOk n A) : A.units + 10 < cLine := by have := h.2.2; (first | lia | omega)

/-! constants -/
noncomputable def trConst : Const → Option E
  | .none => some (.const .none)
  | .bool b => some (.const (.bool b))
  | .int i => some (.const (.int i))
  | .str s => if s.cps.size ≤ 1000 then some (.const (.str s.cps.toList)) else none
  | _ => none
theorem good_const {k : Const} {j : Nat} {p : Pos} {x : E} (h : trConst k = some x) : SndE c τ (.Constant k j p) x := by
  refine SndE.ofEv (fun {A env N s ρ κ d} hA I e => ?_) (fun _ => rfl) (fun _ _ h => by cases h)
  unfold trConst at h
  split at h
  · cases h; simp only [evq1, evq2, evq3, evq4, evq5, evq6, evq7, evq8, evq9, evq10, evq11, evq12, evq13, evq14, evq15, evq16, evq17, evq18, evq19, evq20] at e; cases e; exact wpAny_Constant_none (.ofRep (Grow.rfl' _) .none rfl)
  · cases h; simp only [evq1, evq2, evq3, evq4, evq5, evq6, evq7, evq8, evq9, evq10, evq11, evq12, evq13, evq14, evq15, evq16, evq17, evq18, evq19, evq20] at e; cases e; exact wpAny_Constant_bool (.ofRep (Grow.rfl' _) (.bool _) rfl)
  · cases h; simp only [evq1, evq2, evq3, evq4, evq5, evq6, evq7, evq8, evq9, evq10, evq11, evq12, evq13, evq14, evq15, evq16, evq17, evq18, evq19, evq20] at e; cases e; exact wpAny_Constant_int (.ofRep (Grow.toks _ _) (.int _ _) rfl)
  · split at h
    · rename_i z hz
      cases h; simp only [evq1, evq2, evq3, evq4, evq5, evq6, evq7, evq8, evq9, evq10, evq11, evq12, evq13, evq14, evq15, evq16, evq17, evq18, evq19, evq20] at e; cases e
      refine wpAny_Constant_str (.ofRep (Grow.toks _ _) ?_ rfl)
      have : Rep N s.heap (.str ⟨z.cps.toList.toArray⟩ s.toks) (.str z.cps.toList) := .str _ _ (by simp [LIM]; (first | lia | omega))
      simpa using this
    · cases h
  · cases h

/-! names -/
noncomputable def trName (τ : Tx) (id : Str) : Option E :=
  if id == ("__debug__" : Str) then none else
  match τ.kind id with
  | some .local => if τ.comp then (idx? id τ.ct).map .cvar else (idx? id τ.ft).map .var
  | some .cell => (idx? id τ.ft).map .var
  | _ => none

set_option tactic.hygienic false in
theorem load_var {A : Around} {env : Env} {s : Shared} {nm : Str} {v : Value} {Q : Value → Shared → Prop} {E : Value → Shared → Prop} {prog : Program} {w : World} (hk : env.scope.kind = .function) (x : VarAt env s.heap nm v) (h : Q v s) : wpAny (model prog w) A (loadName env nm) Q E s := by
  rcases x with ⟨a, m, b, d⟩ | ⟨a, k, b, d⟩
  · exact wpAny_loadName_local hk a b d h
  · exact wpAny_loadName_cell hk a b d h

theorem good_var {id : Str} {p : Pos} {i : Nat} (hd : (id == ("__debug__" : Str)) = false) (hv : τ.varOk id = true) (hi : idx? id τ.ft = some i) : SndE c τ (.Name id p) (.var i) := by
  refine SndE.ofEv (fun {A env N s ρ κ d} hA I e => ?_) (fun _ => rfl) (fun _ _ h => by cases h)
  simp only [evq1, evq2, evq3, evq4, evq5, evq6, evq7, evq8, evq9, evq10, evq11, evq12, evq13, evq14, evq15, evq16, evq17, evq18, evq19, evq20] at e
  refine wpAny_Name ?_ hd
  split at e
  · rename_i d' hs
    cases e
    obtain ⟨v, q, r⟩ := I.slots i id _ (idx?_get hi) hs hv
    exact load_var I.kind q (.ofRep (Grow.rfl' _) r rfl)
  · rename_i xs hs
    cases e
    obtain ⟨a, vs, q, hl, h1, r⟩ := I.slots i id _ (idx?_get hi) hs hv
    refine load_var I.kind q ⟨Grow.rfl' _, ⟨a, vs, rfl, hl, h1, r⟩, fun hst => ?_, fun hn => by cases hn⟩
    replace hst : (!(ρ[i]?.any isOwn)) = true := hst
    rw [hs] at hst; cases hst
  · cases e
set_option tactic.hygienic false in
theorem good_cvar {id : Str} {p : Pos} {i : Nat} (hd : (id == ("__debug__" : Str)) = false) (hv : τ.kind id = some .local) (hi : idx? id τ.ct = some i) : SndE c τ (.Name id p) (.cvar i) := by
  refine SndE.ofEv (fun {A env N s ρ κ d} hA I e => ?_) (fun _ => rfl) (fun _ _ h => by cases h)
  simp only [evq1, evq2, evq3, evq4, evq5, evq6, evq7, evq8, evq9, evq10, evq11, evq12, evq13, evq14, evq15, evq16, evq17, evq18, evq19, evq20] at e
  refine wpAny_Name ?_ hd
  obtain ⟨v, q, r⟩ := I.cvars i id d (idx?_get hi) e hv
  exact load_var I.kind q (.ofRep (Grow.rfl' _) r rfl)
theorem good_name {id : Str} {p : Pos} {x : E} (h : trName τ id = some x) : SndE c τ (.Name id p) x := by
  unfold trName at h
  split at h
  · cases h
  · rename_i hd
    have hd : (id == ("__debug__" : Str)) = false := by simpa using hd
    split at h
    · rename_i hk
      split at h
      · rename_i hc
        simp only [Option.map_eq_some_iff] at h
        obtain ⟨i, hi, rfl⟩ := h
        exact good_cvar hd hk hi
      · rename_i hc
        simp only [Option.map_eq_some_iff] at h
        obtain ⟨i, hi, rfl⟩ := h
        exact good_var hd (by simp [Tx.varOk, hc, hk]) hi
    · rename_i hk
      simp only [Option.map_eq_some_iff] at h
      obtain ⟨i, hi, rfl⟩ := h
      exact good_var hd (by simp only [Tx.varOk, hk]; cases τ.comp <;> rfl) hi
    · cases h

/-! operators -/
set_option tactic.hygienic false in
theorem good_bin {l r : Expr} {op : Operator} {p : Pos} {b : Bop} {L R : E} (hb : bopOf op = some b) (hl : SndE c τ l L) (hr : SndE c τ r R) : SndE c τ (.BinOp l op r p) (.bin b L R) := by
  refine SndE.ofEv (fun {A env N s ρ κ d} hA I e => ?_) (fun _ => rfl) (fun _ _ h => by cases h)
  simp only [evq1, evq2, evq3, evq4, evq5, evq6, evq7, evq8, evq9, evq10, evq11, evq12, evq13, evq14, evq15, evq16, evq17, evq18, evq19, evq20, Option.bind_eq_bind, Option.bind_eq_some_iff] at e
  obtain ⟨x, hx, y, hy, e⟩ := e
  refine wpAny_BinOp (wpAny_mono (hl.val hA I hx) (fun v s₁ o₁ => wpAny_mono (hr.val hA (I.grow o₁.grow) hy) (fun u s₂ o₂ => ?_) fun _ _ e => e) fun _ _ e => e)
  rw [← bopOf_py hb]
  exact wpAny_mono (binD_sound ((I.grow o₁.grow).grow o₂.grow).alive (o₁.rep.grow o₂.grow) o₂.rep e) (fun v s' o => .of (o.back (o₁.grow.trans o₂.grow))) fun _ _ e => e

set_option tactic.hygienic false in
theorem good_neg {a : Expr} {p : Pos} {x : E} (h : SndE c τ a x) : SndE c τ (.UnaryOp .USub a p) (.neg x) := by
  refine SndE.ofEv (fun {A env N s ρ κ d} hA I e => ?_) (fun _ => rfl) (fun _ _ h => by cases h)
  simp only [evq1, evq2, evq3, evq4, evq5, evq6, evq7, evq8, evq9, evq10, evq11, evq12, evq13, evq14, evq15, evq16, evq17, evq18, evq19, evq20, Option.bind_eq_bind, Option.bind_eq_some_iff] at e
  obtain ⟨y, hy, e⟩ := e
  refine wpAny_UnaryOp (wpAny_mono (h.val hA I hy) (fun v s₁ o₁ => ?_) fun _ _ e => e)
  split at e
  · cases e
    obtain ⟨t, rfl⟩ := Rep.inv_int o₁.rep
    exact neg_int (.ofRep (o₁.grow.trans (Grow.toks _ _)) (.int _ _) rfl)
  · cases e

set_option tactic.hygienic false in
theorem good_not {a : Expr} {p : Pos} {x : E} (h : SndE c τ a x) : SndE c τ (.UnaryOp .Not a p) (.not x) := by
  refine ⟨fun {A env N s ρ κ d} hA I e => ?_, fun {A env N s ρ κ d b} hA I e hb => ?_, fun _ _ h => by cases h⟩
  · simp only [evq1, evq2, evq3, evq4, evq5, evq6, evq7, evq8, evq9, evq10, evq11, evq12, evq13, evq14, evq15, evq16, evq17, evq18, evq19, evq20, Option.bind_eq_bind, Option.bind_eq_some_iff] at e
    obtain ⟨y, hy, t, ht, e⟩ := e
    cases e
    refine wpAny_UnaryOp (wpAny_mono (h.val hA I hy) (fun v s₁ o₁ => not_value (wpAny_mono (truthD_sound o₁.rep ht) (fun b s₂ hb => ?_) fun _ _ e => e)) fun _ _ e => e)
    rw [hb.1]
    exact .ofRep (o₁.grow.trans hb.2) (.bool _) rfl
  · simp only [evq1, evq2, evq3, evq4, evq5, evq6, evq7, evq8, evq9, evq10, evq11, evq12, evq13, evq14, evq15, evq16, evq17, evq18, evq19, evq20, Option.bind_eq_bind, Option.bind_eq_some_iff] at e
    obtain ⟨y, hy, t, ht, e⟩ := e
    cases e; cases hb
    exact wpAny_isTrue_Not (wpAny_mono (h.tru hA I hy ht) (fun b s₂ hb => ⟨by rw [hb.1], hb.2⟩) fun _ _ e => e)

set_option tactic.hygienic false in
theorem good_cmp {l r : Expr} {op : CmpOp} {p : Pos} {b : Cop} {L R : E} (hm : behindInMarks op r = false) (hb : copOf op = some b) (hl : SndE c τ l L) (hr : SndE c τ r R) : SndE c τ (.Compare l [op] [r] p) (.cmp b L R) := by
  have main : ∀ {A : Around} {env : Env} {N : Addr → Prop} {s : Shared} {ρ : List Slot} {κ : List D} {d : D}, AOk c.n A → InvE c.h₀ τ env N s.heap ρ κ → ev c.Φ ρ κ (.cmp b L R) = some d → ∃ k, d = .bool k ∧
      wpAny (model c.prog c.w) A (eval l env) (fun v s₁ => wpAny (model c.prog c.w) A (eval r env) (fun u s₂ => wpAny (model c.prog c.w) A (compareOp op v u) (fun x s' => x = .bool k ∧ Grow s s') NoE s₂) NoE s₁) NoE s := fun {A env N s ρ κ d} hA I e => by
    simp only [evq1, evq2, evq3, evq4, evq5, evq6, evq7, evq8, evq9, evq10, evq11, evq12, evq13, evq14, evq15, evq16, evq17, evq18, evq19, evq20, Option.bind_eq_bind, Option.bind_eq_some_iff] at e
    obtain ⟨x, hx, y, hy, k, hk, e⟩ := e
    cases e
    refine ⟨k, rfl, wpAny_mono (hl.val hA I hx) (fun v s₁ o₁ => wpAny_mono (hr.val hA (I.grow o₁.grow) hy) (fun u s₂ o₂ => ?_) fun _ _ e => e) fun _ _ e => e⟩
    rw [← copOf_py hb]
    exact wpAny_mono (cmpD_sound hA.cmp (o₁.rep.grow o₂.grow) o₂.rep hk) (fun v s' o => ⟨o.1, (o₁.grow.trans o₂.grow).trans o.2⟩) fun _ _ e => e
  refine ⟨fun {A env N s ρ κ d} hA I e => ?_, fun {A env N s ρ κ d k} hA I e hk => ?_, fun _ _ h => by cases h⟩
  · obtain ⟨k, rfl, h⟩ := main hA I e
    refine wpAny_Compare1 (wpAny_mono h (fun v s₁ h₁ => wpAny_mono h₁ (fun u s₂ h₂ => wpAny_mono h₂ (fun x s₃ h₃ => ?_) fun _ _ e => e) fun _ _ e => e) fun _ _ e => e) hm
    rw [h₃.1]; exact .ofRep h₃.2 (.bool _) rfl
  · obtain ⟨k', rfl, h⟩ := main hA I e
    cases hk
    refine wpAny_isTrue_Compare1 (wpAny_mono h (fun v s₁ h₁ => wpAny_mono h₁ (fun u s₂ h₂ => wpAny_mono h₂ (fun x s₃ h₃ => ?_) fun _ _ e => e) fun _ _ e => e) fun _ _ e => e) hm
    rw [h₃.1]; exact wpAny_truthy_bool ⟨rfl, h₃.2⟩
end Mine
end
/-! S3 -/
section
open PySem PySem.W PyProof.Rows
set_option linter.unusedSimpArgs false
set_option linter.unusedVariables false
namespace Mine
variable {c : Cx} {τ : Tx}

set_option tactic.hygienic false in
theorem good_ite {t a b : Expr} {p : Pos} {T A' B : E} (ht : SndE c τ t T) (ha : SndE c τ a A') (hb : SndE c τ b B) : SndE c τ (.IfExp t a b p) (.ite T A' B) := by
  refine ⟨fun {A env N s ρ κ d} hA I e => ?_, fun {A env N s ρ κ d k} hA I e hk => ?_, fun _ _ h => by cases h⟩
  · simp only [evq1, evq2, evq3, evq4, evq5, evq6, evq7, evq8, evq9, evq10, evq11, evq12, evq13, evq14, evq15, evq16, evq17, evq18, evq19, evq20, Option.bind_eq_bind, Option.bind_eq_some_iff] at e
    obtain ⟨y, hy, b', hb', e⟩ := e
    refine wpAny_IfExp (wpAny_mono (ht.tru hA I hy hb') (fun b₁ s₁ h₁ => ?_) fun _ _ e => e)
    obtain ⟨rfl, g⟩ := h₁
    cases b₁
    · exact wpAny_mono (hb.val hA (I.grow g) e) (fun v s₂ o => let o := o.back g; ⟨o.grow, o.rep, fun h => o.str (Bool.and_eq_true_iff.mp h).2, fun h => o.new (Bool.and_eq_true_iff.mp h).2⟩) fun _ _ e => e
    · exact wpAny_mono (ha.val hA (I.grow g) e) (fun v s₂ o => let o := o.back g; ⟨o.grow, o.rep, fun h => o.str (Bool.and_eq_true_iff.mp h).1, fun h => o.new (Bool.and_eq_true_iff.mp h).1⟩) fun _ _ e => e
  · simp only [evq1, evq2, evq3, evq4, evq5, evq6, evq7, evq8, evq9, evq10, evq11, evq12, evq13, evq14, evq15, evq16, evq17, evq18, evq19, evq20, Option.bind_eq_bind, Option.bind_eq_some_iff] at e
    obtain ⟨y, hy, b', hb', e⟩ := e
    show wpAny _ A (do if ← isTrue t env (eval t env) then isTrue a env (eval a env) else isTrue b env (eval b env)) _ _ s
    refine wpAny_bind (wpAny_mono (ht.tru hA I hy hb') (fun b₁ s₁ h₁ => ?_) fun _ _ e => e)
    obtain ⟨rfl, g⟩ := h₁
    cases b₁
    · exact wpAny_mono (hb.tru hA (I.grow g) e hk) (fun v s₂ o => ⟨o.1, g.trans o.2⟩) fun _ _ e => e
    · exact wpAny_mono (ha.tru hA (I.grow g) e hk) (fun v s₂ o => ⟨o.1, g.trans o.2⟩) fun _ _ e => e

/-! lists of expressions -/
inductive SndL (c : Cx) (τ : Tx) : List Expr → E → Prop
  | nil : SndL c τ [] .nil
  | cons {e : Expr} {es : List Expr} {x xs : E} : SndE c τ e x → SndL c τ es xs → SndL c τ (e :: es) (.cons x xs)

set_option tactic.hygienic false in
theorem starEach_cons {e : Expr} {es : List Expr} {env : Env} (h : ∀ x p, e ≠ .Starred x p) : starEach (e :: es) env = (false, eval e env) :: starEach es env := by
  cases e <;> first | rfl | exact absurd rfl (h _ _)

set_option tactic.hygienic false in
theorem SndL.plain {es : List Expr} {xs : E} (h : SndL c τ es xs) (env : Env) : starEach es env = es.map fun e => (false, eval e env) := by
  induction h with
  | nil => rfl
  | cons h _ ih => rw [starEach_cons h.nst, ih]; rfl

/-- what the values of a list of expressions are -/
structure EvsOk (N : Addr → Prop) (ρ : List Slot) (x : E) (s : Shared) (ds : List D) (vs : List Value) (s' : Shared) : Prop where
  grow : Grow s s'
  rep : RepTAll N s'.heap vs ds
  str : strong ρ x = true → RepAll N s'.heap vs ds

set_option tactic.hygienic false in
theorem SndL.vals {es : List Expr} {xs : E} (h : SndL c τ es xs) : ∀ {A : Around} {env : Env} {N : Addr → Prop} {s : Shared} {ρ : List Slot} {κ : List D} {ds : List D} {pos : Pos}, AOk c.n A → InvE c.h₀ τ env N s.heap ρ κ → evs c.Φ ρ κ xs = some ds →
    wpAny (model c.prog c.w) A (spliced (backTo pos (starEach es env))) (EvsOk N ρ xs s ds) NoE s := by
  induction h with
  | nil =>
    intro A env N s ρ κ ds pos hA I e
    simp only [evsq1, evsq2] at e
    cases e
    exact wpAny_items_nil ⟨Grow.rfl' _, trivial, fun _ => .nil⟩
  | cons h _ ih =>
    intro A env N s ρ κ ds pos hA I e
    simp only [evsq1, evsq2, Option.bind_eq_bind, Option.bind_eq_some_iff] at e
    obtain ⟨d, hd, ds', hds, e⟩ := e
    cases e
    refine wpAny_items_cons (wpAny_mono (h.val hA I hd) (fun v s₁ o₁ => wpAny_mono (ih hA (I.grow o₁.grow) hds) (fun vs s₂ o₂ => ?_) fun _ _ e => e) fun _ _ e => e) (starEach_cons h.nst)
    exact ⟨o₁.grow.trans o₂.grow, ⟨o₁.rep.grow o₂.grow, o₂.rep⟩, fun hs => by
      replace hs := Bool.and_eq_true_iff.mp hs
      exact .cons ((o₁.str hs.1).grow o₂.grow) (o₂.str hs.2)⟩

theorem good_list {es : List Expr} {xs : E} {p : Pos} (h : SndL c τ es xs) : SndE c τ (.List es p) (.list xs) := by
  refine SndE.ofEv (fun {A env N s ρ κ d} hA I e => ?_) (fun _ => rfl) (fun _ _ h => by cases h)
  simp only [evq1, evq2, evq3, evq4, evq5, evq6, evq7, evq8, evq9, evq10, evq11, evq12, evq13, evq14, evq15, evq16, evq17, evq18, evq19, evq20, Option.bind_eq_bind] at e
  split at e
  · rename_i hst
    simp only [Option.bind_eq_some_iff] at e
    obtain ⟨ds, hds, e⟩ := e
    split at e
    · rename_i hlen
      cases e
      refine wpAny_List (wpAny_mono (h.vals hA I hds) (fun vs s₁ o => ?_) fun _ _ e => e)
      have hl := (o.str hst).1
      exact ⟨by rw [← LIM_eq]; (first | lia | omega), .of ((Ok.newList (I.grow o.grow).alive (by (first | lia | omega)) (o.str hst)).back o.grow)⟩
    · cases e
  · cases e
theorem good_tup {es : List Expr} {xs : E} {k : Nat} {p : Pos} (h : SndL c τ es xs) : SndE c τ (.Tuple es k p) (.tup xs) := by
  refine SndE.ofEv (fun {A env N s ρ κ d} hA I e => ?_) (fun _ => rfl) (fun _ _ h => by cases h)
  simp only [evq1, evq2, evq3, evq4, evq5, evq6, evq7, evq8, evq9, evq10, evq11, evq12, evq13, evq14, evq15, evq16, evq17, evq18, evq19, evq20, Option.bind_eq_bind] at e
  split at e
  · rename_i hst
    simp only [Option.bind_eq_some_iff] at e
    obtain ⟨ds, hds, e⟩ := e
    split at e
    · rename_i hlen
      cases e
      refine wpAny_Tuple (wpAny_mono (h.vals hA I hds) (fun vs s₁ o => ?_) fun _ _ e => e)
      have hl := (o.str hst).1
      exact ⟨by rw [← LIM_eq]; (first | lia | omega), .of ((Ok.newTup (I.grow o.grow).alive (by (first | lia | omega)) (o.str hst)).back o.grow)⟩
    · cases e
  · cases e

noncomputable def opAnd : BoolOp → Bool
  | .And => true
  | .Or => false

set_option tactic.hygienic false in
theorem evB_cons {Φ : Funs} {ρ : List Slot} {κ : List D} {k : Bool} {x xs : E} : evB Φ ρ κ k (.cons x xs) = (match xs with | .nil => ev Φ ρ κ x | xs => do let d ← ev Φ ρ κ x; if (← truthD d) == k then evB Φ ρ κ k xs else some d) := by
  cases xs <;> rfl

theorem SndL.bools {es : List Expr} {xs : E} (h : SndL c τ es xs) : ∀ {A : Around} {env : Env} {N : Addr → Prop} {s : Shared} {ρ : List Slot} {κ : List D} {d : D} {pos : Pos} {op : BoolOp}, AOk c.n A → InvE c.h₀ τ env N s.heap ρ κ → evB c.Φ ρ κ (opAnd op) xs = some d →
    wpAny (model c.prog c.w) A (boolOp pos op (evalEach es env)) (EvOk N ρ (.bools (opAnd op) xs) s d) NoE s := by
  induction h with
  | nil => intro A env N s ρ κ d pos op hA I e; replace e : (Option.none : Option D) = some d := e; cases e
  | cons h hl ih =>
    rename_i x es' y ys
    intro A env N s ρ κ d pos op hA I e
    rw [evB_cons] at e
    cases hl with
    | nil =>
      refine wpAny_mono (h.val hA I e) (fun v s₁ o => ⟨o.grow, o.rep, fun hs => o.str (Bool.and_eq_true_iff.mp hs).1, fun hn => by cases hn⟩) fun _ _ e => e
    | cons h2 hl2 =>
      rename_i x2 es2 y2 ys2
      simp only [Option.bind_eq_bind, Option.bind_eq_some_iff] at e
      obtain ⟨d', hd', t, ht, e⟩ := e
      show wpAny _ A (do
        let v ← eval x env
        standAt pos
        let t ← holding [v] (truthy v)
        match op, t with
        | .And, false | .Or, true => pure v
        | _, _ => boolOp pos op (evalEach (x2 :: es2) env)) _ _ s
      refine wpAny_bind (wpAny_mono (h.val hA I hd') (fun v s₁ o₁ => wpAny_bind (wpAny_standAt (wpAny_bind (wpAny_holding (wpAny_mono (truthD_sound o₁.rep ht) (fun t' s₂ h₂ => ?_) fun _ _ e => e))))) fun _ _ e => e)
      obtain ⟨rfl, g₂⟩ := h₂
      have g := o₁.grow.trans g₂
      have short : d = d' → EvOk N ρ (.bools (opAnd op) (.cons y (.cons y2 ys2))) s d v s₂ := fun q => by
        subst q
        exact ⟨g, o₁.rep.grow g₂, fun hs => (o₁.str (Bool.and_eq_true_iff.mp hs).1).grow g₂, fun hn => by cases hn⟩
      have long : evB c.Φ ρ κ (opAnd op) (.cons y2 ys2) = some d → wpAny (model c.prog c.w) A (boolOp pos op (evalEach (x2 :: es2) env)) (EvOk N ρ (.bools (opAnd op) (.cons y (.cons y2 ys2))) s d) NoE s₂ := fun q =>
        wpAny_mono (ih hA (I.grow g) q) (fun v s₃ o₃ => let o₃ := o₃.back g; ⟨o₃.grow, o₃.rep, fun hs => o₃.str (Bool.and_eq_true_iff.mp hs).2, fun hn => by cases hn⟩) fun _ _ e => e
      cases op <;> cases t'
      · simp [opAnd] at e; exact wpAny_pure (short e.symm)
      · simp only [opAnd, beq_self_eq_true, if_true] at e; exact long e
      · simp only [opAnd, beq_self_eq_true, if_true] at e; exact long e
      · simp [opAnd] at e; exact wpAny_pure (short e.symm)

theorem SndL.alls {es : List Expr} {xs : E} (h : SndL c τ es xs) : ∀ {A : Around} {env : Env} {N : Addr → Prop} {s : Shared} {ρ : List Slot} {κ : List D} {d : D} {b : Bool} {op : BoolOp}, AOk c.n A → InvE c.h₀ τ env N s.heap ρ κ → evB c.Φ ρ κ (opAnd op) xs = some d → truthD d = some b →
    wpAny (model c.prog c.w) A (allTrue op es env) (fun b' s' => b' = b ∧ Grow s s') NoE s := by
  induction h with
  | nil => intro A env N s ρ κ d b op hA I e; replace e : (Option.none : Option D) = some d := e; cases e
  | cons h hl ih =>
    rename_i x es' y ys
    intro A env N s ρ κ d b op hA I e hb
    rw [evB_cons] at e
    cases hl with
    | nil =>
      have hx := h.tru hA I e hb
      cases op
      · refine wpAny_allTrue_And_cons (wpAny_mono hx (fun t s₁ h₁ => ?_) fun _ _ e => e)
        obtain ⟨rfl, g⟩ := h₁
        cases t
        · exact ⟨rfl, g⟩
        · exact wpAny_allTrue_And_nil ⟨rfl, g⟩
      · refine wpAny_allTrue_Or_cons (wpAny_mono hx (fun t s₁ h₁ => ?_) fun _ _ e => e)
        obtain ⟨rfl, g⟩ := h₁
        cases t
        · exact wpAny_allTrue_Or_nil ⟨rfl, g⟩
        · exact ⟨rfl, g⟩
    | cons h2 hl2 =>
      simp only [Option.bind_eq_bind, Option.bind_eq_some_iff] at e
      obtain ⟨d', hd', t, ht, e⟩ := e
      have hx := h.tru hA I hd' ht
      cases op
      · refine wpAny_allTrue_And_cons (wpAny_mono hx (fun t' s₁ h₁ => ?_) fun _ _ e => e)
        obtain ⟨rfl, g⟩ := h₁
        cases t'
        · simp [opAnd] at e; cases e; rw [ht] at hb; cases hb; exact ⟨rfl, g⟩
        · simp only [opAnd, beq_self_eq_true, if_true] at e
          exact wpAny_mono (ih hA (I.grow g) e hb) (fun b' s' h' => ⟨h'.1, g.trans h'.2⟩) fun _ _ e => e
      · refine wpAny_allTrue_Or_cons (wpAny_mono hx (fun t' s₁ h₁ => ?_) fun _ _ e => e)
        obtain ⟨rfl, g⟩ := h₁
        cases t'
        · simp only [opAnd, beq_self_eq_true, if_true] at e
          exact wpAny_mono (ih hA (I.grow g) e hb) (fun b' s' h' => ⟨h'.1, g.trans h'.2⟩) fun _ _ e => e
        · simp [opAnd] at e; cases e; rw [ht] at hb; cases hb; exact ⟨rfl, g⟩

set_option tactic.hygienic false in
theorem good_bools {op : BoolOp} {es : List Expr} {xs : E} {p : Pos} (h : SndL c τ es xs) : SndE c τ (.BoolOp op es p) (.bools (opAnd op) xs) := by
  refine ⟨fun {A env N s ρ κ d} hA I e => ?_, fun {A env N s ρ κ d k} hA I e hk => ?_, fun _ _ h => by cases h⟩
  · simp only [evq1, evq2, evq3, evq4, evq5, evq6, evq7, evq8, evq9, evq10, evq11, evq12, evq13, evq14, evq15, evq16, evq17, evq18, evq19, evq20] at e; exact h.bools hA I e
  · simp only [evq1, evq2, evq3, evq4, evq5, evq6, evq7, evq8, evq9, evq10, evq11, evq12, evq13, evq14, evq15, evq16, evq17, evq18, evq19, evq20] at e; exact wpAny_isTrue_BoolOp (h.alls hA I e hk)

/-! subscripts -/
noncomputable def notSlice : Expr → Bool
  | .Slice .. => false
  | _ => true
set_option tactic.hygienic false in
theorem subscripted_plain {slice : Expr} (h : notSlice slice = true) (o i : Value) : subscripted slice false o i = operate [o, i] (getItem o i) := by
  cases slice <;> first | rfl | cases h

set_option tactic.hygienic false in
theorem good_idx {v i : Expr} {p : Pos} {V I' : E} (hn : notSlice i = true) (hv : SndE c τ v V) (hi : SndE c τ i I') : SndE c τ (.Subscript v i p) (.idx V I') := by
  refine SndE.ofEv (fun {A env N s ρ κ d} hA I e => ?_) (fun _ => rfl) (fun _ _ h => by cases h)
  simp only [evq1, evq2, evq3, evq4, evq5, evq6, evq7, evq8, evq9, evq10, evq11, evq12, evq13, evq14, evq15, evq16, evq17, evq18, evq19, evq20, Option.bind_eq_bind, Option.bind_eq_some_iff] at e
  obtain ⟨x, hx, y, hy, e⟩ := e
  refine Subscript_ (wpAny_mono (hv.val hA I hx) (fun a s₁ o₁ => wpAny_mono (hi.val hA (I.grow o₁.grow) hy) (fun b s₂ o₂ => ?_) fun _ _ e => e) fun _ _ e => e)
  exact wpAny_mono (idx_sound (o₁.rep.grow o₂.grow) o₂.rep e (subscripted_plain hn)) (fun r s₃ h₃ => .ofRep ((o₁.grow.trans o₂.grow).trans h₃.1) h₃.2 rfl) fun _ _ e => e

inductive SndP (c : Cx) (τ : Tx) : Option Expr → E → Prop
  | no : SndP c τ .none (.const .none)
  | yes {e : Expr} {x : E} : SndE c τ e x → SndP c τ (.some e) x
set_option tactic.hygienic false in
theorem SndP.val {o : Option Expr} {x : E} (h : SndP c τ o x) {A : Around} {env : Env} {N : Addr → Prop} {s : Shared} {ρ : List Slot} {κ : List D} {d : D} (hA : AOk c.n A) (I : InvE c.h₀ τ env N s.heap ρ κ) (e : ev c.Φ ρ κ x = some d) :
    wpAny (model c.prog c.w) A (evalPart o env) (fun v s' => Grow s s' ∧ RepT N s'.heap v d) NoE s := by
  cases h with
  | no => simp only [evq1, evq2, evq3, evq4, evq5, evq6, evq7, evq8, evq9, evq10, evq11, evq12, evq13, evq14, evq15, evq16, evq17, evq18, evq19, evq20] at e; cases e; exact wpAny_evalPart_none ⟨Grow.rfl' _, .none⟩
  | yes h => exact wpAny_evalPart_some (wpAny_mono (h.val hA I e) (fun v s' o => ⟨o.grow, o.rep⟩) fun _ _ e => e)

set_option tactic.hygienic false in
theorem good_slice {v : Expr} {l u : Option Expr} {p p' : Pos} {V L U : E} (hv : SndE c τ v V) (hl : SndP c τ l L) (hu : SndP c τ u U) : SndE c τ (.Subscript v (.Slice l u none p') p) (.slice V L U) := by
  refine SndE.ofEv (fun {A env N s ρ κ d} hA I e => ?_) (fun _ => rfl) (fun _ _ h => by cases h)
  simp only [evq1, evq2, evq3, evq4, evq5, evq6, evq7, evq8, evq9, evq10, evq11, evq12, evq13, evq14, evq15, evq16, evq17, evq18, evq19, evq20, Option.bind_eq_bind, Option.bind_eq_some_iff] at e
  obtain ⟨x, hx, y, hy, z, hz, e⟩ := e
  refine Subscript_ (wpAny_mono (hv.val hA I hx) (fun a s₁ o₁ => wpAny_Slice (wpAny_mono (hl.val hA (I.grow o₁.grow) hy) (fun b s₂ o₂ => wpAny_mono (hu.val hA ((I.grow o₁.grow).grow o₂.1) hz) (fun d s₃ o₃ => wpAny_evalPart_none ?_) fun _ _ e => e) fun _ _ e => e)) fun _ _ e => e)
  have g4 := Grow.push s₃ { cls := .type "slice", data := .fields #[b, d, .none] } s₃.toks
  have g3 := (o₁.grow.trans o₂.1).trans o₃.1
  refine wpAny_mono (slice_sound (I.grow (g3.trans g4)).alive (o₁.rep.grow ((o₂.1.trans o₃.1).trans g4)) (o₂.2.grow (o₃.1.trans g4)) (o₃.2.grow g4) (Heap.get?_push_size _ rfl) e) (fun r s₅ o => .of (o.back (g3.trans g4))) fun _ _ e => e
end Mine
end
/-! S4 -/
section
open PySem PySem.W PyProof.Rows
set_option linter.unusedSimpArgs false
set_option linter.unusedVariables false
namespace Mine
variable {c : Cx} {τ : Tx}

set_option tactic.hygienic false in
theorem SndL.noStar {es : List Expr} {xs : E} (h : SndL c τ es xs) (env : Env) (pos : Pos) : (backTo pos (starEach es env)).any (·.1) = false ∧ (backTo pos (starEach es env)).all (fun x => !x.1) = true := by
  rw [h.plain]
  constructor
  · simp [backTo]
  · simp [backTo]

set_option tactic.hygienic false in
theorem SndL.args {es : List Expr} {xs : E} (h : SndL c τ es xs) {A : Around} {env : Env} {N : Addr → Prop} {s : Shared} {ρ : List Slot} {κ : List D} {ds : List D} {pos : Pos} {f : Value} {Q : Args → Shared → Prop} (hA : AOk c.n A) (I : InvE c.h₀ τ env N s.heap ρ κ)
    (e : evs c.Φ ρ κ xs = some ds) (hQ : ∀ vs s', EvsOk N ρ xs s ds vs s' → Q ⟨vs, []⟩ s') : wpAny (model c.prog c.w) A (evalArgs f true (backTo pos (starEach es env)) []) Q NoE s := by
  have hv := h.vals (pos := pos) hA I e
  cases h with
  | nil =>
    simp only [evsq1, evsq2] at e
    cases e
    exact PySem.evalArgs_none (hQ [] s ⟨Grow.rfl' _, trivial, fun _ => .nil⟩)
  | cons h hl =>
    rw [starEach_cons h.nst] at hv ⊢
    exact Calls.evalArgs_plain (wpAny_mono hv (fun vs s' o => hQ vs s' o) fun _ _ e => e)

set_option tactic.hygienic false in
theorem callWith_fn {f : Fn} {M : Model} {A : Around} {E : Value → Shared → Prop} {s : Shared} {pos : Pos} {args : List (Bool × Sem Value)} {Q : Value → Shared → Prop} (hplain : args.any (·.1) = false)
    (h : wpAny M A (evalArgs (fnVal f) true args []) (fun a s₁ => wpAny M A (call (fnVal f) a.pos a.kw) Q E s₁) E s) :
    wpAny M A (callWith pos (fnVal f) [] args []) Q E s := by
  cases f
  case range => dsimp only [fnVal] at h ⊢; exact PySem.callWith_type (first := []) hplain h
  case list => dsimp only [fnVal] at h ⊢; exact PySem.callWith_type (first := []) hplain h
  all_goals dsimp only [fnVal] at h ⊢; exact Calls.callWith_builtin (first := []) hplain h

theorem InvE.ns {h₀ : Heap} {env : Env} {N : Addr → Prop} {h : Heap} {ρ : List Slot} {κ : List D} (I : InvE h₀ τ env N h ρ κ) {a : Addr} {m : Str → Option Value} (n : h₀.Ns a m) : h.Ns a m := n.keeps I.keep

set_option tactic.hygienic false in
/-- a name of the built-ins, called -/
theorem eval_builtin {A : Around} {env : Env} {N : Addr → Prop} {s : Shared} {ρ : List Slot} {κ : List D} {id : Str} {p : Pos} {v : Value} {Q : Value → Shared → Prop} (G : GOk c) (I : InvE c.h₀ τ env N s.heap ρ κ) (hd : (id == ("__debug__" : Str)) = false) (hk : τ.kind id = some .globalImplicit)
    (hg : c.mg id = none) (hb : c.mb id = some v) (h : Q v s) : wpAny (model c.prog c.w) A (eval (.Name id p) env) Q NoE s := by
  refine Calls.Name_function_global I.kind (by rw [I.kindOf]; exact hk) (Calls.loadGlobal_builtin (by rw [I.glob]; exact I.ns G.g) hg (by rw [I.blt]; exact I.ns G.b) hb h) hd
set_option tactic.hygienic false in
theorem eval_global {A : Around} {env : Env} {N : Addr → Prop} {s : Shared} {ρ : List Slot} {κ : List D} {id : Str} {p : Pos} {v : Value} {Q : Value → Shared → Prop} (G : GOk c) (I : InvE c.h₀ τ env N s.heap ρ κ) (hd : (id == ("__debug__" : Str)) = false) (hk : τ.kind id = some .globalImplicit)
    (hg : c.mg id = some v) (h : Q v s) : wpAny (model c.prog c.w) A (eval (.Name id p) env) Q NoE s :=
  Calls.Name_function_global I.kind (by rw [I.kindOf]; exact hk) (Calls.loadGlobal_global (by rw [I.glob]; exact I.ns G.g) hg h) hd

set_option tactic.hygienic false in
theorem good_fn {id : Str} {f : Fn} {p pos : Pos} {es : List Expr} {xs : E} (G : GOk c) (hf : fnOf id = some f) (hk : τ.kind id = some .globalImplicit) (h : SndL c τ es xs) : SndE c τ (.Call (.Name id p) es [] pos) (.fn f xs) := by
  refine SndE.ofEv (fun {A env N s ρ κ d} hA I e => ?_) (fun _ => rfl) (fun _ _ h => by cases h)
  simp only [evq1, evq2, evq3, evq4, evq5, evq6, evq7, evq8, evq9, evq10, evq11, evq12, evq13, evq14, evq15, evq16, evq17, evq18, evq19, evq20, Option.bind_eq_bind, Option.bind_eq_some_iff] at e
  obtain ⟨ds, hds, e⟩ := e
  have hid := fnOf_name hf
  have hne := fnOf_ne hf
  have hd : (id == ("__debug__" : Str)) = false := by rw [hid]; cases f <;> decide
  refine wpAny_Call_ofName (eval_builtin G I hd hk (by rw [hid]; exact (G.bl f).1) (by rw [hid]; exact (G.bl f).2) ?_)
  show wpAny _ A (callWith pos (fnVal f) [] (backTo pos (starEach es env)) []) _ _ s
  refine callWith_fn (h.noStar env pos).1 (h.args hA I hds fun vs s' o => ?_)
  have hargs : fnArgs f vs = vs := by cases f <;> first | rfl | exact absurd rfl hne
  show wpAny _ A (call (fnVal f) vs []) _ _ s'
  rw [← hargs]
  exact wpAny_mono (fnD_sound hA.1 (I.grow o.grow).alive o.rep e) (fun v s'' o' => .of (o'.back o.grow)) fun _ _ e => e

set_option tactic.hygienic false in
theorem good_isBool {p p' pos : Pos} {a : Expr} {x : E} (G : GOk c) (hk : τ.kind "isinstance" = some .globalImplicit) (hk' : τ.kind "bool" = some .globalImplicit) (h : SndE c τ a x) : SndE c τ (.Call (.Name "isinstance" p) [a, .Name "bool" p'] [] pos) (.fn .isBool (.cons x .nil)) := by
  refine SndE.ofEv (fun {A env N s ρ κ d} hA I e => ?_) (fun _ => rfl) (fun _ _ h => by cases h)
  simp only [evq1, evq2, evq3, evq4, evq5, evq6, evq7, evq8, evq9, evq10, evq11, evq12, evq13, evq14, evq15, evq16, evq17, evq18, evq19, evq20, evsq1, evsq2, Option.bind_eq_bind, Option.bind_eq_some_iff] at e
  obtain ⟨ds, ⟨d1, hd1, ds', e', e''⟩, e⟩ := e
  cases e'; cases e''
  refine wpAny_Call_ofName (eval_builtin (v := fnVal .isBool) G I (by decide) hk (G.bl .isBool).1 (G.bl .isBool).2 ?_)
  show wpAny _ A (callWith pos (fnVal .isBool) [] (backTo pos (starEach [a, .Name "bool" p'] env)) []) _ _ s
  have hs : starEach [a, .Name "bool" p'] env = [(false, eval a env), (false, eval (.Name "bool" p') env)] := by rw [starEach_cons h.nst]; rfl
  have hb : backTo pos [(false, eval a env), (false, eval (.Name "bool" p') env)] = [(false, eval a env), (false, eval (.Name "bool" p') env)] := rfl
  rw [hs, hb]
  refine callWith_fn (by simp) (Calls.evalArgs_plain (Calls.spliced_cons (wpAny_mono (h.val hA I hd1) (fun v s₁ o => Calls.spliced_cons (eval_builtin G (I.grow o.grow) (by decide) hk' G.bool.1 G.bool.2 (Calls.spliced_nil ?_))) fun _ _ e => e)))
  show wpAny _ A (call (fnVal .isBool) (fnArgs .isBool [v]) []) _ _ s₁
  exact wpAny_mono (fnD_sound (ds := [d1]) hA.1 (I.grow o.grow).alive ⟨o.rep, trivial⟩ e) (fun v s'' o' => .of (o'.back o.grow)) fun _ _ e => e

/-! the text's own functions -/
set_option tactic.hygienic false in
theorem RepTAll.toX {N : Addr → Prop} {h : Heap} : ∀ {vs : List Value} {ds : List D} (L : List Value), (∀ v ∈ vs, v ∈ L) → RepTAll N h vs ds → RepAll (fun a => N a ∧ Value.ref a ∉ L) h vs ds
  | [], [], _, _, _ => .nil
  | v :: vs, d :: ds, L, hL, r => by
    refine .cons ?_ (RepTAll.toX L (fun u hu => hL u (List.mem_cons_of_mem _ hu)) r.2)
    have r1 := r.1
    cases d with
    | list xs =>
      obtain ⟨a, us, rfl, hl, h1, ra⟩ := r1
      exact Rep.mk_list (fun hN => hN.2 (hL _ List.mem_cons_self)) hl h1 (ra.sub fun _ h => h.1)
    | none => exact Rep.sub (fun _ h => h.1) r1
    | bool b => exact Rep.sub (fun _ h => h.1) r1
    | int i => exact Rep.sub (fun _ h => h.1) r1
    | str s => exact Rep.sub (fun _ h => h.1) r1
    | tup ds => exact Rep.sub (fun _ h => h.1) r1
    | range a b c => exact Rep.sub (fun _ h => h.1) r1
  | [], _ :: _, _, _, r => r.elim
  | _ :: _, [], _, _, r => r.elim

set_option tactic.hygienic false in
theorem RepAll.scalars {N N' : Addr → Prop} {h : Heap} {vs : List Value} {ds : List D} (hs : ds.all scalar = true) (r : RepAll N h vs ds) : RepAll N' h vs ds :=
  ⟨r.1, fun i v d e1 e2 => (r.2 i v d e1 e2).scalar_any (by
    rw [List.all_eq_true] at hs
    exact hs d (List.mem_of_getElem? e2))⟩

set_option tactic.hygienic false in
theorem plain_inj {h : Heap} {a : Addr} {xs ys : Array Value} (x : h.PlainList a xs) (y : h.PlainList a ys) : xs = ys := by
  obtain ⟨n, hx⟩ := x; obtain ⟨m, hy⟩ := y; rw [hx] at hy; cases hy; rfl
set_option tactic.hygienic false in
theorem plain_not_tup {h : Heap} {a : Addr} {xs ys : Array Value} (x : h.PlainList a xs) (y : PTup h a ys) : False := by
  obtain ⟨n, hx⟩ := x; obtain ⟨m, hy⟩ := y
  rw [hx] at hy
  have := Option.some.inj hy
  have h2 := congrArg Obj.cls this
  exact absurd (Value.type.inj h2) (by decide)
set_option tactic.hygienic false in
theorem RepTAll.mem {N : Addr → Prop} {h : Heap} : ∀ {vs : List Value} {ds : List D}, RepTAll N h vs ds → ∀ v ∈ vs, ∃ d ∈ ds, RepT N h v d
  | [], [], _, v, hv => by cases hv
  | u :: vs, d :: ds, r, v, hv => by
    rcases List.mem_cons.mp hv with rfl | hv
    · exact ⟨d, List.mem_cons_self, r.1⟩
    · obtain ⟨e, he, q⟩ := RepTAll.mem r.2 v hv
      exact ⟨e, List.mem_cons_of_mem _ he, q⟩
  | [], _ :: _, r, _, _ => r.elim
  | _ :: _, [], r, _, _ => r.elim
set_option tactic.hygienic false in
/-- what a call may hand back of its arguments -/
theorem RepT.back {N : Addr → Prop} {h : Heap} {a : Addr} {d : D} (r : RepT N h (.ref a) d) : ¬ N a ∨ ∃ xs us, d = .list xs ∧ h.PlainList a (List.toArray us) ∧ RepAll N h us xs := by
  cases d with
  | list xs =>
    obtain ⟨b, us, e, h1, _, ra⟩ := r
    cases e
    exact .inr ⟨xs, us, rfl, h1, ra⟩
  | none => cases r
  | bool b => cases r
  | int i => cases r
  | str s => cases r
  | tup xs =>
    obtain ⟨b, us, e, hn, _⟩ := Rep.inv_tup r
    cases e
    exact .inl hn
  | range x y z =>
    obtain ⟨b, _, _, _, e, hn, _⟩ := Rep.inv_range r
    cases e
    exact .inl hn
set_option tactic.hygienic false in
theorem lift_tup {N : Addr → Prop} {h : Heap} {vs : List Value} {ds : List D} (rs : RepTAll N h vs ds) {v : Value} {d : D} (hd : tupS d = true) (r : Rep (fun a => N a ∧ Value.ref a ∉ vs) h v d) : Rep N h v d := by
  cases d with
  | tup xs =>
    obtain ⟨a, us, rfl, hn, h1, hl, ra⟩ := r.inv_tup
    refine Rep.mk_tup (fun hN => ?_) h1 hl (ra.scalars hd)
    obtain ⟨e, _, q⟩ := rs.mem (.ref a) (Classical.byContradiction fun hm => hn ⟨hN, hm⟩)
    rcases q.back with q | ⟨xs, us', _, q, _⟩
    · exact q hN
    · exact plain_not_tup q h1
  | _ => cases hd
set_option tactic.hygienic false in
theorem us0 {N : Addr → Prop} {h : Heap} {us : List Value} {zs : List D} {d : D} (ra : RepAll N h us zs) (hz : zs.head? = some d) : us[0]? = some (us.head?.getD .none) := by
  cases us with
  | nil =>
    have : zs = [] := List.length_eq_zero_iff.mp ra.1.symm
    rw [this] at hz
    cases hz
  | cons u us => rfl
theorem lift_item {N : Addr → Prop} {h : Heap} {vs : List Value} {ds : List D} (rs : RepTAll N h vs ds) {v : Value} {d : D} (hd : itemOk ds d = true) (r : Rep (fun a => N a ∧ Value.ref a ∉ vs) h v d) : Rep N h v d := by
  have low : (scalar d || tupS d) = true → Rep N h v d := fun hd => by
    rcases Bool.or_eq_true_iff.mp hd with hd | hd
    · exact r.scalar_any hd
    · exact lift_tup rs hd r
  cases d with
  | list zs =>
    obtain ⟨hs, hx⟩ := Bool.and_eq_true_iff.mp (show (zs.all scalar && ds.all (isL zs)) = true from hd)
    obtain ⟨a, us, rfl, hn, h1, hl, ra⟩ := r.inv_list
    refine Rep.mk_list (fun hN => ?_) h1 hl (ra.scalars hs)
    obtain ⟨e, he, q⟩ := rs.mem (.ref a) (Classical.byContradiction fun hm => hn ⟨hN, hm⟩)
    rcases q.back with q | ⟨xs, us', rfl, q, rb⟩
    · exact q hN
    · have : us = us' := by simpa using plain_inj h1 q
      subst this
      rw [List.all_eq_true] at hx
      have hdf : diffL xs zs = true := hx _ he
      unfold diffL at hdf
      split at hdf
      · rename_i i hz
        split at hdf
        · rename_i j hx'
          obtain ⟨t, e1⟩ := (ra.2 0 _ _ (us0 ra hz) (by rw [← List.head?_eq_getElem?]; exact hz)).inv_int
          obtain ⟨t', e2⟩ := (rb.2 0 _ _ (us0 ra hz) (by rw [← List.head?_eq_getElem?]; exact hx')).inv_int
          rw [e1] at e2
          cases e2
          simp at hdf
        · rename_i j hx'
          obtain ⟨t, e1⟩ := (ra.2 0 _ _ (us0 ra hz) (by rw [← List.head?_eq_getElem?]; exact hz)).inv_int
          obtain ⟨t', e2, _⟩ := (rb.2 0 _ _ (us0 ra hz) (by rw [← List.head?_eq_getElem?]; exact hx')).inv_str
          rw [e1] at e2
          cases e2
        · cases hdf
      · cases hdf
  | none => exact low hd
  | bool b => exact low hd
  | int i => exact low hd
  | str s => exact low hd
  | tup y => exact low hd
  | range p q r => exact low hd

theorem good_ucall {id : Str} {i : Nat} {p pos : Pos} {es : List Expr} {xs : E} (G : GOk c) (F : FnsOk c) (hd : (id == ("__debug__" : Str)) = false) (hne : id ≠ "") (hi : idx? id c.fnames = some i) (hk : τ.kind id = some .globalImplicit) (h : SndL c τ es xs) :
    SndE c τ (.Call (.Name id p) es [] pos) (.ucall i xs) := by
  refine SndE.ofEv (fun {A env N s ρ κ d} hA I e => ?_) (fun _ => rfl) (fun _ _ h => by cases h)
  simp only [evq1, evq2, evq3, evq4, evq5, evq6, evq7, evq8, evq9, evq10, evq11, evq12, evq13, evq14, evq15, evq16, evq17, evq18, evq19, evq20, Option.bind_eq_bind, Option.bind_eq_some_iff] at e
  obtain ⟨ds, hds, ⟨d', fr⟩, hΦ, e⟩ := e
  split at e
  · rename_i hcond
    cases e
    obtain ⟨a, ha, hm, o, fd, ho, hfd⟩ := G.fn i id (idx?_get hi) hne
    refine wpAny_Call_ofName (eval_global G I hd hk hm ?_)
    show wpAny _ A (callWith pos (.ref a) [] (backTo pos (starEach es env)) []) _ _ s
    refine Calls.callWith_function (o := o) (fd := fd) (h.args hA I hds fun vs s' ov => ⟨⟨(I.grow ov.grow).keep _ _ ho, hfd⟩, wpAny_call ?_⟩)
    show codeAny _ A (.call (.ref a) ⟨vs, []⟩) _ s'
    have I' := I.grow ov.grow
    by_cases hst : strong ρ xs = true
    · refine codeAny_mono (F i a id ds d' fr (idx?_get hi) hne ha hΦ A s' N vs hA I'.keep I'.alive (ov.str hst)) fun r s'' hr => ?_
      obtain ⟨v, rfl, g, rep, _⟩ := hr
      exact .ofRep (ov.grow.trans g) rep rfl
    · refine codeAny_mono (F i a id ds d' fr (idx?_get hi) hne ha hΦ A s' (fun a => N a ∧ Value.ref a ∉ vs) vs hA I'.keep (fun b hb => I'.alive b hb.1) (RepTAll.toX vs (fun _ h => h) ov.rep)) fun r s'' hr => ?_
      obtain ⟨v, rfl, g, rep, fresh⟩ := hr
      refine .ofRep (ov.grow.trans g) ?_ rfl
      by_cases hsc : scalar d' = true
      · exact rep.scalar_any hsc
      · have rs := ov.rep.grow g
        by_cases htu : tupS d' = true
        · exact lift_tup rs htu rep
        · have hff : fr = true ∧ flat ds d' = true := by
            simp only [Bool.not_eq_true] at hst hsc htu
            simpa [hst, hsc, htu] using hcond
          obtain ⟨hf1, hf2⟩ := hff
          cases d' with
          | list ys =>
            obtain ⟨b, rfl, hb⟩ := fresh hf1 ys rfl
            obtain ⟨a', us, e1, hn, hl, h1, ra⟩ := rep.inv_list
            cases e1
            have hf2 : ys.all (itemOk ds) = true := hf2
            rw [List.all_eq_true] at hf2
            exact Rep.mk_list (I'.alive.not hb) hl h1 ⟨ra.1, fun i v d e1 e2 => lift_item rs (hf2 d (List.mem_of_getElem? e2)) (ra.2 i v d e1 e2)⟩
          | none => exact absurd rfl hsc
          | bool b => exact absurd rfl hsc
          | int i => exact absurd rfl hsc
          | str s => exact absurd rfl hsc
          | tup ds => exact absurd hf2 htu
          | range a b c => cases hf2
  · cases e

/-! methods -/
section
variable {prog : Program} {w : World} {A : Around} {s : Shared} {N : Addr → Prop}
theorem meth_call {m : Mth} {d0 d : D} {ds : List D} {v : Value} {vs : List Value} (hN : Alive N s.heap) (r : RepT N s.heap v d0) (rs : RepTAll N s.heap vs ds) (e : methD m d0 ds = some d) :
    wpAny (model prog w) A (call (.builtin (mthId m)) (v :: vs)) (Ok N s d) NoE s := by
  unfold methD at e
  cases m with
  | split =>
    dsimp only at e
    split at e
    · split at e
      · cases e; obtain ⟨u, rfl, q⟩ := rs.one; obtain ⟨t, rfl, h1⟩ := Rep.inv_str r; obtain ⟨t', rfl, h2⟩ := Rep.inv_str q
        rename_i hx; exact call_split hN hx
      · cases e
    · split at e
      · cases e
        have : vs = [] := by cases vs with | nil => rfl | cons _ _ => exact rs.elim
        subst this; obtain ⟨t, rfl, h1⟩ := Rep.inv_str r
        rename_i hx; exact call_words hN hx
      · cases e
    · cases e
  | join =>
    dsimp only at e
    split at e
    · simp only [Option.bind_eq_some_iff] at e
      obtain ⟨l, hl, e⟩ := e
      split at e
      · cases e; obtain ⟨u, rfl, q⟩ := rs.one; obtain ⟨t, rfl, h1⟩ := Rep.inv_str r
        obtain ⟨a, us, rfl, hpl, h2, ra⟩ := q
        rename_i hx; exact call_join hpl ra hl hx
      · cases e
    · cases e
  | rstrip =>
    dsimp only at e
    split at e
    · cases e
      have : vs = [] := by cases vs with | nil => rfl | cons _ _ => exact rs.elim
      subst this; obtain ⟨t, rfl, h1⟩ := Rep.inv_str r
      exact call_strip_r h1
    · cases e
  | lstrip =>
    cases e
  | expandtabs =>
    dsimp only at e
    split at e
    · split at e
      · cases e
        have : vs = [] := by cases vs with | nil => rfl | cons _ _ => exact rs.elim
        subst this; obtain ⟨t, rfl, h1⟩ := Rep.inv_str r
        rename_i hx; exact call_expandtabs hx
      · cases e
    · cases e
  | index =>
    cases e

set_option tactic.hygienic false in
/-- the type of what a method is asked of, and its slot -/
theorem meth_on {m : Mth} {d0 d : D} {ds : List D} {v : Value} (r : RepT N s.heap v d0) (e : methD m d0 ds = some d) :
    ∃ T, PlainAttrs T ∧ PySem.Slot T (mthName m) (mthId m) ∧ typeOf (.builtin (mthId m)) = pure (.type "method_descriptor") ∧ s.TypeIs v T ∧ (∀ a, v = .ref a → ∃ ob, s.heap.get? a = some ob ∧ ob.dict = none) := by
  have hs : ∀ x, d0 = .str x → s.TypeIs v "str" ∧ (∀ a, v = .ref a → ∃ ob, s.heap.get? a = some ob ∧ ob.dict = none) := fun x h => by
    subst h; obtain ⟨t, rfl, _⟩ := Rep.inv_str r; exact ⟨typeIs_str _ _ _, fun _ e => nomatch e⟩
  have hl : ∀ x, d0 = .list x → s.TypeIs v "list" ∧ (∀ a, v = .ref a → ∃ ob, s.heap.get? a = some ob ∧ ob.dict = none) := fun x h => by
    subst h; obtain ⟨a, us, rfl, ⟨n, hpl⟩, _⟩ := r; exact ⟨⟨_, hpl, rfl⟩, fun a' e => by cases e; exact ⟨_, hpl, rfl⟩⟩
  unfold methD at e
  cases m with
  | split =>
    dsimp only at e
    split at e
    · exact ⟨"str", F.plainAttrs_str, F.slot_str_split, F.type_str_split, hs _ rfl⟩
    · exact ⟨"str", F.plainAttrs_str, F.slot_str_split, F.type_str_split, hs _ rfl⟩
    · cases e
  | join =>
    dsimp only at e
    split at e
    · exact ⟨"str", F.plainAttrs_str, F.slot_str_join, F.type_str_join, hs _ rfl⟩
    · cases e
  | rstrip =>
    dsimp only at e
    split at e
    · exact ⟨"str", F.plainAttrs_str, F.slot_str_rstrip, F.type_str_rstrip, hs _ rfl⟩
    · cases e
  | lstrip =>
    cases e
  | expandtabs =>
    dsimp only at e
    split at e
    · exact ⟨"str", F.plainAttrs_str, F.slot_str_expandtabs, F.type_str_expandtabs, hs _ rfl⟩
    · cases e
  | index =>
    cases e
end

noncomputable def notSuper : Expr → Bool
  | .Call (.Name _ _) [] [] _ => false
  | _ => true
set_option tactic.hygienic false in
theorem base_plain {o : Expr} {nm : Str} {env : Env} {m : Sem Value} (h : notSuper o = true) : attributeBase o nm env m = m := by
  unfold attributeBase
  split
  · cases h
  · rfl

set_option tactic.hygienic false in
theorem few {es : List Expr} {xs : E} (h : SndL c τ es xs) (env : Env) (pos : Pos) (hl : es.length < 30) :
    ((backTo pos (starEach es env)).all (fun x => !x.1) && (backToKw pos (keywordEach [] env)).all (fun x => x.1.isSome)
      && decide (es.length + ([] : List Keyword).length + (if ([] : List Keyword).isEmpty then 0 else 1) < 30)) = true := by
  rw [(h.noStar env pos).2]
  exact decide_eq_true (show es.length + 0 + 0 < 30 from hl)

set_option tactic.hygienic false in
theorem good_meth {o : Expr} {nm : Str} {m : Mth} {apos pos : Pos} {es : List Expr} {O xs : E} (hm : mthOf nm = some m) (hsup : notSuper o = true) (hline : (apos.endLine == pos.line) = true) (hl : es.length < 30) (ho : SndE c τ o O) (h : SndL c τ es xs) :
    SndE c τ (.Call (.Attribute o nm apos) es [] pos) (.meth m O xs) := by
  refine SndE.ofEv (fun {A env N s ρ κ d} hA I e => ?_) (fun _ => rfl) (fun _ _ h => by cases h)
  simp only [evq1, evq2, evq3, evq4, evq5, evq6, evq7, evq8, evq9, evq10, evq11, evq12, evq13, evq14, evq15, evq16, evq17, evq18, evq19, evq20, Option.bind_eq_bind, Option.bind_eq_some_iff] at e
  obtain ⟨d0, hd0, ds, hds, e⟩ := e
  have hid := mthOf_name hm
  subst hid
  refine wpAny_Call_method_lateS (base_plain hsup) (few h env pos hl) hline (wpAny_mono (ho.val hA I hd0) (fun v s₁ o₁ => ?_) fun _ _ e => e)
  obtain ⟨T, pa, sl, ty, tv, dn⟩ := meth_on o₁.rep e
  refine ⟨T, mthId m, pa, sl, ty, tv, dn, ?_⟩
  refine Calls.callWith_builtin (h.noStar env pos).1 (h.args hA (I.grow o₁.grow) hds fun vs s' o => ?_)
  show wpAny _ A (call (.builtin (mthId m)) (v :: vs) []) _ _ s'
  exact wpAny_mono (meth_call ((I.grow o₁.grow).grow o.grow).alive (o₁.rep.grow o.grow) o.rep e) (fun v s'' o' => .of (o'.back (o₁.grow.trans o.grow))) fun _ _ e => e

theorem good_resplit {p apos pos : Pos} {a : Expr} {x : E} (G : GOk c) (hp : c.hasPat = true) (hk : τ.kind "_twin_re_1" = some .globalImplicit) (hline : (apos.endLine == pos.line) = true) (h : SndE c τ a x) :
    SndE c τ (.Call (.Attribute (.Name "_twin_re_1" p) "split" apos) [a] [] pos) (.resplit x) := by
  refine SndE.ofEv (fun {A env N s ρ κ d} hA I e => ?_) (fun _ => rfl) (fun _ _ h => by cases h)
  simp only [evq1, evq2, evq3, evq4, evq5, evq6, evq7, evq8, evq9, evq10, evq11, evq12, evq13, evq14, evq15, evq16, evq17, evq18, evq19, evq20, Option.bind_eq_bind, Option.bind_eq_some_iff] at e
  obtain ⟨d0, hd0, e⟩ := e
  split at e
  · split at e
    · cases e
      rename_i hlen
      obtain ⟨P, hP, hpat⟩ := G.pat hp
      have hL : SndL c τ [a] (.cons x .nil) := .cons h .nil
      refine wpAny_Call_method_lateS (base_plain rfl) (few hL env pos (by simp)) hline (eval_global G I (by decide) hk hP ?_)
      have hpat' := hpat.keeps I.keep
      have hT : s.TypeIs (.ref P) "re.Pattern" := by obtain ⟨f0, f1, f3, f4, C, n, hP, hC⟩ := hpat'; exact ⟨_, hP, rfl⟩
      have hdn : ∀ a, Value.ref P = .ref a → ∃ ob, s.heap.get? a = some ob ∧ ob.dict = none := fun a e => by
        cases e; obtain ⟨f0, f1, f3, f4, C, n, hP, hC⟩ := hpat'; exact ⟨_, hP, rfl⟩
      refine ⟨"re.Pattern", "re.Pattern.split", plainAttrs_pat, slot_pat_split, type_pat_split, hT, hdn, ?_⟩
      refine Calls.callWith_builtin (hL.noStar env pos).1 ?_
      rw [starEach_cons h.nst]
      refine Calls.evalArgs_plain (Calls.spliced_cons (wpAny_mono (h.val hA I hd0) (fun v s₁ o => Calls.spliced_nil ?_) fun _ _ e => e))
      show wpAny _ A (call (.builtin "re.Pattern.split") [.ref P, v] []) _ _ s₁
      obtain ⟨t, rfl, h1⟩ := Rep.inv_str o.rep
      exact wpAny_mono (call_resplit (I.grow o.grow).alive (hpat'.keeps o.grow.keep) hlen) (fun v s'' o' => .of (o'.back o.grow)) fun _ _ e => e
    · cases e
  · cases e
end Mine
end
/-! S5 -/
section
open PySem PySem.W PyProof.Rows
set_option linter.unusedSimpArgs false
set_option linter.unusedVariables false
namespace Mine
variable {c : Cx} {τ : Tx}

/-- all but X stands as it stood -/
structure KeepBut (X : Addr → Prop) (s s' : Shared) : Prop where
  os : s'.os = s.os
  gens : s'.gens = s.gens
  keep : ∀ b o, ¬ X b → s.heap.get? b = some o → s'.heap.get? b = some o
theorem KeepBut.rfl' {X : Addr → Prop} (s : Shared) : KeepBut X s s := ⟨rfl, rfl, fun _ _ _ e => e⟩
theorem KeepBut.trans {X : Addr → Prop} {s s' s'' : Shared} (a : KeepBut X s s') (b : KeepBut X s' s'') : KeepBut X s s'' :=
  ⟨b.os.trans a.os, b.gens.trans a.gens, fun x o hx e => b.keep x o hx (a.keep x o hx e)⟩
theorem KeepBut.mono {X Y : Addr → Prop} {s s' : Shared} (h : ∀ b, X b → Y b) (a : KeepBut X s s') : KeepBut Y s s' := ⟨a.os, a.gens, fun b o hb e => a.keep b o (fun hx => hb (h b hx)) e⟩
theorem Grow.kb {X : Addr → Prop} {s s' : Shared} (a : Grow s s') : KeepBut X s s' := ⟨a.os, a.gens, fun b o _ e => a.keep b o e⟩
set_option tactic.hygienic false in
theorem KeepBut.grow {X : Addr → Prop} {s₁ s s' : Shared} (k : KeepBut X s s') (g : Grow s₁ s) (hX : ∀ b, X b → s₁.heap.get? b = none) : Grow s₁ s' :=
  ⟨k.os.trans g.os, k.gens.trans g.gens, fun b o e => k.keep b o (fun hb => by rw [hX b hb] at e; cases e) (g.keep b o e)⟩
theorem KeepBut.of {X : Addr → Prop} {s : Shared} {h' : Heap} {t : Nat} (hk : ∀ b o, ¬ X b → s.heap.get? b = some o → h'.get? b = some o) : KeepBut X s { s with heap := h', toks := t } := ⟨rfl, rfl, hk⟩
theorem Rep.kb {N X : Addr → Prop} {s s' : Shared} {v : Value} {d : D} (k : KeepBut X s s') (hX : ∀ b, X b → N b) (r : Rep N s.heap v d) : Rep N s'.heap v d :=
  r.mono fun a o hn e => ⟨k.keep a o (fun hx => hn (hX a hx)) e, hn⟩
theorem RepAll.kb {N X : Addr → Prop} {s s' : Shared} {v : List Value} {d : List D} (k : KeepBut X s s') (hX : ∀ b, X b → N b) (r : RepAll N s.heap v d) : RepAll N s'.heap v d :=
  r.mono fun a o hn e => ⟨k.keep a o (fun hx => hn (hX a hx)) e, hn⟩

/-! mapO -/
set_option tactic.hygienic false in
theorem mapO_split {f : D → Option (List D)} : ∀ {a b : List D} {z : List D}, mapO f (a ++ b) = some z → ∃ x y, mapO f a = some x ∧ mapO f b = some y ∧ z = x ++ y
  | [], b, z, h => ⟨[], z, rfl, h, rfl⟩
  | d :: a, b, z, h => by
    simp only [List.cons_append, mapO, Option.bind_eq_bind, Option.bind_eq_some_iff] at h
    obtain ⟨p, hp, q, hq, h⟩ := h
    cases h
    obtain ⟨x, y, hx, hy, rfl⟩ := mapO_split hq
    exact ⟨p ++ x, y, by simp [mapO, hp, hx], hy, by simp⟩
set_option tactic.hygienic false in
theorem mapO_at {f : D → Option (List D)} {ds out : List D} (h : mapO f ds = some out) {i : Nat} {d : D} (hi : ds[i]? = some d) :
    ∃ x y z, mapO f (ds.take i) = some x ∧ f d = some y ∧ mapO f (ds.take (i + 1)) = some (x ++ y) ∧ out = x ++ y ++ z := by
  have hlt : i < ds.length := (List.getElem?_eq_some_iff.mp hi).1
  have e1 : ds = ds.take (i + 1) ++ ds.drop (i + 1) := (List.take_append_drop _ _).symm
  have e2 : ds.take (i + 1) = ds.take i ++ [d] := by rw [List.take_add_one, hi]; rfl
  rw [e1] at h
  obtain ⟨x, y, hx, hy, rfl⟩ := mapO_split h
  have hx' := hx
  rw [e2] at hx'
  obtain ⟨p, q, hp, hq, rfl⟩ := mapO_split hx'
  simp only [mapO, Option.bind_eq_bind, Option.bind_eq_some_iff] at hq
  obtain ⟨r, hr, t, ht, hq⟩ := hq
  cases ht
  have : r ++ [] = q := Option.some.inj hq
  rw [List.append_nil] at this
  subst this
  exact ⟨p, r, y, hp, hr, hx, rfl⟩

/-! scopes -/
noncomputable def scopeOk (τ : Tx) (scope : Scope) (vars : List Str) : Bool :=
  (match scope.kind with | .function => true | _ => false) &&
  scope.names.all (fun p => p.2 != .cell && (p.2 != .local || scope.names.lookup p.1 == some .local) && (p.2 != .free || τ.kind p.1 == some .cell)) &&
  vars.all (fun x => scope.names.lookup x == some .local) && !τ.comp
noncomputable def Tx.compTx (τ : Tx) (scope : Scope) (vars : List Str) : Tx :=
  { τ with names := scope.names.map (fun p => if p.2 == .free && τ.kind p.1 == some .cell then (p.1, .cell) else p), ct := vars, comp := true }

structure ScopeOk (τ : Tx) (scope : Scope) (vars : List Str) : Prop where
  kind : scope.kind = .function
  nocell : ∀ p ∈ scope.names, p.2 ≠ .cell
  loc : ∀ p ∈ scope.names, p.2 = .local → scope.names.lookup p.1 = some .local
  free : ∀ p ∈ scope.names, p.2 = .free → τ.kind p.1 = some .cell
  vars : ∀ x ∈ vars, scope.names.lookup x = some .local
  comp : τ.comp = false
theorem ScopeOk.of {scope : Scope} {vars : List Str} (h : scopeOk τ scope vars = true) : ScopeOk τ scope vars := by
  unfold scopeOk at h
  simp only [Bool.and_eq_true, List.all_eq_true, Bool.or_eq_true, bne_iff_ne, beq_iff_eq, Bool.not_eq_true'] at h
  obtain ⟨⟨⟨h1, h2⟩, h3⟩, h4⟩ := h
  refine ⟨?_, fun p hp => (h2 p hp).1.1, fun p hp hl => ?_, fun p hp hl => ?_, h3, h4⟩
  · split at h1
    · assumption
    · cases h1
  · rcases (h2 p hp).1.2 with h | h
    · exact absurd hl h
    · exact h
  · rcases (h2 p hp).2 with h | h
    · exact absurd hl h
    · exact h

theorem lookup_mem {α : Type} {x : Str} {k : α} : ∀ {l : List (Str × α)}, l.lookup x = some k → (x, k) ∈ l
  | [], h => by cases h
  | (n, j) :: r, h => by
    rw [List.lookup_cons] at h
    split at h
    · rename_i e; cases h; rw [eq_of_beq e]; exact List.mem_cons_self
    · exact List.mem_cons_of_mem _ (lookup_mem h)
set_option tactic.hygienic false in
theorem relabel_cell {nm : Str} : ∀ {names : List (Str × NameKind)}, (∀ p ∈ names, p.2 ≠ .cell) →
    (names.map (fun p => if p.2 == .free && τ.kind p.1 == some .cell then (p.1, NameKind.cell) else p)).lookup nm = some .cell → names.lookup nm = some .free ∧ τ.kind nm = some .cell
  | [], _, h => by cases h
  | (n, k) :: r, hc, h => by
    have ih := relabel_cell (nm := nm) (names := r) (fun p hp => hc p (List.mem_cons_of_mem _ hp))
    simp only [List.map_cons] at h
    by_cases hk : (k == NameKind.free && τ.kind n == some .cell) = true
    · rw [if_pos hk] at h
      rw [List.lookup_cons] at h ⊢
      cases he : nm == n
      · rw [he] at h; exact ih h
      · simp only [Bool.and_eq_true, beq_iff_eq] at hk
        rw [eq_of_beq he]; exact ⟨by rw [hk.1], hk.2⟩
    · rw [if_neg hk] at h
      rw [List.lookup_cons] at h ⊢
      cases he : nm == n
      · rw [he] at h; exact ih h
      · rw [he] at h
        simp only [Option.some.injEq] at h
        exact absurd h (hc (n, k) List.mem_cons_self)

/-! the cells that a comprehension takes along -/
noncomputable def clGo (env : Env) : List (Str × NameKind) → List (Str × Addr) → List (Str × Addr)
  | [], cs => cs
  | (n, k) :: r, cs => clGo env r (if k == .free then (n, (env.cells.lookup n).getD 0) :: cs else cs)
set_option tactic.hygienic false in
theorem closure_eq {env : Env} {scope : Scope} (h : ∀ p ∈ scope.names, p.2 = .free → ∃ a, env.cells.lookup p.1 = some a) : closureFor scope env = pure (clGo env scope.names []) := by
  unfold closureFor
  have key : ∀ (l : List (Str × NameKind)) (cs : List (Str × Addr)), (∀ p ∈ l, p.2 = .free → ∃ a, env.cells.lookup p.1 = some a) →
      (forIn l cs fun (x : Str × NameKind) (r : List (Str × Addr)) => match x with
        | (name, kind) => if (kind == NameKind.free) = true then do let a ← cellOf env name; pure (ForInStep.yield ((name, a) :: r)) else pure (ForInStep.yield r)) = (pure (clGo env l cs) : Sem (List (Str × Addr))) := by
    intro l
    induction l with
    | nil => intro cs _; rfl
    | cons p r ih =>
      obtain ⟨n, k⟩ := p
      intro cs hl
      rw [List.forIn_cons]
      by_cases hk : (k == NameKind.free) = true
      · obtain ⟨a, ha⟩ := hl (n, k) List.mem_cons_self (by simpa using hk)
        have hc : cellOf env n = pure a := by unfold cellOf; rw [ha]
        simp only [hk, if_true, hc, pure_bind]
        rw [ih _ fun p hp => hl p (List.mem_cons_of_mem _ hp)]
        simp [clGo, hk, ha]
      · simp only [hk, pure_bind]
        rw [clGo]
        simp only [hk]
        exact ih _ fun p hp => hl p (List.mem_cons_of_mem _ hp)
  exact (congrArg (fun t => t >>= pure) (key scope.names [] h)).trans (by simp)
set_option tactic.hygienic false in
theorem clGo_lookup {env : Env} {nm : Str} : ∀ {l : List (Str × NameKind)} {cs : List (Str × Addr)}, ((nm, NameKind.free) ∈ l ∨ cs.lookup nm = some ((env.cells.lookup nm).getD 0)) → (clGo env l cs).lookup nm = some ((env.cells.lookup nm).getD 0)
  | [], cs, h => by
    rcases h with h | h
    · cases h
    · exact h
  | (n, k) :: r, cs, h => by
    rw [clGo]
    refine clGo_lookup ?_
    rcases h with h | h
    · rcases List.mem_cons.mp h with h | h
      · cases h
        right; simp
      · exact .inl h
    · right
      split
      · rw [List.lookup_cons]
        cases he : nm == n
        · exact h
        · rw [eq_of_beq he]
      · exact h

set_option tactic.hygienic false in
theorem InvE.comp {env : Env} {N N' : Addr → Prop} {s₁ s' : Shared} {ρ : List Slot} {κ κ' : List D} {scope : Scope} {C : Addr} {vars : List Str} {m : Str → Option Value} (I : InvE c.h₀ τ env N s₁.heap ρ κ) (g : Grow s₁ s')
    (hN' : ∀ a, N' a → N a ∨ s₁.heap.get? a = none) (al : Alive N' s'.heap) (sc : ScopeOk τ scope vars) (ns : s'.heap.Ns C m)
    (hv : ∀ (i : Nat) (nm : Str) (d : D), vars[i]? = some nm → κ'[i]? = some d → ∃ v, m nm = some v ∧ Rep N' s'.heap v d) :
    InvE c.h₀ (τ.compTx scope vars) (compEnvC scope (clGo env scope.names []) C env) N' s'.heap ρ κ' := by
  have hnames : (relabel scope env).names = (τ.compTx scope vars).names := by
    show scope.names.map _ = scope.names.map _
    congr 1
    funext p
    obtain ⟨n, k⟩ := p
    simp [I.kind, I.kindOf]
  have hrep : ∀ {v d}, Rep N s₁.heap v d → Rep N' s'.heap v d := fun r => r.mono fun a o hn e => ⟨g.keep a o e, fun h => by
    rcases hN' a h with h | h
    · exact hn h
    · rw [h] at e; cases e⟩
  have hcell : ∀ nm, (τ.compTx scope vars).kind nm = some .cell → τ.kind nm = some .cell ∧ ∃ a, env.cells.lookup nm = some a ∧ (clGo env scope.names []).lookup nm = some a := fun nm h => by
    obtain ⟨h1, h2⟩ := relabel_cell sc.nocell h
    obtain ⟨a, ha⟩ := I.cells nm h2
    exact ⟨h2, a, ha, by rw [clGo_lookup (.inl (lookup_mem h1)), ha]; rfl⟩
  refine ⟨fun b o e => g.keep b o (I.keep b o e), al, sc.kind, hnames, I.glob, I.blt, fun nm h => ?_, fun x nm sl h1 h2 h3 => ?_, fun x nm d h1 h2 h3 => ?_⟩
  · obtain ⟨_, a, _, h⟩ := hcell nm h
    exact ⟨a, h⟩
  · have h3' : (τ.compTx scope vars).kind nm = some .cell := by simpa [Tx.varOk, Tx.compTx] using h3
    obtain ⟨hk, a, ha, hcl⟩ := hcell nm h3'
    have hvar : ∀ {v}, VarAt env s₁.heap nm v → VarAt (compEnvC scope (clGo env scope.names []) C env) s'.heap nm v := fun {v} x => by
      rcases x with ⟨h, _⟩ | ⟨h, k, hk', hc⟩
      · rw [I.kindOf, hk] at h; cases h
      · rw [ha] at hk'; cases hk'
        refine .inr ⟨?_, a, hcl, hc.keeps g.keep⟩
        show (relabel scope env).names.lookup nm = _
        rw [hnames]; exact h3'
    have := I.slots x nm sl h1 h2 (by simp [Tx.varOk, sc.comp, hk])
    cases sl with
    | unset => trivial
    | val d => obtain ⟨v, p, q⟩ := this; exact ⟨v, hvar p, hrep q⟩
    | own xs =>
      obtain ⟨l, vs, p, ⟨n, hl⟩, q1, q2⟩ := this
      exact ⟨l, vs, hvar p, ⟨n, g.keep _ _ hl⟩, q1, q2.1, fun i v d e1 e2 => hrep (q2.2 i v d e1 e2)⟩
  · obtain ⟨v, hm, r⟩ := hv x nm d h1 h2
    refine ⟨v, .inl ⟨?_, m, ns, hm⟩, r⟩
    show (relabel scope env).names.lookup nm = _
    rw [hnames]; exact h3
end Mine
end
/-! S6 -/
section
open PySem PySem.W PyProof.Rows
set_option linter.unusedSimpArgs false
set_option linter.unusedVariables false
namespace Mine
variable {c : Cx} {τ : Tx}

section
variable {prog : Program} {w : World} {A : Around}

theorem anyE {α : Type} {M : Model} {A : Around} {m : Sem α} {Q : α → Shared → Prop} {E : Value → Shared → Prop} {s : Shared} (h : wpAny M A m Q NoE s) : wpAny M A m Q E s := wpAny_mono h (fun _ _ q => q) fun _ _ f => f.elim

set_option tactic.hygienic false in
/-- the loop of a comprehension: what stands behind the next item is `rest` -/
theorem comp_loop {elt : Expr} {gens : List Comprehension} {scope : Scope} {pos p : Pos} {depth : Nat} {cenv : Env} {I Z C : Addr} {N : Addr → Prop} {fp : List Addr} {P : Nat → Value → Prop} {St : Nat → Heap → Prop}
    {ds out out0 : List D} {turn : D → Option (List D)} {s : Shared} {R : Result → Shared → Prop} {rest : Value → Sem Fin} {vs0 : List Value} {m : Str → Option Value} (Mp : (Str → Option Value) → Prop)
    (heq : compTurn (.ListComp elt gens scope pos) depth (.ref I) (.ref Z) cenv = (standAt p >>= fun _ => pyNext (.ref I) >>= fun r => match r with | none => pure (.done .next) | some v => rest v))
    (W : Walks prog w A I fp [I] ds.length P St) (hcls : ∀ i h, St i h → IterCls h I) (hDf : Z ∉ fp) (hCf : C ∉ fp) (hDI : Z ≠ I) (hCI : C ≠ I) (hDC : Z ≠ C) (hN : N Z ∧ N C ∧ N I)
    (items : Items N s.heap P ds) (ht : mapO turn ds = some out) (st : St 0 s.heap) (ns : s.heap.Ns C m) (hmp : Mp m) (acc : s.heap.PlainList Z vs0.toArray) (r0 : RepAll N s.heap vs0 out0) (hlen : out0.length + out.length ≤ LIM)
    (hrest : ∀ (d : D) (x xs : List D) (v : Value) (s₂ : Shared) (vs : List Value) (m : Str → Option Value) (Q : Fin → Shared → Prop) (E : Value → Shared → Prop), turn d = some x → Rep N s₂.heap v d → KeepBut (fun b => b = C ∨ b = Z ∨ b = I) s s₂ → IterCls s₂.heap I →
      s₂.heap.Ns C m → Mp m → s₂.heap.PlainList Z vs.toArray → RepAll N s₂.heap vs xs → xs.length + x.length ≤ LIM →
      (∀ s₃ us m', KeepBut (fun b => b = C ∨ b = Z) s₂ s₃ → s₃.heap.Ns C m' → Mp m' → s₃.heap.PlainList Z (vs ++ us).toArray → RepAll N s₃.heap us x → Q (.again (.compLoop (.ListComp elt gens scope pos) depth (.ref I) (.ref Z) cenv)) s₃) →
      wpAny (model prog w) A (rest v) Q E s₂)
    (hR : ∀ s' m' vs, KeepBut (fun b => b = C ∨ b = Z ∨ b = I) s s' → s'.heap.Ns C m' → Mp m' → s'.heap.PlainList Z (vs0 ++ vs).toArray → RepAll N s'.heap vs out → R (.ok .next) s') :
    codeAny (model prog w) A (.compLoop (.ListComp elt gens scope pos) depth (.ref I) (.ref Z) cenv) R s := by
  let X : Addr → Prop := fun b => b = C ∨ b = Z ∨ b = I
  have hXN : ∀ b, X b → N b := fun b h => by
    rcases h with rfl | rfl | rfl
    · exact hN.2.1
    · exact hN.1
    · exact hN.2.2
  refine codeAny_loop rfl (fun k s' => ∃ (i : Nat) (m' : Str → Option Value) (vs : List Value) (xs : List D), k = ds.length + 1 - i ∧ i ≤ ds.length ∧ KeepBut X s s' ∧ St i s'.heap ∧ s'.heap.Ns C m' ∧ Mp m' ∧ s'.heap.PlainList Z (vs0 ++ vs).toArray ∧
    RepAll N s'.heap vs xs ∧ mapO turn (ds.take i) = some xs) ?_ (ds.length + 1) ⟨0, m, [], [], rfl, Nat.zero_le _, KeepBut.rfl' _, st, ns, hmp, by simpa using acc, .nil, by simp [mapO]⟩
  rintro k s' ⟨i, m', vs, xs, rfl, hi, hk, hst, hns, hmp', hpl, hra, hmap⟩
  show wpAny _ A ((compTurn (.ListComp elt gens scope pos) depth (.ref I) (.ref Z) cenv).onRaise (fun x => do noteFrame x cenv; theTreesLotGoes x)) _ _ s'
  refine wpAny_noted ?_
  rw [heq]
  refine wpAny_bind (wpAny_standAt (wpAny_bind ?_))
  by_cases hlt : i < ds.length
  · obtain ⟨d, hd⟩ : ∃ d, ds[i]? = some d := ⟨ds[i], by simp [hlt]⟩
    obtain ⟨x, y, z, hx, hy, hxy, hout⟩ := mapO_at ht hd
    rw [hmap] at hx; cases hx
    refine W.item i s' _ _ hlt hst fun v h' tk hP hst' hkeep => ?_
    have k1 : KeepBut (fun b => b = I) s' { s' with heap := h', toks := tk } := KeepBut.of fun b o hb e => hkeep b o (by simpa using hb) e
    have k1X : KeepBut X s' { s' with heap := h', toks := tk } := k1.mono fun b h => .inr (.inr h)
    have hD' : ({ s' with heap := h', toks := tk } : Shared).heap.PlainList Z (vs0 ++ vs).toArray := hpl.at fun o e => k1.keep Z o hDI e
    have hC' : ({ s' with heap := h', toks := tk } : Shared).heap.Ns C m' := hns.at' fun o e => k1.keep C o hCI e
    have hrd : Rep N h' v d := (items i v d hP hd).kb (hk.trans k1X) hXN
    have r0' : RepAll N h' (vs0 ++ vs) (out0 ++ xs) := (r0.kb (hk.trans k1X) hXN).append (hra.kb k1X hXN)
    refine hrest d y (out0 ++ xs) v _ (vs0 ++ vs) m' _ _ hy hrd (hk.trans k1X) (hcls _ _ hst') hC' hmp' hD' r0' (by rw [hout] at hlen; simp at hlen ⊢; (first | lia | omega)) fun s₃ us m₃ k3 n3 q3 p3 r3 => ?_
    refine ⟨rfl, ds.length + 1 - (i + 1), by (first | lia | omega), i + 1, m₃, vs ++ us, xs ++ y, rfl, hlt, ?_, ?_, n3, q3, by simpa using p3, ?_, hxy⟩
    · exact (hk.trans k1X).trans (k3.mono fun b h => h.elim .inl fun h => .inr (.inl h))
    · exact W.frame _ _ _ hst' fun b hb o e => k3.keep b o (fun h => h.elim (fun h => hCf (h ▸ hb)) fun h => hDf (h ▸ hb)) e
    · exact ((hra.kb k1X hXN).kb k3 (fun b h => h.elim (fun h => h ▸ hN.2.1) fun h => h ▸ hN.1)).append r3
  · have hin : i = ds.length := by (first | lia | omega)
    subst hin
    refine W.done s' _ _ hst fun h' tk hkeep => ?_
    have k1 : KeepBut (fun b => b = I) s' { s' with heap := h', toks := tk } := KeepBut.of fun b o hb e => hkeep b o (by simpa using hb) e
    have k1X : KeepBut X s' { s' with heap := h', toks := tk } := k1.mono fun b h => .inr (.inr h)
    rw [List.take_length, ht] at hmap
    cases hmap
    exact wpAny_pure (hR _ m' vs (hk.trans k1X) (hns.at' fun o e => k1.keep C o hCI e) hmp' (hpl.at fun o e => k1.keep Z o hDI e) (hra.kb k1X hXN))

/-! the target of a `for` -/
/-! looks into the tree, one step each -/
inductive Vw where
  | name (x : Str) (p : Pos)
  | tup (es : List Expr) (k : Nat) (p : Pos)
  | sub (o i : Expr) (p : Pos)
  | call (f : Expr) (as : List Expr) (kws : List Keyword) (p : Pos)
  | attr (o : Expr) (n : Str) (p : Pos)
  | other
noncomputable def vw : Expr → Vw
  | .Name x p => .name x p
  | .Tuple es k p => .tup es k p
  | .Subscript o i p => .sub o i p
  | .Call f as kws p => .call f as kws p
  | .Attribute o n p => .attr o n p
  | _ => .other
noncomputable def Vw.ok (e : Expr) : Vw → Prop
  | .name x p => e = .Name x p
  | .tup es k p => e = .Tuple es k p
  | .sub o i p => e = .Subscript o i p
  | .call f as kws p => e = .Call f as kws p
  | .attr o n p => e = .Attribute o n p
  | .other => True
set_option tactic.hygienic false in
theorem vw_ok (e : Expr) : (vw e).ok e := by cases e <;> first | rfl | trivial
noncomputable def nmV : Vw → Option (Str × Pos)
  | .name x p => some (x, p)
  | _ => none
noncomputable def tupV : Vw → Option (List Expr)
  | .tup es _ _ => some es
  | _ => none
noncomputable def callV : Vw → Option (Expr × List Expr × List Keyword × Pos)
  | .call f as kws p => some (f, as, kws, p)
  | _ => none
noncomputable def attrV : Vw → Option (Expr × Str × Pos)
  | .attr o n p => some (o, n, p)
  | _ => none
noncomputable def nmP? (e : Expr) : Option (Str × Pos) := nmV (vw e)
noncomputable def tup? (e : Expr) : Option (List Expr) := tupV (vw e)
noncomputable def call? (e : Expr) : Option (Expr × List Expr × List Keyword × Pos) := callV (vw e)
noncomputable def attr? (e : Expr) : Option (Expr × Str × Pos) := attrV (vw e)
set_option tactic.hygienic false in
theorem nmP?_eq {e : Expr} {x : Str} {p : Pos} (h : nmP? e = some (x, p)) : e = .Name x p := by
  have hv := vw_ok e
  unfold nmP? at h
  revert h hv
  cases vw e <;> intro h hv <;> cases h
  exact hv
set_option tactic.hygienic false in
theorem tup?_eq {e : Expr} {es : List Expr} (h : tup? e = some es) : ∃ k p, e = .Tuple es k p := by
  have hv := vw_ok e
  unfold tup? at h
  revert h hv
  cases vw e <;> intro h hv <;> cases h
  exact ⟨_, _, hv⟩
set_option tactic.hygienic false in
theorem call?_eq {e f : Expr} {as : List Expr} {kws : List Keyword} {p : Pos} (h : call? e = some (f, as, kws, p)) : e = .Call f as kws p := by
  have hv := vw_ok e
  unfold call? at h
  revert h hv
  cases vw e <;> intro h hv <;> cases h
  exact hv
set_option tactic.hygienic false in
theorem attr?_eq {e o : Expr} {n : Str} {p : Pos} (h : attr? e = some (o, n, p)) : e = .Attribute o n p := by
  have hv := vw_ok e
  unfold attr? at h
  revert h hv
  cases vw e <;> intro h hv <;> cases h
  exact hv
noncomputable def two? : List Expr → Option (Expr × Expr)
  | [a, b] => some (a, b)
  | _ => none
set_option tactic.hygienic false in
theorem two?_eq {es : List Expr} {a b : Expr} (h : two? es = some (a, b)) : es = [a, b] := by
  match es, h with
  | [a', b'], h => cases h; rfl
noncomputable def one? : List Expr → Option Expr
  | [a] => some a
  | _ => none
set_option tactic.hygienic false in
theorem one?_eq {es : List Expr} {a : Expr} (h : one? es = some a) : es = [a] := by
  match es, h with
  | [a'], h => cases h; rfl
/-- two names as a target -/
noncomputable def nm2? (e : Expr) : Option (Str × Str) := do
  let es ← tup? e
  let ab ← two? es
  let a ← nmP? ab.1
  let b ← nmP? ab.2
  some (a.1, b.1)
set_option tactic.hygienic false in
theorem nm2?_eq {e : Expr} {x y : Str} (h : nm2? e = some (x, y)) : ∃ px py k p, e = .Tuple [.Name x px, .Name y py] k p := by
  simp only [nm2?, Option.bind_eq_bind, Option.bind_eq_some_iff] at h
  obtain ⟨es, h1, ⟨a, b⟩, h2, ⟨x', p1⟩, h3, ⟨y', p2⟩, h4, h5⟩ := h
  cases h5
  obtain ⟨k, p, rfl⟩ := tup?_eq h1
  obtain rfl := two?_eq h2
  obtain rfl := nmP?_eq h3
  obtain rfl := nmP?_eq h4
  exact ⟨_, _, _, _, rfl⟩
noncomputable def tgtOf (e : Expr) : Option (List Str) :=
  match nmP? e with
  | some q => some [q.1]
  | none => match nm2? e with
    | some q => if q.1 == q.2 then none else some [q.1, q.2]
    | none => none
theorem tgtOf_inv {e : Expr} {vars : List Str} (h : tgtOf e = some vars) : (∃ x p, e = .Name x p ∧ vars = [x]) ∨ (∃ x y px py k p, e = .Tuple [.Name x px, .Name y py] k p ∧ x ≠ y ∧ vars = [x, y]) := by
  unfold tgtOf at h
  cases h1 : nmP? e with
  | some q =>
    obtain ⟨x, p⟩ := q
    rw [h1] at h
    cases h
    exact .inl ⟨x, p, nmP?_eq h1, rfl⟩
  | none =>
    simp only [h1] at h
    cases h2 : nm2? e with
    | none => simp only [h2] at h; cases h
    | some q =>
      obtain ⟨x, y⟩ := q
      simp only [h2] at h
      split at h
      · cases h
      · rename_i hxy
        cases h
        obtain ⟨px, py, k, p, e1⟩ := nm2?_eq h2
        exact .inr ⟨x, y, px, py, k, p, e1, by simpa using hxy, rfl⟩

set_option tactic.hygienic false in
theorem wpAny_letOwned {E : Value → Shared → Prop} {tgt : Expr} {I : Addr} {v : Value} {s : Shared} {Q : Unit → Shared → Prop} (hc : IterCls s.heap I) (h : Q () s) : wpAny (model prog w) A (letOwnedTupleGo tgt (.ref I) v) Q E s := by
  obtain ⟨o, n, ho, hcl, hn⟩ := hc
  unfold letOwnedTupleGo
  have key : wpAny (model prog w) A (do
    let (.ref r, .ref a) := ((Value.ref I, v) : Value × Value) | return
    let o ← load r
    match o.cls, o.data with
    | .type n, .fields vs =>
      if ["enumerate", "zip", "dict_itemiterator", "dict_reverseitemiterator", "odict_iterator", "itertools.zip_longest", "itertools.pairwise"].contains n && vs[0]? == some (rawInt a) then
        rule "for.unpacks-the-owned-tuple"
        updateField r 0 .none
    | _, _ => pure ()) Q E s := by
    cases v with
    | ref a =>
      refine wpAny_bind (wpAny_load ho ?_)
      rw [hcl]
      cases o.data with
      | fields vs =>
        simp only [hn, Bool.false_and]
        exact wpAny_pure h
      | _ => exact wpAny_pure h
    | _ => exact wpAny_pure h
  split
  · exact key
  · exact key
  · exact wpAny_pure h

set_option tactic.hygienic false in
/-- the names of a comprehension's target take their values -/
theorem comp_bind {E : Value → Shared → Prop} {tgt : Expr} {vars : List Str} {cenv : Env} {C : Addr} {N : Addr → Prop} {v : Value} {d : D} {κ : List D} {s : Shared} {m : Str → Option Value} {Q : Unit → Shared → Prop} (hh : A.handled = none)
    (htg : tgtOf tgt = some vars) (hC : cenv.locals = C) (hNC : N C) (hk : cenv.scope.kind = .function) (hloc : ∀ x ∈ vars, cenv.kindOf x = some .local) (hb : bind1 vars.length d = some κ) (r : Rep N s.heap v d) (ns : s.heap.Ns C m)
    (hQ : ∀ s' m', KeepBut (fun b => b = C) s s' → s'.heap.Ns C m' → (∀ (i : Nat) (nm : Str) (d : D), vars[i]? = some nm → κ[i]? = some d → ∃ v, m' nm = some v ∧ Rep N s'.heap v d) → (∀ nm, nm ∉ vars → m' nm = m nm) → Q () s') :
    wpAny (model prog w) A (assign tgt cenv v) Q E s := by
  subst hC
  have hp : (cenv.scope.kind == .class || (cenv.scope.kind == .module && cenv.locals != cenv.globals)) = false := by rw [hk]; rfl
  rcases tgtOf_inv htg with ⟨x, px, rfl, rfl⟩ | ⟨x, y, px, py, k, p, rfl, hxy, rfl⟩
  · simp only [List.length_singleton, bind1, if_true, Option.some.injEq] at hb
    subst hb
    refine wpAny_assign_Name (wpAny_storeName_local (hloc x (by simp)) ns (fun h' hn hs => ?_) hp)
    have kb : KeepBut (fun b => b = cenv.locals) s { s with heap := h', toks := s.toks + 1 } := KeepBut.of fun b o hb e => hs.extBut b o hb e
    refine hQ _ _ kb hn (fun i nm d' h1 h2 => ?_) fun nm hnm => if_neg (by simpa using hnm)
    cases i with
    | zero =>
      simp at h1 h2; subst h1; subst h2
      exact ⟨v, by simp, r.kb kb (by rintro b rfl; exact hNC)⟩
    | succ i => simp at h1
  · have hb' : ∃ a b, d = .tup [a, b] ∧ κ = [a, b] := by
      simp only [List.length_cons, List.length_nil, bind1] at hb
      split at hb
      · (first | lia | omega)
      · split at hb
        · split at hb
          · cases hb; exact ⟨_, _, rfl, rfl⟩
          · cases hb
        · cases hb
    obtain ⟨da, db, rfl, rfl⟩ := hb'
    obtain ⟨t, vs, rfl, hn, hT, hl, ra⟩ := r.inv_tup
    have hlen : vs.length = 2 := ra.1
    obtain ⟨va, vb, rfl⟩ : ∃ va vb, vs = [va, vb] := by
      match vs, hlen with
      | [a, b], _ => exact ⟨a, b, rfl⟩
    refine assign_Tuple_tuple hh hT.isTup rfl rfl fun h₁ he => ?_
    have k1 : KeepBut (fun b => b = cenv.locals) s { s with heap := h₁ } := KeepBut.of (t := s.toks) fun b o hb e => he b o (fun hbs => by rw [hbs, get_size] at e; cases e) e
    have ns₁ : h₁.Ns cenv.locals m := ns.at' fun o e => he _ o (fun hbs => by rw [hbs, get_size] at e; cases e) e
    show wpAny _ A (do holding [vb] (assign (.Name x px) cenv va); assignInOrder [assign (.Name y py) cenv] [vb]) _ _ _
    refine wpAny_bind (wpAny_holding (wpAny_assign_Name (wpAny_storeName_local (hloc x (by simp)) ns₁ (fun h₂ hn₂ hs₂ => ?_) hp)))
    show wpAny _ A (do holding [] (assign (.Name y py) cenv vb); assignInOrder [] []) _ _ _
    refine wpAny_bind (wpAny_holding (wpAny_assign_Name (wpAny_storeName_local (hloc y (by simp)) hn₂ (fun h₃ hn₃ hs₃ => ?_) hp)))
    refine wpAny_pure ?_
    have kb : KeepBut (fun b => b = cenv.locals) s { s with heap := h₃, toks := s.toks + 1 + 1 } :=
      KeepBut.of fun b o hb e => hs₃.extBut b o hb (hs₂.extBut b o hb (k1.keep b o hb e))
    have hNl : ∀ b, b = cenv.locals → N b := by rintro b rfl; exact hNC
    refine hQ _ _ kb hn₃ (fun i nm d' h1 h2 => ?_) fun nm hnm => (if_neg (fun h => hnm (by simp [h]))).trans (if_neg (fun h => hnm (by simp [h])))
    match i with
    | 0 =>
      simp at h1 h2; subst h1; subst h2
      exact ⟨va, by simp [hxy], (ra.2 0 va da rfl rfl).kb kb hNl⟩
    | 1 =>
      simp at h1 h2; subst h1; subst h2
      exact ⟨vb, by simp, (ra.2 1 vb db rfl rfl).kb kb hNl⟩
    | i + 2 => simp at h1
end
end Mine
end
/-! S7 -/
section
open PySem PySem.W PyProof.Rows
set_option linter.unusedSimpArgs false
set_option linter.unusedVariables false
namespace Mine
variable {c : Cx} {τ : Tx}

noncomputable def notSet : Expr → Bool
  | .Set .. => false
  | _ => true
set_option tactic.hygienic false in
theorem folded_plain {e : Expr} {env : Env} {x : Value} (h : notSet e = true) : foldedSetIterable e env x = pure x := by
  unfold foldedSetIterable
  split
  · cases h
  · rfl

section
variable {prog : Program} {w : World} {A : Around}
set_option tactic.hygienic false in
theorem compStart_code {elt : Expr} {gens : List Comprehension} {scope : Scope} {pos : Pos} {depth : Nat} {it acc : Value} {env : Env} {tgt iter : Expr} {ifs : List Expr} {R : Result → Shared → Prop} {s : Shared} (hg : gens[depth]? = some ⟨tgt, iter, ifs, 0⟩)
    (h0 : codeAny (model prog w) A (.compLoop (.ListComp elt gens scope pos) depth it acc env) R s)
    (h : wpAny (model prog w) A (pyIter it) (fun it' s' => codeAny (model prog w) A (.compLoop (.ListComp elt gens scope pos) depth it' acc env) R s') NoE s) :
    codeAny (model prog w) A (.compStart (.ListComp elt gens scope pos) depth it acc env) R s := by
  refine codeAny_of_tree ?_
  show wpAny _ _ ((compStart (.ListComp elt gens scope pos) depth it acc env).onRaise (fun x => do noteFrame x env; standAt theWindowsPlace)) _ _ s
  refine wpAny_notedAt ?_
  unfold compStart
  have hcl : clausesOf (.ListComp elt gens scope pos) = gens := rfl
  rw [hcl, hg]
  show wpAny _ _ (ask >>= _) _ _ s
  refine wpAny_bind (wpAny_askSetting (wpAny_ite ?_))
  split
  · first
      | exact wpAny_bind (wpAny_pure (wpAny_pure (And.intro rfl h0)))
      | exact wpAny_pure (And.intro rfl h0)
  · first
      | exact wpAny_bind (wpAny_rule (wpAny_bind (wpAny_standAt (wpAny_bind (wpAny_mono h (fun it' s' h' => wpAny_pure (And.intro rfl h')) fun _ _ x => x.elim)))))
      | (refine wpAny_bind (wpAny_rule ?_); show wpAny _ _ (standAt iter.pos >>= _) _ _ s; exact wpAny_bind (wpAny_standAt (wpAny_bind (wpAny_mono h (fun it' s' h' => wpAny_pure (And.intro rfl h')) fun _ _ x => x.elim))))
end

/-- what stands when the loop of a comprehension opens -/
structure CompOpen (c : Cx) (A : Around) (env : Env) (N : Addr → Prop) (s : Shared) (ds : List D) (I Z C : Addr) (fp : List Addr) (P : Nat → Value → Prop) (St : Nat → Heap → Prop) (s₄ : Shared) : Prop where
  W : Walks c.prog c.w A I fp [I] ds.length P St
  cls : ∀ i h, St i h → IterCls h I
  Zf : Z ∉ fp
  Cf : C ∉ fp
  ZI : Z ≠ I
  CI : C ≠ I
  ZC : Z ≠ C
  grow : Grow s s₄
  deadI : s.heap.get? I = none
  deadZ : s.heap.get? Z = none
  deadC : s.heap.get? C = none
  items : Items (fun a => N a ∨ a = C ∨ a = Z ∨ a = I) s₄.heap P ds
  st : St 0 s₄.heap
  ns : ∃ m, s₄.heap.Ns C m
  acc : s₄.heap.PlainList Z #[]

set_option tactic.hygienic false in
theorem comp_setup {elt tgt iter : Expr} {ifs : List Expr} {gs : List Comprehension} {scope : Scope} {pos p' : Pos} {SRC : E} {vars : List Str} {A : Around} {env : Env} {N : Addr → Prop} {s : Shared} {ρ : List Slot} {κ : List D} {d0 : D} {ds : List D}
    {use : Option (Value → Sem Unit)} {Q : Value → Shared → Prop} (sc : ScopeOk τ scope vars) (hit : SndE c τ iter SRC) (hset : notSet iter = true) (hA : AOk c.n A) (Iv : InvE c.h₀ τ env N s.heap ρ κ) (hd : ev c.Φ ρ κ SRC = some d0) (hds : itemsD d0 = some ds)
    (h : ∀ I Z C fp P St s₄, CompOpen c A env N s ds I Z C fp P St s₄ →
      codeAny (model c.prog c.w) A (.compLoop (.ListComp elt (⟨tgt, iter, ifs, 0⟩ :: gs) scope pos) 0 (.ref I) (.ref Z) (compEnvC scope (clGo env scope.names []) C env)) (compPost (model c.prog c.w) A NoE use Q (.ref Z) C) s₄) :
    wpAny (model c.prog c.w) A (comprehension (.ListComp elt (⟨tgt, iter, ifs, 0⟩ :: gs) scope pos) scope env p' (newList []) false (eval iter env) use) Q NoE s := by
  refine wpAny_comprehension_free rfl (fun x => folded_plain hset) (closure_eq fun p hp hf => Iv.cells p.1 (sc.free p hp hf)) sc.kind sc.loc (wpAny_mono (hit.val hA Iv hd) (fun v s₁ o₁ => ?_) fun _ _ e => e)
  refine wpAny_mono (iter_sound (strg := False) o₁.rep (fun f => f.elim) hds) (fun it s₂ i₂ => ?_) fun _ _ e => e
  obtain ⟨g₂, I, fp, P, St, rfl, hI, hW, hst, hcls, hfp, hitems⟩ := i₂
  refine wpAny_newObj_type (wpAny_newFunctionEnv sc.nocell (by intro y hy; simp at hy) (fun h₁ hns₁ hsb₁ => ?_) sc.kind)
  dsimp only at hns₁ hsb₁ ⊢
  have fp₂ : ∀ b ∈ fp, s₂.heap.get? b ≠ none := fun b hb => by
    rcases hfp b hb with rfl | ⟨h, _⟩
    · exact (hcls 0 _ hst).alive
    · intro hno
      cases q : s₁.heap.get? b with
      | none => exact h q
      | some o => rw [g₂.keep b o q] at hno; cases hno
  generalize hH2 : s₂.heap.push { cls := .type "list", dict := none, data := .seq ([] : List Value).toArray } = H2 at hns₁ hsb₁ ⊢
  have hCs : H2.get? H2.objs.size = none := get_size _
  have hZs : s₂.heap.get? s₂.heap.objs.size = none := get_size _
  have up : ∀ b o, s₂.heap.get? b = some o → H2.get? b = some o := fun b o e => by rw [← hH2]; exact Heap.get?_push_of_some _ e
  have hC2 : s₂.heap.get? H2.objs.size = none := by
    cases q : s₂.heap.get? H2.objs.size with
    | none => rfl
    | some o => rw [up _ _ q] at hCs; cases hCs
  have hZ2 : H2.get? s₂.heap.objs.size = some { cls := .type "list", dict := none, data := .seq ([] : List Value).toArray } := by rw [← hH2]; exact Heap.get?_push_size _ rfl
  have hZC : s₂.heap.objs.size ≠ H2.objs.size := fun h => by rw [← h, hZ2] at hCs; cases hCs
  have old : ∀ b o, H2.get? b = some o → h₁.get? b = some o := fun b o e => hsb₁.extBut b o (fun hb => by rw [hb, hCs] at e; cases e) (Heap.get?_push_of_some _ e)
  have s12 : ∀ a, s₂.heap.get? a = none → s.heap.get? a = none := fun a h => get_none_back (o₁.grow.trans g₂) h
  have hgr : Grow s₂ { s₂ with heap := h₁, toks := s₂.toks + ([] : List (Str × Value)).length } := ⟨rfl, rfl, fun b o e => old b o (up b o e)⟩
  have op : CompOpen c A env N s ds I s₂.heap.objs.size H2.objs.size fp P St { s₂ with heap := h₁, toks := s₂.toks + ([] : List (Str × Value)).length } := by
    refine ⟨hW A hA.1, hcls, fun hm => fp₂ _ hm hZs, fun hm => fp₂ _ hm hC2, fun hm => (hcls 0 _ hst).alive (hm ▸ hZs), fun hm => (hcls 0 _ hst).alive (hm ▸ hC2), hZC, (o₁.grow.trans g₂).trans hgr, get_none_back o₁.grow hI, s12 _ hZs, s12 _ hC2, ?_, ?_, ⟨_, hns₁⟩, ⟨0, old _ _ hZ2⟩⟩
    · -- the items were drawn before the iterator stood
      intro i v d hv hdd
      have hr := hitems i v d hv hdd
      refine hr.mono fun a o hn e => ⟨hgr.keep a o (g₂.keep a o e), ?_⟩
      rintro (h | h | h | h)
      · exact hn h
      · rw [h, get_none_back g₂ hC2] at e; cases e
      · rw [h, get_none_back g₂ hZs] at e; cases e
      · rw [h, hI] at e; cases e
    · exact (hW A hA.1).frame _ _ _ hst fun b _ o e => old b o (up b o e)
  have loop := h I s₂.heap.objs.size H2.objs.size fp P St _ op
  exact compStart_code rfl loop ((hW A hA.1).self 0 _ _ _ op.st loop)
end Mine
end
/-! S8 -/
section
open PySem PySem.W PyProof.Rows
set_option linter.unusedSimpArgs false
set_option linter.unusedVariables false
namespace Mine
variable {c : Cx} {τ : Tx}

/-- the tests of a clause: none, or one -/
inductive SndT (c : Cx) (τ : Tx) : List Expr → E → Prop
  | no : SndT c τ [] (.const (.bool true))
  | one {e : Expr} {x : E} : SndE c τ e x → SndT c τ [e] x
set_option tactic.hygienic false in
theorem SndT.val {ifs : List Expr} {x : E} (h : SndT c τ ifs x) {A : Around} {env : Env} {N : Addr → Prop} {s : Shared} {ρ : List Slot} {κ : List D} {d : D} {b : Bool} (hA : AOk c.n A) (I : InvE c.h₀ τ env N s.heap ρ κ) (e : ev c.Φ ρ κ x = some d) (hb : truthD d = some b) :
    wpAny (model c.prog c.w) A (forIn ifs true fun c r => if r = true then do let ok ← isTrue c env (eval c env); pure (ForInStep.yield ok) else pure (ForInStep.yield r)) (fun b' s' => b' = b ∧ Grow s s') NoE s := by
  cases h with
  | no => simp only [evq1, evq2, evq3, evq4, evq5, evq6, evq7, evq8, evq9, evq10, evq11, evq12, evq13, evq14, evq15, evq16, evq17, evq18, evq19, evq20] at e; cases e; cases hb; exact wpAny_tests_nil ⟨rfl, Grow.rfl' _⟩
  | one h => exact wpAny_tests_one (h.tru hA I e hb)

/-- what a comprehension leaves -/
structure CompDone (N : Addr → Prop) (s : Shared) (out : List D) (Z C : Addr) (s' : Shared) : Prop where
  grow : Grow s s'
  deadZ : s.heap.get? Z = none
  deadC : s.heap.get? C = none
  ZC : Z ≠ C
  ns : ∃ m, s'.heap.Ns C m
  rep : ∃ vs, s'.heap.PlainList Z vs.toArray ∧ vs.length ≤ LIM ∧ RepAll (fun a => N a ∨ a = C ∨ a = Z) s'.heap vs out

set_option tactic.hygienic false in
theorem compDone_post {N : Addr → Prop} {s s' : Shared} {out : List D} {Z C : Addr} {A : Around} {env : Env} {ρ : List Slot} {κ : List D} {x : E} (al : Alive N s.heap) (h : CompDone N s out Z C s') :
    compPost (model c.prog c.w) A NoE none (EvOk N ρ x s (.list out)) (.ref Z) C (.ok .next) s' := by
  obtain ⟨m, hm⟩ := h.ns
  obtain ⟨vs, hpl, hl, ra⟩ := h.rep
  refine ⟨m, hm, fun h' hs => ?_⟩
  have kb : KeepBut (fun b => b = C) s' { s' with heap := h' } := KeepBut.of (t := s'.toks) fun b o hb e => hs.extBut b o hb e
  have g : Grow s { s' with heap := h' } := kb.grow h.grow fun b hb => hb ▸ h.deadC
  have hpl' : h'.PlainList Z vs.toArray := hpl.at fun o e => kb.keep Z o h.ZC e
  have hr : Rep N h' (.ref Z) (.list out) := Rep.mk_list (al.not h.deadZ) hpl' hl (ra.mono fun a o hn e => ⟨kb.keep a o (fun hc => hn (.inr (.inl hc))) e, fun hN => hn (.inl hN)⟩)
  exact ⟨g, hr.toT, fun _ => hr, fun _ xs e => ⟨Z, vs.toArray, rfl, h.deadZ, hpl'⟩⟩

set_option tactic.hygienic false in
theorem N3_alive {N : Addr → Prop} {s s₂ : Shared} {I Z C : Addr} {m : Str → Option Value} {vs : Array Value} (al : Alive N s.heap) (g : Grow s s₂) (hC : s₂.heap.Ns C m) (hZ : s₂.heap.PlainList Z vs) (hI : IterCls s₂.heap I) : Alive (fun a => N a ∨ a = C ∨ a = Z ∨ a = I) s₂.heap := by
  rintro a (h | h | h | h)
  · exact (al.grow g) a h
  · subst h; obtain ⟨o, _, _, ho, _⟩ := hC; rw [ho]; simp
  · subst h; obtain ⟨n, ho⟩ := hZ; rw [ho]; simp
  · subst h; exact hI.alive

noncomputable def turn1 (Φ : Funs) (ρ : List Slot) (k : Nat) (test elt : E) (d : D) : Option (List D) := do
  let κ' ← bind1 k d
  if ← truthD (← ev Φ ρ κ' test) then some [← ev Φ ρ κ' elt] else some []
set_option tactic.hygienic false in
theorem turn1_len {Φ : Funs} {ρ : List Slot} {k : Nat} {test elt : E} {d : D} {x : List D} (h : turn1 Φ ρ k test elt d = some x) : x.length ≤ 1 := by
  unfold turn1 at h
  simp only [Option.bind_eq_bind, Option.bind_eq_some_iff] at h
  obtain ⟨_, _, _, _, b, _, h⟩ := h
  split at h
  · simp only [Option.bind_eq_some_iff] at h
    obtain ⟨_, _, h⟩ := h; cases h; simp
  · cases h; simp
set_option tactic.hygienic false in
theorem mapO_len {f : D → Option (List D)} (hf : ∀ d x, f d = some x → x.length ≤ 1) : ∀ {ds out : List D}, mapO f ds = some out → out.length ≤ ds.length
  | [], out, h => by cases h; simp
  | d :: ds, out, h => by
    simp only [mapO, Option.bind_eq_bind, Option.bind_eq_some_iff] at h
    obtain ⟨x, hx, y, hy, h⟩ := h
    cases h
    have := hf _ _ hx
    have := mapO_len hf hy
    simp; (first | lia | omega)

theorem comp_run1 {elt tgt iter : Expr} {ifs : List Expr} {scope : Scope} {pos p' : Pos} {SRC TEST ELT : E} {vars : List Str} {A : Around} {env : Env} {N : Addr → Prop} {s : Shared} {ρ : List Slot} {κ : List D} {d : D}
    {use : Option (Value → Sem Unit)} {Q : Value → Shared → Prop} (htg : tgtOf tgt = some vars) (sc : ScopeOk τ scope vars) (hit : SndE c τ iter SRC) (hset : notSet iter = true) (hif : SndT c (τ.compTx scope vars) ifs TEST) (hel : SndE c (τ.compTx scope vars) elt ELT) (hA : AOk c.n A)
    (Iv : InvE c.h₀ τ env N s.heap ρ κ) (hd : ev c.Φ ρ κ (.comp vars.length SRC TEST ELT) = some d)
    (h : ∀ Z C s' out, d = .list out → CompDone N s out Z C s' → compPost (model c.prog c.w) A NoE use Q (.ref Z) C (.ok .next) s') :
    wpAny (model c.prog c.w) A (comprehension (.ListComp elt [⟨tgt, iter, ifs, 0⟩] scope pos) scope env p' (newList []) false (eval iter env) use) Q NoE s := by
  simp only [evq1, evq2, evq3, evq4, evq5, evq6, evq7, evq8, evq9, evq10, evq11, evq12, evq13, evq14, evq15, evq16, evq17, evq18, evq19, evq20, Option.bind_eq_bind] at hd
  split at hd
  · rename_i hstr
    simp only [Option.bind_eq_some_iff] at hd
    obtain ⟨d0, hd0, ds, hds, out, hmap, hd⟩ := hd
    split at hd
    · rename_i hlen
      cases hd
      refine comp_setup sc hit hset hA Iv hd0 hds fun I Z C fp P St s₄ op => ?_
      obtain ⟨m, hns⟩ := op.ns
      have hmap' : mapO (turn1 c.Φ ρ vars.length TEST ELT) ds = some out := hmap
      have hol : out.length ≤ ds.length := mapO_len (fun d x h => turn1_len h) hmap'
      have hXd : ∀ b, (b = C ∨ b = Z ∨ b = I) → s.heap.get? b = none := by
        rintro b (h | h | h)
        · rw [h]; exact op.deadC
        · rw [h]; exact op.deadZ
        · rw [h]; exact op.deadI
      have hN' : ∀ a, (N a ∨ a = C ∨ a = Z ∨ a = I) → N a ∨ s.heap.get? a = none := fun a h => h.elim .inl fun h => .inr (hXd a h)
      refine comp_loop (rest := fun v => (do
          letOwnedTupleGo tgt (.ref I) v
          assign tgt (compEnvC scope (clGo env scope.names []) C env) v
          let mut ok := true
          for c in ifs do
            if ok then ok ← isTrue c (compEnvC scope (clGo env scope.names []) C env) (eval c (compEnvC scope (clGo env scope.names []) C env))
          if ok then
            (do let _ ← call (.builtin "list.append") [.ref Z, ← eval elt (compEnvC scope (clGo env scope.names []) C env)])
          again (.compLoop (.ListComp elt [⟨tgt, iter, ifs, 0⟩] scope pos) 0 (.ref I) (.ref Z) (compEnvC scope (clGo env scope.names []) C env))))
        (fun _ => True) rfl op.W op.cls op.Zf op.Cf op.ZI op.CI op.ZC (N := fun a => N a ∨ a = C ∨ a = Z ∨ a = I) ⟨.inr (.inr (.inl rfl)), .inr (.inl rfl), .inr (.inr (.inr rfl))⟩ op.items hmap' op.st hns trivial (vs0 := []) op.acc .nil (by simp; (first | lia | omega)) ?_ ?_
      · intro d1 x xs v s₂ vs m₂ Q' E' ht hr hk hcl hn₂ _ hpl ra hxl hQ'
        unfold turn1 at ht
        simp only [Option.bind_eq_bind, Option.bind_eq_some_iff] at ht
        obtain ⟨κ', hκ, td, htd, b, hb, ht⟩ := ht
        refine wpAny_bind (wpAny_letOwned hcl ?_)
        refine wpAny_bind (comp_bind (N := fun a => N a ∨ a = C ∨ a = Z ∨ a = I) hA.1 htg rfl (.inr (.inl rfl)) sc.kind (fun x hx => lookup_relabel_local (sc.vars x hx)) hκ hr hn₂ fun s₃ m₃ k₃ n₃ hv₃ _ => ?_)
        have k₄₃ : KeepBut (fun b => b = C ∨ b = Z ∨ b = I) s₄ s₃ := hk.trans (k₃.mono fun b h => .inl h)
        have g₃ : Grow s s₃ := k₄₃.grow op.grow hXd
        have hpl₃ : s₃.heap.PlainList Z vs.toArray := hpl.at fun o e => k₃.keep Z o op.ZC e
        have hcl₃ : IterCls s₃.heap I := hcl.at fun o e => k₃.keep I o (Ne.symm op.CI) e
        have Ic : InvE c.h₀ (τ.compTx scope vars) (compEnvC scope (clGo env scope.names []) C env) (fun a => N a ∨ a = C ∨ a = Z ∨ a = I) s₃.heap ρ κ' := Iv.comp g₃ hN' (N3_alive Iv.alive g₃ n₃ hpl₃ hcl₃) sc n₃ hv₃
        refine wpAny_bind (anyE (wpAny_mono (hif.val hA Ic htd hb) (fun b' s₅ h₅ => ?_) fun _ _ e => e))
        obtain ⟨rfl, g₅⟩ := h₅
        have k₅ : KeepBut (fun b => b = C ∨ b = Z) s₂ s₅ := (k₃.mono fun b h => .inl h).trans g₅.kb
        cases b'
        · simp at ht; cases ht
          exact wpAny_pure (hQ' s₅ [] m₃ k₅ (n₃.keeps g₅.keep) trivial (by simpa using hpl₃.at fun o e => g₅.keep Z o e) .nil)
        · simp only [if_true, Option.bind_eq_some_iff] at ht
          obtain ⟨y, hy, ht⟩ := ht
          cases ht
          refine wpAny_bind (wpAny_bind (anyE (wpAny_mono (hel.val hA (Ic.grow g₅) hy) (fun u s₆ o₆ => ?_) fun _ _ e => e)))
          have hpl₆ : s₆.heap.PlainList Z vs.toArray := (hpl₃.at fun o e => g₅.keep Z o e).at fun o e => o₆.grow.keep Z o e
          refine wpAny_bind (wpAny_list_append_plain hpl₆ (fun h₇ hpl₇ hs₇ => wpAny_pure (wpAny_pure ?_)) (by rw [← LIM_eq]; have := ra.1; simp at hxl ⊢; (first | lia | omega)))
          have k₇ : KeepBut (fun b => b = C ∨ b = Z) s₆ { s₆ with heap := h₇ } := KeepBut.of (t := s₆.toks) fun b o hb e => hs₇.extBut b o (fun h => hb (.inr h)) e
          refine hQ' _ [u] m₃ ((k₅.trans o₆.grow.kb).trans k₇) (((n₃.keeps g₅.keep).keeps o₆.grow.keep).at' fun o e => hs₇.extBut C o (Ne.symm op.ZC) e) trivial (by simpa using hpl₇) ?_
          exact .cons ((o₆.str hstr).kb k₇ (fun b h => h.elim (fun h => .inr (.inl h)) fun h => .inr (.inr (.inl h)))) .nil
      · intro s' m' vs hk hn _ hpl ra
        refine h Z C s' out rfl ⟨hk.grow op.grow hXd, op.deadZ, op.deadC, op.ZC, ⟨m', hn⟩, vs, by simpa using hpl, ?_, ra.sub fun a h => ?_⟩
        · have := ra.1; (first | lia | omega)
        · rcases h with h | h | h
          · exact .inl h
          · exact .inr (.inl h)
          · exact .inr (.inr (.inl h))
    · cases hd
  · cases hd

set_option tactic.hygienic false in
theorem good_comp {elt tgt iter : Expr} {ifs : List Expr} {scope : Scope} {pos : Pos} {SRC TEST ELT : E} {vars : List Str} (htg : tgtOf tgt = some vars) (sc : ScopeOk τ scope vars) (hit : SndE c τ iter SRC) (hset : notSet iter = true)
    (hif : SndT c (τ.compTx scope vars) ifs TEST) (hel : SndE c (τ.compTx scope vars) elt ELT) : SndE c τ (.ListComp elt [⟨tgt, iter, ifs, 0⟩] scope pos) (.comp vars.length SRC TEST ELT) := by
  refine SndE.ofEv (fun {A env N s ρ κ d} hA I e => ?_) (fun _ => rfl) (fun _ _ h => by cases h)
  rw [eval_ListComp]
  refine comp_run1 (use := none) htg sc hit hset hif hel hA I e fun Z C s' out q hdone => ?_
  subst q
  exact compDone_post (env := env) (κ := κ) I.alive hdone
end Mine
end
/-! S9 -/
section
open PySem PySem.W PyProof.Rows
set_option linter.unusedSimpArgs false
set_option linter.unusedVariables false
namespace Mine
variable {c : Cx} {τ : Tx}

end Mine
end
/-! S10 -/
section
open PySem PySem.W PyProof.Rows
set_option linter.unusedSimpArgs false
set_option linter.unusedVariables false
namespace Mine
variable {c : Cx} {τ : Tx}

/-! ## the translator of expressions -/
noncomputable def trL (f : Expr → Option E) : List Expr → Option E
  | [] => some .nil
  | e :: es => do
    let x ← f e
    let xs ← trL f es
    some (.cons x xs)
noncomputable def trP (f : Expr → Option E) : Option Expr → Option E
  | none => some (.const .none)
  | some e => f e
noncomputable def trT (f : Expr → Option E) : List Expr → Option E
  | [] => some (.const (.bool true))
  | [e] => f e
  | _ => none
noncomputable def trUn (f : Expr → Option E) (op : UnaryOp) (x : Expr) : Option E :=
  match op with
  | .USub => (f x).map .neg
  | .Not => (f x).map .not
  | _ => none
noncomputable def trCmp (f : Expr → Option E) (l : Expr) (ops : List CmpOp) (rs : List Expr) : Option E :=
  match ops, rs with
  | [op], [r] => if behindInMarks op r then none else do some (.cmp (← copOf op) (← f l) (← f r))
  | _, _ => none
noncomputable def trSub (f : Expr → Option E) (v i : Expr) : Option E :=
  match i with
  | .Slice l u none _ => do some (.slice (← f v) (← trP f l) (← trP f u))
  | i => if notSlice i then do some (.idx (← f v) (← f i)) else none
noncomputable def globalName (τ : Tx) (id : Str) : Bool := id != ("__debug__" : Str) && τ.kind id == some .globalImplicit
noncomputable def isName (nm : Str) : Expr → Bool
  | .Name id _ => id == nm
  | _ => false
noncomputable def trMeth (f : Expr → Option E) (τ : Tx) (hasPat : Bool) (o : Expr) (nm : Str) (apos : Pos) (args : List Expr) (pos : Pos) : Option E :=
  if !(apos.endLine == pos.line) then none else
  if isName "_twin_re_1" o then
    match args with
    | [a] => if hasPat && globalName τ "_twin_re_1" && nm == ("split" : Str) then (f a).map .resplit else none
    | _ => none
  else if notSuper o && decide (args.length < 30) then do some (.meth (← mthOf nm) (← f o) (← trL f args)) else none
noncomputable def trFn (f : Expr → Option E) (τ : Tx) (fnames : List Str) (id : Str) (args : List Expr) : Option E :=
  if !globalName τ id then none else
  match fnOf id with
  | some g => (trL f args).map (.fn g)
  | none =>
    if id == ("isinstance" : Str) then
      match args with
      | [a, b] => if isName "bool" b && globalName τ "bool" then (f a).map fun x => .fn .isBool (.cons x .nil) else none
      | _ => none
    else if id == ("" : Str) then none else do some (.ucall (← idx? id fnames) (← trL f args))
noncomputable def trCall (f : Expr → Option E) (τ : Tx) (fnames : List Str) (hasPat : Bool) (fn : Expr) (args : List Expr) (pos : Pos) : Option E :=
  match fn with
  | .Attribute o nm apos => trMeth f τ hasPat o nm apos args pos
  | .Name id _ => trFn f τ fnames id args
  | _ => none
noncomputable def trComp1 (f : Tx → Expr → Option E) (τ : Tx) (elt : Expr) (g : Comprehension) (scope : Scope) : Option E :=
  if g.is_async == 0 then do
    let vars ← tgtOf g.target
    if scopeOk τ scope vars && notSet g.iter then
      some (.comp vars.length (← f τ g.iter) (← trT (f (τ.compTx scope vars)) g.ifs) (← f (τ.compTx scope vars) elt))
    else none
  else none
noncomputable def trComp (f : Tx → Expr → Option E) (τ : Tx) (elt : Expr) (gens : List Comprehension) (scope : Scope) : Option E :=
  match gens with
  | [g] => trComp1 f τ elt g scope
  | _ => none

noncomputable def trE (fnames : List Str) (hasPat : Bool) : Nat → Tx → Expr → Option E
  | 0, _, _ => none
  | n + 1, τ, e =>
    match e with
    | .Constant k _ _ => trConst k
    | .Name id _ => trName τ id
    | .BinOp l op r _ => do some (.bin (← bopOf op) (← trE fnames hasPat n τ l) (← trE fnames hasPat n τ r))
    | .UnaryOp op x _ => trUn (trE fnames hasPat n τ) op x
    | .BoolOp op es _ => (trL (trE fnames hasPat n τ) es).map (.bools (opAnd op))
    | .Compare l ops rs _ => trCmp (trE fnames hasPat n τ) l ops rs
    | .IfExp t a b _ => do some (.ite (← trE fnames hasPat n τ t) (← trE fnames hasPat n τ a) (← trE fnames hasPat n τ b))
    | .List es _ => (trL (trE fnames hasPat n τ) es).map .list
    | .Tuple es _ _ => (trL (trE fnames hasPat n τ) es).map .tup
    | .Subscript v i _ => trSub (trE fnames hasPat n τ) v i
    | .Call fn args kws pos => if kws.isEmpty then trCall (trE fnames hasPat n τ) τ fnames hasPat fn args pos else none
    | .ListComp elt gens scope _ => trComp (trE fnames hasPat n) τ elt gens scope
    | _ => none

section
variable {f : Expr → Option E} (hf : ∀ {e x}, f e = some x → SndE c τ e x)
include hf
set_option tactic.hygienic false in
theorem trL_sound : ∀ {es : List Expr} {xs : E}, trL f es = some xs → SndL c τ es xs
  | [], xs, h => by cases h; exact .nil
  | e :: es, xs, h => by
    simp only [trL, Option.bind_eq_bind, Option.bind_eq_some_iff] at h
    obtain ⟨x, hx, ys, hy, h⟩ := h
    cases h
    exact .cons (hf hx) (trL_sound hy)
set_option tactic.hygienic false in
theorem trP_sound {o : Option Expr} {x : E} (h : trP f o = some x) : SndP c τ o x := by
  cases o with
  | none => cases h; exact .no
  | some e => exact .yes (hf h)
set_option tactic.hygienic false in
theorem trT_sound {es : List Expr} {x : E} (h : trT f es = some x) : SndT c τ es x := by
  unfold trT at h
  split at h
  · cases h; exact .no
  · exact .one (hf h)
  · cases h
end

set_option tactic.hygienic false in
theorem globalName_ok {id : Str} (h : globalName τ id = true) : (id == ("__debug__" : Str)) = false ∧ τ.kind id = some .globalImplicit := by
  simp only [globalName, Bool.and_eq_true, bne_iff_ne, beq_iff_eq] at h
  exact ⟨by simpa using h.1, h.2⟩
theorem isName_eq {nm : Str} {e : Expr} (h : isName nm e = true) : ∃ p, e = .Name nm p := by
  unfold isName at h
  split at h
  · rename_i id p; exact ⟨p, by rw [eq_of_beq h]⟩
  · cases h

/-- a comprehension of one `for`, of two -/
inductive SndK (c : Cx) (τ : Tx) : Expr → List Comprehension → Scope → E → Prop
  | one {elt tgt iter : Expr} {ifs : List Expr} {scope : Scope} {SRC TEST ELT : E} {vars : List Str} (htg : tgtOf tgt = some vars) (sc : ScopeOk τ scope vars) (hit : SndE c τ iter SRC) (hset : notSet iter = true) (hif : SndT c (τ.compTx scope vars) ifs TEST) (hel : SndE c (τ.compTx scope vars) elt ELT) :
    SndK c τ elt [⟨tgt, iter, ifs, 0⟩] scope (.comp vars.length SRC TEST ELT)

theorem trComp1_sound {f : Tx → Expr → Option E} (hf : ∀ {τ e x}, f τ e = some x → SndE c τ e x) {elt : Expr} {g : Comprehension} {scope : Scope} {x : E} (h : trComp1 f τ elt g scope = some x) : SndK c τ elt [g] scope x := by
  obtain ⟨tgt, iter, ifs, ia⟩ := g
  unfold trComp1 at h
  split at h
  · rename_i hia
    have hia : ia = 0 := by simpa using hia
    subst hia
    simp only [Option.bind_eq_bind, Option.bind_eq_some_iff] at h
    obtain ⟨vars, hv, h⟩ := h
    split at h
    · rename_i hc
      simp only [Bool.and_eq_true] at hc
      simp only [Option.bind_eq_some_iff] at h
      obtain ⟨S1, h1, T1, h2, E1, h3, h⟩ := h
      cases h
      exact .one hv (.of hc.1) (hf h1) hc.2 (trT_sound hf h2) (hf h3)
    · cases h
  · cases h
set_option tactic.hygienic false in
theorem trComp_sound {f : Tx → Expr → Option E} (hf : ∀ {τ e x}, f τ e = some x → SndE c τ e x) {elt : Expr} {gens : List Comprehension} {scope : Scope} {x : E} (h : trComp f τ elt gens scope = some x) : SndK c τ elt gens scope x := by
  unfold trComp at h
  split at h
  · exact trComp1_sound hf h
  · cases h

theorem trE_sound (G : GOk c) (F : FnsOk c) : ∀ {n : Nat} {τ : Tx} {e : Expr} {x : E}, trE c.fnames c.hasPat n τ e = some x → SndE c τ e x := by
  intro n
  induction n with
  | zero => intro τ e x h; cases h
  | succ n ih =>
    intro τ e x h
    have hf : ∀ {τ e x}, trE c.fnames c.hasPat n τ e = some x → SndE c τ e x := @ih
    cases e with
    | Constant k j p => exact good_const h
    | Name id p => exact good_name h
    | BinOp l op r p =>
      replace h : (do some (E.bin (← bopOf op) (← trE c.fnames c.hasPat n τ l) (← trE c.fnames c.hasPat n τ r))) = some x := h
      simp only [Option.bind_eq_bind, Option.bind_eq_some_iff] at h
      obtain ⟨b, hb, L, hL, R, hR, h⟩ := h
      cases h; exact good_bin hb (hf hL) (hf hR)
    | UnaryOp op a p =>
      have h : trUn (trE c.fnames c.hasPat n τ) op a = some x := h
      unfold trUn at h
      split at h
      · simp only [Option.map_eq_some_iff] at h; obtain ⟨y, hy, rfl⟩ := h; exact good_neg (hf hy)
      · simp only [Option.map_eq_some_iff] at h; obtain ⟨y, hy, rfl⟩ := h; exact good_not (hf hy)
      · cases h
    | BoolOp op es p =>
      replace h : (trL (trE c.fnames c.hasPat n τ) es).map (E.bools (opAnd op)) = some x := h
      simp only [Option.map_eq_some_iff] at h
      obtain ⟨xs, hx, rfl⟩ := h
      exact good_bools (trL_sound hf hx)
    | Compare l ops rs p =>
      have h : trCmp (trE c.fnames c.hasPat n τ) l ops rs = some x := h
      unfold trCmp at h
      split at h
      · split at h
        · cases h
        · rename_i hm
          simp only [Option.bind_eq_bind, Option.bind_eq_some_iff] at h
          obtain ⟨b, hb, L, hL, R, hR, h⟩ := h
          cases h; exact good_cmp (by simpa using hm) hb (hf hL) (hf hR)
      · cases h
    | IfExp t a b p =>
      replace h : (do some (E.ite (← trE c.fnames c.hasPat n τ t) (← trE c.fnames c.hasPat n τ a) (← trE c.fnames c.hasPat n τ b))) = some x := h
      simp only [Option.bind_eq_bind, Option.bind_eq_some_iff] at h
      obtain ⟨T, hT, L, hL, R, hR, h⟩ := h
      cases h; exact good_ite (hf hT) (hf hL) (hf hR)
    | List es p =>
      replace h : (trL (trE c.fnames c.hasPat n τ) es).map E.list = some x := h
      simp only [Option.map_eq_some_iff] at h
      obtain ⟨xs, hx, rfl⟩ := h
      exact good_list (trL_sound hf hx)
    | Tuple es k p =>
      replace h : (trL (trE c.fnames c.hasPat n τ) es).map E.tup = some x := h
      simp only [Option.map_eq_some_iff] at h
      obtain ⟨xs, hx, rfl⟩ := h
      exact good_tup (trL_sound hf hx)
    | Subscript v i p =>
      have h : trSub (trE c.fnames c.hasPat n τ) v i = some x := h
      unfold trSub at h
      split at h
      · simp only [Option.bind_eq_bind, Option.bind_eq_some_iff] at h
        obtain ⟨V, hV, L, hL, U, hU, h⟩ := h
        cases h; exact good_slice (hf hV) (trP_sound hf hL) (trP_sound hf hU)
      · split at h
        · rename_i hn
          simp only [Option.bind_eq_bind, Option.bind_eq_some_iff] at h
          obtain ⟨V, hV, L, hL, h⟩ := h
          cases h; exact good_idx hn (hf hV) (hf hL)
        · cases h
    | Call fn args kws pos =>
      replace h : (if kws.isEmpty then trCall (trE c.fnames c.hasPat n τ) τ c.fnames c.hasPat fn args pos else none) = some x := h
      split at h
      · rename_i hk
        have hk : kws = [] := by simpa using hk
        subst hk
        unfold trCall at h
        split at h
        · rename_i o nm apos
          unfold trMeth at h
          split at h
          · cases h
          · rename_i hline
            have hline : (apos.endLine == pos.line) = true := by simpa using hline
            split at h
            · rename_i hn
              obtain ⟨p, rfl⟩ := isName_eq hn
              split at h
              · split at h
                · rename_i hc
                  simp only [Bool.and_eq_true, beq_iff_eq] at hc
                  obtain ⟨⟨h1, h2⟩, rfl⟩ := hc
                  simp only [Option.map_eq_some_iff] at h
                  obtain ⟨y, hy, rfl⟩ := h
                  exact good_resplit G h1 (globalName_ok h2).2 hline (hf hy)
                · cases h
              · cases h
            · split at h
              · rename_i hc
                simp only [Bool.and_eq_true, decide_eq_true_eq] at hc
                simp only [Option.bind_eq_bind, Option.bind_eq_some_iff] at h
                obtain ⟨m, hm, O, hO, xs, hx, h⟩ := h
                cases h
                exact good_meth hm hc.1 hline hc.2 (hf hO) (trL_sound hf hx)
              · cases h
        · rename_i id p
          unfold trFn at h
          split at h
          · cases h
          · rename_i hg
            have hg : globalName τ id = true := by simpa using hg
            obtain ⟨hd, hk⟩ := globalName_ok hg
            split at h
            · rename_i g hfn
              simp only [Option.map_eq_some_iff] at h
              obtain ⟨xs, hx, rfl⟩ := h
              exact good_fn G hfn hk (trL_sound hf hx)
            · split at h
              · rename_i hi
                have hi : id = ("isinstance" : Str) := by simpa using hi
                subst hi
                split at h
                · split at h
                  · rename_i hc
                    simp only [Bool.and_eq_true] at hc
                    obtain ⟨p', rfl⟩ := isName_eq hc.1
                    simp only [Option.map_eq_some_iff] at h
                    obtain ⟨y, hy, rfl⟩ := h
                    exact good_isBool G hk (globalName_ok hc.2).2 (hf hy)
                  · cases h
                · cases h
              · split at h
                · cases h
                · rename_i hne
                  simp only [Option.bind_eq_bind, Option.bind_eq_some_iff] at h
                  obtain ⟨i, hi, xs, hx, h⟩ := h
                  cases h
                  exact good_ucall G F hd (by simpa using hne) hi hk (trL_sound hf hx)
        · cases h
      · cases h
    | ListComp elt gens scope p =>
      have h : trComp (trE c.fnames c.hasPat n) τ elt gens scope = some x := h
      cases trComp_sound hf h with
      | one a b d e g j => exact good_comp a b d e g j
    | _ => cases h
end Mine
end
/-! S11 -/
section
open PySem PySem.W PyProof.Rows
set_option linter.unusedSimpArgs false
set_option linter.unusedVariables false
namespace Mine
variable {c : Cx} {τ : Tx}

/-! ## Rep is a function; a list does not hold itself -/
set_option tactic.hygienic false in
theorem PTup.inj {h : Heap} {a : Addr} {xs ys : Array Value} (x : PTup h a xs) (y : PTup h a ys) : xs = ys := by
  obtain ⟨n, hx⟩ := x; obtain ⟨m, hy⟩ := y; rw [hx] at hy; cases hy; rfl

set_option tactic.hygienic false in
theorem Rep.func {N : Addr → Prop} {h : Heap} {v : Value} {d d' : D} (r : Rep N h v d) (r' : Rep N h v d') : d = d' := by
  induction r generalizing d' with
  | none => cases r'; rfl
  | bool b => cases r'; rfl
  | int i t => cases r'; rfl
  | str x t hx =>
    generalize hv : Value.str ⟨x.toArray⟩ t = v at r'
    cases r' with
    | str y u hy => cases hv; rfl
    | _ => cases hv
  | tup a vs ds hn ha hl he hi ih =>
    cases r' with
    | tup _ vs' ds' _ ha' _ he' hi' =>
      have : vs = vs' := by simpa using ha.inj ha'
      subst this
      congr 1
      refine List.ext_getElem (he.symm.trans he') fun i h1 h2 => ?_
      exact ih i vs[i] ds[i] (by simp) (by simp) (hi' i vs[i] ds'[i] (by simp) (by simp))
    | list _ vs' ds' _ ha' _ _ _ => exact (plain_not_tup ha' ha).elim
    | range _ x y z t u w _ hr _ =>
      obtain ⟨n, ha⟩ := ha
      have hr : h.get? a = _ := hr
      rw [ha] at hr
      exact absurd (Value.type.inj (congrArg Obj.cls (Option.some.inj hr))) (by decide)
  | list a vs ds hn ha hl he hi ih =>
    cases r' with
    | list _ vs' ds' _ ha' _ he' hi' =>
      have : vs = vs' := by simpa using plain_inj ha ha'
      subst this
      congr 1
      refine List.ext_getElem (he.symm.trans he') fun i h1 h2 => ?_
      exact ih i vs[i] ds[i] (by simp) (by simp) (hi' i vs[i] ds'[i] (by simp) (by simp))
    | tup _ vs' ds' _ ha' _ _ _ => exact (plain_not_tup ha ha').elim
    | range _ x y z t u w _ hr _ =>
      obtain ⟨n, ha⟩ := ha
      have hr : h.get? a = _ := hr
      rw [ha] at hr
      exact absurd (Value.type.inj (congrArg Obj.cls (Option.some.inj hr))) (by decide)
  | range q x y z t u w hn hr hs =>
    have hr0 : h.get? q = _ := hr
    cases r' with
    | range _ x' y' z' t' u' w' _ hr' _ =>
      have hr' : h.get? q = _ := hr'
      rw [hr0] at hr'
      have := Option.some.inj hr'
      have := congrArg Obj.data this
      simp at this
      obtain ⟨⟨rfl, _⟩, ⟨rfl, _⟩, ⟨rfl, _⟩⟩ := this
      rfl
    | tup _ vs' ds' _ ha' _ _ _ => obtain ⟨n, ha⟩ := ha'; rw [ha] at hr0; exact absurd (Value.type.inj (congrArg Obj.cls (Option.some.inj hr0))) (by decide)
    | list _ vs' ds' _ ha' _ _ _ => obtain ⟨n, ha⟩ := ha'; rw [ha] at hr0; exact absurd (Value.type.inj (congrArg Obj.cls (Option.some.inj hr0))) (by decide)

set_option tactic.hygienic false in
theorem Rep.apart {N : Addr → Prop} {h : Heap} {a : Addr} {xs : List D} (ra : Rep N h (.ref a) (.list xs)) {v : Value} {d : D} (r : Rep N h v d) : sizeOf d < sizeOf (D.list xs) → Rep (fun b => N b ∨ b = a) h v d := by
  induction r with
  | none => intro _; exact .none
  | bool b => intro _; exact .bool b
  | int i t => intro _; exact .int i t
  | str x t hx => intro _; exact .str x t hx
  | tup b vs ds hn hb hl he hi ih =>
    intro hs
    have hne : b ≠ a := fun e => by
      subst e
      have := ra.func (.tup b vs ds hn hb hl he hi)
      cases this
    refine .tup b vs ds (fun h => h.elim hn hne) hb hl he fun i v d e1 e2 => ih i v d e1 e2 ?_
    have := List.sizeOf_lt_of_mem (List.mem_of_getElem? e2)
    simp at hs ⊢; (first | lia | omega)
  | list b vs ds hn hb hl he hi ih =>
    intro hs
    have hne : b ≠ a := fun e => by
      subst e
      have := ra.func (.list b vs ds hn hb hl he hi)
      rw [this] at hs
      exact Nat.lt_irrefl _ hs
    refine .list b vs ds (fun h => h.elim hn hne) hb hl he fun i v d e1 e2 => ih i v d e1 e2 ?_
    have := List.sizeOf_lt_of_mem (List.mem_of_getElem? e2)
    simp at hs ⊢; (first | lia | omega)
  | range q x y z t u w hn hr hs =>
    intro _
    have hne : q ≠ a := fun e => by
      subst e
      have := ra.func (.range q x y z t u w hn hr hs)
      cases this
    exact .range q x y z t u w (fun h => h.elim hn hne) hr hs
set_option tactic.hygienic false in
theorem Rep.elems {N : Addr → Prop} {h : Heap} {a : Addr} {xs : List D} {vs : Array Value} (ra : Rep N h (.ref a) (.list xs)) (hp : h.PlainList a vs) : vs.toList.length ≤ LIM ∧ RepAll (fun b => N b ∨ b = a) h vs.toList xs := by
  obtain ⟨b, us, e, hn, hl, h1, r⟩ := ra.inv_list
  cases e
  have : us.toArray = vs := plain_inj hl hp
  subst this
  refine ⟨by simpa using h1, r.1, fun i v d e1 e2 => ra.apart (r.2 i v d e1 e2) ?_⟩
  have := List.sizeOf_lt_of_mem (List.mem_of_getElem? e2)
  simp; (first | lia | omega)

/-! ## the state of a running function -/
structure EnvOk (τ : Tx) (env : Env) : Prop where
  kind : env.scope.kind = .function
  names : env.scope.names = τ.names
  glob : env.globals = mainGlobals
  blt : env.builtins = builtinsNs
  comp : τ.comp = false
  inj : ∀ n n' a, env.cells.lookup n = some a → env.cells.lookup n' = some a → n = n'
  ft : ∀ (x : Nat) (nm : Str), τ.ft[x]? = some nm → τ.kind nm = some .local ∨ τ.kind nm = some .cell
  nd : ∀ (x y : Nat) (nm : Str), τ.ft[x]? = some nm → τ.ft[y]? = some nm → x = y
set_option tactic.hygienic false in
theorem EnvOk.kindOf {env : Env} (h : EnvOk τ env) (nm : Str) : env.kindOf nm = τ.kind nm := by unfold Env.kindOf Tx.kind; rw [h.names]

noncomputable def SlotV (N M : Addr → Prop) (h : Heap) (V : Str → Option Value) (nm : Str) : Slot → Prop
  | .unset => True
  | .val d => ∃ v, V nm = some v ∧ Rep N h v d
  | .own xs => ∃ a vs, V nm = some (.ref a) ∧ M a ∧ h.PlainList a vs.toArray ∧ vs.length ≤ LIM ∧ RepAll N h vs xs

structure InvS (c : Cx) (τ : Tx) (env : Env) (X M : Addr → Prop) (V : Str → Option Value) (s : Shared) (ρ : List Slot) : Prop where
  keep : ∀ b o, c.h₀.get? b = some o → s.heap.get? b = some o
  alive : Alive (fun a => M a ∨ X a) s.heap
  disj : ∀ a, M a → ¬ X a
  h0 : ∀ a, M a → c.h₀.get? a = none
  ns : ∃ m, s.heap.Ns env.locals m ∧ ∀ nm, τ.kind nm = some .local → m nm = V nm
  cell : ∀ nm, τ.kind nm = some .cell → ∃ a, env.cells.lookup nm = some a ∧ M a ∧ s.heap.IsCell a (V nm)
  mloc : M env.locals
  len : ρ.length = τ.ft.length
  slots : ∀ (x : Nat) (nm : Str) (sl : Slot), τ.ft[x]? = some nm → ρ[x]? = some sl → SlotV (fun a => M a ∨ X a) M s.heap V nm sl
  uniq : ∀ (x y : Nat) (nx ny : Str) (xs ys : List D) (a : Addr), x ≠ y → τ.ft[x]? = some nx → τ.ft[y]? = some ny → ρ[x]? = some (.own xs) → ρ[y]? = some (.own ys) → V nx = some (.ref a) → V ny = some (.ref a) → False

set_option tactic.hygienic false in
theorem InvS.name {env : Env} {X M : Addr → Prop} {V : Str → Option Value} {s : Shared} {ρ : List Slot} (I : InvS c τ env X M V s ρ) {x : Nat} (hx : x < ρ.length) : ∃ nm, τ.ft[x]? = some nm := by
  rw [I.len] at hx; exact ⟨τ.ft[x], by simp [hx]⟩

set_option tactic.hygienic false in
theorem InvS.varAt {env : Env} {X M : Addr → Prop} {V : Str → Option Value} {s : Shared} {ρ : List Slot} (ok : EnvOk τ env) (I : InvS c τ env X M V s ρ) {x : Nat} {nm : Str} {v : Value} (hx : τ.ft[x]? = some nm) (hv : V nm = some v) : VarAt env s.heap nm v := by
  rcases ok.ft x nm hx with h | h
  · obtain ⟨m, hm, hmv⟩ := I.ns
    exact .inl ⟨by rw [ok.kindOf]; exact h, m, hm, by rw [hmv nm h]; exact hv⟩
  · obtain ⟨a, ha, _, hc⟩ := I.cell nm h
    exact .inr ⟨by rw [ok.kindOf]; exact h, a, ha, hv ▸ hc⟩

set_option tactic.hygienic false in
theorem InvS.toE {env : Env} {X M : Addr → Prop} {V : Str → Option Value} {s : Shared} {ρ : List Slot} (ok : EnvOk τ env) (I : InvS c τ env X M V s ρ) : InvE c.h₀ τ env (fun a => M a ∨ X a) s.heap ρ [] := by
  refine ⟨I.keep, I.alive, ok.kind, ok.names, ok.glob, ok.blt, fun nm h => let ⟨a, ha, _⟩ := I.cell nm h; ⟨a, ha⟩, fun x nm sl h1 h2 _ => ?_, fun x nm d _ h2 _ => by simp at h2⟩
  have := I.slots x nm sl h1 h2
  cases sl with
  | unset => trivial
  | val d => obtain ⟨v, hv, r⟩ := this; exact ⟨v, I.varAt ok h1 hv, r⟩
  | own xs => obtain ⟨a, vs, hv, _, hl, h3, r⟩ := this; exact ⟨a, vs, I.varAt ok h1 hv, hl, h3, r⟩

set_option tactic.hygienic false in
theorem SlotV.grow {N M : Addr → Prop} {s s' : Shared} {V : Str → Option Value} {nm : Str} {sl : Slot} (g : Grow s s') (x : SlotV N M s.heap V nm sl) : SlotV N M s'.heap V nm sl := by
  cases sl with
  | unset => trivial
  | val d => obtain ⟨v, a, b⟩ := x; exact ⟨v, a, b.grow g⟩
  | own xs => obtain ⟨a, vs, b, m, ⟨n, c⟩, d, e⟩ := x; exact ⟨a, vs, b, m, ⟨n, g.keep _ _ c⟩, d, e.grow g⟩
theorem InvS.grow {env : Env} {X M : Addr → Prop} {V : Str → Option Value} {s s' : Shared} {ρ : List Slot} (I : InvS c τ env X M V s ρ) (g : Grow s s') : InvS c τ env X M V s' ρ :=
  ⟨fun b o e => g.keep b o (I.keep b o e), I.alive.grow g, I.disj, I.h0, let ⟨m, h1, h2⟩ := I.ns; ⟨m, h1.keeps g.keep, h2⟩, fun nm h => let ⟨a, h1, h2, h3⟩ := I.cell nm h; ⟨a, h1, h2, h3.keeps g.keep⟩, I.mloc, I.len,
   fun x nm sl h1 h2 => (I.slots x nm sl h1 h2).grow g, I.uniq⟩

/-- one stretch of a function's run: it writes on what is its own alone; what it newly owns did not stand before -/
structure Step (M : Addr → Prop) (s : Shared) (M' : Addr → Prop) (s' : Shared) : Prop where
  kb : KeepBut M s s'
  sub : ∀ a, M' a → M a ∨ s.heap.get? a = none
theorem Step.rfl' {M : Addr → Prop} (s : Shared) : Step M s M s := ⟨KeepBut.rfl' s, fun _ h => .inl h⟩
theorem Step.ofGrow {M : Addr → Prop} {s s' : Shared} (g : Grow s s') : Step M s M s' := ⟨g.kb, fun _ h => .inl h⟩
set_option tactic.hygienic false in
theorem Step.back {M M' : Addr → Prop} {s s' : Shared} (h : Step M s M' s') {a : Addr} (hd : s'.heap.get? a = none) : M a ∨ s.heap.get? a = none := by
  by_cases hm : M a
  · exact .inl hm
  · right
    cases q : s.heap.get? a with
    | none => rfl
    | some o => rw [h.kb.keep a o hm q] at hd; cases hd
set_option tactic.hygienic false in
theorem Step.trans {M M' M'' : Addr → Prop} {s s' s'' : Shared} (a : Step M s M' s') (b : Step M' s' M'' s'') : Step M s M'' s'' := by
  refine ⟨⟨b.kb.os.trans a.kb.os, b.kb.gens.trans a.kb.gens, fun x o hx e => b.kb.keep x o (fun hm => ?_) (a.kb.keep x o hx e)⟩, fun x hx => ?_⟩
  · rcases a.sub x hm with h | h
    · exact hx h
    · rw [h] at e; cases e
  · rcases b.sub x hx with h | h
    · exact a.sub x h
    · exact a.back h
theorem Step.less {M M₁ M' : Addr → Prop} {s s' : Shared} (h : ∀ a, M₁ a → M a) (a : Step M₁ s M' s') : Step M s M' s' :=
  ⟨a.kb.mono h, fun x hx => (a.sub x hx).imp (h x) id⟩
set_option tactic.hygienic false in
theorem Step.rep {M M' X : Addr → Prop} {s s' : Shared} {v : Value} {d : D} (st : Step M s M' s') (r : Rep (fun a => M a ∨ X a) s.heap v d) : Rep (fun a => M' a ∨ X a) s'.heap v d :=
  r.mono fun a o hn e => ⟨st.kb.keep a o (fun h => hn (.inl h)) e, fun h => h.elim (fun h => (st.sub a h).elim (fun h => hn (.inl h)) fun h => by rw [h] at e; cases e) fun h => hn (.inr h)⟩

/-! freezing -/
set_option tactic.hygienic false in
theorem ns_not_plain {h : Heap} {a : Addr} {m : Str → Option Value} {xs : Array Value} (x : h.Ns a m) (y : h.PlainList a xs) : False := by
  obtain ⟨o, es, ep, ho, hd, _⟩ := x; obtain ⟨n, hy⟩ := y
  rw [ho] at hy; cases hy; cases hd
set_option tactic.hygienic false in
theorem cell_not_plain {h : Heap} {a : Addr} {v : Option Value} {xs : Array Value} (x : h.IsCell a v) (y : h.PlainList a xs) : False := by
  obtain ⟨o, ho, hd⟩ := x; obtain ⟨n, hy⟩ := y
  rw [ho] at hy; cases hy; cases hd
set_option tactic.hygienic false in
theorem ns_not_cell {h : Heap} {a : Addr} {m : Str → Option Value} {v : Option Value} (x : h.Ns a m) (y : h.IsCell a v) : False := by
  obtain ⟨o, es, ep, ho, hd, _⟩ := x; obtain ⟨o', hy, hd'⟩ := y
  rw [ho] at hy; cases hy; rw [hd] at hd'; cases hd'

theorem InvS.freeze1 {env : Env} {X M : Addr → Prop} {V : Str → Option Value} {s : Shared} {ρ : List Slot} (I : InvS c τ env X M V s ρ) (x : Nat) : ∃ M₁, (∀ a, M₁ a → M a) ∧ InvS c τ env X M₁ V s (freeze1 x ρ) := by
  unfold Mine.freeze1
  split
  · rename_i xs hx
    have hlt : x < ρ.length := (List.getElem?_eq_some_iff.mp hx).1
    obtain ⟨nm, hnm⟩ := I.name hlt
    obtain ⟨l, vs, hv, hM, hl, h1, ra⟩ := I.slots x nm _ hnm hx
    have hsub : ∀ a, (M a ∧ a ≠ l) ∨ X a → M a ∨ X a := fun a h => h.imp And.left id
    refine ⟨fun a => M a ∧ a ≠ l, fun a h => h.1, I.keep, fun a h => I.alive a (hsub a h), fun a h => I.disj a h.1, fun a h => I.h0 a h.1, I.ns, fun nm h => ?_, ⟨I.mloc, fun e => ?_⟩, by simp [I.len], fun y ny sl h2 h3 => ?_, fun y z ny nz ys zs a hyz h2 h3 h4 h5 => ?_⟩
    · obtain ⟨a, p, q, r⟩ := I.cell nm h
      exact ⟨a, p, ⟨q, fun e => cell_not_plain (e ▸ r) hl⟩, r⟩
    · obtain ⟨m, hm, _⟩ := I.ns; exact ns_not_plain (e ▸ hm) hl
    · rw [List.getElem?_set] at h3
      split at h3
      · rename_i exy
        subst exy
        cases h3
        rw [hnm] at h2; cases h2
        exact ⟨.ref l, hv, Rep.mk_list (fun h => h.elim (fun h => h.2 rfl) (I.disj l hM)) hl h1 (ra.sub hsub)⟩
      · rename_i hne
        have := I.slots y ny sl h2 h3
        cases sl with
        | unset => trivial
        | val d => obtain ⟨v, a, b⟩ := this; exact ⟨v, a, b.sub hsub⟩
        | own ys =>
          obtain ⟨a, us, b, m, p, d, e⟩ := this
          exact ⟨a, us, b, ⟨m, fun e => I.uniq x y nm ny xs ys l hne hnm h2 hx h3 hv (e ▸ b)⟩, p, d, e.sub hsub⟩
    · rw [List.getElem?_set] at h4 h5
      split at h4
      · cases h4
      · split at h5
        · cases h5
        · exact I.uniq y z ny nz ys zs a hyz h2 h3 h4 h5
  · exact ⟨M, fun _ h => h, I⟩
set_option tactic.hygienic false in
theorem InvS.freeze {env : Env} {X : Addr → Prop} {V : Str → Option Value} {s : Shared} {ρ : List Slot} : ∀ (xs : List Nat) {M : Addr → Prop}, InvS c τ env X M V s ρ → ∃ M₁, (∀ a, M₁ a → M a) ∧ InvS c τ env X M₁ V s (freeze xs ρ)
  | [], M, I => ⟨M, fun _ h => h, I⟩
  | x :: xs, M, I => by
    obtain ⟨M₁, h1, I₁⟩ := InvS.freeze xs I
    obtain ⟨M₂, h2, I₂⟩ := I₁.freeze1 x
    exact ⟨M₂, fun a h => h1 a (h2 a h), I₂⟩

theorem own_freeze1 {x y : Nat} {ρ : List Slot} (h : (freeze1 y ρ)[x]?.any isOwn = true) : x ≠ y ∧ ρ[x]?.any isOwn = true := by
  unfold freeze1 at h
  split at h
  · rename_i xs hy
    rw [List.getElem?_set] at h
    split at h
    · split at h <;> simp [isOwn] at h
    · rename_i hne; exact ⟨fun e => hne e.symm, h⟩
  · rename_i hy
    refine ⟨fun e => ?_, h⟩
    subst e
    cases q : ρ[x]? with
    | none => rw [q] at h; cases h
    | some sl =>
      rw [q] at h
      cases sl with
      | own xs => exact hy xs q
      | _ => simp [isOwn] at h
set_option tactic.hygienic false in
theorem own_freeze {x : Nat} {ρ : List Slot} : ∀ {xs : List Nat}, (freeze xs ρ)[x]?.any isOwn = true → x ∉ xs ∧ ρ[x]?.any isOwn = true
  | [], h => ⟨by simp, h⟩
  | y :: xs, h => by
    obtain ⟨h1, h2⟩ := own_freeze1 (show (freeze1 y (freeze xs ρ))[x]?.any isOwn = true from h)
    obtain ⟨h3, h4⟩ := own_freeze h2
    exact ⟨by simp [h1, h3], h4⟩
set_option tactic.hygienic false in
theorem strong_freeze (ρ : List Slot) : ∀ (e : E) (L : List Nat), (∀ x ∈ aliased e, x ∈ L) → strong (freeze L ρ) e = true := by
  intro e
  induction e with
  | var x =>
    intro L hL
    show (!((freeze L ρ)[x]?.any isOwn)) = true
    cases q : (freeze L ρ)[x]?.any isOwn with
    | false => rfl
    | true => exact absurd (hL x (List.mem_singleton.mpr rfl)) (own_freeze q).1
  | ite t a b _ iha ihb =>
    intro L hL
    refine Bool.and_eq_true_iff.mpr ?_
    exact ⟨iha L fun x hx => hL x (List.mem_append_left _ hx), ihb L fun x hx => hL x (List.mem_append_right _ hx)⟩
  | bools k es ih => intro L hL; exact ih L fun x hx => hL x hx
  | cons e es ih1 ih2 =>
    intro L hL
    refine Bool.and_eq_true_iff.mpr ?_
    exact ⟨ih1 L fun x hx => hL x (List.mem_append_left _ hx), ih2 L fun x hx => hL x (List.mem_append_right _ hx)⟩
  | _ => intro L hL; rfl
end Mine
end
/-! S12 -/
section
open PySem PySem.W PyProof.Rows
set_option linter.unusedSimpArgs false
set_option linter.unusedVariables false
namespace Mine
variable {c : Cx} {τ : Tx}

/-! ## what a statement leaves -/
noncomputable def FlOk (M : Addr → Prop) (s : Shared) (N : Addr → Prop) (h' : Heap) : Fl → Flow → Prop
  | .next, f => f = .next
  | .brk, f => f = .brk
  | .cont, f => f = .cont
  | .ret d fr, f => ∃ v, f = .ret v ∧ Rep N h' v d ∧ (fr = true → ∀ xs, d = .list xs → ∃ b, v = .ref b ∧ (M b ∨ s.heap.get? b = none))
noncomputable def ExOk (c : Cx) (τ : Tx) (env : Env) (X M : Addr → Prop) (s : Shared) (ρ' : List Slot) (fl : Fl) (f : Flow) (s' : Shared) : Prop :=
  ∃ M' V', Step M s M' s' ∧ InvS c τ env X M' V' s' ρ' ∧ FlOk M s (fun a => M' a ∨ X a) s'.heap fl f
set_option tactic.hygienic false in
theorem ExOk.pre {env : Env} {X M₀ M : Addr → Prop} {s₀ s : Shared} {ρ' : List Slot} {fl : Fl} {f : Flow} {s' : Shared} (st : Step M₀ s₀ M s) (h : ExOk c τ env X M s ρ' fl f s') : ExOk c τ env X M₀ s₀ ρ' fl f s' := by
  obtain ⟨M', V', h1, h2, h3⟩ := h
  refine ⟨M', V', st.trans h1, h2, ?_⟩
  cases fl with
  | ret d fr =>
    obtain ⟨v, rfl, r, fresh⟩ := h3
    refine ⟨v, rfl, r, fun hf xs e => ?_⟩
    obtain ⟨b, hv, hb⟩ := fresh hf xs e
    exact ⟨b, hv, hb.elim (st.sub b) st.back⟩
  | _ => exact h3
theorem ExOk.less {env : Env} {X M₀ M : Addr → Prop} {s : Shared} {ρ' : List Slot} {fl : Fl} {f : Flow} {s' : Shared} (hs : ∀ a, M a → M₀ a) (h : ExOk c τ env X M s ρ' fl f s') : ExOk c τ env X M₀ s ρ' fl f s' :=
  ExOk.pre ⟨KeepBut.rfl' s, fun a h => .inl (hs a h)⟩ h

/-- a statement, a block of them -/
noncomputable def SndS (c : Cx) (τ : Tx) (st : Stmt) (k : C) : Prop :=
  ∀ {A : Around} {env : Env} {X M : Addr → Prop} {V : Str → Option Value} {s : Shared} {ρ ρ' : List Slot} {fl : Fl}, AOk c.n A → EnvOk τ env → InvS c τ env X M V s ρ → ex c.Φ k ρ = some (ρ', fl) → wpAny (model c.prog c.w) A (exec st env) (ExOk c τ env X M s ρ' fl) NoE s
noncomputable def SndB (c : Cx) (τ : Tx) (ss : List Stmt) (k : C) : Prop :=
  ∀ {A : Around} {env : Env} {X M : Addr → Prop} {V : Str → Option Value} {s : Shared} {ρ ρ' : List Slot} {fl : Fl}, AOk c.n A → EnvOk τ env → InvS c τ env X M V s ρ → ex c.Φ k ρ = some (ρ', fl) → wpAny (model c.prog c.w) A (execs ss env) (ExOk c τ env X M s ρ' fl) NoE s

set_option tactic.hygienic false in
theorem sndB_nil : SndB c τ [] .skip := fun hA ok I e => by
  simp only [exq1, exq2, exq3, exq4, exq5, exq6, exq7, exq8, exq9, exq10, exq11, exq12, exq13, exq14, exq15] at e
  cases e
  exact wpAny_execs_nil ⟨_, _, Step.rfl' _, I, rfl⟩
set_option tactic.hygienic false in
theorem sndB_cons {st : Stmt} {rest : List Stmt} {a b : C} (ha : SndS c τ st a) (hb : SndB c τ rest b) : SndB c τ (st :: rest) (.seq a b) := fun {A env X M V s ρ ρ' fl} hA ok I e => by
  simp only [exq1, exq2, exq3, exq4, exq5, exq6, exq7, exq8, exq9, exq10, exq11, exq12, exq13, exq14, exq15, Option.bind_eq_bind, Option.bind_eq_some_iff] at e
  obtain ⟨⟨ρ₁, f₁⟩, h1, e⟩ := e
  refine wpAny_execs_cons (wpAny_mono (ha hA ok I h1) (fun f s₁ h₁ => ?_) fun _ _ e => e)
  obtain ⟨M₁, V₁, st₁, I₁, fo⟩ := h₁
  cases f₁ with
  | next =>
    cases fo
    exact wpAny_mono (hb hA ok I₁ e) (fun f s₂ h₂ => h₂.pre st₁) fun _ _ e => e
  | brk => cases fo; cases e; exact ⟨M₁, V₁, st₁, I₁, rfl⟩
  | cont => cases fo; cases e; exact ⟨M₁, V₁, st₁, I₁, rfl⟩
  | ret d fr => cases e; obtain ⟨v, rfl, r⟩ := fo; exact ⟨M₁, V₁, st₁, I₁, v, rfl, r⟩

/-! ## stores -/
noncomputable def upd (V : Str → Option Value) (nm : Str) (v : Value) : Str → Option Value := fun y => if y = nm then some v else V y

set_option tactic.hygienic false in
theorem SlotV.kb {X M : Addr → Prop} {s s' : Shared} {V V' : Str → Option Value} {nm : Str} {sl : Slot} {a₀ : Addr} (ha : M a₀) (kb : KeepBut (fun b => b = a₀) s s') (hp : ∀ a xs, s.heap.PlainList a xs → a ≠ a₀) (hV : V' nm = V nm)
    (x : SlotV (fun a => M a ∨ X a) M s.heap V nm sl) : SlotV (fun a => M a ∨ X a) M s'.heap V' nm sl := by
  have hN : ∀ b, b = a₀ → M b ∨ X b := fun b h => .inl (h ▸ ha)
  cases sl with
  | unset => trivial
  | val d => obtain ⟨v, a, b⟩ := x; exact ⟨v, hV.trans a, b.kb kb hN⟩
  | own xs => obtain ⟨a, vs, b, m, hl, d, e⟩ := x; exact ⟨a, vs, hV.trans b, m, hl.at fun o h => kb.keep a o (hp a _ hl) h, d, e.kb kb hN⟩

set_option tactic.hygienic false in
theorem store_ok {A : Around} {env : Env} {X M : Addr → Prop} {V : Str → Option Value} {s : Shared} {ρ : List Slot} {x : Nat} {nm : Str} {v : Value} {sl : Slot} {Q : Unit → Shared → Prop} {E : Value → Shared → Prop} (ok : EnvOk τ env) (I : InvS c τ env X M V s ρ) (hx : τ.ft[x]? = some nm)
    (hsl : SlotV (fun a => M a ∨ X a) M s.heap (upd V nm v) nm sl)
    (hu : ∀ xs a, sl = .own xs → v = .ref a → ∀ (y : Nat) (ny : Str) (ys : List D), y ≠ x → τ.ft[y]? = some ny → ρ[y]? = some (.own ys) → V ny ≠ some (.ref a))
    (hQ : ∀ s', KeepBut M s s' → InvS c τ env X M (upd V nm v) s' (ρ.set x sl) → Q () s') : wpAny (model c.prog c.w) A (storeName env nm v) Q E s := by
  have fin : ∀ (a₀ : Addr) (s' : Shared), M a₀ → KeepBut (fun b => b = a₀) s s' → s'.heap.get? a₀ ≠ none → (∀ a xs, s.heap.PlainList a xs → a ≠ a₀) → (∃ m, s'.heap.Ns env.locals m ∧ ∀ n, τ.kind n = some .local → m n = upd V nm v n) →
      (∀ n, τ.kind n = some .cell → ∃ a, env.cells.lookup n = some a ∧ M a ∧ s'.heap.IsCell a (upd V nm v n)) → Q () s' := fun a₀ s' ha kb hal hp hns hcell => by
    have kbM : KeepBut M s s' := kb.mono fun b (h : b = a₀) => by rw [h]; exact ha
    refine hQ s' kbM ⟨fun b o e => kb.keep b o (fun h => ?_) (I.keep b o e), fun a h => ?_, I.disj, I.h0, hns, hcell, I.mloc, by simp [I.len], fun y ny sl' h1 h2 => ?_, fun y z ny nz ys zs a hyz h1 h2 h3 h4 h5 h6 => ?_⟩
    · subst h; rw [I.h0 b ha] at e; cases e
    · by_cases hq : a = a₀
      · rw [hq]; exact hal
      · intro hno
        cases q : s.heap.get? a with
        | none => exact I.alive a h q
        | some o => rw [kb.keep a o hq q] at hno; cases hno
    · rw [List.getElem?_set] at h2
      by_cases hxy : x = y
      · subst hxy
        rw [if_pos rfl] at h2
        split at h2
        · cases h2
          rw [hx] at h1; cases h1
          exact hsl.kb ha kb hp rfl
        · cases h2
      · rw [if_neg hxy] at h2
        exact (I.slots y ny sl' h1 h2).kb ha kb hp (if_neg fun (e : ny = nm) => hxy (ok.nd x y nm hx (by rw [← e]; exact h1)))
    · have hne : ∀ {y ny}, x ≠ y → τ.ft[y]? = some ny → upd V nm v ny = V ny := fun {y ny} hxy h => if_neg fun (e : ny = nm) => hxy (ok.nd x y nm hx (by rw [← e]; exact h))
      rw [List.getElem?_set] at h3 h4
      by_cases hxy : x = y
      · subst hxy
        rw [hx] at h1; cases h1
        have hxz : ¬ x = z := hyz
        rw [if_pos rfl] at h3
        rw [if_neg hxz] at h4
        split at h3
        · cases h3
          rw [hne hxz h2] at h6
          have h5' : v = .ref a := by simpa [upd] using h5
          exact hu ys a rfl h5' z nz zs (Ne.symm hxz) h2 h4 h6
        · cases h3
      · rw [if_neg hxy] at h3
        rw [hne hxy h1] at h5
        by_cases hxz : x = z
        · subst hxz
          rw [hx] at h2; cases h2
          rw [if_pos rfl] at h4
          split at h4
          · cases h4
            have h6' : v = .ref a := by simpa [upd] using h6
            exact hu zs a rfl h6' y ny ys (fun e => hxy e.symm) h1 h3 h5
          · cases h4
        · rw [if_neg hxz] at h4
          rw [hne hxz h2] at h6
          exact I.uniq y z ny nz ys zs a hyz h1 h2 h3 h4 h5 h6
  obtain ⟨m, hm, hmv⟩ := I.ns
  rcases ok.ft x nm hx with hk | hk
  · refine wpAny_storeName_local (by rw [ok.kindOf]; exact hk) hm (fun h' hn' hs => ?_) (by rw [ok.kind]; rfl)
    refine fin env.locals _ I.mloc (KeepBut.of fun b o hb e => hs.extBut b o hb e) (by obtain ⟨o, _, _, ho, _⟩ := hn'; show h'.get? _ ≠ none; rw [ho]; simp) (fun a xs hl e => ns_not_plain (e ▸ hm) hl) ⟨_, hn', fun n hn => ?_⟩ fun n hn => ?_
    · show (if n = nm then some v else m n) = (if n = nm then some v else V n)
      rw [hmv n hn]
    · obtain ⟨a, h1, h2, h3⟩ := I.cell n hn
      have hne : n ≠ nm := fun e => by rw [e, hk] at hn; cases hn
      refine ⟨a, h1, h2, ?_⟩
      rw [show upd V nm v n = V n from if_neg hne]
      exact h3.sameBut hs fun e => ns_not_cell (e ▸ hm) h3
  · obtain ⟨a, h1, h2, h3⟩ := I.cell nm hk
    refine wpAny_storeName_cell ok.kind (by rw [ok.kindOf]; exact hk) h1 h3 fun h' hc' hs => ?_
    refine fin a _ h2 (KeepBut.of (t := s.toks) fun b o hb e => hs.extBut b o hb e) (by obtain ⟨o, ho, _⟩ := hc'; show h'.get? _ ≠ none; rw [ho]; simp) (fun b xs hl e => cell_not_plain (e ▸ h3) hl) ⟨m, hm.sameBut hs fun e => ns_not_cell hm (e ▸ h3), fun n hn => ?_⟩ fun n hn => ?_
    · have hne : n ≠ nm := fun e => by rw [e, hk] at hn; cases hn
      rw [show upd V nm v n = V n from if_neg hne]
      exact hmv n hn
    · by_cases hne : n = nm
      · subst hne
        exact ⟨a, h1, h2, by simpa [upd] using hc'⟩
      · obtain ⟨b, p, q, r⟩ := I.cell n hn
        refine ⟨b, p, q, ?_⟩
        rw [show upd V nm v n = V n from if_neg hne]
        exact r.sameBut hs fun e => hne (ok.inj n nm a (e ▸ p) h1)

set_option tactic.hygienic false in
/-- a new object becomes the function's own -/
theorem InvS.add {env : Env} {X M : Addr → Prop} {V : Str → Option Value} {s s₁ : Shared} {ρ : List Slot} {a : Addr} (I : InvS c τ env X M V s ρ) (g : Grow s s₁) (hd : s.heap.get? a = none) (ha : s₁.heap.get? a ≠ none) : InvS c τ env X (fun b => M b ∨ b = a) V s₁ ρ := by
  have I₁ := I.grow g
  have hr : ∀ {v d}, Rep (fun b => M b ∨ X b) s.heap v d → Rep (fun b => (M b ∨ b = a) ∨ X b) s₁.heap v d := fun r => r.mono fun b o hn e => ⟨g.keep b o e, fun h => by
    rcases h with (h | h) | h
    · exact hn (.inl h)
    · rw [h, hd] at e; cases e
    · exact hn (.inr h)⟩
  refine ⟨I₁.keep, fun b h => ?_, fun b h hX => ?_, fun b h => ?_, I₁.ns, fun n h => let ⟨b, p, q, r⟩ := I₁.cell n h; ⟨b, p, .inl q, r⟩, .inl I.mloc, I.len, fun x nm sl h1 h2 => ?_, I.uniq⟩
  · rcases h with (h | h) | h
    · exact I₁.alive b (.inl h)
    · rw [h]; exact ha
    · exact I₁.alive b (.inr h)
  · rcases h with h | h
    · exact I.disj b h hX
    · rw [h] at hX; exact I.alive a (.inr hX) hd
  · rcases h with h | h
    · exact I.h0 b h
    · rw [h]
      cases q : c.h₀.get? a with
      | none => rfl
      | some o => rw [I.keep a o q] at hd; cases hd
  · have := I.slots x nm sl h1 h2
    cases sl with
    | unset => trivial
    | val d => obtain ⟨v, p, q⟩ := this; exact ⟨v, p, hr q⟩
    | own xs =>
      obtain ⟨l, vs, p, m, ⟨n, hl⟩, q, r⟩ := this
      exact ⟨l, vs, p, .inl m, ⟨n, g.keep _ _ hl⟩, q, r.1, fun i v d e1 e2 => hr (r.2 i v d e1 e2)⟩

set_option tactic.hygienic false in
theorem InvS.own_alive {env : Env} {X M : Addr → Prop} {V : Str → Option Value} {s : Shared} {ρ : List Slot} {a : Addr} (I : InvS c τ env X M V s ρ) {y : Nat} {ny : Str} {ys : List D} (h1 : τ.ft[y]? = some ny) (h2 : ρ[y]? = some (.own ys)) (h3 : V ny = some (.ref a)) : s.heap.get? a ≠ none := by
  obtain ⟨l, vs, p, m, ⟨n, hl⟩, q, r⟩ := I.slots y ny _ h1 h2
  rw [h3] at p; cases p; rw [hl]; simp

set_option tactic.hygienic false in
theorem assign_store {A : Around} {env : Env} {X M : Addr → Prop} {V : Str → Option Value} {s s₁ : Shared} {ρ : List Slot} {x : Nat} {nm : Str} {e : E} {d : D} {v : Value} {E : Value → Shared → Prop} (ok : EnvOk τ env) (I : InvS c τ env X M V s ρ) (hx : τ.ft[x]? = some nm)
    (hstr : strong ρ e = true) (o : EvOk (fun a => M a ∨ X a) ρ e s d v s₁) :
    wpAny (model c.prog c.w) A (storeName env nm v) (fun _ s' => ∃ M' V', Step M s M' s' ∧ KeepBut M' s₁ s' ∧ (∀ a, M' a → M a ∨ v = .ref a) ∧ InvS c τ env X M' V' s' (ρ.set x (slotOf e d))) E s₁ := by
  have plain : slotOf e d = .val d → wpAny (model c.prog c.w) A (storeName env nm v) (fun _ s' => ∃ M' V', Step M s M' s' ∧ KeepBut M' s₁ s' ∧ (∀ a, M' a → M a ∨ v = .ref a) ∧ InvS c τ env X M' V' s' (ρ.set x (slotOf e d))) E s₁ := fun hsl => by
    rw [hsl]
    refine store_ok (sl := .val d) ok (I.grow o.grow) hx ⟨v, by simp [upd], o.str hstr⟩ (fun _ _ h => by cases h) fun s' kb I' => ?_
    exact ⟨M, _, ⟨(o.grow.kb).trans kb, fun a h => .inl h⟩, kb, fun a h => .inl h, I'⟩
  cases d with
  | list xs =>
    cases hn : newE e with
    | false => exact plain (by simp [slotOf, hn])
    | true =>
      obtain ⟨a, vs, rfl, hd, hpl⟩ := o.new hn xs rfl
      obtain ⟨hl, ra⟩ := (o.str hstr).elems hpl
      have hal : s₁.heap.get? a ≠ none := by obtain ⟨n, h⟩ := hpl; rw [h]; simp
      have hsl : slotOf e (.list xs) = .own xs := by simp [slotOf, hn]
      rw [hsl]
      refine store_ok (sl := .own xs) ok (I.add o.grow hd hal) hx ⟨a, vs.toList, by simp [upd], .inr rfl, by simpa using hpl, hl, ra.sub fun b h => ?_⟩ (fun ys b h1 h2 y ny zs h3 h4 h5 h6 => ?_) fun s' kb I' => ?_
      · rcases h with (h | h) | h
        · exact .inl (.inl h)
        · exact .inr h
        · exact .inl (.inr h)
      · cases h2; exact I.own_alive h4 h5 h6 hd
      · refine ⟨_, _, ⟨⟨kb.os.trans o.grow.os, kb.gens.trans o.grow.gens, fun b ob hb e => kb.keep b ob (fun h => h.elim hb fun h => by rw [h, hd] at e; cases e) (o.grow.keep b ob e)⟩, fun b h => h.imp id fun (h : b = a) => by rw [h]; exact hd⟩, kb, fun b h => h.imp id fun (h : b = a) => by rw [h], I'⟩
  | none => exact plain rfl
  | bool b => exact plain rfl
  | int i => exact plain rfl
  | str b => exact plain rfl
  | tup b => exact plain rfl
  | range a b c => exact plain rfl

/-! ## assignments -/
set_option tactic.hygienic false in
theorem assign_core {A : Around} {env : Env} {X M : Addr → Prop} {V : Str → Option Value} {s : Shared} {ρ ρ' : List Slot} {fl : Fl} {x : Nat} {e : E} (I : InvS c τ env X M V s ρ) (h : ex c.Φ (.assign x e) ρ = some (ρ', fl)) :
    ∃ M₁ d, (∀ a, M₁ a → M a) ∧ InvS c τ env X M₁ V s (freeze (aliased e) ρ) ∧ strong (freeze (aliased e) ρ) e = true ∧ ev c.Φ (freeze (aliased e) ρ) [] e = some d ∧ ρ' = (freeze (aliased e) ρ).set x (slotOf e d) ∧ fl = .next := by
  simp only [exq1, exq2, exq3, exq4, exq5, exq6, exq7, exq8, exq9, exq10, exq11, exq12, exq13, exq14, exq15, Option.bind_eq_bind, Option.bind_eq_some_iff] at h
  obtain ⟨d, hd, h⟩ := h
  obtain ⟨M₁, hs, I₁⟩ := I.freeze (aliased e)
  split at h
  · cases h; exact ⟨M₁, d, hs, I₁, strong_freeze ρ e _ (fun _ h => h), hd, rfl, rfl⟩
  · cases h

set_option tactic.hygienic false in
theorem snd_assign {nm : Str} {x : Nat} {px pos : Pos} {value : Expr} {e : E} (hv : SndE c τ value e) (hi : idx? nm τ.ft = some x) (hsw : ∀ env, EnvOk τ env → swapsWith value (some (.Name nm px)) pos.line env = pure false) : SndS c τ (.Assign [.Name nm px] value pos) (.assign x e) :=
  fun {A env X M V s ρ ρ' fl} hA ok I h => by
  obtain ⟨M₁, d, hs, I₁, hst, hd, rfl, rfl⟩ := assign_core (A := A) I h
  refine wpAny_Assign_Name (wpAny_mono (hv.val hA (I₁.toE ok) hd) (fun v s₁ o => ?_) fun _ _ e => e) (hsw env ok)
  refine wpAny_mono (assign_store ok I₁ (idx?_get hi) hst o) (fun _ s' h' => ?_) fun _ _ e => e
  obtain ⟨M', V', st, _, _, I'⟩ := h'
  exact ⟨M', V', st.less hs, I', rfl⟩

set_option tactic.hygienic false in
/-- the comprehension's own names are let go behind the store -/
theorem Rep.offNs {N : Addr → Prop} {h h' : Heap} {C : Addr} {m : Str → Option Value} (hC : h.Ns C m) (hk : ∀ b o, b ≠ C → h.get? b = some o → h'.get? b = some o) {v : Value} {d : D} (r : Rep N h v d) : Rep N h' v d := by
  obtain ⟨oC, es, ep, ho, hd, _⟩ := hC
  induction r with
  | none => exact .none
  | bool b => exact .bool b
  | int i t => exact .int i t
  | str x t hx => exact .str x t hx
  | tup b vs ds hn hb hl he hi ih =>
    obtain ⟨n, hb⟩ := hb
    exact .tup b vs ds hn ⟨n, hk b _ (fun e => by rw [e, ho] at hb; cases hb; cases hd) hb⟩ hl he ih
  | list b vs ds hn hb hl he hi ih =>
    obtain ⟨n, hb⟩ := hb
    exact .list b vs ds hn ⟨n, hk b _ (fun e => by rw [e, ho] at hb; cases hb; cases hd) hb⟩ hl he ih
  | range q x y z t u w hn hr hs =>
    have hr0 : h.get? q = _ := hr
    exact .range q x y z t u w hn (hk q _ (fun e => by rw [e, ho] at hr0; cases hr0; cases hd) hr0) hs
set_option tactic.hygienic false in
theorem InvS.offNs {env : Env} {X M : Addr → Prop} {V : Str → Option Value} {s s' : Shared} {ρ : List Slot} {C : Addr} {m : Str → Option Value} (I : InvS c τ env X M V s ρ) (hC : s.heap.Ns C m) (hCN : ¬ (M C ∨ X C)) (hC0 : c.h₀.get? C = none)
    (kb : KeepBut (fun b => b = C) s s') : InvS c τ env X M V s' ρ := by
  have hk : ∀ b o, b ≠ C → s.heap.get? b = some o → s'.heap.get? b = some o := fun b o h e => kb.keep b o h e
  have hLC : env.locals ≠ C := fun e => hCN (.inl (e ▸ I.mloc))
  refine ⟨fun b o e => hk b o (fun h => by rw [h, hC0] at e; cases e) (I.keep b o e), fun a h => ?_, I.disj, I.h0, ?_, fun n h => ?_, I.mloc, I.len, fun x nm sl h1 h2 => ?_, I.uniq⟩
  · intro hno
    cases q : s.heap.get? a with
    | none => exact I.alive a h q
    | some o => rw [hk a o (fun e => hCN (e ▸ h)) q] at hno; cases hno
  · obtain ⟨m', h1, h2⟩ := I.ns
    exact ⟨m', h1.at' fun o e => hk _ o hLC e, h2⟩
  · obtain ⟨a, p, q, o, ho, hd⟩ := I.cell n h
    exact ⟨a, p, q, o, hk a o (fun e => hCN (.inl (e ▸ q))) ho, hd⟩
  · have := I.slots x nm sl h1 h2
    cases sl with
    | unset => trivial
    | val d => obtain ⟨v, p, q⟩ := this; exact ⟨v, p, q.offNs hC hk⟩
    | own xs =>
      obtain ⟨l, vs, p, m', hl, q, r⟩ := this
      exact ⟨l, vs, p, m', hl.at fun o e => hk l o (fun e' => ns_not_plain (e' ▸ hC) hl) e, q, r.1, fun i v d e1 e2 => (r.2 i v d e1 e2).offNs hC hk⟩

set_option tactic.hygienic false in
/-- the use road: what the comprehension gives is stored before its names are let go -/
theorem use_post {A : Around} {env : Env} {X M M₁ : Addr → Prop} {V : Str → Option Value} {s s' : Shared} {ρ : List Slot} {x : Nat} {nm : Str} {px : Pos} {e : E} {out : List D} {Z C : Addr} (hs : ∀ a, M₁ a → M a) (ok : EnvOk τ env) (I : InvS c τ env X M₁ V s ρ) (hx : τ.ft[x]? = some nm)
    (hst : strong ρ e = true) (h : CompDone (fun a => M₁ a ∨ X a) s out Z C s') :
    compPost (model c.prog c.w) A NoE (some (assign (.Name nm px) env)) (fun _ s'' => ExOk c τ env X M s (ρ.set x (slotOf e (.list out))) .next .next s'') (.ref Z) C (.ok .next) s' := by
  obtain ⟨m, hm⟩ := h.ns
  obtain ⟨vs, hpl, hl, ra⟩ := h.rep
  have hr : Rep (fun a => M₁ a ∨ X a) s'.heap (.ref Z) (.list out) := Rep.mk_list (I.alive.not h.deadZ) hpl hl (ra.sub fun a h => .inl h)
  have o : EvOk (fun a => M₁ a ∨ X a) ρ e s (.list out) (.ref Z) s' := ⟨h.grow, hr.toT, fun _ => hr, fun _ xs _ => ⟨Z, vs.toArray, rfl, h.deadZ, hpl⟩⟩
  show wpAny _ A (assign (.Name nm px) env (.ref Z)) _ _ s'
  refine wpAny_assign_Name (wpAny_mono (assign_store ok I hx hst o) (fun _ s'' h'' => ?_) fun _ _ e => e)
  obtain ⟨M', V', st, kb, hM', I'⟩ := h''
  have hC' : ¬ (M' C ∨ X C) := fun q => by
    rcases q with q | q
    · rcases hM' C q with q | q
      · exact I.alive C (.inl q) h.deadC
      · cases q; exact h.ZC rfl
    · exact I.alive C (.inr q) h.deadC
  have hn'' : s''.heap.Ns C m := hm.at' fun ob e => kb.keep C ob (fun q => hC' (.inl q)) e
  refine ⟨m, hn'', fun h₃ hs₃ => ?_⟩
  have kb₃ : KeepBut (fun b => b = C) s'' { s'' with heap := h₃ } := KeepBut.of (t := s''.toks) fun b ob hb e => hs₃.extBut b ob hb e
  have hC0 : c.h₀.get? C = none := by
    cases q : c.h₀.get? C with
    | none => rfl
    | some ob => have := I.keep C ob q; rw [h.deadC] at this; cases this
  refine ⟨M', V', ⟨⟨st.kb.os, st.kb.gens, fun b ob hb e => kb₃.keep b ob (fun q => by rw [q, h.deadC] at e; cases e) (st.kb.keep b ob (fun q => hb (hs b q)) e)⟩, fun a q => (st.sub a q).imp (hs a) id⟩, I'.offNs hn'' hC' hC0 kb₃, rfl⟩

set_option tactic.hygienic false in
theorem snd_assign_comp {nm : Str} {x : Nat} {px pos pos' : Pos} {elt tgt iter : Expr} {ifs : List Expr} {scope : Scope} {SRC TEST ELT : E} {vars : List Str} (hi : idx? nm τ.ft = some x) (hsw : ∀ env, EnvOk τ env → swapsWith (.ListComp elt [⟨tgt, iter, ifs, 0⟩] scope pos') (some (.Name nm px)) pos.line env = pure true)
    (htg : tgtOf tgt = some vars) (sc : ScopeOk τ scope vars) (hit : SndE c τ iter SRC) (hset : notSet iter = true) (hif : SndT c (τ.compTx scope vars) ifs TEST) (hel : SndE c (τ.compTx scope vars) elt ELT) :
    SndS c τ (.Assign [.Name nm px] (.ListComp elt [⟨tgt, iter, ifs, 0⟩] scope pos') pos) (.assign x (.comp vars.length SRC TEST ELT)) := fun {A env X M V s ρ ρ' fl} hA ok I h => by
  obtain ⟨M₁, d, hs, I₁, hst, hd, rfl, rfl⟩ := assign_core (A := A) I h
  rw [exec_Assign_Name_used _ _ _ _ (hsw env ok)]
  refine wpAny_bind (wpAny_standAt (wpAny_bind ?_))
  show wpAny _ A (do let _ ← comprehension (.ListComp elt [⟨tgt, iter, ifs, 0⟩] scope pos') scope env (firstIterPos [⟨tgt, iter, ifs, 0⟩] pos') (newList []) false (eval iter env) (some (assign (.Name nm px) env))) _ _ s
  refine wpAny_bind (wpAny_mono (comp_run1 (use := some (assign (.Name nm px) env)) (Q := fun _ s' => ExOk c τ env X M s ((freeze (aliased (.comp vars.length SRC TEST ELT)) ρ).set x (slotOf (.comp vars.length SRC TEST ELT) d)) .next .next s') htg sc hit hset hif hel hA (I₁.toE ok) hd fun Z C s' out q hdone => ?_)
    (fun _ s' hq => wpAny_pure (wpAny_pure hq)) fun _ _ e => e)
  subst q
  exact use_post hs ok I₁ (idx?_get hi) hst hdone
end Mine
end
/-! S13 -/
section
open PySem PySem.W PyProof.Rows
set_option linter.unusedSimpArgs false
set_option linter.unusedVariables false
namespace Mine
variable {c : Cx} {τ : Tx}

/-! ## targets -/
set_option tactic.hygienic false in
theorem put1_ok {A : Around} {env : Env} {X M : Addr → Prop} {V : Str → Option Value} {s : Shared} {ρ ρ' : List Slot} {x : Nat} {nm : Str} {p : Pos} {d : D} {v : Value} {E : Value → Shared → Prop} (ok : EnvOk τ env) (I : InvS c τ env X M V s ρ) (hi : idx? nm τ.ft = some x) (hp : put1 x d ρ = some ρ')
    (r : Rep (fun a => M a ∨ X a) s.heap v d) : wpAny (model c.prog c.w) A (assign (.Name nm p) env v) (fun _ s' => ∃ V', KeepBut M s s' ∧ InvS c τ env X M V' s' ρ') E s := by
  unfold put1 at hp
  split at hp
  · cases hp
    exact wpAny_assign_Name (store_ok (sl := .val d) ok I (idx?_get hi) ⟨v, by simp [upd], r⟩ (fun _ _ h => by cases h) fun s' kb I' => ⟨_, kb, I'⟩)
  · cases hp

theorem put2_ok {A : Around} {env : Env} {X M : Addr → Prop} {V : Str → Option Value} {s : Shared} {ρ ρ' : List Slot} {x y k : Nat} {nx ny : Str} {px py p : Pos} {d : D} {v : Value} {E : Value → Shared → Prop} (hh : A.handled = none) (ok : EnvOk τ env) (I : InvS c τ env X M V s ρ) (hix : idx? nx τ.ft = some x) (hiy : idx? ny τ.ft = some y) (hp : put2 x y d ρ = some ρ')
    (r : Rep (fun a => M a ∨ X a) s.heap v d) : wpAny (model c.prog c.w) A (assign (.Tuple [.Name nx px, .Name ny py] k p) env v) (fun _ s' => ∃ V', KeepBut M s s' ∧ InvS c τ env X M V' s' ρ') E s := by
  unfold put2 at hp
  split at hp
  · split at hp
    · rename_i da db hc
      cases hp
      obtain ⟨t, vs, rfl, hn, hT, hl, ra⟩ := r.inv_tup
      have hlen : vs.length = 2 := ra.1
      obtain ⟨va, vb, rfl⟩ : ∃ va vb, vs = [va, vb] := by
        cases vs with
        | nil => cases hlen
        | cons a vs =>
          cases vs with
          | nil => cases hlen
          | cons b vs =>
            cases vs with
            | nil => exact ⟨a, b, rfl⟩
            | cons c vs => exact absurd hlen (by simp)
      refine assign_Tuple_tuple hh hT.isTup rfl rfl fun h₁ he => ?_
      have g₁ : Grow s { s with heap := h₁ } := ⟨rfl, rfl, fun b o e => he b o (fun hbs => by rw [hbs, get_size] at e; cases e) e⟩
      show wpAny _ A (do holding [vb] (assign (.Name nx px) env va); assignInOrder [assign (.Name ny py) env] [vb]) _ _ _
      have ra' : Rep (fun a => M a ∨ X a) ({ s with heap := h₁ } : Shared).heap va da := (ra.2 0 va da rfl rfl).grow g₁
      have rb' : Rep (fun a => M a ∨ X a) ({ s with heap := h₁ } : Shared).heap vb db := (ra.2 1 vb db rfl rfl).grow g₁
      refine wpAny_bind (wpAny_holding (wpAny_assign_Name (store_ok (sl := .val da) ok (I.grow g₁) (idx?_get hix) ⟨va, by simp [upd], ra'⟩ (fun _ _ h => by cases h) fun s₂ kb₂ I₂ => ?_)))
      show wpAny _ A (do holding [] (assign (.Name ny py) env vb); assignInOrder [] []) _ _ _
      refine wpAny_bind (wpAny_holding (wpAny_assign_Name (store_ok (sl := .val db) ok I₂ (idx?_get hiy) ⟨vb, by simp [upd], rb'.kb kb₂ fun b h => .inl h⟩ (fun _ _ h => by cases h) fun s₃ kb₃ I₃ => wpAny_pure ⟨_, (g₁.kb.trans kb₂).trans kb₃, I₃⟩)))
    · cases hp
  · cases hp

/-- a `for`'s target, and how the interpreter sets it -/
inductive Tgt (τ : Tx) : Expr → (D → List Slot → Option (List Slot)) → Prop
  | one {nm : Str} {p : Pos} {x : Nat} : idx? nm τ.ft = some x → Tgt τ (.Name nm p) (put1 x)
  | two {nx ny : Str} {px py p : Pos} {x y k : Nat} : idx? nx τ.ft = some x → idx? ny τ.ft = some y → Tgt τ (.Tuple [.Name nx px, .Name ny py] k p) (put2 x y)
set_option tactic.hygienic false in
theorem Tgt.ok {tgt : Expr} {put : D → List Slot → Option (List Slot)} (t : Tgt τ tgt put) {A : Around} {env : Env} {X M : Addr → Prop} {V : Str → Option Value} {s : Shared} {ρ ρ' : List Slot} {d : D} {v : Value} {E : Value → Shared → Prop} (hh : A.handled = none) (ok : EnvOk τ env) (I : InvS c τ env X M V s ρ)
    (hp : put d ρ = some ρ') (r : Rep (fun a => M a ∨ X a) s.heap v d) : wpAny (model c.prog c.w) A (assign tgt env v) (fun _ s' => ∃ V', KeepBut M s s' ∧ InvS c τ env X M V' s' ρ') E s := by
  cases t with
  | one hi => exact put1_ok ok I hi hp r
  | two hx hy => exact put2_ok hh ok I hx hy hp r

/-! ## an own list is written -/
set_option tactic.hygienic false in
theorem InvS.mut {env : Env} {X M : Addr → Prop} {V : Str → Option Value} {s s' : Shared} {ρ : List Slot} {x : Nat} {nm : Str} {xs xs' : List D} {a : Addr} {vs' : List Value} (I : InvS c τ env X M V s ρ) (hx : τ.ft[x]? = some nm) (hρ : ρ[x]? = some (.own xs)) (hv : V nm = some (.ref a))
    (kb : KeepBut (fun b => b = a) s s') (hp : s'.heap.PlainList a vs'.toArray) (hl : vs'.length ≤ LIM) (ra : RepAll (fun a => M a ∨ X a) s'.heap vs' xs') : InvS c τ env X M V s' (ρ.set x (.own xs')) := by
  obtain ⟨a', vs, hv', hM, hpl, _, _⟩ := I.slots x nm _ hx hρ
  rw [hv] at hv'; cases hv'
  have hN : ∀ b, b = a → M b ∨ X b := fun b h => .inl (h ▸ hM)
  have hlt : x < ρ.length := (List.getElem?_eq_some_iff.mp hρ).1
  obtain ⟨m, hm, hmv⟩ := I.ns
  have hLa : env.locals ≠ a := fun e => ns_not_plain (e ▸ hm) hpl
  refine ⟨fun b o e => kb.keep b o (fun h => ?_) (I.keep b o e), fun b h => ?_, I.disj, I.h0, ⟨m, hm.at' fun o e => kb.keep _ o hLa e, hmv⟩, fun n h => ?_, I.mloc, by simp [I.len], fun y ny sl h1 h2 => ?_, fun y z ny nz ys zs b hyz h1 h2 h3 h4 h5 h6 => ?_⟩
  · subst h; rw [I.h0 b hM] at e; cases e
  · by_cases hq : b = a
    · rw [hq]; obtain ⟨n, h⟩ := hp; rw [h]; simp
    · intro hno
      cases q : s.heap.get? b with
      | none => exact I.alive b h q
      | some o => rw [kb.keep b o hq q] at hno; cases hno
  · obtain ⟨b, p, q, o, ho, hd⟩ := I.cell n h
    exact ⟨b, p, q, o, kb.keep b o (fun e => cell_not_plain ⟨o, ho, hd⟩ (e ▸ hpl)) ho, hd⟩
  · rw [List.getElem?_set] at h2
    by_cases hxy : x = y
    · subst hxy
      rw [if_pos rfl, if_pos hlt] at h2
      cases h2
      rw [hx] at h1; cases h1
      exact ⟨a, vs', hv, hM, hp, hl, ra⟩
    · rw [if_neg hxy] at h2
      have := I.slots y ny sl h1 h2
      cases sl with
      | unset => trivial
      | val d => obtain ⟨v, p, q⟩ := this; exact ⟨v, p, q.kb kb hN⟩
      | own ys =>
        obtain ⟨b, us, p, q, r, t, u⟩ := this
        exact ⟨b, us, p, q, r.at fun o e => kb.keep b o (fun e' => I.uniq x y nm ny xs ys a hxy hx h1 hρ h2 hv (e' ▸ p)) e, t, u.kb kb hN⟩
  · have back : ∀ {y : Nat} {ys : List D}, (ρ.set x (Slot.own xs'))[y]? = some (Slot.own ys) → ∃ ys', ρ[y]? = some (Slot.own ys') := fun {y ys} h => by
      rw [List.getElem?_set] at h
      by_cases hxy : x = y
      · subst hxy; exact ⟨xs, hρ⟩
      · rw [if_neg hxy] at h; exact ⟨ys, h⟩
    obtain ⟨ys', h3'⟩ := back h3
    obtain ⟨zs', h4'⟩ := back h4
    exact I.uniq y z ny nz ys' zs' b hyz h1 h2 h3' h4' h5 h6

section
variable {A : Around} {env : Env} {X M : Addr → Prop} {V : Str → Option Value} {s : Shared} {ρ : List Slot}

theorem eval_own {E : Value → Shared → Prop} {x : Nat} {nm : Str} {p : Pos} {a : Addr} {Q : Value → Shared → Prop} (ok : EnvOk τ env) (I : InvS c τ env X M V s ρ) (hd : (nm == ("__debug__" : Str)) = false) (hx : τ.ft[x]? = some nm) (hv : V nm = some (.ref a)) (h : Q (.ref a) s) :
    wpAny (model c.prog c.w) A (eval (.Name nm p) env) Q E s := wpAny_Name (load_var ok.kind (I.varAt ok hx hv) h) hd
end

theorem snd_append {nm : Str} {x : Nat} {p apos pos spos : Pos} {e : Expr} {z : E} (hd : (nm == ("__debug__" : Str)) = false) (hi : idx? nm τ.ft = some x) (hline : (apos.endLine == pos.line) = true) (he : SndE c τ e z) :
    SndS c τ (.Expr (.Call (.Attribute (.Name nm p) "append" apos) [e] [] pos) spos) (.append x z) := fun {A env X M V s ρ ρ' fl} hA ok I h => by
  simp only [exq1, exq2, exq3, exq4, exq5, exq6, exq7, exq8, exq9, exq10, exq11, exq12, exq13, exq14, exq15, Option.bind_eq_bind, Option.bind_eq_some_iff] at h
  obtain ⟨d, hdv, h⟩ := h
  obtain ⟨M₁, hs, I₁⟩ := I.freeze (aliased z)
  have hst := strong_freeze ρ z (aliased z) fun _ h => h
  generalize freeze (aliased z) ρ = ρ₁ at *
  split at h
  · rename_i xs hρ
    split at h
    · rename_i hlen
      cases h
      have hx := idx?_get hi
      obtain ⟨a, vs, hv, hM, hpl, hl, ra⟩ := I₁.slots x nm _ hx hρ
      have hL : SndL c τ [e] (.cons z .nil) := .cons he .nil
      have hpl' := hpl
      obtain ⟨n, hget⟩ := hpl'
      refine wpAny_Expr (wpAny_Call_method_lateS (base_plain rfl) (few hL env pos (by simp)) hline (eval_own ok I₁ hd hx hv ?_)) (by unfold interactive; rw [ok.kind]; rfl) rfl
      refine ⟨"list", "list.append", F.plainAttrs_list, F.slot_list_append, F.type_list_append, ⟨_, hget, rfl⟩, fun b hb => by cases hb; exact ⟨_, hget, rfl⟩, ?_⟩
      refine Calls.callWith_builtin (hL.noStar env pos).1 ?_
      rw [starEach_cons he.nst]
      refine Calls.evalArgs_plain (Calls.spliced_cons (wpAny_mono (he.val hA (I₁.toE ok) hdv) (fun v s₁ o => Calls.spliced_nil ?_) fun _ _ e => e))
      show wpAny _ A (call (.builtin "list.append") [.ref a, v] []) _ _ s₁
      refine wpAny_list_append_plain (hpl.at fun ob e => o.grow.keep a ob e) (fun h' hpl' hsb => ?_) (by rw [← LIM_eq]; simpa using hl)
      have kb : KeepBut (fun b => b = a) s₁ { s₁ with heap := h' } := KeepBut.of (t := s₁.toks) fun b ob hb e => hsb.extBut b ob hb e
      have hN : ∀ b, b = a → M₁ b ∨ X b := fun b h => .inl (h ▸ hM)
      have I' := (I₁.grow o.grow).mut (vs' := vs ++ [v]) (xs' := xs ++ [d]) hx hρ hv kb (by simpa using hpl') (by have := ra.1; simp; (first | lia | omega)) (((ra.grow o.grow).kb kb hN).append (.cons ((o.str hst).kb kb hN) .nil))
      exact ⟨M₁, V, ⟨(o.grow.kb.trans (kb.mono fun b (h : b = a) => by rw [h]; exact hs a hM)), fun b h => .inl (hs b h)⟩, I', rfl⟩
    · cases h
  · cases h

theorem snd_extend {nm : Str} {x : Nat} {p apos pos spos : Pos} {e : Expr} {z : E} (hd : (nm == ("__debug__" : Str)) = false) (hi : idx? nm τ.ft = some x) (hline : (apos.endLine == pos.line) = true) (he : SndE c τ e z) :
    SndS c τ (.Expr (.Call (.Attribute (.Name nm p) "extend" apos) [e] [] pos) spos) (.extend x z) := fun {A env X M V s ρ ρ' fl} hA ok I h => by
  simp only [exq1, exq2, exq3, exq4, exq5, exq6, exq7, exq8, exq9, exq10, exq11, exq12, exq13, exq14, exq15, Option.bind_eq_bind, Option.bind_eq_some_iff] at h
  obtain ⟨M₁, hs, I₁⟩ := I.freeze (aliased z)
  have hst := strong_freeze ρ z (aliased z) fun _ h => h
  generalize freeze (aliased z) ρ = ρ₁ at *
  obtain ⟨d, hdv, h⟩ := h
  split at h
  · rename_i xs ys hρ
    split at h
    · rename_i hlen
      cases h
      have hx := idx?_get hi
      obtain ⟨a, vs, hv, hM, hpl, hl, ra⟩ := I₁.slots x nm _ hx hρ
      have hL : SndL c τ [e] (.cons z .nil) := .cons he .nil
      have hpl' := hpl
      obtain ⟨n, hget⟩ := hpl'
      refine wpAny_Expr (wpAny_Call_method_lateS (base_plain rfl) (few hL env pos (by simp)) hline (eval_own ok I₁ hd hx hv ?_)) (by unfold interactive; rw [ok.kind]; rfl) rfl
      refine ⟨"list", "list.extend", F.plainAttrs_list, F.slot_list_extend, F.type_list_extend, ⟨_, hget, rfl⟩, fun b hb => by cases hb; exact ⟨_, hget, rfl⟩, ?_⟩
      refine Calls.callWith_builtin (hL.noStar env pos).1 ?_
      rw [starEach_cons he.nst]
      refine Calls.evalArgs_plain (Calls.spliced_cons (wpAny_mono (he.val hA (I₁.toE ok) hdv) (fun v s₁ o => Calls.spliced_nil ?_) fun _ _ e => e))
      show wpAny _ A (call (.builtin "list.extend") [.ref a, v] []) _ _ s₁
      obtain ⟨b, us, rfl, hnb, ⟨n2, hb⟩, hlb, rb⟩ := (o.str hst).inv_list
      have hget₁ := o.grow.keep a _ hget
      have e1 := ra.1
      have e2 := rb.1
      have hsz : vs.toArray.size + us.toArray.size ≤ sizeLine := by rw [← LIM_eq]; simp; (first | lia | omega)
      refine call_meets PySem.F.slot_list_extend ⟨_, hget₁, rfl⟩ PySem.F.entry_list_extend (PySem.F.args_list_extend_2 _ _) (AutoSeq1.list_extend_list_list_0 a vs.toArray n b us.toArray n2 (extend_door hsz) (by (first | lia | omega)) (by (first | lia | omega))) ⟨hget₁, hb, ?_⟩
      have kb : KeepBut (fun b => b = a) s₁ { s₁ with heap := s₁.heap.update a (Obj.mapSeq fun x => x ++ us.toArray) } := KeepBut.of (t := s₁.toks) fun b ob hb e => (Heap.SameBut.update ..).extBut b ob hb e
      have hN : ∀ b, b = a → M₁ b ∨ X b := fun b h => .inl (h ▸ hM)
      have hpl₂ : (s₁.heap.update a (Obj.mapSeq fun x => x ++ us.toArray)).PlainList a (vs ++ us).toArray := by
        have := Heap.get?_update_self (Obj.mapSeq fun x => x ++ us.toArray) hget₁ rfl
        obtain ⟨n', hn'⟩ : ∃ n', Obj.mapSeq (fun x => x ++ us.toArray) { cls := .type "list", data := .seq vs.toArray n } = { cls := .type "list", data := .seq (vs ++ us).toArray n' } := by
          simp [Obj.mapSeq]
        exact ⟨n', by rw [this, hn']⟩
      have I' := (I₁.grow o.grow).mut (vs' := vs ++ us) (xs' := xs ++ ys) hx hρ hv kb hpl₂ (by simp; (first | lia | omega)) (((ra.grow o.grow).kb kb hN).append (rb.kb kb hN))
      exact ⟨M₁, V, ⟨(o.grow.kb.trans (kb.mono fun b (h : b = a) => by rw [h]; exact hs a hM)), fun b h => .inl (hs b h)⟩, I', rfl⟩
    · cases h
  · cases h
end Mine
end
/-! S14 -/
section
open PySem PySem.W PyProof.Rows
set_option linter.unusedSimpArgs false
set_option linter.unusedVariables false
namespace Mine
variable {c : Cx} {τ : Tx}

section
variable {prog : Program} {w : World} {A : Around} {E : Value → Shared → Prop} {s : Shared}
end

set_option tactic.hygienic false in
theorem snd_ite {t : Expr} {a b : List Stmt} {p : Pos} {T : E} {A' B : C} (ht : SndE c τ t T) (ha : SndB c τ a A') (hb : SndB c τ b B) : SndS c τ (.If t a b p) (.ite T A' B) := fun {A env X M V s ρ ρ' fl} hA ok I h => by
  simp only [exq1, exq2, exq3, exq4, exq5, exq6, exq7, exq8, exq9, exq10, exq11, exq12, exq13, exq14, exq15, Option.bind_eq_bind, Option.bind_eq_some_iff] at h
  obtain ⟨d, hd, k, hk, h⟩ := h
  refine wpAny_If (wpAny_mono (ht.tru hA (I.toE ok) hd hk) (fun b s₁ h₁ => ?_) fun _ _ e => e)
  obtain ⟨rfl, g⟩ := h₁
  cases b
  · exact wpAny_mono (hb hA ok (I.grow g) h) (fun f s' h' => h'.pre (Step.ofGrow g)) fun _ _ e => e
  · exact wpAny_mono (ha hA ok (I.grow g) h) (fun f s' h' => h'.pre (Step.ofGrow g)) fun _ _ e => e

set_option tactic.hygienic false in
theorem snd_cont {p : Pos} : SndS c τ (.Continue p) .cont := fun {A env X M V s ρ ρ' fl} hA ok I h => by
  simp only [exq1, exq2, exq3, exq4, exq5, exq6, exq7, exq8, exq9, exq10, exq11, exq12, exq13, exq14, exq15] at h; cases h; exact wpAny_Continue ⟨M, V, Step.rfl' _, I, rfl⟩

set_option tactic.hygienic false in
theorem snd_ret {e : Expr} {p : Pos} {z : E} (hz : SndE c τ e z) : SndS c τ (.Return (some e) p) (.ret z) := fun {A env X M V s ρ ρ' fl} hA ok I h => by
  simp only [exq1, exq2, exq3, exq4, exq5, exq6, exq7, exq8, exq9, exq10, exq11, exq12, exq13, exq14, exq15, Option.bind_eq_bind, Option.bind_eq_some_iff] at h
  obtain ⟨d, hd, h⟩ := h
  obtain ⟨rfl, rfl⟩ := Prod.mk.inj (Option.some.inj h)
  obtain ⟨M₁, hs, I₁⟩ := I.freeze (aliased z)
  have hst := strong_freeze ρ z (aliased z) fun _ h => h
  refine wpAny_Return_some (wpAny_mono (hz.val hA (I₁.toE ok) hd) (fun v s₁ o => ?_) fun _ _ e => e)
  refine ⟨M₁, V, ⟨o.grow.kb, fun a h => .inl (hs a h)⟩, I₁.grow o.grow, v, rfl, o.str hst, fun hf xs e => ?_⟩
  obtain ⟨a, vs, rfl, hd', _⟩ := o.new hf xs e
  exact ⟨a, rfl, .inr hd'⟩

theorem snd_retv {nm : Str} {x : Nat} {p p' : Pos} (hd : (nm == ("__debug__" : Str)) = false) (hi : idx? nm τ.ft = some x) : SndS c τ (.Return (some (.Name nm p')) p) (.retv x) := fun {A env X M V s ρ ρ' fl} hA ok I h => by
  simp only [exq1, exq2, exq3, exq4, exq5, exq6, exq7, exq8, exq9, exq10, exq11, exq12, exq13, exq14, exq15] at h
  have hx := idx?_get hi
  split at h
  · rename_i d hρ
    cases h
    obtain ⟨v, hv, r⟩ := I.slots x nm _ hx hρ
    exact wpAny_Return_some (wpAny_Name (load_var ok.kind (I.varAt ok hx hv) ⟨M, V, Step.rfl' _, I, v, rfl, r, fun h => by cases h⟩) hd)
  · rename_i xs hρ
    obtain ⟨rfl, rfl⟩ := Prod.mk.inj (Option.some.inj h)
    obtain ⟨a, vs, hv, hM, hpl, hl, ra⟩ := I.slots x nm _ hx hρ
    obtain ⟨M₁, hs, I₁⟩ := I.freeze1 x
    have hlt : x < ρ.length := (List.getElem?_eq_some_iff.mp hρ).1
    have hρ₁ : (freeze1 x ρ)[x]? = some (.val (.list xs)) := by unfold freeze1; rw [hρ]; simp [hlt]
    obtain ⟨v', hv', r'⟩ := I₁.slots x nm _ hx hρ₁
    rw [hv] at hv'; cases hv'
    refine wpAny_Return_some (wpAny_Name (load_var ok.kind (I.varAt ok hx hv) ⟨M₁, V, ⟨KeepBut.rfl' _, fun a h => .inl (hs a h)⟩, I₁, .ref a, rfl, r', fun _ ys _ => ⟨a, rfl, .inl hM⟩⟩) hd)
  · cases h
end Mine
end
/-! S15 -/
section
open PySem PySem.W PyProof.Rows
set_option linter.unusedSimpArgs false
set_option linter.unusedVariables false
namespace Mine
variable {c : Cx} {τ : Tx}

set_option tactic.hygienic false in
theorem snd_while {t : Expr} {body : List Stmt} {p : Pos} {T : E} {B : C} (ht : SndE c τ t T) (hb : SndB c τ body B) : SndS c τ (.While t body [] p) (.whil T B) := fun {A env X M V s ρ ρ' fl} hA ok I h => by
  simp only [exq1, exq2, exq3, exq4, exq5, exq6, exq7, exq8, exq9, exq10, exq11, exq12, exq13, exq14, exq15] at h
  refine wpAny_While (codeAny_whileLoop (fun n s₁ => ∃ M₁ V₁ ρ₁, Step M s M₁ s₁ ∧ InvS c τ env X M₁ V₁ s₁ ρ₁ ∧ whileF (fun ρ => do truthD (← ev c.Φ ρ [] T)) (fun ρ => ex c.Φ B ρ) n ρ₁ = some (ρ', fl)) ?_ WHILE ⟨M, V, ρ, Step.rfl' _, I, h⟩)
  rintro n s₁ ⟨M₁, V₁, ρ₁, st₁, I₁, h₁⟩
  cases n with
  | zero => cases h₁
  | succ n =>
    simp only [whileF, Option.bind_eq_bind, Option.bind_eq_some_iff] at h₁
    obtain ⟨b, ⟨d, hd, hk⟩, h₁⟩ := h₁
    refine anyE (wpAny_mono (ht.tru hA (I₁.toE ok) hd hk) (fun b' s₂ h₂ => ?_) fun _ _ e => e)
    obtain ⟨rfl, g⟩ := h₂
    cases b'
    · simp only [Bool.false_eq_true, if_false] at h₁ ⊢
      cases h₁
      exact wpAny_execs_nil ⟨M₁, V₁, st₁.trans (Step.ofGrow g), I₁.grow g, rfl⟩
    · simp only [if_true, Option.bind_eq_some_iff] at h₁ ⊢
      obtain ⟨⟨ρ₂, f₂⟩, hB, h₁⟩ := h₁
      refine anyE (wpAny_mono (hb hA ok (I₁.grow g) hB) (fun f s₃ h₃ => ?_) fun _ _ e => e)
      have h₃' := h₃.pre (st₁.trans (Step.ofGrow g))
      obtain ⟨M₃, V₃, st₃, I₃, fo⟩ := h₃'
      cases f₂ with
      | next => cases fo; exact ⟨n, Nat.lt_succ_self n, M₃, V₃, ρ₂, st₃, I₃, h₁⟩
      | cont => cases fo; exact ⟨n, Nat.lt_succ_self n, M₃, V₃, ρ₂, st₃, I₃, h₁⟩
      | brk => cases fo; cases h₁; exact ⟨M₃, V₃, st₃, I₃, rfl⟩
      | ret d fr => cases h₁; obtain ⟨v, rfl, r⟩ := fo; exact ⟨M₃, V₃, st₃, I₃, v, rfl, r⟩

/-! ## `for` -/
set_option tactic.hygienic false in
theorem InvS.addX {env : Env} {X Y M : Addr → Prop} {V : Str → Option Value} {s s₁ : Shared} {ρ : List Slot} (I : InvS c τ env X M V s ρ) (g : Grow s s₁) (hd : ∀ a, Y a → s.heap.get? a = none) (ha : ∀ a, Y a → s₁.heap.get? a ≠ none) : InvS c τ env (fun b => X b ∨ Y b) M V s₁ ρ := by
  have I₁ := I.grow g
  have hr : ∀ {v d}, Rep (fun b => M b ∨ X b) s.heap v d → Rep (fun b => M b ∨ X b ∨ Y b) s₁.heap v d := fun r => r.mono fun b o hn e => ⟨g.keep b o e, fun h => by
    rcases h with h | h | h
    · exact hn (.inl h)
    · exact hn (.inr h)
    · rw [hd b h] at e; cases e⟩
  refine ⟨I₁.keep, fun b h => ?_, fun b h hX => ?_, I.h0, I₁.ns, I₁.cell, I.mloc, I.len, fun x nm sl h1 h2 => ?_, I.uniq⟩
  · rcases h with h | h | h
    · exact I₁.alive b (.inl h)
    · exact I₁.alive b (.inr h)
    · exact ha b h
  · rcases hX with hX | hX
    · exact I.disj b h hX
    · exact I.alive b (.inl h) (hd b hX)
  · have := I.slots x nm sl h1 h2
    cases sl with
    | unset => trivial
    | val d => obtain ⟨v, p, q⟩ := this; exact ⟨v, p, hr q⟩
    | own xs =>
      obtain ⟨l, vs, p, m, ⟨n, hl⟩, q, r⟩ := this
      exact ⟨l, vs, p, m, ⟨n, g.keep _ _ hl⟩, q, r.1, fun i v d e1 e2 => hr (r.2 i v d e1 e2)⟩
set_option tactic.hygienic false in
theorem InvS.subX {env : Env} {X Y M : Addr → Prop} {V : Str → Option Value} {s : Shared} {ρ : List Slot} (I : InvS c τ env Y M V s ρ) (h : ∀ a, X a → Y a) : InvS c τ env X M V s ρ := by
  have hN : ∀ a, M a ∨ X a → M a ∨ Y a := fun a q => q.imp id (h a)
  refine ⟨I.keep, fun a q => I.alive a (hN a q), fun a q r => I.disj a q (h a r), I.h0, I.ns, I.cell, I.mloc, I.len, fun x nm sl h1 h2 => ?_, I.uniq⟩
  have := I.slots x nm sl h1 h2
  cases sl with
  | unset => trivial
  | val d => obtain ⟨v, p, q⟩ := this; exact ⟨v, p, q.sub hN⟩
  | own xs => obtain ⟨l, vs, p, m, hl, q, r⟩ := this; exact ⟨l, vs, p, m, hl, q, r.sub hN⟩
set_option tactic.hygienic false in
/-- what the iterators do -/
theorem InvS.chgX {env : Env} {X Y M : Addr → Prop} {V : Str → Option Value} {s s' : Shared} {ρ : List Slot} (I : InvS c τ env X M V s ρ) (kb : KeepBut Y s s') (hY : ∀ a, Y a → X a) (hal : ∀ a, Y a → s'.heap.get? a ≠ none) (h0 : ∀ a, Y a → c.h₀.get? a = none) : InvS c τ env X M V s' ρ := by
  have hM : ∀ a, M a → ¬ Y a := fun a h q => I.disj a h (hY a q)
  have hN : ∀ b, Y b → M b ∨ X b := fun b h => .inr (hY b h)
  refine ⟨fun b o e => kb.keep b o (fun h => by rw [h0 b h] at e; cases e) (I.keep b o e), fun a h => ?_, I.disj, I.h0, ?_, fun n h => ?_, I.mloc, I.len, fun x nm sl h1 h2 => ?_, I.uniq⟩
  · by_cases q : Y a
    · exact hal a q
    · intro hno
      cases e : s.heap.get? a with
      | none => exact I.alive a h e
      | some o => rw [kb.keep a o q e] at hno; cases hno
  · obtain ⟨m, h1, h2⟩ := I.ns
    exact ⟨m, h1.at' fun o e => kb.keep _ o (hM _ I.mloc) e, h2⟩
  · obtain ⟨a, p, q, o, ho, hd⟩ := I.cell n h
    exact ⟨a, p, q, o, kb.keep a o (hM a q) ho, hd⟩
  · have := I.slots x nm sl h1 h2
    cases sl with
    | unset => trivial
    | val d => obtain ⟨v, p, q⟩ := this; exact ⟨v, p, q.kb kb hN⟩
    | own xs => obtain ⟨l, vs, p, m, hl, q, r⟩ := this; exact ⟨l, vs, p, m, hl.at fun o e => kb.keep l o (hM l m) e, q, r.kb kb hN⟩

set_option tactic.hygienic false in
/-- the iterator's end -/
theorem InvS.dropX {env : Env} {X Y M : Addr → Prop} {V : Str → Option Value} {s s' : Shared} {ρ : List Slot} (I : InvS c τ env (fun a => X a ∨ Y a) M V s ρ) (kb : KeepBut Y s s') (hXY : ∀ a, X a → ¬ Y a) (h0 : ∀ a, Y a → c.h₀.get? a = none) : InvS c τ env X M V s' ρ := by
  have hM : ∀ a, M a → ¬ Y a := fun a h q => I.disj a h (.inr q)
  have hr : ∀ {v d}, Rep (fun a => M a ∨ X a ∨ Y a) s.heap v d → Rep (fun a => M a ∨ X a) s'.heap v d := fun r => r.mono fun a o hn e => ⟨kb.keep a o (fun q => hn (.inr (.inr q))) e, fun q => hn (q.imp id .inl)⟩
  refine ⟨fun b o e => kb.keep b o (fun h => by rw [h0 b h] at e; cases e) (I.keep b o e), fun a h => ?_, fun a h q => I.disj a h (.inl q), I.h0, ?_, fun n h => ?_, I.mloc, I.len, fun x nm sl h1 h2 => ?_, I.uniq⟩
  · have hy : ¬ Y a := h.elim (hM a) (hXY a)
    intro hno
    cases e : s.heap.get? a with
    | none => exact I.alive a (h.imp id .inl) e
    | some o => rw [kb.keep a o hy e] at hno; cases hno
  · obtain ⟨m, h1, h2⟩ := I.ns
    exact ⟨m, h1.at' fun o e => kb.keep _ o (hM _ I.mloc) e, h2⟩
  · obtain ⟨a, p, q, o, ho, hd⟩ := I.cell n h
    exact ⟨a, p, q, o, kb.keep a o (hM a q) ho, hd⟩
  · have := I.slots x nm sl h1 h2
    cases sl with
    | unset => trivial
    | val d => obtain ⟨v, p, q⟩ := this; exact ⟨v, p, hr q⟩
    | own xs => obtain ⟨l, vs, p, m, hl, q, r⟩ := this; exact ⟨l, vs, p, m, hl.at fun o e => kb.keep l o (hM l m) e, q, r.1, fun i v d e1 e2 => hr (r.2 i v d e1 e2)⟩

/-- a source of items, once its iterator stands: Y are the iterator's own objects -/
structure SrcW (c : Cx) (A : Around) (tgt : Expr) (it : Value) (N₀ : Addr → Prop) (s₀ : Shared) (ds : List D) (Y : Addr → Prop) (St : Nat → Heap → Prop) : Prop where
  dead : ∀ a, Y a → s₀.heap.get? a = none
  live : ∀ i h, St i h → ∀ a, Y a → h.get? a ≠ none
  frame : ∀ i h h', St i h → (∀ b o, (Y b ∨ (s₀.heap.get? b ≠ none ∧ ¬ N₀ b)) → h.get? b = some o → h'.get? b = some o) → St i h'
  item : ∀ (i : Nat) (d : D) (s₂ : Shared) (Q : Option Value → Shared → Prop), ds[i]? = some d → St i s₂.heap → (∀ b o, ¬ N₀ b → s₀.heap.get? b = some o → s₂.heap.get? b = some o) →
    (∀ v s₃, (∀ Q' : Unit → Shared → Prop, (∀ s₄, KeepBut Y s₂ s₄ → St (i + 1) s₄.heap → (∀ N' : Addr → Prop, (∀ b, N' b → (N₀ b ∨ s₀.heap.get? b = none) ∧ s₂.heap.get? b ≠ none) → Rep N' s₄.heap v d) → Q' () s₄) →
      wpAny (model c.prog c.w) A (letOwnedTupleGo tgt it v) Q' NoE s₃) → Q (some v) s₃) →
    wpAny (model c.prog c.w) A (pyNext it) Q NoE s₂
  done : ∀ (s₂ : Shared) (Q : Option Value → Shared → Prop), St ds.length s₂.heap → (∀ s₃, KeepBut Y s₂ s₃ → Q none s₃) → wpAny (model c.prog c.w) A (pyNext it) Q NoE s₂

set_option tactic.hygienic false in
theorem Step.other {M M' Y : Addr → Prop} {s s' s'' : Shared} (a : Step M s M' s') (k : KeepBut Y s' s'') (hd : ∀ b, Y b → s.heap.get? b = none) : Step M s M' s'' :=
  ⟨⟨k.os.trans a.kb.os, k.gens.trans a.kb.gens, fun b o hb e => k.keep b o (fun hy => by rw [hd b hy] at e; cases e) (a.kb.keep b o hb e)⟩, a.sub⟩
set_option tactic.hygienic false in
theorem FlOk.subN {M : Addr → Prop} {s : Shared} {N N' : Addr → Prop} {h' : Heap} {fl : Fl} {f : Flow} (hN : ∀ a, N' a → N a) (x : FlOk M s N h' fl f) : FlOk M s N' h' fl f := by
  cases fl with
  | ret d fr => obtain ⟨v, e, r, q⟩ := x; exact ⟨v, e, r.sub hN, q⟩
  | _ => exact x

set_option tactic.hygienic false in
theorem for_loop {A : Around} {env : Env} {X M Y : Addr → Prop} {V : Str → Option Value} {s₁ s₂ : Shared} {ρ ρ' : List Slot} {fl : Fl} {tgt : Expr} {it : Value} {body : List Stmt} {B : C} {ds : List D} {St : Nat → Heap → Prop} {put : D → List Slot → Option (List Slot)} {R : Result → Shared → Prop}
    (hA : AOk c.n A) (ok : EnvOk τ env) (W : SrcW c A tgt it (fun a => M a ∨ X a) s₁ ds Y St) (st : St 0 s₂.heap) (g : Grow s₁ s₂) (I : InvS c τ env X M V s₁ ρ) (ht : Tgt τ tgt put) (hb : SndB c τ body B) (h : forF put (fun ρ => ex c.Φ B ρ) ds ρ = some (ρ', fl))
    (hR : ∀ f s', ExOk c τ env X M s₁ ρ' fl f s' → R (.ok f) s') : codeAny (model c.prog c.w) A (.forLoop tgt it body [] env) R s₂ := by
  have hY0 : ∀ a, Y a → c.h₀.get? a = none := fun a ha => by
    cases q : c.h₀.get? a with
    | none => rfl
    | some o => have := I.keep a o q; rw [W.dead a ha] at this; cases this
  refine codeAny_forLoop_any (fun k s' => ∃ (i : Nat) (M' : Addr → Prop) (V' : Str → Option Value) (ρ₁ : List Slot), k = ds.length + 1 - i ∧ i ≤ ds.length ∧ St i s'.heap ∧ Step M s₁ M' s' ∧ InvS c τ env (fun a => X a ∨ Y a) M' V' s' ρ₁ ∧
    forF put (fun ρ => ex c.Φ B ρ) (ds.drop i) ρ₁ = some (ρ', fl)) ?_ (ds.length + 1) ⟨0, M, V, ρ, rfl, Nat.zero_le _, st, Step.ofGrow g, I.addX g W.dead (W.live 0 _ st), h⟩
  rintro k s' ⟨i, M', V', ρ₁, rfl, hi, hst, hstep, I', hF⟩
  have hkeep : ∀ b o, ¬ (M b ∨ X b) → s₁.heap.get? b = some o → s'.heap.get? b = some o := fun b o hb e => hstep.kb.keep b o (fun q => hb (.inl q)) e
  by_cases hlt : i < ds.length
  · obtain ⟨d, hd⟩ : ∃ d, ds[i]? = some d := ⟨ds[i], by simp [hlt]⟩
    have hdrop : ds.drop i = d :: ds.drop (i + 1) := by
      rw [List.drop_eq_getElem_cons hlt]
      rw [List.getElem?_eq_getElem hlt] at hd
      cases hd; rfl
    rw [hdrop] at hF
    simp only [forF, Option.bind_eq_bind, Option.bind_eq_some_iff] at hF
    obtain ⟨ρ₂, hput, ⟨ρ₃, f₃⟩, hB, hF⟩ := hF
    refine anyE (W.item i d s' _ hd hst hkeep fun v s₃ hlet => anyE (hlet _ fun s₄ k₄ st₄ hrep => ?_))
    have I₄ : InvS c τ env (fun a => X a ∨ Y a) M' V' s₄ ρ₁ := I'.chgX k₄ (fun a h => .inr h) (W.live _ _ st₄) hY0
    have step₄ : Step M s₁ M' s₄ := hstep.other k₄ W.dead
    have hrd : Rep (fun a => M' a ∨ X a ∨ Y a) s₄.heap v d := hrep _ fun b hb => by
      refine ⟨?_, I'.alive b hb⟩
      rcases hb with hb | hb | hb
      · exact (hstep.sub b hb).imp .inl id
      · exact .inl (.inr hb)
      · exact .inr (W.dead b hb)
    refine anyE (wpAny_mono (ht.ok hA.1 ok I₄ hput hrd) (fun _ s₅ h₅ => ?_) fun _ _ e => e)
    obtain ⟨V₅, kb₅, I₅⟩ := h₅
    have step₅ : Step M s₁ M' s₅ := step₄.trans ⟨kb₅, fun a h => .inl h⟩
    have off : ∀ b, (Y b ∨ (s₁.heap.get? b ≠ none ∧ ¬ (M b ∨ X b))) → ¬ M' b := fun b hb hm => by
      rcases hb with hb | ⟨hb, hn⟩
      · exact I'.disj b hm (.inr hb)
      · rcases hstep.sub b hm with q | q
        · exact hn (.inl q)
        · exact hb q
    have st₅ : St (i + 1) s₅.heap := W.frame _ _ _ st₄ fun b o hb e => kb₅.keep b o (off b hb) e
    refine anyE (wpAny_mono (hb hA ok I₅ hB) (fun f s₆ h₆ => ?_) fun _ _ e => e)
    obtain ⟨M₆, V₆, step₆, I₆, fo⟩ := h₆
    have stepAll : Step M s₁ M₆ s₆ := step₅.trans step₆
    have st₆ : St (i + 1) s₆.heap := W.frame _ _ _ st₅ fun b o hb e => step₆.kb.keep b o (off b hb) e
    have I₆' : InvS c τ env X M₆ V₆ s₆ ρ₃ := I₆.subX fun a h => .inl h
    cases f₃ with
    | next => cases fo; exact ⟨ds.length + 1 - (i + 1), by (first | lia | omega), i + 1, M₆, V₆, ρ₃, rfl, hlt, st₆, stepAll, I₆, hF⟩
    | cont => cases fo; exact ⟨ds.length + 1 - (i + 1), by (first | lia | omega), i + 1, M₆, V₆, ρ₃, rfl, hlt, st₆, stepAll, I₆, hF⟩
    | brk => cases fo; cases hF; exact hR _ _ ⟨M₆, V₆, stepAll, I₆', rfl⟩
    | ret d' fr =>
      cases hF
      have fo' : ExOk c τ env X M s₁ ρ' (.ret d' fr) f s₆ := ExOk.pre step₅ ⟨M₆, V₆, step₆, I₆', fo.subN fun a h => h.imp id .inl⟩
      obtain ⟨v, rfl, _⟩ := fo
      exact hR _ _ fo'
  · have hin : i = ds.length := by (first | lia | omega)
    subst hin
    rw [List.drop_length] at hF
    cases hF
    refine anyE (W.done s' _ hst fun s₃ k₃ => ?_)
    exact wpAny_execs_nil (hR _ _ ⟨M', V', hstep.other k₃ W.dead, I'.dropX k₃ (fun a hx hy => I.alive a (.inr hx) (W.dead a hy)) hY0, rfl⟩)
end Mine
end
/-! S16 -/
section
open PySem PySem.W PyProof.Rows
set_option linter.unusedSimpArgs false
set_option linter.unusedVariables false
namespace Mine
variable {c : Cx} {τ : Tx}

set_option tactic.hygienic false in
theorem IterAt.src {A : Around} {N : Addr → Prop} {s s' : Shared} {ds : List D} {it : Value} (hh : A.handled = none) (x : IterAt c.prog c.w N s True ds it s') (tgt : Expr) : ∃ Y St, SrcW c A tgt it N s ds Y St ∧ St 0 s'.heap := by
  obtain ⟨g, I, fp, P, St, rfl, hI, hW, hst, hcls, hfp, hitems⟩ := x
  have W := hW A hh
  refine ⟨fun a => a = I, St, ⟨fun a h => h ▸ hI, fun i h st a e => e ▸ (hcls i h st).alive, fun i h h' st hk => W.frame i h h' st fun b hb o e => hk b o ?_ e, fun i d s₂ Q hd st hk hQ => ?_, fun s₂ Q st hQ => ?_⟩, hst⟩
  · rcases hfp b hb with q | ⟨q1, q2⟩
    · exact .inl q
    · exact .inr ⟨q1, q2 trivial⟩
  · refine W.item i s₂ Q NoE (List.getElem?_eq_some_iff.mp hd).1 st fun v h' tk hP st' hkeep => hQ v _ fun Q' hQ' => wpAny_letOwned (hcls _ _ st') (hQ' _ (KeepBut.of fun b o hb e => hkeep b o (by simpa using hb) e) st' fun N' hN' => ?_)
    refine (hitems i v d hP hd).mono fun a o hn e => ⟨?_, fun q => ?_⟩
    · exact hkeep a o (by simp; rintro rfl; rw [hI] at e; cases e) (hk a o hn e)
    · rcases (hN' a q).1 with q | q
      · exact hn q
      · rw [q] at e; cases e
  · exact W.done s₂ Q NoE st fun h' tk hkeep => hQ _ (KeepBut.of fun b o hb e => hkeep b o (by simpa using hb) e)

/-- the sources of a `for` -/
inductive SndR (c : Cx) (τ : Tx) : Expr → Src → Prop
  | e {e : Expr} {x : E} : notSet e = true → SndE c τ e x → SndR c τ e (.e x)
  | zip {a b : Expr} {x y : E} {p pos : Pos} : τ.kind "zip" = some .globalImplicit → SndE c τ a x → SndE c τ b y → SndR c τ (.Call (.Name "zip" p) [a, b] [] pos) (.zip x y)
  | rev {a : Expr} {x : E} {p pos : Pos} : τ.kind "reversed" = some .globalImplicit → SndE c τ a x → SndR c τ (.Call (.Name "reversed" p) [a] [] pos) (.rev x)

/-- what evaluating a source and asking for its iterator leaves: s₁ is the state before the iterator's objects came -/
noncomputable def SrcOk (c : Cx) (A : Around) (tgt : Expr) (N : Addr → Prop) (s : Shared) (ds : List D) (it : Value) (s₂ : Shared) : Prop :=
  ∃ s₁ Y St, Grow s s₁ ∧ Grow s₁ s₂ ∧ SrcW c A tgt it N s₁ ds Y St ∧ St 0 s₂.heap

set_option tactic.hygienic false in
theorem snd_for {tgt iter : Expr} {body : List Stmt} {p : Pos} {R : Src} {B : C} {put : D → List Slot → Option (List Slot)} (ht : Tgt τ tgt put) (hset : notSet iter = true)
    (hr : ∀ {A : Around} {env : Env} {N : Addr → Prop} {s : Shared} {ρ : List Slot} {ds : List D}, AOk c.n A → InvE c.h₀ τ env N s.heap (freeze (srcVars R) ρ) [] → srcD c.Φ (freeze (srcVars R) ρ) R = some ds →
      wpAny (model c.prog c.w) A (eval iter env) (fun x s₁ => wpAny (model c.prog c.w) A (pyIter x) (SrcOk c A tgt N s ds) NoE s₁) NoE s)
    (hb : SndB c τ body B) {A : Around} {env : Env} {X M : Addr → Prop} {V : Str → Option Value} {s : Shared} {ρ ρ' : List Slot} {fl : Fl} (hA : AOk c.n A) (ok : EnvOk τ env) (I : InvS c τ env X M V s ρ)
    (h : (do let ds ← srcD c.Φ (freeze (srcVars R) ρ) R; forF put (fun ρ => ex c.Φ B ρ) ds (freeze (srcVars R) ρ)) = some (ρ', fl)) :
    wpAny (model c.prog c.w) A (exec (.For tgt iter body [] p) env) (ExOk c τ env X M s ρ' fl) NoE s := by
  simp only [Option.bind_eq_bind, Option.bind_eq_some_iff] at h
  obtain ⟨ds, hds, h⟩ := h
  obtain ⟨M₁, hs, I₁⟩ := I.freeze (srcVars R)
  refine wpAny_For (wpAny_mono (hr hA (I₁.toE ok) hds) (fun x s₁ h₁ => wpAny_mono h₁ (fun it s₂ h₂ => ?_) fun _ _ e => e) fun _ _ e => e) (fun x => folded_plain hset)
  obtain ⟨s₁', Y, St, g1, g2, W, st⟩ := h₂
  refine for_loop hA ok W st g2 (I₁.grow g1) ht hb h fun f s' h' => ?_
  exact (h'.pre (Step.ofGrow g1)).less hs

set_option tactic.hygienic false in
theorem src_e {iter : Expr} {x : E} {tgt : Expr} (hx : SndE c τ iter x) : ∀ {A : Around} {env : Env} {N : Addr → Prop} {s : Shared} {ρ : List Slot} {ds : List D}, AOk c.n A → InvE c.h₀ τ env N s.heap (freeze (srcVars (.e x)) ρ) [] → srcD c.Φ (freeze (srcVars (.e x)) ρ) (.e x) = some ds →
      wpAny (model c.prog c.w) A (eval iter env) (fun v s₁ => wpAny (model c.prog c.w) A (pyIter v) (SrcOk c A tgt N s ds) NoE s₁) NoE s := by
  intro A env N s ρ ds hA I h
  simp only [srcD, Option.bind_eq_bind, Option.bind_eq_some_iff] at h
  obtain ⟨d, hd, hi⟩ := h
  refine wpAny_mono (hx.val hA I hd) (fun v s₁ o => ?_) fun _ _ e => e
  have hst : strong (freeze (srcVars (.e x)) ρ) x = true := strong_freeze ρ x _ fun _ h => h
  refine wpAny_mono (iter_sound (strg := True) o.rep (fun _ => o.str hst) hi) (fun it s₂ i₂ => ?_) fun _ _ e => e
  obtain ⟨Y, St, W, st⟩ := i₂.src hA.1 tgt
  exact ⟨s₁, Y, St, o.grow, i₂.grow, W, st⟩

end Mine
end
/-! S17 -/
section
open PySem PySem.W PyProof.Rows
set_option linter.unusedSimpArgs false
set_option linter.unusedVariables false
set_option maxRecDepth 100000
namespace Mine
variable {c : Cx} {τ : Tx}

end Mine
end
/-! S18 -/
section
open PySem PySem.W PyProof.Rows
set_option linter.unusedSimpArgs false
set_option linter.unusedVariables false
set_option maxRecDepth 100000
namespace Mine
variable {c : Cx} {τ : Tx}

section
variable {prog : Program} {w : World} {A : Around} {E : Value → Shared → Prop} {s : Shared}
end

end Mine
end
/-! S19 -/
section
open PySem PySem.W PyProof.Rows
set_option linter.unusedSimpArgs false
set_option linter.unusedVariables false
namespace Mine
variable {c : Cx} {τ : Tx}

/-! ## the translator of statements -/
noncomputable def swapB (τ : Tx) (nm : Str) (px : Pos) (scope : Scope) (pos' : Pos) : Bool :=
  τ.kind nm == some .local && px.line == pos'.line && !(scope.names.any fun (n, k) => n == nm && (k == .local || k == .cell))
set_option tactic.hygienic false in
theorem swaps_lc {nm : Str} {px pos' : Pos} {elt : Expr} {gens : List Comprehension} {scope : Scope} {l : Nat} {env : Env} (ok : EnvOk τ env) : swapsWith (.ListComp elt gens scope pos') (some (.Name nm px)) l env = pure (swapB τ nm px scope pos') := by
  have hb : env.blockKind = .function := by unfold Env.blockKind; rw [ok.kind]; rfl
  unfold swapsWith
  simp only
  rw [hb, ok.kindOf]
  rfl
noncomputable def notComp : Expr → Bool
  | .ListComp .. | .SetComp .. | .DictComp .. => false
  | _ => true
set_option tactic.hygienic false in
theorem swaps_plain {value : Expr} {t : Option Expr} {l : Nat} {env : Env} (h : notComp value = true) : swapsWith value t l env = pure false := by
  unfold swapsWith
  cases value <;> first | rfl | (cases h)

section
variable (fnames : List Str) (hasPat : Bool) (n : Nat) (τ : Tx)
noncomputable def trAssignComp (nm : Str) (px : Pos) (value : Expr) : Option C :=
  match value with
  | .ListComp elt gens scope pos' => if swapB τ nm px scope pos' then do some (.assign (← idx? nm τ.ft) (← trComp (trE fnames hasPat n) τ elt gens scope)) else do
      some (.assign (← idx? nm τ.ft) (← trE fnames hasPat n τ value))
  | _ => none
noncomputable def trAssignName (nm : Str) (px : Pos) (value : Expr) : Option C :=
  if notComp value then do some (.assign (← idx? nm τ.ft) (← trE fnames hasPat n τ value)) else
  trAssignComp fnames hasPat n τ nm px value
noncomputable def trAssign (t value : Expr) : Option C :=
  match vw t with
  | .name nm px => trAssignName fnames hasPat n τ nm px value
  | _ => none
noncomputable def trExprS (e : Expr) : Option C := do
  let q ← call? e
  let at' ← attr? q.1
  let nm ← nmP? at'.1
  let a ← one? q.2.1
  if !q.2.2.1.isEmpty || nm.1 == ("__debug__" : Str) || !(at'.2.2.endLine == q.2.2.2.line) then none else
  if at'.2.1 == ("append" : Str) then do some (.append (← idx? nm.1 τ.ft) (← trE fnames hasPat n τ a)) else
  if at'.2.1 == ("extend" : Str) then do some (.extend (← idx? nm.1 τ.ft) (← trE fnames hasPat n τ a)) else none
noncomputable def trSrc (tgt iter : Expr) : Option Src :=
  (trE fnames hasPat n τ iter).map .e
noncomputable def trFor1 (tgt iter : Expr) (b : C) : Option C := do
  let nm ← nmP? tgt
  some (.for1 (← idx? nm.1 τ.ft) (← trSrc fnames hasPat n τ tgt iter) b)
noncomputable def trFor (tgt iter : Expr) (b : C) : Option C :=
  if !notSet iter then none else
  trFor1 fnames hasPat n τ tgt iter b
noncomputable def trRetv (nm : Str) : Option C := if nm == ("__debug__" : Str) then none else do some (.retv (← idx? nm τ.ft))
noncomputable def trRet (v : Option Expr) : Option C := do
  let e ← v
  match nmP? e with
  | some q => trRetv τ q.1
  | none => (trE fnames hasPat n τ e).map .ret
end

noncomputable def trBl (f : Stmt → Option C) : List Stmt → Option C
  | [] => some .skip
  | s :: r => do
    let a ← f s
    let b ← trBl f r
    some (.seq a b)
noncomputable def trS (fnames : List Str) (hasPat : Bool) (τ : Tx) : Nat → Stmt → Option C
  | 0, _ => none
  | n + 1, st =>
    match st with
    | .Assign ts value _ => (one? ts).bind fun t => trAssign fnames hasPat n τ t value
    | .Expr e _ => trExprS fnames hasPat n τ e
    | .If t a b _ => do some (.ite (← trE fnames hasPat n τ t) (← trBl (trS fnames hasPat τ n) a) (← trBl (trS fnames hasPat τ n) b))
    | .While t b els _ => if els.isEmpty then do some (.whil (← trE fnames hasPat n τ t) (← trBl (trS fnames hasPat τ n) b)) else none
    | .For tgt iter b els _ => if els.isEmpty then do
      let B ← trBl (trS fnames hasPat τ n) b
      trFor fnames hasPat n τ tgt iter B
      else none
    | .Return v _ => trRet fnames hasPat n τ v
    | .Continue _ => some .cont
    | _ => none
noncomputable def trB (fnames : List Str) (hasPat : Bool) (τ : Tx) (n : Nat) (ss : List Stmt) : Option C := trBl (trS fnames hasPat τ n) ss

set_option tactic.hygienic false in
theorem trBl_sound {f : Stmt → Option C} (hf : ∀ {s k}, f s = some k → SndS c τ s k) : ∀ {ss : List Stmt} {k : C}, trBl f ss = some k → SndB c τ ss k
  | [], k, h => by cases h; exact sndB_nil
  | s :: r, k, h => by
    simp only [trBl, Option.bind_eq_bind, Option.bind_eq_some_iff] at h
    obtain ⟨a, ha, b, hb, h⟩ := h
    cases h
    exact sndB_cons (hf ha) (trBl_sound hf hb)

section
variable (G : GOk c) (F : FnsOk c) {n : Nat}
include G F
theorem trAssignComp_sound {nm : Str} {px : Pos} {value : Expr} {pos : Pos} {k : C} (h : trAssignComp c.fnames c.hasPat n τ nm px value = some k) : SndS c τ (.Assign [.Name nm px] value pos) k := by
  unfold trAssignComp at h
  split at h
  · rename_i elt gens scope pos'
    split at h
    · rename_i hs
      simp only [Option.bind_eq_bind, Option.bind_eq_some_iff] at h
      obtain ⟨x, hx, e, he, h⟩ := h
      cases h
      cases trComp_sound (c := c) (trE_sound G F) he with
      | one a b d e g j => exact snd_assign_comp hx (fun env ok => by rw [swaps_lc ok, hs]) a b d e g j
    · rename_i hs
      simp only [Option.bind_eq_bind, Option.bind_eq_some_iff] at h
      obtain ⟨x, hx, e, he, h⟩ := h
      cases h
      exact snd_assign (trE_sound G F he) hx fun env ok => by rw [swaps_lc ok]; simp at hs; rw [hs]
  · cases h
theorem trAssignName_sound {nm : Str} {px : Pos} {value : Expr} {pos : Pos} {k : C} (h : trAssignName c.fnames c.hasPat n τ nm px value = some k) : SndS c τ (.Assign [.Name nm px] value pos) k := by
  unfold trAssignName at h
  split at h
  · rename_i hc
    simp only [Option.bind_eq_bind, Option.bind_eq_some_iff] at h
    obtain ⟨x, hx, e, he, h⟩ := h
    cases h
    exact snd_assign (trE_sound G F he) hx fun env _ => swaps_plain hc
  · exact trAssignComp_sound G F h
theorem trAssign_sound {t value : Expr} {pos : Pos} {k : C} (h : trAssign c.fnames c.hasPat n τ t value = some k) : SndS c τ (.Assign [t] value pos) k := by
  unfold trAssign at h
  have hv := vw_ok t
  split at h
  · rename_i nm px hq
    rw [hq] at hv
    have hv : t = .Name nm px := hv
    subst hv
    exact fun {A env X M V s ρ ρ' fl} hA ok I e => trAssignName_sound G F h hA ok I e
  · cases h

theorem trExprS_sound {e : Expr} {pos : Pos} {k : C} (h : trExprS c.fnames c.hasPat n τ e = some k) : SndS c τ (.Expr e pos) k := by
  simp only [trExprS, Option.bind_eq_bind, Option.bind_eq_some_iff] at h
  obtain ⟨⟨f, as, kws, cp⟩, h1, ⟨o, m, apos⟩, h2, ⟨nm, p⟩, h3, a, h4, h⟩ := h
  obtain rfl := call?_eq h1
  obtain rfl := attr?_eq h2
  obtain rfl := nmP?_eq h3
  obtain rfl := one?_eq h4
  split at h
  · cases h
  · rename_i hn
    simp only [Bool.or_eq_true, not_or, Bool.not_eq_true, Bool.not_eq_false', List.isEmpty_iff] at hn
    obtain ⟨⟨rfl, hn1⟩, hn2⟩ := hn
    split at h
    · rename_i hm
      have hm := eq_of_beq hm
      subst hm
      simp only [Option.bind_eq_some_iff] at h
      obtain ⟨x, hx, e, he, h⟩ := h
      cases h
      exact fun {A env X M V s ρ ρ' fl} hA ok I e => snd_append hn1 hx hn2 (trE_sound G F he) hA ok I e
    · split at h
      · rename_i hm
        have hm := eq_of_beq hm
        subst hm
        simp only [Option.bind_eq_some_iff] at h
        obtain ⟨x, hx, e, he, h⟩ := h
        cases h
        exact fun {A env X M V s ρ ρ' fl} hA ok I e => snd_extend hn1 hx hn2 (trE_sound G F he) hA ok I e
      · cases h

theorem trSrc_sound {tgt iter : Expr} {R : Src} (h : trSrc c.fnames c.hasPat n τ tgt iter = some R) :
    ∀ {A : Around} {env : Env} {N : Addr → Prop} {s : Shared} {ρ : List Slot} {ds : List D}, AOk c.n A → InvE c.h₀ τ env N s.heap (freeze (srcVars R) ρ) [] → srcD c.Φ (freeze (srcVars R) ρ) R = some ds →
      wpAny (model c.prog c.w) A (eval iter env) (fun x s₁ => wpAny (model c.prog c.w) A (pyIter x) (SrcOk c A tgt N s ds) NoE s₁) NoE s := by
  unfold trSrc at h
  simp only [Option.map_eq_some_iff] at h; obtain ⟨y, hy, rfl⟩ := h; exact fun {A env N s ρ ds} hA I e => src_e (trE_sound G F hy) hA I e

theorem trFor1_sound {tgt iter : Expr} {body : List Stmt} {B : C} {pos : Pos} {k : C} (hs : notSet iter = true) (hb : SndB c τ body B) (h : trFor1 c.fnames c.hasPat n τ tgt iter B = some k) : SndS c τ (.For tgt iter body [] pos) k := by
  simp only [trFor1, Option.bind_eq_bind, Option.bind_eq_some_iff] at h
  obtain ⟨⟨nm, p⟩, h1, x, hx, R, hR, h⟩ := h
  obtain rfl := nmP?_eq h1
  cases h
  exact fun {A env X M V s ρ ρ' fl} hA ok I e => snd_for (.one hx) hs (trSrc_sound G F hR) hb hA ok I (show _ from e)
theorem trFor_sound {tgt iter : Expr} {body : List Stmt} {B : C} {pos : Pos} {k : C} (hb : SndB c τ body B) (h : trFor c.fnames c.hasPat n τ tgt iter B = some k) : SndS c τ (.For tgt iter body [] pos) k := by
  unfold trFor at h
  split at h
  · cases h
  · rename_i hs
    have hs : notSet iter = true := by simpa using hs
    exact fun {A env X M V s ρ ρ' fl} hA ok I e => trFor1_sound G F hs hb h hA ok I e

theorem trRet_sound {v : Option Expr} {pos : Pos} {k : C} (h : trRet c.fnames c.hasPat n τ v = some k) : SndS c τ (.Return v pos) k := by
  simp only [trRet, Option.bind_eq_bind, Option.bind_eq_some_iff] at h
  obtain ⟨e, rfl, h⟩ := h
  cases h1 : nmP? e with
  | some q =>
    obtain ⟨nm, p⟩ := q
    obtain rfl := nmP?_eq h1
    simp only [h1, trRetv] at h
    split at h
    · cases h
    · rename_i hn
      simp only [Option.bind_eq_bind, Option.bind_eq_some_iff] at h
      obtain ⟨x, hx, h⟩ := h
      cases h
      exact fun {A env X M V s ρ ρ' fl} hA ok I e => snd_retv (by simpa using hn) hx hA ok I e
  | none =>
    simp only [h1, Option.map_eq_some_iff] at h
    obtain ⟨y, hy, rfl⟩ := h
    exact snd_ret (trE_sound G F hy)
end

theorem trS_sound (G : GOk c) (F : FnsOk c) : ∀ {n : Nat} {st : Stmt} {k : C}, trS c.fnames c.hasPat τ n st = some k → SndS c τ st k := by
  intro n
  induction n with
  | zero => intro st k h; cases h
  | succ n ih =>
    intro st k h
    have hf : ∀ {st k}, trS c.fnames c.hasPat τ n st = some k → SndS c τ st k := @ih
    cases st with
    | Assign ts value p =>
      replace h : ((one? ts).bind fun t => trAssign c.fnames c.hasPat n τ t value) = some k := h
      simp only [Option.bind_eq_some_iff] at h
      obtain ⟨t, h1, h⟩ := h
      obtain rfl := one?_eq h1
      exact fun {A env X M V s ρ ρ' fl} hA ok I e => trAssign_sound G F h hA ok I e
    | Expr e p => exact fun {A env X M V s ρ ρ' fl} hA ok I e => trExprS_sound G F h hA ok I e
    | If t a b p =>
      replace h : (do some (C.ite (← trE c.fnames c.hasPat n τ t) (← trBl (trS c.fnames c.hasPat τ n) a) (← trBl (trS c.fnames c.hasPat τ n) b))) = some k := h
      simp only [Option.bind_eq_bind, Option.bind_eq_some_iff] at h
      obtain ⟨t, ht, a, ha, b, hb, h⟩ := h
      cases h
      exact fun {A env X M V s ρ ρ' fl} hA ok I e => snd_ite (trE_sound G F ht) (trBl_sound hf ha) (trBl_sound hf hb) hA ok I e
    | While t b els p =>
      replace h : (if els.isEmpty then do some (C.whil (← trE c.fnames c.hasPat n τ t) (← trBl (trS c.fnames c.hasPat τ n) b)) else none) = some k := h
      split at h
      · rename_i he
        have he : els = [] := by simpa using he
        subst he
        simp only [Option.bind_eq_bind, Option.bind_eq_some_iff] at h
        obtain ⟨t, ht, a, ha, h⟩ := h
        cases h
        exact fun {A env X M V s ρ ρ' fl} hA ok I e => snd_while (trE_sound G F ht) (trBl_sound hf ha) hA ok I e
      · cases h
    | For tgt iter b els p =>
      replace h : (if els.isEmpty then (trBl (trS c.fnames c.hasPat τ n) b).bind (fun B => trFor c.fnames c.hasPat n τ tgt iter B) else none) = some k := h
      split at h
      · rename_i he
        have he : els = [] := by simpa using he
        subst he
        simp only [Option.bind_eq_some_iff] at h
        obtain ⟨B, hB, h⟩ := h
        exact fun {A env X M V s ρ ρ' fl} hA ok I e => trFor_sound G F (trBl_sound hf hB) h hA ok I e
      · cases h
    | Return v p => exact fun {A env X M V s ρ ρ' fl} hA ok I e => trRet_sound G F h hA ok I e
    | Continue p => cases h; exact fun {A env X M V s ρ ρ' fl} hA ok I e => snd_cont hA ok I e
    | _ => cases h
theorem trB_sound (G : GOk c) (F : FnsOk c) {n : Nat} {ss : List Stmt} {k : C} (h : trB c.fnames c.hasPat τ n ss = some k) : SndB c τ ss k := trBl_sound (trS_sound G F) h
end Mine
end
/-! S20 -/
section
open PySem PySem.W PyProof.Rows
set_option linter.unusedSimpArgs false
set_option linter.unusedVariables false
namespace Mine
variable {c : Cx}

/-! ## parameters -/
noncomputable def plainArgs (p : Arguments) : Bool := p.posonlyargs.isEmpty && p.vararg.isNone && p.kwonlyargs.isEmpty && p.kwarg.isNone

set_option tactic.hygienic false in
theorem lookup_split {α : Type} : ∀ (pre l : List (Str × α)) (k : Str) (v : α), k ∉ pre.map (·.1) → (pre ++ (k, v) :: l).lookup k = some v
  | [], l, k, v, _ => by simp [List.lookup_cons]
  | (k', v') :: pre, l, k, v, h => by
    simp only [List.map_cons, List.mem_cons, not_or] at h
    rw [List.cons_append, List.lookup_cons, show (k == k') = false from by simpa using h.1]
    exact lookup_split pre l k v h.2
set_option tactic.hygienic false in
theorem binds_all {α : Type} : ∀ (l pre : List (Str × α)), ((pre ++ l).map (·.1)).Nodup → (l.map (·.1)).filterMap (fun n => ((pre ++ l).lookup n).map (n, ·)) = l
  | [], pre, _ => rfl
  | (k, v) :: l, pre, h => by
    have hk : k ∉ pre.map (·.1) := fun hm => by
      rw [List.map_append, List.nodup_append] at h
      exact h.2.2 k hm k (by simp) rfl
    rw [List.map_cons, List.filterMap_cons, lookup_split pre l k v hk]
    have := binds_all l (pre ++ [(k, v)]) (by simpa using h)
    simp only [List.append_assoc, List.singleton_append] at this
    simp [this]
set_option tactic.hygienic false in
theorem missing_none {α : Type} (l : List (Str × α)) (h : (l.map (·.1)).Nodup) : (l.map (·.1)).filter (fun n => (l.lookup n).isNone) = [] := by
  rw [List.filter_eq_nil_iff]
  intro n hn
  obtain ⟨⟨k, v⟩, hm, rfl⟩ := List.mem_map.mp hn
  obtain ⟨pre, post, rfl⟩ := List.append_of_mem hm
  have hk : k ∉ pre.map (·.1) := fun hm => by
    rw [List.map_append, List.nodup_append] at h
    exact h.2.2 k hm k (by simp) rfl
  rw [lookup_split pre post k v hk]
  simp

set_option tactic.hygienic false in
theorem bind_plain {name : Str} {params : Arguments} {body : List Stmt} {scope : Scope} {pm cd doc : Value} {vs : List Value} (hp : plainArgs params = true) (hl : params.args.length = vs.length) (hn : (params.args.map (·.arg)).Nodup) :
    bindArgs (Calls.docDef name params body scope pm cd doc) ⟨vs, []⟩ = pure ((params.args.map (·.arg)).zip vs) := by
  obtain ⟨po, as, va, ko, kd, kw, df⟩ := params
  simp only [plainArgs, Bool.and_eq_true, List.isEmpty_iff, Option.isNone_iff_eq_none] at hp
  obtain ⟨⟨⟨rfl, rfl⟩, rfl⟩, rfl⟩ := hp
  have hk : (((as.map (·.arg)).zip vs).map (·.1)) = as.map (·.arg) := by
    rw [List.map_fst_zip]; simp; exact Nat.le_of_eq hl
  have hb := binds_all ((as.map (·.arg)).zip vs) [] (by simpa [hk] using hn)
  have hm := missing_none ((as.map (·.arg)).zip vs) (by simpa [hk] using hn)
  rw [hk] at hb hm
  simp only [List.nil_append] at hb
  simp only at hl
  have hgt : ¬ vs.length > as.length := by (first | lia | omega)
  have ht : List.take vs.length (as.map (·.arg)) = as.map (·.arg) := List.take_of_length_le (by simp [hl])
  unfold bindArgs
  simp [Calls.docDef, seqItems?, notAStandIn, hl, hgt, -List.filterMap_map]
  rw [hb]
  refine if_neg ?_
  have e0 : List.filter (fun n => (List.lookup n ((List.map (fun x => x.arg) as).zip vs)).isNone) (List.take ((List.map (fun x => x.arg) ([] : List Arg) ++ List.map (fun x => x.arg) as).length - (List.drop ((#[] : Array Value).size - (List.map (fun x => x.arg) ([] : List Arg) ++ List.map (fun x => x.arg) as).length) ([] : List Value)).length) (List.map (fun x => x.arg) ([] : List Arg) ++ List.map (fun x => x.arg) as)) = [] := by
    rw [List.take_of_length_le (by simp)]
    exact hm
  rw [e0]
  simp

/-! ## what stands in the frame -/
set_option tactic.hygienic false in
theorem bindL_skip {kindOf : Str → Option NameKind} : ∀ (l : List (Str × Value)) (m : Str → Option Value) (n : Str), n ∉ l.map (·.1) → bindL kindOf l m n = m n
  | [], m, n, _ => rfl
  | (k, v) :: l, m, n, h => by
    simp only [List.map_cons, List.mem_cons, not_or] at h
    unfold bindL
    rw [bindL_skip l _ n h.2]
    split
    · exact if_neg h.1
    · rfl
set_option tactic.hygienic false in
theorem bindC_skip {kindOf : Str → Option NameKind} : ∀ (l : List (Str × Value)) (m : Str → Option Value) (n : Str), n ∉ l.map (·.1) → bindC kindOf l m n = m n
  | [], m, n, _ => rfl
  | (k, v) :: l, m, n, h => by
    simp only [List.map_cons, List.mem_cons, not_or] at h
    unfold bindC
    rw [bindC_skip l _ n h.2]
    split
    · rfl
    · exact if_neg h.1
set_option tactic.hygienic false in
theorem bindL_at {kindOf : Str → Option NameKind} : ∀ (l : List (Str × Value)) (m : Str → Option Value) (x : Nat) (n : Str) (v : Value), (l.map (·.1)).Nodup → l[x]? = some (n, v) → kindOf n = some .local → bindL kindOf l m n = some v
  | (k, u) :: l, m, 0, n, v, hn, h, hk => by
    simp at h
    obtain ⟨rfl, rfl⟩ := h
    simp only [List.map_cons, List.nodup_cons] at hn
    unfold bindL
    rw [bindL_skip l _ k hn.1, if_pos hk]
    simp
  | (k, u) :: l, m, x + 1, n, v, hn, h, hk => by
    simp only [List.map_cons, List.nodup_cons] at hn
    unfold bindL
    exact bindL_at l _ x n v hn.2 (by simpa using h) hk
set_option tactic.hygienic false in
theorem bindC_at {kindOf : Str → Option NameKind} : ∀ (l : List (Str × Value)) (m : Str → Option Value) (x : Nat) (n : Str) (v : Value), (l.map (·.1)).Nodup → l[x]? = some (n, v) → kindOf n ≠ some .local → bindC kindOf l m n = some v
  | (k, u) :: l, m, 0, n, v, hn, h, hk => by
    simp at h
    obtain ⟨rfl, rfl⟩ := h
    simp only [List.map_cons, List.nodup_cons] at hn
    unfold bindC
    rw [bindC_skip l _ k hn.1, if_neg hk]
    simp
  | (k, u) :: l, m, x + 1, n, v, hn, h, hk => by
    simp only [List.map_cons, List.nodup_cons] at hn
    unfold bindC
    exact bindC_at l _ x n v hn.2 (by simpa using h) hk

set_option tactic.hygienic false in
theorem cellsFrom_acc {nm : Str} {a : Addr} : ∀ (names : List (Str × NameKind)) (n : Nat) (acc : List (Str × Addr)), (nm, a) ∈ acc → (nm, a) ∈ cellsFrom n names acc
  | [], n, acc, h => h
  | (k, kd) :: r, n, acc, h => by
    unfold cellsFrom
    split
    · exact cellsFrom_acc r _ _ (List.mem_cons_of_mem _ h)
    · exact cellsFrom_acc r _ _ h
set_option tactic.hygienic false in
theorem cellsFrom_has {nm : Str} : ∀ (names : List (Str × NameKind)) (n : Nat) (acc : List (Str × Addr)), (nm, NameKind.cell) ∈ names → ∃ a, (nm, a) ∈ cellsFrom n names acc
  | (k, kd) :: r, n, acc, h => by
    unfold cellsFrom
    rcases List.mem_cons.mp h with e | h
    · cases e
      rw [if_pos (by decide)]
      exact ⟨n, cellsFrom_acc r _ _ List.mem_cons_self⟩
    · split
      · exact cellsFrom_has r _ _ h
      · exact cellsFrom_has r _ _ h
set_option tactic.hygienic false in
theorem lookup_has {α : Type} : ∀ {l : List (Str × α)} {n : Str} {a : α}, (n, a) ∈ l → ∃ b, l.lookup n = some b
  | (k, v) :: r, n, a, h => by
    rw [List.lookup_cons]
    cases hb : n == k with
    | true => exact ⟨v, rfl⟩
    | false =>
      rcases List.mem_cons.mp h with e | h
      · cases e; simp at hb
      · exact lookup_has h
theorem cells_lookup {nm : Str} {names : List (Str × NameKind)} {n : Nat} (h : names.lookup nm = some .cell) : ∃ a, (cellsFrom n names []).lookup nm = some a :=
  let ⟨_, h1⟩ := cellsFrom_has names n [] (mem_of_lookup h)
  lookup_has h1

/-! ## a function stands -/
noncomputable def FnDef (h : Heap) (a : Addr) (d : DefRec) : Prop := ∃ o pm cd doc, h.get? a = some o ∧ o.data = .func (Calls.docDef d.name d.params d.body d.scope pm cd doc) ∧ h.CodeRec cd d.name

noncomputable def ftOf (d : DefRec) : List Str := (d.scope.names.filter fun x => x.2 == .local || x.2 == .cell).map (·.1)
noncomputable def asOf (d : DefRec) : List Str := d.params.args.map (·.arg)
noncomputable def txOf (d : DefRec) : Tx := ⟨d.scope.names, ftOf d, [], false⟩
noncomputable def headOk (d : DefRec) : Bool := plainArgs d.params && d.scope.kind == .function && !d.scope.isGenerator && !d.scope.isCoroutine && (asOf d).isPrefixOf (ftOf d) && decide (d.scope.names.map (·.1)).Nodup

set_option tactic.hygienic false in
theorem lookup_of_mem {α : Type} : ∀ {l : List (Str × α)} {k : Str} {v : α}, (l.map (·.1)).Nodup → (k, v) ∈ l → l.lookup k = some v
  | (k', v') :: l, k, v, hn, h => by
    simp only [List.map_cons, List.nodup_cons] at hn
    rw [List.lookup_cons]
    rcases List.mem_cons.mp h with e | h
    · cases e; simp
    · have : k ≠ k' := fun e => hn.1 (e ▸ List.mem_map.mpr ⟨_, h, rfl⟩)
      rw [show (k == k') = false from by simpa using this]
      exact lookup_of_mem hn.2 h
set_option tactic.hygienic false in
theorem ft_kind {d : DefRec} (hn : (d.scope.names.map (·.1)).Nodup) {x : Nat} {nm : Str} (h : (ftOf d)[x]? = some nm) : (txOf d).kind nm = some .local ∨ (txOf d).kind nm = some .cell := by
  have h1 := List.mem_of_getElem? h
  unfold ftOf at h1
  obtain ⟨⟨k, kd⟩, hm, rfl⟩ := List.mem_map.mp h1
  rw [List.mem_filter] at hm
  have h2 : (txOf d).kind k = some kd := lookup_of_mem hn hm.1
  have h3 : kd = .local ∨ kd = .cell := by simpa using hm.2
  rcases h3 with rfl | rfl
  · exact .inl h2
  · exact .inr h2
set_option tactic.hygienic false in
theorem ft_nodup {d : DefRec} (hn : (d.scope.names.map (·.1)).Nodup) : (ftOf d).Nodup := by
  unfold ftOf
  exact hn.sublist (List.filter_sublist.map _)
set_option tactic.hygienic false in
theorem nodup_get {l : List Str} (h : l.Nodup) {x y : Nat} {n : Str} (h1 : l[x]? = some n) (h2 : l[y]? = some n) : x = y := by
  obtain ⟨hx, ex⟩ := List.getElem?_eq_some_iff.mp h1
  obtain ⟨hy, ey⟩ := List.getElem?_eq_some_iff.mp h2
  rcases Nat.lt_trichotomy x y with q | q | q
  · exact absurd (ex.trans ey.symm) (List.pairwise_iff_getElem.mp h x y hx hy q)
  · exact q
  · exact absurd (ey.trans ex.symm) (List.pairwise_iff_getElem.mp h y x hy hx q)

/-- the frame of a call -/
theorem fn_enter {d : DefRec} {a : Addr} {A : Around} {s : Shared} {X : Addr → Prop} {vs : List Value} {ds : List D} {R : Result → Shared → Prop} (hd : FnDef c.h₀ a d) (hok : headOk d = true) (hnl : c.h₀.NoLimit) (hA : A.depth < recursionLimit)
    (hk : ∀ b o, c.h₀.get? b = some o → s.heap.get? b = some o) (hX : Alive X s.heap) (hr : RepAll X s.heap vs ds) (hl : ds.length = (asOf d).length)
    (h : ∀ env M V s₁, EnvOk (txOf d) env → Grow s s₁ → (∀ b, M b → s.heap.get? b = none) → InvS c (txOf d) env X M V s₁ (ds.map .val ++ List.replicate ((ftOf d).length - (asOf d).length) .unset) →
      wpAny (model c.prog c.w) (A.deeper env) (execs d.body env) (fun f s' => R (.ok (.ret (match f with | .ret v => v | _ => .none))) s') NoE s₁) :
    codeAny (model c.prog c.w) A (.call (.ref a) ⟨vs, []⟩) R s := by
  obtain ⟨o, pm, cd, doc, ho, hdata, hcd⟩ := hd
  simp only [headOk, Bool.and_eq_true, Bool.not_eq_true', decide_eq_true_eq, beq_iff_eq] at hok
  obtain ⟨⟨⟨⟨⟨hp, hkind⟩, hgen⟩, hco⟩, hpre⟩, hnd⟩ := hok
  have hpre := List.isPrefixOf_iff_prefix.mp hpre
  have hfn := ft_nodup (d := d) hnd
  have han : (asOf d).Nodup := hfn.sublist hpre.sublist
  have hvl : (asOf d).length = vs.length := by rw [hr.1, hl]
  have hbind := bind_plain (name := d.name) (params := d.params) (body := d.body) (scope := d.scope) (pm := pm) (cd := cd) (doc := doc) (vs := vs) hp (by rw [← hvl]; simp [asOf]) han
  have hkb : ∀ {x : Nat} {nm : Str}, (asOf d)[x]? = some nm → (ftOf d)[x]? = some nm := fun {x nm} e => by
    obtain ⟨t, ht⟩ := hpre
    rw [← ht]
    obtain ⟨hx, ex⟩ := List.getElem?_eq_some_iff.mp e
    rw [List.getElem?_append_left hx]; exact e
  have hzip : (((d.params.args.map (·.arg)).zip vs).map (·.1)) = asOf d := by
    rw [List.map_fst_zip]; rfl; exact Nat.le_of_eq hvl
  refine codeAny_call_cells (fd := Calls.docDef d.name d.params d.body d.scope pm cd doc) (o := o) hA (hk _ _ ho) hdata (hnl.keeps hk) (hcd.keeps hk) rfl hbind rfl (fun x hx => ?_) (fun s₁ I => ?_) hco hgen hkind
  · have h1 : x.1 ∈ asOf d := by rw [← hzip]; exact List.mem_map.mpr ⟨x, hx, rfl⟩
    obtain ⟨i, hi⟩ := List.getElem?_of_mem h1
    rcases ft_kind hnd (hkb hi) with h2 | h2
    · exact .inl h2
    · exact .inr ⟨h2, by obtain ⟨b, hb⟩ := cells_lookup (n := s.heap.objs.size + 1) (show d.scope.names.lookup x.1 = some .cell from h2); show ((cellsFrom (s.heap.objs.size + 1) d.scope.names []).lookup x.1).isSome = true; rw [hb]; rfl⟩
  generalize henv : callEnvC (Calls.docDef d.name d.params d.body d.scope pm cd doc) s.heap.objs.size a = env at I ⊢
  have eL : env.locals = s.heap.objs.size := by rw [← henv]; rfl
  have eC : env.cells = cellsFrom (s.heap.objs.size + 1) d.scope.names [] := by rw [← henv]; rfl
  have eN : env.scope = d.scope := by rw [← henv]; rfl
  have eK : ∀ nm, env.kindOf nm = (txOf d).kind nm := fun nm => by unfold Env.kindOf Tx.kind; rw [eN]; rfl
  have hg : Grow s s₁ := by
    obtain ⟨h', tk, e⟩ := I.toInCall.same
    exact ⟨by rw [e], by rw [e], I.toInCall.keep⟩
  have ok : EnvOk (txOf d) env := by
    refine ⟨by rw [eN]; exact hkind, by rw [eN]; rfl, by rw [← henv]; rfl, by rw [← henv]; rfl, rfl, fun n n' b h1 h2 => name_of_addr I.apart (mem_of_lookup h1) (mem_of_lookup h2), fun x nm h => ft_kind hnd h, fun x y nm h1 h2 => nodup_get hfn h1 h2⟩
  have hdead : ∀ b, (b = env.locals ∨ ∃ nm, env.cells.lookup nm = some b) → s.heap.get? b = none := fun b hb => by
    cases q : s.heap.get? b with
    | none => rfl
    | some ob =>
      have hlt : @LT.lt Nat instLTNat b s.heap.objs.size := Heap.lt_size q
      rcases hb with hb | ⟨nm, hb⟩
      · rw [hb, eL] at hlt; exact absurd hlt (Nat.lt_irrefl _)
      · have : @LT.lt Nat instLTNat env.locals b := I.above nm b (mem_of_lookup hb)
        rw [eL] at this
        exact absurd (Nat.lt_trans this hlt) (Nat.lt_irrefl _)
  refine wpAny_mono (h env (fun b => b = env.locals ∨ ∃ nm, env.cells.lookup nm = some b) (fun nm => if env.kindOf nm = some .local then bindL env.kindOf ((d.params.args.map (·.arg)).zip vs) (fun _ => none) nm else bindC env.kindOf ((d.params.args.map (·.arg)).zip vs) (fun _ => none) nm) s₁ ok hg hdead ?_) (fun _ _ e => e) fun _ _ e => e.elim
  refine ⟨fun b ob e => hg.keep b ob (hk b ob e), fun b hb => ?_, fun b hb hXb => hX b hXb (hdead b hb), fun b hb => ?_, ⟨_, I.toInCall.ns, fun nm hkn => ?_⟩, fun nm hkn => ?_, .inl rfl, ?_, fun x nm sl h1 h2 => ?_, fun x y nx ny xs ys b hxy h1 h2 h3 h4 h5 h6 => ?_⟩
  · rcases hb with (hb | ⟨nm, hb⟩) | hb
    · obtain ⟨ob, _, _, hob, _⟩ := I.toInCall.ns
      rw [hb, hob]; simp
    · obtain ⟨ob, hob, _⟩ := I.cell nm b hb
      rw [hob]; simp
    · intro hno
      cases q : s.heap.get? b with
      | none => exact hX b hb q
      | some ob => rw [hg.keep b ob q] at hno; cases hno
  · cases q : c.h₀.get? b with
    | none => rfl
    | some ob => have := hdead b hb; rw [hk b ob q] at this; cases this
  · rw [if_pos (by rw [eK]; exact hkn)]
  · obtain ⟨b, hb⟩ := cells_lookup (n := s.heap.objs.size + 1) (show d.scope.names.lookup nm = some .cell from hkn)
    rw [← eC] at hb
    refine ⟨b, hb, .inr ⟨nm, hb⟩, ?_⟩
    rw [if_neg (by rw [eK, hkn]; decide)]
    exact I.cell nm b hb
  · have := hpre.length_le
    simp [hl]
    show _ = (ftOf d).length
    (first | lia | omega)
  · by_cases hx : x < ds.length
    · rw [List.getElem?_append_left (by simpa using hx)] at h2
      simp [hx] at h2
      subst h2
      have hxa : x < (asOf d).length := by (first | lia | omega)
      have ha : (asOf d)[x]? = some nm := by
        rw [← h1]
        show _ = (ftOf d)[x]?
        rw [hkb (List.getElem?_eq_getElem hxa)]
        exact List.getElem?_eq_getElem hxa
      have hxv : x < vs.length := by (first | lia | omega)
      have hz : ((d.params.args.map (·.arg)).zip vs)[x]? = some (nm, vs[x]) := by
        rw [List.getElem?_zip_eq_some]
        exact ⟨ha, by simp [hxv]⟩
      refine ⟨vs[x], ?_, ((hr.2 x vs[x] ds[x] (by simp [hxv]) (by simp [hx])).mono fun b ob hnb e => ⟨hg.keep b ob e, fun hb => ?_⟩)⟩
      · show (if _ then _ else _) = _
        split
        · rename_i hloc
          exact bindL_at _ _ x nm _ (by rw [hzip]; exact han) hz hloc
        · rename_i hloc
          exact bindC_at _ _ x nm _ (by rw [hzip]; exact han) hz hloc
      · rcases hb with hb | hb
        · rw [hdead b hb] at e; cases e
        · exact hnb hb
    · rw [List.getElem?_append_right (by simp; (first | lia | omega)), List.getElem?_replicate] at h2
      split at h2
      · cases h2; trivial
      · cases h2
  · by_cases hx : x < ds.length
    · rw [List.getElem?_append_left (by simpa using hx)] at h3
      simp [hx] at h3
    · rw [List.getElem?_append_right (by simp; (first | lia | omega)), List.getElem?_replicate] at h3
      split at h3 <;> cases h3
end Mine
end
/-! S21 -/
section
open PySem PySem.W PyProof.Rows
set_option linter.unusedSimpArgs false
set_option linter.unusedVariables false
namespace Mine
variable {c : Cx}

/-! ## the two native functions -/
set_option tactic.hygienic false in
theorem eval_patmatch {τ : Tx} {A : Around} {env : Env} {N : Addr → Prop} {s : Shared} {ρ : List Slot} {g : Nat} {code : Array Nat} {nm arg : Str} {p p' apos pos : Pos} {x : List Nat} {P : Addr} {Q : Value → Shared → Prop} (G : GOk c) (hA : AOk c.n A) (I : InvE c.h₀ τ env N s.heap ρ []) (hd : (nm == ("__debug__" : Str)) = false)
    (hk : τ.kind nm = some .globalImplicit) (hg : c.mg nm = some (.ref P)) (hp : IsPat c.h₀ P g code) (hline : (apos.endLine == pos.line) = true) (ha : SndE c τ (.Name arg p') (.var 0)) (h0 : ev c.Φ ρ [] (.var 0) = some (.str x))
    (h : ∀ s₁ t, Grow s s₁ → wpAny (model c.prog c.w) A (call (.builtin "re.Pattern.match") [.ref P, .str (S x) t]) Q NoE s₁) :
    wpAny (model c.prog c.w) A (eval (.Call (.Attribute (.Name nm p) "match" apos) [.Name arg p'] [] pos) env) Q NoE s := by
  have hL : SndL c τ [.Name arg p'] (.cons (.var 0) .nil) := .cons ha .nil
  refine wpAny_Call_method_lateS (base_plain rfl) (few hL env pos (by simp)) hline (eval_global G I hd hk hg ?_)
  have hpat' := hp.keeps I.keep
  have hT : s.TypeIs (.ref P) "re.Pattern" := by obtain ⟨f0, f1, f3, f4, C, n, hP, hC⟩ := hpat'; exact ⟨_, hP, rfl⟩
  have hdn : ∀ a, Value.ref P = .ref a → ∃ ob, s.heap.get? a = some ob ∧ ob.dict = none := fun a e => by
    cases e; obtain ⟨f0, f1, f3, f4, C, n, hP, hC⟩ := hpat'; exact ⟨_, hP, rfl⟩
  refine ⟨"re.Pattern", "re.Pattern.match", plainAttrs_pat, slot_pat_match, type_pat_match, hT, hdn, ?_⟩
  refine Calls.callWith_builtin (hL.noStar env pos).1 ?_
  rw [starEach_cons ha.nst]
  refine Calls.evalArgs_plain (Calls.spliced_cons (wpAny_mono (ha.val hA I h0) (fun v s₁ o => Calls.spliced_nil ?_) fun _ _ e => e))
  show wpAny _ A (call (.builtin "re.Pattern.match") [.ref P, v] []) _ _ s₁
  obtain ⟨t, rfl, h1⟩ := Rep.inv_str o.rep
  exact h s₁ t o.grow

structure NatOk (c : Cx) (d : DefRec) (pat : Str) (groups : Nat) (code : Array Nat) : Prop where
  head : headOk d = true
  as : asOf d = [("line" : Str)]
  nm : trName (txOf d) "line" = some (.var 0)
  dbg : (pat == ("__debug__" : Str)) = false
  kind : (txOf d).kind pat = some .globalImplicit
  at' : ∃ P, c.mg pat = some (.ref P) ∧ IsPat c.h₀ P groups code
noncomputable def WhiteBody (body : List Stmt) : Prop := ∃ p p' apos pos kk p2 cp rp, (apos.endLine == pos.line) = true ∧
  body = [.Return (some (.Compare (.Call (.Attribute (.Name "_twin_re_2" p) "match" apos) [.Name "line" p'] [] pos) [.IsNot] [.Constant .none kk p2] cp)) rp]
noncomputable def IndentBody (body : List Stmt) : Prop := ∃ p p' apos pos apos2 pos2 rp, (apos.endLine == pos.line) = true ∧ (apos2.endLine == pos2.line) = true ∧
  body = [.Return (some (.Call (.Attribute (.Call (.Attribute (.Name "_twin_re_3" p) "match" apos) [.Name "line" p'] [] pos) "group" apos2) [] [] pos2)) rp]

set_option tactic.hygienic false in
theorem fn_white {d : DefRec} {a : Addr} {A : Around} {s : Shared} {X : Addr → Prop} {vs : List Value} {x : List Nat} (G : GOk c) (hd : FnDef c.h₀ a d) (ok : NatOk c d "_twin_re_2" 0 code2) (hb : WhiteBody d.body) (hA : AOk (c.n + 1) A) (hx : x.length < 1000000)
    (hk : ∀ b o, c.h₀.get? b = some o → s.heap.get? b = some o) (hX : Alive X s.heap) (hr : RepAll X s.heap vs [.str x]) :
    codeAny (model c.prog c.w) A (.call (.ref a) ⟨vs, []⟩) (fun r s' => ∃ v, r = .ok (.ret v) ∧ Grow s s' ∧ Rep X s'.heap v (.bool (x.all isWs))) s := by
  obtain ⟨p, p', apos, pos, kk, p2, cp, rp, hline, hbody⟩ := hb
  obtain ⟨P, hmg, hpat⟩ := ok.at'
  refine fn_enter hd ok.head G.nolimit (by have := hA.2.1; (first | lia | omega)) hk hX hr (by rw [ok.as]; rfl) fun env M V s₁ eok g hM I => ?_
  have I₁ := I.toE eok
  have hA' := hA.deeper env
  rw [hbody]
  refine wpAny_execs_cons (wpAny_Return_some (wpAny_Compare1 (eval_patmatch G hA' I₁ ok.dbg ok.kind hmg hpat hline (good_name ok.nm) (x := x) rfl fun s₂ t g₂ => ?_) rfl))
  refine wpAny_mono (call_match2 (hpat.keeps (I₁.grow g₂).keep) hx) (fun r s₃ h₃ => ?_) fun _ _ e => e
  obtain ⟨g₃, hr, hn⟩ := h₃
  rw [eval_Constant]
  refine wpAny_pure (wpAny_isNot_plain ?_ ?_)
  · rcases hn with rfl | ⟨q, rfl⟩ <;> rfl
  · refine ⟨_, rfl, (g.trans g₂).trans g₃, ?_⟩
    rw [hr]
    simp only [Bool.not_not]
    exact .bool _

set_option tactic.hygienic false in
theorem fn_indent {d : DefRec} {a : Addr} {A : Around} {s : Shared} {X : Addr → Prop} {vs : List Value} {x : List Nat} (G : GOk c) (hd : FnDef c.h₀ a d) (ok : NatOk c d "_twin_re_3" 1 code3) (hb : IndentBody d.body) (hA : AOk (c.n + 1) A) (hx : x.length < 1000000)
    (hk : ∀ b o, c.h₀.get? b = some o → s.heap.get? b = some o) (hX : Alive X s.heap) (hr : RepAll X s.heap vs [.str x]) :
    codeAny (model c.prog c.w) A (.call (.ref a) ⟨vs, []⟩) (fun r s' => ∃ v, r = .ok (.ret v) ∧ Grow s s' ∧ Rep X s'.heap v (.str (indentOf x))) s := by
  obtain ⟨p, p', apos, pos, apos2, pos2, rp, hline, hline2, hbody⟩ := hb
  obtain ⟨P, hmg, hpat⟩ := ok.at'
  refine fn_enter hd ok.head G.nolimit (by have := hA.2.1; (first | lia | omega)) hk hX hr (by rw [ok.as]; rfl) fun env M V s₁ eok g hM I => ?_
  have I₁ := I.toE eok
  have hA' := hA.deeper env
  rw [hbody]
  refine wpAny_execs_cons (wpAny_Return_some ?_)
  refine wpAny_Call_method_lateS (base_plain rfl) (few (.nil : SndL c (txOf d) [] .nil) env pos2 (by simp)) hline2 ?_
  refine eval_patmatch G hA' I₁ ok.dbg ok.kind hmg hpat hline (good_name ok.nm) (x := x) rfl fun s₂ t g₂ => ?_
  refine wpAny_mono (call_match3 (hpat.keeps (I₁.grow g₂).keep) hx) (fun r s₃ h₃ => ?_) fun _ _ e => e
  obtain ⟨g₃, q, rfl, hm⟩ := h₃
  have hm' := hm
  obtain ⟨_, _, _, _, _, _, _, _, hq, _⟩ := hm'
  refine ⟨"re.Match", "re.Match.group", plainAttrs_match, slot_match_group, type_match_group, ⟨_, hq, rfl⟩, fun a e => by cases e; exact ⟨_, hq, rfl⟩, ?_⟩
  refine Calls.callWith_builtin ((.nil : SndL c (txOf d) [] .nil).noStar env pos2).1 ?_
  refine PySem.evalArgs_none ?_
  show wpAny _ _ (call (.builtin "re.Match.group") [.ref q] []) _ _ s₃
  refine wpAny_mono (call_group (N := X) hm hx) (fun v s₄ o => ?_) fun _ _ e => e
  refine ⟨_, rfl, ((g.trans g₂).trans g₃).trans o.grow, ?_⟩
  have := o.rep
  rw [show x.take (indentOf x).length = indentOf x from ?_] at this
  · exact this
  · unfold indentOf
    exact (List.prefix_iff_eq_take.mp (List.takeWhile_prefix _)).symm
end Mine
end
/-! S22 -/
section
open PySem PySem.W PyProof.Rows
set_option linter.unusedSimpArgs false
set_option linter.unusedVariables false
namespace Mine
variable {c : Cx}

/-! ## the written functions -/
noncomputable def compile (fnames : List Str) (hasPat : Bool) (d : DefRec) : Option Fun :=
  if headOk d then (trB fnames hasPat (txOf d) 60 d.body).map fun k => ⟨(asOf d).length, (ftOf d).length, k⟩ else none

theorem fn_compiled {d : DefRec} {a : Addr} {f : Fun} {A : Around} {s : Shared} {X : Addr → Prop} {vs : List Value} {ds : List D} {v : D} {fr : Bool} (G : GOk c) (F : FnsOk c) (hd : FnDef c.h₀ a d) (hc : compile c.fnames c.hasPat d = some f) (hA : AOk (c.n + 1) A)
    (hk : ∀ b o, c.h₀.get? b = some o → s.heap.get? b = some o) (hX : Alive X s.heap) (hr : RepAll X s.heap vs ds) (e : runF c.Φ f ds = some (v, fr)) :
    codeAny (model c.prog c.w) A (.call (.ref a) ⟨vs, []⟩) (fun r s' => ∃ u, r = .ok (.ret u) ∧ Grow s s' ∧ Rep X s'.heap u v ∧ (fr = true → ∀ xs, v = .list xs → ∃ b, u = .ref b ∧ s.heap.get? b = none)) s := by
  unfold compile at hc
  split at hc
  · rename_i hok
    simp only [Option.map_eq_some_iff] at hc
    obtain ⟨k, hk', rfl⟩ := hc
    unfold runF at e
    split at e
    · rename_i hl
      have hB : SndB c (txOf d) d.body k := trB_sound G F hk'
      refine fn_enter hd hok G.nolimit (by have := hA.2.1; (first | lia | omega)) hk hX hr hl fun env M V s₁ eok g hM I => ?_
      have hA' := hA.deeper env
      have fin : ∀ {M' : Addr → Prop} {s' : Shared}, Step M s₁ M' s' → Grow s s' := fun {M' s'} st => ⟨st.kb.os.trans g.os, st.kb.gens.trans g.gens, fun b o q => st.kb.keep b o (fun hb => by rw [hM b hb] at q; cases q) (g.keep b o q)⟩
      split at e
      · rename_i ρ' v' fr' hex
        cases e
        refine wpAny_mono (hB hA' eok I hex) (fun fl s' h' => ?_) fun _ _ e => e
        obtain ⟨M', V', st, I', u, rfl, r, fresh⟩ := h'
        refine ⟨u, rfl, fin st, r.mono fun b o hn q => ⟨q, fun hb => hn (.inr hb)⟩, fun hf xs hx => ?_⟩
        obtain ⟨b, rfl, hb⟩ := fresh hf xs hx
        exact ⟨b, rfl, hb.elim (hM b) fun h => get_none_back g h⟩
      · rename_i ρ' hex
        cases e
        refine wpAny_mono (hB hA' eok I hex) (fun fl s' h' => ?_) fun _ _ e => e
        obtain ⟨M', V', st, I', rfl⟩ := h'
        exact ⟨.none, rfl, fin st, .none, fun h => by cases h⟩
      · cases e
    · cases e
  · cases hc

noncomputable def Cx.lev (c : Cx) (fs : List Fun) (n : Nat) : Cx := { c with Φ := Phi fs n, n := n }
theorem GOk.lev (G : GOk c) (fs : List Fun) (n : Nat) : GOk (c.lev fs n) := ⟨G.g, G.b, G.nolimit, G.bl, G.bool, G.rev, G.zip, G.fn, G.pat⟩
theorem NatOk.lev {d : DefRec} {pat : Str} {g : Nat} {code : Array Nat} (h : NatOk c d pat g code) (fs : List Fun) (n : Nat) : NatOk (c.lev fs n) d pat g code := ⟨h.head, h.as, h.nm, h.dbg, h.kind, h.at'⟩

structure ProgOk (c : Cx) (fs : List Fun) : Prop where
  white : ∀ nm : Str, c.fnames[0]? = some nm → nm ≠ "" → ∃ a d, c.fas[0]? = some a ∧ FnDef c.h₀ a d ∧ NatOk c d "_twin_re_2" 0 code2 ∧ WhiteBody d.body
  indent : ∃ a d, c.fas[1]? = some a ∧ FnDef c.h₀ a d ∧ NatOk c d "_twin_re_3" 1 code3 ∧ IndentBody d.body
  fns : ∀ (k : Nat) (nm : Str), c.fnames[k + 2]? = some nm → ∃ a d f, c.fas[k + 2]? = some a ∧ FnDef c.h₀ a d ∧ fs[k]? = some f ∧ compile c.fnames c.hasPat d = some f

theorem all_ok {fs : List Fun} (G : GOk c) (P : ProgOk c fs) : ∀ n, FnsOk (c.lev fs n)
  | 0 => fun i a nm ds d fr _ _ _ h => by cases h
  | n + 1 => fun i a nm ds d fr hnm hne ha h A s X vs hA hk hX hr => by
    replace h : Phi fs (n + 1) i ds = some (d, fr) := h
    have G' := G.lev fs n
    unfold Phi at h
    split at h
    · split at h
      · rename_i hx
        cases h
        obtain ⟨a', d', h1, h2, h3, h4⟩ := P.white nm hnm hne
        have : a = a' := by have := ha.symm.trans h1; exact Option.some.inj this
        subst this
        refine codeAny_mono (fn_white (c := c.lev fs n) G' h2 (h3.lev fs n) h4 hA hx hk hX hr) fun r s' hq => ?_
        obtain ⟨v, e, g, rep⟩ := hq
        exact ⟨v, e, g, rep, fun h => by cases h⟩
      · cases h
    · split at h
      · rename_i hx
        cases h
        obtain ⟨a', d', h1, h2, h3, h4⟩ := P.indent
        have : a = a' := by have := ha.symm.trans h1; exact Option.some.inj this
        subst this
        refine codeAny_mono (fn_indent (c := c.lev fs n) G' h2 (h3.lev fs n) h4 hA hx hk hX hr) fun r s' hq => ?_
        obtain ⟨v, e, g, rep⟩ := hq
        exact ⟨v, e, g, rep, fun h => by cases h⟩
      · cases h
    · rename_i k
      obtain ⟨a', d', f, h1, h2, h3, h4⟩ := P.fns k nm hnm
      have : a = a' := by have := ha.symm.trans h1; exact Option.some.inj this
      subst this
      rw [h3] at h
      exact fn_compiled (c := c.lev fs n) G' (all_ok G P n) h2 h4 hA hk hX hr h
    · cases h
end Mine
end
/-! S23 -/
section
open PySem PySem.W PyProof.Rows
set_option linter.unusedSimpArgs false
set_option linter.unusedVariables false
namespace Mine

/-! ## the top -/
noncomputable def needed : List Str := ["len", "min", "max", "sum", "chr", "ord", "range", "list", "isinstance", "bool", "reversed", "zip"]
noncomputable def freeB (q : Program) (lo : List Str) (x : Str) : Bool := !(startupNames.contains x || lo.contains x || ((recsOf q).map (·.name)).contains x || ((litsOf q).map (·.1)).contains x || ((clssOf q lo).map (·.name)).contains x)
noncomputable def recOf (q : Program) (nm : Str) : Option DefRec := (recsOf q).find? fun d => d.name == nm

set_option tactic.hygienic false in
theorem boot_fn : ∀ f : Fn, bootBuiltins (fnName f) = some (fnVal f) ∧ fnName f ≠ "__name__" ∧ fnName f ∈ needed
  | .len => by decide +kernel
  | .min => by decide +kernel
  | .max => by decide +kernel
  | .sum => by decide +kernel
  | .chr => by decide +kernel
  | .ord => by decide +kernel
  | .range => by decide +kernel
  | .list => by decide +kernel
  | .isBool => by decide +kernel
set_option tactic.hygienic false in
theorem boot_three : (bootBuiltins "bool" = some (.type "bool") ∧ bootBuiltins "reversed" = some (.type "reversed") ∧ bootBuiltins "zip" = some (.type "zip")) := by decide +kernel

section
variable {q : Program} {lo : List Str} {mean : ExcName → Option Value} {mg mb : Str → Option Value} {h : Heap}
set_option tactic.hygienic false in
theorem Top.not (T : Top q lo mean mg mb h) {x : Str} (hx : freeB q lo x = true) : mg x = none := by
  simp only [freeB, Bool.not_eq_true', Bool.or_eq_false_iff, List.contains_iff_mem] at hx
  obtain ⟨⟨⟨⟨h1, h2⟩, h3⟩, h4⟩, h5⟩ := hx
  refine T.free x (fun e => ?_) (fun e => ?_) (fun e => ?_) (fun e => ?_) (fun e => ?_)
  · rw [List.contains_iff_mem.mpr e] at h1; cases h1
  · rw [List.contains_iff_mem.mpr e] at h2; cases h2
  · rw [List.contains_iff_mem.mpr e] at h3; cases h3
  · rw [List.contains_iff_mem.mpr e] at h4; cases h4
  · rw [List.contains_iff_mem.mpr e] at h5; cases h5
set_option tactic.hygienic false in
theorem Top.fnDef (T : Top q lo mean mg mb h) {nm : Str} {d : DefRec} (hd : recOf q nm = some d) : ∃ a, mg nm = some (.ref a) ∧ FnDef h a d := by
  have hn : d.name = nm := beq_iff_eq.mp (List.find?_some (p := fun e : DefRec => e.name == nm) hd)
  obtain ⟨a, o, pm, cd, doc, h1, h2, h3, h4⟩ := T.fn d (List.mem_of_find?_eq_some hd)
  exact ⟨a, hn ▸ h1, o, pm, cd, doc, h2, h3, h4⟩
end

noncomputable def addrOf (mg : Str → Option Value) (nm : Str) : Addr := match mg nm with
  | some (.ref a) => a
  | _ => 0

/-! ## the natives, looked at by a program -/
noncomputable def isVar0 : Option E → Bool
  | some (.var 0) => true
  | _ => false
set_option tactic.hygienic false in
theorem isVar0_eq {x : Option E} (h : isVar0 x = true) : x = some (.var 0) := by
  unfold isVar0 at h
  split at h
  · rfl
  · cases h
noncomputable def natB (d : DefRec) (pat : Str) : Bool := headOk d && asOf d == [("line" : Str)] && isVar0 (trName (txOf d) "line") && !(pat == ("__debug__" : Str)) && (txOf d).kind pat == some .globalImplicit
/-! each look goes one step down -/
noncomputable def ret? : List Stmt → Option Expr
  | [.Return (some e) _] => some e
  | _ => none
noncomputable def name? (e : Expr) : Option Str := (nmP? e).map (·.1)
noncomputable def isNot? : Expr → Option (Expr × List Expr)
  | .Compare l [.IsNot] rs _ => some (l, rs)
  | _ => none
noncomputable def noneK? : Expr → Bool
  | .Constant .none _ _ => true
  | _ => false
set_option tactic.hygienic false in
theorem ret?_eq {b : List Stmt} {e : Expr} (h : ret? b = some e) : ∃ p, b = [.Return (some e) p] := by
  unfold ret? at h; split at h <;> cases h; exact ⟨_, rfl⟩
set_option tactic.hygienic false in
theorem name?_eq {e : Expr} {n : Str} (h : name? e = some n) : ∃ p, e = .Name n p := by
  simp only [name?, Option.map_eq_some_iff] at h
  obtain ⟨⟨x, p⟩, h, rfl⟩ := h
  exact ⟨p, nmP?_eq h⟩
set_option tactic.hygienic false in
theorem isNot?_eq {e l : Expr} {rs : List Expr} (h : isNot? e = some (l, rs)) : ∃ p, e = .Compare l [.IsNot] rs p := by
  unfold isNot? at h; split at h <;> cases h; exact ⟨_, rfl⟩
set_option tactic.hygienic false in
theorem noneK?_eq {e : Expr} (h : noneK? e = true) : ∃ k p, e = .Constant .none k p := by
  unfold noneK? at h; split at h; exact ⟨_, _, rfl⟩; cases h
/-- pat.match(line) -/
noncomputable def matchCall? (pat : Str) (e : Expr) : Bool :=
  match call? e with
  | none => false
  | some (f, as, kws, pos) => kws.isEmpty && (match attr? f with
    | none => false
    | some (o, n, apos) => n == ("match" : Str) && name? o == some pat && as.length == 1 && (as.all fun a => name? a == some ("line" : Str)) && apos.endLine == pos.line)
set_option tactic.hygienic false in
theorem matchCall?_eq {pat : Str} {e : Expr} (h : matchCall? pat e = true) : ∃ p p' apos pos, (apos.endLine == pos.line) = true ∧ e = .Call (.Attribute (.Name pat p) "match" apos) [.Name "line" p'] [] pos := by
  unfold matchCall? at h
  cases h1 : call? e with
  | none => rw [h1] at h; cases h
  | some q =>
    obtain ⟨f, as, kws, pos⟩ := q
    rw [h1] at h
    simp only [Bool.and_eq_true] at h
    obtain ⟨hk, h⟩ := h
    cases h2 : attr? f with
    | none => rw [h2] at h; cases h
    | some q =>
      obtain ⟨o, n, apos⟩ := q
      rw [h2] at h
      simp only [Bool.and_eq_true, beq_iff_eq] at h
      obtain ⟨⟨⟨⟨rfl, h3⟩, h4⟩, h5⟩, h6⟩ := h
      obtain ⟨p, rfl⟩ := name?_eq h3
      have hk : kws = [] := by simpa using hk
      subst hk
      match as, h4, h5 with
      | [a], _, h5 =>
        simp only [List.all_cons, List.all_nil, Bool.and_true, beq_iff_eq] at h5
        obtain ⟨p', rfl⟩ := name?_eq h5
        have e1 := attr?_eq h2
        have e2 := call?_eq h1
        subst e1
        exact ⟨p, p', apos, pos, by simpa using h6, e2⟩
noncomputable def whiteB (b : List Stmt) : Bool := match ret? b with
  | none => false
  | some e => match isNot? e with
    | none => false
    | some (l, rs) => matchCall? "_twin_re_2" l && rs.length == 1 && rs.all noneK?
noncomputable def indentB (b : List Stmt) : Bool := match ret? b with
  | none => false
  | some e => match call? e with
    | none => false
    | some (f, as, kws, pos) => as.isEmpty && kws.isEmpty && (match attr? f with
      | none => false
      | some (o, n, apos) => n == ("group" : Str) && matchCall? "_twin_re_3" o && apos.endLine == pos.line)
set_option tactic.hygienic false in
theorem whiteB_ok {b : List Stmt} (h : whiteB b = true) : WhiteBody b := by
  unfold whiteB at h
  cases h1 : ret? b with
  | none => rw [h1] at h; cases h
  | some e =>
    rw [h1] at h
    cases h2 : isNot? e with
    | none => simp only [h2] at h; cases h
    | some q =>
      obtain ⟨l, rs⟩ := q
      simp only [h2, Bool.and_eq_true, beq_iff_eq] at h
      obtain ⟨⟨h3, h4⟩, h5⟩ := h
      obtain ⟨p, p', apos, pos, hl, rfl⟩ := matchCall?_eq h3
      obtain ⟨rp, rfl⟩ := ret?_eq h1
      obtain ⟨cp, rfl⟩ := isNot?_eq h2
      match rs, h4, h5 with
      | [r], _, h5 =>
        simp only [List.all_cons, List.all_nil, Bool.and_true] at h5
        obtain ⟨k, p2, rfl⟩ := noneK?_eq h5
        exact ⟨p, p', apos, pos, k, p2, cp, rp, hl, rfl⟩
set_option tactic.hygienic false in
theorem indentB_ok {b : List Stmt} (h : indentB b = true) : IndentBody b := by
  unfold indentB at h
  cases h1 : ret? b with
  | none => rw [h1] at h; cases h
  | some e =>
    rw [h1] at h
    cases h2 : call? e with
    | none => simp only [h2] at h; cases h
    | some q =>
      obtain ⟨f, as, kws, pos2⟩ := q
      simp only [h2, Bool.and_eq_true] at h
      obtain ⟨⟨ha, hk⟩, h⟩ := h
      cases h3 : attr? f with
      | none => simp only [h3] at h; cases h
      | some q =>
        obtain ⟨o, n, apos2⟩ := q
        simp only [h3, Bool.and_eq_true, beq_iff_eq] at h
        obtain ⟨⟨rfl, h4⟩, h5⟩ := h
        obtain ⟨p, p', apos, pos, hl, rfl⟩ := matchCall?_eq h4
        obtain ⟨rp, rfl⟩ := ret?_eq h1
        have e1 := attr?_eq h3
        have e2 := call?_eq h2
        subst e1 e2
        have ha : as = [] := by simpa using ha
        have hk : kws = [] := by simpa using hk
        subst ha hk
        exact ⟨p, p', apos, pos, apos2, pos2, rp, hl, by simpa using h5, rfl⟩
set_option tactic.hygienic false in
theorem natB_ok {c : Cx} {d : DefRec} {pat : Str} {g : Nat} {code : Array Nat} (h : natB d pat = true) (hp : ∃ P, c.mg pat = some (.ref P) ∧ IsPat c.h₀ P g code) : NatOk c d pat g code := by
  simp only [natB, Bool.and_eq_true, Bool.not_eq_true', beq_iff_eq] at h
  obtain ⟨⟨⟨⟨h1, h2⟩, h3⟩, h4⟩, h5⟩ := h
  exact ⟨h1, h2, isVar0_eq h3, h4, h5, hp⟩

/-- what is looked at of a law: the view of its program, the names of its functions, their translations -/
structure LawOk (q : Program) (lo : List Str) (white : Bool) (names : List Str) (fs : List Fun) : Prop where
  free : needed.all (freeB q lo) = true
  isW : white = true → ((recOf q "is_all_white").any fun d => natB d "_twin_re_2" && whiteB d.body) = true
  indent : ((recOf q "get_indent").any fun d => natB d "_twin_re_3" && indentB d.body) = true
  fns : names.map (fun nm => (recOf q nm).bind (compile ((if white then ("is_all_white" : Str) else "") :: "get_indent" :: names) white)) = fs.map some
  ne : names.contains "" = false

theorem ints_rep {X : Addr → Prop} {h : Heap} : ∀ {vs : List Value} {xs : List Int}, IntsAre vs xs → RepAll X h vs (xs.map .int)
  | _, _, .nil => .nil
  | _, _, .cons n t r => .cons (.int n t) (ints_rep r)

set_option tactic.hygienic false in
theorem walk_core {q prog : Program} {w : World} {lo : List Str} {mean : ExcName → Option Value} {mg mb : Str → Option Value} {s : Shared} {white : Bool} {names : List Str} {fs : List Fun} {k N : Nat} {nm : Str} {a L : Addr} {vs : List Value} {xs : List Int} {c : ClaimW} {cl : Str → Option Addr} {mean' : ExcName → Option Value} {args : List WData}
    (T : Top q lo mean mg mb s.heap) (ok : LawOk q lo white names fs) (hp1 : white = true → ∃ P, mg "_twin_re_1" = some (.ref P) ∧ IsPat s.heap P 1 code1) (hp2 : white = true → ∃ P, mg "_twin_re_2" = some (.ref P) ∧ IsPat s.heap P 0 code2)
    (hp3 : ∃ P, mg "_twin_re_3" = some (.ref P) ∧ IsPat s.heap P 1 code3) (hnm : names[k]? = some nm) (ha : mg nm = some (.ref a)) (hN : N ≤ 20) (hW : Well w.params s.heap (.ref L) (ofPy (.list (xs.map PyData.int)))) (hL : s.heap.IsList L vs.toArray) (hI : IntsAre vs xs) (hlen : xs.length ≤ 63)
    (pure : ∃ fr, Phi fs N (k + 2) [.list (xs.map .int)] = some (.bool true, fr)) (hg : s.gens = #[])
    (hraise : ∀ cls, c.raises args cls = false) (hpost : c.post args (.bool true) args = true) :
    wpAny (model prog w) callerA (call (.ref a) [.ref L]) (fun v s' => GoodWG c cl mean' args s (.ok (.ret v)) s') (fun e s' => GoodWG c cl mean' args s (.error e) s') s := by
  let fnames : List Str := (if white then ("is_all_white" : Str) else "") :: "get_indent" :: names
  let cx : Cx := { prog, w, h₀ := s.heap, mg, mb, fnames, fas := fnames.map (addrOf mg), hasPat := white, Φ := Phi fs 0, n := 0 }
  have hfree : ∀ x, x ∈ needed → mg x = none := fun x hx => Top.not T (List.all_eq_true.mp ok.free x hx)
  have hfas : ∀ (i : Nat) (nm : Str) (a : Addr), fnames[i]? = some nm → mg nm = some (.ref a) → cx.fas[i]? = some a := fun i nm a h1 h2 => by
    show (fnames.map (addrOf mg))[i]? = some a
    rw [List.getElem?_map, h1]
    simp [addrOf, h2]
  have hfn : ∀ (i : Nat) (nm : Str), names[i]? = some nm → ∃ d f, recOf q nm = some d ∧ fs[i]? = some f ∧ compile fnames white d = some f := fun i nm h1 => by
    have h2 := congrArg (fun l => l[i]?) ok.fns
    simp only [List.getElem?_map, h1, Option.map_some] at h2
    cases h3 : fs[i]? with
    | none => rw [h3] at h2; cases h2
    | some f =>
      rw [h3] at h2
      simp only [Option.map_some, Option.some.injEq] at h2
      cases h4 : recOf q nm with
      | none => rw [h4] at h2; cases h2
      | some d => rw [h4] at h2; exact ⟨d, f, rfl, rfl, h2⟩
  have hind : ∃ a d, mg "get_indent" = some (.ref a) ∧ FnDef s.heap a d ∧ NatOk cx d "_twin_re_3" 1 code3 ∧ IndentBody d.body := by
    have h1 := ok.indent
    rw [Option.any_eq_true] at h1
    obtain ⟨d, h1, h2⟩ := h1
    rw [Bool.and_eq_true] at h2
    obtain ⟨a, h3, h4⟩ := Top.fnDef T h1
    exact ⟨a, d, h3, h4, natB_ok h2.1 hp3, indentB_ok h2.2⟩
  have hwh : white = true → ∃ a d, mg "is_all_white" = some (.ref a) ∧ FnDef s.heap a d ∧ NatOk cx d "_twin_re_2" 0 code2 ∧ WhiteBody d.body := fun hw => by
    have h1 := ok.isW hw
    rw [Option.any_eq_true] at h1
    obtain ⟨d, h1, h2⟩ := h1
    rw [Bool.and_eq_true] at h2
    obtain ⟨a, h3, h4⟩ := Top.fnDef T h1
    exact ⟨a, d, h3, h4, natB_ok h2.1 (hp2 hw), whiteB_ok h2.2⟩
  have G : GOk cx := by
    refine ⟨T.g, T.b, T.nolimit, fun f => ?_, ?_, ?_, ?_, fun i nm h1 h2 => ?_, hp1⟩
    · obtain ⟨h1, h2, h3⟩ := boot_fn f
      exact ⟨hfree _ h3, (T.builtins _ h2).trans h1⟩
    · exact ⟨hfree _ (by decide +kernel), (T.builtins _ (by decide +kernel)).trans boot_three.1⟩
    · exact ⟨hfree _ (by decide +kernel), (T.builtins _ (by decide +kernel)).trans boot_three.2.1⟩
    · exact ⟨hfree _ (by decide +kernel), (T.builtins _ (by decide +kernel)).trans boot_three.2.2⟩
    · have fin : ∀ a d, mg nm = some (.ref a) → FnDef s.heap a d → ∃ a, cx.fas[i]? = some a ∧ mg nm = some (.ref a) ∧ ∃ o fd, s.heap.get? a = some o ∧ o.data = .func fd := fun a d h3 h4 => by
        obtain ⟨o, _, _, _, h5, h6, _⟩ := h4
        exact ⟨a, hfas i nm a h1 h3, h3, o, _, h5, h6⟩
      have h1' : fnames[i]? = some nm := h1
      rcases Nat.lt_or_ge i 2 with hi | hi
      · have hi' : i = 0 ∨ i = 1 := by (first | lia | omega)
        rcases hi' with hi' | hi'
        · have e : (if white then ("is_all_white" : Str) else "") = nm := by rw [hi'] at h1'; exact Option.some.inj h1'
          by_cases hw : white = true
          · rw [if_pos hw] at e
            obtain ⟨a, d, h3, h4, _⟩ := hwh hw
            exact fin a d (by rw [← e]; exact h3) h4
          · rw [if_neg hw] at e; exact absurd e.symm h2
        · have e : ("get_indent" : Str) = nm := by rw [hi'] at h1'; exact Option.some.inj h1'
          obtain ⟨a, d, h3, h4, _⟩ := hind
          exact fin a d (by rw [← e]; exact h3) h4
      · obtain ⟨j, rfl⟩ : ∃ j, i = j + 2 := ⟨i - 2, by (first | lia | omega)⟩
        obtain ⟨d, f, h3, _⟩ := hfn j nm h1'
        obtain ⟨a, h5, h6⟩ := Top.fnDef T h3
        exact fin a d h5 h6
  have P : ProgOk cx fs := by
    refine ⟨fun nm h1 h2 => ?_, ?_, fun i nm h1 => ?_⟩
    · have e : (if white then ("is_all_white" : Str) else "") = nm := Option.some.inj h1
      by_cases hw : white = true
      · rw [if_pos hw] at e
        obtain ⟨a, d, h3, h4, h5⟩ := hwh hw
        exact ⟨a, d, hfas 0 nm a h1 (by rw [← e]; exact h3), h4, h5⟩
      · rw [if_neg hw] at e; exact absurd e.symm h2
    · obtain ⟨a, d, h3, h4, h5⟩ := hind
      exact ⟨a, d, hfas 1 _ a rfl h3, h4, h5⟩
    · have h1' : names[i]? = some nm := h1
      obtain ⟨d, f, h3, h4, h5⟩ := hfn i nm h1'
      obtain ⟨a, h6, h7⟩ := Top.fnDef T h3
      exact ⟨a, d, f, hfas (i + 2) nm a h1 h6, h7, h4, h5⟩
  have F := all_ok G P N
  obtain ⟨fr, hphi⟩ := pure
  have hnm' : fnames[k + 2]? = some nm := by simpa [fnames] using hnm
  have hne : nm ≠ "" := fun e => by
    have h1 := ok.ne
    rw [List.contains_iff_mem.mpr (e ▸ List.mem_of_getElem? hnm)] at h1
    cases h1
  have hobj : ∃ us : List Value, s.heap.get? L = some { cls := .type "list", data := .seq us.toArray } := by
    have hW' : Well w.params s.heap (.ref L) (.list (ofPys (xs.map PyData.int))) := by
      have e : ofPy (.list (xs.map PyData.int)) = .list (ofPys (xs.map PyData.int)) := by simp [ofPy]
      rw [← e]; exact hW
    cases hW' with
    | list h1 _ => exact ⟨_, h1⟩
  obtain ⟨us, hus⟩ := hobj
  have huv : us.toArray = vs.toArray := by
    obtain ⟨o, h1, h2, n, h3⟩ := hL
    rw [hus] at h1; cases h1; cases h3; rfl
  have hpl : s.heap.PlainList L vs.toArray := ⟨_, by rw [hus, huv]⟩
  have hl2 := hI.length
  have hrep : RepAll (fun _ => False) s.heap [.ref L] [.list (xs.map .int)] := .cons (Rep.mk_list (fun h => h) hpl (by show vs.length ≤ 16777216; (first | lia | omega)) (ints_rep hI)) .nil
  refine enter_call (codeAny_mono (F (k + 2) a nm _ _ fr hnm' hne (hfas (k + 2) nm a hnm' ha) hphi callerA s (fun _ => False) [.ref L] ⟨rfl, ?_, ?_⟩ (fun _ _ e => e) (fun _ h => h.elim) hrep) fun r s' hr => ?_)
  · show 1 + claimMargin + N < recursionLimit
    have : recursionLimit = 1000 := rfl
    have : claimMargin = 300 := rfl
    (first | lia | omega)
  · show 4 + 4 * N + 40 < cLine
    have : cLine = 9900 := rfl
    (first | lia | omega)
  · obtain ⟨v, rfl, g, rep, _⟩ := hr
    cases rep
    exact GoodW.toG ⟨.inl ⟨_, .bool true, [], rfl, hraise, .bool true, hpost, fun _ => ⟨List.nodup_nil, fun a h => by cases h⟩⟩, g.keep, g.os, g.gens.trans hg⟩
end Mine
end
/-! Q1 -/
section
open PySem
set_option linter.unusedSimpArgs false
set_option linter.unusedVariables false
namespace Mine

/-! ## rules for loops, in plain Lean -/
set_option tactic.hygienic false in
theorem forF_rule {put : D → List Slot → Option (List Slot)} {body : List Slot → Option (List Slot × Fl)} (I : List D → List Slot → Prop) (Q : List Slot → Fl → Prop)
    (hstep : ∀ d ds ρ, I (d :: ds) ρ → ∃ ρ₁, put d ρ = some ρ₁ ∧ ((∃ ρ', (body ρ₁ = some (ρ', .next) ∨ body ρ₁ = some (ρ', .cont)) ∧ I ds ρ') ∨ (∃ ρ', body ρ₁ = some (ρ', .brk) ∧ Q ρ' .next) ∨ ∃ ρ' d f, body ρ₁ = some (ρ', .ret d f) ∧ Q ρ' (.ret d f)))
    (hend : ∀ ρ, I [] ρ → Q ρ .next) : ∀ ds ρ, I ds ρ → ∃ ρ' fl, forF put body ds ρ = some (ρ', fl) ∧ Q ρ' fl
  | [], ρ, h => ⟨ρ, .next, rfl, hend ρ h⟩
  | d :: ds, ρ, h => by
    obtain ⟨ρ₁, hp, h⟩ := hstep d ds ρ h
    rcases h with ⟨ρ', hb, hI⟩ | ⟨ρ', hb, hQ⟩ | ⟨ρ', d', f, hb, hQ⟩
    · obtain ⟨ρ₂, fl, h1, h2⟩ := forF_rule I Q hstep hend ds ρ' hI
      refine ⟨ρ₂, fl, ?_, h2⟩
      rcases hb with hb | hb <;> simp [forF, hp, hb, h1]
    · exact ⟨ρ', .next, by simp [forF, hp, hb], hQ⟩
    · exact ⟨ρ', .ret d' f, by simp [forF, hp, hb], hQ⟩

set_option tactic.hygienic false in
/-- the plain one: no break, no return -/
theorem forF_plain {put : D → List Slot → Option (List Slot)} {body : List Slot → Option (List Slot × Fl)} (I : List D → List Slot → Prop)
    (hstep : ∀ d ds ρ, I (d :: ds) ρ → ∃ ρ₁ ρ', put d ρ = some ρ₁ ∧ (body ρ₁ = some (ρ', .next) ∨ body ρ₁ = some (ρ', .cont)) ∧ I ds ρ') (ds : List D) (ρ : List Slot) (h : I ds ρ) : ∃ ρ', forF put body ds ρ = some (ρ', .next) ∧ I [] ρ' := by
  obtain ⟨ρ', fl, h1, h2⟩ := forF_rule I (fun ρ' fl => fl = .next ∧ I [] ρ') (fun d ds ρ h => by obtain ⟨ρ₁, ρ', h1, h2, h3⟩ := hstep d ds ρ h; exact ⟨ρ₁, h1, .inl ⟨ρ', h2, h3⟩⟩) (fun ρ h => ⟨rfl, h⟩) ds ρ h
  obtain ⟨rfl, h2⟩ := h2
  exact ⟨ρ', h1, h2⟩

set_option tactic.hygienic false in
theorem whileF_rule {test : List Slot → Option Bool} {body : List Slot → Option (List Slot × Fl)} (I : Nat → List Slot → Prop) (Q : List Slot → Fl → Prop)
    (hstep : ∀ k ρ, I k ρ → (test ρ = some false ∧ Q ρ .next) ∨ (test ρ = some true ∧ ((∃ k' ρ', (body ρ = some (ρ', .next) ∨ body ρ = some (ρ', .cont)) ∧ I k' ρ' ∧ k' < k) ∨ (∃ ρ', body ρ = some (ρ', .brk) ∧ Q ρ' .next) ∨ ∃ ρ' d f, body ρ = some (ρ', .ret d f) ∧ Q ρ' (.ret d f)))) :
    ∀ n k ρ, I k ρ → k < n → ∃ ρ' fl, whileF test body n ρ = some (ρ', fl) ∧ Q ρ' fl
  | 0, k, ρ, h, hk => absurd hk (Nat.not_lt_zero k)
  | n + 1, k, ρ, h, hk => by
    rcases hstep k ρ h with ⟨ht, hQ⟩ | ⟨ht, h⟩
    · exact ⟨ρ, .next, by simp [whileF, ht], hQ⟩
    · rcases h with ⟨k', ρ', hb, hI, hk'⟩ | ⟨ρ', hb, hQ⟩ | ⟨ρ', d, f, hb, hQ⟩
      · obtain ⟨ρ₂, fl, h1, h2⟩ := whileF_rule I Q hstep n k' ρ' hI (by (first | lia | omega))
        refine ⟨ρ₂, fl, ?_, h2⟩
        rcases hb with hb | hb <;> simp [whileF, ht, hb, h1]
      · exact ⟨ρ', .next, by simp [whileF, ht, hb], hQ⟩
      · exact ⟨ρ', .ret d f, by simp [whileF, ht, hb], hQ⟩
set_option tactic.hygienic false in
theorem whileF_plain {test : List Slot → Option Bool} {body : List Slot → Option (List Slot × Fl)} (I : Nat → List Slot → Prop) (Q : List Slot → Prop)
    (hstep : ∀ k ρ, I k ρ → (test ρ = some false ∧ Q ρ) ∨ (test ρ = some true ∧ ∃ k' ρ', (body ρ = some (ρ', .next) ∨ body ρ = some (ρ', .cont)) ∧ I k' ρ' ∧ k' < k)) (n k : Nat) (ρ : List Slot) (h : I k ρ) (hk : k < n) : ∃ ρ', whileF test body n ρ = some (ρ', .next) ∧ Q ρ' := by
  obtain ⟨ρ', fl, h1, h2⟩ := whileF_rule I (fun ρ' fl => fl = .next ∧ Q ρ') (fun k ρ h => by
    rcases hstep k ρ h with ⟨a, b⟩ | ⟨a, b⟩
    · exact .inl ⟨a, rfl, b⟩
    · exact .inr ⟨a, .inl b⟩) n k ρ h hk
  obtain ⟨rfl, h2⟩ := h2
  exact ⟨ρ', h1, h2⟩

/-! ## small facts -/
set_option tactic.hygienic false in
theorem ints_map (xs : List Int) : ints? (xs.map D.int) = some xs := by
  induction xs with
  | nil => rfl
  | cons x r ih => simp [ints?, ih]
set_option tactic.hygienic false in
theorem strs_map (xs : List (List Nat)) : strs? (xs.map D.str) = some xs := by
  induction xs with
  | nil => rfl
  | cons x r ih => simp [strs?, ih]
set_option tactic.hygienic false in
theorem place_nat {n i : Nat} (h : i < n) : place? (i : Int) n = some i := by
  unfold place?
  rw [if_pos (by (first | lia | omega)), if_pos (by (first | lia | omega))]
  simp
set_option tactic.hygienic false in
theorem place_int {n : Nat} {i : Int} (h0 : 0 ≤ i) (h : i < n) : place? i n = some i.toNat := by
  unfold place?
  rw [if_pos h0, if_pos h]
set_option tactic.hygienic false in
theorem cut_from {α : Type} (l : List α) (a : Nat) : cut l (some (a : Int)) none = l.drop a := by
  unfold cut clip
  simp only [Option.elim]
  rw [if_neg (by (first | lia | omega))]
  simp only [Int.toNat_natCast]
  rcases Nat.lt_or_ge a l.length with h | h
  · rw [show min a l.length = a from by (first | lia | omega), List.take_of_length_le (by simp)]
  · rw [show min a l.length = l.length from by (first | lia | omega), List.drop_eq_nil_of_le h]; simp
set_option tactic.hygienic false in
theorem cut_to {α : Type} (l : List α) (b : Nat) : cut l none (some (b : Int)) = l.take b := by
  unfold cut clip
  simp only [Option.elim]
  rw [if_neg (by (first | lia | omega))]
  simp only [Int.toNat_natCast, List.drop_zero, Nat.sub_zero]
  rcases Nat.lt_or_ge b l.length with h | h
  · rw [show min b l.length = b from by (first | lia | omega)]
  · rw [show min b l.length = l.length from by (first | lia | omega), List.take_of_length_le h, List.take_of_length_le (Nat.le_refl _)]
set_option tactic.hygienic false in
theorem small_int {i : Int} (h0 : -1000000 ≤ i) (h1 : i ≤ 1000000) : small i = true := by
  unfold small
  simp only [decide_eq_true_eq]
  (first | lia | omega)
set_option tactic.hygienic false in
theorem fn_range1 {b : Int} (h : small b = true) : fnD .range [.int b] = some (.range 0 b 1) := by
  simp only [fnD, h, if_true]
set_option tactic.hygienic false in
theorem fn_range2 {a b : Int} (ha : small a = true) (h : small b = true) : fnD .range [.int a, .int b] = some (.range a b 1) := by
  simp only [fnD, ha, h, Bool.and_self, if_true]
set_option tactic.hygienic false in
theorem items_range (a b : Int) : itemsD (.range a b 1) = some ((rangeD a b 1).map .int) := by
  simp [itemsD]

/-! `fnD` is never unfolded beside a bound: these say it -/
theorem fn_len_list (xs : List D) : fnD .len [.list xs] = some (.int xs.length) := rfl
theorem fn_len_str (xs : List Nat) : fnD .len [.str xs] = some (.int xs.length) := rfl
theorem fn_max2 (a b : Int) : fnD .max [.int a, .int b] = some (.int (max a b)) := rfl
set_option tactic.hygienic false in
theorem fn_minl {xs : List Int} (h : xs ≠ []) : fnD .min [.list (xs.map .int)] = some (.int (minL xs)) := by
  simp only [fnD, ints_map, Option.bind_some]
  cases xs with
  | nil => exact absurd rfl h
  | cons x r => rfl
set_option tactic.hygienic false in
theorem fn_maxl {xs : List Int} (h : xs ≠ []) : fnD .max [.list (xs.map .int)] = some (.int (maxL xs)) := by
  simp only [fnD, ints_map, Option.bind_some]
  cases xs with
  | nil => exact absurd rfl h
  | cons x r => rfl
set_option tactic.hygienic false in
theorem fn_range3 {a b c : Int} (ha : small a = true) (h : small b = true) (h1 : 1 ≤ c) (hc : small c = true) : fnD .range [.int a, .int b, .int c] = some (.range a b c) := by
  simp only [fnD, ha, h, hc, h1, decide_true, Bool.and_self, if_true]
set_option tactic.hygienic false in
theorem src_ev {Φ : Funs} {ρ : List Slot} {z : E} {d : D} {ds : List D} (h : ev Φ ρ [] z = some d) (hi : itemsD d = some ds) : srcD Φ ρ (.e z) = some ds := by
  show (ev Φ ρ [] z).bind itemsD = _
  rw [h, Option.bind_some, hi]

theorem add_int (a b : Int) : binD .add (.int a) (.int b) = some (.int (a + b)) := rfl
theorem sub_int (a b : Int) : binD .sub (.int a) (.int b) = some (.int (a - b)) := rfl
set_option tactic.hygienic false in
theorem add_str {a b : List Nat} (h : a.length + b.length ≤ LIM) : binD .add (.str a) (.str b) = some (.str (a ++ b)) := by simp only [binD, h, if_true]
set_option tactic.hygienic false in
theorem add_list {a b : List D} (h : a.length + b.length ≤ LIM) : binD .add (.list a) (.list b) = some (.list (a ++ b)) := by simp only [binD, h, if_true]
set_option tactic.hygienic false in
theorem fdiv_int {a b : Int} (h : 0 < b ∧ b < 1000000) : binD .fdiv (.int a) (.int b) = some (.int (a / b)) := by simp only [binD]; rw [if_pos h]
set_option tactic.hygienic false in
theorem mod_int {a b : Int} (h : 0 < b) : binD .mod (.int a) (.int b) = some (.int (a % b)) := by simp only [binD]; rw [if_pos h]
set_option tactic.hygienic false in
theorem mul_str {a : List Nat} {n : Int} (h : 0 ≤ n ∧ n.toNat ≤ 16777216 ∧ a.length * n.toNat ≤ LIM) : binD .mul (.str a) (.int n) = some (.str (List.replicate n.toNat a).flatten) := by simp only [binD]; rw [if_pos h]
set_option tactic.hygienic false in
theorem mul_list {a : List D} {n : Int} (h : 0 ≤ n ∧ n.toNat ≤ 16777216 ∧ a.length * n.toNat ≤ LIM) : binD .mul (.list a) (.int n) = some (.list (List.replicate n.toNat a).flatten) := by simp only [binD]; rw [if_pos h]
end Mine
end
/-! Q0 -/
section
open PySem
set_option linter.unusedSimpArgs false
set_option linter.unusedVariables false
namespace Mine

/-! ## running: one rule for each form -/
section
variable {Φ : Funs} {ρ ρ₁ ρ₂ : List Slot} {κ : List D}
theorem ev_const {d : D} : ev Φ ρ κ (.const d) = some d := rfl
set_option tactic.hygienic false in
theorem ev_val {x : Nat} {d : D} (h : ρ[x]? = some (.val d)) : ev Φ ρ κ (.var x) = some d := by rw [evq2, h]
set_option tactic.hygienic false in
theorem ev_own {x : Nat} {xs : List D} (h : ρ[x]? = some (.own xs)) : ev Φ ρ κ (.var x) = some (.list xs) := by rw [evq2, h]
theorem ev_cvar {x : Nat} {d : D} (h : κ[x]? = some d) : ev Φ ρ κ (.cvar x) = some d := h
set_option tactic.hygienic false in
theorem ev_bin {op : Bop} {a b : E} {x y d : D} (ha : ev Φ ρ κ a = some x) (hb : ev Φ ρ κ b = some y) (h : binD op x y = some d) : ev Φ ρ κ (.bin op a b) = some d := by
  rw [evq4, ha, hb]; exact h
set_option tactic.hygienic false in
theorem ev_neg {a : E} {i : Int} (ha : ev Φ ρ κ a = some (.int i)) : ev Φ ρ κ (.neg a) = some (.int (-i)) := by rw [evq5, ha]; rfl
set_option tactic.hygienic false in
theorem ev_cmp {op : Cop} {a b : E} {x y : D} {t : Bool} (ha : ev Φ ρ κ a = some x) (hb : ev Φ ρ κ b = some y) (h : cmpD op x y = some t) : ev Φ ρ κ (.cmp op a b) = some (.bool t) := by
  rw [evq6, ha, hb, Option.bind_some, Option.bind_some, h]; rfl
set_option tactic.hygienic false in
theorem ev_not {a : E} {x : D} {t : Bool} (ha : ev Φ ρ κ a = some x) (h : truthD x = some t) : ev Φ ρ κ (.not a) = some (.bool !t) := by
  rw [evq9, ha, Option.bind_some, h]; rfl
set_option tactic.hygienic false in
theorem ev_ite_c {t : E} {x d1 d2 : D} {c : Bool} (ht : ev Φ ρ κ t = some x) (h : truthD x = some c) : ev Φ ρ κ (.ite t (.const d1) (.const d2)) = some (if c then d1 else d2) := by
  rw [evq10, ht, Option.bind_some, h, Option.bind_some]; cases c <;> rfl
set_option tactic.hygienic false in
theorem ev_ite_t {t a b : E} {x d : D} (ht : ev Φ ρ κ t = some x) (h : truthD x = some true) (hb : ev Φ ρ κ a = some d) : ev Φ ρ κ (.ite t a b) = some d := by
  rw [evq10, ht, Option.bind_some, h, Option.bind_some]; exact hb
set_option tactic.hygienic false in
theorem ev_ite_f {t a b : E} {x d : D} (ht : ev Φ ρ κ t = some x) (h : truthD x = some false) (hb : ev Φ ρ κ b = some d) : ev Φ ρ κ (.ite t a b) = some d := by
  rw [evq10, ht, Option.bind_some, h, Option.bind_some]; exact hb
set_option tactic.hygienic false in
theorem ev_idx {a b : E} {x y d : D} (ha : ev Φ ρ κ a = some x) (hb : ev Φ ρ κ b = some y) (h : idxD x y = some d) : ev Φ ρ κ (.idx a b) = some d := by
  rw [evq13, ha, hb]; exact h
set_option tactic.hygienic false in
theorem ev_slice {a b c : E} {x y z d : D} (ha : ev Φ ρ κ a = some x) (hb : ev Φ ρ κ b = some y) (hc : ev Φ ρ κ c = some z) (h : sliceD x y z = some d) : ev Φ ρ κ (.slice a b c) = some d := by
  rw [evq14, ha, hb, hc]; exact h
theorem evs_nil : evs Φ ρ κ .nil = some [] := rfl
set_option tactic.hygienic false in
theorem evs_cons {a b : E} {x : D} {xs : List D} (ha : ev Φ ρ κ a = some x) (hb : evs Φ ρ κ b = some xs) : evs Φ ρ κ (.cons a b) = some (x :: xs) := by
  rw [evsq2, ha, hb]; rfl
set_option tactic.hygienic false in
theorem ev_fn {f : Fn} {es : E} {ds : List D} {d : D} (hs : evs Φ ρ κ es = some ds) (h : fnD f ds = some d) : ev Φ ρ κ (.fn f es) = some d := by
  rw [evq15, hs]; exact h
set_option tactic.hygienic false in
theorem ev_meth {m : Mth} {o es : E} {x : D} {ds : List D} {d : D} (ho : ev Φ ρ κ o = some x) (hs : evs Φ ρ κ es = some ds) (h : methD m x ds = some d) : ev Φ ρ κ (.meth m o es) = some d := by
  rw [evq16, ho, hs]; exact h
set_option tactic.hygienic false in
theorem ev_list {es : E} {ds : List D} (hst : strong ρ es = true) (hs : evs Φ ρ κ es = some ds) (hl : ds.length ≤ LIM) : ev Φ ρ κ (.list es) = some (.list ds) := by
  rw [evq11, if_pos hst, hs]; exact if_pos hl
set_option tactic.hygienic false in
theorem ev_tup {es : E} {ds : List D} (hst : strong ρ es = true) (hs : evs Φ ρ κ es = some ds) (hl : ds.length ≤ LIM) : ev Φ ρ κ (.tup es) = some (.tup ds) := by
  rw [evq12, if_pos hst, hs]; exact if_pos hl
set_option tactic.hygienic false in
theorem ev_resplit {a : E} {s : List Nat} (ha : ev Φ ρ κ a = some (.str s)) (hl : s.length < 1000000) : ev Φ ρ κ (.resplit a) = some (.list ((reSplit isWs s).map .str)) := by
  rw [evq17, ha]; exact if_pos hl
set_option tactic.hygienic false in
theorem ev_ucall {f : Nat} {es : E} {ds : List D} {d : D} {fr : Bool} (hs : evs Φ ρ κ es = some ds) (h : Φ f ds = some (d, fr)) (hst : (strong ρ es || scalar d || tupS d || (fr && flat ds d)) = true) : ev Φ ρ κ (.ucall f es) = some d := by
  rw [evq18, hs, Option.bind_some, h]; exact if_pos hst
set_option tactic.hygienic false in
theorem ev_scall {f : Nat} {es : E} {ds : List D} {d : D} {fr : Bool} (hs : evs Φ ρ κ es = some ds) (h : Φ f ds = some (d, fr)) (hst : scalar d = true) : ev Φ ρ κ (.ucall f es) = some d :=
  ev_ucall hs h (by rw [hst]; simp)
theorem ev_bools {k : Bool} {es : E} {d : D} (h : evB Φ ρ κ k es = some d) : ev Φ ρ κ (.bools k es) = some d := h
theorem evB_one {k : Bool} {e : E} {d : D} (h : ev Φ ρ κ e = some d) : evB Φ ρ κ k (.cons e .nil) = some d := h
set_option tactic.hygienic false in
theorem evB_go {k t : Bool} {e e' es : E} {x d : D} (h : ev Φ ρ κ e = some x) (ht : truthD x = some t) (hk : (t == k) = true) (hr : evB Φ ρ κ k (.cons e' es) = some d) : evB Φ ρ κ k (.cons e (.cons e' es)) = some d := by
  show ((ev Φ ρ κ e).bind fun d => (truthD d).bind fun b => if (b == k) = true then evB Φ ρ κ k (.cons e' es) else some d) = _
  rw [h, Option.bind_some, ht, Option.bind_some, if_pos hk, hr]
set_option tactic.hygienic false in
theorem evB_stop {k t : Bool} {e e' es : E} {x : D} (h : ev Φ ρ κ e = some x) (ht : truthD x = some t) (hk : (t == k) = false) : evB Φ ρ κ k (.cons e (.cons e' es)) = some x := by
  show ((ev Φ ρ κ e).bind fun d => (truthD d).bind fun b => if (b == k) = true then evB Φ ρ κ k (.cons e' es) else some d) = _
  rw [h, Option.bind_some, ht, Option.bind_some, if_neg (by rw [hk]; simp)]

/-! statements -/
set_option tactic.hygienic false in
theorem run_seq {a b : C} {r : Option (List Slot × Fl)} (h : ex Φ a ρ = some (ρ₁, .next)) (h2 : ex Φ b ρ₁ = r) : ex Φ (.seq a b) ρ = r := by
  rw [exq2, h]; exact h2
set_option tactic.hygienic false in
theorem run_stop {a b : C} {fl : Fl} (h : ex Φ a ρ = some (ρ₁, fl)) (hf : fl ≠ .next) : ex Φ (.seq a b) ρ = some (ρ₁, fl) := by
  rw [exq2, h]; cases fl <;> first | exact absurd rfl hf | rfl
theorem run_skip : ex Φ .skip ρ = some (ρ, .next) := rfl
set_option tactic.hygienic false in
theorem run_assign {x : Nat} {e : E} {d : D} (hf : freeze (aliased e) ρ = ρ₁) (h : ev Φ ρ₁ [] e = some d) (hl : ρ₁[x]?.isSome = true) (hr : ρ₁.set x (slotOf e d) = ρ₂) : ex Φ (.assign x e) ρ = some (ρ₂, .next) := by
  subst hf; subst hr
  have hl' : x < (freeze (aliased e) ρ).length := by simpa using hl
  rw [exq3, h]; exact if_pos hl'
set_option tactic.hygienic false in
theorem run_append {x : Nat} {e : E} {d : D} {xs : List D} (hf : freeze (aliased e) ρ = ρ₁) (h : ev Φ ρ₁ [] e = some d) (hx : ρ₁[x]? = some (.own xs)) (hl : xs.length < LIM) (hr : ρ₁.set x (.own (xs ++ [d])) = ρ₂) : ex Φ (.append x e) ρ = some (ρ₂, .next) := by
  subst hf; subst hr; rw [exq6, h, Option.bind_some, hx]; exact if_pos hl
set_option tactic.hygienic false in
theorem run_extend {x : Nat} {e : E} {xs ys : List D} (hf : freeze (aliased e) ρ = ρ₁) (h : ev Φ ρ₁ [] e = some (.list ys)) (hx : ρ₁[x]? = some (.own xs)) (hl : xs.length + ys.length ≤ LIM) (hr : ρ₁.set x (.own (xs ++ ys)) = ρ₂) : ex Φ (.extend x e) ρ = some (ρ₂, .next) := by
  subst hf; subst hr; rw [exq7, h, Option.bind_some, hx]; exact if_pos hl
set_option tactic.hygienic false in
theorem run_ite_t {t : E} {a b : C} {d : D} {r : Option (List Slot × Fl)} (h : ev Φ ρ [] t = some d) (ht : truthD d = some true) (hr : ex Φ a ρ = r) : ex Φ (.ite t a b) ρ = r := by rw [exq8, h, Option.bind_some, ht]; exact hr
set_option tactic.hygienic false in
theorem run_ite_f {t : E} {a b : C} {d : D} {r : Option (List Slot × Fl)} (h : ev Φ ρ [] t = some d) (ht : truthD d = some false) (hr : ex Φ b ρ = r) : ex Φ (.ite t a b) ρ = r := by rw [exq8, h, Option.bind_some, ht]; exact hr
set_option tactic.hygienic false in
theorem run_ret {e : E} {d : D} (hf : freeze (aliased e) ρ = ρ₁) (h : ev Φ ρ₁ [] e = some d) : ex Φ (.ret e) ρ = some (ρ₁, .ret d (newE e)) := by subst hf; rw [exq12, h]; rfl
set_option tactic.hygienic false in
theorem run_retv {x : Nat} {d : D} (h : ρ[x]? = some (.val d)) : ex Φ (.retv x) ρ = some (ρ, .ret d false) := by rw [exq13, h]
set_option tactic.hygienic false in
theorem run_reto {x : Nat} {xs : List D} (h : ρ[x]? = some (.own xs)) (hr : freeze1 x ρ = ρ₁) : ex Φ (.retv x) ρ = some (ρ₁, .ret (.list xs) true) := by subst hr; rw [exq13, h]
theorem run_cont : ex Φ .cont ρ = some (ρ, .cont) := rfl
theorem run_while {t : E} {b : C} {r : Option (List Slot × Fl)} (h : whileF (fun ρ => do truthD (← ev Φ ρ [] t)) (ex Φ b) WHILE ρ = r) : ex Φ (.whil t b) ρ = r := h
set_option tactic.hygienic false in
theorem run_for {x : Nat} {e : E} {b : C} {d : D} {ds : List D} {r : Option (List Slot × Fl)} (hf : freeze (aliased e) ρ = ρ₁) (h : ev Φ ρ₁ [] e = some d) (hi : itemsD d = some ds) (hr : forF (put1 x) (ex Φ b) ds ρ₁ = r) : ex Φ (.for1 x (.e e) b) ρ = r := by
  subst hf
  have hs : srcD Φ (freeze (srcVars (.e e)) ρ) (.e e) = some ds := src_ev h hi
  rw [exq10, hs]; exact hr
set_option tactic.hygienic false in
theorem put1_of {x : Nat} {d : D} (h : ρ[x]?.isSome = true) (hr : ρ.set x (.val d) = ρ₁) : put1 x d ρ = some ρ₁ := by
  subst hr
  have h' : x < ρ.length := by simpa using h
  simp [put1, h']
set_option tactic.hygienic false in
theorem test_of {t : E} {d : D} {b : Bool} (h : ev Φ ρ [] t = some d) (ht : truthD d = some b) : (do truthD (← ev Φ ρ [] t)) = some b := by simp [h, ht]
set_option tactic.hygienic false in
theorem run_fun {f : Fun} {ds : List D} {d : D} {fr : Bool} (hl : ds.length = f.nargs) (h : ex Φ f.body (ds.map .val ++ List.replicate (f.nslots - f.nargs) .unset) = some (ρ, .ret d fr)) : runF Φ f ds = some (d, fr) := by
  unfold runF; rw [if_pos hl, h]
end

/-! comprehensions -/
noncomputable def compF (Φ : Funs) (ρ : List Slot) (k : Nat) (test elt : E) (d : D) : Option (List D) := do
  let κ' ← bind1 k d
  if ← truthD (← ev Φ ρ κ' test) then some [← ev Φ ρ κ' elt] else some []
set_option tactic.hygienic false in
theorem comp_yes {Φ : Funs} {ρ : List Slot} {k : Nat} {test elt : E} {d x y : D} {κ : List D} (hb : bind1 k d = some κ) (ht : ev Φ ρ κ test = some x) (hx : truthD x = some true) (he : ev Φ ρ κ elt = some y) : compF Φ ρ k test elt d = some [y] := by
  simp [compF, hb, ht, hx, he]
set_option tactic.hygienic false in
theorem comp_no {Φ : Funs} {ρ : List Slot} {k : Nat} {test elt : E} {d x : D} {κ : List D} (hb : bind1 k d = some κ) (ht : ev Φ ρ κ test = some x) (hx : truthD x = some false) : compF Φ ρ k test elt d = some [] := by
  simp [compF, hb, ht, hx]
set_option tactic.hygienic false in
theorem ev_comp {Φ : Funs} {ρ : List Slot} {κ : List D} {k : Nat} {src test elt : E} {d : D} {ds out : List D} (hst : strong ρ elt = true) (hs : ev Φ ρ κ src = some d) (hi : itemsD d = some ds) (hm : mapO (compF Φ ρ k test elt) ds = some out) (hl : ds.length ≤ LIM) : ev Φ ρ κ (.comp k src test elt) = some (.list out) := by
  have e : (fun d => do
        let κ' ← bind1 k d
        if ← truthD (← ev Φ ρ κ' test) then some [← ev Φ ρ κ' elt] else some []) = compF Φ ρ k test elt := rfl
  rw [evq19, if_pos hst, hs, Option.bind_some, hi, Option.bind_some]
  have hm : mapO (fun d => (bind1 k d).bind fun κ' => (ev Φ ρ κ' test).bind fun t => (truthD t).bind fun c => if c = true then (ev Φ ρ κ' elt).bind fun y => some [y] else some []) ds = some out := hm
  rw [hm]
  exact if_pos hl
set_option tactic.hygienic false in
theorem mapO_map {α : Type} {f : D → Option (List D)} {g : α → D} {h : α → List D} : ∀ {xs : List α}, (∀ x ∈ xs, f (g x) = some (h x)) → mapO f (xs.map g) = some (xs.flatMap h)
  | [], _ => rfl
  | x :: r, H => by
    simp only [List.map_cons, mapO]
    rw [H x (by simp), mapO_map (xs := r) fun y hy => H y (by simp [hy])]
    rfl
set_option tactic.hygienic false in
theorem mapO_map1 {α : Type} {f : D → Option (List D)} {g h : α → D} {xs : List α} (H : ∀ x ∈ xs, f (g x) = some [h x]) : mapO f (xs.map g) = some (xs.map h) := by
  rw [mapO_map (h := fun x => [h x]) H, List.map_eq_flatMap]
set_option tactic.hygienic false in
/-- a plain loop over known things -/
theorem for_done {β : Type} {g : β → D} {put : D → List Slot → Option (List Slot)} {body : List Slot → Option (List Slot × Fl)} (I : List β → List Slot → Prop) {all : List β} {ρ : List Slot} (h0 : I [] ρ)
    (hstep : ∀ done y rest ρ, all = done ++ y :: rest → I done ρ → ∃ ρ₁ ρ', put (g y) ρ = some ρ₁ ∧ (body ρ₁ = some (ρ', .next) ∨ body ρ₁ = some (ρ', .cont)) ∧ I (done ++ [y]) ρ') :
    ∃ ρ', forF put body (all.map g) ρ = some (ρ', .next) ∧ I all ρ' := by
  obtain ⟨ρ', h1, done, rest, e1, e2, hI⟩ := forF_plain (put := put) (body := body) (fun ds ρ => ∃ done rest, all = done ++ rest ∧ ds = rest.map g ∧ I done ρ) (by
    rintro d ds ρ ⟨done, rest, e1, e2, hI⟩
    cases rest with
    | nil => cases e2
    | cons y rest =>
      rw [List.map_cons] at e2
      obtain ⟨rfl, rfl⟩ := List.cons.inj e2
      obtain ⟨ρ₁, ρ', p1, p2, p3⟩ := hstep done y rest ρ e1 hI
      exact ⟨ρ₁, ρ', p1, p2, done ++ [y], rest, by simp [e1], rfl, p3⟩) (all.map g) ρ ⟨[], all, rfl, rfl, h0⟩
  have : rest = [] := by simpa using e2.symm
  subst this
  refine ⟨ρ', h1, ?_⟩
  rw [e1, List.append_nil]
  exact hI
set_option tactic.hygienic false in
theorem fn_len_strs (l : List (List Nat)) : fnD .len [.list (l.map D.str)] = some (.int l.length) := by rw [fn_len_list, List.length_map]
set_option tactic.hygienic false in
theorem fn_len_ints (l : List Int) : fnD .len [.list (l.map D.int)] = some (.int l.length) := by rw [fn_len_list, List.length_map]
set_option tactic.hygienic false in
theorem strs_idx {W : List (List Nat)} {j : Nat} {w : List Nat} (h : W[j]? = some w) : idxD (.list (W.map .str)) (.int j) = some (.str w) := by
  have hlt : j < W.length := (List.getElem?_eq_some_iff.mp h).1
  simp [idxD, place_nat hlt, h]
set_option tactic.hygienic false in
theorem idx_at {xs : List D} {j : Nat} {d : D} (h : xs[j]? = some d) : idxD (.list xs) (.int j) = some d := by
  have hlt : j < xs.length := (List.getElem?_eq_some_iff.mp h).1
  simp [idxD, place_nat hlt, h]
theorem truth_bool (b : Bool) : truthD (.bool b) = some b := rfl
set_option tactic.hygienic false in
theorem add_str' {a b c : List Nat} (h : a.length + b.length ≤ LIM) (e : a ++ b = c) : binD .add (.str a) (.str b) = some (.str c) := by rw [← e]; exact add_str h
set_option tactic.hygienic false in
theorem range_small {b : Nat} (h : b ≤ 1000000) : fnD .range [.int b] = some (.range 0 b 1) := fn_range1 (small_int (by (first | lia | omega)) (by (first | lia | omega)))

end Mine
end
/-! Q2 -/
section
open PySem
set_option linter.unusedSimpArgs false
set_option linter.unusedVariables false
namespace Mine
/-- reformat_paragraph(data, limit); the slots: 0 data, 1 limit, 2 lines, 3 i, 4 n, 5 indent1, 6 indent2, 7 new, 8 partial, 9 words, 10 j, 11 word -/
noncomputable def l_reformat_paragraph_1 : C :=
  (.seq (.assign 3 (.bin .add (.var 3) (.const (.int 1))))
  .skip)
noncomputable def l_reformat_paragraph_2 : C :=
  (.seq (.assign 11 (.idx (.var 9) (.var 10)))
  (.seq (.ite (.not (.var 11))
   (.seq .cont
   .skip)
   .skip)
  (.seq (.ite (.bools true (.cons (.cmp .gt (.fn .len (.cons (.meth .expandtabs (.bin .add (.var 8) (.var 11)) .nil) .nil)) (.var 1)) (.cons (.cmp .ne (.var 8) (.var 5)) .nil)))
   (.seq (.append 7 (.meth .rstrip (.var 8) .nil))
   (.seq (.assign 8 (.var 6))
   .skip))
   .skip)
  (.seq (.assign 8 (.bin .add (.bin .add (.var 8) (.var 11)) (.const (.str [32]))))
  (.seq (.ite (.bools true (.cons (.cmp .lt (.bin .add (.var 10) (.const (.int 1))) (.fn .len (.cons (.var 9) .nil))) (.cons (.cmp .ne (.idx (.var 9) (.bin .add (.var 10) (.const (.int 1)))) (.const (.str [32]))) .nil)))
   (.seq (.assign 8 (.bin .add (.var 8) (.const (.str [32]))))
   .skip)
   .skip)
  .skip)))))
noncomputable def l_reformat_paragraph_3 : C :=
  (.seq (.assign 9 (.resplit (.idx (.var 2) (.var 3))))
  (.seq (.for1 10 (.e (.fn .range (.cons (.const (.int 0)) (.cons (.fn .len (.cons (.var 9) .nil)) (.cons (.const (.int 2)) .nil))))) l_reformat_paragraph_2)
  (.seq (.assign 3 (.bin .add (.var 3) (.const (.int 1))))
  .skip)))
noncomputable def b_reformat_paragraph : C :=
  (.seq (.assign 2 (.meth .split (.var 0) (.cons (.const (.str [10])) .nil)))
  (.seq (.assign 3 (.const (.int 0)))
  (.seq (.assign 4 (.fn .len (.cons (.var 2) .nil)))
  (.seq (.whil (.bools true (.cons (.cmp .lt (.var 3) (.var 4)) (.cons (.ucall 0 (.cons (.idx (.var 2) (.var 3)) .nil)) .nil))) l_reformat_paragraph_1)
  (.seq (.ite (.cmp .ge (.var 3) (.var 4))
   (.seq (.retv 0)
   .skip)
   .skip)
  (.seq (.assign 5 (.ucall 1 (.cons (.idx (.var 2) (.var 3)) .nil)))
  (.seq (.ite (.bools true (.cons (.cmp .lt (.bin .add (.var 3) (.const (.int 1))) (.var 4)) (.cons (.not (.ucall 0 (.cons (.idx (.var 2) (.bin .add (.var 3) (.const (.int 1)))) .nil))) .nil)))
   (.seq (.assign 6 (.ucall 1 (.cons (.idx (.var 2) (.bin .add (.var 3) (.const (.int 1)))) .nil)))
   .skip)
   (.seq (.assign 6 (.var 5))
   .skip))
  (.seq (.assign 7 (.slice (.var 2) (.const .none) (.var 3)))
  (.seq (.assign 8 (.var 5))
  (.seq (.whil (.bools true (.cons (.cmp .lt (.var 3) (.var 4)) (.cons (.not (.ucall 0 (.cons (.idx (.var 2) (.var 3)) .nil))) .nil))) l_reformat_paragraph_3)
  (.seq (.append 7 (.meth .rstrip (.var 8) .nil))
  (.seq (.extend 7 (.slice (.var 2) (.var 3) (.const .none)))
  (.seq (.ret (.meth .join (.const (.str [10])) (.cons (.var 7) .nil)))
  .skip)))))))))))))
noncomputable def f_reformat_paragraph : Fun := ⟨2, 12, b_reformat_paragraph⟩

/-! ## what reformat_paragraph computes -/
noncomputable abbrev Tok' := List Nat × Nat
noncomputable def evenToks : List (List Nat) → List Tok'
  | [] => []
  | [w] => if w.isEmpty then [] else [(w, 1)]
  | w :: s :: r => if w.isEmpty then evenToks r else (w, if s = [32] then 1 else 2) :: evenToks r
noncomputable def lineToks (line : List Nat) : List Tok' := evenToks (reSplit isWs line)
noncomputable def colsOf (s : List Nat) : Nat := (expandGo 0 s).length
noncomputable def rstrip (s : List Nat) : List Nat := rstripBy isWs s
noncomputable def stepF (lim : Int) (ind1 ind2 : List Nat) (st : List (List Nat) × List Nat) (t : Tok') : List (List Nat) × List Nat :=
  if (colsOf (st.2 ++ t.1) : Int) > lim ∧ st.2 ≠ ind1 then (st.1 ++ [rstrip st.2], ind2 ++ t.1 ++ List.replicate t.2 32) else (st.1, st.2 ++ t.1 ++ List.replicate t.2 32)
noncomputable def tokLen (ts : List Tok') : Nat := (ts.map fun t => t.1.length + t.2).sum
noncomputable def whiteL (s : List Nat) : Bool := s.all isWs

/-- the indent of the rows behind the first -/
noncomputable def ind2Of (l : List Nat) (rest : List (List Nat)) : List Nat :=
  match rest with
  | l2 :: _ => if whiteL l2 then indentOf l else indentOf l2
  | [] => indentOf l
noncomputable def reform (data : List Nat) (lim : Int) : List Nat :=
  let lines := splitOn 10 data
  let pre := lines.takeWhile whiteL
  match lines.dropWhile whiteL with
  | [] => data
  | l :: rest =>
    let ind1 := indentOf l
    let ind2 := ind2Of l rest
    let para := (l :: rest).takeWhile fun x => !whiteL x
    let post := (l :: rest).dropWhile fun x => !whiteL x
    let st := (para.flatMap lineToks).foldl (stepF lim ind1 ind2) (pre, ind1)
    joinWith [10] (st.1 ++ [rstrip st.2] ++ post)

/-! ## bounds -/
set_option tactic.hygienic false in
theorem rstrip_le (s : List Nat) : (rstrip s).length ≤ s.length := by
  unfold rstrip rstripBy
  simp only [List.length_reverse]
  exact Nat.le_trans (List.dropWhile_sublist _).length_le (by simp)

noncomputable def Fits (ind2 : List Nat) (st : List (List Nat) × List Nat) (ts : List Tok') : Prop :=
  st.2.length + tokLen ts ≤ 100000 ∧ ind2.length + tokLen ts ≤ 100000 ∧ st.1.length + ts.length ≤ 100000
set_option tactic.hygienic false in
theorem Fits.step {lim : Int} {ind1 ind2 : List Nat} {st : List (List Nat) × List Nat} {t : Tok'} {ts : List Tok'} (h : Fits ind2 st (t :: ts)) : Fits ind2 (stepF lim ind1 ind2 st t) ts := by
  obtain ⟨h1, h3, h2⟩ := h
  simp only [tokLen, List.map_cons, List.sum_cons, List.length_cons] at h1 h2 h3
  unfold stepF
  split
  · refine ⟨?_, ?_, ?_⟩ <;> simp [tokLen] <;> (first | lia | omega)
  · refine ⟨?_, ?_, ?_⟩ <;> simp [tokLen] <;> (first | lia | omega)

set_option tactic.hygienic false in
theorem range2_cons {a b : Nat} (h : a < b) : rangeD (a : Int) (b : Int) 2 = (a : Int) :: rangeD ((a + 2 : Nat) : Int) (b : Int) 2 := by
  unfold rangeD
  rw [if_pos (by (first | lia | omega)), if_pos (by (first | lia | omega))]
  have e : (((b : Int) - a + 2 - 1) / 2).toNat = (((b : Int) - ((a + 2 : Nat) : Int) + 2 - 1) / 2).toNat + 1 := by (first | lia | omega)
  rw [e, List.range_succ_eq_map]
  simp only [List.map_cons, List.map_map]
  congr 1
  apply List.map_congr_left
  intro k _
  simp
  (first | lia | omega)
set_option tactic.hygienic false in
theorem range2_nil {a b : Nat} (h : b ≤ a) : rangeD (a : Int) (b : Int) 2 = [] := by
  unfold rangeD
  rw [if_pos (by (first | lia | omega))]
  have e : (((b : Int) - a + 2 - 1) / 2).toNat = 0 := by (first | lia | omega)
  rw [e]
  rfl

section
variable {Φ : Funs} {data : List Nat} {lim : Int} {ind1 ind2 : List Nat} {L W : List (List Nat)} {i n : Int}

noncomputable def R1 (data : List Nat) (lim : Int) (L : List (List Nat)) (i n : Int) (ind1 ind2 : List Nat) (st : List (List Nat) × List Nat) (w9 w10 w11 : Slot) : List Slot :=
  [.val (.str data), .val (.int lim), .own (L.map .str), .val (.int i), .val (.int n), .val (.str ind1), .val (.str ind2), .own (st.1.map .str), .val (.str st.2), w9, w10, w11]

noncomputable def tailC : C :=
  (.seq (.assign 8 (.bin .add (.bin .add (.var 8) (.var 11)) (.const (.str [32]))))
  (.seq (.ite (.bools true (.cons (.cmp .lt (.bin .add (.var 10) (.const (.int 1))) (.fn .len (.cons (.var 9) .nil))) (.cons (.cmp .ne (.idx (.var 9) (.bin .add (.var 10) (.const (.int 1)))) (.const (.str [32]))) .nil)))
   (.seq (.assign 8 (.bin .add (.var 8) (.const (.str [32]))))
   .skip)
   .skip)
  .skip))
noncomputable def gapAt (W : List (List Nat)) (j : Nat) : Nat := match W[j + 1]? with | some s => if s = [32] then 1 else 2 | none => 1
set_option tactic.hygienic false in
theorem word_step {st : List (List Nat) × List Nat} {w11 : Slot} {w : List Nat} {j : Nat} {ts : List Tok'} (hj : W[j]? = some w) (hne : w ≠ []) (hlen : W.length ≤ 1000000)
    (hf : Fits ind2 st ((w, gapAt W j) :: ts)) :
    ex Φ l_reformat_paragraph_2 (R1 data lim L i n ind1 ind2 st (.own (W.map .str)) (.val (.int j)) w11) = some (R1 data lim L i n ind1 ind2 (stepF lim ind1 ind2 st (w, gapAt W j)) (.own (W.map .str)) (.val (.int j)) (.val (.str w)), .next) := by
  obtain ⟨h1, h3, h2⟩ := hf
  simp only [tokLen, List.map_cons, List.sum_cons, List.length_cons] at h1 h2 h3
  have hL : LIM = 16777216 := rfl
  have hlt : j < W.length := (List.getElem?_eq_some_iff.mp hj).1
  have a1 := add_str (a := st.2) (b := w) (by (first | lia | omega))
  have htr : truthD (.str w) = some true := by cases w with
    | nil => exact absurd rfl hne
    | cons c r => rfl
  have hidx := strs_idx hj
  have key : ∀ (p : List Nat) (rows : List (List Nat)), p.length + w.length + 2 ≤ 200000 →
      ex Φ tailC (R1 data lim L i n ind1 ind2 (rows, p) (.own (W.map .str)) (.val (.int j)) (.val (.str w))) =
      some (R1 data lim L i n ind1 ind2 (rows, p ++ w ++ List.replicate (gapAt W j) 32) (.own (W.map .str)) (.val (.int j)) (.val (.str w)), .next) := by
    intro p rows hpl
    have b1 := add_str (a := p) (b := w) (by (first | lia | omega))
    have b2 := add_str (a := p ++ w) (b := [32]) (by simp; (first | lia | omega))
    refine run_seq (ρ₁ := R1 data lim L i n ind1 ind2 (rows, p ++ w ++ [32]) (.own (W.map .str)) (.val (.int j)) (.val (.str w))) (run_assign rfl (by (repeat' (first | exact ev_const | exact ev_val rfl | exact ev_own rfl | exact ev_cvar rfl | exact evs_nil | assumption | apply evs_cons | apply ev_bin | apply ev_cmp | apply ev_idx | apply ev_slice | apply ev_fn | apply ev_meth | apply ev_not | apply ev_neg | apply ev_bools | apply ev_resplit | exact fn_len_strs _ | exact fn_len_ints _ | exact fn_len_list _ | exact fn_len_str _ | exact add_int _ _ | exact sub_int _ _ | exact truth_bool _ | exact rfl))) rfl rfl) (run_seq ?_ run_skip)
    have hlen : fnD .len [.list (W.map .str)] = some (.int W.length) := by rw [fn_len_list, List.length_map]
    cases hn : W[j + 1]? with
    | none =>
      have hge : cmpD .lt (.int ((j : Int) + 1)) (.int W.length) = some false := congrArg some (decide_eq_false (by have := List.getElem?_eq_none_iff.mp hn; (first | lia | omega)))
      have hg : gapAt W j = 1 := by unfold gapAt; rw [hn]
      rw [hg]
      exact run_ite_f (ev_bools (evB_stop (by (repeat' (first | exact ev_const | exact ev_val rfl | exact ev_own rfl | exact ev_cvar rfl | exact evs_nil | assumption | apply evs_cons | apply ev_bin | apply ev_cmp | apply ev_idx | apply ev_slice | apply ev_fn | apply ev_meth | apply ev_not | apply ev_neg | apply ev_bools | apply ev_resplit | exact fn_len_strs _ | exact fn_len_ints _ | exact fn_len_list _ | exact fn_len_str _ | exact add_int _ _ | exact sub_int _ _ | exact truth_bool _ | exact rfl))) (truth_bool _) rfl)) (truth_bool _) run_skip
    | some s =>
      have hlt' : cmpD .lt (.int ((j : Int) + 1)) (.int W.length) = some true := congrArg some (decide_eq_true (by have := (List.getElem?_eq_some_iff.mp hn).1; (first | lia | omega)))
      have hidx' : idxD (.list (W.map .str)) (.int ((j : Int) + 1)) = some (.str s) := strs_idx hn
      by_cases hs : s = [32]
      · subst hs
        have hg : gapAt W j = 1 := by unfold gapAt; rw [hn]; exact if_pos rfl
        rw [hg]
        exact run_ite_f (ev_bools (evB_go (by (repeat' (first | exact ev_const | exact ev_val rfl | exact ev_own rfl | exact ev_cvar rfl | exact evs_nil | assumption | apply evs_cons | apply ev_bin | apply ev_cmp | apply ev_idx | apply ev_slice | apply ev_fn | apply ev_meth | apply ev_not | apply ev_neg | apply ev_bools | apply ev_resplit | exact fn_len_strs _ | exact fn_len_ints _ | exact fn_len_list _ | exact fn_len_str _ | exact add_int _ _ | exact sub_int _ _ | exact truth_bool _ | exact rfl))) (truth_bool _) rfl (evB_one (ev_cmp (t := false) (by (repeat' (first | exact ev_const | exact ev_val rfl | exact ev_own rfl | exact ev_cvar rfl | exact evs_nil | assumption | apply evs_cons | apply ev_bin | apply ev_cmp | apply ev_idx | apply ev_slice | apply ev_fn | apply ev_meth | apply ev_not | apply ev_neg | apply ev_bools | apply ev_resplit | exact fn_len_strs _ | exact fn_len_ints _ | exact fn_len_list _ | exact fn_len_str _ | exact add_int _ _ | exact sub_int _ _ | exact truth_bool _ | exact rfl))) (by (repeat' (first | exact ev_const | exact ev_val rfl | exact ev_own rfl | exact ev_cvar rfl | exact evs_nil | assumption | apply evs_cons | apply ev_bin | apply ev_cmp | apply ev_idx | apply ev_slice | apply ev_fn | apply ev_meth | apply ev_not | apply ev_neg | apply ev_bools | apply ev_resplit | exact fn_len_strs _ | exact fn_len_ints _ | exact fn_len_list _ | exact fn_len_str _ | exact add_int _ _ | exact sub_int _ _ | exact truth_bool _ | exact rfl))) rfl)))) (truth_bool _) run_skip
      · have hc : cmpD .ne (.str s) (.str [32]) = some true := by simp [cmpD, eqS, hs]
        have b3 := add_str' (a := p ++ w ++ [32]) (b := [32]) (c := p ++ w ++ List.replicate 2 32) (by simp; (first | lia | omega)) (by simp [List.replicate])
        have hg : gapAt W j = 2 := by unfold gapAt; rw [hn]; exact if_neg hs
        rw [hg]
        exact run_ite_t (ev_bools (evB_go (by (repeat' (first | exact ev_const | exact ev_val rfl | exact ev_own rfl | exact ev_cvar rfl | exact evs_nil | assumption | apply evs_cons | apply ev_bin | apply ev_cmp | apply ev_idx | apply ev_slice | apply ev_fn | apply ev_meth | apply ev_not | apply ev_neg | apply ev_bools | apply ev_resplit | exact fn_len_strs _ | exact fn_len_ints _ | exact fn_len_list _ | exact fn_len_str _ | exact add_int _ _ | exact sub_int _ _ | exact truth_bool _ | exact rfl))) (truth_bool _) rfl (evB_one (ev_cmp (by (repeat' (first | exact ev_const | exact ev_val rfl | exact ev_own rfl | exact ev_cvar rfl | exact evs_nil | assumption | apply evs_cons | apply ev_bin | apply ev_cmp | apply ev_idx | apply ev_slice | apply ev_fn | apply ev_meth | apply ev_not | apply ev_neg | apply ev_bools | apply ev_resplit | exact fn_len_strs _ | exact fn_len_ints _ | exact fn_len_list _ | exact fn_len_str _ | exact add_int _ _ | exact sub_int _ _ | exact truth_bool _ | exact rfl))) (by (repeat' (first | exact ev_const | exact ev_val rfl | exact ev_own rfl | exact ev_cvar rfl | exact evs_nil | assumption | apply evs_cons | apply ev_bin | apply ev_cmp | apply ev_idx | apply ev_slice | apply ev_fn | apply ev_meth | apply ev_not | apply ev_neg | apply ev_bools | apply ev_resplit | exact fn_len_strs _ | exact fn_len_ints _ | exact fn_len_list _ | exact fn_len_str _ | exact add_int _ _ | exact sub_int _ _ | exact truth_bool _ | exact rfl))) hc)))) (truth_bool _) (run_seq (run_assign rfl (by (repeat' (first | exact ev_const | exact ev_val rfl | exact ev_own rfl | exact ev_cvar rfl | exact evs_nil | assumption | apply evs_cons | apply ev_bin | apply ev_cmp | apply ev_idx | apply ev_slice | apply ev_fn | apply ev_meth | apply ev_not | apply ev_neg | apply ev_bools | apply ev_resplit | exact fn_len_strs _ | exact fn_len_ints _ | exact fn_len_list _ | exact fn_len_str _ | exact add_int _ _ | exact sub_int _ _ | exact truth_bool _ | exact rfl))) rfl rfl) run_skip)
  refine run_seq (ρ₁ := R1 data lim L i n ind1 ind2 st (.own (W.map .str)) (.val (.int j)) (.val (.str w))) (run_assign rfl (by (repeat' (first | exact ev_const | exact ev_val rfl | exact ev_own rfl | exact ev_cvar rfl | exact evs_nil | assumption | apply evs_cons | apply ev_bin | apply ev_cmp | apply ev_idx | apply ev_slice | apply ev_fn | apply ev_meth | apply ev_not | apply ev_neg | apply ev_bools | apply ev_resplit | exact fn_len_strs _ | exact fn_len_ints _ | exact fn_len_list _ | exact fn_len_str _ | exact add_int _ _ | exact sub_int _ _ | exact truth_bool _ | exact rfl))) rfl rfl) ?_
  refine run_seq (run_ite_f (ev_not (by (repeat' (first | exact ev_const | exact ev_val rfl | exact ev_own rfl | exact ev_cvar rfl | exact evs_nil | assumption | apply evs_cons | apply ev_bin | apply ev_cmp | apply ev_idx | apply ev_slice | apply ev_fn | apply ev_meth | apply ev_not | apply ev_neg | apply ev_bools | apply ev_resplit | exact fn_len_strs _ | exact fn_len_ints _ | exact fn_len_list _ | exact fn_len_str _ | exact add_int _ _ | exact sub_int _ _ | exact truth_bool _ | exact rfl))) htr) rfl run_skip) ?_
  have hm : methD .expandtabs (.str (st.2 ++ w)) [] = some (.str (expandGo 0 (st.2 ++ w))) := if_pos (by simp; (first | lia | omega))
  by_cases hc : (colsOf (st.2 ++ w) : Int) > lim ∧ st.2 ≠ ind1
  · have hc1 : cmpD .gt (.int ((expandGo 0 (st.2 ++ w)).length : Int)) (.int lim) = some true := congrArg some (decide_eq_true hc.1)
    have hc2 : cmpD .ne (.str st.2) (.str ind1) = some true := by simp [cmpD, eqS, hc.2]
    have hcl : (st.1.map D.str).length < LIM := by rw [List.length_map]; (first | lia | omega)
    refine run_seq (ρ₁ := R1 data lim L i n ind1 ind2 (st.1 ++ [rstrip st.2], ind2) (.own (W.map .str)) (.val (.int j)) (.val (.str w))) (run_ite_t (ev_bools (evB_go (by (repeat' (first | exact ev_const | exact ev_val rfl | exact ev_own rfl | exact ev_cvar rfl | exact evs_nil | assumption | apply evs_cons | apply ev_bin | apply ev_cmp | apply ev_idx | apply ev_slice | apply ev_fn | apply ev_meth | apply ev_not | apply ev_neg | apply ev_bools | apply ev_resplit | exact fn_len_strs _ | exact fn_len_ints _ | exact fn_len_list _ | exact fn_len_str _ | exact add_int _ _ | exact sub_int _ _ | exact truth_bool _ | exact rfl))) (truth_bool _) rfl (evB_one (by (repeat' (first | exact ev_const | exact ev_val rfl | exact ev_own rfl | exact ev_cvar rfl | exact evs_nil | assumption | apply evs_cons | apply ev_bin | apply ev_cmp | apply ev_idx | apply ev_slice | apply ev_fn | apply ev_meth | apply ev_not | apply ev_neg | apply ev_bools | apply ev_resplit | exact fn_len_strs _ | exact fn_len_ints _ | exact fn_len_list _ | exact fn_len_str _ | exact add_int _ _ | exact sub_int _ _ | exact truth_bool _ | exact rfl)))))) (truth_bool _) (run_seq (ρ₁ := R1 data lim L i n ind1 ind2 (st.1 ++ [rstrip st.2], st.2) (.own (W.map .str)) (.val (.int j)) (.val (.str w))) (run_append rfl (by (repeat' (first | exact ev_const | exact ev_val rfl | exact ev_own rfl | exact ev_cvar rfl | exact evs_nil | assumption | apply evs_cons | apply ev_bin | apply ev_cmp | apply ev_idx | apply ev_slice | apply ev_fn | apply ev_meth | apply ev_not | apply ev_neg | apply ev_bools | apply ev_resplit | exact fn_len_strs _ | exact fn_len_ints _ | exact fn_len_list _ | exact fn_len_str _ | exact add_int _ _ | exact sub_int _ _ | exact truth_bool _ | exact rfl))) rfl hcl ?_) (run_seq (run_assign rfl (by (repeat' (first | exact ev_const | exact ev_val rfl | exact ev_own rfl | exact ev_cvar rfl | exact evs_nil | assumption | apply evs_cons | apply ev_bin | apply ev_cmp | apply ev_idx | apply ev_slice | apply ev_fn | apply ev_meth | apply ev_not | apply ev_neg | apply ev_bools | apply ev_resplit | exact fn_len_strs _ | exact fn_len_ints _ | exact fn_len_list _ | exact fn_len_str _ | exact add_int _ _ | exact sub_int _ _ | exact truth_bool _ | exact rfl))) rfl rfl) run_skip))) ?_
    · unfold R1; rw [List.map_append]; rfl
    · have hst : stepF lim ind1 ind2 st (w, gapAt W j) = (st.1 ++ [rstrip st.2], ind2 ++ w ++ List.replicate (gapAt W j) 32) := if_pos hc
      rw [hst]
      exact key ind2 _ (by (first | lia | omega))
  · refine run_seq (ρ₁ := R1 data lim L i n ind1 ind2 st (.own (W.map .str)) (.val (.int j)) (.val (.str w))) ?_ ?_
    · by_cases hc1 : (colsOf (st.2 ++ w) : Int) > lim
      · have hc2 : st.2 = ind1 := Classical.byContradiction fun h => hc ⟨hc1, h⟩
        have hc1' : cmpD .gt (.int ((expandGo 0 (st.2 ++ w)).length : Int)) (.int lim) = some true := congrArg some (decide_eq_true hc1)
        have hc2' : cmpD .ne (.str st.2) (.str ind1) = some false := by simp [cmpD, eqS, hc2]
        exact run_ite_f (ev_bools (evB_go (by (repeat' (first | exact ev_const | exact ev_val rfl | exact ev_own rfl | exact ev_cvar rfl | exact evs_nil | assumption | apply evs_cons | apply ev_bin | apply ev_cmp | apply ev_idx | apply ev_slice | apply ev_fn | apply ev_meth | apply ev_not | apply ev_neg | apply ev_bools | apply ev_resplit | exact fn_len_strs _ | exact fn_len_ints _ | exact fn_len_list _ | exact fn_len_str _ | exact add_int _ _ | exact sub_int _ _ | exact truth_bool _ | exact rfl))) (truth_bool _) rfl (evB_one (by (repeat' (first | exact ev_const | exact ev_val rfl | exact ev_own rfl | exact ev_cvar rfl | exact evs_nil | assumption | apply evs_cons | apply ev_bin | apply ev_cmp | apply ev_idx | apply ev_slice | apply ev_fn | apply ev_meth | apply ev_not | apply ev_neg | apply ev_bools | apply ev_resplit | exact fn_len_strs _ | exact fn_len_ints _ | exact fn_len_list _ | exact fn_len_str _ | exact add_int _ _ | exact sub_int _ _ | exact truth_bool _ | exact rfl)))))) (truth_bool _) run_skip
      · have hc1' : cmpD .gt (.int ((expandGo 0 (st.2 ++ w)).length : Int)) (.int lim) = some false := congrArg some (decide_eq_false hc1)
        exact run_ite_f (ev_bools (evB_stop (by (repeat' (first | exact ev_const | exact ev_val rfl | exact ev_own rfl | exact ev_cvar rfl | exact evs_nil | assumption | apply evs_cons | apply ev_bin | apply ev_cmp | apply ev_idx | apply ev_slice | apply ev_fn | apply ev_meth | apply ev_not | apply ev_neg | apply ev_bools | apply ev_resplit | exact fn_len_strs _ | exact fn_len_ints _ | exact fn_len_list _ | exact fn_len_str _ | exact add_int _ _ | exact sub_int _ _ | exact truth_bool _ | exact rfl))) (truth_bool _) rfl)) (truth_bool _) run_skip
    · have hst : stepF lim ind1 ind2 st (w, gapAt W j) = (st.1, st.2 ++ w ++ List.replicate (gapAt W j) 32) := if_neg hc
      rw [hst]
      exact key st.2 st.1 (by (first | lia | omega))
end
end Mine
end
/-! Q3 -/
section
open PySem
set_option linter.unusedSimpArgs false
set_option linter.unusedVariables false
namespace Mine

set_option tactic.hygienic false in
theorem forF_go {put : D → List Slot → Option (List Slot)} {body : List Slot → Option (List Slot × Fl)} {d : D} {ds : List D} {ρ ρ₁ ρ' : List Slot} (hp : put d ρ = some ρ₁) (hb : body ρ₁ = some (ρ', .next) ∨ body ρ₁ = some (ρ', .cont)) : forF put body (d :: ds) ρ = forF put body ds ρ' := by
  rcases hb with hb | hb <;> simp [forF, hp, hb]

section
variable {Φ : Funs} {data : List Nat} {lim : Int} {ind1 ind2 : List Nat} {L W : List (List Nat)} {i n : Int}

set_option tactic.hygienic false in
theorem put10 {st : List (List Nat) × List Nat} {w9 w10 w11 : Slot} {d : D} : put1 10 d (R1 data lim L i n ind1 ind2 st w9 w10 w11) = some (R1 data lim L i n ind1 ind2 st w9 (.val d) w11) := by
  simp [put1, R1]
set_option tactic.hygienic false in
theorem empty_step {st : List (List Nat) × List Nat} {w11 : Slot} {j : Nat} (hj : W[j]? = some []) :
    ex Φ l_reformat_paragraph_2 (R1 data lim L i n ind1 ind2 st (.own (W.map .str)) (.val (.int j)) w11) = some (R1 data lim L i n ind1 ind2 st (.own (W.map .str)) (.val (.int j)) (.val (.str [])), .cont) := by
  have hidx := strs_idx hj
  exact run_seq (run_assign rfl (by (repeat' (first | exact ev_const | exact ev_val rfl | exact ev_own rfl | exact ev_cvar rfl | exact evs_nil | assumption | apply evs_cons | apply ev_bin | apply ev_cmp | apply ev_idx | apply ev_slice | apply ev_fn | apply ev_meth | apply ev_not | apply ev_neg | apply ev_bools | apply ev_resplit | exact fn_len_strs _ | exact fn_len_ints _ | exact fn_len_list _ | exact fn_len_str _ | exact add_int _ _ | exact sub_int _ _ | exact truth_bool _ | exact rfl))) rfl rfl) (run_stop (run_ite_t (ev_not (ev_val rfl) rfl) rfl (run_stop run_cont (fun h => by cases h))) (fun h => by cases h))

set_option tactic.hygienic false in
theorem words_loop (hW : W.length ≤ 1000000) : ∀ (rest pre : List (List Nat)) (st : List (List Nat) × List Nat) (w10 w11 : Slot), W = pre ++ rest → pre.length % 2 = 0 → Fits ind2 st (evenToks rest) →
    ∃ a b, forF (put1 10) (ex Φ l_reformat_paragraph_2) ((rangeD (pre.length : Int) (W.length : Int) 2).map .int) (R1 data lim L i n ind1 ind2 st (.own (W.map .str)) w10 w11) =
      some (R1 data lim L i n ind1 ind2 ((evenToks rest).foldl (stepF lim ind1 ind2) st) (.own (W.map .str)) a b, .next)
  | [], pre, st, w10, w11, hw, _, _ => by
    rw [range2_nil (by rw [hw]; simp)]
    exact ⟨w10, w11, rfl⟩
  | [w], pre, st, w10, w11, hw, _, hf => by
    have hj : W[pre.length]? = some w := by rw [hw]; simp
    have hn : W[pre.length + 1]? = none := by rw [hw]; simp
    rw [range2_cons (by rw [hw]; simp), range2_nil (by rw [hw]; simp)]
    simp only [List.map_cons, List.map_nil]
    by_cases he : w = []
    · subst he
      rw [forF_go put10 (.inr (empty_step hj))]
      exact ⟨_, _, rfl⟩
    · have hee : w.isEmpty = false := by simpa using he
      have ht : evenToks [w] = [(w, 1)] := by simp [evenToks, hee]
      have hg : gapAt W pre.length = 1 := by unfold gapAt; rw [hn]
      rw [ht] at hf ⊢
      have := word_step (Φ := Φ) (data := data) (lim := lim) (ind1 := ind1) (ind2 := ind2) (L := L) (W := W) (i := i) (n := n) (st := st) (w11 := w11) (ts := []) hj he hW (by rw [hg]; exact hf)
      rw [hg] at this
      rw [forF_go put10 (.inl this)]
      exact ⟨_, _, rfl⟩
  | w :: s :: r, pre, st, w10, w11, hw, h2, hf => by
    have hj : W[pre.length]? = some w := by rw [hw]; simp
    have hn : W[pre.length + 1]? = some s := by rw [hw]; simp
    have hw' : W = (pre ++ [w, s]) ++ r := by rw [hw]; simp
    have hl : ((pre.length + 2 : Nat) : Int) = ((pre ++ [w, s]).length : Int) := by simp
    rw [range2_cons (by rw [hw]; simp), hl]
    simp only [List.map_cons]
    by_cases he : w = []
    · subst he
      have ht : evenToks ([] :: s :: r) = evenToks r := by simp [evenToks]
      rw [ht] at hf ⊢
      rw [forF_go put10 (.inr (empty_step hj))]
      exact words_loop hW r (pre ++ [[], s]) st _ _ hw' (by simp; (first | lia | omega)) hf
    · have hee : w.isEmpty = false := by simpa using he
      have ht : evenToks (w :: s :: r) = (w, if s = [32] then 1 else 2) :: evenToks r := by simp [evenToks, hee]
      have hg : gapAt W pre.length = if s = [32] then 1 else 2 := by unfold gapAt; rw [hn]
      rw [ht] at hf ⊢
      have := word_step (Φ := Φ) (data := data) (lim := lim) (ind1 := ind1) (ind2 := ind2) (L := L) (W := W) (i := i) (n := n) (st := st) (w11 := w11) (ts := evenToks r) hj he hW (by rw [hg]; exact hf)
      rw [hg] at this
      rw [forF_go put10 (.inl this), List.foldl_cons]
      exact words_loop hW r (pre ++ [w, s]) _ _ _ hw' (by simp; (first | lia | omega)) hf.step

set_option tactic.hygienic false in
theorem Fits.append {st : List (List Nat) × List Nat} {a b : List Tok'} (h : Fits ind2 st (a ++ b)) : Fits ind2 st a ∧ Fits ind2 (a.foldl (stepF lim ind1 ind2) st) b := by
  refine ⟨?_, ?_⟩
  · obtain ⟨h1, h2, h3⟩ := h
    simp only [tokLen, List.map_append, List.sum_append, List.length_append] at h1 h2 h3
    refine ⟨?_, ?_, by (first | lia | omega)⟩ <;> simp only [tokLen] <;> (first | lia | omega)
  · induction a generalizing st with
    | nil => exact h
    | cons t a ih => exact ih (Fits.step h)

set_option tactic.hygienic false in
/-- one line of the paragraph -/
theorem line_step {st : List (List Nat) × List Nat} {w9 w10 w11 : Slot} {k : Nat} {l : List Nat} (hk : L[k]? = some l) (hl : l.length < 100000) (hf : Fits ind2 st (lineToks l)) (hr : (reSplit isWs l).length ≤ 200001) :
    ∃ a b c, ex Φ l_reformat_paragraph_3 (R1 data lim L (k : Int) n ind1 ind2 st w9 w10 w11) = some (R1 data lim L ((k + 1 : Nat) : Int) n ind1 ind2 ((lineToks l).foldl (stepF lim ind1 ind2) st) a b c, .next) := by
  have hidx := strs_idx hk
  have hlen : l.length < 1000000 := by (first | lia | omega)
  obtain ⟨a, b, h1⟩ := words_loop (Φ := Φ) (data := data) (lim := lim) (ind1 := ind1) (ind2 := ind2) (L := L) (i := (k : Int)) (n := n) (W := reSplit isWs l) (by (first | lia | omega)) (reSplit isWs l) [] st w10 w11 (by simp) (by simp) hf
  have hrg : fnD .range [.int 0, .int ((reSplit isWs l).length : Int), .int 2] = some (.range 0 ((reSplit isWs l).length : Int) 2) := fn_range3 (small_int (by (first | lia | omega)) (by (first | lia | omega))) (small_int (by (first | lia | omega)) (by (first | lia | omega))) (by (first | lia | omega)) (small_int (by (first | lia | omega)) (by (first | lia | omega)))
  refine ⟨.own ((reSplit isWs l).map .str), a, b, ?_⟩
  refine run_seq (ρ₁ := R1 data lim L (k : Int) n ind1 ind2 st (.own ((reSplit isWs l).map .str)) w10 w11) (run_assign rfl (by (repeat' (first | exact ev_const | exact ev_val rfl | exact ev_own rfl | exact ev_cvar rfl | exact evs_nil | assumption | apply evs_cons | apply ev_bin | apply ev_cmp | apply ev_idx | apply ev_slice | apply ev_fn | apply ev_meth | apply ev_not | apply ev_neg | apply ev_bools | apply ev_resplit | exact fn_len_strs _ | exact fn_len_ints _ | exact fn_len_list _ | exact fn_len_str _ | exact add_int _ _ | exact sub_int _ _ | exact truth_bool _ | exact rfl))) rfl rfl) ?_
  refine run_seq (ρ₁ := R1 data lim L (k : Int) n ind1 ind2 ((lineToks l).foldl (stepF lim ind1 ind2) st) (.own ((reSplit isWs l).map .str)) a b) (run_for rfl (by (repeat' (first | exact ev_const | exact ev_val rfl | exact ev_own rfl | exact ev_cvar rfl | exact evs_nil | assumption | apply evs_cons | apply ev_bin | apply ev_cmp | apply ev_idx | apply ev_slice | apply ev_fn | apply ev_meth | apply ev_not | apply ev_neg | apply ev_bools | apply ev_resplit | exact fn_len_strs _ | exact fn_len_ints _ | exact fn_len_list _ | exact fn_len_str _ | exact add_int _ _ | exact sub_int _ _ | exact truth_bool _ | exact rfl))) rfl h1) ?_
  exact run_seq (run_assign rfl (by (repeat' (first | exact ev_const | exact ev_val rfl | exact ev_own rfl | exact ev_cvar rfl | exact evs_nil | assumption | apply evs_cons | apply ev_bin | apply ev_cmp | apply ev_idx | apply ev_slice | apply ev_fn | apply ev_meth | apply ev_not | apply ev_neg | apply ev_bools | apply ev_resplit | exact fn_len_strs _ | exact fn_len_ints _ | exact fn_len_list _ | exact fn_len_str _ | exact add_int _ _ | exact sub_int _ _ | exact truth_bool _ | exact rfl))) rfl rfl) run_skip
end

/-! ## sizes -/
set_option tactic.hygienic false in
theorem evenToks_size : ∀ W : List (List Nat), tokLen (evenToks W) ≤ 3 * W.flatten.length ∧ (evenToks W).length ≤ W.flatten.length
  | [] => by simp [evenToks, tokLen]
  | [w] => by
    cases w with
    | nil => simp [evenToks, tokLen]
    | cons c r => simp [evenToks, tokLen]; (first | lia | omega)
  | w :: s :: r => by
    have ih := evenToks_size r
    cases w with
    | nil =>
      simp only [evenToks, List.isEmpty_nil, if_true, List.flatten_cons, List.length_append]
      (first | lia | omega)
    | cons c q =>
      simp only [evenToks, List.isEmpty_cons, Bool.false_eq_true, if_false, tokLen, List.map_cons, List.sum_cons, List.flatten_cons, List.length_append, List.length_cons]
      simp only [tokLen] at ih
      have : (if s = [32] then 1 else 2) ≤ 2 := by split <;> (first | lia | omega)
      (first | lia | omega)
set_option tactic.hygienic false in
theorem lineToks_size (l : List Nat) : tokLen (lineToks l) ≤ 3 * l.length ∧ (lineToks l).length ≤ l.length := by
  have := evenToks_size (reSplit isWs l)
  rwa [(reSplit_flat l).1] at this
set_option tactic.hygienic false in
theorem flat_size (ls : List (List Nat)) : tokLen (ls.flatMap lineToks) ≤ 3 * ls.flatten.length ∧ (ls.flatMap lineToks).length ≤ ls.flatten.length := by
  induction ls with
  | nil => simp [tokLen]
  | cons l r ih =>
    have := lineToks_size l
    simp only [List.flatMap_cons, tokLen, List.map_append, List.sum_append, List.length_append, List.flatten_cons] at *
    (first | lia | omega)

set_option tactic.hygienic false in
theorem tw_lt {p : List Nat → Bool} : ∀ {l : List (List Nat)} {i : Nat}, i < (l.takeWhile p).length → ∃ x, l[i]? = some x ∧ p x = true
  | [], i, h => by simp at h
  | a :: l, i, h => by
    by_cases ha : p a = true
    · simp only [List.takeWhile_cons, ha, if_true, List.length_cons] at h
      cases i with
      | zero => exact ⟨a, rfl, ha⟩
      | succ i => exact tw_lt (l := l) (by (first | lia | omega))
    · simp [List.takeWhile_cons, ha] at h
set_option tactic.hygienic false in
theorem tw_at {p : List Nat → Bool} : ∀ {l : List (List Nat)} {x : List Nat}, l[(l.takeWhile p).length]? = some x → p x = false
  | [], x, h => by simp at h
  | a :: l, x, h => by
    by_cases ha : p a = true
    · simp only [List.takeWhile_cons, ha, if_true, List.length_cons, List.getElem?_cons_succ] at h
      exact tw_at h
    · simp only [List.takeWhile_cons, ha] at h
      simp at h
      subst h
      simpa using ha
theorem tw_take (p : List Nat → Bool) (l : List (List Nat)) : l.take (l.takeWhile p).length = l.takeWhile p := (List.prefix_iff_eq_take.mp (List.takeWhile_prefix p)).symm
set_option tactic.hygienic false in
theorem tw_drop (p : List Nat → Bool) : ∀ (l : List (List Nat)), l.drop (l.takeWhile p).length = l.dropWhile p
  | [] => rfl
  | a :: l => by
    by_cases ha : p a = true
    · simp [List.takeWhile_cons, List.dropWhile_cons, ha, tw_drop p l]
    · simp [List.takeWhile_cons, List.dropWhile_cons, ha]
end Mine
end
/-! Q4 -/
section
open PySem
set_option linter.unusedSimpArgs false
set_option linter.unusedVariables false
namespace Mine

noncomputable def sumL (rows : List (List Nat)) : Nat := (rows.map fun w => w.length + 1).sum
set_option tactic.hygienic false in
theorem sumL_append (a b : List (List Nat)) : sumL (a ++ b) = sumL a + sumL b := by simp [sumL]
set_option tactic.hygienic false in
theorem fold_size {lim : Int} {ind1 ind2 : List Nat} (K : Nat) : ∀ (ts : List Tok') (st : List (List Nat) × List Nat), st.2.length + tokLen ts ≤ K → ind2.length + tokLen ts ≤ K →
    sumL (ts.foldl (stepF lim ind1 ind2) st).1 ≤ sumL st.1 + ts.length * (K + 1) ∧ (ts.foldl (stepF lim ind1 ind2) st).2.length ≤ K ∧ (ts.foldl (stepF lim ind1 ind2) st).1.length ≤ st.1.length + ts.length
  | [], st, h1, h2 => by simp [tokLen] at h1 ⊢; (first | lia | omega)
  | t :: ts, st, h1, h2 => by
    simp only [tokLen, List.map_cons, List.sum_cons] at h1 h2
    have hr := rstrip_le st.2
    rw [List.foldl_cons]
    by_cases hc : (colsOf (st.2 ++ t.1) : Int) > lim ∧ st.2 ≠ ind1
    · have e : stepF lim ind1 ind2 st t = (st.1 ++ [rstrip st.2], ind2 ++ t.1 ++ List.replicate t.2 32) := by unfold stepF; rw [if_pos hc]
      rw [e]
      have ih := fold_size (lim := lim) (ind1 := ind1) (ind2 := ind2) K ts (st.1 ++ [rstrip st.2], ind2 ++ t.1 ++ List.replicate t.2 32) (by simp [tokLen]; (first | lia | omega)) (by simp only [tokLen]; (first | lia | omega))
      rw [sumL_append] at ih
      have e1 : sumL [rstrip st.2] ≤ K + 1 := by simp [sumL]; (first | lia | omega)
      simp only [List.length_append, List.length_cons, List.length_nil] at ih ⊢
      rw [Nat.succ_mul]
      (first | lia | omega)
    · have e : stepF lim ind1 ind2 st t = (st.1, st.2 ++ t.1 ++ List.replicate t.2 32) := by unfold stepF; rw [if_neg hc]
      rw [e]
      have ih := fold_size (lim := lim) (ind1 := ind1) (ind2 := ind2) K ts (st.1, st.2 ++ t.1 ++ List.replicate t.2 32) (by simp [tokLen]; (first | lia | omega)) (by simp only [tokLen]; (first | lia | omega))
      simp only [List.length_cons] at ih ⊢
      rw [Nat.succ_mul]
      (first | lia | omega)

set_option tactic.hygienic false in
theorem splitBy_size (p : Nat → Bool) : ∀ s : List Nat, (splitBy p s).flatten.length + (splitBy p s).length = s.length + 1 ∧ splitBy p s ≠ []
  | [] => by simp [splitBy]
  | x :: r => by
    obtain ⟨h1, h2⟩ := splitBy_size p r
    unfold splitBy
    split
    · simp at h1 ⊢; (first | lia | omega)
    · cases h : splitBy p r with
      | nil => exact absurd h h2
      | cons w ws => rw [h] at h1; simp at h1 ⊢; (first | lia | omega)
set_option tactic.hygienic false in
theorem mem_flat_le {l : List (List Nat)} {x : List Nat} (h : x ∈ l) : x.length ≤ l.flatten.length := by
  induction l with
  | nil => cases h
  | cons a l ih =>
    simp only [List.flatten_cons, List.length_append]
    rcases List.mem_cons.mp h with rfl | h
    · (first | lia | omega)
    · have := ih h; (first | lia | omega)
set_option tactic.hygienic false in
theorem sumL_flat (l : List (List Nat)) : sumL l = l.flatten.length + l.length := by
  induction l with
  | nil => rfl
  | cons a l ih => simp [sumL] at *; (first | lia | omega)

set_option tactic.hygienic false in
theorem flat_take_le (l : List (List Nat)) (k : Nat) : (l.take k).flatten.length ≤ l.flatten.length := by
  have h : l.flatten.length = (l.take k).flatten.length + (l.drop k).flatten.length := by
    rw [← List.length_append, ← List.flatten_append, List.take_append_drop]
  (first | lia | omega)
set_option tactic.hygienic false in
theorem flat_drop_le (l : List (List Nat)) (k : Nat) : (l.drop k).flatten.length ≤ l.flatten.length := by
  have h : l.flatten.length = (l.take k).flatten.length + (l.drop k).flatten.length := by
    rw [← List.length_append, ← List.flatten_append, List.take_append_drop]
  (first | lia | omega)

section
variable {Φ : Funs}

set_option tactic.hygienic false in
theorem skip_loop (h0 : ∀ s : List Nat, s.length < 1000000 → Φ 0 [.str s] = some (.bool (s.all isWs), false)) (data : List Nat) (lim : Int) (L : List (List Nat)) (hL : ∀ l ∈ L, l.length < 1000000) (hn : L.length < 50000) :
    ∃ ρ', whileF (fun ρ => do truthD (← ev Φ ρ [] (.bools true (.cons (.cmp .lt (.var 3) (.var 4)) (.cons (.ucall 0 (.cons (.idx (.var 2) (.var 3)) .nil)) .nil))))) (ex Φ l_reformat_paragraph_1) WHILE
      [.val (.str data), .val (.int lim), .own (L.map .str), .val (.int 0), .val (.int L.length), .unset, .unset, .unset, .unset, .unset, .unset, .unset] = some (ρ', .next) ∧
      ρ' = [.val (.str data), .val (.int lim), .own (L.map .str), .val (.int (L.takeWhile whiteL).length), .val (.int L.length), .unset, .unset, .unset, .unset, .unset, .unset, .unset] := by
  have hW : WHILE = 100000 := rfl
  have hle : (L.takeWhile whiteL).length ≤ L.length := (List.takeWhile_prefix _).length_le
  refine whileF_plain (fun k ρ => ∃ i : Nat, i ≤ (L.takeWhile whiteL).length ∧ k = (L.takeWhile whiteL).length - i ∧ ρ = [.val (.str data), .val (.int lim), .own (L.map .str), .val (.int i), .val (.int L.length), .unset, .unset, .unset, .unset, .unset, .unset, .unset]) _ ?_ WHILE (L.takeWhile whiteL).length _ ⟨0, by (first | lia | omega), by (first | lia | omega), rfl⟩ (by (first | lia | omega))
  rintro k ρ ⟨i, hi, hk, rfl⟩
  by_cases hlt : i < (L.takeWhile whiteL).length
  · right
    obtain ⟨x, hx, hw⟩ := tw_lt hlt
    have hidx := strs_idx hx
    have hlx := hL x (List.mem_of_getElem? hx)
    have hlt' : cmpD .lt (.int (i : Int)) (.int (L.length : Int)) = some true := congrArg some (decide_eq_true (by (first | lia | omega)))
    refine ⟨?_, (L.takeWhile whiteL).length - (i + 1), [.val (.str data), .val (.int lim), .own (L.map .str), .val (.int ((i + 1 : Nat) : Int)), .val (.int L.length), .unset, .unset, .unset, .unset, .unset, .unset, .unset], .inl ?_, ⟨i + 1, by (first | lia | omega), rfl, rfl⟩, by (first | lia | omega)⟩
    · have hx0 := h0 x hlx
      rw [show x.all isWs = true from hw] at hx0
      exact test_of (ev_bools (evB_go (by (repeat' (first | exact ev_const | exact ev_val rfl | exact ev_own rfl | exact ev_cvar rfl | exact evs_nil | assumption | apply evs_cons | apply ev_bin | apply ev_cmp | apply ev_idx | apply ev_slice | apply ev_fn | apply ev_meth | apply ev_not | apply ev_neg | apply ev_bools | apply ev_resplit | exact fn_len_strs _ | exact fn_len_ints _ | exact fn_len_list _ | exact fn_len_str _ | exact add_int _ _ | exact sub_int _ _ | exact truth_bool _ | exact rfl))) (truth_bool _) rfl (evB_one (ev_scall (by (repeat' (first | exact ev_const | exact ev_val rfl | exact ev_own rfl | exact ev_cvar rfl | exact evs_nil | assumption | apply evs_cons | apply ev_bin | apply ev_cmp | apply ev_idx | apply ev_slice | apply ev_fn | apply ev_meth | apply ev_not | apply ev_neg | apply ev_bools | apply ev_resplit | exact fn_len_strs _ | exact fn_len_ints _ | exact fn_len_list _ | exact fn_len_str _ | exact add_int _ _ | exact sub_int _ _ | exact truth_bool _ | exact rfl))) hx0 rfl)))) (truth_bool _)
    · exact run_seq (run_assign rfl (by (repeat' (first | exact ev_const | exact ev_val rfl | exact ev_own rfl | exact ev_cvar rfl | exact evs_nil | assumption | apply evs_cons | apply ev_bin | apply ev_cmp | apply ev_idx | apply ev_slice | apply ev_fn | apply ev_meth | apply ev_not | apply ev_neg | apply ev_bools | apply ev_resplit | exact fn_len_strs _ | exact fn_len_ints _ | exact fn_len_list _ | exact fn_len_str _ | exact add_int _ _ | exact sub_int _ _ | exact truth_bool _ | exact rfl))) rfl rfl) run_skip
  · left
    have hie : i = (L.takeWhile whiteL).length := by (first | lia | omega)
    refine ⟨?_, by rw [hie]⟩
    by_cases hend : i < L.length
    · have hx : L[i]? = some L[i] := List.getElem?_eq_getElem hend
      have hw := tw_at (p := whiteL) (l := L) (x := L[i]) (by rw [← hie]; exact hx)
      have hidx := strs_idx hx
      have hlx := hL _ (List.mem_of_getElem? hx)
      have hlt' : cmpD .lt (.int (i : Int)) (.int (L.length : Int)) = some true := congrArg some (decide_eq_true (by (first | lia | omega)))
      have hx0 := h0 _ hlx
      rw [show L[i].all isWs = false from hw] at hx0
      exact test_of (ev_bools (evB_go (by (repeat' (first | exact ev_const | exact ev_val rfl | exact ev_own rfl | exact ev_cvar rfl | exact evs_nil | assumption | apply evs_cons | apply ev_bin | apply ev_cmp | apply ev_idx | apply ev_slice | apply ev_fn | apply ev_meth | apply ev_not | apply ev_neg | apply ev_bools | apply ev_resplit | exact fn_len_strs _ | exact fn_len_ints _ | exact fn_len_list _ | exact fn_len_str _ | exact add_int _ _ | exact sub_int _ _ | exact truth_bool _ | exact rfl))) (truth_bool _) rfl (evB_one (ev_scall (by (repeat' (first | exact ev_const | exact ev_val rfl | exact ev_own rfl | exact ev_cvar rfl | exact evs_nil | assumption | apply evs_cons | apply ev_bin | apply ev_cmp | apply ev_idx | apply ev_slice | apply ev_fn | apply ev_meth | apply ev_not | apply ev_neg | apply ev_bools | apply ev_resplit | exact fn_len_strs _ | exact fn_len_ints _ | exact fn_len_list _ | exact fn_len_str _ | exact add_int _ _ | exact sub_int _ _ | exact truth_bool _ | exact rfl))) hx0 rfl)))) (truth_bool _)
    · have hlt' : cmpD .lt (.int (i : Int)) (.int (L.length : Int)) = some false := congrArg some (decide_eq_false (by (first | lia | omega)))
      exact test_of (ev_bools (evB_stop (by (repeat' (first | exact ev_const | exact ev_val rfl | exact ev_own rfl | exact ev_cvar rfl | exact evs_nil | assumption | apply evs_cons | apply ev_bin | apply ev_cmp | apply ev_idx | apply ev_slice | apply ev_fn | apply ev_meth | apply ev_not | apply ev_neg | apply ev_bools | apply ev_resplit | exact fn_len_strs _ | exact fn_len_ints _ | exact fn_len_list _ | exact fn_len_str _ | exact add_int _ _ | exact sub_int _ _ | exact truth_bool _ | exact rfl))) (truth_bool _) rfl)) (truth_bool _)

set_option tactic.hygienic false in
theorem fill_loop (h0 : ∀ s : List Nat, s.length < 1000000 → Φ 0 [.str s] = some (.bool (s.all isWs), false)) (data : List Nat) (lim : Int) (L : List (List Nat)) (hL : ∀ l ∈ L, l.length < 50000) (hn : L.length < 50000) (p : Nat) (hp : p ≤ L.length) (ind1 ind2 : List Nat) (st : List (List Nat) × List Nat)
    (hf : Fits ind2 st (((L.drop p).takeWhile fun x => !whiteL x).flatMap lineToks)) :
    ∃ ρ', whileF (fun ρ => do truthD (← ev Φ ρ [] (.bools true (.cons (.cmp .lt (.var 3) (.var 4)) (.cons (.not (.ucall 0 (.cons (.idx (.var 2) (.var 3)) .nil))) .nil))))) (ex Φ l_reformat_paragraph_3) WHILE
      (R1 data lim L (p : Int) (L.length : Int) ind1 ind2 st .unset .unset .unset) = some (ρ', .next) ∧
      ∃ a b c, ρ' = R1 data lim L ((p + ((L.drop p).takeWhile fun x => !whiteL x).length : Nat) : Int) (L.length : Int) ind1 ind2 ((((L.drop p).takeWhile fun x => !whiteL x).flatMap lineToks).foldl (stepF lim ind1 ind2) st) a b c := by
  have hW : WHILE = 100000 := rfl
  obtain ⟨T, hT⟩ : ∃ T, T = (L.drop p).takeWhile fun x => !whiteL x := ⟨_, rfl⟩
  have hle : T.length ≤ L.length - p := by
    have := (List.takeWhile_prefix (p := fun x => !whiteL x) (l := L.drop p)).length_le
    rw [← hT] at this
    simpa using this
  have htk : (L.drop p).take T.length = T := by rw [hT]; exact tw_take _ _
  rw [← hT] at hf ⊢
  refine whileF_plain (fun k ρ => ∃ (m : Nat) (a b c : Slot), m ≤ T.length ∧ k = T.length - m ∧ ρ = R1 data lim L ((p + m : Nat) : Int) (L.length : Int) ind1 ind2 (((T.take m).flatMap lineToks).foldl (stepF lim ind1 ind2) st) a b c) _ ?_ WHILE T.length _ ⟨0, .unset, .unset, .unset, by (first | lia | omega), by (first | lia | omega), by simp⟩ (by (first | lia | omega))
  rintro k ρ ⟨m, a, b, c, hm, hk, rfl⟩
  obtain ⟨q, hq⟩ : ∃ q, q = p + m := ⟨_, rfl⟩
  rw [← hq]
  by_cases hlt : m < T.length
  · right
    obtain ⟨x, hx, hw⟩ := tw_lt (p := fun x => !whiteL x) (l := L.drop p) (i := m) (by rw [← hT]; exact hlt)
    have hw' : x.all isWs = false := by simpa [whiteL] using hw
    have hTm : T[m]? = some x := by rw [← htk, List.getElem?_take, if_pos hlt]; exact hx
    rw [List.getElem?_drop, ← hq] at hx
    have hlx : q < L.length := (List.getElem?_eq_some_iff.mp hx).1
    have hidx := strs_idx hx
    have hxl := hL x (List.mem_of_getElem? hx)
    have hlt' : cmpD .lt (.int (q : Int)) (.int (L.length : Int)) = some true := congrArg some (decide_eq_true (by (first | lia | omega)))
    have hsplit : (T.take (m + 1)).flatMap lineToks = (T.take m).flatMap lineToks ++ lineToks x := by
      rw [List.take_add_one, hTm]; simp
    have hall : T.flatMap lineToks = (T.take (m + 1)).flatMap lineToks ++ (T.drop (m + 1)).flatMap lineToks := by
      rw [← List.flatMap_append, List.take_append_drop]
    have hfx : Fits ind2 (((T.take m).flatMap lineToks).foldl (stepF lim ind1 ind2) st) (lineToks x) := by
      rw [hall, hsplit, List.append_assoc] at hf
      exact ((hf.append (lim := lim) (ind1 := ind1)).2.append (lim := lim) (ind1 := ind1)).1
    have hrs := reSplit_flat x
    obtain ⟨a', b', c', hstep⟩ := line_step (Φ := Φ) (data := data) (lim := lim) (ind1 := ind1) (ind2 := ind2) (L := L) (n := (L.length : Int)) (w9 := a) (w10 := b) (w11 := c) hx (by (first | lia | omega)) hfx (by (first | lia | omega))
    refine ⟨?_, T.length - (m + 1), _, .inl hstep, ⟨m + 1, a', b', c', by (first | lia | omega), rfl, ?_⟩, by (first | lia | omega)⟩
    · have hx0 := h0 x (by (first | lia | omega))
      rw [hw'] at hx0
      exact test_of (ev_bools (evB_go (by (repeat' (first | exact ev_const | exact ev_val rfl | exact ev_own rfl | exact ev_cvar rfl | exact evs_nil | assumption | apply evs_cons | apply ev_bin | apply ev_cmp | apply ev_idx | apply ev_slice | apply ev_fn | apply ev_meth | apply ev_not | apply ev_neg | apply ev_bools | apply ev_resplit | exact fn_len_strs _ | exact fn_len_ints _ | exact fn_len_list _ | exact fn_len_str _ | exact add_int _ _ | exact sub_int _ _ | exact truth_bool _ | exact rfl))) (truth_bool _) rfl (evB_one (ev_not (ev_scall (by (repeat' (first | exact ev_const | exact ev_val rfl | exact ev_own rfl | exact ev_cvar rfl | exact evs_nil | assumption | apply evs_cons | apply ev_bin | apply ev_cmp | apply ev_idx | apply ev_slice | apply ev_fn | apply ev_meth | apply ev_not | apply ev_neg | apply ev_bools | apply ev_resplit | exact fn_len_strs _ | exact fn_len_ints _ | exact fn_len_list _ | exact fn_len_str _ | exact add_int _ _ | exact sub_int _ _ | exact truth_bool _ | exact rfl))) hx0 rfl) (truth_bool _))))) (truth_bool _)
    · rw [hsplit, List.foldl_append, hq]; rfl
  · left
    have hie : m = T.length := by (first | lia | omega)
    refine ⟨?_, a, b, c, by rw [hq, hie, List.take_length]⟩
    by_cases hend : q < L.length
    · have hx : L[q]? = some L[q] := List.getElem?_eq_getElem hend
      have hw := tw_at (p := fun x => !whiteL x) (l := L.drop p) (x := L[q]) (by rw [← hT, ← hie, List.getElem?_drop, ← hq]; exact hx)
      have hw' : L[q].all isWs = true := by simpa [whiteL] using hw
      have hidx := strs_idx hx
      have hlx := hL _ (List.mem_of_getElem? hx)
      have hx0 := h0 L[q] (by (first | lia | omega))
      rw [hw'] at hx0
      have hlt' : cmpD .lt (.int (q : Int)) (.int (L.length : Int)) = some true := congrArg some (decide_eq_true (by (first | lia | omega)))
      exact test_of (ev_bools (evB_go (by (repeat' (first | exact ev_const | exact ev_val rfl | exact ev_own rfl | exact ev_cvar rfl | exact evs_nil | assumption | apply evs_cons | apply ev_bin | apply ev_cmp | apply ev_idx | apply ev_slice | apply ev_fn | apply ev_meth | apply ev_not | apply ev_neg | apply ev_bools | apply ev_resplit | exact fn_len_strs _ | exact fn_len_ints _ | exact fn_len_list _ | exact fn_len_str _ | exact add_int _ _ | exact sub_int _ _ | exact truth_bool _ | exact rfl))) (truth_bool _) rfl (evB_one (ev_not (ev_scall (by (repeat' (first | exact ev_const | exact ev_val rfl | exact ev_own rfl | exact ev_cvar rfl | exact evs_nil | assumption | apply evs_cons | apply ev_bin | apply ev_cmp | apply ev_idx | apply ev_slice | apply ev_fn | apply ev_meth | apply ev_not | apply ev_neg | apply ev_bools | apply ev_resplit | exact fn_len_strs _ | exact fn_len_ints _ | exact fn_len_list _ | exact fn_len_str _ | exact add_int _ _ | exact sub_int _ _ | exact truth_bool _ | exact rfl))) hx0 rfl) (truth_bool _))))) (truth_bool _)
    · have hlt' : cmpD .lt (.int (q : Int)) (.int (L.length : Int)) = some false := congrArg some (decide_eq_false (by (first | lia | omega)))
      exact test_of (ev_bools (evB_stop (by (repeat' (first | exact ev_const | exact ev_val rfl | exact ev_own rfl | exact ev_cvar rfl | exact evs_nil | assumption | apply evs_cons | apply ev_bin | apply ev_cmp | apply ev_idx | apply ev_slice | apply ev_fn | apply ev_meth | apply ev_not | apply ev_neg | apply ev_bools | apply ev_resplit | exact fn_len_strs _ | exact fn_len_ints _ | exact fn_len_list _ | exact fn_len_str _ | exact add_int _ _ | exact sub_int _ _ | exact truth_bool _ | exact rfl))) (truth_bool _) rfl)) (truth_bool _)
end
end Mine
end
/-! Q5 -/
section
open PySem
set_option linter.unusedSimpArgs false
set_option linter.unusedVariables false
namespace Mine

section
variable {Φ : Funs}

set_option tactic.hygienic false in
theorem reformat_run (h0 : ∀ s : List Nat, s.length < 1000000 → Φ 0 [.str s] = some (.bool (s.all isWs), false)) (h1 : ∀ s : List Nat, s.length < 1000000 → Φ 1 [.str s] = some (.str (indentOf s), false))
    (data : List Nat) (lim : Int) (hd : data.length ≤ 1500) : ∃ fr, runF Φ f_reformat_paragraph [.str data, .int lim] = some (.str (reform data lim), fr) := by
  have hLIM : LIM = 16777216 := rfl
  obtain ⟨L, hL⟩ : ∃ L, L = splitOn 10 data := ⟨_, rfl⟩
  have hsz : L.flatten.length + L.length = data.length + 1 := by rw [hL]; exact (splitBy_size _ _).1
  have hmem : ∀ l ∈ L, l.length < 50000 := fun l h => by have := mem_flat_le h; (first | lia | omega)
  obtain ⟨p, hp⟩ : ∃ p, p = (L.takeWhile whiteL).length := ⟨_, rfl⟩
  have hple : p ≤ L.length := by rw [hp]; exact (List.takeWhile_prefix _).length_le
  have hdrop : L.drop p = L.dropWhile whiteL := by rw [hp]; exact tw_drop _ _
  have htake : L.take p = L.takeWhile whiteL := by rw [hp]; exact tw_take _ _
  obtain ⟨ρ4, h4, rfl⟩ := skip_loop (Φ := Φ) h0 data lim L (fun l h => by have := hmem l h; (first | lia | omega)) (by (first | lia | omega))
  rw [← hp] at h4
  have hsplit : methD .split (.str data) [.str [10]] = some (.list (L.map .str)) := by
    simp only [methD]; rw [if_pos (by (first | lia | omega)), hL]
  have pre : ∀ (b : C) (r : Option (List Slot × Fl)), ex Φ b [.val (.str data), .val (.int lim), .own (L.map .str), .val (.int p), .val (.int L.length), .unset, .unset, .unset, .unset, .unset, .unset, .unset] = r →
      ex Φ (.seq (.assign 2 (.meth .split (.var 0) (.cons (.const (.str [10])) .nil))) (.seq (.assign 3 (.const (.int 0))) (.seq (.assign 4 (.fn .len (.cons (.var 2) .nil)))
        (.seq (.whil (.bools true (.cons (.cmp .lt (.var 3) (.var 4)) (.cons (.ucall 0 (.cons (.idx (.var 2) (.var 3)) .nil)) .nil))) l_reformat_paragraph_1) b))))
        [.val (.str data), .val (.int lim), .unset, .unset, .unset, .unset, .unset, .unset, .unset, .unset, .unset, .unset] = r := by
    intro b r hr
    refine run_seq (ρ₁ := [.val (.str data), .val (.int lim), .own (L.map .str), .unset, .unset, .unset, .unset, .unset, .unset, .unset, .unset, .unset]) (run_assign rfl (by (repeat' (first | exact ev_const | exact ev_val rfl | exact ev_own rfl | exact ev_cvar rfl | exact evs_nil | assumption | apply evs_cons | apply ev_bin | apply ev_cmp | apply ev_idx | apply ev_slice | apply ev_fn | apply ev_meth | apply ev_not | apply ev_neg | apply ev_bools | apply ev_resplit | exact fn_len_strs _ | exact fn_len_ints _ | exact fn_len_list _ | exact fn_len_str _ | exact add_int _ _ | exact sub_int _ _ | exact truth_bool _ | exact rfl))) rfl rfl) ?_
    refine run_seq (ρ₁ := [.val (.str data), .val (.int lim), .own (L.map .str), .val (.int 0), .unset, .unset, .unset, .unset, .unset, .unset, .unset, .unset]) (run_assign rfl (by (repeat' (first | exact ev_const | exact ev_val rfl | exact ev_own rfl | exact ev_cvar rfl | exact evs_nil | assumption | apply evs_cons | apply ev_bin | apply ev_cmp | apply ev_idx | apply ev_slice | apply ev_fn | apply ev_meth | apply ev_not | apply ev_neg | apply ev_bools | apply ev_resplit | exact fn_len_strs _ | exact fn_len_ints _ | exact fn_len_list _ | exact fn_len_str _ | exact add_int _ _ | exact sub_int _ _ | exact truth_bool _ | exact rfl))) rfl rfl) ?_
    refine run_seq (ρ₁ := [.val (.str data), .val (.int lim), .own (L.map .str), .val (.int 0), .val (.int L.length), .unset, .unset, .unset, .unset, .unset, .unset, .unset]) (run_assign rfl (by (repeat' (first | exact ev_const | exact ev_val rfl | exact ev_own rfl | exact ev_cvar rfl | exact evs_nil | assumption | apply evs_cons | apply ev_bin | apply ev_cmp | apply ev_idx | apply ev_slice | apply ev_fn | apply ev_meth | apply ev_not | apply ev_neg | apply ev_bools | apply ev_resplit | exact fn_len_strs _ | exact fn_len_ints _ | exact fn_len_list _ | exact fn_len_str _ | exact add_int _ _ | exact sub_int _ _ | exact truth_bool _ | exact rfl))) rfl rfl) ?_
    exact run_seq (run_while h4) hr
  have hrun : ∀ ρ' r fr, ex Φ b_reformat_paragraph [.val (.str data), .val (.int lim), .unset, .unset, .unset, .unset, .unset, .unset, .unset, .unset, .unset, .unset] = some (ρ', .ret (.str r) fr) →
      ∃ fr, runF Φ f_reformat_paragraph [.str data, .int lim] = some (.str r, fr) := by
    intro ρ' r fr h
    exact ⟨fr, run_fun rfl h⟩
  cases hdw : L.dropWhile whiteL with
  | nil =>
    have hpn : p = L.length := by
      have := congrArg List.length hdrop
      rw [hdw] at this
      simp at this
      (first | lia | omega)
    have hr : reform data lim = data := by
      unfold reform
      simp only [← hL, hdw]
    rw [hr]
    refine hrun [.val (.str data), .val (.int lim), .own (L.map .str), .val (.int p), .val (.int L.length), .unset, .unset, .unset, .unset, .unset, .unset, .unset] data false ?_
    have hge : cmpD .ge (.int (p : Int)) (.int (L.length : Int)) = some true := congrArg some (decide_eq_true (by (first | lia | omega)))
    exact pre _ _ (run_stop (run_ite_t (by (repeat' (first | exact ev_const | exact ev_val rfl | exact ev_own rfl | exact ev_cvar rfl | exact evs_nil | assumption | apply evs_cons | apply ev_bin | apply ev_cmp | apply ev_idx | apply ev_slice | apply ev_fn | apply ev_meth | apply ev_not | apply ev_neg | apply ev_bools | apply ev_resplit | exact fn_len_strs _ | exact fn_len_ints _ | exact fn_len_list _ | exact fn_len_str _ | exact add_int _ _ | exact sub_int _ _ | exact truth_bool _ | exact rfl))) (truth_bool _) (run_stop (run_retv rfl) (fun h => by cases h))) (fun h => by cases h))
  | cons l rest =>
    have hpn : p < L.length := by
      have := congrArg List.length hdrop
      rw [hdw] at this
      simp at this
      (first | lia | omega)
    have hLp : L[p]? = some l := by
      have : (L.drop p)[0]? = some l := by rw [hdrop, hdw]; rfl
      simpa using this
    have hLp1 : L[p + 1]? = rest[0]? := by
      have : (L.drop p)[1]? = rest[0]? := by rw [hdrop, hdw]; rfl
      simpa using this
    have hidx := strs_idx hLp
    have hll := hmem l (List.mem_of_getElem? hLp)
    have hi1 := h1 l (by (first | lia | omega))
    obtain ⟨ind1, hind1⟩ : ∃ i, i = indentOf l := ⟨_, rfl⟩
    obtain ⟨ind2, hind2⟩ : ∃ i, i = ind2Of l rest := ⟨_, rfl⟩
    have il : ∀ x : List Nat, (indentOf x).length ≤ x.length := fun x => (List.takeWhile_prefix _).length_le
    have hfl := flat_drop_le L p
    rw [hdrop, hdw] at hfl
    have hfl' : l.length + rest.flatten.length ≤ L.flatten.length := by simpa using hfl
    have h1l : ind1.length ≤ data.length := by rw [hind1]; have := il l; (first | lia | omega)
    have h2l : ind2.length ≤ data.length := by
      rw [hind2]
      have := il l
      cases hr : rest with
      | nil => simp [ind2Of]; (first | lia | omega)
      | cons l2 r2 =>
        rw [hr] at hfl'
        have := il l2
        simp only [List.flatten_cons, List.length_append] at hfl'
        simp only [ind2Of]
        split <;> (first | lia | omega)
    obtain ⟨T, hT⟩ : ∃ T, T = (l :: rest).takeWhile fun x => !whiteL x := ⟨_, rfl⟩
    have hTd : (L.drop p).takeWhile (fun x => !whiteL x) = T := by rw [hdrop, hdw, hT]
    have hTf : T.flatten.length ≤ L.flatten.length := by
      have h3 := flat_take_le (l :: rest) T.length
      rw [hT, tw_take, ← hT] at h3
      have : (l :: rest).flatten.length = l.length + rest.flatten.length := by simp
      (first | lia | omega)
    have hts := flat_size T
    obtain ⟨toks, htoks⟩ : ∃ t, t = T.flatMap lineToks := ⟨_, rfl⟩
    rw [← htoks] at hts
    have hK1 : ind1.length + tokLen toks ≤ 6000 := by (first | lia | omega)
    have hK2 : ind2.length + tokLen toks ≤ 6000 := by (first | lia | omega)
    have hfits : Fits ind2 (L.take p, ind1) toks := ⟨by simp only; (first | lia | omega), by (first | lia | omega), by simp; (first | lia | omega)⟩
    obtain ⟨ρ', hw, a, b, c, rfl⟩ := fill_loop (Φ := Φ) h0 data lim L hmem (by (first | lia | omega)) p (by (first | lia | omega)) ind1 ind2 (L.take p, ind1) (by rw [hTd, ← htoks]; exact hfits)
    rw [hTd, ← htoks] at hw
    obtain ⟨st, hst⟩ : ∃ st, st = toks.foldl (stepF lim ind1 ind2) (L.take p, ind1) := ⟨_, rfl⟩
    have hfs := fold_size (lim := lim) (ind1 := ind1) (ind2 := ind2) 6000 toks (L.take p, ind1) hK1 hK2
    rw [← hst] at hw hfs
    obtain ⟨hf1, hf2, hf3⟩ := hfs
    simp only at hf1 hf3
    have hsl : sumL (L.take p) ≤ data.length + 1 := by
      rw [sumL_flat]
      have := flat_take_le L p
      simp only [List.length_take]
      (first | lia | omega)
    have hpost : L.drop (p + T.length) = (l :: rest).dropWhile fun x => !whiteL x := by
      rw [← List.drop_drop, hdrop, hdw, hT, tw_drop]
    have hsd : sumL (L.drop (p + T.length)) ≤ data.length + 1 := by
      rw [sumL_flat]
      have := flat_drop_le L (p + T.length)
      simp only [List.length_drop]
      (first | lia | omega)
    have hreform : reform data lim = joinWith [10] (st.1 ++ [rstrip st.2] ++ L.drop (p + T.length)) := by
      unfold reform
      simp only [← hL, hdw]
      rw [← htake, ← hT, ← hpost, ← hind1, ← hind2, ← htoks, ← hst]
    have hlen1 : st.1.length ≤ 5000 := by simp at hf3; (first | lia | omega)
    have htl : toks.length ≤ 1500 := by (first | lia | omega)
    have hmul : toks.length * (6000 + 1) ≤ 1500 * 6001 := Nat.mul_le_mul htl (Nat.le_refl _)
    have hjoin : methD .join (.str [10]) [.list ((st.1 ++ [rstrip st.2] ++ L.drop (p + T.length)).map .str)] = some (.str (reform data lim)) := by
      simp only [methD, strs_map, Option.bind_some]
      rw [if_pos, ← hreform]
      show sumL _ ≤ LIM
      rw [sumL_append, sumL_append]
      have hrs := rstrip_le st.2
      have : sumL [rstrip st.2] ≤ 6001 := by simp [sumL]; (first | lia | omega)
      (first | lia | omega)
    have hpl : ((p + T.length : Nat) : Int) = ((p + T.length : Nat) : Int) := rfl
    refine hrun (R1 data lim L ((p + T.length : Nat) : Int) (L.length : Int) ind1 ind2 (st.1 ++ [rstrip st.2] ++ L.drop (p + T.length), st.2) a b c) (reform data lim) true ?_
    have hge : cmpD .ge (.int (p : Int)) (.int (L.length : Int)) = some false := congrArg some (decide_eq_false (by (first | lia | omega)))
    rw [← hind1] at hi1
    refine pre _ _ (run_seq (run_ite_f (by (repeat' (first | exact ev_const | exact ev_val rfl | exact ev_own rfl | exact ev_cvar rfl | exact evs_nil | assumption | apply evs_cons | apply ev_bin | apply ev_cmp | apply ev_idx | apply ev_slice | apply ev_fn | apply ev_meth | apply ev_not | apply ev_neg | apply ev_bools | apply ev_resplit | exact fn_len_strs _ | exact fn_len_ints _ | exact fn_len_list _ | exact fn_len_str _ | exact add_int _ _ | exact sub_int _ _ | exact truth_bool _ | exact rfl))) (truth_bool _) run_skip) ?_)
    refine run_seq (ρ₁ := [.val (.str data), .val (.int lim), .own (L.map .str), .val (.int p), .val (.int L.length), .val (.str ind1), .unset, .unset, .unset, .unset, .unset, .unset]) (run_assign rfl (ev_scall (by (repeat' (first | exact ev_const | exact ev_val rfl | exact ev_own rfl | exact ev_cvar rfl | exact evs_nil | assumption | apply evs_cons | apply ev_bin | apply ev_cmp | apply ev_idx | apply ev_slice | apply ev_fn | apply ev_meth | apply ev_not | apply ev_neg | apply ev_bools | apply ev_resplit | exact fn_len_strs _ | exact fn_len_ints _ | exact fn_len_list _ | exact fn_len_str _ | exact add_int _ _ | exact sub_int _ _ | exact truth_bool _ | exact rfl))) hi1 rfl) rfl rfl) ?_
    refine run_seq (ρ₁ := [.val (.str data), .val (.int lim), .own (L.map .str), .val (.int p), .val (.int L.length), .val (.str ind1), .val (.str ind2), .unset, .unset, .unset, .unset, .unset]) ?_ ?_
    · cases hr : rest with
      | nil =>
        rw [hr] at hLp1
        have hno : cmpD .lt (.int ((p : Int) + 1)) (.int (L.length : Int)) = some false := congrArg some (decide_eq_false (by have := List.getElem?_eq_none_iff.mp hLp1; (first | lia | omega)))
        have e2 : ind2 = ind1 := by rw [hind2, hind1, hr]; rfl
        rw [e2]
        exact run_ite_f (ev_bools (evB_stop (by (repeat' (first | exact ev_const | exact ev_val rfl | exact ev_own rfl | exact ev_cvar rfl | exact evs_nil | assumption | apply evs_cons | apply ev_bin | apply ev_cmp | apply ev_idx | apply ev_slice | apply ev_fn | apply ev_meth | apply ev_not | apply ev_neg | apply ev_bools | apply ev_resplit | exact fn_len_strs _ | exact fn_len_ints _ | exact fn_len_list _ | exact fn_len_str _ | exact add_int _ _ | exact sub_int _ _ | exact truth_bool _ | exact rfl))) (truth_bool _) rfl)) (truth_bool _) (run_seq (run_assign rfl (by (repeat' (first | exact ev_const | exact ev_val rfl | exact ev_own rfl | exact ev_cvar rfl | exact evs_nil | assumption | apply evs_cons | apply ev_bin | apply ev_cmp | apply ev_idx | apply ev_slice | apply ev_fn | apply ev_meth | apply ev_not | apply ev_neg | apply ev_bools | apply ev_resplit | exact fn_len_strs _ | exact fn_len_ints _ | exact fn_len_list _ | exact fn_len_str _ | exact add_int _ _ | exact sub_int _ _ | exact truth_bool _ | exact rfl))) rfl rfl) run_skip)
      | cons l2 r2 =>
        rw [hr] at hLp1
        have hlt2 : p + 1 < L.length := (List.getElem?_eq_some_iff.mp hLp1).1
        have hyes : cmpD .lt (.int ((p : Int) + 1)) (.int (L.length : Int)) = some true := congrArg some (decide_eq_true (by (first | lia | omega)))
        have hidx2 : idxD (.list (L.map .str)) (.int ((p : Int) + 1)) = some (.str l2) := strs_idx hLp1
        have hl2 := hmem l2 (List.mem_of_getElem? hLp1)
        have h02 := h0 l2 (by (first | lia | omega))
        have h12 := h1 l2 (by (first | lia | omega))
        by_cases hw2 : whiteL l2 = true
        · rw [show l2.all isWs = true from hw2] at h02
          have e2 : ind2 = ind1 := by rw [hind2, hind1, hr]; simp [ind2Of, hw2]
          rw [e2]
          exact run_ite_f (ev_bools (evB_go (by (repeat' (first | exact ev_const | exact ev_val rfl | exact ev_own rfl | exact ev_cvar rfl | exact evs_nil | assumption | apply evs_cons | apply ev_bin | apply ev_cmp | apply ev_idx | apply ev_slice | apply ev_fn | apply ev_meth | apply ev_not | apply ev_neg | apply ev_bools | apply ev_resplit | exact fn_len_strs _ | exact fn_len_ints _ | exact fn_len_list _ | exact fn_len_str _ | exact add_int _ _ | exact sub_int _ _ | exact truth_bool _ | exact rfl))) (truth_bool _) rfl (evB_one (ev_not (ev_scall (by (repeat' (first | exact ev_const | exact ev_val rfl | exact ev_own rfl | exact ev_cvar rfl | exact evs_nil | assumption | apply evs_cons | apply ev_bin | apply ev_cmp | apply ev_idx | apply ev_slice | apply ev_fn | apply ev_meth | apply ev_not | apply ev_neg | apply ev_bools | apply ev_resplit | exact fn_len_strs _ | exact fn_len_ints _ | exact fn_len_list _ | exact fn_len_str _ | exact add_int _ _ | exact sub_int _ _ | exact truth_bool _ | exact rfl))) h02 rfl) (truth_bool _))))) (truth_bool _) (run_seq (run_assign rfl (by (repeat' (first | exact ev_const | exact ev_val rfl | exact ev_own rfl | exact ev_cvar rfl | exact evs_nil | assumption | apply evs_cons | apply ev_bin | apply ev_cmp | apply ev_idx | apply ev_slice | apply ev_fn | apply ev_meth | apply ev_not | apply ev_neg | apply ev_bools | apply ev_resplit | exact fn_len_strs _ | exact fn_len_ints _ | exact fn_len_list _ | exact fn_len_str _ | exact add_int _ _ | exact sub_int _ _ | exact truth_bool _ | exact rfl))) rfl rfl) run_skip)
        · rw [show l2.all isWs = false from by simpa [whiteL] using hw2] at h02
          have e2 : ind2 = indentOf l2 := by rw [hind2, hr]; simp [ind2Of, hw2]
          rw [e2]
          exact run_ite_t (ev_bools (evB_go (by (repeat' (first | exact ev_const | exact ev_val rfl | exact ev_own rfl | exact ev_cvar rfl | exact evs_nil | assumption | apply evs_cons | apply ev_bin | apply ev_cmp | apply ev_idx | apply ev_slice | apply ev_fn | apply ev_meth | apply ev_not | apply ev_neg | apply ev_bools | apply ev_resplit | exact fn_len_strs _ | exact fn_len_ints _ | exact fn_len_list _ | exact fn_len_str _ | exact add_int _ _ | exact sub_int _ _ | exact truth_bool _ | exact rfl))) (truth_bool _) rfl (evB_one (ev_not (ev_scall (by (repeat' (first | exact ev_const | exact ev_val rfl | exact ev_own rfl | exact ev_cvar rfl | exact evs_nil | assumption | apply evs_cons | apply ev_bin | apply ev_cmp | apply ev_idx | apply ev_slice | apply ev_fn | apply ev_meth | apply ev_not | apply ev_neg | apply ev_bools | apply ev_resplit | exact fn_len_strs _ | exact fn_len_ints _ | exact fn_len_list _ | exact fn_len_str _ | exact add_int _ _ | exact sub_int _ _ | exact truth_bool _ | exact rfl))) h02 rfl) (truth_bool _))))) (truth_bool _) (run_seq (run_assign rfl (ev_scall (by (repeat' (first | exact ev_const | exact ev_val rfl | exact ev_own rfl | exact ev_cvar rfl | exact evs_nil | assumption | apply evs_cons | apply ev_bin | apply ev_cmp | apply ev_idx | apply ev_slice | apply ev_fn | apply ev_meth | apply ev_not | apply ev_neg | apply ev_bools | apply ev_resplit | exact fn_len_strs _ | exact fn_len_ints _ | exact fn_len_list _ | exact fn_len_str _ | exact add_int _ _ | exact sub_int _ _ | exact truth_bool _ | exact rfl))) h12 rfl) rfl rfl) run_skip)
    have hcut1 : sliceD (.list (L.map D.str)) .none (.int (p : Int)) = some (.list ((L.take p).map .str)) := by rw [List.map_take, ← cut_to]; rfl
    refine run_seq (ρ₁ := [.val (.str data), .val (.int lim), .own (L.map .str), .val (.int p), .val (.int L.length), .val (.str ind1), .val (.str ind2), .own ((L.take p).map .str), .unset, .unset, .unset, .unset]) (run_assign rfl (by (repeat' (first | exact ev_const | exact ev_val rfl | exact ev_own rfl | exact ev_cvar rfl | exact evs_nil | assumption | apply evs_cons | apply ev_bin | apply ev_cmp | apply ev_idx | apply ev_slice | apply ev_fn | apply ev_meth | apply ev_not | apply ev_neg | apply ev_bools | apply ev_resplit | exact fn_len_strs _ | exact fn_len_ints _ | exact fn_len_list _ | exact fn_len_str _ | exact add_int _ _ | exact sub_int _ _ | exact truth_bool _ | exact rfl))) rfl rfl) ?_
    refine run_seq (ρ₁ := R1 data lim L (p : Int) (L.length : Int) ind1 ind2 (L.take p, ind1) .unset .unset .unset) (run_assign rfl (by (repeat' (first | exact ev_const | exact ev_val rfl | exact ev_own rfl | exact ev_cvar rfl | exact evs_nil | assumption | apply evs_cons | apply ev_bin | apply ev_cmp | apply ev_idx | apply ev_slice | apply ev_fn | apply ev_meth | apply ev_not | apply ev_neg | apply ev_bools | apply ev_resplit | exact fn_len_strs _ | exact fn_len_ints _ | exact fn_len_list _ | exact fn_len_str _ | exact add_int _ _ | exact sub_int _ _ | exact truth_bool _ | exact rfl))) rfl rfl) ?_
    refine run_seq (ρ₁ := R1 data lim L ((p + T.length : Nat) : Int) (L.length : Int) ind1 ind2 st a b c) (run_while hw) ?_
    generalize p + T.length = q at *
    have hrl : (st.1.map D.str).length < LIM := by rw [List.length_map]; (first | lia | omega)
    have hsz2 : ((st.1 ++ [rstrip st.2]).map D.str).length + ((L.drop q).map D.str).length ≤ LIM := by simp; (first | lia | omega)
    have hcut2 : sliceD (.list (L.map D.str)) (.int (q : Int)) .none = some (.list ((L.drop q).map .str)) := by rw [List.map_drop, ← cut_from]; rfl
    refine run_seq (ρ₁ := R1 data lim L (q : Int) (L.length : Int) ind1 ind2 (st.1 ++ [rstrip st.2], st.2) a b c) (run_append rfl (by (repeat' (first | exact ev_const | exact ev_val rfl | exact ev_own rfl | exact ev_cvar rfl | exact evs_nil | assumption | apply evs_cons | apply ev_bin | apply ev_cmp | apply ev_idx | apply ev_slice | apply ev_fn | apply ev_meth | apply ev_not | apply ev_neg | apply ev_bools | apply ev_resplit | exact fn_len_strs _ | exact fn_len_ints _ | exact fn_len_list _ | exact fn_len_str _ | exact add_int _ _ | exact sub_int _ _ | exact truth_bool _ | exact rfl))) rfl hrl (by unfold R1; rw [List.map_append]; rfl)) ?_
    refine run_seq (ρ₁ := R1 data lim L (q : Int) (L.length : Int) ind1 ind2 (st.1 ++ [rstrip st.2] ++ L.drop q, st.2) a b c) (run_extend rfl (by (repeat' (first | exact ev_const | exact ev_val rfl | exact ev_own rfl | exact ev_cvar rfl | exact evs_nil | assumption | apply evs_cons | apply ev_bin | apply ev_cmp | apply ev_idx | apply ev_slice | apply ev_fn | apply ev_meth | apply ev_not | apply ev_neg | apply ev_bools | apply ev_resplit | exact fn_len_strs _ | exact fn_len_ints _ | exact fn_len_list _ | exact fn_len_str _ | exact add_int _ _ | exact sub_int _ _ | exact truth_bool _ | exact rfl))) rfl hsz2 (by unfold R1; rw [List.map_append (l₁ := st.1 ++ [rstrip st.2])]; rfl)) ?_
    exact run_stop (run_ret rfl (by (repeat' (first | exact ev_const | exact ev_val rfl | exact ev_own rfl | exact ev_cvar rfl | exact evs_nil | assumption | apply evs_cons | apply ev_bin | apply ev_cmp | apply ev_idx | apply ev_slice | apply ev_fn | apply ev_meth | apply ev_not | apply ev_neg | apply ev_bools | apply ev_resplit | exact fn_len_strs _ | exact fn_len_ints _ | exact fn_len_list _ | exact fn_len_str _ | exact add_int _ _ | exact sub_int _ _ | exact truth_bool _ | exact rfl)))) (fun h => by cases h)
end
end Mine
end
/-! Q6 -/
section
open PySem
set_option linter.unusedSimpArgs false
set_option linter.unusedVariables false
namespace Mine

/-! ## texts: the plain theory -/
noncomputable def Word (w : List Nat) : Prop := w ≠ [] ∧ ∀ c ∈ w, isWs c = false
noncomputable def White (s : List Nat) : Prop := ∀ c ∈ s, isWs c = true
noncomputable def gapL (s : List Nat) : Nat := if s = [] ∨ s = [32] then 1 else 2
noncomputable def line1 (s : List Nat) : List Nat := s.takeWhile (fun c => c != 10)
noncomputable def gapOf (s : List Nat) : Nat := gapL (line1 s)

set_option tactic.hygienic false in
theorem ws_32 : isWs 32 = true := by decide +kernel
set_option tactic.hygienic false in
theorem ws_9 : isWs 9 = true := by decide +kernel
set_option tactic.hygienic false in
theorem ws_10 : isWs 10 = true := by decide +kernel
set_option tactic.hygienic false in
theorem ws_13 : isWs 13 = true := by decide +kernel

set_option tactic.hygienic false in
theorem reGo_at (p : Nat → Bool) : ∀ (s : List Nat) (b : Bool), reGo p b s = (s.takeWhile (fun c => p c == b)) :: (match s.dropWhile (fun c => p c == b) with | [] => [] | r => reGo p (!b) r)
  | [], _ => rfl
  | x :: r, b => by
    by_cases h : (p x == b) = true
    · have e : reGo p b (x :: r) = match reGo p b r with | [] => [[x]] | w :: ws => (x :: w) :: ws := by
        show (if (p x == b) = true then _ else _) = _
        rw [if_pos h]; try rfl
      rw [e, reGo_at p r b]
      simp only [List.takeWhile_cons, List.dropWhile_cons, h, if_true]
    · have hf : (p x == b) = false := by simpa using h
      have hb : (p x == !b) = true := by revert hf; cases p x <;> cases b <;> simp
      have e : reGo p b (x :: r) = [] :: (match reGo p (!b) r with | [] => [[x]] | w :: ws => (x :: w) :: ws) := by
        show (if (p x == b) = true then _ else _) = _
        rw [if_neg h]; try rfl
      have e2 : reGo p (!b) (x :: r) = match reGo p (!b) r with | [] => [[x]] | w :: ws => (x :: w) :: ws := by
        show (if (p x == !b) = true then _ else _) = _
        rw [if_pos hb]; try rfl
      rw [e]
      simp only [List.takeWhile_cons, List.dropWhile_cons, hf, Bool.false_eq_true, if_false]
      rw [e2]

noncomputable def fixP (ps : List (List Nat)) : List (List Nat) := if ps.length % 2 = 0 then ps ++ [[]] else ps
theorem lineToks_fix (l : List Nat) : lineToks l = evenToks (fixP (reGo isWs false l)) := rfl
set_option tactic.hygienic false in
theorem fixP_two (a b : List Nat) (ps : List (List Nat)) : fixP (a :: b :: ps) = a :: b :: fixP ps := by
  unfold fixP
  simp only [List.length_cons]
  by_cases h : ps.length % 2 = 0
  · rw [if_pos h, if_pos (by (first | lia | omega))]; rfl
  · rw [if_neg h, if_neg (by (first | lia | omega))]

set_option tactic.hygienic false in
theorem tw_append_stop {p : Nat → Bool} {a b : List Nat} (ha : ∀ c ∈ a, p c = true) (hb : ∀ c r, b = c :: r → p c = false) : (a ++ b).takeWhile p = a ∧ (a ++ b).dropWhile p = b := by
  induction a with
  | nil =>
    cases b with
    | nil => simp
    | cons c r => simp [hb c r rfl]
  | cons x a ih =>
    have := ih fun c h => ha c (by simp [h])
    simp [ha x (by simp), this]

set_option tactic.hygienic false in
/-- leading white is dropped -/
theorem lineToks_white {s l : List Nat} (hs : White s) : lineToks (s ++ l) = lineToks l := by
  induction s with
  | nil => rfl
  | cons x s ih =>
    have hx := hs x (by simp)
    rw [← ih fun c h => hs c (by simp [h])]
    rw [List.cons_append]
    generalize s ++ l = m
    rw [lineToks_fix, lineToks_fix]
    rw [reGo_at isWs (x :: m) false, reGo_at isWs m false]
    simp only [List.takeWhile_cons, List.dropWhile_cons, hx]
    simp only [show (true == false) = false from rfl, Bool.false_eq_true, if_false, Bool.not_false]
    rw [reGo_at isWs (x :: m) true]
    simp only [List.takeWhile_cons, List.dropWhile_cons, hx, beq_self_eq_true, if_true, Bool.not_true]
    cases m with
    | nil => simp [fixP, evenToks]
    | cons y m' =>
      by_cases hy : isWs y = true
      · simp only [List.takeWhile_cons, List.dropWhile_cons, hy, show (true == false) = false from rfl, Bool.false_eq_true, if_false, beq_self_eq_true, if_true]
        rw [reGo_at isWs (y :: m') true]
        simp only [List.takeWhile_cons, List.dropWhile_cons, hy, beq_self_eq_true, if_true, Bool.not_true]
        cases hd : m'.dropWhile (fun c => isWs c == true) with
        | nil => simp [fixP, evenToks]
        | cons z q => simp only [fixP_two, evenToks, List.isEmpty_nil, if_true]
      · have hy' : isWs y = false := by simpa using hy
        simp only [List.takeWhile_cons, List.dropWhile_cons, hy', show (false == true) = false from rfl, Bool.false_eq_true, if_false, beq_self_eq_true, if_true]
        rw [fixP_two]
        simp only [evenToks, List.isEmpty_nil, if_true]
        rw [reGo_at isWs (y :: m') false]
        simp only [List.takeWhile_cons, List.dropWhile_cons, hy', beq_self_eq_true, if_true, Bool.not_false]

set_option tactic.hygienic false in
theorem lineToks_nil : lineToks [] = [] := by decide +kernel
set_option tactic.hygienic false in
theorem lineToks_word {w : List Nat} (hw : Word w) : lineToks w = [(w, 1)] := by
  rw [lineToks_fix, reGo_at]
  obtain ⟨h1, h2⟩ := tw_append_stop (p := fun c => isWs c == false) (a := w) (b := []) (fun c h => by simp [hw.2 c h]) (fun c r h => by cases h)
  simp only [List.append_nil] at h1 h2
  rw [h1, h2]
  have : w.isEmpty = false := by simpa using hw.1
  simp [fixP, evenToks, this]
set_option tactic.hygienic false in
theorem lineToks_cons {w s l : List Nat} (hw : Word w) (hs : White s) (hne : s ≠ []) (hl : ∀ c r, l = c :: r → isWs c = false) : lineToks (w ++ s ++ l) = (w, gapL s) :: lineToks l := by
  have hwe : w.isEmpty = false := by simpa using hw.1
  obtain ⟨c0, s0, rfl⟩ : ∃ c0 s0, s = c0 :: s0 := by cases s with | nil => exact absurd rfl hne | cons a b => exact ⟨a, b, rfl⟩
  rw [lineToks_fix, reGo_at, List.append_assoc]
  obtain ⟨h1, h2⟩ := tw_append_stop (p := fun c => isWs c == false) (a := w) (b := (c0 :: s0) ++ l) (fun c h => by simp [hw.2 c h]) (fun c r h => by simp at h; rw [← h.1]; simp [hs c0 (by simp)])
  rw [h1, h2]
  simp only [List.cons_append, Bool.not_false]
  rw [← List.cons_append, reGo_at]
  obtain ⟨h3, h4⟩ := tw_append_stop (p := fun c => isWs c == true) (a := c0 :: s0) (b := l) (fun c h => by simp [hs c h]) (fun c r h => by simp [hl c r h])
  rw [h3, h4]
  have hg : gapL (c0 :: s0) = if c0 :: s0 = [32] then 1 else 2 := by simp [gapL]
  cases l with
  | nil =>
    rw [lineToks_nil, show fixP [w, c0 :: s0] = [w, c0 :: s0, []] from by simp [fixP]]
    simp only [evenToks, hwe, Bool.false_eq_true, if_false, hg, List.isEmpty_nil, if_true]
  | cons c r =>
    simp only [Bool.not_true, fixP_two, evenToks, hwe, Bool.false_eq_true, if_false, hg]
    rfl

/-! a line laid of words and what is between them -/
noncomputable def lay (ps : List (List Nat × List Nat)) : List Nat := ps.flatMap fun p => p.1 ++ p.2
set_option tactic.hygienic false in
theorem lay_cons (w s : List Nat) (ps : List (List Nat × List Nat)) : lay ((w, s) :: ps) = w ++ s ++ lay ps := by simp [lay]
set_option tactic.hygienic false in
theorem lay_head {ps : List (List Nat × List Nat)} (hw : ∀ p ∈ ps, Word p.1) : ∀ c r, lay ps = c :: r → isWs c = false := by
  intro c r h
  cases ps with
  | nil => cases h
  | cons p ps =>
    obtain ⟨w, s⟩ := p
    have hw0 := hw (w, s) (by simp)
    rw [lay_cons] at h
    cases w with
    | nil => exact absurd rfl hw0.1
    | cons a w => simp at h; rw [← h.1]; exact hw0.2 a (by simp)
set_option tactic.hygienic false in
theorem lineToks_flat : ∀ (ps : List (List Nat × List Nat)), (∀ p ∈ ps, Word p.1) → (∀ p ∈ ps, White p.2) → (∀ p ∈ ps.dropLast, p.2 ≠ []) → lineToks (lay ps) = ps.map fun p => (p.1, gapL p.2)
  | [], _, _, _ => lineToks_nil
  | [(w, s)], hw, hs, _ => by
    have h1 := hw (w, s) (by simp)
    have h2 := hs (w, s) (by simp)
    by_cases he : s = []
    · subst he
      simp only [lay, List.flatMap_cons, List.flatMap_nil, List.append_nil, List.map_cons, List.map_nil]
      rw [lineToks_word h1]; rfl
    · have := lineToks_cons (l := []) h1 h2 he (fun c r h => by cases h)
      simp only [List.append_nil] at this
      simp only [lay, List.flatMap_cons, List.flatMap_nil, List.append_nil, List.map_cons, List.map_nil]
      rw [this, lineToks_nil]
  | (w, s) :: q :: ps, hw, hs, hn => by
    have h1 := hw (w, s) (by simp)
    have h2 := hs (w, s) (by simp)
    have h3 := hn (w, s) (by simp)
    rw [lay_cons, lineToks_cons h1 h2 h3 (lay_head fun p hp => hw p (by simp [List.mem_cons] at hp ⊢; exact .inr hp))]
    rw [lineToks_flat (q :: ps) (fun p hp => hw p (by simp [List.mem_cons] at hp ⊢; exact .inr hp)) (fun p hp => hs p (by simp [List.mem_cons] at hp ⊢; exact .inr hp)) (fun p hp => hn p (by rw [List.dropLast_cons_cons]; exact List.mem_cons_of_mem _ hp))]
    rfl
end Mine
end
/-! Q7 -/
section
open PySem
set_option linter.unusedSimpArgs false
set_option linter.unusedVariables false
namespace Mine

/-! ## lines -/
set_option tactic.hygienic false in
theorem splitOn_10 {s : List Nat} (h : 10 ∉ s) : splitOn 10 s = [s] := by
  unfold splitOn
  induction s with
  | nil => rfl
  | cons x r ih =>
    simp only [List.mem_cons, not_or] at h
    have hx : (x == 10) = false := by simpa using fun e => h.1 e.symm
    simp only [splitBy, hx, Bool.false_eq_true, if_false]
    rw [ih h.2]
set_option tactic.hygienic false in
theorem splitOn_app {a b : List Nat} (h : 10 ∉ a) : splitOn 10 (a ++ 10 :: b) = a :: splitOn 10 b := by
  unfold splitOn
  induction a with
  | nil => simp [splitBy]
  | cons x r ih =>
    simp only [List.mem_cons, not_or] at h
    have hx : (x == 10) = false := by simpa using fun e => h.1 e.symm
    simp only [List.cons_append, splitBy, hx, Bool.false_eq_true, if_false]
    rw [ih h.2]
set_option tactic.hygienic false in
theorem joinWith_cons {sep : List Nat} {a : List Nat} {l : List (List Nat)} (h : l ≠ []) : joinWith sep (a :: l) = a ++ sep ++ joinWith sep l := by
  cases l with
  | nil => exact absurd rfl h
  | cons b l => rfl
set_option tactic.hygienic false in
theorem joinWith_app {sep : List Nat} : ∀ {a b : List (List Nat)}, a ≠ [] → b ≠ [] → joinWith sep (a ++ b) = joinWith sep a ++ sep ++ joinWith sep b
  | [x], b, _, hb => by rw [List.singleton_append, joinWith_cons hb]; rfl
  | x :: y :: a, b, _, hb => by
    have ih := joinWith_app (sep := sep) (a := y :: a) (b := b) (by simp) hb
    rw [List.cons_append, joinWith_cons (by simp), ih, joinWith_cons (a := x) (l := y :: a) (by simp)]
    simp only [List.append_assoc]
set_option tactic.hygienic false in
/-- rows as one text -/
theorem joinWith_mid {sep : List Nat} {a b c : List (List Nat)} (h : b ≠ []) : joinWith sep (a ++ b ++ c) = joinWith sep (a ++ [joinWith sep b] ++ c) := by
  have e : ∀ x : List (List Nat), x ≠ [] → joinWith sep (x ++ c) = joinWith sep ([joinWith sep x] ++ c) := by
    intro x hx
    by_cases hc : c = []
    · subst hc; simp [joinWith]
    · rw [joinWith_app hx hc, joinWith_app (by simp) hc]; rfl
  by_cases ha : a = []
  · subst ha; simpa using e b h
  · rw [List.append_assoc, List.append_assoc, joinWith_app ha (by simp [h]), joinWith_app ha (by simp), e b h]

/-! ## a paragraph laid of words and what is between them -/
noncomputable def after (s : List Nat) : List Nat := s.drop ((line1 s).length + 1)
set_option tactic.hygienic false in
theorem line1_none {s : List Nat} (h : 10 ∉ s) : line1 s = s := by
  unfold line1
  have := tw_append_stop (p := fun c => c != 10) (a := s) (b := []) (fun c hc => by simpa using fun (e : c = 10) => h (e ▸ hc)) (fun c r h => by cases h)
  simpa using this.1
set_option tactic.hygienic false in
theorem line1_app {a b : List Nat} (h : 10 ∉ a) : line1 (a ++ 10 :: b) = a ∧ after (a ++ 10 :: b) = b := by
  have h1 : line1 (a ++ 10 :: b) = a := (tw_append_stop (p := fun c => c != 10) (a := a) (b := 10 :: b) (fun c hc => by simpa using fun (e : c = 10) => h (e ▸ hc)) (fun c r h => by simp at h; rw [← h.1]; rfl)).1
  refine ⟨h1, ?_⟩
  unfold after
  rw [h1]
  simp
set_option tactic.hygienic false in
theorem first10 : ∀ {s : List Nat}, 10 ∈ s → ∃ a b, s = a ++ 10 :: b ∧ 10 ∉ a
  | [], h => by cases h
  | x :: r, h => by
    by_cases hx : x = 10
    · exact ⟨[], r, by simp [hx], by simp⟩
    · have hr : 10 ∈ r := by
        rcases List.mem_cons.mp h with e | h
        · exact absurd e.symm hx
        · exact h
      obtain ⟨a, b, e, ha⟩ := first10 hr
      refine ⟨x :: a, b, by simp [e], fun h => ?_⟩
      rcases List.mem_cons.mp h with e | h
      · exact hx e.symm
      · exact ha h
set_option tactic.hygienic false in
theorem sep_split {s : List Nat} (h : 10 ∈ s) : ∃ a b, s = a ++ 10 :: b ∧ 10 ∉ a ∧ line1 s = a ∧ after s = b := by
  obtain ⟨a, b, rfl, ha⟩ := first10 h
  exact ⟨a, b, rfl, ha, (line1_app ha).1, (line1_app ha).2⟩

structure Sep (s : List Nat) : Prop where
  ne : s ≠ []
  white : White s
  once : 10 ∉ after s

/-- the lines of: cur, then the pairs -/
noncomputable def linesOf (cur : List Nat) : List (List Nat × List Nat) → List (List Nat)
  | [] => [cur]
  | (w, s) :: ps => if 10 ∈ s then (cur ++ w ++ line1 s) :: linesOf (after s) ps else linesOf (cur ++ w ++ s) ps

set_option tactic.hygienic false in
theorem word_no10 {w : List Nat} (h : Word w) : 10 ∉ w := fun e => by have := h.2 10 e; rw [ws_10] at this; cases this

theorem splitOn_lay : ∀ (ps : List (List Nat × List Nat)) (cur : List Nat), 10 ∉ cur → (∀ p ∈ ps, Word p.1) → (∀ p ∈ ps, 10 ∉ after p.2) → splitOn 10 (cur ++ lay ps) = linesOf cur ps
  | [], cur, hc, _, _ => by simp only [lay, List.flatMap_nil, List.append_nil, linesOf]; exact splitOn_10 hc
  | (w, s) :: ps, cur, hc, hw, ha => by
    have h1 := word_no10 (hw (w, s) (by simp))
    have hr := fun p hp => hw p (List.mem_cons_of_mem _ hp)
    have hr' := fun p hp => ha p (List.mem_cons_of_mem _ hp)
    rw [lay_cons]
    unfold linesOf
    split
    · rename_i h
      obtain ⟨a, b, rfl, h2, h3, h4⟩ := sep_split h
      have hb := ha (w, a ++ 10 :: b) (by simp)
      rw [h4] at hb
      rw [h3, h4, ← splitOn_lay ps b hb hr hr']
      have : cur ++ (w ++ (a ++ 10 :: b) ++ lay ps) = (cur ++ w ++ a) ++ 10 :: (b ++ lay ps) := by simp
      rw [this, splitOn_app (by simp [hc, h1, h2])]
    · rename_i h
      rw [← splitOn_lay ps (cur ++ w ++ s) (by simp [hc, h1, h]) hr hr']
      simp

theorem white_line1 {s : List Nat} (h : White s) : White (line1 s) := fun c hc => h c ((List.takeWhile_prefix _).sublist.subset hc)
theorem white_after {s : List Nat} (h : White s) : White (after s) := fun c hc => h c (List.mem_of_mem_drop hc)

/-- the tokens of the lines; no line is white -/
theorem linesOf_toks : ∀ (ps : List (List Nat × List Nat)) (pre : List Nat) (done : List (List Nat × List Nat)), White pre → (∀ p ∈ done ++ ps, Word p.1) → (∀ p ∈ done ++ ps, White p.2) → (∀ p ∈ done, p.2 ≠ [] ∧ 10 ∉ p.2) → (∀ p ∈ ps.dropLast, p.2 ≠ []) →
    (∀ p, ps.getLast? = some p → 10 ∉ p.2) → (done ≠ [] ∨ ps ≠ []) → (linesOf (pre ++ lay done) ps).flatMap lineToks = done.map (fun p => (p.1, gapL p.2)) ++ ps.map (fun p => (p.1, gapOf p.2)) ∧ ∀ l ∈ linesOf (pre ++ lay done) ps, whiteL l = false
  | [], pre, done, hp, hw, hs, hd, hn, hl, hne => by
    have hdn : done ≠ [] := hne.resolve_right (by simp)
    simp only [linesOf, List.flatMap_cons, List.flatMap_nil, List.append_nil, List.map_nil, List.mem_singleton]
    refine ⟨?_, ?_⟩
    · rw [lineToks_white hp, lineToks_flat done (fun p h => hw p (by simp [h])) (fun p h => hs p (by simp [h])) (fun p h => (hd p ((List.dropLast_sublist _).subset h)).1)]
    · rintro l rfl
      cases done with
      | nil => exact absurd rfl hdn
      | cons p done =>
        obtain ⟨w, s⟩ := p
        have h1 := hw (w, s) (by simp)
        cases w with
        | nil => exact absurd rfl h1.1
        | cons c w =>
          have hc := h1.2 c (by simp)
          unfold whiteL
          rw [List.all_eq_false]
          exact ⟨c, by simp [lay], by simp [hc]⟩
  | (w, s) :: ps, pre, done, hp, hw, hs, hd, hn, hl, hne => by
    have h1 := hw (w, s) (by simp)
    have h2 := hs (w, s) (by simp)
    unfold linesOf
    split
    · rename_i h10
      have hps : ps ≠ [] := by
        rintro rfl
        exact hl (w, s) rfl h10
      have ih := linesOf_toks ps (after s) [] (white_after h2) (fun p h => hw p (by simp at h ⊢; exact .inr (.inr h))) (fun p h => hs p (by simp at h ⊢; exact .inr (.inr h))) (fun p h => by cases h)
        (fun p h => hn p (by cases ps with | nil => exact absurd rfl hps | cons q qs => rw [List.dropLast_cons_cons]; exact List.mem_cons_of_mem _ h)) (fun p h => hl p (by cases ps with | nil => exact absurd rfl hps | cons q qs => simpa using h)) (.inr hps)
      simp only [lay, List.flatMap_nil, List.append_nil, List.map_nil, List.nil_append] at ih
      have e : pre ++ lay done ++ w ++ line1 s = pre ++ lay (done ++ [(w, line1 s)]) := by simp [lay]
      rw [e]
      refine ⟨?_, ?_⟩
      · rw [List.flatMap_cons, ih.1, lineToks_white hp, lineToks_flat (done ++ [(w, line1 s)])]
        · simp [gapOf]
        · intro p h
          simp at h
          rcases h with h | rfl
          · exact hw p (by simp [h])
          · exact h1
        · intro p h
          simp at h
          rcases h with h | rfl
          · exact hs p (by simp [h])
          · exact white_line1 h2
        · intro p h
          rw [List.dropLast_concat] at h
          exact (hd p h).1
      · intro l h
        rcases List.mem_cons.mp h with rfl | h
        · cases w with
          | nil => exact absurd rfl h1.1
          | cons c w =>
            unfold whiteL
            rw [List.all_eq_false]
            exact ⟨c, by simp [lay], by simp [h1.2 c (by simp)]⟩
        · exact ih.2 l h
    · rename_i h10
      have hsne : ps ≠ [] → s ≠ [] := fun h => hn (w, s) (by cases ps with | nil => exact absurd rfl h | cons q qs => simp)
      by_cases hps : ps = []
      · subst hps
        simp only [linesOf, List.flatMap_cons, List.flatMap_nil, List.append_nil, List.map_cons, List.map_nil, List.mem_singleton]
        have e : pre ++ lay done ++ w ++ s = pre ++ lay (done ++ [(w, s)]) := by simp [lay]
        rw [e]
        refine ⟨?_, ?_⟩
        · rw [lineToks_white hp, lineToks_flat (done ++ [(w, s)]) (fun p h => hw p (by simpa using h)) (fun p h => hs p (by simpa using h)) (fun p h => by rw [List.dropLast_concat] at h; exact (hd p h).1)]
          simp [gapOf, line1_none h10]
        · rintro l rfl
          cases w with
          | nil => exact absurd rfl h1.1
          | cons c w =>
            unfold whiteL
            rw [List.all_eq_false]
            exact ⟨c, by simp [lay], by simp [h1.2 c (by simp)]⟩
      · have ih := linesOf_toks ps pre (done ++ [(w, s)]) hp (fun p h => hw p (by simpa using h)) (fun p h => hs p (by simpa using h))
          (fun p h => by
            simp at h
            rcases h with h | rfl
            · exact hd p h
            · exact ⟨hsne hps, h10⟩)
          (fun p h => hn p (by cases ps with | nil => exact absurd rfl hps | cons q qs => rw [List.dropLast_cons_cons]; exact List.mem_cons_of_mem _ h)) (fun p h => hl p (by cases ps with | nil => exact absurd rfl hps | cons q qs => simpa using h)) (.inr hps)
        have e : pre ++ lay done ++ w ++ s = pre ++ lay (done ++ [(w, s)]) := by simp [lay]
        rw [e, ih.1]
        refine ⟨?_, ih.2⟩
        simp [gapOf, line1_none h10]
end Mine
end
/-! Q8 -/
section
open PySem
set_option linter.unusedSimpArgs false
set_option linter.unusedVariables false
namespace Mine

/-! ## columns -/
set_option tactic.hygienic false in
theorem expand_len : ∀ (b : List Nat) (col : Nat), 9 ∉ b → (expandGo col b).length = b.length
  | [], _, _ => rfl
  | c :: r, col, h => by
    simp only [List.mem_cons, not_or] at h
    rw [expandGo, if_neg (fun e => h.1 e.symm), List.length_cons, List.length_cons, expand_len r _ h.2]
set_option tactic.hygienic false in
theorem expand_app : ∀ (a b : List Nat) (col : Nat), ∃ col', expandGo col (a ++ b) = expandGo col a ++ expandGo col' b
  | [], b, col => ⟨col, rfl⟩
  | c :: r, b, col => by
    rw [List.cons_append, expandGo, expandGo]
    split
    · obtain ⟨k, h⟩ := expand_app r b (col + (8 - col % 8))
      exact ⟨k, by rw [h, List.append_assoc]⟩
    · obtain ⟨k, h⟩ := expand_app r b (if c = 10 ∨ c = 13 then 0 else col + 1)
      exact ⟨k, by rw [h, List.cons_append]⟩
set_option tactic.hygienic false in
theorem cols_app {a b : List Nat} (h : 9 ∉ b) : colsOf (a ++ b) = colsOf a + b.length := by
  obtain ⟨k, e⟩ := expand_app a b 0
  unfold colsOf
  rw [e, List.length_append, expand_len b k h]
set_option tactic.hygienic false in
theorem word_no9 {w : List Nat} (h : Word w) : 9 ∉ w := fun e => by have := h.2 9 e; rw [ws_9] at this; cases this
set_option tactic.hygienic false in
theorem sp_no9 (g : Nat) : 9 ∉ List.replicate g 32 := fun h => by have := List.eq_of_mem_replicate h; cases this

/-! ## strips -/
set_option tactic.hygienic false in
theorem rstrip_row {x w s : List Nat} (hw : Word w) (hs : White s) : rstrip (x ++ w ++ s) = x ++ w := by
  unfold rstrip rstripBy
  have h := tw_append_stop (p := isWs) (a := s.reverse) (b := (x ++ w).reverse) (fun c h => hs c (by simpa using h)) (fun c r h => by
    rcases List.eq_nil_or_concat w with e | ⟨w', c', e⟩
    · exact absurd e hw.1
    · rw [e] at h
      simp at h
      rw [← h.1]
      exact hw.2 c' (by rw [e]; simp))
  rw [List.reverse_append, h.2, List.reverse_reverse]
set_option tactic.hygienic false in
theorem white_sp (g : Nat) : White (List.replicate g 32) := fun c h => by rw [List.eq_of_mem_replicate h]; exact ws_32

/-! ## the filling, as one text -/
noncomputable def outG (lim : Int) (ind2 : List Nat) : Nat → Nat → List Tok' → List Nat
  | _, _, [] => []
  | width, g, (w, g') :: r =>
    if ((width + g + w.length : Nat) : Int) > lim then 10 :: (ind2 ++ w ++ outG lim ind2 (colsOf ind2 + w.length) g' r)
    else List.replicate g 32 ++ w ++ outG lim ind2 (width + g + w.length) g' r
noncomputable def paraOut (lim : Int) (ind1 ind2 : List Nat) : List Tok' → List Nat
  | [] => rstrip ind1
  | (w, g) :: r => ind1 ++ w ++ outG lim ind2 (colsOf ind1 + w.length) g r

set_option tactic.hygienic false in
theorem fold_out {lim : Int} {ind1 ind2 : List Nat} (h1 : White ind1) : ∀ (ts : List Tok') (rows : List (List Nat)) (x w : List Nat) (g : Nat) (post : List (List Nat)), Word w → (∀ t ∈ ts, Word t.1) →
    joinWith [10] ((ts.foldl (stepF lim ind1 ind2) (rows, x ++ w ++ List.replicate g 32)).1 ++ [rstrip (ts.foldl (stepF lim ind1 ind2) (rows, x ++ w ++ List.replicate g 32)).2] ++ post) =
      joinWith [10] (rows ++ [x ++ w ++ outG lim ind2 (colsOf (x ++ w)) g ts] ++ post)
  | [], rows, x, w, g, post, hw, _ => by
    simp only [List.foldl_nil, outG, List.append_nil]
    rw [rstrip_row hw (white_sp g)]
  | (v, g') :: ts, rows, x, w, g, post, hw, ht => by
    have hv := ht (v, g') (by simp)
    have ht' := fun t h => ht t (List.mem_cons_of_mem _ h)
    have hne : x ++ w ++ List.replicate g 32 ≠ ind1 := by
      intro e
      obtain ⟨c, hc⟩ : ∃ c, c ∈ w := by cases w with | nil => exact absurd rfl hw.1 | cons c r => exact ⟨c, by simp⟩
      have := h1 c (by rw [← e]; simp [hc])
      rw [hw.2 c hc] at this
      cases this
    have hc : colsOf (x ++ w ++ List.replicate g 32 ++ v) = colsOf (x ++ w) + g + v.length := by
      rw [cols_app (word_no9 hv), cols_app (sp_no9 g)]; simp
    rw [List.foldl_cons]
    by_cases hcond : ((colsOf (x ++ w) + g + v.length : Nat) : Int) > lim
    · have e : stepF lim ind1 ind2 (rows, x ++ w ++ List.replicate g 32) (v, g') = (rows ++ [x ++ w], ind2 ++ v ++ List.replicate g' 32) := by
        unfold stepF
        simp only [hc]
        rw [if_pos ⟨hcond, hne⟩, rstrip_row hw (white_sp g)]
      rw [e, fold_out h1 ts (rows ++ [x ++ w]) ind2 v g' post hv ht', cols_app (word_no9 hv)]
      have e2 : outG lim ind2 (colsOf (x ++ w)) g ((v, g') :: ts) = 10 :: (ind2 ++ v ++ outG lim ind2 (colsOf ind2 + v.length) g' ts) := by
        rw [outG, if_pos hcond]
      rw [e2]
      have := joinWith_mid (sep := [10]) (a := rows) (b := [x ++ w, ind2 ++ v ++ outG lim ind2 (colsOf ind2 + v.length) g' ts]) (c := post) (by simp)
      simp only [joinWith] at this
      simpa using this
    · have e : stepF lim ind1 ind2 (rows, x ++ w ++ List.replicate g 32) (v, g') = (rows, (x ++ w ++ List.replicate g 32) ++ v ++ List.replicate g' 32) := by
        unfold stepF
        simp only [hc]
        rw [if_neg (fun h => hcond h.1)]
      rw [e, fold_out h1 ts rows (x ++ w ++ List.replicate g 32) v g' post hv ht', hc]
      have e2 : outG lim ind2 (colsOf (x ++ w)) g ((v, g') :: ts) = List.replicate g 32 ++ v ++ outG lim ind2 (colsOf (x ++ w) + g + v.length) g' ts := by
        rw [outG, if_neg hcond]
      rw [e2]
      simp

set_option tactic.hygienic false in
theorem mem_tw {p : Nat → Bool} : ∀ {l : List Nat} {c : Nat}, c ∈ l.takeWhile p → p c = true
  | [], c, h => by simp at h
  | x :: l, c, h => by
    by_cases hx : p x = true
    · simp only [List.takeWhile_cons, hx, if_true, List.mem_cons] at h
      rcases h with rfl | h
      · exact hx
      · exact mem_tw h
    · simp [List.takeWhile_cons, hx] at h
set_option tactic.hygienic false in
theorem indent_white (l : List Nat) : White (indentOf l) := fun c h => by
  have := mem_tw h
  simp at this
  rcases this with rfl | rfl
  · exact ws_32
  · exact ws_9

set_option tactic.hygienic false in
theorem tw_all {p : List Nat → Bool} {a b : List (List Nat)} (ha : ∀ x ∈ a, p x = true) (hb : ∀ x r, b = x :: r → p x = false) : (a ++ b).takeWhile p = a ∧ (a ++ b).dropWhile p = b := by
  induction a with
  | nil =>
    cases b with
    | nil => simp
    | cons c r => simp [hb c r rfl]
  | cons x a ih =>
    have := ih fun c h => ha c (by simp [h])
    simp [ha x (by simp), this]

noncomputable def ind2P (l : List Nat) : List (List Nat) → List Nat
  | [] => indentOf l
  | l2 :: _ => indentOf l2

set_option tactic.hygienic false in
/-- what reformat_paragraph gives, where the lines are known -/
theorem reform_lines {data : List Nat} {lim : Int} {pre para' post : List (List Nat)} {l : List Nat} (hL : splitOn 10 data = pre ++ (l :: para') ++ post) (hpre : ∀ x ∈ pre, whiteL x = true) (hpara : ∀ x ∈ l :: para', whiteL x = false) (hpost : ∀ x r, post = x :: r → whiteL x = true)
    (hw : ∀ t ∈ (l :: para').flatMap lineToks, Word t.1) (hne : (l :: para').flatMap lineToks ≠ []) :
    reform data lim = joinWith [10] (pre ++ [paraOut lim (indentOf l) (ind2P l para') ((l :: para').flatMap lineToks)] ++ post) := by
  have h1 := tw_all (p := whiteL) (a := pre) (b := (l :: para') ++ post) hpre (fun x r h => by
    simp at h; rw [← h.1]; exact hpara l (by simp))
  have h2 := tw_all (p := fun x => !whiteL x) (a := l :: para') (b := post) (fun x h => by simp [hpara x h]) (fun x r h => by simp [hpost x r h])
  rw [List.append_assoc] at hL
  unfold reform
  simp only [List.cons_append] at hL h1 h2
  simp only [hL, h1.1, h1.2, h2.1, h2.2]
  have e2 : ind2Of l (para' ++ post) = ind2P l para' := by
    cases para' with
    | nil =>
      cases post with
      | nil => rfl
      | cons x r => simp [ind2Of, ind2P, hpost x r rfl]
    | cons x r => simp [ind2Of, ind2P, hpara x (by simp)]
  rw [e2]
  cases ht : (l :: para').flatMap lineToks with
  | nil => exact absurd ht hne
  | cons t ts =>
    obtain ⟨w, g⟩ := t
    rw [ht] at hw
    have hw0 := hw (w, g) (by simp)
    have e : stepF lim (indentOf l) (ind2P l para') (pre, indentOf l) (w, g) = (pre, indentOf l ++ w ++ List.replicate g 32) := by
      unfold stepF
      rw [if_neg (fun h => h.2 rfl)]
    rw [List.foldl_cons, e, fold_out (indent_white l) ts pre (indentOf l) w g post hw0 (fun t h => hw t (List.mem_cons_of_mem _ h)), cols_app (word_no9 hw0)]
    rfl
end Mine
end
/-! Q9 -/
section
open PySem
set_option linter.unusedSimpArgs false
set_option linter.unusedVariables false
namespace Mine

set_option tactic.hygienic false in
theorem indent_app {a x : List Nat} (h : ∀ c r, x = c :: r → isWs c = false) : indentOf (a ++ x) = indentOf a := by
  unfold indentOf
  induction a with
  | nil =>
    cases x with
    | nil => rfl
    | cons c r =>
      have hc := h c r rfl
      have : ((c == 32) || (c == 9)) = false := by
        rw [Bool.or_eq_false_iff]
        constructor
        · rw [beq_eq_false_iff_ne]; rintro rfl; rw [ws_32] at hc; cases hc
        · rw [beq_eq_false_iff_ne]; rintro rfl; rw [ws_9] at hc; cases hc
      simp only [List.nil_append, List.takeWhile_cons, this, Bool.false_eq_true, if_false, List.takeWhile_nil]
  | cons y a ih =>
    simp only [List.cons_append, List.takeWhile_cons]
    rw [ih]
noncomputable def Indent (s : List Nat) : Prop := ∀ c ∈ s, c = 32 ∨ c = 9
set_option tactic.hygienic false in
theorem indent_self {s : List Nat} (h : Indent s) : indentOf s = s := by
  unfold indentOf
  have := tw_append_stop (p := fun c => c == 32 || c == 9) (a := s) (b := []) (fun c hc => by rcases h c hc with rfl | rfl <;> rfl) (fun c r h => by cases h)
  simpa using this.1
set_option tactic.hygienic false in
theorem Indent.white {s : List Nat} (h : Indent s) : White s := fun c hc => by rcases h c hc with rfl | rfl; exact ws_32; exact ws_9
set_option tactic.hygienic false in
theorem Indent.no10 {s : List Nat} (h : Indent s) : 10 ∉ s := fun hc => by rcases h 10 hc with h | h <;> cases h

/-- the indent that the rows behind the first take -/
noncomputable def ind2S (ind : List Nat) : List (List Nat × List Nat) → List Nat
  | [] => ind
  | p :: ps => if 10 ∈ p.2 then indentOf (after p.2) else ind2S ind ps

set_option tactic.hygienic false in
theorem linesOf_ind (ind : List Nat) : ∀ (ps : List (List Nat × List Nat)) (cur : List Nat), (∀ p ∈ ps, Word p.1) → (∀ p, ps.getLast? = some p → 10 ∉ p.2) →
    ∃ x rest, linesOf cur ps = (cur ++ x) :: rest ∧ (∀ c r, x = c :: r → isWs c = false) ∧ (∀ l, indentOf l = ind → ind2P l rest = ind2S ind ps)
  | [], cur, _, _ => ⟨[], [], by simp [linesOf], (fun c r h => by cases h), fun l h => by simp [ind2P, ind2S, h]⟩
  | (w, s) :: ps, cur, hw, hl => by
    have h1 := hw (w, s) (by simp)
    obtain ⟨c0, w0, rfl⟩ : ∃ c0 w0, w = c0 :: w0 := by cases w with | nil => exact absurd rfl h1.1 | cons a b => exact ⟨a, b, rfl⟩
    have hc0 := h1.2 c0 (by simp)
    have hw' := fun p hp => hw p (List.mem_cons_of_mem _ hp)
    by_cases h10 : 10 ∈ s
    · have hps : ps ≠ [] := by
        rintro rfl
        exact hl (c0 :: w0, s) rfl h10
      obtain ⟨x, rest, e, hx, _⟩ := linesOf_ind ind ps (after s) hw' (fun p h => hl p (by cases ps with | nil => exact absurd rfl hps | cons q qs => simpa using h))
      refine ⟨(c0 :: w0) ++ line1 s, linesOf (after s) ps, by simp [linesOf, h10], fun c r h => by simp at h; rw [← h.1]; exact hc0, fun l hl' => ?_⟩
      rw [e]
      simp only [ind2P, ind2S, if_pos h10]
      exact indent_app hx
    · by_cases hps : ps = []
      · subst hps
        refine ⟨(c0 :: w0) ++ s, [], by simp [linesOf, h10], fun c r h => by simp at h; rw [← h.1]; exact hc0, fun l hl' => by simp [ind2P, ind2S, h10, hl']⟩
      · obtain ⟨x, rest, e, hx, hi⟩ := linesOf_ind ind ps (cur ++ (c0 :: w0) ++ s) hw' (fun p h => hl p (by cases ps with | nil => exact absurd rfl hps | cons q qs => simpa using h))
        refine ⟨(c0 :: w0) ++ s ++ x, rest, ?_, fun c r h => by simp at h; rw [← h.1]; exact hc0, fun l hl' => ?_⟩
        · rw [linesOf, if_neg h10, e]; simp
        · rw [hi l hl', ind2S, if_neg h10]

structure Laid (ind : List Nat) (ps : List (List Nat × List Nat)) : Prop where
  ind : Indent ind
  ne : ps ≠ []
  word : ∀ p ∈ ps, Word p.1
  white : ∀ p ∈ ps, White p.2
  once : ∀ p ∈ ps, 10 ∉ after p.2
  sep : ∀ p ∈ ps.dropLast, p.2 ≠ []
  last : ∀ p, ps.getLast? = some p → 10 ∉ p.2

noncomputable def toksP (ps : List (List Nat × List Nat)) : List Tok' := ps.map fun p => (p.1, gapOf p.2)

set_option tactic.hygienic false in
theorem reform_laid {data : List Nat} {lim : Int} {ind : List Nat} {ps : List (List Nat × List Nat)} {pre post : List (List Nat)} (h : Laid ind ps) (hL : splitOn 10 data = pre ++ splitOn 10 (ind ++ lay ps) ++ post) (hpre : ∀ x ∈ pre, whiteL x = true) (hpost : ∀ x r, post = x :: r → whiteL x = true) :
    reform data lim = joinWith [10] (pre ++ [paraOut lim ind (ind2S ind ps) (toksP ps)] ++ post) := by
  rw [splitOn_lay ps ind h.ind.no10 h.word h.once] at hL
  obtain ⟨ht, hn⟩ := linesOf_toks ps ind [] h.ind.white h.word h.white (fun p hp => by cases hp) h.sep h.last (.inr h.ne)
  simp only [lay, List.flatMap_nil, List.append_nil, List.map_nil, List.nil_append] at ht hn
  obtain ⟨x, rest, e, hx, hi⟩ := linesOf_ind ind ps ind h.word h.last
  have hii : indentOf (ind ++ x) = ind := by rw [indent_app hx, indent_self h.ind]
  rw [e] at hL ht hn
  rw [reform_lines hL hpre hn hpost, ht, hii, hi _ hii]
  · rfl
  · rw [ht]
    intro t htm
    obtain ⟨p, hp, rfl⟩ := List.mem_map.mp htm
    exact h.word p hp
  · rw [ht]
    simpa using h.ne
set_option tactic.hygienic false in
theorem reform_lay {lim : Int} {ind : List Nat} {ps : List (List Nat × List Nat)} (h : Laid ind ps) : reform (ind ++ lay ps) lim = paraOut lim ind (ind2S ind ps) (toksP ps) := by
  rw [reform_laid (data := ind ++ lay ps) (pre := []) (post := []) h (by simp) (fun x hx => by cases hx) (fun x r hx => by cases hx)]
  rfl
end Mine
end
/-! Q11 -/
section
open PySem
set_option linter.unusedSimpArgs false
set_option linter.unusedVariables false
namespace Mine

/-! ## the greedy filling, told by places -/
section
variable (lim : Int) (m1 m2 : Nat) (s g : Nat → Nat)
noncomputable def posE : Nat → Nat
  | 0 => 0
  | j + 1 => posE j + s j + g j
noncomputable def mar (o : Nat) : Nat := if o = 0 then m1 else m2
noncomputable def wide (o k : Nat) : Int := (mar m1 m2 o : Int) + posE s g k + s k - posE s g o
noncomputable def gr : Nat → Nat × Nat
  | 0 => (0, 0)
  | 1 => (1, 0)
  | k + 2 => if wide m1 m2 s g (gr (k + 1)).2 (k + 1) > lim then ((gr (k + 1)).1 + 1, k + 1) else gr (k + 1)
end
section
variable {lim : Int} {m1 m2 : Nat} {s g : Nat → Nat}
set_option tactic.hygienic false in
theorem posE_mono {a b : Nat} (h : a ≤ b) : posE s g a ≤ posE s g b := by
  induction h with
  | refl => exact Nat.le_refl _
  | step _ ih => simp only [posE]; (first | lia | omega)
theorem gr_step (k : Nat) : gr lim m1 m2 s g (k + 2) = if wide m1 m2 s g (gr lim m1 m2 s g (k + 1)).2 (k + 1) > lim then ((gr lim m1 m2 s g (k + 1)).1 + 1, k + 1) else gr lim m1 m2 s g (k + 1) := rfl
set_option tactic.hygienic false in
theorem gr_open (k : Nat) : (gr lim m1 m2 s g (k + 1)).2 ≤ k := by
  induction k with
  | zero => exact Nat.le_refl _
  | succ k ih =>
    rw [gr_step]
    split
    · exact Nat.le_refl _
    · (first | lia | omega)
set_option tactic.hygienic false in
theorem gr_fit (k : Nat) : (gr lim m1 m2 s g (k + 1)).2 = k ∨ wide m1 m2 s g (gr lim m1 m2 s g (k + 1)).2 k ≤ lim := by
  cases k with
  | zero => exact .inl rfl
  | succ k =>
    rw [gr_step]
    split
    · exact .inl rfl
    · right; (first | lia | omega)
set_option tactic.hygienic false in
theorem gr_cnt (k : Nat) : (gr lim m1 m2 s g (k + 1)).1 = (gr lim m1 m2 s g (gr lim m1 m2 s g (k + 1)).2).1 + 1 := by
  induction k with
  | zero => rfl
  | succ k ih =>
    rw [gr_step]
    split
    · rfl
    · exact ih
set_option tactic.hygienic false in
theorem gr_pos (k : Nat) : 1 ≤ (gr lim m1 m2 s g (k + 1)).1 := by rw [gr_cnt]; (first | lia | omega)
set_option tactic.hygienic false in
theorem gr_one (k : Nat) : (gr lim m1 m2 s g (k + 1)).1 = 1 → (gr lim m1 m2 s g (k + 1)).2 = 0 := by
  induction k with
  | zero => intro _; rfl
  | succ k ih =>
    rw [gr_step]
    split
    · intro h
      have := gr_pos (lim := lim) (m1 := m1) (m2 := m2) (s := s) (g := g) k
      simp only at h
      (first | lia | omega)
    · exact ih
set_option tactic.hygienic false in
theorem gr_mono (k : Nat) : (gr lim m1 m2 s g k).1 ≤ (gr lim m1 m2 s g (k + 1)).1 ∧ (gr lim m1 m2 s g (k + 1)).1 ≤ (gr lim m1 m2 s g k).1 + 1 := by
  cases k with
  | zero => exact ⟨Nat.zero_le _, Nat.le_refl _⟩
  | succ k =>
    rw [gr_step]
    split
    · simp only; (first | lia | omega)
    · (first | lia | omega)
/-- no filling takes fewer rows -/
theorem gr_opt {o l : Nat} (hol : o ≤ l) (hw : o = l ∨ wide m1 m2 s g o l ≤ lim) : (gr lim m1 m2 s g (l + 1)).1 ≤ (gr lim m1 m2 s g o).1 + 1 := by
  rcases hw with rfl | hw
  · exact (gr_mono o).2
  · have key : ∀ d, o + d ≤ l → (gr lim m1 m2 s g (o + d + 1)).1 ≤ (gr lim m1 m2 s g o).1 + 1 ∧ ((gr lim m1 m2 s g (o + d + 1)).1 = (gr lim m1 m2 s g o).1 + 1 → o ≤ (gr lim m1 m2 s g (o + d + 1)).2) := by
      intro d
      induction d with
      | zero =>
        intro _
        refine ⟨(gr_mono o).2, fun h => ?_⟩
        cases o with
        | zero => (first | lia | omega)
        | succ o =>
          rw [Nat.add_zero, gr_step] at h ⊢
          split at h
          · rw [if_pos (by assumption)]; exact Nat.le_refl _
          · (first | lia | omega)
      | succ d ih =>
        intro hd
        obtain ⟨i1, i2⟩ := ih (by (first | lia | omega))
        have hop := gr_open (lim := lim) (m1 := m1) (m2 := m2) (s := s) (g := g) (o + d)
        rw [show o + (d + 1) + 1 = (o + d) + 2 from by (first | lia | omega), gr_step]
        split
        · rename_i hc
          by_cases he : (gr lim m1 m2 s g (o + d + 1)).1 = (gr lim m1 m2 s g o).1 + 1
          · exfalso
            have ho := i2 he
            have p1 := posE_mono (s := s) (g := g) ho
            have p2 : posE s g (o + d + 1) + s (o + d + 1) ≤ posE s g l + s l := by
              rcases Nat.lt_or_ge (o + d + 1) l with h | h
              · have := posE_mono (s := s) (g := g) (show o + d + 1 + 1 ≤ l from h)
                have e : posE s g (o + d + 1 + 1) = posE s g (o + d + 1) + s (o + d + 1) + g (o + d + 1) := rfl
                (first | lia | omega)
              · have : o + d + 1 = l := by (first | lia | omega)
                rw [this]
                exact Nat.le_refl _
            have hm : mar m1 m2 (gr lim m1 m2 s g (o + d + 1)).2 = mar m1 m2 o := by
              unfold mar
              by_cases h0 : o = 0
              · have h1 : (gr lim m1 m2 s g (o + d + 1)).1 = 1 := by rw [he, h0]; rfl
                rw [gr_one (o + d) h1, h0]
              · rw [if_neg h0, if_neg (by (first | lia | omega))]
            unfold wide at hc hw
            rw [hm] at hc
            (first | lia | omega)
          · simp only
            exact ⟨by (first | lia | omega), fun _ => by (first | lia | omega)⟩
        · exact ⟨i1, i2⟩
    have := (key (l - o) (by (first | lia | omega))).1
    rwa [show o + (l - o) + 1 = l + 1 from by (first | lia | omega)] at this
/-- and one takes as many -/
theorem gr_least (l : Nat) : ∃ o, o ≤ l ∧ (o = l ∨ wide m1 m2 s g o l ≤ lim) ∧ (gr lim m1 m2 s g (l + 1)).1 = (gr lim m1 m2 s g o).1 + 1 :=
  ⟨_, gr_open l, gr_fit l, gr_cnt l⟩
end

/-! ## the text of the filling, by places -/
section
variable {lim : Int} {fi fu : List Nat} {ts : List Tok'}
noncomputable def szT (ts : List Tok') (j : Nat) : Nat := (ts[j]?.getD ([], 0)).1.length
noncomputable def gpT (ts : List Tok') (j : Nat) : Nat := (ts[j]?.getD ([], 0)).2
noncomputable def wdT (ts : List Tok') (j : Nat) : List Nat := (ts[j]?.getD ([], 0)).1
end
set_option tactic.hygienic false in
/-- the last gap is not asked -/
theorem outG_last {lim : Int} {fu w : List Nat} {g g' : Nat} : ∀ (ts : List Tok') (W h : Nat), outG lim fu W h (ts ++ [(w, g)]) = outG lim fu W h (ts ++ [(w, g')])
  | [], W, h => by simp [outG]
  | (v, q) :: ts, W, h => by
    simp only [List.cons_append, outG]
    rw [outG_last (g := g) (g' := g') ts (colsOf fu + v.length) q, outG_last (g := g) (g' := g') ts (W + h + v.length) q]
set_option tactic.hygienic false in
theorem paraOut_last {lim : Int} {fi fu w : List Nat} {g g' : Nat} (ts : List Tok') : paraOut lim fi fu (ts ++ [(w, g)]) = paraOut lim fi fu (ts ++ [(w, g')]) := by
  cases ts with
  | nil => simp [paraOut, outG]
  | cons t ts =>
    obtain ⟨v, q⟩ := t
    simp only [List.cons_append, paraOut]
    rw [outG_last]
end Mine
end
/-! QR -/
section
open PySem
set_option linter.unusedSimpArgs false
set_option linter.unusedVariables false
namespace Mine

/-! ## the filling, as rows of words -/
/-- the rest of the row that stands open, and the further rows -/
noncomputable def outR (lim : Int) (m2 : Nat) : Nat → Nat → List Tok' → List Tok' × List (List Tok')
  | _, _, [] => ([], [])
  | W, g, t :: r =>
    if ((W + g + t.1.length : Nat) : Int) > lim then ([], (t :: (outR lim m2 (m2 + t.1.length) t.2 r).1) :: (outR lim m2 (m2 + t.1.length) t.2 r).2)
    else (t :: (outR lim m2 (W + g + t.1.length) t.2 r).1, (outR lim m2 (W + g + t.1.length) t.2 r).2)
noncomputable def fillR (lim : Int) (m1 m2 : Nat) : List Tok' → List (List Tok')
  | [] => []
  | t :: r => (t :: (outR lim m2 (m1 + t.1.length) t.2 r).1) :: (outR lim m2 (m1 + t.1.length) t.2 r).2
noncomputable def gapT (g : Nat) : List Tok' → List Nat
  | [] => []
  | t :: r => List.replicate g 32 ++ t.1 ++ gapT t.2 r
/-- the text of a row, behind its indent -/
noncomputable def rowT : List Tok' → List Nat
  | [] => []
  | t :: r => t.1 ++ gapT t.2 r
noncomputable def gapW (g : Nat) : List Tok' → Nat
  | [] => 0
  | t :: r => g + t.1.length + gapW t.2 r
noncomputable def rowW : List Tok' → Nat
  | [] => 0
  | t :: r => t.1.length + gapW t.2 r
noncomputable def lastG (g : Nat) : List Tok' → Nat
  | [] => g
  | t :: r => lastG t.2 r
noncomputable def headW : List Tok' → Nat
  | [] => 0
  | t :: _ => t.1.length
noncomputable def rowsT (fi fu : List Nat) : List (List Tok') → List (List Nat)
  | [] => []
  | a :: r => (fi ++ rowT a) :: r.map (fu ++ rowT ·)

set_option tactic.hygienic false in
theorem out_rows (lim : Int) (fu : List Nat) : ∀ (ts : List Tok') (W g : Nat), outG lim fu W g ts = gapT g (outR lim (colsOf fu) W g ts).1 ++ (outR lim (colsOf fu) W g ts).2.flatMap fun row => 10 :: (fu ++ rowT row)
  | [], W, g => rfl
  | t :: r, W, g => by
    obtain ⟨w, g'⟩ := t
    rw [outG, outR]
    by_cases h : ((W + g + w.length : Nat) : Int) > lim
    · rw [if_pos h, if_pos h, out_rows lim fu r]
      simp [gapT, rowT]
    · rw [if_neg h, if_neg h, out_rows lim fu r]
      simp [gapT]
set_option tactic.hygienic false in
theorem join_flat (a : List Nat) (l : List (List Nat)) : joinWith [10] (a :: l) = a ++ l.flatMap fun x => 10 :: x := by
  induction l generalizing a with
  | nil => simp [joinWith]
  | cons b l ih => rw [joinWith_cons (by simp), ih b]; simp
set_option tactic.hygienic false in
theorem para_rows {lim : Int} {fi fu : List Nat} {ts : List Tok'} (h : ts ≠ []) : paraOut lim fi fu ts = joinWith [10] (rowsT fi fu (fillR lim (colsOf fi) (colsOf fu) ts)) := by
  cases ts with
  | nil => exact absurd rfl h
  | cons t r =>
    obtain ⟨w, g⟩ := t
    rw [paraOut, out_rows, fillR, rowsT, join_flat]
    simp [rowT, List.flatMap_map]
set_option tactic.hygienic false in
theorem out_flat (lim : Int) (m2 : Nat) : ∀ (ts : List Tok') (W g : Nat), (outR lim m2 W g ts).1 ++ (outR lim m2 W g ts).2.flatten = ts
  | [], _, _ => rfl
  | t :: r, W, g => by
    rw [outR]
    split
    · have := out_flat lim m2 r (m2 + t.1.length) t.2
      simp [this]
    · have := out_flat lim m2 r (W + g + t.1.length) t.2
      simp [this]
set_option tactic.hygienic false in
theorem fill_flat (lim : Int) (m1 m2 : Nat) (ts : List Tok') : (fillR lim m1 m2 ts).flatten = ts := by
  cases ts with
  | nil => rfl
  | cons t r => simp [fillR, out_flat]

/-! ## when rows are a filling -/
noncomputable def okRows (lim : Int) (m2 : Nat) : Nat → List (List Tok') → Prop
  | _, [] => True
  | m, a :: r => a ≠ [] ∧ (1 < a.length → ((m + rowW a : Nat) : Int) ≤ lim) ∧ (∀ b ∈ r.head?, lim < ((m + rowW a + lastG 0 a + headW b : Nat) : Int)) ∧ okRows lim m2 m2 r
theorem lastG_cons (g : Nat) (t : Tok') (r : List Tok') : lastG g (t :: r) = lastG t.2 r := rfl
theorem out_ok (lim : Int) (m2 : Nat) : ∀ (ts : List Tok') (W g : Nat),
    ((outR lim m2 W g ts).1 ≠ [] → ((W + gapW g (outR lim m2 W g ts).1 : Nat) : Int) ≤ lim) ∧ (∀ b ∈ (outR lim m2 W g ts).2.head?, lim < ((W + gapW g (outR lim m2 W g ts).1 + lastG g (outR lim m2 W g ts).1 + headW b : Nat) : Int)) ∧ okRows lim m2 m2 (outR lim m2 W g ts).2
  | [], W, g => ⟨fun h => absurd rfl h, (fun b h => by cases h), trivial⟩
  | t :: r, W, g => by
    rw [outR]
    split
    · rename_i h
      obtain ⟨h1, h2, h3⟩ := out_ok lim m2 r (m2 + t.1.length) t.2
      refine ⟨fun h => absurd rfl h, fun b hb => ?_, by simp, fun hl => ?_, fun b hb => ?_, h3⟩
      · simp at hb
        rw [← hb]
        simpa [gapW, lastG, headW] using h
      · simp only [rowW]
        rw [← Nat.add_assoc]
        exact h1 (by intro e; rw [e] at hl; simp at hl)
      · simp only [rowW, lastG_cons]
        rw [← Nat.add_assoc]
        exact h2 b hb
    · rename_i h
      obtain ⟨h1, h2, h3⟩ := out_ok lim m2 r (W + g + t.1.length) t.2
      have e : ∀ x, W + gapW g (t :: x) = W + g + t.1.length + gapW t.2 x := fun x => by simp only [gapW]; (first | lia | omega)
      refine ⟨fun _ => ?_, fun b hb => ?_, h3⟩
      · rw [e]
        by_cases hn : (outR lim m2 (W + g + t.1.length) t.2 r).1 = []
        · rw [hn]; simp only [gapW]; (first | lia | omega)
        · exact h1 hn
      · rw [e, lastG_cons]
        exact h2 b hb
set_option tactic.hygienic false in
theorem fill_ok (lim : Int) (m1 m2 : Nat) (ts : List Tok') : okRows lim m2 m1 (fillR lim m1 m2 ts) := by
  cases ts with
  | nil => trivial
  | cons t r =>
    obtain ⟨h1, h2, h3⟩ := out_ok lim m2 r (m1 + t.1.length) t.2
    refine ⟨by simp, fun hl => ?_, fun b hb => ?_, h3⟩
    · simp only [rowW]
      rw [← Nat.add_assoc]
      exact h1 (by intro e; rw [e] at hl; simp at hl)
    · simp only [rowW, lastG_cons]
      rw [← Nat.add_assoc]
      exact h2 b hb
set_option tactic.hygienic false in
theorem out_eq {lim : Int} {m2 : Nat} : ∀ (r : List (List Tok')), okRows lim m2 m2 r → ∀ (a : List Tok') (W g : Nat), (a ≠ [] → ((W + gapW g a : Nat) : Int) ≤ lim) → (∀ b ∈ r.head?, lim < ((W + gapW g a + lastG g a + headW b : Nat) : Int)) → outR lim m2 W g (a ++ r.flatten) = (a, r) := by
  intro r
  induction r with
  | nil =>
    intro _ a
    induction a with
    | nil => intro W g _ _; rfl
    | cons t a ih =>
      intro W g h1 h2
      have h1 := h1 (by simp)
      have e : W + gapW g (t :: a) = W + g + t.1.length + gapW t.2 a := by simp only [gapW]; (first | lia | omega)
      rw [e] at h1
      rw [List.cons_append, outR, if_neg (by (first | lia | omega)), ih _ _ (fun _ => h1) (fun b hb => by cases hb)]
  | cons b r ihr =>
    intro hr a
    obtain ⟨hb, hf, hn, hr'⟩ := hr
    induction a with
    | nil =>
      intro W g _ h2
      have h2 := h2 b rfl
      cases b with
      | nil => exact absurd rfl hb
      | cons t b =>
        simp only [gapW, lastG, headW] at h2
        have := ihr hr' b (m2 + t.1.length) t.2 (fun hne => by
          have := hf (by cases b with | nil => exact absurd rfl hne | cons u b => simp)
          simp only [rowW] at this
          rwa [← Nat.add_assoc] at this) (fun c hc => by
          have := hn c hc
          simp only [rowW, lastG_cons] at this
          rwa [← Nat.add_assoc] at this)
        rw [List.nil_append, List.flatten_cons, List.cons_append, outR, if_pos (by (first | lia | omega)), this]
    | cons t a ih =>
      intro W g h1 h2
      have h1 := h1 (by simp)
      have e : W + gapW g (t :: a) = W + g + t.1.length + gapW t.2 a := by simp only [gapW]; (first | lia | omega)
      rw [e] at h1
      rw [List.cons_append, outR, if_neg (by (first | lia | omega)), ih _ _ (fun _ => h1) (fun c hc => by have := h2 c hc; rwa [e, lastG_cons] at this)]
set_option tactic.hygienic false in
/-- rows that are full, and none too full, are the filling -/
theorem fill_eq {lim : Int} {m1 m2 : Nat} {rows : List (List Tok')} (h : okRows lim m2 m1 rows) : fillR lim m1 m2 rows.flatten = rows := by
  cases rows with
  | nil => rfl
  | cons a r =>
    obtain ⟨ha, hf, hn, hr⟩ := h
    cases a with
    | nil => exact absurd rfl ha
    | cons t a =>
      have := out_eq r hr a (m1 + t.1.length) t.2 (fun hne => by
          have := hf (by cases a with | nil => exact absurd rfl hne | cons u b => simp)
          simp only [rowW] at this
          rwa [← Nat.add_assoc] at this) (fun c hc => by
          have := hn c hc
          simp only [rowW, lastG_cons] at this
          rwa [← Nat.add_assoc] at this)
      rw [List.flatten_cons, List.cons_append, fillR, this]
set_option tactic.hygienic false in
theorem fill_ne {lim : Int} {m1 m2 : Nat} {ts : List Tok'} (h : ts ≠ []) : fillR lim m1 m2 ts ≠ [] := by
  cases ts with
  | nil => exact absurd rfl h
  | cons t r => simp [fillR]
/-! ## the texts of rows -/
noncomputable def WordsR (a : List Tok') : Prop := ∀ t ∈ a, Word t.1
set_option tactic.hygienic false in
theorem gapT_len : ∀ (a : List Tok') (g : Nat), (gapT g a).length = gapW g a
  | [], _ => rfl
  | t :: r, g => by simp [gapT, gapW, gapT_len r]; (first | lia | omega)
set_option tactic.hygienic false in
theorem rowT_len (a : List Tok') : (rowT a).length = rowW a := by
  cases a with
  | nil => rfl
  | cons t r => simp [rowT, rowW, gapT_len]
set_option tactic.hygienic false in
theorem gapT_mem {x : Nat} : ∀ {a : List Tok'} {g : Nat}, x ∈ gapT g a → x = 32 ∨ ∃ t ∈ a, x ∈ t.1
  | [], _, h => by cases h
  | t :: r, g, h => by
    simp only [gapT, List.mem_append] at h
    rcases h with (h | h) | h
    · exact .inl (List.eq_of_mem_replicate h)
    · exact .inr ⟨t, by simp, h⟩
    · rcases gapT_mem h with h | ⟨u, hu, h⟩
      · exact .inl h
      · exact .inr ⟨u, by simp [hu], h⟩
set_option tactic.hygienic false in
theorem rowT_mem {x : Nat} {a : List Tok'} (h : x ∈ rowT a) : x = 32 ∨ ∃ t ∈ a, x ∈ t.1 := by
  cases a with
  | nil => cases h
  | cons t r =>
    rcases List.mem_append.mp h with h | h
    · exact .inr ⟨t, by simp, h⟩
    · rcases gapT_mem h with h | ⟨u, hu, h⟩
      · exact .inl h
      · exact .inr ⟨u, by simp [hu], h⟩
set_option tactic.hygienic false in
theorem rowT_no {a : List Tok'} (h : WordsR a) {x : Nat} (hx : isWs x = true) (h32 : x ≠ 32) : x ∉ rowT a := fun hm => by
  rcases rowT_mem hm with e | ⟨t, ht, e⟩
  · exact h32 e
  · have := (h t ht).2 x e
    rw [hx] at this
    cases this
set_option tactic.hygienic false in
theorem rowT_cols {ind : List Nat} {a : List Tok'} (h : WordsR a) : colsOf (ind ++ rowT a) = colsOf ind + rowW a := by
  rw [cols_app (rowT_no h ws_9 (by decide)), rowT_len]

/-! the words of a text -/
set_option tactic.hygienic false in
theorem words_white {s : List Nat} (h : White s) (t : List Nat) : wordsBy isWs (s ++ t) = wordsBy isWs t := by
  unfold wordsBy
  induction s with
  | nil => rfl
  | cons c s ih =>
    rw [List.cons_append, splitBy, if_pos (h c (by simp)), List.filter_cons, if_neg (by simp), ih fun c hc => h c (by simp [hc])]
set_option tactic.hygienic false in
theorem splitBy_word : ∀ {w : List Nat}, (∀ c ∈ w, isWs c = false) → ∀ (t : List Nat), (∀ c r, t = c :: r → isWs c = true) → splitBy isWs (w ++ t) = match splitBy isWs t with | [] => [w] | y :: ys => (w ++ y) :: ys
  | [], _, t, ht => by
    cases h : splitBy isWs t with
    | nil => exact absurd h (splitBy_size isWs t).2
    | cons y ys => simpa using h
  | c :: w, hw, t, ht => by
    rw [List.cons_append, splitBy, if_neg (by rw [hw c (by simp)]; simp), splitBy_word (fun x hx => hw x (by simp [hx])) t ht]
    cases h : splitBy isWs t with
    | nil => exact absurd h (splitBy_size isWs t).2
    | cons y ys => rfl
set_option tactic.hygienic false in
theorem words_word {w t : List Nat} (hw : Word w) (ht : ∀ c r, t = c :: r → isWs c = true) : wordsBy isWs (w ++ t) = w :: wordsBy isWs t := by
  unfold wordsBy
  rw [splitBy_word hw.2 t ht]
  have hne : (w.isEmpty) = false := by simpa using hw.1
  cases t with
  | nil => simp [splitBy, hne]
  | cons c t =>
    have hc := ht c t rfl
    have e : splitBy isWs (c :: t) = [] :: splitBy isWs t := by rw [splitBy, if_pos hc]
    rw [e]
    simp [hne]
theorem words_nil : wordsBy isWs [] = [] := rfl
set_option tactic.hygienic false in
theorem words_gapT : ∀ {a : List Tok'} {g : Nat} {t : List Nat}, WordsR a → (∀ c r, t = c :: r → isWs c = true) → (∀ u ∈ a.dropLast, 0 < u.2) → wordsBy isWs (gapT g a ++ t) = a.map (·.1) ++ wordsBy isWs t
  | [], g, t, _, _, _ => rfl
  | [u], g, t, hw, ht, _ => by
    simp only [gapT, List.append_nil, List.append_assoc]
    rw [words_white (white_sp g), words_word (hw u (by simp)) ht]
    rfl
  | u :: v :: a, g, t, hw, ht, hg => by
    have hg0 := hg u (by simp)
    simp only [gapT, List.append_assoc]
    rw [words_white (white_sp g), words_word (hw u (by simp)) (fun c r e => by
      obtain ⟨k, hk⟩ : ∃ k, u.2 = k + 1 := ⟨u.2 - 1, by (first | lia | omega)⟩
      rw [hk, List.replicate_succ, List.cons_append] at e
      rw [← (List.cons.inj e).1]
      exact ws_32)]
    have ih := words_gapT (a := v :: a) (g := u.2) (t := t) (fun x hx => hw x (by simp [List.mem_cons] at hx ⊢; exact .inr hx)) ht (fun x hx => hg x (by rw [List.dropLast_cons_cons]; exact List.mem_cons_of_mem _ hx))
    simp only [gapT, List.append_assoc] at ih
    rw [ih]
    rfl
set_option tactic.hygienic false in
theorem words_rowT {a : List Tok'} {ind t : List Nat} (hi : White ind) (hw : WordsR a) (ht : ∀ c r, t = c :: r → isWs c = true) (hg : ∀ u ∈ a.dropLast, 0 < u.2) : wordsBy isWs (ind ++ rowT a ++ t) = a.map (·.1) ++ wordsBy isWs t := by
  rw [List.append_assoc, words_white hi]
  cases a with
  | nil => rfl
  | cons u r =>
    have := words_gapT (a := u :: r) (g := 0) (t := t) hw ht hg
    simpa [gapT, rowT] using this
set_option tactic.hygienic false in
theorem splitOn_join : ∀ {l : List (List Nat)}, l ≠ [] → (∀ x ∈ l, 10 ∉ x) → splitOn 10 (joinWith [10] l) = l
  | [x], _, h => splitOn_10 (h x (by simp))
  | x :: y :: l, _, h => by
    have e : joinWith [10] (x :: y :: l) = x ++ 10 :: joinWith [10] (y :: l) := by rw [joinWith_cons (by simp)]; simp
    rw [e, splitOn_app (h x (by simp)), splitOn_join (by simp) fun z hz => h z (List.mem_cons_of_mem _ hz)]
end Mine
end
/-! QR2 -/
section
open PySem
set_option linter.unusedSimpArgs false
set_option linter.unusedVariables false
namespace Mine

/-! ## rows by their places -/
noncomputable def indK (fi fu : List Nat) (i : Nat) : List Nat := if i = 0 then fi else fu
set_option tactic.hygienic false in
theorem mar_ind (fi fu : List Nat) (i : Nat) : mar (colsOf fi) (colsOf fu) i = colsOf (indK fi fu i) := by unfold mar indK; split <;> rfl
set_option tactic.hygienic false in
theorem rowsT_len (fi fu : List Nat) (rows : List (List Tok')) : (rowsT fi fu rows).length = rows.length := by cases rows <;> simp [rowsT]
set_option tactic.hygienic false in
theorem rowsT_no {fi fu : List Nat} {rows : List (List Tok')} (h1 : Indent fi) (h2 : Indent fu) (hw : ∀ a ∈ rows, WordsR a) : ∀ x ∈ rowsT fi fu rows, 10 ∉ x := by
  intro x hx
  have key : ∀ (ind : List Nat) (a : List Tok'), Indent ind → WordsR a → 10 ∉ ind ++ rowT a := fun ind a hi ha hm => by
    rcases List.mem_append.mp hm with hm | hm
    · exact hi.no10 hm
    · exact rowT_no ha ws_10 (by decide) hm
  cases rows with
  | nil => cases hx
  | cons c r =>
    rcases List.mem_cons.mp hx with rfl | hx
    · exact key fi c h1 (hw c (by simp))
    · obtain ⟨a, ha, rfl⟩ := List.mem_map.mp hx
      exact key fu a h2 (hw a (by simp [ha]))

structure Toks (ts : List Tok') : Prop where
  word : ∀ t ∈ ts, Word t.1
  gap : ∀ t ∈ ts, 0 < t.2
set_option tactic.hygienic false in
theorem Toks.row {ts : List Tok'} (h : Toks ts) {rows : List (List Tok')} (e : rows.flatten = ts) {a : List Tok'} (ha : a ∈ rows) : WordsR a ∧ ∀ u ∈ a.dropLast, 0 < u.2 :=
  ⟨fun t ht => h.word t (by rw [← e]; exact List.mem_flatten.mpr ⟨a, ha, ht⟩), fun t ht => h.gap t (by rw [← e]; exact List.mem_flatten.mpr ⟨a, ha, (List.dropLast_sublist _).subset ht⟩)⟩
set_option tactic.hygienic false in
theorem words_row {ind : List Nat} {a : List Tok'} (hi : White ind) (h : WordsR a ∧ ∀ u ∈ a.dropLast, 0 < u.2) : wordsBy isWs (ind ++ rowT a) = a.map (·.1) := by
  have := words_rowT (t := []) hi h.1 (fun c r e => by cases e) h.2
  simpa [words_nil] using this
/-! ## a row laid by its words and gaps -/
set_option tactic.hygienic false in
theorem gap_flat : ∀ (a : List Tok') (g : Nat), List.replicate g 32 ++ a.flatMap (fun t => t.1 ++ List.replicate t.2 32) = gapT g a ++ List.replicate (lastG g a) 32
  | [], g => by simp [gapT, lastG]
  | t :: r, g => by
    have := gap_flat r t.2
    simp only [List.flatMap_cons, gapT, lastG, List.append_assoc] at this ⊢
    rw [this]
set_option tactic.hygienic false in
theorem row_flat (a : List Tok') : a.flatMap (fun t => t.1 ++ List.replicate t.2 32) = rowT a ++ List.replicate (lastG 0 a) 32 := by
  cases a with
  | nil => rfl
  | cons t r =>
    have := gap_flat r t.2
    simp only [List.flatMap_cons, List.append_assoc, this, rowT, lastG]
end Mine
end
/-! QT -/
section
open PySem
set_option linter.unusedSimpArgs false
set_option linter.unusedVariables false
namespace Mine
/-! ## columns, as the law counts them -/
noncomputable def Plain (s : List Nat) : Prop := ∀ c ∈ s, c ≠ 10 ∧ c ≠ 13
set_option tactic.hygienic false in
theorem Indent.plain {s : List Nat} (h : Indent s) : Plain s := fun c hc => by rcases h c hc with rfl | rfl <;> decide

set_option tactic.hygienic false in
theorem mul_int2 {a b : Int} (h : b = 2 ∨ b = 8) : binD .mul (.int a) (.int b) = some (.int (a * b)) := by simp only [binD]; rw [if_pos h]
set_option tactic.hygienic false in
theorem cut_init {α : Type} (l : List α) (h : l ≠ []) : cut l none (some (-1)) = l.dropLast := by
  have hp : 0 < l.length := List.length_pos_iff.mpr h
  unfold cut clip
  simp only [Option.elim]
  rw [if_pos (by (first | lia | omega))]
  simp only [List.drop_zero, Nat.sub_zero]
  rw [show ((-1 : Int) + l.length).toNat = l.length - 1 from by (first | lia | omega), List.dropLast_eq_take]
set_option tactic.hygienic false in
theorem idx_lastD {l : List D} {d : D} (h : l.getLast? = some d) : idxD (.list l) (.int (-1)) = some d := by
  have hne : l ≠ [] := by rintro rfl; cases h
  have hl : 0 < l.length := List.length_pos_iff.mpr hne
  have hp : place? (-1) l.length = some (l.length - 1) := by
    unfold place?
    rw [if_neg (by (first | lia | omega)), if_pos (by (first | lia | omega))]
    congr 1
    (first | lia | omega)
  simp only [idxD, hp]
  rw [List.getLast?_eq_getElem?] at h
  simpa using h
/-! ## tables -/
noncomputable def tbl (l : List (List Nat)) (x : Int) : List Nat := l[(x % (l.length : Int)).toNat]?.getD []
set_option tactic.hygienic false in
theorem tbl_mem {l : List (List Nat)} (h : l ≠ []) (x : Int) : l[(x % (l.length : Int)).toNat]? = some (tbl l x) ∧ tbl l x ∈ l := by
  have hp : 0 < l.length := List.length_pos_iff.mpr h
  have h1 : 0 ≤ x % (l.length : Int) := Int.emod_nonneg _ (by (first | lia | omega))
  have h2 : x % (l.length : Int) < l.length := Int.emod_lt_of_pos _ (by (first | lia | omega))
  have h3 : (x % (l.length : Int)).toNat < l.length := by (first | lia | omega)
  have h4 : l[(x % (l.length : Int)).toNat]? = some l[(x % (l.length : Int)).toNat] := List.getElem?_eq_getElem h3
  unfold tbl
  rw [h4]
  exact ⟨rfl, List.getElem_mem _⟩
theorem tbl_all {P : List Nat → Prop} {l : List (List Nat)} (hl : l ≠ []) (h : ∀ y ∈ l, P y) (x : Int) : P (tbl l x) := h _ (tbl_mem hl x).2
set_option tactic.hygienic false in
theorem tbl_idx {l : List (List Nat)} {n : Nat} (hn : l.length = n) (hp : 0 < n) (x : Int) : idxD (.list (l.map .str)) (.int (x % (n : Int))) = some (.str (tbl l x)) := by
  have hl : l ≠ [] := by rintro rfl; simp at hn; (first | lia | omega)
  have h := (tbl_mem hl x).1
  rw [hn] at h
  have h1 : 0 ≤ x % (n : Int) := Int.emod_nonneg _ (by (first | lia | omega))
  have h2 : x % (n : Int) < n := Int.emod_lt_of_pos _ (by (first | lia | omega))
  simp only [idxD, List.length_map, hn]
  rw [place_int h1 h2]
  simp [h]
set_option tactic.hygienic false in
theorem str_idx {s : List Nat} {i : Nat} {c : Nat} (h : s[i]? = some c) : idxD (.str s) (.int i) = some (.str [c]) := by
  have hlt : i < s.length := (List.getElem?_eq_some_iff.mp h).1
  simp only [idxD]
  rw [place_nat hlt]
  simp [h]
set_option tactic.hygienic false in
theorem list_idx {xs : List Int} {i : Nat} {c : Int} (h : xs[i]? = some c) : idxD (.list (xs.map .int)) (.int i) = some (.int c) := by
  have hlt : i < xs.length := (List.getElem?_eq_some_iff.mp h).1
  simp only [idxD, List.length_map]
  rw [place_nat hlt]
  simp [h]
set_option tactic.hygienic false in
theorem list_last {xs : List Int} {c : Int} (h : xs.getLast? = some c) : idxD (.list (xs.map .int)) (.int (-1)) = some (.int c) := by
  have hne : xs ≠ [] := by rintro rfl; cases h
  have hl : 0 < xs.length := List.length_pos_iff.mpr hne
  have hp : place? (-1) xs.length = some (xs.length - 1) := by
    unfold place?
    rw [if_neg (by (first | lia | omega)), if_pos (by (first | lia | omega))]
    congr 1
    (first | lia | omega)
  simp only [idxD, List.length_map, hp]
  rw [List.getLast?_eq_getElem?] at h
  simp [h]
noncomputable def letter (k : Nat) : Nat := 97 + k % 26
set_option tactic.hygienic false in
theorem letter_word {n : Nat} (k : Nat) (hn : 0 < n) : Word (List.replicate n (letter k)) := by
  refine ⟨by cases n with | zero => (first | lia | omega) | succ n => simp [List.replicate], fun c hc => ?_⟩
  rw [List.eq_of_mem_replicate hc]
  have h : ∀ j : Fin 26, isWs (97 + j.1) = false := by decide +kernel
  exact h ⟨k % 26, Nat.mod_lt _ (by decide)⟩
set_option tactic.hygienic false in
theorem rep_one (c n : Nat) : (List.replicate n [c]).flatten = List.replicate n c := by
  induction n with
  | zero => rfl
  | succ n ih => simp [List.replicate_succ, ih]
set_option tactic.hygienic false in
theorem mul_one {c : Nat} {n : Int} (h0 : 0 ≤ n) (h1 : n ≤ 1000000) : binD .mul (.str [c]) (.int n) = some (.str (List.replicate n.toNat c)) := by
  have hL : LIM = 16777216 := rfl
  rw [mul_str ⟨h0, by (first | lia | omega), by simp; (first | lia | omega)⟩, rep_one]

set_option tactic.hygienic false in
theorem range_nat (a b : Nat) : rangeD (a : Int) (b : Int) 1 = (List.range (b - a)).map fun k => ((a + k : Nat) : Int) := by
  unfold rangeD
  rw [if_pos (by (first | lia | omega)), show (((b : Int) - a + 1 - 1) / 1).toNat = b - a from by (first | lia | omega)]
  apply List.map_congr_left
  intro k _
  push_cast
  (first | lia | omega)
set_option tactic.hygienic false in
/-- for k in range(a, b) -/
theorem for_range {x : Nat} {body : List Slot → Option (List Slot × Fl)} {a b : Nat} (hab : a ≤ b) (I : Nat → List Slot → Prop) {ρ : List Slot} (h0 : I a ρ)
    (hstep : ∀ k ρ, a ≤ k → k < b → I k ρ → ∃ ρ₁ ρ', put1 x (.int k) ρ = some ρ₁ ∧ (body ρ₁ = some (ρ', .next) ∨ body ρ₁ = some (ρ', .cont)) ∧ I (k + 1) ρ') :
    ∃ ρ', forF (put1 x) body ((rangeD (a : Int) (b : Int) 1).map .int) ρ = some (ρ', .next) ∧ I b ρ' := by
  obtain ⟨ρ', h1, k, hk, hk', e, hI⟩ := forF_plain (put := put1 x) (body := body) (fun ds ρ => ∃ k, a ≤ k ∧ k ≤ b ∧ ds = ((List.range (b - a)).drop (k - a)).map (fun (j : Nat) => D.int ((a + j : Nat) : Int)) ∧ I k ρ) (by
    rintro d ds ρ ⟨k, hk, hk', e1, hI⟩
    have hlt : k - a < b - a := by
      rcases Nat.lt_or_ge (k - a) (b - a) with h | h
      · exact h
      · rw [List.drop_eq_nil_of_le (by simpa using h)] at e1; cases e1
    have hd : (List.range (b - a)).drop (k - a) = (k - a) :: (List.range (b - a)).drop (k - a + 1) := by
      rw [List.drop_eq_getElem_cons (by simpa using hlt)]; simp
    rw [hd, List.map_cons] at e1
    obtain ⟨rfl, rfl⟩ := List.cons.inj e1
    have ek : ((a + (k - a) : Nat) : Int) = (k : Int) := by (first | lia | omega)
    rw [ek]
    obtain ⟨ρ₁, ρ', p1, p2, p3⟩ := hstep k ρ hk (by (first | lia | omega)) hI
    exact ⟨ρ₁, ρ', p1, p2, k + 1, by (first | lia | omega), by (first | lia | omega), by rw [show k + 1 - a = k - a + 1 from by (first | lia | omega)], p3⟩) ((rangeD (a : Int) (b : Int) 1).map .int) ρ ⟨a, by (first | lia | omega), hab, by rw [range_nat]; simp, h0⟩
  have hke : k = b := by
    have := congrArg List.length e
    simp at this
    (first | lia | omega)
  subst hke
  exact ⟨ρ', h1, hI⟩

end Mine
end
/-! QC -/
section
open PySem
set_option linter.unusedSimpArgs false
set_option linter.unusedVariables false
namespace Mine
/-- _law_columns(indent); the slots: 0 indent, 1 parts, 2 column, 3 part -/
noncomputable def t_law_columns_b_1 : C :=
  (.assign 1 (.meth .split (.var 0) (.cons (.const (.str [9])) .nil)))
noncomputable def t_law_columns_b_2 : C :=
  (.assign 2 (.const (.int 0)))
noncomputable def t_law_columns_l1_1 : C :=
  (.assign 2 (.bin .add (.bin .mul (.bin .fdiv (.bin .add (.var 2) (.fn .len (.cons (.var 3) .nil))) (.const (.int 8))) (.const (.int 8))) (.const (.int 8))))
noncomputable def l_law_columns_1 : C :=
  (.seq t_law_columns_l1_1 .skip)
noncomputable def t_law_columns_b_3 : C :=
  (.for1 3 (.e (.slice (.var 1) (.const .none) (.neg (.const (.int 1))))) l_law_columns_1)
noncomputable def t_law_columns_b_4 : C :=
  (.ret (.bin .add (.var 2) (.fn .len (.cons (.idx (.var 1) (.neg (.const (.int 1)))) .nil))))
noncomputable def b_law_columns : C :=
  (.seq t_law_columns_b_1 (.seq t_law_columns_b_2 (.seq t_law_columns_b_3 (.seq t_law_columns_b_4 .skip))))
noncomputable def f_law_columns : Fun := ⟨1, 4, b_law_columns⟩

/-- the columns, counted by the parts between tabs -/
noncomputable def partsCol : Nat → List (List Nat) → Nat
  | col, [] => col
  | col, [p] => col + p.length
  | col, p :: ps => partsCol ((col + p.length) / 8 * 8 + 8) ps
theorem partsCol_cons (col : Nat) (p q : List Nat) (ps : List (List Nat)) : partsCol col (p :: q :: ps) = partsCol ((col + p.length) / 8 * 8 + 8) (q :: ps) := rfl
set_option tactic.hygienic false in
theorem parts_cols : ∀ (s : List Nat) (col : Nat), Plain s → partsCol col (splitOn 9 s) = col + (expandGo col s).length
  | [], col, _ => rfl
  | c :: r, col, h => by
    have hr : Plain r := fun x hx => h x (List.mem_cons_of_mem _ hx)
    have hc := h c (by simp)
    have hne := (splitBy_size (fun x => x == 9) r).2
    cases hs : splitBy (fun x => x == 9) r with
    | nil => exact absurd hs hne
    | cons w ws =>
      have ih := fun col => parts_cols r col hr
      unfold splitOn at ih ⊢
      rw [hs] at ih
      by_cases h9 : c = 9
      · have e : splitBy (fun x => x == 9) (c :: r) = [] :: w :: ws := by simp [splitBy, h9, hs]
        rw [e, partsCol_cons, ih, expandGo, if_pos h9]
        simp
        have : col / 8 * 8 + 8 = col + (8 - col % 8) := by (first | lia | omega)
        rw [this]
        (first | lia | omega)
      · have e : splitBy (fun x => x == 9) (c :: r) = (c :: w) :: ws := by simp [splitBy, h9, hs]
        rw [e, expandGo, if_neg h9, if_neg (by simp [hc])]
        have e2 : partsCol col ((c :: w) :: ws) = partsCol (col + 1) (w :: ws) := by
          cases ws with
          | nil => simp [partsCol]; (first | lia | omega)
          | cons v vs => rw [partsCol_cons, partsCol_cons]; congr 3; simp; (first | lia | omega)
        rw [e2, ih]
        simp
        (first | lia | omega)
set_option tactic.hygienic false in
theorem parts_colsOf {s : List Nat} (h : Plain s) : partsCol 0 (splitOn 9 s) = colsOf s := by
  have := parts_cols s 0 h
  simpa [colsOf] using this
set_option tactic.hygienic false in
theorem parts_loop {Φ : Funs} {s : D} {all : Slot} : ∀ (ps : List (List Nat)) (col : Nat) (a : Slot) (q : List Nat), ∃ col' b, forF (put1 3) (ex Φ l_law_columns_1) (ps.map .str) [.val s, all, .val (.int col), a] = some ([.val s, all, .val (.int (col' : Nat)), b], .next) ∧ partsCol col (ps ++ [q]) = col' + q.length
  | [], col, a, q => ⟨col, a, rfl, rfl⟩
  | p :: ps, col, a, q => by
    obtain ⟨col', b, h1, h2⟩ := parts_loop (Φ := Φ) (s := s) (all := all) ps ((col + p.length) / 8 * 8 + 8) (.val (.str p)) q
    refine ⟨col', b, ?_, ?_⟩
    · have hp : put1 3 (.str p) [.val s, all, .val (.int col), a] = some [.val s, all, .val (.int col), .val (.str p)] := rfl
      have hd := fdiv_int (a := (col : Int) + p.length) (b := 8) (by decide)
      have hm := mul_int2 (a := ((col : Int) + p.length) / 8) (b := 8) (.inr rfl)
      have hb : ex Φ l_law_columns_1 [.val s, all, .val (.int col), .val (.str p)] = some ([.val s, all, .val (.int (((col + p.length) / 8 * 8 + 8 : Nat) : Int)), .val (.str p)], .next) := by
        have e : (((col + p.length) / 8 * 8 + 8 : Nat) : Int) = ((col : Int) + p.length) / 8 * 8 + 8 := by (first | lia | omega)
        rw [e]
        exact run_seq (run_assign rfl (by (repeat' (first | exact ev_const | exact ev_val rfl | exact ev_own rfl | exact ev_cvar rfl | exact evs_nil | assumption | apply evs_cons | apply ev_bin | apply ev_cmp | apply ev_idx | apply ev_slice | apply ev_fn | apply ev_meth | apply ev_not | apply ev_neg | apply ev_bools | apply ev_resplit | exact fn_len_strs _ | exact fn_len_ints _ | exact fn_len_list _ | exact fn_len_str _ | exact add_int _ _ | exact sub_int _ _ | exact truth_bool _ | exact rfl))) rfl rfl) run_skip
      rw [List.map_cons, forF_go hp (.inl hb)]
      exact h1
    · cases ps with
      | nil => exact h2
      | cons r rs => exact h2
set_option tactic.hygienic false in
theorem columns_run (Φ : Funs) (s : List Nat) (hs : s.length ≤ 100000) : ∃ fr, runF Φ f_law_columns [.str s] = some (.int (partsCol 0 (splitOn 9 s)), fr) := by
  have hL : LIM = 16777216 := rfl
  have hne : splitOn 9 s ≠ [] := (splitBy_size _ s).2
  obtain ⟨ps, q, hq⟩ : ∃ ps q, splitOn 9 s = ps ++ [q] := by
    rcases List.eq_nil_or_concat (splitOn 9 s) with h | ⟨ps, q, h⟩
    · exact absurd h hne
    · exact ⟨ps, q, by simpa using h⟩
  obtain ⟨col', b, h1, h2⟩ := parts_loop (Φ := Φ) (s := .str s) (all := .own ((splitOn 9 s).map .str)) ps 0 .unset q
  rw [← hq] at h2
  have hsp : methD .split (.str s) [.str [9]] = some (.list ((splitOn 9 s).map .str)) := by simp only [methD]; rw [if_pos (by (first | lia | omega))]
  have hcut : sliceD (.list ((splitOn 9 s).map D.str)) .none (.int (-1)) = some (.list (ps.map .str)) := by
    have := cut_init ((splitOn 9 s).map D.str) (by simpa using hne)
    rw [hq] at this
    simp at this
    rw [hq]
    show some (D.list (cut _ _ _)) = _
    simp [this]
  have hlast : idxD (.list ((splitOn 9 s).map .str)) (.int (-1)) = some (.str q) := idx_lastD (by rw [hq]; simp)
  rw [h2]
  generalize (splitOn 9 s).map D.str = pp at *
  refine ⟨true, run_fun rfl (ρ := [.val (.str s), .own pp, .val (.int (col' : Nat)), b]) ?_⟩
  refine run_seq (ρ₁ := [.val (.str s), .own pp, .unset, .unset]) (run_assign rfl (by (repeat' (first | exact ev_const | exact ev_val rfl | exact ev_own rfl | exact ev_cvar rfl | exact evs_nil | assumption | apply evs_cons | apply ev_bin | apply ev_cmp | apply ev_idx | apply ev_slice | apply ev_fn | apply ev_meth | apply ev_not | apply ev_neg | apply ev_bools | apply ev_resplit | exact fn_len_strs _ | exact fn_len_ints _ | exact fn_len_list _ | exact fn_len_str _ | exact add_int _ _ | exact sub_int _ _ | exact truth_bool _ | exact rfl))) rfl rfl) ?_
  refine run_seq (ρ₁ := [.val (.str s), .own pp, .val (.int 0), .unset]) (run_assign rfl (by (repeat' (first | exact ev_const | exact ev_val rfl | exact ev_own rfl | exact ev_cvar rfl | exact evs_nil | assumption | apply evs_cons | apply ev_bin | apply ev_cmp | apply ev_idx | apply ev_slice | apply ev_fn | apply ev_meth | apply ev_not | apply ev_neg | apply ev_bools | apply ev_resplit | exact fn_len_strs _ | exact fn_len_ints _ | exact fn_len_list _ | exact fn_len_str _ | exact add_int _ _ | exact sub_int _ _ | exact truth_bool _ | exact rfl))) rfl rfl) ?_
  refine run_seq (ρ₁ := [.val (.str s), .own pp, .val (.int (col' : Nat)), b]) (run_for rfl (ev_slice (ev_own rfl) ev_const (ev_neg ev_const) hcut) rfl h1) ?_
  exact run_stop (run_ret rfl (ev_bin (ev_val rfl) (ev_fn (evs_cons (ev_idx (ev_own rfl) (ev_neg ev_const) hlast) evs_nil) (fn_len_str _)) (add_int _ _))) (fun h => by cases h)
end Mine
end
/-! QL -/
section
open PySem
set_option linter.unusedSimpArgs false
set_option linter.unusedVariables false
namespace Mine

/-! ## texts laid of words and white pieces out of a table -/
noncomputable def sepW (fu y : List Nat) : List Nat := y ++ (if 10 ∈ y then fu else [])
structure WhiteOk (y : List Nat) : Prop where
  white : White y
  ne : y ≠ []
  len : y.length ≤ 3
  aft : 10 ∈ y → after y = []
set_option tactic.hygienic false in
theorem sepW_ok {fu y : List Nat} (hy : WhiteOk y) (hfu : Indent fu) (hfl : fu.length ≤ 6) : White (sepW fu y) ∧ sepW fu y ≠ [] ∧ 10 ∉ after (sepW fu y) ∧ gapOf (sepW fu y) = gapOf y ∧ (sepW fu y).length ≤ 9 ∧ (10 ∈ sepW fu y → after (sepW fu y) = fu) := by
  unfold sepW
  by_cases h10 : 10 ∈ y
  · rw [if_pos h10]
    obtain ⟨a, b, e, ha, h1, h2⟩ := sep_split h10
    have hb : b = [] := by rw [← h2]; exact hy.aft h10
    subst hb
    have e' : y ++ fu = a ++ 10 :: fu := by rw [e]; simp
    obtain ⟨l1, l2⟩ := line1_app (a := a) (b := fu) ha
    rw [e']
    refine ⟨fun c hc => ?_, by simp, by rw [l2]; exact hfu.no10, ?_, ?_, fun _ => l2⟩
    · rw [← e'] at hc
      rcases List.mem_append.mp hc with h | h
      · exact hy.white c h
      · exact hfu.white c h
    · unfold gapOf; rw [l1, h1]
    · have := hy.len
      rw [← e']
      simp
      (first | lia | omega)
  · rw [if_neg h10]
    simp only [List.append_nil]
    refine ⟨hy.white, hy.ne, fun h => h10 (List.mem_of_mem_drop h), trivial, by have := hy.len; (first | lia | omega), fun h => absurd h h10⟩
set_option tactic.hygienic false in
theorem ind2S_first {ind fu : List Nat} (hfu : Indent fu) {ps : List (List Nat × List Nat)} (h : ∀ p ∈ ps, 10 ∈ p.2 → after p.2 = fu) (hs : ∃ p ∈ ps, 10 ∈ p.2) : ind2S ind ps = fu := by
  induction ps with
  | nil => obtain ⟨p, hp, _⟩ := hs; cases hp
  | cons p ps ih =>
    by_cases h10 : 10 ∈ p.2
    · simp [ind2S, h10, h p (by simp) h10, indent_self hfu]
    · have : ∃ q ∈ ps, 10 ∈ q.2 := by
        obtain ⟨q, hq, hq10⟩ := hs
        rcases List.mem_cons.mp hq with rfl | hq
        · exact absurd hq10 h10
        · exact ⟨q, hq, hq10⟩
      simp [ind2S, h10, ih (fun q hq => h q (by simp [hq])) this]


set_option tactic.hygienic false in
theorem infix_one (c : Nat) : ∀ t : List Nat, infixB [c] t = decide (c ∈ t)
  | [] => by simp [infixB]
  | x :: r => by
    simp only [infixB, infix_one c r, List.isPrefixOf]
    by_cases h : c = x
    · simp [h]
    · simp [h]
noncomputable def sepsP (fu : List Nat) (P : List (List Nat × List Nat)) : List (List Nat × List Nat) := P.map fun p => (p.1, sepW fu p.2)
set_option tactic.hygienic false in
theorem lay_len {fu : List Nat} (hfu : Indent fu) (hfl : fu.length ≤ 6) : ∀ {P : List (List Nat × List Nat)}, (∀ p ∈ P, p.1.length ≤ 9 ∧ WhiteOk p.2) → (lay (sepsP fu P)).length ≤ 18 * P.length
  | [], _ => by simp [lay, sepsP]
  | p :: P, h => by
    have ih := lay_len hfu hfl (P := P) fun q hq => h q (by simp [hq])
    obtain ⟨h1, h2⟩ := h p (by simp)
    obtain ⟨_, _, _, _, s5, _⟩ := sepW_ok (h2) hfu hfl
    simp only [sepsP, List.map_cons, lay, List.flatMap_cons, List.length_append, List.length_cons] at ih ⊢
    (first | lia | omega)

noncomputable def toksQ (P : List (List Nat × List Nat)) : List Tok' := P.map fun p => (p.1, gapOf p.2)
set_option tactic.hygienic false in
/-- the text without what is white at its end, and what reformat_paragraph makes of it -/
theorem told_gen {lim : Int} {fi fu : List Nat} (hfi : Indent fi) (hfu : Indent fu) (hfl : fu.length ≤ 6) {P : List (List Nat × List Nat)} (hne : P ≠ []) (hP : ∀ p ∈ P, Word p.1 ∧ WhiteOk p.2) :
    reform (rstrip (fi ++ lay (sepsP fu P))) lim = paraOut lim fi (if 10 ∈ rstrip (fi ++ lay (sepsP fu P)) then fu else fi) (toksQ P) := by
  obtain ⟨Q, p, rfl⟩ : ∃ Q p, P = Q ++ [p] := by
    rcases List.eq_nil_or_concat P with h | ⟨Q, p, h⟩
    · exact absurd h hne
    · exact ⟨Q, p, by simpa using h⟩
  obtain ⟨w, y⟩ := p
  have hw : Word w := (hP (w, y) (by simp)).1
  have hy := (hP (w, y) (by simp)).2
  obtain ⟨s1, _⟩ := sepW_ok hy hfu hfl
  have hr : rstrip (fi ++ lay (sepsP fu (Q ++ [(w, y)]))) = fi ++ lay (sepsP fu Q ++ [(w, [])]) := by
    have e : fi ++ lay (sepsP fu (Q ++ [(w, y)])) = (fi ++ lay (sepsP fu Q)) ++ w ++ sepW fu y := by simp [lay, sepsP]
    rw [e, rstrip_row hw s1]
    simp [lay]
  have hseps : ∀ p ∈ sepsP fu Q, Word p.1 ∧ White p.2 ∧ p.2 ≠ [] ∧ 10 ∉ after p.2 ∧ (10 ∈ p.2 → after p.2 = fu) := by
    intro p hp
    obtain ⟨q, hq, rfl⟩ := List.mem_map.mp hp
    have h1 := hP q (by simp [hq])
    obtain ⟨a, b, c, d, e, f⟩ := sepW_ok (h1.2) hfu hfl
    exact ⟨h1.1, a, b, c, f⟩
  have hl : Laid fi (sepsP fu Q ++ [(w, [])]) := by
    refine ⟨hfi, by simp, fun p hp => ?_, fun p hp => ?_, fun p hp => ?_, fun p hp => ?_, fun p hp => ?_⟩
    · rcases List.mem_append.mp hp with hp | hp
      · exact (hseps p hp).1
      · rw [List.mem_singleton.mp hp]; exact hw
    · rcases List.mem_append.mp hp with hp | hp
      · exact (hseps p hp).2.1
      · rw [List.mem_singleton.mp hp]; exact fun c hc => by cases hc
    · rcases List.mem_append.mp hp with hp | hp
      · exact (hseps p hp).2.2.2.1
      · rw [List.mem_singleton.mp hp]; simp [after]
    · rw [List.dropLast_concat] at hp
      exact (hseps p hp).2.2.1
    · simp at hp
      rw [← hp]
      simp
  have hft : ∀ p ∈ sepsP fu Q ++ [(w, [])], 10 ∈ p.2 → after p.2 = fu := by
    intro p hp h10
    rcases List.mem_append.mp hp with hp | hp
    · exact (hseps p hp).2.2.2.2 h10
    · rw [List.mem_singleton.mp hp] at h10; cases h10
  have hind : ind2S fi (sepsP fu Q ++ [(w, [])]) = if 10 ∈ fi ++ lay (sepsP fu Q ++ [(w, [])]) then fu else fi := by
    by_cases hs : ∃ p ∈ sepsP fu Q ++ [(w, [])], 10 ∈ p.2
    · rw [ind2S_first hfu hft hs, if_pos]
      obtain ⟨p, hp, h10⟩ := hs
      refine List.mem_append_right _ (List.mem_flatMap.mpr ⟨p, hp, List.mem_append_right _ h10⟩)
    · rw [if_neg]
      · have : ∀ ps : List (List Nat × List Nat), (∀ p ∈ ps, 10 ∉ p.2) → ind2S fi ps = fi := by
          intro ps
          induction ps with
          | nil => intro _; rfl
          | cons p ps ih => intro h; simp [ind2S, h p (by simp), ih fun q hq => h q (by simp [hq])]
        exact this _ fun p hp h10 => hs ⟨p, hp, h10⟩
      · intro h
        rcases List.mem_append.mp h with h | h
        · exact hfi.no10 h
        · obtain ⟨p, hp, h⟩ := List.mem_flatMap.mp h
          rcases List.mem_append.mp h with h | h
          · exact word_no10 (hl.word p hp) h
          · exact hs ⟨p, hp, h⟩
  rw [hr, reform_lay hl, hind]
  have e1 : toksP (sepsP fu Q ++ [(w, [])]) = toksQ Q ++ [(w, 1)] := by
    have : toksP (sepsP fu Q) = toksQ Q := by
      simp only [toksP, sepsP, toksQ, List.map_map]
      apply List.map_congr_left
      intro p hp
      have h1 := hP p (by simp [hp])
      obtain ⟨_, _, _, d, _⟩ := sepW_ok (h1.2) hfu hfl
      simp [d]
    simp only [toksP, List.map_append] at this ⊢
    rw [this]
    simp [gapOf, gapL, line1]
  have e2 : toksQ (Q ++ [(w, y)]) = toksQ Q ++ [(w, gapOf y)] := by simp [toksQ]
  rw [e1, e2]
  exact paraOut_last _


/-! ## tables -/
noncomputable def pairsN (f : Nat → Int → List Nat × List Nat) (j : Nat) : List Int → List (List Nat × List Nat)
  | [] => []
  | x :: r => f j x :: pairsN f (j + 1) r
set_option tactic.hygienic false in
theorem pairsN_snoc (f : Nat → Int → List Nat × List Nat) : ∀ (a : List Int) (x : Int) (j : Nat), pairsN f j (a ++ [x]) = pairsN f j a ++ [f (j + a.length) x]
  | [], x, j => rfl
  | y :: a, x, j => by simp only [List.cons_append, pairsN, pairsN_snoc f a x (j + 1), List.length_cons]; rw [show j + 1 + a.length = j + (a.length + 1) from by (first | lia | omega)]
set_option tactic.hygienic false in
theorem pairsN_len (f : Nat → Int → List Nat × List Nat) : ∀ (a : List Int) (j : Nat), (pairsN f j a).length = a.length
  | [], _ => rfl
  | x :: a, j => by simp [pairsN, pairsN_len f a]
set_option tactic.hygienic false in
theorem pairsN_mem {f : Nat → Int → List Nat × List Nat} {Q : List Nat × List Nat → Prop} (h : ∀ j x, Q (f j x)) : ∀ {a : List Int} {j : Nat} {p : List Nat × List Nat}, p ∈ pairsN f j a → Q p
  | x :: a, j, p, hp => by
    rcases List.mem_cons.mp hp with rfl | hp
    · exact h j x
    · exact pairsN_mem h hp
set_option tactic.hygienic false in
theorem minL_spec : ∀ {l : List Int}, l ≠ [] → minL l ∈ l ∧ ∀ v ∈ l, minL l ≤ v
  | [x], _ => by simp [minL]
  | x :: y :: r, _ => by
    obtain ⟨h1, h2⟩ := minL_spec (l := y :: r) (by simp)
    have e : minL (x :: y :: r) = min x (minL (y :: r)) := rfl
    rw [e]
    refine ⟨?_, fun v hv => ?_⟩
    · rcases Int.le_total x (minL (y :: r)) with h | h
      · rw [Int.min_eq_left h]; simp
      · rw [Int.min_eq_right h]; exact List.mem_cons_of_mem _ h1
    · rcases List.mem_cons.mp hv with rfl | hv
      · (first | lia | omega)
      · have := h2 v hv; (first | lia | omega)
set_option tactic.hygienic false in
theorem maxL_spec : ∀ {l : List Int}, l ≠ [] → maxL l ∈ l ∧ ∀ v ∈ l, v ≤ maxL l
  | [x], _ => by simp [maxL]
  | x :: y :: r, _ => by
    obtain ⟨h1, h2⟩ := maxL_spec (l := y :: r) (by simp)
    have e : maxL (x :: y :: r) = max x (maxL (y :: r)) := rfl
    rw [e]
    refine ⟨?_, fun v hv => ?_⟩
    · rcases Int.le_total x (maxL (y :: r)) with h | h
      · rw [Int.max_eq_right h]; exact List.mem_cons_of_mem _ h1
      · rw [Int.max_eq_left h]; simp
    · rcases List.mem_cons.mp hv with rfl | hv
      · (first | lia | omega)
      · have := h2 v hv; (first | lia | omega)
set_option tactic.hygienic false in
theorem outG_len {lim : Int} {fu : List Nat} : ∀ (ts : List Tok') (W g : Nat), (outG lim fu W g ts).length ≤ g + tokLen ts + ts.length * (fu.length + 1)
  | [], W, g => by simp [outG]
  | (w, g') :: r, W, g => by
    have h1 := outG_len (lim := lim) (fu := fu) r (colsOf fu + w.length) g'
    have h2 := outG_len (lim := lim) (fu := fu) r (W + g + w.length) g'
    simp only [tokLen, List.map_cons, List.sum_cons, List.length_cons, Nat.succ_mul] at h1 h2 ⊢
    rw [outG]
    split
    · simp only [List.length_cons, List.length_append]; (first | lia | omega)
    · simp only [List.length_append, List.length_replicate]; (first | lia | omega)
set_option tactic.hygienic false in
theorem para_len {lim : Int} {fi fu : List Nat} {ts : List Tok'} (h : ts ≠ []) : (paraOut lim fi fu ts).length ≤ fi.length + tokLen ts + ts.length * (fu.length + 1) := by
  cases ts with
  | nil => exact absurd rfl h
  | cons t r =>
    obtain ⟨w, g⟩ := t
    have h1 := outG_len (lim := lim) (fu := fu) r (colsOf fi + w.length) g
    simp only [paraOut, tokLen, List.map_cons, List.sum_cons, List.length_cons, Nat.succ_mul, List.length_append] at h1 ⊢
    (first | lia | omega)
set_option tactic.hygienic false in
theorem tokLen_le {ts : List Tok'} {n : Nat} (h : ∀ t ∈ ts, t.1.length + t.2 ≤ n) : tokLen ts ≤ n * ts.length := by
  induction ts with
  | nil => simp [tokLen]
  | cons t r ih =>
    have h1 := h t (by simp)
    have h2 := ih fun u hu => h u (by simp [hu])
    simp only [tokLen, List.map_cons, List.sum_cons, List.length_cons, Nat.mul_succ] at h2 ⊢
    (first | lia | omega)
noncomputable def castL (l : List Nat) : List Int := l.map fun (n : Nat) => (n : Int)
end Mine
end
/-! L12p -/
section
open PySem
set_option linter.unusedSimpArgs false
set_option linter.unusedVariables false
namespace Mine

/-! ## the text without the white at its end -/
/-! ## the widths of the rows -/
noncomputable def wids (m2 : Nat) : Nat → List (List Tok') → List Nat
  | _, [] => []
  | m, a :: r => (if 1 < a.length then m + rowW a else 0) :: wids m2 m2 r
set_option tactic.hygienic false in
theorem okRows_lower {M L : Int} {m2 : Nat} (h : L ≤ M) : ∀ {m : Nat} {R : List (List Tok')}, okRows M m2 m R → (∀ v ∈ wids m2 m R, (v : Int) ≤ L) → okRows L m2 m R
  | _, [], _, _ => trivial
  | m, a :: r, ho, hw => by
    obtain ⟨h1, h2, h3, h4⟩ := ho
    refine ⟨h1, fun hl => ?_, fun b hb => ?_, okRows_lower h h4 fun v hv => hw v (by simp [wids, hv])⟩
    · have := hw _ (List.mem_cons_self)
      rwa [if_pos hl] at this
    · have := h3 b hb; omega
theorem okRows_wids {M : Int} {m2 : Nat} (h0 : 0 ≤ M) : ∀ {m : Nat} {R : List (List Tok')}, okRows M m2 m R → ∀ v ∈ wids m2 m R, (v : Int) ≤ M
  | _, [], _, v, hv => by cases hv
  | m, a :: r, ho, v, hv => by
    rcases List.mem_cons.mp hv with rfl | hv
    · split
      · rename_i hl; exact ho.2.1 hl
      · exact h0
    · exact okRows_wids h0 ho.2.2.2 v hv
/-! ## the texts of rows -/
set_option tactic.hygienic false in
theorem rowsT_same (fu : List Nat) (Y : List (List Tok')) : rowsT fu fu Y = Y.map (fu ++ rowT ·) := by cases Y <;> rfl
end Mine
end
/-! QX -/
section
open PySem
set_option linter.unusedSimpArgs false
set_option linter.unusedVariables false
namespace Mine
noncomputable def natD (l : List Nat) : List D := l.map fun (n : Nat) => .int (n : Int)
set_option tactic.hygienic false in
theorem natD_cast (l : List Nat) : natD l = (castL l).map .int := by simp [natD, castL, Function.comp_def]
set_option tactic.hygienic false in
theorem row_len {a : List Tok'} {n : Nat} (h : ∀ t ∈ a, t.1.length + t.2 ≤ n) : (rowT a).length ≤ n * a.length := by
  have h1 := congrArg List.length (row_flat a)
  rw [List.length_append] at h1
  have h2 : ∀ b : List Tok', (∀ t ∈ b, t.1.length + t.2 ≤ n) → (b.flatMap fun t => t.1 ++ List.replicate t.2 32).length ≤ n * b.length := by
    intro b
    induction b with
    | nil => intro _; simp
    | cons t b ih =>
      intro h
      have h1 := h t (by simp)
      have h2 := ih fun u hu => h u (by simp [hu])
      simp only [List.flatMap_cons, List.length_append, List.length_replicate, List.length_cons, Nat.mul_succ]
      (first | lia | omega)
  have h3 := h2 a h
  (first | lia | omega)
set_option tactic.hygienic false in
theorem rowsT_mem {fi fu : List Nat} {R : List (List Tok')} {r : List Nat} (h : r ∈ rowsT fi fu R) : ∃ ind a, (ind = fi ∨ ind = fu) ∧ a ∈ R ∧ r = ind ++ rowT a := by
  cases R with
  | nil => cases h
  | cons c R =>
    rcases List.mem_cons.mp h with rfl | h
    · exact ⟨fi, c, .inl rfl, by simp, rfl⟩
    · obtain ⟨a, ha, rfl⟩ := List.mem_map.mp h
      exact ⟨fu, a, .inr rfl, by simp [ha], rfl⟩
noncomputable def widT (r : List Nat) : Nat := if 1 < (wordsBy isWs r).length then colsOf r else 0
set_option tactic.hygienic false in
theorem widT_row {ind : List Nat} {a : List Tok'} (hi : White ind) (h : WordsR a ∧ ∀ u ∈ a.dropLast, 0 < u.2) : widT (ind ++ rowT a) = if 1 < a.length then colsOf ind + rowW a else 0 := by
  unfold widT
  rw [words_row hi h, rowT_cols h.1, List.length_map]
set_option tactic.hygienic false in
theorem wids_rows {fi fu : List Nat} (h1 : White fi) (h2 : White fu) : ∀ {R : List (List Tok')}, (∀ a ∈ R, WordsR a ∧ ∀ u ∈ a.dropLast, 0 < u.2) → (rowsT fi fu R).map widT = wids (colsOf fu) (colsOf fi) R
  | [], _ => rfl
  | a :: R, h => by
    have ih := wids_rows (fi := fu) h2 h2 (R := R) fun c hc => h c (List.mem_cons_of_mem _ hc)
    rw [rowsT_same] at ih
    simp only [rowsT, List.map_cons, wids]
    rw [ih, widT_row h1 (h a (by simp))]
set_option tactic.hygienic false in
theorem words_join10 {fi fu : List Nat} (h1 : White fi) (h2 : White fu) : ∀ {R : List (List Tok')}, (∀ a ∈ R, WordsR a ∧ ∀ u ∈ a.dropLast, 0 < u.2) → wordsBy isWs (joinWith [10] (rowsT fi fu R)) = R.flatten.map (·.1)
  | [], _ => rfl
  | [a], h => by
    have := words_row h1 (h a (by simp))
    simpa [rowsT, joinWith] using this
  | a :: b :: R, h => by
    have ih := words_join10 (fi := fu) h2 h2 (R := b :: R) fun c hc => h c (List.mem_cons_of_mem _ hc)
    have e : joinWith [10] (rowsT fi fu (a :: b :: R)) = fi ++ rowT a ++ (10 :: joinWith [10] (rowsT fu fu (b :: R))) := by
      simp [rowsT, joinWith]
    rw [e, words_rowT h1 (h a (by simp)).1 (fun c r e => by cases e; exact ws_10) (h a (by simp)).2]
    have e2 : wordsBy isWs (10 :: joinWith [10] (rowsT fu fu (b :: R))) = wordsBy isWs (joinWith [10] (rowsT fu fu (b :: R))) := words_white (s := [10]) (fun c hc => by rw [List.mem_singleton.mp hc]; exact ws_10) _
    rw [e2, ih]
    simp
set_option tactic.hygienic false in
theorem eq_strs {W : List (List Nat)} (h : W ≠ []) : eqS (.list (W.map .str)) (.list (W.map .str)) = some true := by
  have hs := strs_map W
  cases W with
  | nil => exact absurd rfl h
  | cons w W =>
    show (if ((w :: W).map D.str).length ≠ ((w :: W).map D.str).length then some false else (match strs? ((w :: W).map D.str), strs? ((w :: W).map D.str) with
      | some x, some y => some (x == y)
      | _, _ => Option.none)) = some true
    rw [if_neg (by simp), hs]
    simp

/-! ## how many rows -/
set_option tactic.hygienic false in
theorem fill_cnt {lim : Int} {m1 m2 : Nat} {ts : List Tok'} : ∀ k, k < ts.length → ∃ W : Nat, (W : Int) = wide m1 m2 (szT ts) (gpT ts) (gr lim m1 m2 (szT ts) (gpT ts) (k + 1)).2 k ∧
    (fillR lim m1 m2 ts).length = (gr lim m1 m2 (szT ts) (gpT ts) (k + 1)).1 + (outR lim m2 W (gpT ts k) (ts.drop (k + 1))).2.length := by
  intro k
  induction k with
  | zero =>
    intro h
    cases ts with
    | nil => simp at h
    | cons t r =>
      obtain ⟨w, g0⟩ := t
      refine ⟨m1 + w.length, ?_, ?_⟩
      · simp [wide, gr, posE, mar, szT]
      · simp [fillR, gr, gpT]; (first | lia | omega)
  | succ k ih =>
    intro h
    obtain ⟨W, hW, hp⟩ := ih (by (first | lia | omega))
    have hk : ts[k + 1]? = some ts[k + 1] := List.getElem?_eq_getElem h
    obtain ⟨v, g', hv⟩ : ∃ v g', ts[k + 1] = (v, g') := ⟨_, _, rfl⟩
    rw [hv] at hk
    have hdrop : ts.drop (k + 1) = (v, g') :: ts.drop (k + 2) := by rw [List.drop_eq_getElem_cons h, hv]
    have hsz : szT ts (k + 1) = v.length := by simp [szT, hk]
    have hgp : gpT ts (k + 1) = g' := by simp [gpT, hk]
    have hwide : ((W + gpT ts k + v.length : Nat) : Int) = wide m1 m2 (szT ts) (gpT ts) (gr lim m1 m2 (szT ts) (gpT ts) (k + 1)).2 (k + 1) := by
      unfold wide at hW ⊢
      rw [hsz]
      simp only [posE]
      (first | lia | omega)
    rw [hp, hdrop, outR, gr_step]
    simp only [hgp]
    by_cases hc : ((W + gpT ts k + v.length : Nat) : Int) > lim
    · rw [if_pos hc, if_pos (by rw [← hwide]; exact hc)]
      refine ⟨m2 + v.length, ?_, by rw [show k + 1 + 1 = k + 2 from rfl]; simp only [List.length_cons]; (first | lia | omega)⟩
      unfold wide mar
      rw [hsz]
      simp
      (first | lia | omega)
    · rw [if_neg hc, if_neg (by rw [← hwide]; exact hc)]
      exact ⟨W + gpT ts k + v.length, hwide, by simp⟩
set_option tactic.hygienic false in
theorem fill_rows {lim : Int} {m1 m2 : Nat} {ts : List Tok'} : (fillR lim m1 m2 ts).length = (gr lim m1 m2 (szT ts) (gpT ts) ts.length).1 := by
  cases hts : ts with
  | nil => rfl
  | cons t r =>
    rw [← hts]
    have hl : 0 < ts.length := by rw [hts]; simp
    obtain ⟨W, _, hp⟩ := fill_cnt (lim := lim) (m1 := m1) (m2 := m2) (ts := ts) (ts.length - 1) (by (first | lia | omega))
    rw [show ts.length - 1 + 1 = ts.length from by (first | lia | omega)] at hp
    rw [hp, List.drop_length]
    simp [outR]

/-! ## the narrowest limit that does with so many rows -/
noncomputable def leastTo (f : Nat → Nat) : Nat → Nat
  | 0 => f 0
  | n + 1 => min (leastTo f n) (f (n + 1))
set_option tactic.hygienic false in
theorem leastTo_le {f : Nat → Nat} {v : Nat} : ∀ n, leastTo f n ≤ v ↔ ∃ a, a ≤ n ∧ f a ≤ v
  | 0 => ⟨fun h => ⟨0, Nat.le_refl _, h⟩, fun ⟨a, h, h'⟩ => by rw [Nat.le_zero.mp h] at h'; exact h'⟩
  | n + 1 => by
    have hm : min (leastTo f n) (f (n + 1)) ≤ v ↔ leastTo f n ≤ v ∨ f (n + 1) ≤ v := by (first | lia | omega)
    rw [leastTo, hm, leastTo_le n]
    constructor
    · rintro (⟨a, h, h'⟩ | h)
      · exact ⟨a, by (first | lia | omega), h'⟩
      · exact ⟨n + 1, Nat.le_refl _, h⟩
    · rintro ⟨a, h, h'⟩
      by_cases e : a = n + 1
      · rw [e] at h'; exact .inr h'
      · exact .inl ⟨a, by (first | lia | omega), h'⟩
set_option tactic.hygienic false in
theorem leastTo_mem (f : Nat → Nat) : ∀ n, ∃ a, a ≤ n ∧ leastTo f n = f a
  | 0 => ⟨0, Nat.le_refl _, rfl⟩
  | n + 1 => by
    obtain ⟨a, h, e⟩ := leastTo_mem f n
    rw [leastTo]
    rcases Nat.le_total (leastTo f n) (f (n + 1)) with h' | h'
    · exact ⟨a, by (first | lia | omega), by rw [Nat.min_eq_left h', e]⟩
    · exact ⟨n + 1, Nat.le_refl _, by rw [Nat.min_eq_right h']⟩
section
variable (m1 m2 : Nat) (s g : Nat → Nat)
noncomputable def costN (a b : Nat) : Nat := if a < b then mar m1 m2 a + (posE s g b - posE s g a) + s b else 0
noncomputable def bst : Nat → Nat → Nat
  | 0, 0 => 0
  | 0, _ + 1 => 1000000
  | _ + 1, 0 => 0
  | L + 1, b + 1 => leastTo (fun a => max (bst L a) (costN m1 m2 s g a b)) b
end
section
variable {m1 m2 : Nat} {s g : Nat → Nat}
set_option tactic.hygienic false in
theorem cost_wide {a b : Nat} (h : a < b) : (costN m1 m2 s g a b : Int) = wide m1 m2 s g a b := by
  unfold costN wide
  rw [if_pos h]
  have := posE_mono (s := s) (g := g) (Nat.le_of_lt h)
  (first | lia | omega)
set_option tactic.hygienic false in
theorem bst_iff {lim : Nat} (hl : lim < 1000000) : ∀ (L b : Nat), bst m1 m2 s g L b ≤ lim ↔ (gr (lim : Int) m1 m2 s g b).1 ≤ L
  | 0, 0 => by simp [bst, gr]
  | 0, b + 1 => by
    have := gr_pos (lim := (lim : Int)) (m1 := m1) (m2 := m2) (s := s) (g := g) b
    simp only [bst]
    (first | lia | omega)
  | L + 1, 0 => by simp [bst, gr]
  | L + 1, b + 1 => by
    rw [bst, leastTo_le]
    constructor
    · rintro ⟨a, h, h'⟩
      have h1 : bst m1 m2 s g L a ≤ lim := by (first | lia | omega)
      have h2 := (bst_iff hl L a).mp h1
      have h3 := gr_opt (lim := (lim : Int)) (m1 := m1) (m2 := m2) (s := s) (g := g) (o := a) (l := b) h (by
        by_cases e : a = b
        · exact .inl e
        · right
          have := cost_wide (m1 := m1) (m2 := m2) (s := s) (g := g) (show a < b by (first | lia | omega))
          (first | lia | omega))
      (first | lia | omega)
    · intro h
      obtain ⟨o, ho, hf, hc⟩ := gr_least (lim := (lim : Int)) (m1 := m1) (m2 := m2) (s := s) (g := g) b
      refine ⟨o, ho, ?_⟩
      have h1 := (bst_iff hl L o).mpr (by (first | lia | omega))
      have h2 : costN m1 m2 s g o b ≤ lim := by
        rcases hf with rfl | hf
        · simp [costN]
        · by_cases e : o < b
          · have := cost_wide (m1 := m1) (m2 := m2) (s := s) (g := g) e
            (first | lia | omega)
          · simp [costN, e]
      (first | lia | omega)
set_option tactic.hygienic false in
theorem bst_small (L b : Nat) : bst m1 m2 s g (L + 1) b ≤ costN m1 m2 s g 0 (b - 1) := by
  cases b with
  | zero => simp [bst]
  | succ b =>
    rw [bst, leastTo_le]
    refine ⟨0, Nat.zero_le _, ?_⟩
    have : bst m1 m2 s g L 0 = 0 := by cases L <;> rfl
    rw [this]
    simp
end
end Mine
end
/-! L08a -/
section
open PySem
set_option linter.unusedSimpArgs false
set_option linter.unusedVariables false
namespace Mine
/-- _law_costs(words, gaps, first, further); the slots: 0 words, 1 gaps, 2 first, 3 further, 4 costs, 5 a, 6 width, 7 row, 8 b -/
noncomputable def t_law_costs_b_1 : C :=
  (.assign 4 (.list .nil))
noncomputable def t_law_costs_l1_1 : C :=
  (.assign 6 (.ucall 3 (.cons (.ite (.cmp .gt (.var 5) (.const (.int 0))) (.var 3) (.var 2)) .nil)))
noncomputable def t_law_costs_l1_2 : C :=
  (.assign 7 (.list .nil))
noncomputable def t_law_costs_l2_1 : C :=
  (.assign 6 (.bin .add (.var 6) (.fn .len (.cons (.idx (.var 0) (.var 8)) .nil))))
noncomputable def t_law_costs_l2_2 : C :=
  (.append 7 (.ite (.cmp .gt (.var 8) (.var 5)) (.var 6) (.const (.int 0))))
noncomputable def t_law_costs_l2_3 : C :=
  (.assign 6 (.bin .add (.var 6) (.idx (.var 1) (.var 8))))
noncomputable def l_law_costs_2 : C :=
  (.seq t_law_costs_l2_1 (.seq t_law_costs_l2_2 (.seq t_law_costs_l2_3 .skip)))
noncomputable def t_law_costs_l1_3 : C :=
  (.for1 8 (.e (.fn .range (.cons (.var 5) (.cons (.fn .len (.cons (.var 0) .nil)) .nil)))) l_law_costs_2)
noncomputable def t_law_costs_l1_4 : C :=
  (.append 4 (.var 7))
noncomputable def l_law_costs_1 : C :=
  (.seq t_law_costs_l1_1 (.seq t_law_costs_l1_2 (.seq t_law_costs_l1_3 (.seq t_law_costs_l1_4 .skip))))
noncomputable def t_law_costs_b_2 : C :=
  (.for1 5 (.e (.fn .range (.cons (.fn .len (.cons (.var 0) .nil)) .nil))) l_law_costs_1)
noncomputable def t_law_costs_b_3 : C :=
  (.retv 4)
noncomputable def b_law_costs : C :=
  (.seq t_law_costs_b_1 (.seq t_law_costs_b_2 (.seq t_law_costs_b_3 .skip)))
noncomputable def f_law_costs : Fun := ⟨4, 9, b_law_costs⟩
/-- law(script); the slots: 0 script, 1 numbers, 2 indents, 3 whites, 4 first, 5 further, 6 words, 7 gaps, 8 text, 9 x, 10 white, 11 costs, 12 best, 13 lines, 14 now, 15 b, 16 limit, 17 told, 18 rows, 19 widths -/
noncomputable def t_law_b_1 : C :=
  (.assign 1 (.ite (.cmp .ne (.var 0) (.list .nil)) (.slice (.var 0) (.const .none) (.const (.int 8))) (.list (.cons (.const (.int 10)) (.cons (.const (.int 3)) (.cons (.const (.int 16)) (.cons (.const (.int 22)) .nil)))))))
noncomputable def t_law_b_2 : C :=
  (.assign 2 (.list (.cons (.const (.str [])) (.cons (.const (.str [32, 32])) (.cons (.const (.str [9])) (.cons (.const (.str [32, 32, 32, 9])) (.cons (.const (.str [32, 32, 32, 32, 32])) .nil)))))))
noncomputable def t_law_b_3 : C :=
  (.assign 3 (.list (.cons (.const (.str [32])) (.cons (.const (.str [10])) (.cons (.const (.str [32, 32])) (.cons (.const (.str [9, 10])) .nil))))))
noncomputable def t_law_b_4 : C :=
  (.assign 4 (.idx (.var 2) (.bin .mod (.idx (.var 1) (.const (.int 0))) (.const (.int 5)))))
noncomputable def t_law_b_5 : C :=
  (.assign 5 (.idx (.var 2) (.bin .mod (.idx (.var 1) (.neg (.const (.int 1)))) (.const (.int 5)))))
noncomputable def t_law_b_6 : C :=
  (.assign 6 (.list .nil))
noncomputable def t_law_b_7 : C :=
  (.assign 7 (.list .nil))
noncomputable def t_law_b_8 : C :=
  (.assign 8 (.var 4))
noncomputable def t_law_l1_1 : C :=
  (.assign 10 (.idx (.var 3) (.bin .mod (.bin .fdiv (.var 9) (.const (.int 7))) (.const (.int 4)))))
noncomputable def t_law_l1_2 : C :=
  (.append 6 (.bin .mul (.idx (.const (.str [97, 98, 99, 100, 101, 102, 103, 104, 105])) (.fn .len (.cons (.var 6) .nil))) (.bin .add (.bin .mod (.var 9) (.const (.int 7))) (.const (.int 1)))))
noncomputable def t_law_l1_3 : C :=
  (.append 7 (.ite (.cmp .isIn (.var 10) (.tup (.cons (.const (.str [32])) (.cons (.const (.str [10])) .nil)))) (.const (.int 1)) (.const (.int 2))))
noncomputable def t_law_l1_4 : C :=
  (.assign 8 (.bin .add (.bin .add (.bin .add (.var 8) (.idx (.var 6) (.neg (.const (.int 1))))) (.var 10)) (.ite (.cmp .isIn (.const (.str [10])) (.var 10)) (.var 5) (.const (.str [])))))
noncomputable def l_law_1 : C :=
  (.seq t_law_l1_1 (.seq t_law_l1_2 (.seq t_law_l1_3 (.seq t_law_l1_4 .skip))))
noncomputable def t_law_b_9 : C :=
  (.for1 9 (.e (.var 1)) l_law_1)
noncomputable def t_law_b_10 : C :=
  (.assign 8 (.meth .rstrip (.var 8) .nil))
noncomputable def t_law_b_11 : C :=
  (.ite (.cmp .notIn (.const (.str [10])) (.var 8))
   (.seq (.assign 5 (.var 4))
   .skip)
   .skip)
noncomputable def t_law_b_12 : C :=
  (.assign 11 (.ucall 4 (.cons (.var 6) (.cons (.var 7) (.cons (.var 4) (.cons (.var 5) .nil))))))
noncomputable def t_law_b_13 : C :=
  (.assign 12 (.bin .add (.list (.cons (.const (.int 0)) .nil)) (.bin .mul (.list (.cons (.const (.int 1000000)) .nil)) (.fn .len (.cons (.var 6) .nil)))))
noncomputable def t_law_l2_1 : C :=
  (.assign 14 (.list (.cons (.const (.int 0)) .nil)))
noncomputable def t_law_l3_1 : C :=
  (.append 14 (.fn .min (.cons (.comp 1 (.fn .range (.cons (.bin .add (.var 15) (.const (.int 1))) .nil)) (.const (.bool true)) (.fn .max (.cons (.idx (.var 12) (.cvar 0)) (.cons (.idx (.idx (.var 11) (.cvar 0)) (.bin .sub (.var 15) (.cvar 0))) .nil)))) .nil)))
noncomputable def l_law_3 : C :=
  (.seq t_law_l3_1 .skip)
noncomputable def t_law_l2_2 : C :=
  (.for1 15 (.e (.fn .range (.cons (.fn .len (.cons (.var 6) .nil)) .nil))) l_law_3)
noncomputable def t_law_l2_3 : C :=
  (.assign 12 (.var 14))
noncomputable def t_law_l2_4 : C :=
  (.assign 16 (.idx (.var 12) (.neg (.const (.int 1)))))
noncomputable def t_law_l2_5 : C :=
  (.assign 17 (.ucall 2 (.cons (.var 8) (.cons (.var 16) .nil))))
noncomputable def t_law_l2_6 : C :=
  (.assign 18 (.meth .split (.var 17) (.cons (.const (.str [10])) .nil)))
noncomputable def t_law_l2_7 : C :=
  (.assign 19 (.comp 1 (.var 18) (.cmp .gt (.fn .len (.cons (.meth .split (.cvar 0) .nil) .nil)) (.const (.int 1))) (.ucall 3 (.cons (.cvar 0) .nil))))
noncomputable def t_law_l2_8 : C :=
  (.ite (.bools false (.cons (.cmp .ne (.meth .split (.var 17) .nil) (.var 6)) (.cons (.cmp .gt (.fn .len (.cons (.var 18) .nil)) (.var 13)) (.cons (.cmp .ne (.fn .max (.cons (.bin .add (.list (.cons (.const (.int 0)) .nil)) (.var 19)) .nil)) (.var 16)) .nil))))
   (.seq (.ret (.const (.bool false)))
   .skip)
   .skip)
noncomputable def t_law_l2_9 : C :=
  (.ite (.bools true (.cons (.cmp .gt (.var 16) (.const (.int 0))) (.cons (.cmp .le (.fn .len (.cons (.meth .split (.ucall 2 (.cons (.var 8) (.cons (.bin .sub (.var 16) (.const (.int 1))) .nil))) (.cons (.const (.str [10])) .nil)) .nil)) (.var 13)) .nil)))
   (.seq (.ret (.const (.bool false)))
   .skip)
   .skip)
noncomputable def l_law_2 : C :=
  (.seq t_law_l2_1 (.seq t_law_l2_2 (.seq t_law_l2_3 (.seq t_law_l2_4 (.seq t_law_l2_5 (.seq t_law_l2_6 (.seq t_law_l2_7 (.seq t_law_l2_8 (.seq t_law_l2_9 .skip)))))))))
noncomputable def t_law_b_14 : C :=
  (.for1 13 (.e (.fn .range (.cons (.const (.int 1)) (.cons (.bin .add (.fn .len (.cons (.var 6) .nil)) (.const (.int 1))) .nil)))) l_law_2)
noncomputable def t_law_b_15 : C :=
  (.ret (.const (.bool true)))
noncomputable def b_law : C :=
  (.seq t_law_b_1 (.seq t_law_b_2 (.seq t_law_b_3 (.seq t_law_b_4 (.seq t_law_b_5 (.seq t_law_b_6 (.seq t_law_b_7 (.seq t_law_b_8 (.seq t_law_b_9 (.seq t_law_b_10 (.seq t_law_b_11 (.seq t_law_b_12 (.seq t_law_b_13 (.seq t_law_b_14 (.seq t_law_b_15 .skip)))))))))))))))
noncomputable def f_law : Fun := ⟨1, 20, b_law⟩
noncomputable def lawFs : List Fun := [f_reformat_paragraph, f_law_columns, f_law_costs, f_law]
noncomputable def lawNames : List Str := ["reformat_paragraph", "_law_columns", "_law_costs", "law"]

/-! ## law 08: the costs -/
section
variable {Φ : Funs} {ts : List Tok'} {fi fu : List Nat}
noncomputable def wordsT (ts : List Tok') : List D := (ts.map (·.1)).map .str
noncomputable def gapsT (ts : List Tok') : List D := natD (ts.map (·.2))
set_option tactic.hygienic false in
theorem words_at {b : Nat} (h : b < ts.length) : idxD (.list (wordsT ts)) (.int b) = some (.str (wdT ts b)) := by
  refine strs_idx ?_
  rw [List.getElem?_map, List.getElem?_eq_getElem h]
  simp [wdT, h]
set_option tactic.hygienic false in
theorem gaps_at {b : Nat} (h : b < ts.length) : idxD (.list (gapsT ts)) (.int b) = some (.int (gpT ts b)) := by
  refine idx_at ?_
  unfold gapsT natD
  rw [List.getElem?_map, List.getElem?_map, List.getElem?_eq_getElem h]
  simp [gpT, h]
noncomputable def C8 (ts : List Tok') (fi fu : List Nat) (costs : Slot) (s5 s6 s7 s8 : Slot) : List Slot :=
  [.val (.list (wordsT ts)), .val (.list (gapsT ts)), .val (.str fi), .val (.str fu), costs, s5, s6, s7, s8]
noncomputable def costRow (ts : List Tok') (fi fu : List Nat) (a b : Nat) : List Nat := (List.range (b - a)).map fun i => costN (colsOf fi) (colsOf fu) (szT ts) (gpT ts) a (a + i)
noncomputable def costsTo (ts : List Tok') (fi fu : List Nat) (a : Nat) : List D := (List.range a).map fun a => D.list (natD (costRow ts fi fu a ts.length))
set_option tactic.hygienic false in
theorem cost_inner (hn : ts.length ≤ 1000) {a : Nat} (ha : a < ts.length) {cs : Slot} {s8 : Slot} : ∃ c d, forF (put1 8) (ex Φ l_law_costs_2) ((rangeD (a : Int) (ts.length : Int) 1).map .int) (C8 ts fi fu cs (.val (.int a)) (.val (.int (mar (colsOf fi) (colsOf fu) a : Nat))) (.own []) s8) =
    some (C8 ts fi fu cs (.val (.int a)) c (.own (natD (costRow ts fi fu a ts.length))) d, .next) := by
  have hL : LIM = 16777216 := rfl
  obtain ⟨ρ', hf, c, d, rfl⟩ := for_range (x := 8) (body := ex Φ l_law_costs_2) (a := a) (b := ts.length) (by (first | lia | omega))
    (fun b ρ => ∃ d, ρ = C8 ts fi fu cs (.val (.int a)) (.val (.int ((mar (colsOf fi) (colsOf fu) a + (posE (szT ts) (gpT ts) b - posE (szT ts) (gpT ts) a) : Nat) : Int))) (.own (natD (costRow ts fi fu a b))) d)
    (ρ := C8 ts fi fu cs (.val (.int a)) (.val (.int (mar (colsOf fi) (colsOf fu) a : Nat))) (.own []) s8) ⟨s8, by simp [costRow, natD]⟩ (by
      rintro b ρ hab hb ⟨d, rfl⟩
      have hw := words_at hb
      have hg := gaps_at hb
      have hmono := posE_mono (s := szT ts) (g := gpT ts) hab
      have hpe : posE (szT ts) (gpT ts) (b + 1) = posE (szT ts) (gpT ts) b + szT ts b + gpT ts b := rfl
      have hsz : (wdT ts b).length = szT ts b := rfl
      have hrow : costRow ts fi fu a (b + 1) = costRow ts fi fu a b ++ [costN (colsOf fi) (colsOf fu) (szT ts) (gpT ts) a b] := by
        unfold costRow
        rw [show b + 1 - a = (b - a) + 1 from by (first | lia | omega), List.range_succ, List.map_append]
        simp [show a + (b - a) = b from by (first | lia | omega)]
      have hlen : (natD (costRow ts fi fu a b)).length < LIM := by simp [natD, costRow]; (first | lia | omega)
      refine ⟨_, _, put1_of rfl rfl, .inl ?_, .val (.int b), rfl⟩
      obtain ⟨w0, hw0⟩ : ∃ w0, w0 = mar (colsOf fi) (colsOf fu) a + (posE (szT ts) (gpT ts) b - posE (szT ts) (gpT ts) a) := ⟨_, rfl⟩
      have e1 : mar (colsOf fi) (colsOf fu) a + (posE (szT ts) (gpT ts) (b + 1) - posE (szT ts) (gpT ts) a) = w0 + szT ts b + gpT ts b := by rw [hw0, hpe]; (first | lia | omega)
      have a1 : binD .add (.int (w0 : Int)) (.int ((wdT ts b).length : Int)) = some (.int ((w0 + szT ts b : Nat) : Int)) := by rw [add_int, hsz]; rfl
      have a2 : binD .add (.int ((w0 + szT ts b : Nat) : Int)) (.int (gpT ts b : Int)) = some (.int ((w0 + szT ts b + gpT ts b : Nat) : Int)) := by rw [add_int]; rfl
      rw [e1, hrow, ← hw0]
      refine run_seq (ρ₁ := C8 ts fi fu cs (.val (.int a)) (.val (.int ((w0 + szT ts b : Nat) : Int))) (.own (natD (costRow ts fi fu a b))) (.val (.int b))) (run_assign rfl (by (repeat' (first | exact ev_const | exact ev_val rfl | exact ev_own rfl | exact ev_cvar rfl | exact evs_nil | assumption | apply evs_cons | apply ev_bin | apply ev_cmp | apply ev_idx | apply ev_slice | apply ev_fn | apply ev_meth | apply ev_not | apply ev_neg | apply ev_bools | apply ev_resplit | exact fn_len_strs _ | exact fn_len_ints _ | exact fn_len_list _ | exact fn_len_str _ | exact add_int _ _ | exact sub_int _ _ | exact truth_bool _ | exact rfl))) rfl rfl) ?_
      refine run_seq (ρ₁ := C8 ts fi fu cs (.val (.int a)) (.val (.int ((w0 + szT ts b : Nat) : Int))) (.own (natD (costRow ts fi fu a b ++ [costN (colsOf fi) (colsOf fu) (szT ts) (gpT ts) a b]))) (.val (.int b))) (run_append (d := .int (costN (colsOf fi) (colsOf fu) (szT ts) (gpT ts) a b : Nat)) rfl ?_ rfl hlen (by unfold C8 natD; rw [List.map_append]; rfl)) ?_
      · by_cases hlt : a < b
        · have hc : cmpD .gt (.int (b : Int)) (.int (a : Int)) = some true := congrArg some (decide_eq_true (by (first | lia | omega)))
          have : costN (colsOf fi) (colsOf fu) (szT ts) (gpT ts) a b = w0 + szT ts b := by unfold costN; rw [if_pos hlt, hw0]
          rw [this]
          exact ev_ite_t (by (repeat' (first | exact ev_const | exact ev_val rfl | exact ev_own rfl | exact ev_cvar rfl | exact evs_nil | assumption | apply evs_cons | apply ev_bin | apply ev_cmp | apply ev_idx | apply ev_slice | apply ev_fn | apply ev_meth | apply ev_not | apply ev_neg | apply ev_bools | apply ev_resplit | exact fn_len_strs _ | exact fn_len_ints _ | exact fn_len_list _ | exact fn_len_str _ | exact add_int _ _ | exact sub_int _ _ | exact truth_bool _ | exact rfl))) (truth_bool _) (ev_val rfl)
        · have hc : cmpD .gt (.int (b : Int)) (.int (a : Int)) = some false := congrArg some (decide_eq_false (by (first | lia | omega)))
          have : costN (colsOf fi) (colsOf fu) (szT ts) (gpT ts) a b = 0 := by unfold costN; rw [if_neg hlt]
          rw [this]
          exact ev_ite_f (by (repeat' (first | exact ev_const | exact ev_val rfl | exact ev_own rfl | exact ev_cvar rfl | exact evs_nil | assumption | apply evs_cons | apply ev_bin | apply ev_cmp | apply ev_idx | apply ev_slice | apply ev_fn | apply ev_meth | apply ev_not | apply ev_neg | apply ev_bools | apply ev_resplit | exact fn_len_strs _ | exact fn_len_ints _ | exact fn_len_list _ | exact fn_len_str _ | exact add_int _ _ | exact sub_int _ _ | exact truth_bool _ | exact rfl))) (truth_bool _) ev_const
      · exact run_seq (run_assign rfl (by (repeat' (first | exact ev_const | exact ev_val rfl | exact ev_own rfl | exact ev_cvar rfl | exact evs_nil | assumption | apply evs_cons | apply ev_bin | apply ev_cmp | apply ev_idx | apply ev_slice | apply ev_fn | apply ev_meth | apply ev_not | apply ev_neg | apply ev_bools | apply ev_resplit | exact fn_len_strs _ | exact fn_len_ints _ | exact fn_len_list _ | exact fn_len_str _ | exact add_int _ _ | exact sub_int _ _ | exact truth_bool _ | exact rfl))) rfl rfl) run_skip)
  exact ⟨_, _, hf⟩
set_option tactic.hygienic false in
theorem costs_run (h3 : ∀ s : List Nat, s.length ≤ 100000 → ∃ fr, Φ 3 [.str s] = some (.int (partsCol 0 (splitOn 9 s)), fr)) (hfi : Indent fi) (hfu : Indent fu) (lfi : fi.length ≤ 6) (lfu : fu.length ≤ 6) (hn : ts.length ≤ 1000) :
    runF Φ f_law_costs [.list (wordsT ts), .list (gapsT ts), .str fi, .str fu] = some (.list (costsTo ts fi fu ts.length), true) := by
  have hL : LIM = 16777216 := rfl
  have hcol : ∀ a, ∃ fr, Φ 3 [.str (indK fi fu a)] = some (.int (mar (colsOf fi) (colsOf fu) a : Nat), fr) := fun a => by
    have hi : Indent (indK fi fu a) := by unfold indK; split; exact hfi; exact hfu
    have hl : (indK fi fu a).length ≤ 6 := by unfold indK; split; exact lfi; exact lfu
    obtain ⟨fr, h⟩ := h3 (indK fi fu a) (by (first | lia | omega))
    rw [parts_colsOf hi.plain, ← mar_ind] at h
    exact ⟨fr, h⟩
  have hwl : fnD .len [.list (wordsT ts)] = some (.int ts.length) := by unfold wordsT; rw [fn_len_strs]; simp
  obtain ⟨ρ', hf, s5, s6, s7, s8, rfl⟩ := for_range (x := 5) (body := ex Φ l_law_costs_1) (a := 0) (b := ts.length) (by (first | lia | omega))
    (fun a ρ => ∃ s5 s6 s7 s8, ρ = C8 ts fi fu (.own (costsTo ts fi fu a)) s5 s6 s7 s8)
    (ρ := C8 ts fi fu (.own []) .unset .unset .unset .unset) ⟨.unset, .unset, .unset, .unset, rfl⟩ (by
      rintro a ρ _ ha ⟨s5, s6, s7, s8, rfl⟩
      obtain ⟨fr, hc⟩ := hcol a
      obtain ⟨c, d, hin⟩ := cost_inner (Φ := Φ) (ts := ts) (fi := fi) (fu := fu) hn ha (cs := .own (costsTo ts fi fu a)) (s8 := s8)
      have hrg : fnD .range [.int (a : Int), .int (ts.length : Int)] = some (.range a ts.length 1) := fn_range2 (small_int (by (first | lia | omega)) (by (first | lia | omega))) (small_int (by (first | lia | omega)) (by (first | lia | omega)))
      have hlen : (costsTo ts fi fu a).length < LIM := by simp [costsTo]; (first | lia | omega)
      have hsucc : costsTo ts fi fu (a + 1) = costsTo ts fi fu a ++ [.list (natD (costRow ts fi fu a ts.length))] := by simp [costsTo, List.range_succ]
      have hite : ∀ cs s7 s8, ev Φ (C8 ts fi fu cs (.val (.int a)) s6 s7 s8) [] (.ite (.cmp .gt (.var 5) (.const (.int 0))) (.var 3) (.var 2)) = some (.str (indK fi fu a)) := by
        intro cs s7 s8
        unfold indK
        by_cases h0 : a = 0
        · rw [if_pos h0]
          have : cmpD .gt (.int (a : Int)) (.int 0) = some false := congrArg some (decide_eq_false (by (first | lia | omega)))
          exact ev_ite_f (by (repeat' (first | exact ev_const | exact ev_val rfl | exact ev_own rfl | exact ev_cvar rfl | exact evs_nil | assumption | apply evs_cons | apply ev_bin | apply ev_cmp | apply ev_idx | apply ev_slice | apply ev_fn | apply ev_meth | apply ev_not | apply ev_neg | apply ev_bools | apply ev_resplit | exact fn_len_strs _ | exact fn_len_ints _ | exact fn_len_list _ | exact fn_len_str _ | exact add_int _ _ | exact sub_int _ _ | exact truth_bool _ | exact rfl))) (truth_bool _) (ev_val rfl)
        · rw [if_neg h0]
          have : cmpD .gt (.int (a : Int)) (.int 0) = some true := congrArg some (decide_eq_true (by (first | lia | omega)))
          exact ev_ite_t (by (repeat' (first | exact ev_const | exact ev_val rfl | exact ev_own rfl | exact ev_cvar rfl | exact evs_nil | assumption | apply evs_cons | apply ev_bin | apply ev_cmp | apply ev_idx | apply ev_slice | apply ev_fn | apply ev_meth | apply ev_not | apply ev_neg | apply ev_bools | apply ev_resplit | exact fn_len_strs _ | exact fn_len_ints _ | exact fn_len_list _ | exact fn_len_str _ | exact add_int _ _ | exact sub_int _ _ | exact truth_bool _ | exact rfl))) (truth_bool _) (ev_val rfl)
      refine ⟨_, _, put1_of rfl rfl, .inl ?_, .val (.int a), c, .val (.list (natD (costRow ts fi fu a ts.length))), d, rfl⟩
      refine run_seq (ρ₁ := C8 ts fi fu (.own (costsTo ts fi fu a)) (.val (.int a)) (.val (.int (mar (colsOf fi) (colsOf fu) a : Nat))) s7 s8) (run_assign rfl (ev_scall (evs_cons (hite _ _ _) evs_nil) hc rfl) rfl rfl) ?_
      refine run_seq (ρ₁ := C8 ts fi fu (.own (costsTo ts fi fu a)) (.val (.int a)) (.val (.int (mar (colsOf fi) (colsOf fu) a : Nat))) (.own []) s8) (run_assign rfl (ev_list rfl evs_nil (by decide)) rfl rfl) ?_
      refine run_seq (run_for rfl (by (repeat' (first | exact ev_const | exact ev_val rfl | exact ev_own rfl | exact ev_cvar rfl | exact evs_nil | assumption | apply evs_cons | apply ev_bin | apply ev_cmp | apply ev_idx | apply ev_slice | apply ev_fn | apply ev_meth | apply ev_not | apply ev_neg | apply ev_bools | apply ev_resplit | exact fn_len_strs _ | exact fn_len_ints _ | exact fn_len_list _ | exact fn_len_str _ | exact add_int _ _ | exact sub_int _ _ | exact truth_bool _ | exact rfl))) (items_range _ _) hin) ?_
      rw [hsucc]
      exact run_seq (run_append rfl (ev_val rfl) rfl hlen rfl) run_skip)
  refine run_fun rfl (ρ := C8 ts fi fu (.val (.list (costsTo ts fi fu ts.length))) s5 s6 s7 s8) ?_
  refine run_seq (ρ₁ := C8 ts fi fu (.own []) .unset .unset .unset .unset) (run_assign rfl (ev_list rfl evs_nil (by decide)) rfl rfl) ?_
  have hrg : fnD .range [.int (ts.length : Int)] = some (.range 0 ts.length 1) := range_small (by (first | lia | omega))
  refine run_seq (run_for rfl (by (repeat' (first | exact ev_const | exact ev_val rfl | exact ev_own rfl | exact ev_cvar rfl | exact evs_nil | assumption | apply evs_cons | apply ev_bin | apply ev_cmp | apply ev_idx | apply ev_slice | apply ev_fn | apply ev_meth | apply ev_not | apply ev_neg | apply ev_bools | apply ev_resplit | exact fn_len_strs _ | exact fn_len_ints _ | exact fn_len_list _ | exact fn_len_str _ | exact add_int _ _ | exact sub_int _ _ | exact truth_bool _ | exact rfl))) (items_range _ _) hf) ?_
  exact run_stop (run_reto rfl rfl) (fun h => by cases h)
end

/-! ## law 08: the text -/
noncomputable def whites8 : List (List Nat) := [[32], [10], [32, 32], [9, 10]]
noncomputable def inds5 : List (List Nat) := [[], [32, 32], [9], [32, 32, 32, 9], [32, 32, 32, 32, 32]]
set_option tactic.hygienic false in
theorem inds5_indent (x : Int) : Indent (tbl inds5 x) := by
  refine tbl_all (P := Indent) (by decide) (fun y hy => ?_) x
  have : ∀ y ∈ inds5, ∀ c ∈ y, c = 32 ∨ c = 9 := by decide
  exact this y hy
set_option tactic.hygienic false in
theorem inds5_len (x : Int) : (tbl inds5 x).length ≤ 6 := tbl_all (P := fun y => y.length ≤ 6) (by decide) (by decide) x
set_option tactic.hygienic false in
theorem whites8_all {y : List Nat} (h : y ∈ whites8) : WhiteOk y ∧ gapOf y = (if [[32], [10]].contains y then 1 else 2) := by
  have h1 : ∀ y ∈ whites8, ∀ c ∈ y, isWs c = true := by decide +kernel
  have h2 : ∀ y ∈ whites8, y ≠ [] ∧ y.length ≤ 3 ∧ (10 ∈ y → after y = []) ∧ gapOf y = (if [[32], [10]].contains y then 1 else 2) := by decide
  obtain ⟨a, b, c, d⟩ := h2 y h
  exact ⟨⟨h1 y h, a, b, c⟩, d⟩
noncomputable def pair8 (j : Nat) (x : Int) : List Nat × List Nat := (List.replicate (x % 7 + 1).toNat (letter j), tbl whites8 (x / 7))
structure P8 (p : List Nat × List Nat) : Prop where
  word : Word p.1
  len : p.1.length ≤ 7
  white : WhiteOk p.2
  gap : gapOf p.2 = (if [[32], [10]].contains p.2 then 1 else 2)
set_option tactic.hygienic false in
theorem pair8_ok (j : Nat) (x : Int) : P8 (pair8 j x) :=
  ⟨letter_word j (by (first | lia | omega)), by simp [pair8]; (first | lia | omega), (whites8_all (tbl_mem (by decide) _).2).1, (whites8_all (tbl_mem (by decide) _).2).2⟩
set_option tactic.hygienic false in
theorem abc9 {j : Nat} (h : j < 9) : idxD (.str [97, 98, 99, 100, 101, 102, 103, 104, 105]) (.int j) = some (.str [letter j]) := by
  have : ∀ j : Fin 9, ([97, 98, 99, 100, 101, 102, 103, 104, 105] : List Nat)[j.1]? = some (letter j.1) := by decide
  exact str_idx (this ⟨j, h⟩)
section
variable {Φ : Funs} {sc : D} {n1 : Slot} {fi fu : List Nat} {s9 s10 : Slot} {rest : List Slot}
noncomputable def R8 (sc : D) (n1 : Slot) (fi fu : List Nat) (P : List (List Nat × List Nat)) (tx : List Nat) (s9 s10 : Slot) (rest : List Slot) : List Slot :=
  .val sc :: n1 :: .own (inds5.map .str) :: .own (whites8.map .str) :: .val (.str fi) :: .val (.str fu) :: .own (wordsT (toksQ P)) :: .own (gapsT (toksQ P)) :: .val (.str tx) :: s9 :: s10 :: rest
set_option tactic.hygienic false in
theorem body8 {P : List (List Nat × List Nat)} {tx : List Nat} {x : Int} (hfl : fu.length ≤ 6) (hP : P.length < 9) (htx : tx.length ≤ 10000) :
    ex Φ l_law_1 (R8 sc n1 fi fu P tx (.val (.int x)) s10 rest) = some (R8 sc n1 fi fu (P ++ [pair8 P.length x]) (tx ++ (pair8 P.length x).1 ++ sepW fu (pair8 P.length x).2) (.val (.int x)) (.val (.str (pair8 P.length x).2)) rest, .next) := by
  have hL : LIM = 16777216 := rfl
  have ok := pair8_ok P.length x
  have h7 : idxD (.list (whites8.map .str)) (.int (x / 7 % 4)) = some (.str (pair8 P.length x).2) := tbl_idx (l := whites8) (n := 4) rfl (by decide) (x / 7)
  have h6 : binD .mul (.str [letter P.length]) (.int (x % 7 + 1)) = some (.str (pair8 P.length x).1) := mul_one (by (first | lia | omega)) (by (first | lia | omega))
  generalize pair8 P.length x = p at *
  obtain ⟨w, y⟩ := p
  have h1 := mod_int (a := x) (b := 7) (by decide)
  have h2 := fdiv_int (a := x) (b := 7) (by decide)
  have h3 := mod_int (a := x / 7) (b := 4) (by decide)
  have hlen : fnD .len [.list (wordsT (toksQ P))] = some (.int P.length) := by unfold wordsT; rw [fn_len_strs]; simp [toksQ]
  have h5 := abc9 hP
  have h8 : cmpD .isIn (.str y) (.tup [.str [32], .str [10]]) = some ([[32], [10]].contains y) := rfl
  have h9 : cmpD .isIn (.str [10]) (.str y) = some (decide (10 ∈ y)) := by simp only [cmpD, inD, infix_one]
  have hgap := ok.gap
  have hlw := ok.len
  have hly := ok.white.len
  simp only at hgap hlw hly
  have hl1 : (wordsT (toksQ P)).length < LIM := by simp [wordsT, toksQ]; (first | lia | omega)
  have hl2 : (gapsT (toksQ P)).length < LIM := by simp [gapsT, natD, toksQ]; (first | lia | omega)
  have b1 := add_str (a := tx) (b := w) (by (first | lia | omega))
  have b2 := add_str (a := tx ++ w) (b := y) (by simp; (first | lia | omega))
  have ew : wordsT (toksQ (P ++ [(w, y)])) = wordsT (toksQ P) ++ [.str w] := by simp [wordsT, toksQ]
  have eg : gapsT (toksQ (P ++ [(w, y)])) = gapsT (toksQ P) ++ [.int (gapOf y : Nat)] := by simp [gapsT, natD, toksQ]
  unfold R8
  rw [ew, eg]
  have hlast : idxD (.list (wordsT (toksQ P) ++ [.str w])) (.int (-1)) = some (.str w) := idx_lastD (by simp)
  generalize wordsT (toksQ P) = WW at *
  generalize gapsT (toksQ P) = GG at *
  refine run_seq (ρ₁ := .val sc :: n1 :: .own (inds5.map .str) :: .own (whites8.map .str) :: .val (.str fi) :: .val (.str fu) :: .own WW :: .own GG :: .val (.str tx) :: .val (.int x) :: .val (.str y) :: rest) (run_assign rfl (by (repeat' (first | exact ev_const | exact ev_val rfl | exact ev_own rfl | exact ev_cvar rfl | exact evs_nil | assumption | apply evs_cons | apply ev_bin | apply ev_cmp | apply ev_idx | apply ev_slice | apply ev_fn | apply ev_meth | apply ev_not | apply ev_neg | apply ev_bools | apply ev_resplit | exact fn_len_strs _ | exact fn_len_ints _ | exact fn_len_list _ | exact fn_len_str _ | exact add_int _ _ | exact sub_int _ _ | exact truth_bool _ | exact rfl))) rfl rfl) ?_
  refine run_seq (ρ₁ := .val sc :: n1 :: .own (inds5.map .str) :: .own (whites8.map .str) :: .val (.str fi) :: .val (.str fu) :: .own (WW ++ [.str w]) :: .own GG :: .val (.str tx) :: .val (.int x) :: .val (.str y) :: rest) (run_append rfl (by (repeat' (first | exact ev_const | exact ev_val rfl | exact ev_own rfl | exact ev_cvar rfl | exact evs_nil | assumption | apply evs_cons | apply ev_bin | apply ev_cmp | apply ev_idx | apply ev_slice | apply ev_fn | apply ev_meth | apply ev_not | apply ev_neg | apply ev_bools | apply ev_resplit | exact fn_len_strs _ | exact fn_len_ints _ | exact fn_len_list _ | exact fn_len_str _ | exact add_int _ _ | exact sub_int _ _ | exact truth_bool _ | exact rfl))) rfl hl1 rfl) ?_
  refine run_seq (ρ₁ := .val sc :: n1 :: .own (inds5.map .str) :: .own (whites8.map .str) :: .val (.str fi) :: .val (.str fu) :: .own (WW ++ [.str w]) :: .own (GG ++ [.int (gapOf y : Nat)]) :: .val (.str tx) :: .val (.int x) :: .val (.str y) :: rest) (run_append (d := .int (gapOf y : Nat)) rfl ((ev_ite_c (ev_cmp (ev_val rfl) (ev_tup rfl (by (repeat' (first | exact ev_const | exact ev_val rfl | exact ev_own rfl | exact ev_cvar rfl | exact evs_nil | assumption | apply evs_cons | apply ev_bin | apply ev_cmp | apply ev_idx | apply ev_slice | apply ev_fn | apply ev_meth | apply ev_not | apply ev_neg | apply ev_bools | apply ev_resplit | exact fn_len_strs _ | exact fn_len_ints _ | exact fn_len_list _ | exact fn_len_str _ | exact add_int _ _ | exact sub_int _ _ | exact truth_bool _ | exact rfl))) (by decide)) h8) (truth_bool _)).trans ?_) rfl hl2 rfl) ?_
  · rw [hgap]
    generalize [[32], [10]].contains y = cb
    cases cb <;> rfl
  refine run_seq (ρ₁ := .val sc :: n1 :: .own (inds5.map .str) :: .own (whites8.map .str) :: .val (.str fi) :: .val (.str fu) :: .own (WW ++ [.str w]) :: .own (GG ++ [.int (gapOf y : Nat)]) :: .val (.str (tx ++ w ++ sepW fu y)) :: .val (.int x) :: .val (.str y) :: rest) ?_ run_skip
  unfold sepW
  by_cases hn : 10 ∈ y
  · rw [if_pos hn]
    rw [decide_eq_true hn] at h9
    exact run_assign rfl (ev_bin (ev_bin (ev_bin (ev_val rfl) (ev_idx (ev_own rfl) (ev_neg ev_const) hlast) b1) (ev_val rfl) b2) (ev_ite_t (by (repeat' (first | exact ev_const | exact ev_val rfl | exact ev_own rfl | exact ev_cvar rfl | exact evs_nil | assumption | apply evs_cons | apply ev_bin | apply ev_cmp | apply ev_idx | apply ev_slice | apply ev_fn | apply ev_meth | apply ev_not | apply ev_neg | apply ev_bools | apply ev_resplit | exact fn_len_strs _ | exact fn_len_ints _ | exact fn_len_list _ | exact fn_len_str _ | exact add_int _ _ | exact sub_int _ _ | exact truth_bool _ | exact rfl))) (truth_bool _) (ev_val rfl)) (add_str' (by simp; (first | lia | omega)) (List.append_assoc _ _ _))) rfl rfl
  · rw [if_neg hn]
    rw [decide_eq_false hn] at h9
    exact run_assign rfl (ev_bin (ev_bin (ev_bin (ev_val rfl) (ev_idx (ev_own rfl) (ev_neg ev_const) hlast) b1) (ev_val rfl) b2) (ev_ite_f (by (repeat' (first | exact ev_const | exact ev_val rfl | exact ev_own rfl | exact ev_cvar rfl | exact evs_nil | assumption | apply evs_cons | apply ev_bin | apply ev_cmp | apply ev_idx | apply ev_slice | apply ev_fn | apply ev_meth | apply ev_not | apply ev_neg | apply ev_bools | apply ev_resplit | exact fn_len_strs _ | exact fn_len_ints _ | exact fn_len_list _ | exact fn_len_str _ | exact add_int _ _ | exact sub_int _ _ | exact truth_bool _ | exact rfl))) (truth_bool _) ev_const) (add_str' (by simp; (first | lia | omega)) (List.append_assoc _ _ _))) rfl rfl
set_option tactic.hygienic false in
theorem text8 (hfu : Indent fu) (hfl : fu.length ≤ 6) (hfi : fi.length ≤ 6) (ns : List Int) (hns : ns.length ≤ 8) : ∃ a b, forF (put1 9) (ex Φ l_law_1) (ns.map .int) (R8 sc n1 fi fu [] fi .unset .unset rest) =
    some (R8 sc n1 fi fu (pairsN pair8 0 ns) (fi ++ lay (sepsP fu (pairsN pair8 0 ns))) a b rest, .next) := by
  obtain ⟨ρ', h, a, b, rfl⟩ := for_done (g := D.int) (put := put1 9) (body := ex Φ l_law_1) (fun done ρ => ∃ a b, ρ = R8 sc n1 fi fu (pairsN pair8 0 done) (fi ++ lay (sepsP fu (pairsN pair8 0 done))) a b rest)
    (all := ns) (ρ := R8 sc n1 fi fu [] fi .unset .unset rest) ⟨.unset, .unset, by simp [pairsN, sepsP, lay]⟩ (by
      rintro done x todo ρ hall ⟨a, b, rfl⟩
      have hl : done.length + 1 ≤ ns.length := by rw [hall]; simp
      have hlen := lay_len hfu hfl (P := pairsN pair8 0 done) fun p hp => pairsN_mem (Q := fun p => p.1.length ≤ 9 ∧ WhiteOk p.2) (fun j x => ⟨by have := (pair8_ok j x).len; (first | lia | omega), (pair8_ok j x).white⟩) hp
      rw [pairsN_len] at hlen
      have hb := body8 (Φ := Φ) (sc := sc) (n1 := n1) (fi := fi) (fu := fu) (s10 := b) (rest := rest) (P := pairsN pair8 0 done) (tx := fi ++ lay (sepsP fu (pairsN pair8 0 done))) (x := x) hfl (by rw [pairsN_len]; (first | lia | omega)) (by simp; (first | lia | omega))
      rw [pairsN_len] at hb
      have e1 : pairsN pair8 0 done ++ [pair8 done.length x] = pairsN pair8 0 (done ++ [x]) := by rw [pairsN_snoc, Nat.zero_add]
      have e2 : fi ++ lay (sepsP fu (pairsN pair8 0 done)) ++ (pair8 done.length x).1 ++ sepW fu (pair8 done.length x).2 = fi ++ lay (sepsP fu (pairsN pair8 0 (done ++ [x]))) := by rw [← e1]; simp [lay, sepsP]
      rw [e1, e2] at hb
      exact ⟨_, _, put1_of rfl rfl, .inl hb, _, _, rfl⟩)
  exact ⟨a, b, h⟩
end
end Mine
end
/-! L08b -/
section
open PySem
set_option linter.unusedSimpArgs false
set_option linter.unusedVariables false
namespace Mine

/-! ## law 08: one number of lines -/
set_option tactic.hygienic false in
theorem min_least (f : Nat → Nat) (b : Nat) : minL (castL ((List.range (b + 1)).map f)) = (leastTo f b : Int) := by
  have hne : castL ((List.range (b + 1)).map f) ≠ [] := by simp [castL]
  obtain ⟨h1, h2⟩ := minL_spec hne
  obtain ⟨v, hv, e⟩ := List.mem_map.mp h1
  obtain ⟨a, ha, rfl⟩ := List.mem_map.mp hv
  have h3 := (leastTo_le (f := f) (v := f a) b).mpr ⟨a, by have := List.mem_range.mp ha; (first | lia | omega), Nat.le_refl _⟩
  obtain ⟨c, hc, e2⟩ := leastTo_mem f b
  have h4 := h2 (f c : Int) (List.mem_map.mpr ⟨f c, List.mem_map.mpr ⟨c, List.mem_range.mpr (by (first | lia | omega)), rfl⟩, rfl⟩)
  (first | lia | omega)
set_option tactic.hygienic false in
theorem posE_le {s g : Nat → Nat} {n : Nat} (h : ∀ j, s j + g j ≤ n) : ∀ b, posE s g b ≤ n * b
  | 0 => by simp [posE]
  | b + 1 => by
    have := posE_le h b
    have := h b
    simp only [posE, Nat.mul_succ]
    (first | lia | omega)
set_option tactic.hygienic false in
theorem cols_le (s : List Nat) : colsOf s ≤ 8 * s.length := by
  have h3 : ∀ (s : List Nat) (c : Nat), (expandGo c s).length ≤ 8 * s.length := by
    intro s
    induction s with
    | nil => intro c; simp [expandGo]
    | cons x r ih =>
      intro c
      rw [expandGo]
      split
      · have := ih (c + (8 - c % 8)); simp; omega
      · have := ih (if x = 10 ∨ x = 13 then 0 else c + 1); simp only [List.length_cons]; omega
  exact h3 s 0
structure Txt8 (fi fu fv tx : List Nat) (P : List (List Nat × List Nat)) : Prop where
  ifi : Indent fi
  ifu : Indent fu
  ifv : Indent fv
  lfi : fi.length ≤ 6
  lfu : fu.length ≤ 6
  lfv : fv.length ≤ 6
  ok : ∀ p ∈ P, P8 p
  ne : P ≠ []
  len : P.length ≤ 8
  etx : tx = rstrip (fi ++ lay (sepsP fu P))
  efv : fv = if 10 ∈ tx then fu else fi
section
variable {Φ : Funs} {sc : D} {n1 : Slot} {fi fu fv : List Nat} {P : List (List Nat × List Nat)} {tx : List Nat} {s9 s10 : Slot} {R : List (List Tok')}
set_option tactic.hygienic false in
theorem Txt8.toks (T : Txt8 fi fu fv tx P) : Toks (toksQ P) ∧ ∀ t ∈ toksQ P, t.1.length + t.2 ≤ 9 := by
  have hg : ∀ p ∈ P, gapOf p.2 = 1 ∨ gapOf p.2 = 2 := fun p hp => by
    rw [(T.ok p hp).gap]
    split
    · exact .inl rfl
    · exact .inr rfl
  refine ⟨⟨fun t ht => ?_, fun t ht => ?_⟩, fun t ht => ?_⟩
  · obtain ⟨p, hp, rfl⟩ := List.mem_map.mp ht
    exact (T.ok p hp).word
  · obtain ⟨p, hp, rfl⟩ := List.mem_map.mp ht
    have := hg p hp
    simp only
    (first | lia | omega)
  · obtain ⟨p, hp, rfl⟩ := List.mem_map.mp ht
    have := hg p hp
    have := (T.ok p hp).len
    simp only
    (first | lia | omega)
set_option tactic.hygienic false in
theorem Txt8.told (T : Txt8 fi fu fv tx P) (L : Int) : reform tx L = joinWith [10] (rowsT fi fv (fillR L (colsOf fi) (colsOf fv) (toksQ P))) := by
  have h1 := told_gen (lim := L) T.ifi T.ifu T.lfu T.ne fun p hp => ⟨(T.ok p hp).word, (T.ok p hp).white⟩
  rw [← T.etx, ← T.efv] at h1
  rw [h1]
  exact para_rows (by simpa [toksQ] using T.ne)
set_option tactic.hygienic false in
theorem Txt8.txl (T : Txt8 fi fu fv tx P) : tx.length ≤ 200 := by
  rw [T.etx]
  have h1 := rstrip_le (fi ++ lay (sepsP fu P))
  have h2 := lay_len T.ifu T.lfu (P := P) fun p hp => ⟨by have := (T.ok p hp).len; (first | lia | omega), (T.ok p hp).white⟩
  have := T.lfi
  have := T.len
  simp only [List.length_append] at h1
  (first | lia | omega)
set_option tactic.hygienic false in
theorem Txt8.rows (T : Txt8 fi fu fv tx P) (hR : R.flatten = toksQ P) : (∀ a ∈ R, (WordsR a ∧ ∀ u ∈ a.dropLast, 0 < u.2) ∧ (rowT a).length ≤ 72) ∧ ∀ r ∈ rowsT fi fv R, r.length ≤ 78 ∧ Plain r := by
  have hl : (toksQ P).length = P.length := by simp [toksQ]
  have h1 : ∀ a ∈ R, (WordsR a ∧ ∀ u ∈ a.dropLast, 0 < u.2) ∧ (rowT a).length ≤ 72 := fun a ha => by
    refine ⟨T.toks.1.row hR ha, ?_⟩
    have h2 := row_len (a := a) (n := 9) fun t ht => T.toks.2 t (by rw [← hR]; exact List.mem_flatten.mpr ⟨a, ha, ht⟩)
    have h3 : a.length ≤ R.flatten.length := List.Sublist.length_le (List.sublist_flatten_of_mem ha)
    rw [hR, hl] at h3
    have := T.len
    (first | lia | omega)
  refine ⟨h1, fun r hr => ?_⟩
  obtain ⟨ind, a, hi, ha, rfl⟩ := rowsT_mem hr
  have ⟨h2, h3⟩ := h1 a ha
  have hi' : Indent ind ∧ ind.length ≤ 6 := by
    rcases hi with rfl | rfl
    · exact ⟨T.ifi, T.lfi⟩
    · exact ⟨T.ifv, T.lfv⟩
  refine ⟨by simp; (first | lia | omega), fun c hc => ?_⟩
  rcases List.mem_append.mp hc with hc | hc
  · exact hi'.1.plain c hc
  · exact ⟨fun e => rowT_no h2.1 ws_10 (by decide) (e ▸ hc), fun e => rowT_no h2.1 ws_13 (by decide) (e ▸ hc)⟩
set_option tactic.hygienic false in
theorem Txt8.split (T : Txt8 fi fu fv tx P) (L : Int) : methD .split (.str (reform tx L)) [.str [10]] = some (.list ((rowsT fi fv (fillR L (colsOf fi) (colsOf fv) (toksQ P))).map .str)) ∧ (reform tx L).length < 16777216 := by
  have hTne : toksQ P ≠ [] := by simpa [toksQ] using T.ne
  have hl : (toksQ P).length = P.length := by simp [toksQ]
  have hlen : (reform tx L).length < 16777216 := by
    have h1 := para_len (lim := L) (fi := fi) (fu := fv) hTne
    rw [para_rows hTne, ← T.told L, hl] at h1
    have h2 := tokLen_le (ts := toksQ P) (n := 9) T.toks.2
    rw [hl] at h2
    have h3 : P.length * (fv.length + 1) ≤ 8 * 7 := Nat.mul_le_mul T.len (by have := T.lfv; (first | lia | omega))
    have := T.lfi
    have := T.len
    (first | lia | omega)
  refine ⟨?_, hlen⟩
  have hR : (fillR L (colsOf fi) (colsOf fv) (toksQ P)).flatten = toksQ P := fill_flat _ _ _ _
  have hsp : splitOn 10 (reform tx L) = rowsT fi fv (fillR L (colsOf fi) (colsOf fv) (toksQ P)) := by
    rw [T.told L]
    exact splitOn_join (fun e => fill_ne hTne (List.length_eq_zero_iff.mp (by rw [← rowsT_len fi fv, e]; rfl))) (rowsT_no T.ifi T.ifv fun a ha => ((T.rows hR).1 a ha).1.1)
  rw [← hsp]
  exact if_pos hlen

noncomputable def bestL (fi fv : List Nat) (ts : List Tok') (L k : Nat) : List Nat := (List.range (k + 1)).map (bst (colsOf fi) (colsOf fv) (szT ts) (gpT ts) L)
noncomputable def S8 (sc : D) (n1 : Slot) (fi fv : List Nat) (P : List (List Nat × List Nat)) (tx : List Nat) (s9 s10 : Slot) (s12 s13 s14 s15 s16 s17 s18 s19 : Slot) : List Slot :=
  R8 sc n1 fi fv P tx s9 s10 [.val (.list (costsTo (toksQ P) fi fv (toksQ P).length)), s12, s13, s14, s15, s16, s17, s18, s19]
set_option tactic.hygienic false in
theorem best_loop (hn : P.length ≤ 8) {L : Nat} {s12 : Slot} (h12 : s12 = .val (.list (natD (bestL fi fv (toksQ P) L P.length))) ∨ s12 = .own (natD (bestL fi fv (toksQ P) L P.length))) {s13 s15 s16 s17 s18 s19 : Slot} :
    ∃ d, forF (put1 15) (ex Φ l_law_3) ((rangeD (0 : Nat) (P.length : Int) 1).map .int) (S8 sc n1 fi fv P tx s9 s10 s12 s13 (.own [.int 0]) s15 s16 s17 s18 s19) =
      some (S8 sc n1 fi fv P tx s9 s10 s12 s13 (.own (natD (bestL fi fv (toksQ P) (L + 1) P.length))) d s16 s17 s18 s19, .next) := by
  have hL : LIM = 16777216 := rfl
  have hTl : (toksQ P).length = P.length := by simp [toksQ]
  obtain ⟨ρ', hf, d, rfl⟩ := for_range (x := 15) (body := ex Φ l_law_3) (a := 0) (b := P.length) (by (first | lia | omega))
    (fun b ρ => ∃ d, ρ = S8 sc n1 fi fv P tx s9 s10 s12 s13 (.own (natD (bestL fi fv (toksQ P) (L + 1) b))) d s16 s17 s18 s19)
    (ρ := S8 sc n1 fi fv P tx s9 s10 s12 s13 (.own [.int 0]) s15 s16 s17 s18 s19) ⟨s15, by simp [bestL, natD, bst, List.range_succ]⟩ (by
      rintro b ρ _ hb ⟨d, rfl⟩
      have h12e : ∀ κ, ev Φ (S8 sc n1 fi fv P tx s9 s10 s12 s13 (.own (natD (bestL fi fv (toksQ P) (L + 1) b))) (.val (.int b)) s16 s17 s18 s19) κ (.var 12) = some (.list (natD (bestL fi fv (toksQ P) L P.length))) := by
        intro κ
        rcases h12 with rfl | rfl
        · exact ev_val rfl
        · exact ev_own rfl
      have hrg : fnD .range [.int ((b : Int) + 1)] = some (.range 0 ((b + 1 : Nat) : Int) 1) := range_small (b := b + 1) (by (first | lia | omega))
      have hit : itemsD (.range 0 ((b + 1 : Nat) : Int) 1) = some ((List.range (b + 1)).map fun (k : Nat) => D.int (k : Int)) := by
        rw [items_range]
        have := range_nat 0 (b + 1)
        rw [show ((0 : Nat) : Int) = 0 from rfl] at this
        rw [this]
        simp [Function.comp_def]
      have hlen : (natD (bestL fi fv (toksQ P) (L + 1) b)).length < LIM := by simp [natD, bestL]; (first | lia | omega)
      have hsucc : bestL fi fv (toksQ P) (L + 1) (b + 1) = bestL fi fv (toksQ P) (L + 1) b ++ [leastTo (fun a => max (bst (colsOf fi) (colsOf fv) (szT (toksQ P)) (gpT (toksQ P)) L a) (costN (colsOf fi) (colsOf fv) (szT (toksQ P)) (gpT (toksQ P)) a b)) b] := by
        unfold bestL
        rw [List.range_succ (n := b + 1), List.map_append]
        rfl
      have hmin : fnD .min [.list (natD ((List.range (b + 1)).map fun a => max (bst (colsOf fi) (colsOf fv) (szT (toksQ P)) (gpT (toksQ P)) L a) (costN (colsOf fi) (colsOf fv) (szT (toksQ P)) (gpT (toksQ P)) a b)))] = some (.int (leastTo (fun a => max (bst (colsOf fi) (colsOf fv) (szT (toksQ P)) (gpT (toksQ P)) L a) (costN (colsOf fi) (colsOf fv) (szT (toksQ P)) (gpT (toksQ P)) a b)) b : Nat)) := by
        rw [natD_cast, fn_minl (by simp [castL]), min_least]
      refine ⟨_, _, put1_of rfl rfl, .inl ?_, .val (.int b), rfl⟩
      rw [hsucc]
      refine run_seq (run_append rfl (ev_fn (evs_cons (ev_comp (out := natD ((List.range (b + 1)).map fun a => max (bst (colsOf fi) (colsOf fv) (szT (toksQ P)) (gpT (toksQ P)) L a) (costN (colsOf fi) (colsOf fv) (szT (toksQ P)) (gpT (toksQ P)) a b))) rfl (ev_fn (evs_cons (by (repeat' (first | exact ev_const | exact ev_val rfl | exact ev_own rfl | exact ev_cvar rfl | exact evs_nil | assumption | apply evs_cons | apply ev_bin | apply ev_cmp | apply ev_idx | apply ev_slice | apply ev_fn | apply ev_meth | apply ev_not | apply ev_neg | apply ev_bools | apply ev_resplit | exact fn_len_strs _ | exact fn_len_ints _ | exact fn_len_list _ | exact fn_len_str _ | exact add_int _ _ | exact sub_int _ _ | exact truth_bool _ | exact rfl))) evs_nil) hrg) hit ?_ (by simp; (first | lia | omega))) evs_nil) hmin) rfl hlen (by unfold S8 R8 natD; rw [List.map_append]; rfl)) run_skip
      unfold natD
      rw [List.map_map]
      refine mapO_map1 fun a ha => comp_yes (κ := [.int (a : Int)]) rfl ev_const (truth_bool _) ?_
      have ha := List.mem_range.mp ha
      have i1 : idxD (.list (natD (bestL fi fv (toksQ P) L P.length))) (.int a) = some (.int (bst (colsOf fi) (colsOf fv) (szT (toksQ P)) (gpT (toksQ P)) L a : Nat)) := by
        refine idx_at ?_
        unfold natD bestL
        rw [List.getElem?_map, List.getElem?_map, List.getElem?_range (by (first | lia | omega))]
        rfl
      have i2 : idxD (.list (costsTo (toksQ P) fi fv (toksQ P).length)) (.int a) = some (.list (natD (costRow (toksQ P) fi fv a (toksQ P).length))) := by
        refine idx_at ?_
        unfold costsTo
        rw [List.getElem?_map, List.getElem?_range (by (first | lia | omega))]
        rfl
      have i3 : idxD (.list (natD (costRow (toksQ P) fi fv a (toksQ P).length))) (.int ((b : Int) - (a : Int))) = some (.int (costN (colsOf fi) (colsOf fv) (szT (toksQ P)) (gpT (toksQ P)) a b : Nat)) := by
        rw [show (b : Int) - (a : Int) = ((b - a : Nat) : Int) from by (first | lia | omega)]
        refine idx_at ?_
        unfold natD costRow
        rw [List.getElem?_map, List.getElem?_map, List.getElem?_range (by (first | lia | omega))]
        simp [show a + (b - a) = b from by (first | lia | omega)]
      have hm : fnD .max [.int (bst (colsOf fi) (colsOf fv) (szT (toksQ P)) (gpT (toksQ P)) L a : Nat), .int (costN (colsOf fi) (colsOf fv) (szT (toksQ P)) (gpT (toksQ P)) a b : Nat)] = some (.int (max (bst (colsOf fi) (colsOf fv) (szT (toksQ P)) (gpT (toksQ P)) L a) (costN (colsOf fi) (colsOf fv) (szT (toksQ P)) (gpT (toksQ P)) a b) : Nat)) := by
        rw [fn_max2]
        congr 2
        (first | lia | omega)
      exact ev_fn (evs_cons (ev_idx (h12e _) (ev_cvar rfl) i1) (evs_cons (ev_idx (ev_idx (ev_val rfl) (ev_cvar rfl) i2) (ev_bin (ev_val rfl) (ev_cvar rfl) (sub_int _ _)) i3) evs_nil)) hm)
  exact ⟨_, hf⟩
end
end Mine
end
/-! L08c -/
section
open PySem
set_option linter.unusedSimpArgs false
set_option linter.unusedVariables false
namespace Mine
section
variable {Φ : Funs} {sc : D} {n1 : Slot} {fi fu fv : List Nat} {P : List (List Nat × List Nat)} {tx : List Nat} {s9 s10 : Slot}
set_option maxHeartbeats 2000000 in
theorem step8 (h2 : ∀ (s : List Nat) (lim : Int), s.length ≤ 1500 → ∃ fr, Φ 2 [.str s, .int lim] = some (.str (reform s lim), fr)) (h3 : ∀ s : List Nat, s.length ≤ 100000 → ∃ fr, Φ 3 [.str s] = some (.int (partsCol 0 (splitOn 9 s)), fr))
    (T : Txt8 fi fu fv tx P) {L : Nat} (hLn : L + 1 ≤ P.length) {s12 : Slot} (h12 : s12 = .val (.list (natD (bestL fi fv (toksQ P) L P.length))) ∨ s12 = .own (natD (bestL fi fv (toksQ P) L P.length))) {s14 s15 s16 s17 s18 s19 : Slot} :
    ∃ s14' s15' s16' s17' s18' s19', ex Φ l_law_2 (S8 sc n1 fi fv P tx s9 s10 s12 (.val (.int ((L : Int) + 1))) s14 s15 s16 s17 s18 s19) = some (S8 sc n1 fi fv P tx s9 s10 (.val (.list (natD (bestL fi fv (toksQ P) (L + 1) P.length)))) (.val (.int ((L : Int) + 1))) s14' s15' s16' s17' s18' s19', .next) := by
  have hL : LIM = 16777216 := rfl
  have hTl : (toksQ P).length = P.length := by simp [toksQ]
  have hPp : 0 < P.length := List.length_pos_iff.mpr T.ne
  have hTne : toksQ P ≠ [] := by simpa [toksQ] using T.ne
  have htxl := T.txl
  have hsg : ∀ j, szT (toksQ P) j + gpT (toksQ P) j ≤ 9 := fun j => by
    unfold szT gpT
    cases h : (toksQ P)[j]? with
    | none => simp
    | some t => simpa using T.toks.2 t (List.mem_of_getElem? h)
  obtain ⟨ℓ, hℓ⟩ : ∃ ℓ, ℓ = bst (colsOf fi) (colsOf fv) (szT (toksQ P)) (gpT (toksQ P)) (L + 1) P.length := ⟨_, rfl⟩
  have hℓs : ℓ < 1000000 := by
    have h1 := bst_small (m1 := colsOf fi) (m2 := colsOf fv) (s := szT (toksQ P)) (g := gpT (toksQ P)) L P.length
    rw [← hℓ] at h1
    have h4 : costN (colsOf fi) (colsOf fv) (szT (toksQ P)) (gpT (toksQ P)) 0 (P.length - 1) ≤ 1000 := by
      unfold costN mar
      have h5 := posE_le hsg (P.length - 1)
      have h6 := cols_le fi
      have h7 := hsg (P.length - 1)
      have := T.lfi
      have := T.len
      split
      · simp only [if_true]; (first | lia | omega)
      · (first | lia | omega)
    (first | lia | omega)
  have hiff : ∀ lim : Nat, lim < 1000000 → (ℓ ≤ lim ↔ (fillR (lim : Int) (colsOf fi) (colsOf fv) (toksQ P)).length ≤ L + 1) := fun lim hl => by
    rw [fill_rows, hTl, hℓ]
    exact bst_iff hl (L + 1) P.length
  obtain ⟨R, hRd⟩ : ∃ R, R = fillR (ℓ : Int) (colsOf fi) (colsOf fv) (toksQ P) := ⟨_, rfl⟩
  have hR : R.flatten = toksQ P := by rw [hRd]; exact fill_flat _ _ _ _
  have hok : okRows (ℓ : Int) (colsOf fv) (colsOf fi) R := by rw [hRd]; exact fill_ok _ _ _ _
  have hRl : R.length ≤ L + 1 := by rw [hRd]; exact (hiff ℓ hℓs).mp (Nat.le_refl _)
  obtain ⟨hrow, hrws⟩ := T.rows hR
  obtain ⟨hsp, hspl⟩ := T.split (ℓ : Int)
  have htd := T.told (ℓ : Int)
  rw [← hRd] at hsp htd
  obtain ⟨fr, hre⟩ := h2 tx ℓ (by (first | lia | omega))
  -- the widths
  obtain ⟨wl, hwl⟩ : ∃ wl : List Int, wl = (rowsT fi fv R).flatMap fun r => if 1 < (wordsBy isWs r).length then [(colsOf r : Int)] else [] := ⟨_, rfl⟩
  have hcomp : ∀ (ρ : List Slot), mapO (compF Φ ρ 1 (.cmp .gt (.fn .len (.cons (.meth .split (.cvar 0) .nil) .nil)) (.const (.int 1))) (.ucall 3 (.cons (.cvar 0) .nil))) ((rowsT fi fv R).map .str) = some (wl.map .int) := by
    intro ρ
    rw [hwl, List.map_flatMap]
    refine mapO_map fun r hr => ?_
    obtain ⟨q1, q2⟩ := hrws r hr
    have hsp : methD .split (.str r) [] = some (.list ((wordsBy isWs r).map .str)) := if_pos (by (first | lia | omega))
    obtain ⟨fr, hc⟩ := h3 r (by (first | lia | omega))
    rw [parts_colsOf q2] at hc
    by_cases h1 : 1 < (wordsBy isWs r).length
    · rw [if_pos h1]
      have hgt : cmpD .gt (.int ((wordsBy isWs r).length : Int)) (.int 1) = some true := congrArg some (decide_eq_true (by (first | lia | omega)))
      exact comp_yes (κ := [.str r]) rfl (by (repeat' (first | exact ev_const | exact ev_val rfl | exact ev_own rfl | exact ev_cvar rfl | exact evs_nil | assumption | apply evs_cons | apply ev_bin | apply ev_cmp | apply ev_idx | apply ev_slice | apply ev_fn | apply ev_meth | apply ev_not | apply ev_neg | apply ev_bools | apply ev_resplit | exact fn_len_strs _ | exact fn_len_ints _ | exact fn_len_list _ | exact fn_len_str _ | exact add_int _ _ | exact sub_int _ _ | exact truth_bool _ | exact rfl))) (truth_bool _) (ev_scall (by (repeat' (first | exact ev_const | exact ev_val rfl | exact ev_own rfl | exact ev_cvar rfl | exact evs_nil | assumption | apply evs_cons | apply ev_bin | apply ev_cmp | apply ev_idx | apply ev_slice | apply ev_fn | apply ev_meth | apply ev_not | apply ev_neg | apply ev_bools | apply ev_resplit | exact fn_len_strs _ | exact fn_len_ints _ | exact fn_len_list _ | exact fn_len_str _ | exact add_int _ _ | exact sub_int _ _ | exact truth_bool _ | exact rfl))) hc rfl)
    · rw [if_neg h1]
      have hgt : cmpD .gt (.int ((wordsBy isWs r).length : Int)) (.int 1) = some false := congrArg some (decide_eq_false (by (first | lia | omega)))
      exact comp_no (κ := [.str r]) rfl (by (repeat' (first | exact ev_const | exact ev_val rfl | exact ev_own rfl | exact ev_cvar rfl | exact evs_nil | assumption | apply evs_cons | apply ev_bin | apply ev_cmp | apply ev_idx | apply ev_slice | apply ev_fn | apply ev_meth | apply ev_not | apply ev_neg | apply ev_bools | apply ev_resplit | exact fn_len_strs _ | exact fn_len_ints _ | exact fn_len_list _ | exact fn_len_str _ | exact add_int _ _ | exact sub_int _ _ | exact truth_bool _ | exact rfl))) (truth_bool _)
  have hwr := wids_rows T.ifi.white T.ifv.white fun a ha => (hrow a ha).1
  have hmw : maxL (0 :: wl) = (ℓ : Int) := by
    obtain ⟨m1, m2⟩ := maxL_spec (l := 0 :: wl) (by simp)
    have hin : ∀ v ∈ wl, ∃ u ∈ wids (colsOf fv) (colsOf fi) R, (u : Int) = v := fun v hv => by
      rw [hwl] at hv
      obtain ⟨r, hr, hv⟩ := List.mem_flatMap.mp hv
      split at hv
      · rename_i h1
        refine ⟨widT r, by rw [← hwr]; exact List.mem_map.mpr ⟨r, hr, rfl⟩, ?_⟩
        rw [List.mem_singleton.mp hv]
        unfold widT
        rw [if_pos h1]
      · cases hv
    have hle : ∀ v ∈ wids (colsOf fv) (colsOf fi) R, (v : Int) ≤ maxL (0 :: wl) := fun v hv => by
      rw [← hwr] at hv
      obtain ⟨r, hr, rfl⟩ := List.mem_map.mp hv
      unfold widT
      split
      · rename_i h1
        refine m2 _ (List.mem_cons_of_mem _ ?_)
        rw [hwl]
        exact List.mem_flatMap.mpr ⟨r, hr, by rw [if_pos h1]; simp⟩
      · exact m2 0 (by simp)
    have h0 := m2 0 (by simp)
    have hup : maxL (0 :: wl) ≤ (ℓ : Int) := by
      rcases List.mem_cons.mp m1 with h | h
      · (first | lia | omega)
      · obtain ⟨u, hu, e⟩ := hin _ h
        have := okRows_wids (by (first | lia | omega)) hok u hu
        (first | lia | omega)
    obtain ⟨m, hm⟩ : ∃ m : Nat, (m : Int) = maxL (0 :: wl) := ⟨(maxL (0 :: wl)).toNat, by (first | lia | omega)⟩
    rw [← hm] at hle hup ⊢
    have hokm := okRows_lower hup hok hle
    have hfm : fillR (m : Int) (colsOf fi) (colsOf fv) (toksQ P) = R := by rw [← hR]; exact fill_eq hokm
    have := (hiff m (by (first | lia | omega))).mpr (by rw [hfm]; exact hRl)
    (first | lia | omega)
  have hwll : wl.length ≤ 1000 := by
    have h1 : ∀ l : List (List Nat), (l.flatMap fun r => if 1 < (wordsBy isWs r).length then [(colsOf r : Int)] else []).length ≤ l.length := by
      intro l
      induction l with
      | nil => simp
      | cons r l ih =>
        simp only [List.flatMap_cons, List.length_append, List.length_cons]
        have h1 : (if 1 < (wordsBy isWs r).length then [(colsOf r : Int)] else []).length ≤ 1 := by split <;> simp
        (first | lia | omega)
    have := h1 (rowsT fi fv R)
    rw [rowsT_len, ← hwl] at this
    have := T.len
    (first | lia | omega)
  have hmaxw : fnD .max [.list ([.int 0] ++ wl.map .int)] = some (.int ℓ) := by
    have := fn_maxl (xs := 0 :: wl) (by simp)
    rw [hmw] at this
    exact this
  have haddw : binD .add (.list [.int 0]) (.list (wl.map .int)) = some (.list ([.int 0] ++ wl.map .int)) := add_list (by simp; (first | lia | omega))
  have hsplw : methD .split (.str (reform tx ℓ)) [] = some (.list (wordsT (toksQ P))) := by
    have h1 : wordsBy isWs (reform tx ℓ) = (toksQ P).map (·.1) := by
      rw [htd, words_join10 T.ifi.white T.ifv.white fun a ha => (hrow a ha).1, hR]
    unfold wordsT
    rw [← h1]
    exact if_pos hspl
  have hc1 : cmpD .ne (.list (wordsT (toksQ P))) (.list (wordsT (toksQ P))) = some false := by
    have := eq_strs (W := (toksQ P).map (·.1)) (by simpa using hTne)
    unfold cmpD wordsT
    simp only
    rw [this]
    rfl
  have hrl : fnD .len [.list ((rowsT fi fv R).map .str)] = some (.int R.length) := by rw [fn_len_strs, rowsT_len]
  have hc2 : cmpD .gt (.int (R.length : Int)) (.int ((L : Int) + 1)) = some false := congrArg some (decide_eq_false (by (first | lia | omega)))
  have hc3 : cmpD .ne (.int (ℓ : Int)) (.int (ℓ : Int)) = some false := by simp [cmpD, eqS]
  have hlast : idxD (.list (natD (bestL fi fv (toksQ P) (L + 1) P.length))) (.int (-1)) = some (.int ℓ) := idx_lastD (by rw [hℓ]; simp [natD, bestL, List.range_succ])
  obtain ⟨d, hbl⟩ := best_loop (Φ := Φ) (sc := sc) (n1 := n1) (fi := fi) (fv := fv) (P := P) (tx := tx) (s9 := s9) (s10 := s10) T.len h12 (s13 := .val (.int ((L : Int) + 1))) (s15 := s15) (s16 := s16) (s17 := s17) (s18 := s18) (s19 := s19)
  have hwlen : fnD .len [.list (wordsT (toksQ P))] = some (.int P.length) := by unfold wordsT; rw [fn_len_strs, List.length_map, hTl]
  have hrg : fnD .range [.int (P.length : Int)] = some (.range 0 P.length 1) := range_small (by have := T.len; (first | lia | omega))
  refine ⟨.val (.list (natD (bestL fi fv (toksQ P) (L + 1) P.length))), d, .val (.int ℓ), .val (.str (reform tx ℓ)), .own ((rowsT fi fv R).map .str), .own (wl.map .int), ?_⟩
  refine run_seq (ρ₁ := S8 sc n1 fi fv P tx s9 s10 s12 (.val (.int ((L : Int) + 1))) (.own [.int 0]) s15 s16 s17 s18 s19) (run_assign rfl (ev_list rfl (by (repeat' (first | exact ev_const | exact ev_val rfl | exact ev_own rfl | exact ev_cvar rfl | exact evs_nil | assumption | apply evs_cons | apply ev_bin | apply ev_cmp | apply ev_idx | apply ev_slice | apply ev_fn | apply ev_meth | apply ev_not | apply ev_neg | apply ev_bools | apply ev_resplit | exact fn_len_strs _ | exact fn_len_ints _ | exact fn_len_list _ | exact fn_len_str _ | exact add_int _ _ | exact sub_int _ _ | exact truth_bool _ | exact rfl))) (by decide)) rfl rfl) ?_
  refine run_seq (run_for rfl (by (repeat' (first | exact ev_const | exact ev_val rfl | exact ev_own rfl | exact ev_cvar rfl | exact evs_nil | assumption | apply evs_cons | apply ev_bin | apply ev_cmp | apply ev_idx | apply ev_slice | apply ev_fn | apply ev_meth | apply ev_not | apply ev_neg | apply ev_bools | apply ev_resplit | exact fn_len_strs _ | exact fn_len_ints _ | exact fn_len_list _ | exact fn_len_str _ | exact add_int _ _ | exact sub_int _ _ | exact truth_bool _ | exact rfl))) (items_range _ _) hbl) ?_
  generalize natD (bestL fi fv (toksQ P) (L + 1) P.length) = BB at *
  refine run_seq (ρ₁ := S8 sc n1 fi fv P tx s9 s10 (.val (.list BB)) (.val (.int ((L : Int) + 1))) (.val (.list BB)) d s16 s17 s18 s19) (run_assign rfl (ev_val rfl) rfl rfl) ?_
  refine run_seq (ρ₁ := S8 sc n1 fi fv P tx s9 s10 (.val (.list BB)) (.val (.int ((L : Int) + 1))) (.val (.list BB)) d (.val (.int ℓ)) s17 s18 s19) (run_assign rfl (ev_idx (ev_val rfl) (ev_neg ev_const) hlast) rfl rfl) ?_
  refine run_seq (ρ₁ := S8 sc n1 fi fv P tx s9 s10 (.val (.list BB)) (.val (.int ((L : Int) + 1))) (.val (.list BB)) d (.val (.int ℓ)) (.val (.str (reform tx ℓ))) s18 s19) (run_assign rfl (ev_scall (by (repeat' (first | exact ev_const | exact ev_val rfl | exact ev_own rfl | exact ev_cvar rfl | exact evs_nil | assumption | apply evs_cons | apply ev_bin | apply ev_cmp | apply ev_idx | apply ev_slice | apply ev_fn | apply ev_meth | apply ev_not | apply ev_neg | apply ev_bools | apply ev_resplit | exact fn_len_strs _ | exact fn_len_ints _ | exact fn_len_list _ | exact fn_len_str _ | exact add_int _ _ | exact sub_int _ _ | exact truth_bool _ | exact rfl))) hre rfl) rfl rfl) ?_
  refine run_seq (ρ₁ := S8 sc n1 fi fv P tx s9 s10 (.val (.list BB)) (.val (.int ((L : Int) + 1))) (.val (.list BB)) d (.val (.int ℓ)) (.val (.str (reform tx ℓ))) (.own ((rowsT fi fv R).map .str)) s19) (run_assign rfl (by (repeat' (first | exact ev_const | exact ev_val rfl | exact ev_own rfl | exact ev_cvar rfl | exact evs_nil | assumption | apply evs_cons | apply ev_bin | apply ev_cmp | apply ev_idx | apply ev_slice | apply ev_fn | apply ev_meth | apply ev_not | apply ev_neg | apply ev_bools | apply ev_resplit | exact fn_len_strs _ | exact fn_len_ints _ | exact fn_len_list _ | exact fn_len_str _ | exact add_int _ _ | exact sub_int _ _ | exact truth_bool _ | exact rfl))) rfl rfl) ?_
  refine run_seq (ρ₁ := S8 sc n1 fi fv P tx s9 s10 (.val (.list BB)) (.val (.int ((L : Int) + 1))) (.val (.list BB)) d (.val (.int ℓ)) (.val (.str (reform tx ℓ))) (.own ((rowsT fi fv R).map .str)) (.own (wl.map .int))) (run_assign rfl (ev_comp rfl (ev_own rfl) rfl (hcomp _) (by rw [List.length_map, rowsT_len]; have := T.len; (first | lia | omega))) rfl rfl) ?_
  refine run_seq (run_ite_f (ev_bools (evB_go (ev_cmp (by (repeat' (first | exact ev_const | exact ev_val rfl | exact ev_own rfl | exact ev_cvar rfl | exact evs_nil | assumption | apply evs_cons | apply ev_bin | apply ev_cmp | apply ev_idx | apply ev_slice | apply ev_fn | apply ev_meth | apply ev_not | apply ev_neg | apply ev_bools | apply ev_resplit | exact fn_len_strs _ | exact fn_len_ints _ | exact fn_len_list _ | exact fn_len_str _ | exact add_int _ _ | exact sub_int _ _ | exact truth_bool _ | exact rfl))) (by (repeat' (first | exact ev_const | exact ev_val rfl | exact ev_own rfl | exact ev_cvar rfl | exact evs_nil | assumption | apply evs_cons | apply ev_bin | apply ev_cmp | apply ev_idx | apply ev_slice | apply ev_fn | apply ev_meth | apply ev_not | apply ev_neg | apply ev_bools | apply ev_resplit | exact fn_len_strs _ | exact fn_len_ints _ | exact fn_len_list _ | exact fn_len_str _ | exact add_int _ _ | exact sub_int _ _ | exact truth_bool _ | exact rfl))) hc1) (truth_bool _) rfl (evB_go (ev_cmp (by (repeat' (first | exact ev_const | exact ev_val rfl | exact ev_own rfl | exact ev_cvar rfl | exact evs_nil | assumption | apply evs_cons | apply ev_bin | apply ev_cmp | apply ev_idx | apply ev_slice | apply ev_fn | apply ev_meth | apply ev_not | apply ev_neg | apply ev_bools | apply ev_resplit | exact fn_len_strs _ | exact fn_len_ints _ | exact fn_len_list _ | exact fn_len_str _ | exact add_int _ _ | exact sub_int _ _ | exact truth_bool _ | exact rfl))) (by (repeat' (first | exact ev_const | exact ev_val rfl | exact ev_own rfl | exact ev_cvar rfl | exact evs_nil | assumption | apply evs_cons | apply ev_bin | apply ev_cmp | apply ev_idx | apply ev_slice | apply ev_fn | apply ev_meth | apply ev_not | apply ev_neg | apply ev_bools | apply ev_resplit | exact fn_len_strs _ | exact fn_len_ints _ | exact fn_len_list _ | exact fn_len_str _ | exact add_int _ _ | exact sub_int _ _ | exact truth_bool _ | exact rfl))) hc2) (truth_bool _) rfl (evB_one (ev_cmp (ev_fn (evs_cons (ev_bin (ev_list rfl (by (repeat' (first | exact ev_const | exact ev_val rfl | exact ev_own rfl | exact ev_cvar rfl | exact evs_nil | assumption | apply evs_cons | apply ev_bin | apply ev_cmp | apply ev_idx | apply ev_slice | apply ev_fn | apply ev_meth | apply ev_not | apply ev_neg | apply ev_bools | apply ev_resplit | exact fn_len_strs _ | exact fn_len_ints _ | exact fn_len_list _ | exact fn_len_str _ | exact add_int _ _ | exact sub_int _ _ | exact truth_bool _ | exact rfl))) (by decide)) (ev_own rfl) haddw) evs_nil) hmaxw) (ev_val rfl) hc3))))) (truth_bool _) run_skip) ?_
  refine run_seq ?_ run_skip
  by_cases h0 : 0 < ℓ
  · have hg : cmpD .gt (.int (ℓ : Int)) (.int 0) = some true := congrArg some (decide_eq_true (by (first | lia | omega)))
    obtain ⟨fr', hre'⟩ := h2 tx ((ℓ : Int) - 1) (by (first | lia | omega))
    obtain ⟨hsp', _⟩ := T.split ((ℓ : Int) - 1)
    have hlen' : fnD .len [.list ((rowsT fi fv (fillR ((ℓ : Int) - 1) (colsOf fi) (colsOf fv) (toksQ P))).map .str)] = some (.int (fillR ((ℓ : Int) - 1) (colsOf fi) (colsOf fv) (toksQ P)).length) := by rw [fn_len_strs, rowsT_len]
    have hc : cmpD .le (.int ((fillR ((ℓ : Int) - 1) (colsOf fi) (colsOf fv) (toksQ P)).length : Int)) (.int ((L : Int) + 1)) = some false := by
      refine congrArg some (decide_eq_false ?_)
      have h1 := hiff (ℓ - 1) (by (first | lia | omega))
      rw [show ((ℓ - 1 : Nat) : Int) = (ℓ : Int) - 1 from by (first | lia | omega)] at h1
      intro h
      have := h1.mpr (by (first | lia | omega))
      (first | lia | omega)
    exact run_ite_f (ev_bools (evB_go (by (repeat' (first | exact ev_const | exact ev_val rfl | exact ev_own rfl | exact ev_cvar rfl | exact evs_nil | assumption | apply evs_cons | apply ev_bin | apply ev_cmp | apply ev_idx | apply ev_slice | apply ev_fn | apply ev_meth | apply ev_not | apply ev_neg | apply ev_bools | apply ev_resplit | exact fn_len_strs _ | exact fn_len_ints _ | exact fn_len_list _ | exact fn_len_str _ | exact add_int _ _ | exact sub_int _ _ | exact truth_bool _ | exact rfl))) (truth_bool _) rfl (evB_one (ev_cmp (ev_fn (evs_cons (ev_meth (ev_scall (by (repeat' (first | exact ev_const | exact ev_val rfl | exact ev_own rfl | exact ev_cvar rfl | exact evs_nil | assumption | apply evs_cons | apply ev_bin | apply ev_cmp | apply ev_idx | apply ev_slice | apply ev_fn | apply ev_meth | apply ev_not | apply ev_neg | apply ev_bools | apply ev_resplit | exact fn_len_strs _ | exact fn_len_ints _ | exact fn_len_list _ | exact fn_len_str _ | exact add_int _ _ | exact sub_int _ _ | exact truth_bool _ | exact rfl))) hre' rfl) (by (repeat' (first | exact ev_const | exact ev_val rfl | exact ev_own rfl | exact ev_cvar rfl | exact evs_nil | assumption | apply evs_cons | apply ev_bin | apply ev_cmp | apply ev_idx | apply ev_slice | apply ev_fn | apply ev_meth | apply ev_not | apply ev_neg | apply ev_bools | apply ev_resplit | exact fn_len_strs _ | exact fn_len_ints _ | exact fn_len_list _ | exact fn_len_str _ | exact add_int _ _ | exact sub_int _ _ | exact truth_bool _ | exact rfl))) hsp') evs_nil) hlen') (ev_val rfl) hc)))) (truth_bool _) run_skip
  · have hg : cmpD .gt (.int (ℓ : Int)) (.int 0) = some false := congrArg some (decide_eq_false (by (first | lia | omega)))
    exact run_ite_f (ev_bools (evB_stop (by (repeat' (first | exact ev_const | exact ev_val rfl | exact ev_own rfl | exact ev_cvar rfl | exact evs_nil | assumption | apply evs_cons | apply ev_bin | apply ev_cmp | apply ev_idx | apply ev_slice | apply ev_fn | apply ev_meth | apply ev_not | apply ev_neg | apply ev_bools | apply ev_resplit | exact fn_len_strs _ | exact fn_len_ints _ | exact fn_len_list _ | exact fn_len_str _ | exact add_int _ _ | exact sub_int _ _ | exact truth_bool _ | exact rfl))) (truth_bool _) rfl)) (truth_bool _) run_skip
end
set_option maxHeartbeats 2000000 in
theorem law_run8 {Φ : Funs} (h2 : ∀ (s : List Nat) (lim : Int), s.length ≤ 1500 → ∃ fr, Φ 2 [.str s, .int lim] = some (.str (reform s lim), fr)) (h3 : ∀ s : List Nat, s.length ≤ 100000 → ∃ fr, Φ 3 [.str s] = some (.int (partsCol 0 (splitOn 9 s)), fr))
    (h4 : ∀ (ts : List Tok') (fi fu : List Nat), Indent fi → Indent fu → fi.length ≤ 6 → fu.length ≤ 6 → ts.length ≤ 1000 → Φ 4 [.list (wordsT ts), .list (gapsT ts), .str fi, .str fu] = some (.list (costsTo ts fi fu ts.length), true)) (xs : List Int) :
    ∃ fr, runF Φ f_law [.list (xs.map .int)] = some (.bool true, fr) := by
  have hL : LIM = 16777216 := rfl
  obtain ⟨ns, hns⟩ : ∃ ns : List Int, ns = if xs = [] then [10, 3, 16, 22] else xs.take 8 := ⟨_, rfl⟩
  have hnl : 0 < ns.length ∧ ns.length ≤ 8 := by
    rw [hns]
    split
    · simp
    · rename_i h
      have := List.length_pos_iff.mpr h
      simp
      (first | lia | omega)
  obtain ⟨x0, hx0⟩ : ∃ x, ns[0]? = some x := ⟨ns[0], List.getElem?_eq_getElem hnl.1⟩
  obtain ⟨xl, hxl⟩ : ∃ x, ns.getLast? = some x := by
    cases h : ns.getLast? with
    | none => rw [List.getLast?_eq_none_iff] at h; rw [h] at hnl; simp at hnl
    | some x => exact ⟨x, rfl⟩
  obtain ⟨fi, hfi⟩ : ∃ fi, fi = tbl inds5 x0 := ⟨_, rfl⟩
  obtain ⟨fu, hfu⟩ : ∃ fu, fu = tbl inds5 xl := ⟨_, rfl⟩
  have ifi : Indent fi := by rw [hfi]; exact inds5_indent _
  have lfi : fi.length ≤ 6 := by rw [hfi]; exact inds5_len _
  have ifu : Indent fu := by rw [hfu]; exact inds5_indent _
  have lfu : fu.length ≤ 6 := by rw [hfu]; exact inds5_len _
  obtain ⟨P, hP⟩ : ∃ P, P = pairsN pair8 0 ns := ⟨_, rfl⟩
  have hPl : P.length = ns.length := by rw [hP, pairsN_len]
  have hPm : ∀ p ∈ P, P8 p := fun p hp => by rw [hP] at hp; exact pairsN_mem (Q := P8) pair8_ok hp
  have hPne : P ≠ [] := by intro h; rw [h] at hPl; simp at hPl; (first | lia | omega)
  obtain ⟨s9, s10, htl⟩ := text8 (Φ := Φ) (sc := .list (xs.map .int)) (n1 := .val (.list (ns.map .int))) (fi := fi) (fu := fu) (rest := [.unset, .unset, .unset, .unset, .unset, .unset, .unset, .unset, .unset]) ifu lfu lfi ns hnl.2
  rw [← hP] at htl
  obtain ⟨tx, htx⟩ : ∃ tx, tx = rstrip (fi ++ lay (sepsP fu P)) := ⟨_, rfl⟩
  obtain ⟨fv, hfv⟩ : ∃ fv, fv = if 10 ∈ tx then fu else fi := ⟨_, rfl⟩
  have T : Txt8 fi fu fv tx P := ⟨ifi, ifu, by rw [hfv]; split; exact ifu; exact ifi, lfi, lfu, by rw [hfv]; split; exact lfu; exact lfi, hPm, hPne, by (first | lia | omega), htx, hfv⟩
  have hTl : (toksQ P).length = P.length := by simp [toksQ]
  have hTne : toksQ P ≠ [] := by simpa [toksQ] using hPne
  obtain ⟨ρd, hdl, s12, s13, s14, s15, s16, s17, s18, s19, _, rfl⟩ := for_range (x := 13) (body := ex Φ l_law_2) (a := 1) (b := P.length + 1) (by (first | lia | omega))
    (fun k ρ => ∃ s12 s13 s14 s15 s16 s17 s18 s19 : Slot, (s12 = .val (.list (natD (bestL fi fv (toksQ P) (k - 1) P.length))) ∨ s12 = .own (natD (bestL fi fv (toksQ P) (k - 1) P.length))) ∧ ρ = S8 (.list (xs.map .int)) (.val (.list (ns.map .int))) fi fv P tx s9 s10 s12 s13 s14 s15 s16 s17 s18 s19)
    (ρ := S8 (.list (xs.map .int)) (.val (.list (ns.map .int))) fi fv P tx s9 s10 (.own (natD (bestL fi fv (toksQ P) 0 P.length))) .unset .unset .unset .unset .unset .unset .unset) ⟨_, .unset, .unset, .unset, .unset, .unset, .unset, .unset, .inr rfl, rfl⟩ (by
      rintro k ρ hk1 hk ⟨s12, s13, s14, s15, s16, s17, s18, s19, hs, rfl⟩
      obtain ⟨a1, a2, a3, a4, a5, a6, hb⟩ := step8 (Φ := Φ) (sc := .list (xs.map .int)) (n1 := .val (.list (ns.map .int))) (s9 := s9) (s10 := s10) h2 h3 T (L := k - 1) (by (first | lia | omega)) hs (s14 := s14) (s15 := s15) (s16 := s16) (s17 := s17) (s18 := s18) (s19 := s19)
      rw [show ((k - 1 : Nat) : Int) + 1 = (k : Int) from by (first | lia | omega), show k - 1 + 1 = k + 1 - 1 from by (first | lia | omega)] at hb
      exact ⟨_, _, put1_of rfl rfl, .inl hb, _, _, _, _, _, _, _, _, .inl rfl, rfl⟩)
  have f0 : idxD (.list (ns.map .int)) (.int 0) = some (.int x0) := list_idx hx0
  have f1 := list_last hxl
  have m5 := mod_int (a := x0) (b := 5) (by decide)
  have m5' := mod_int (a := xl) (b := 5) (by decide)
  have i0 : idxD (.list (inds5.map .str)) (.int (x0 % 5)) = some (.str fi) := by rw [hfi]; exact tbl_idx (l := inds5) (n := 5) rfl (by decide) x0
  have i1 : idxD (.list (inds5.map .str)) (.int (xl % 5)) = some (.str fu) := by rw [hfu]; exact tbl_idx (l := inds5) (n := 5) rfl (by decide) xl
  have hcut : sliceD (.list (xs.map D.int)) .none (.int 8) = some (.list ((xs.take 8).map .int)) := by rw [List.map_take, ← cut_to]; rfl
  have hin : inD (.str [10]) (.str tx) = some (decide (10 ∈ tx)) := by simp only [inD, infix_one]
  have hwlen : fnD .len [.list (wordsT (toksQ P))] = some (.int P.length) := by unfold wordsT; rw [fn_len_strs, List.length_map, hTl]
  have hrg : fnD .range [.int 1, .int ((P.length : Int) + 1)] = some (.range 1 ((P.length + 1 : Nat) : Int) 1) := fn_range2 (small_int (by (first | lia | omega)) (by (first | lia | omega))) (small_int (by (first | lia | omega)) (by (first | lia | omega)))
  have hc4 := h4 (toksQ P) fi fv ifi T.ifv lfi T.lfv (by (first | lia | omega))
  have hflat : flat [.list (wordsT (toksQ P)), .list (gapsT (toksQ P)), .str fi, .str fv] (.list (costsTo (toksQ P) fi fv (toksQ P).length)) = true := by
    show (costsTo (toksQ P) fi fv (toksQ P).length).all _ = true
    rw [List.all_eq_true]
    intro d hd
    obtain ⟨a, ha, rfl⟩ := List.mem_map.mp hd
    have ha := List.mem_range.mp ha
    have hsc : (natD (costRow (toksQ P) fi fv a (toksQ P).length)).all scalar = true := by
      rw [List.all_eq_true]
      intro d hd
      obtain ⟨n, _, rfl⟩ := List.mem_map.mp hd
      rfl
    have hhd : (natD (costRow (toksQ P) fi fv a (toksQ P).length)).head? = some (.int 0) := by
      obtain ⟨m, hm⟩ : ∃ m, (toksQ P).length - a = m + 1 := ⟨(toksQ P).length - a - 1, by (first | lia | omega)⟩
      unfold natD costRow
      rw [hm, List.range_succ_eq_map]
      simp [costN]
    obtain ⟨t, r, htr⟩ : ∃ t r, toksQ P = t :: r := List.exists_cons_of_ne_nil hTne
    have hd1 : diffL (wordsT (toksQ P)) (natD (costRow (toksQ P) fi fv a (toksQ P).length)) = true := by
      unfold diffL
      rw [hhd, htr]
      rfl
    have hd2 : diffL (gapsT (toksQ P)) (natD (costRow (toksQ P) fi fv a (toksQ P).length)) = true := by
      unfold diffL
      rw [hhd]
      have hg := T.toks.1.gap t (by rw [htr]; simp)
      have : (gapsT (toksQ P)).head? = some (.int (t.2 : Nat)) := by rw [htr]; rfl
      rw [this]
      simp
      (first | lia | omega)
    show ((natD (costRow (toksQ P) fi fv a (toksQ P).length)).all scalar && [D.list (wordsT (toksQ P)), .list (gapsT (toksQ P)), .str fi, .str fv].all (isL (natD (costRow (toksQ P) fi fv a (toksQ P).length)))) = true
    rw [hsc]
    simp [isL, hd1, hd2]
  have hmul : binD .mul (.list [.int 1000000]) (.int (P.length : Int)) = some (.list (natD (List.replicate P.length 1000000))) := by
    rw [mul_list ⟨by (first | lia | omega), by (first | lia | omega), by simp; (first | lia | omega)⟩, Int.toNat_natCast]
    congr 2
    simp [natD]
  have hbest0 : natD (bestL fi fv (toksQ P) 0 P.length) = [.int 0] ++ natD (List.replicate P.length 1000000) := by
    unfold bestL natD
    rw [List.range_succ_eq_map, List.map_cons, List.map_map]
    have : (List.range P.length).map (bst (colsOf fi) (colsOf fv) (szT (toksQ P)) (gpT (toksQ P)) 0 ∘ Nat.succ) = List.replicate P.length 1000000 := by
      rw [List.eq_replicate_iff]
      refine ⟨by simp, fun b hb => ?_⟩
      obtain ⟨k, _, rfl⟩ := List.mem_map.mp hb
      rfl
    rw [this]
    rfl
  have hadd : binD .add (.list [.int 0]) (.list (natD (List.replicate P.length 1000000))) = some (.list (natD (bestL fi fv (toksQ P) 0 P.length))) := by
    rw [hbest0]
    exact add_list (by simp [natD]; (first | lia | omega))
  refine ⟨false, run_fun rfl (ρ := S8 (.list (xs.map .int)) (.val (.list (ns.map .int))) fi fv P tx s9 s10 s12 s13 s14 s15 s16 s17 s18 s19) ?_⟩
  refine run_seq (ρ₁ := [.val (.list (xs.map .int)), .own (ns.map .int), .unset, .unset, .unset, .unset, .unset, .unset, .unset, .unset, .unset, .unset, .unset, .unset, .unset, .unset, .unset, .unset, .unset, .unset]) ?_ ?_
  · rw [hns]
    cases hx : xs with
    | nil => exact run_assign rfl (ev_ite_f (ev_cmp (ev_val rfl) (ev_list rfl evs_nil (by decide)) rfl) (truth_bool _) (ev_list rfl (by (repeat' (first | exact ev_const | exact ev_val rfl | exact ev_own rfl | exact ev_cvar rfl | exact evs_nil | assumption | apply evs_cons | apply ev_bin | apply ev_cmp | apply ev_idx | apply ev_slice | apply ev_fn | apply ev_meth | apply ev_not | apply ev_neg | apply ev_bools | apply ev_resplit | exact fn_len_strs _ | exact fn_len_ints _ | exact fn_len_list _ | exact fn_len_str _ | exact add_int _ _ | exact sub_int _ _ | exact truth_bool _ | exact rfl))) (by decide))) rfl rfl
    | cons y r =>
      rw [hx] at hcut
      exact run_assign rfl (ev_ite_t (ev_cmp (ev_val rfl) (ev_list rfl evs_nil (by decide)) rfl) (truth_bool _) (by (repeat' (first | exact ev_const | exact ev_val rfl | exact ev_own rfl | exact ev_cvar rfl | exact evs_nil | assumption | apply evs_cons | apply ev_bin | apply ev_cmp | apply ev_idx | apply ev_slice | apply ev_fn | apply ev_meth | apply ev_not | apply ev_neg | apply ev_bools | apply ev_resplit | exact fn_len_strs _ | exact fn_len_ints _ | exact fn_len_list _ | exact fn_len_str _ | exact add_int _ _ | exact sub_int _ _ | exact truth_bool _ | exact rfl)))) rfl rfl
  refine run_seq (ρ₁ := [.val (.list (xs.map .int)), .own (ns.map .int), .own (inds5.map .str), .unset, .unset, .unset, .unset, .unset, .unset, .unset, .unset, .unset, .unset, .unset, .unset, .unset, .unset, .unset, .unset, .unset]) (run_assign rfl (ev_list rfl (by (repeat' (first | exact ev_const | exact ev_val rfl | exact ev_own rfl | exact ev_cvar rfl | exact evs_nil | assumption | apply evs_cons | apply ev_bin | apply ev_cmp | apply ev_idx | apply ev_slice | apply ev_fn | apply ev_meth | apply ev_not | apply ev_neg | apply ev_bools | apply ev_resplit | exact fn_len_strs _ | exact fn_len_ints _ | exact fn_len_list _ | exact fn_len_str _ | exact add_int _ _ | exact sub_int _ _ | exact truth_bool _ | exact rfl))) (by decide)) rfl rfl) ?_
  refine run_seq (ρ₁ := [.val (.list (xs.map .int)), .own (ns.map .int), .own (inds5.map .str), .own (whites8.map .str), .unset, .unset, .unset, .unset, .unset, .unset, .unset, .unset, .unset, .unset, .unset, .unset, .unset, .unset, .unset, .unset]) (run_assign rfl (ev_list rfl (by (repeat' (first | exact ev_const | exact ev_val rfl | exact ev_own rfl | exact ev_cvar rfl | exact evs_nil | assumption | apply evs_cons | apply ev_bin | apply ev_cmp | apply ev_idx | apply ev_slice | apply ev_fn | apply ev_meth | apply ev_not | apply ev_neg | apply ev_bools | apply ev_resplit | exact fn_len_strs _ | exact fn_len_ints _ | exact fn_len_list _ | exact fn_len_str _ | exact add_int _ _ | exact sub_int _ _ | exact truth_bool _ | exact rfl))) (by decide)) rfl rfl) ?_
  refine run_seq (ρ₁ := [.val (.list (xs.map .int)), .own (ns.map .int), .own (inds5.map .str), .own (whites8.map .str), .val (.str fi), .unset, .unset, .unset, .unset, .unset, .unset, .unset, .unset, .unset, .unset, .unset, .unset, .unset, .unset, .unset]) (run_assign rfl (by (repeat' (first | exact ev_const | exact ev_val rfl | exact ev_own rfl | exact ev_cvar rfl | exact evs_nil | assumption | apply evs_cons | apply ev_bin | apply ev_cmp | apply ev_idx | apply ev_slice | apply ev_fn | apply ev_meth | apply ev_not | apply ev_neg | apply ev_bools | apply ev_resplit | exact fn_len_strs _ | exact fn_len_ints _ | exact fn_len_list _ | exact fn_len_str _ | exact add_int _ _ | exact sub_int _ _ | exact truth_bool _ | exact rfl))) rfl rfl) ?_
  refine run_seq (ρ₁ := [.val (.list (xs.map .int)), .own (ns.map .int), .own (inds5.map .str), .own (whites8.map .str), .val (.str fi), .val (.str fu), .unset, .unset, .unset, .unset, .unset, .unset, .unset, .unset, .unset, .unset, .unset, .unset, .unset, .unset]) (run_assign rfl (by (repeat' (first | exact ev_const | exact ev_val rfl | exact ev_own rfl | exact ev_cvar rfl | exact evs_nil | assumption | apply evs_cons | apply ev_bin | apply ev_cmp | apply ev_idx | apply ev_slice | apply ev_fn | apply ev_meth | apply ev_not | apply ev_neg | apply ev_bools | apply ev_resplit | exact fn_len_strs _ | exact fn_len_ints _ | exact fn_len_list _ | exact fn_len_str _ | exact add_int _ _ | exact sub_int _ _ | exact truth_bool _ | exact rfl))) rfl rfl) ?_
  refine run_seq (ρ₁ := [.val (.list (xs.map .int)), .own (ns.map .int), .own (inds5.map .str), .own (whites8.map .str), .val (.str fi), .val (.str fu), .own [], .unset, .unset, .unset, .unset, .unset, .unset, .unset, .unset, .unset, .unset, .unset, .unset, .unset]) (run_assign rfl (ev_list rfl evs_nil (by decide)) rfl rfl) ?_
  refine run_seq (ρ₁ := [.val (.list (xs.map .int)), .own (ns.map .int), .own (inds5.map .str), .own (whites8.map .str), .val (.str fi), .val (.str fu), .own [], .own [], .unset, .unset, .unset, .unset, .unset, .unset, .unset, .unset, .unset, .unset, .unset, .unset]) (run_assign rfl (ev_list rfl evs_nil (by decide)) rfl rfl) ?_
  refine run_seq (ρ₁ := [.val (.list (xs.map .int)), .own (ns.map .int), .own (inds5.map .str), .own (whites8.map .str), .val (.str fi), .val (.str fu), .own [], .own [], .val (.str fi), .unset, .unset, .unset, .unset, .unset, .unset, .unset, .unset, .unset, .unset, .unset]) (run_assign rfl (by (repeat' (first | exact ev_const | exact ev_val rfl | exact ev_own rfl | exact ev_cvar rfl | exact evs_nil | assumption | apply evs_cons | apply ev_bin | apply ev_cmp | apply ev_idx | apply ev_slice | apply ev_fn | apply ev_meth | apply ev_not | apply ev_neg | apply ev_bools | apply ev_resplit | exact fn_len_strs _ | exact fn_len_ints _ | exact fn_len_list _ | exact fn_len_str _ | exact add_int _ _ | exact sub_int _ _ | exact truth_bool _ | exact rfl))) rfl rfl) ?_
  refine run_seq (ρ₁ := R8 (.list (xs.map .int)) (.val (.list (ns.map .int))) fi fu P (fi ++ lay (sepsP fu P)) s9 s10 [.unset, .unset, .unset, .unset, .unset, .unset, .unset, .unset, .unset]) (run_for rfl (ev_val rfl) rfl htl) ?_
  refine run_seq (ρ₁ := R8 (.list (xs.map .int)) (.val (.list (ns.map .int))) fi fu P tx s9 s10 [.unset, .unset, .unset, .unset, .unset, .unset, .unset, .unset, .unset]) (run_assign rfl (ev_meth (ev_val rfl) evs_nil rfl) rfl (by rw [htx]; rfl)) ?_
  refine run_seq (ρ₁ := R8 (.list (xs.map .int)) (.val (.list (ns.map .int))) fi fv P tx s9 s10 [.unset, .unset, .unset, .unset, .unset, .unset, .unset, .unset, .unset]) ?_ ?_
  · rw [hfv]
    by_cases h10 : 10 ∈ tx
    · rw [if_pos h10]
      exact run_ite_f (ev_cmp (t := false) ev_const (ev_val rfl) (by simp only [cmpD, hin, h10]; rfl)) (truth_bool _) run_skip
    · rw [if_neg h10]
      exact run_ite_t (ev_cmp (t := true) ev_const (ev_val rfl) (by simp only [cmpD, hin, h10]; rfl)) (truth_bool _) (run_seq (run_assign rfl (ev_val rfl) rfl rfl) run_skip)
  refine run_seq (ρ₁ := S8 (.list (xs.map .int)) (.val (.list (ns.map .int))) fi fv P tx s9 s10 .unset .unset .unset .unset .unset .unset .unset .unset) (run_assign rfl (ev_ucall (by (repeat' (first | exact ev_const | exact ev_val rfl | exact ev_own rfl | exact ev_cvar rfl | exact evs_nil | assumption | apply evs_cons | apply ev_bin | apply ev_cmp | apply ev_idx | apply ev_slice | apply ev_fn | apply ev_meth | apply ev_not | apply ev_neg | apply ev_bools | apply ev_resplit | exact fn_len_strs _ | exact fn_len_ints _ | exact fn_len_list _ | exact fn_len_str _ | exact add_int _ _ | exact sub_int _ _ | exact truth_bool _ | exact rfl))) hc4 (by rw [hflat]; simp)) rfl rfl) ?_
  refine run_seq (ρ₁ := S8 (.list (xs.map .int)) (.val (.list (ns.map .int))) fi fv P tx s9 s10 (.own (natD (bestL fi fv (toksQ P) 0 P.length))) .unset .unset .unset .unset .unset .unset .unset) (run_assign rfl (ev_bin (ev_list rfl (by (repeat' (first | exact ev_const | exact ev_val rfl | exact ev_own rfl | exact ev_cvar rfl | exact evs_nil | assumption | apply evs_cons | apply ev_bin | apply ev_cmp | apply ev_idx | apply ev_slice | apply ev_fn | apply ev_meth | apply ev_not | apply ev_neg | apply ev_bools | apply ev_resplit | exact fn_len_strs _ | exact fn_len_ints _ | exact fn_len_list _ | exact fn_len_str _ | exact add_int _ _ | exact sub_int _ _ | exact truth_bool _ | exact rfl))) (by decide)) (ev_bin (ev_list rfl (by (repeat' (first | exact ev_const | exact ev_val rfl | exact ev_own rfl | exact ev_cvar rfl | exact evs_nil | assumption | apply evs_cons | apply ev_bin | apply ev_cmp | apply ev_idx | apply ev_slice | apply ev_fn | apply ev_meth | apply ev_not | apply ev_neg | apply ev_bools | apply ev_resplit | exact fn_len_strs _ | exact fn_len_ints _ | exact fn_len_list _ | exact fn_len_str _ | exact add_int _ _ | exact sub_int _ _ | exact truth_bool _ | exact rfl))) (by decide)) (by (repeat' (first | exact ev_const | exact ev_val rfl | exact ev_own rfl | exact ev_cvar rfl | exact evs_nil | assumption | apply evs_cons | apply ev_bin | apply ev_cmp | apply ev_idx | apply ev_slice | apply ev_fn | apply ev_meth | apply ev_not | apply ev_neg | apply ev_bools | apply ev_resplit | exact fn_len_strs _ | exact fn_len_ints _ | exact fn_len_list _ | exact fn_len_str _ | exact add_int _ _ | exact sub_int _ _ | exact truth_bool _ | exact rfl))) hmul) hadd) rfl rfl) ?_
  refine run_seq (run_for rfl (by (repeat' (first | exact ev_const | exact ev_val rfl | exact ev_own rfl | exact ev_cvar rfl | exact evs_nil | assumption | apply evs_cons | apply ev_bin | apply ev_cmp | apply ev_idx | apply ev_slice | apply ev_fn | apply ev_meth | apply ev_not | apply ev_neg | apply ev_bools | apply ev_resplit | exact fn_len_strs _ | exact fn_len_ints _ | exact fn_len_list _ | exact fn_len_str _ | exact add_int _ _ | exact sub_int _ _ | exact truth_bool _ | exact rfl))) (items_range _ _) hdl) ?_
  exact run_stop (run_ret rfl ev_const) (fun h => by cases h)

set_option tactic.hygienic false in
theorem law_pure (xs : List Int) (h : xs.length ≤ 63) : ∃ fr, Phi lawFs 8 (3 + 2) [.list (xs.map .int)] = some (.bool true, fr) := by
  have e : Phi lawFs 8 (3 + 2) [.list (xs.map .int)] = runF (Phi lawFs 7) f_law [.list (xs.map .int)] := rfl
  rw [e]
  refine law_run8 (fun s lim hs => ?_) (fun s hs => columns_run _ s hs) (fun ts fi fu a b c d e => costs_run (Φ := Phi lawFs 6) (fun s hs => columns_run _ s hs) a b c d e) xs
  refine reformat_run (Φ := Phi lawFs 6) (fun t ht => ?_) (fun t ht => ?_) s lim hs
  · show (if t.length < 1000000 then _ else _) = _
    rw [if_pos ht]
  · show (if t.length < 1000000 then _ else _) = _
    rw [if_pos ht]
end Mine
end
open PySem PySem.W PyProof.Rows Mine
set_option maxRecDepth 100000 in
set_option maxHeartbeats 8000000 in
theorem PySem.Challenge.cw_dm0160_08_holds : PySem.Challenge.rw_dm0160_08.Holds := by
  w_on
  o_law
  k_head
  case hw => w_witness2
  intro w s₀ s₁ mg mb G Y fa o pm cd doc dV kV ho hd hcd hD hmg hg args vals as hpre hlay hrd hwl hlo
  have KX := kIn_of Y
  refine Ground.open G ?_
  intro T B D TE TW
  wrow_args hpre hlay hrd hwl hlo
  refine walk_core (white := true) (names := lawNames) (fs := lawFs) (k := 3) (N := 8) (nm := "law") T ?ok (fun _ => ?p1) (fun _ => ?p2) ?p3 ?hn hmg (by decide) (by assumption) (by assumption) (by assumption) (by (first | lia | omega)) (law_pure _ (by (first | lia | omega))) hg ?hra ?hpo
  case ok => exact ⟨by kernel_rfl, (fun _ => by kernel_rfl), by kernel_rfl, by kernel_rfl, by kernel_rfl⟩
  case hn => kernel_rfl
  case hra => exact fun _ => rfl
  case hpo => kernel_rfl
  case p1 =>
    refine ⟨_, mg_of KX T.g (by with_unfolding_all rfl), ?_⟩
    exact ⟨_, _, _, _, _, 0, KX _ _ (by with_unfolding_all rfl), KX _ _ (by kernel_rfl)⟩
  case p2 =>
    refine ⟨_, mg_of KX T.g (by with_unfolding_all rfl), ?_⟩
    exact ⟨_, _, _, _, _, 0, KX _ _ (by with_unfolding_all rfl), KX _ _ (by kernel_rfl)⟩
  case p3 =>
    refine ⟨_, mg_of KX T.g (by with_unfolding_all rfl), ?_⟩
    exact ⟨_, _, _, _, _, 0, KX _ _ (by with_unfolding_all rfl), KX _ _ (by kernel_rfl)⟩
