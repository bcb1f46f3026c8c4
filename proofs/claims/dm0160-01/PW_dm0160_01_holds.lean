import PyProof.Rows.All
import Wide.All
import OpenK.AllK
import Wide.FinOn
import PySem.Challenge.RW_dm0160_01
set_option Elab.async false
/-! A1 -/
section
open PySem
namespace Mine

/-! ## values -/
inductive D where
  | none
  | bool (b : Bool)
  | int (i : Int)
  | str (s : List Nat)
  | tup (xs : List D)
  | list (xs : List D)
  | range (a b c : Int)

/-- a variable's slot: unset, a value (shared, never changed), a list that this variable alone holds -/
inductive Slot where
  | unset
  | val (d : D)
  | own (xs : List D)

noncomputable def LIM : Nat := 16777216

/-! ## texts -/
noncomputable def isWs (c : Nat) : Bool := Unicode.isSpace c
noncomputable def splitBy (p : Nat → Bool) : List Nat → List (List Nat)
  | [] => [[]]
  | x :: r => if p x then [] :: splitBy p r else
    match splitBy p r with
    | [] => [[x]]
    | w :: ws => (x :: w) :: ws
noncomputable def splitOn (c : Nat) (s : List Nat) : List (List Nat) := splitBy (· == c) s
noncomputable def wordsBy (p : Nat → Bool) (s : List Nat) : List (List Nat) := (splitBy p s).filter (fun w => !w.isEmpty)
noncomputable def rstripBy (p : Nat → Bool) (s : List Nat) : List Nat := (s.reverse.dropWhile p).reverse
noncomputable def expandGo : Nat → List Nat → List Nat
  | _, [] => []
  | col, c :: r =>
    if c = 9 then List.replicate (8 - col % 8) 32 ++ expandGo (col + (8 - col % 8)) r
    else c :: expandGo (if c = 10 ∨ c = 13 then 0 else col + 1) r
/-- the parts of a text between its runs of what is white, and the runs: word, run, word, .., word -/
noncomputable def reGo (p : Nat → Bool) : Bool → List Nat → List (List Nat)
  | _, [] => [[]]
  | white, x :: r =>
    if p x == white then
      match reGo p white r with
      | [] => [[x]]
      | w :: ws => (x :: w) :: ws
    else [] :: (match reGo p (!white) r with | [] => [[x]] | w :: ws => (x :: w) :: ws)
/-- odd places hold the runs; a text that ends in a run has an empty last part -/
noncomputable def reSplit (p : Nat → Bool) (s : List Nat) : List (List Nat) :=
  let ps := reGo p false s
  if ps.length % 2 = 0 then ps ++ [[]] else ps
noncomputable def joinWith (sep : List Nat) : List (List Nat) → List Nat
  | [] => []
  | [x] => x
  | x :: r => x ++ sep ++ joinWith sep r
noncomputable def indentOf (s : List Nat) : List Nat := s.takeWhile (fun c => c == 32 || c == 9)

/-! ## the operations -/
inductive Bop | add | sub | mul | fdiv | mod
inductive Cop | eq | ne | lt | le | gt | ge | isNone | notNone | isIn | notIn
inductive Fn | len | min | max | sum | chr | ord | range | list | isBool
inductive Mth | split | join | rstrip | lstrip | expandtabs | index

noncomputable def ints? : List D → Option (List Int)
  | [] => some []
  | .int i :: r => (ints? r).map (i :: ·)
  | _ :: _ => Option.none
noncomputable def strs? : List D → Option (List (List Nat))
  | [] => some []
  | .str i :: r => (strs? r).map (i :: ·)
  | _ :: _ => Option.none

noncomputable def binD : Bop → D → D → Option D
  | .add, .int a, .int b => some (.int (a + b))
  | .add, .str a, .str b => if a.length + b.length ≤ LIM then some (.str (a ++ b)) else Option.none
  | .add, .list a, .list b => if a.length + b.length ≤ LIM then some (.list (a ++ b)) else Option.none
  | .fdiv, .int a, .int b => if 0 < b ∧ b < 1000000 then some (.int (a / b)) else Option.none
  | .mod, .int a, .int b => if 0 < b then some (.int (a % b)) else Option.none
  | _, _, _ => Option.none

noncomputable def eqS : D → D → Option Bool
  | .str a, .str b => some (a == b)
  | _, _ => Option.none

noncomputable def cmpD : Cop → D → D → Option Bool
  | .eq, a, b => eqS a b
  | .ne, a, b => (eqS a b).map (!·)
  | _, _, _ => Option.none

noncomputable def truthD : D → Option Bool
  | .bool b => some b
  | .list s => some (!s.isEmpty)
  | _ => Option.none

noncomputable def place? (i : Int) (n : Nat) : Option Nat :=
  if 0 ≤ i then (if i < n then some i.toNat else Option.none) else if 0 ≤ i + n then some (i + n).toNat else Option.none
noncomputable def idxD : D → D → Option D
  | .list xs, .int i => (place? i xs.length).bind (xs[·]?)
  | _, _ => Option.none

noncomputable def clip (n : Nat) (i : Int) : Nat := if i < 0 then (i + n).toNat else min i.toNat n
noncomputable def part? : D → Option (Option Int)
  | .none => some Option.none
  | .int i => some (some i)
  | _ => Option.none
noncomputable def cut {α : Type} (xs : List α) (lo hi : Option Int) : List α :=
  let a := lo.elim 0 (clip xs.length)
  let b := hi.elim xs.length (clip xs.length)
  (xs.drop a).take (b - a)
noncomputable def sliceD (d l u : D) : Option D := do
  let lo ← part? l
  let hi ← part? u
  match d with
  | .list xs => some (.list (cut xs lo hi))
  | .str s => some (.str (cut s lo hi))
  | _ => Option.none

noncomputable def rangeD (a b c : Int) : List Int := if 0 < c then (List.range ((b - a + c - 1) / c).toNat).map (fun (k : Nat) => a + c * (k : Int)) else []

noncomputable def small (i : Int) : Bool := decide (i.natAbs ≤ 1099511627776)

noncomputable def fnD : Fn → List D → Option D
  | .len, [.str xs] => some (.int xs.length)
  | .min, [.int a, .int b] => some (.int (min a b))
  | .chr, [.int i] => if 0 ≤ i ∧ i.toNat < 1114112 then some (.str [i.toNat]) else Option.none
  | .range, [.int b] => if small b then some (.range 0 b 1) else Option.none
  | .range, [.int a, .int b] => if small a && small b then some (.range a b 1) else Option.none
  | .list, [.range a b c] => let l := rangeD a b c; if l.length ≤ LIM then some (.list (l.map .int)) else Option.none
  | _, _ => Option.none

noncomputable def methD : Mth → D → List D → Option D
  | .split, .str s, [.str [c]] => if s.length < LIM then some (.list ((splitOn c s).map .str)) else Option.none
  | .split, .str s, [] => if s.length < LIM then some (.list ((wordsBy isWs s).map .str)) else Option.none
  | .join, .str sep, [.list xs] => (strs? xs).bind fun l => if (l.map fun w => w.length + sep.length).sum ≤ LIM then some (.str (joinWith sep l)) else Option.none
  | .rstrip, .str s, [] => some (.str (rstripBy isWs s))
  | .rstrip, .str s, [.str cs] => some (.str (rstripBy (fun c => cs.contains c) s))
  | .lstrip, .str s, [.str cs] => some (.str (s.dropWhile (fun c => cs.contains c)))
  | .expandtabs, .str s, [] => if 8 * s.length ≤ LIM then some (.str (expandGo 0 s)) else Option.none
  | .index, .list xs, [.int i] => (ints? xs).bind fun l => if l.contains i then some (.int (l.idxOf i)) else Option.none
  | _, _, _ => Option.none

noncomputable def itemsD : D → Option (List D)
  | .list xs => some xs
  | .range a b c => if 0 < c then some ((rangeD a b c).map .int) else Option.none
  | _ => Option.none

/-! ## the small language -/
inductive E where
  | const (d : D)
  | var (x : Nat)
  | cvar (x : Nat)
  | bin (op : Bop) (a b : E)
  | neg (a : E)
  | cmp (op : Cop) (a b : E)
  | cmp2 (op1 op2 : Cop) (a b c : E)
  | bools (isAnd : Bool) (es : E)
  | not (a : E)
  | ite (t a b : E)
  | list (es : E)
  | tup (es : E)
  | nil
  | cons (e es : E)
  | idx (a i : E)
  | slice (a l u : E)
  | fn (f : Fn) (es : E)
  | meth (m : Mth) (o es : E)
  | resplit (a : E)
  | ucall (f : Nat) (es : E)
  /-- one `for` over src; k names (1 or 2) are bound; the test; the element -/
  | comp (k : Nat) (src test elt : E)
  /-- two `for`s, one name each -/
  | comp2 (src1 src2 elt : E)

noncomputable def isOwn : Slot → Bool
  | .own _ => true
  | _ => false

/-- no list that a variable alone holds can be the very value of e -/
noncomputable def strong (ρ : List Slot) : E → Bool
  | .var x => !(ρ[x]?.any isOwn)
  | .ite _ a b => strong ρ a && strong ρ b
  | .bools _ es => strong ρ es
  | .cons e es => strong ρ e && strong ρ es
  | _ => true

noncomputable def scalar : D → Bool
  | .tup _ | .list _ | .range .. => false
  | _ => true
noncomputable def flat : D → Bool
  | .list xs => xs.all scalar
  | d => scalar d

noncomputable def bind1 (k : Nat) (d : D) : Option (List D) :=
  if k = 1 then some [d] else
  match d with
  | .tup [a, b] => if k = 2 then some [a, b] else Option.none
  | _ => Option.none

noncomputable def mapO (f : D → Option (List D)) : List D → Option (List D)
  | [] => some []
  | d :: r => do
    let x ← f d
    let y ← mapO f r
    some (x ++ y)

noncomputable abbrev Funs := Nat → List D → Option (D × Bool)

section
variable (Φ : Funs) (ρ : List Slot)
mutual
noncomputable def ev (κ : List D) : E → Option D
  | .const d => some d
  | .var x => match ρ[x]? with
    | some (.val d) => some d
    | some (.own xs) => some (.list xs)
    | _ => Option.none
  | .cvar x => κ[x]?
  | .bin op a b => do binD op (← ev κ a) (← ev κ b)
  | .neg a => do match ← ev κ a with
    | .int i => some (.int (-i))
    | _ => Option.none
  | .cmp op a b => do some (.bool (← cmpD op (← ev κ a) (← ev κ b)))
  | .cmp2 op1 op2 a b c => do
    let x ← ev κ a
    let y ← ev κ b
    if ← cmpD op1 x y then
      some (.bool (← cmpD op2 y (← ev κ c)))
    else some (.bool false)
  | .bools k es => evB κ k es
  | .not a => do some (.bool (!(← truthD (← ev κ a))))
  | .ite t a b => do if ← truthD (← ev κ t) then ev κ a else ev κ b
  | .list es => if strong ρ es then do
      let ds ← evs κ es
      if ds.length ≤ LIM then some (.list ds) else Option.none
    else Option.none
  | .tup es => if strong ρ es then do
      let ds ← evs κ es
      if ds.length ≤ LIM then some (.tup ds) else Option.none
    else Option.none
  | .nil => Option.none
  | .cons _ _ => Option.none
  | .idx a i => do idxD (← ev κ a) (← ev κ i)
  | .slice a l u => do sliceD (← ev κ a) (← ev κ l) (← ev κ u)
  | .fn f es => do fnD f (← evs κ es)
  | .meth m o es => do methD m (← ev κ o) (← evs κ es)
  | .resplit a => do match ← ev κ a with
    | .str s => if s.length < 1000000 then some (.list ((reSplit isWs s).map .str)) else Option.none
    | _ => Option.none
  | .ucall f es => do
    let ds ← evs κ es
    let (d, fresh) ← Φ f ds
    if strong ρ es || scalar d || (fresh && flat d) then some d else Option.none
  | .comp k src test elt => if strong ρ elt then do
      let ds ← itemsD (← ev κ src)
      let out ← mapO (fun d => do
        let κ' ← bind1 k d
        if ← truthD (← ev κ' test) then some [← ev κ' elt] else some []) ds
      if ds.length ≤ LIM then some (.list out) else Option.none
    else Option.none
  | .comp2 src1 src2 elt => if strong ρ elt && strong ρ src2 then do
      let ds ← itemsD (← ev κ src1)
      let out ← mapO (fun d => do
        let es ← itemsD (← ev [d] src2)
        mapO (fun e => do some [← ev [d, e] elt]) es) ds
      if out.length ≤ LIM then some (.list out) else Option.none
    else Option.none
noncomputable def evs (κ : List D) : E → Option (List D)
  | .nil => some []
  | .cons e es => do
    let d ← ev κ e
    let ds ← evs κ es
    some (d :: ds)
  | _ => Option.none
noncomputable def evB (κ : List D) (isAnd : Bool) : E → Option D
  | .cons e .nil => ev κ e
  | .cons e es => do
    let d ← ev κ e
    if (← truthD d) == isAnd then evB κ isAnd es else some d
  | _ => Option.none
end
end

inductive Fl where
  | next | brk | cont
  | ret (d : D) (fresh : Bool)

inductive Src where
  | e (e : E)
  | zip (a b : E)
  | rev (e : E)

inductive C where
  | skip
  | seq (a b : C)
  | assign (x : Nat) (e : E)
  | assign2 (x y : Nat) (e : E)
  | setItem (x : Nat) (i e : E)
  | append (x : Nat) (e : E)
  | extend (x : Nat) (e : E)
  | ite (t : E) (a b : C)
  | whil (t : E) (b : C)
  | for1 (x : Nat) (s : Src) (b : C)
  | for2 (x y : Nat) (s : Src) (b : C)
  | ret (e : E)
  | retv (x : Nat)
  | brk
  | cont

/-- the value of e, where it is a list, is new -/
noncomputable def newE : E → Bool
  | .list _ | .comp .. | .comp2 .. | .slice .. | .bin .. | .meth .. | .resplit _ => true
  | .ite _ a b => newE a && newE b
  | _ => false

/-- the variables whose list may be the very value of e -/
noncomputable def aliased : E → List Nat
  | .var x => [x]
  | .ite _ a b => aliased a ++ aliased b
  | .bools _ es => aliased es
  | .cons e es => aliased e ++ aliased es
  | _ => []

noncomputable def freeze1 (x : Nat) (ρ : List Slot) : List Slot :=
  match ρ[x]? with
  | some (.own xs) => ρ.set x (.val (.list xs))
  | _ => ρ
noncomputable def freeze (xs : List Nat) (ρ : List Slot) : List Slot := xs.foldr freeze1 ρ

noncomputable def slotOf (e : E) (d : D) : Slot :=
  match d with
  | .list xs => if newE e then .own xs else .val d
  | _ => .val d

noncomputable def zipD : List D → List D → List D
  | a :: as, b :: bs => .tup [a, b] :: zipD as bs
  | _, _ => []

noncomputable def srcD (Φ : Funs) (ρ : List Slot) : Src → Option (List D)
  | .e e => do itemsD (← ev Φ ρ [] e)
  | .zip a b => do
    match ← ev Φ ρ [] a, ← ev Φ ρ [] b with
    | .list xs, .list ys => some (zipD xs ys)
    | _, _ => Option.none
  | .rev e => do
    match ← ev Φ ρ [] e with
    | .str s => some (s.reverse.map fun c => .str [c])
    | _ => Option.none
noncomputable def srcVars : Src → List Nat
  | .e e => aliased e
  | .zip a b => aliased a ++ aliased b
  | .rev _ => []

noncomputable def whileF (test : List Slot → Option Bool) (body : List Slot → Option (List Slot × Fl)) : Nat → List Slot → Option (List Slot × Fl)
  | 0, _ => Option.none
  | n + 1, ρ => do
    if ← test ρ then
      match ← body ρ with
      | (ρ', .next) | (ρ', .cont) => whileF test body n ρ'
      | (ρ', .brk) => some (ρ', .next)
      | (ρ', .ret d f) => some (ρ', .ret d f)
    else some (ρ, .next)

noncomputable def forF (put : D → List Slot → Option (List Slot)) (body : List Slot → Option (List Slot × Fl)) : List D → List Slot → Option (List Slot × Fl)
  | [], ρ => some (ρ, .next)
  | d :: ds, ρ => do
    let ρ₁ ← put d ρ
    match ← body ρ₁ with
    | (ρ', .next) | (ρ', .cont) => forF put body ds ρ'
    | (ρ', .brk) => some (ρ', .next)
    | (ρ', .ret d f) => some (ρ', .ret d f)

noncomputable def put1 (x : Nat) (d : D) (ρ : List Slot) : Option (List Slot) := if x < ρ.length then some (ρ.set x (.val d)) else Option.none
noncomputable def put2 (x y : Nat) (d : D) (ρ : List Slot) : Option (List Slot) :=
  match d with
  | .tup [a, b] => if x < ρ.length ∧ y < ρ.length ∧ x ≠ y then some ((ρ.set x (.val a)).set y (.val b)) else Option.none
  | _ => Option.none

noncomputable def WHILE : Nat := 100000

noncomputable def ex (Φ : Funs) : C → List Slot → Option (List Slot × Fl)
  | .skip, ρ => some (ρ, .next)
  | .seq a b, ρ => do
    match ← ex Φ a ρ with
    | (ρ', .next) => ex Φ b ρ'
    | r => some r
  | .assign x e, ρ => do
    let ρ := freeze (aliased e) ρ
    let d ← ev Φ ρ [] e
    if x < ρ.length then some (ρ.set x (slotOf e d), .next) else Option.none
  | .assign2 x y e, ρ => do
    let ρ := freeze (aliased e) ρ
    let d ← ev Φ ρ [] e
    let ρ' ← put2 x y d ρ
    some (ρ', .next)
  | .setItem x i e, ρ => do
    let ρ := freeze (aliased e) ρ
    let d ← ev Φ ρ [] e
    match ρ[x]?, ← ev Φ ρ [] i with
    | some (.own xs), .int j => do
      let k ← place? j xs.length
      some (ρ.set x (.own (xs.set k d)), .next)
    | _, _ => Option.none
  | .append x e, ρ => do
    let ρ := freeze (aliased e) ρ
    let d ← ev Φ ρ [] e
    match ρ[x]? with
    | some (.own xs) => if xs.length < LIM then some (ρ.set x (.own (xs ++ [d])), .next) else Option.none
    | _ => Option.none
  | .extend x e, ρ => do
    let ρ := freeze (aliased e) ρ
    match ρ[x]?, ← ev Φ ρ [] e with
    | some (.own xs), .list ys => if xs.length + ys.length ≤ LIM then some (ρ.set x (.own (xs ++ ys)), .next) else Option.none
    | _, _ => Option.none
  | .ite t a b, ρ => do if ← truthD (← ev Φ ρ [] t) then ex Φ a ρ else ex Φ b ρ
  | .whil t b, ρ => whileF (fun ρ => do truthD (← ev Φ ρ [] t)) (fun ρ => ex Φ b ρ) WHILE ρ
  | .for1 x s b, ρ => do
    let ρ := freeze (srcVars s) ρ
    forF (put1 x) (fun ρ => ex Φ b ρ) (← srcD Φ ρ s) ρ
  | .for2 x y s b, ρ => do
    let ρ := freeze (srcVars s) ρ
    forF (put2 x y) (fun ρ => ex Φ b ρ) (← srcD Φ ρ s) ρ
  | .ret e, ρ => do
    let ρ := freeze (aliased e) ρ
    let d ← ev Φ ρ [] e
    some (ρ, .ret d (newE e))
  | .retv x, ρ => match ρ[x]? with
    | some (.val d) => some (ρ, .ret d false)
    | some (.own xs) => some (freeze1 x ρ, .ret (.list xs) true)
    | _ => Option.none
  | .brk, ρ => some (ρ, .brk)
  | .cont, ρ => some (ρ, .cont)

structure Fun where
  nargs : Nat
  nslots : Nat
  body : C

noncomputable def runF (Φ : Funs) (f : Fun) (ds : List D) : Option (D × Bool) :=
  if ds.length = f.nargs then
    match ex Φ f.body (ds.map .val ++ List.replicate (f.nslots - f.nargs) .unset) with
    | some (_, .ret d fr) => some (d, fr)
    | some (_, .next) => some (.none, false)
    | _ => Option.none
  else Option.none

/-- 0: is_all_white, 1: get_indent, by themselves; k + 2: the k-th written function -/
noncomputable def Phi (fs : List Fun) : Nat → Funs
  | 0, _, _ => Option.none
  | n + 1, f, ds =>
    match f, ds with
    | 0, [.str s] => if s.length < 1000000 then some (.bool (s.all isWs), false) else Option.none
    | 1, [.str s] => if s.length < 1000000 then some (.str (indentOf s), false) else Option.none
    | k + 2, ds => match fs[k]? with
      | some fn => runF (Phi fs n) fn ds
      | Option.none => Option.none
    | _, _ => Option.none
end Mine
end
/-! A2 -/
section
open PySem PySem.W PyProof.Rows
namespace Mine

noncomputable def PTup (h : Heap) (a : Addr) (items : Array Value) : Prop := ∃ n, h.get? a = some { cls := .type "tuple", data := .seq items n }
theorem PTup.isTup {h : Heap} {a : Addr} {items : Array Value} (x : PTup h a items) : IsTup h a items := let ⟨n, e⟩ := x; ⟨_, e, rfl, n, rfl⟩

inductive Rep (N : Addr → Prop) (h : Heap) : Value → D → Prop
  | none : Rep N h .none .none
  | bool (b : Bool) : Rep N h (.bool b) (.bool b)
  | int (i : Int) (t : Tok) : Rep N h (.int i t) (.int i)
  | str (s : List Nat) (t : Tok) (hs : s.length ≤ LIM) : Rep N h (.str ⟨s.toArray⟩ t) (.str s)
  | tup (a : Addr) (vs : List Value) (ds : List D) (hn : ¬ N a) (ha : PTup h a vs.toArray) (hl : vs.length ≤ LIM) (he : vs.length = ds.length)
      (hi : ∀ (i : Nat) (v : Value) (d : D), vs[i]? = some v → ds[i]? = some d → Rep N h v d) : Rep N h (.ref a) (.tup ds)
  | list (a : Addr) (vs : List Value) (ds : List D) (hn : ¬ N a) (ha : h.PlainList a vs.toArray) (hl : vs.length ≤ LIM) (he : vs.length = ds.length)
      (hi : ∀ (i : Nat) (v : Value) (d : D), vs[i]? = some v → ds[i]? = some d → Rep N h v d) : Rep N h (.ref a) (.list ds)
  | range (r : Addr) (a b c : Int) (t u v : Tok) (hn : ¬ N r) (hr : IsRange h r a b c t u v) (hs : small a && small b && decide (1 ≤ c) && small c) : Rep N h (.ref r) (.range a b c)

noncomputable def RepAll (N : Addr → Prop) (h : Heap) (vs : List Value) (ds : List D) : Prop :=
  vs.length = ds.length ∧ ∀ (i : Nat) (v : Value) (d : D), vs[i]? = some v → ds[i]? = some d → Rep N h v d

/-- as Rep, but a list's own address may lie in N -/
noncomputable def RepT (N : Addr → Prop) (h : Heap) (v : Value) : D → Prop
  | .list ds => ∃ a vs, v = .ref a ∧ h.PlainList a vs.toArray ∧ vs.length ≤ LIM ∧ RepAll N h vs ds
  | d => Rep N h v d

noncomputable def RepTAll (N : Addr → Prop) (h : Heap) : List Value → List D → Prop
  | [], [] => True
  | v :: vs, d :: ds => RepT N h v d ∧ RepTAll N h vs ds
  | _, _ => False

structure Grow (s s' : Shared) : Prop where
  os : s'.os = s.os
  gens : s'.gens = s.gens
  keep : ∀ b o, s.heap.get? b = some o → s'.heap.get? b = some o

theorem Grow.rfl' (s : Shared) : Grow s s := ⟨rfl, rfl, fun _ _ e => e⟩
theorem Grow.trans {s s' s'' : Shared} (a : Grow s s') (b : Grow s' s'') : Grow s s'' :=
  ⟨b.os.trans a.os, b.gens.trans a.gens, fun x o e => b.keep x o (a.keep x o e)⟩
theorem Grow.toks (s : Shared) (t : Nat) : Grow s { s with toks := t } := ⟨rfl, rfl, fun _ _ e => e⟩
theorem Grow.push (s : Shared) (o : Obj) (t : Nat) : Grow s { s with heap := s.heap.push o, toks := t } :=
  ⟨rfl, rfl, fun _ _ e => Heap.get?_push_of_some _ e⟩
theorem Grow.of {s : Shared} {h' : Heap} {t : Nat} (hk : ∀ b o, s.heap.get? b = some o → h'.get? b = some o) : Grow s { s with heap := h', toks := t } := ⟨rfl, rfl, hk⟩
theorem get_size (h : Heap) : h.get? h.objs.size = none := by
  cases e : h.get? h.objs.size with
  | none => rfl
  | some o => exact absurd (Heap.lt_size e) (Nat.lt_irrefl _)
/-- all of N stands in the heap -/
noncomputable def Alive (N : Addr → Prop) (h : Heap) : Prop := ∀ a, N a → h.get? a ≠ none
theorem Alive.not {N : Addr → Prop} {h : Heap} {a : Addr} (x : Alive N h) (e : h.get? a = none) : ¬ N a := fun y => x a y e
theorem Alive.keeps {N : Addr → Prop} {h h' : Heap} (x : Alive N h) (hk : ∀ b o, h.get? b = some o → h'.get? b = some o) : Alive N h' := fun a ha e => by
  cases q : h.get? a with
  | none => exact x a ha q
  | some o => rw [hk a o q] at e; cases e
theorem Alive.grow {N : Addr → Prop} {s s' : Shared} (x : Alive N s.heap) (g : Grow s s') : Alive N s'.heap := x.keeps g.keep

theorem Rep.mono {N N' : Addr → Prop} {h h' : Heap} (hk : ∀ a o, ¬ N a → h.get? a = some o → h'.get? a = some o ∧ ¬ N' a) {v : Value} {d : D} (r : Rep N h v d) : Rep N' h' v d := by
  induction r with
  | none => exact .none
  | bool b => exact .bool b
  | int i t => exact .int i t
  | str s t hs => exact .str s t hs
  | tup a vs ds hn ha hl he _ ih =>
    obtain ⟨n, ho⟩ := ha
    exact .tup a vs ds (hk a _ hn ho).2 ⟨n, (hk a _ hn ho).1⟩ hl he ih
  | list a vs ds hn ha hl he _ ih =>
    obtain ⟨n, ho⟩ := ha
    exact .list a vs ds (hk a _ hn ho).2 ⟨n, (hk a _ hn ho).1⟩ hl he ih
  | range r a b c t u v hn hr hs => exact .range r a b c t u v (hk r _ hn hr).2 (hk r _ hn hr).1 hs
theorem Rep.grow {N : Addr → Prop} {s s' : Shared} (g : Grow s s') {v : Value} {d : D} (r : Rep N s.heap v d) : Rep N s'.heap v d :=
  r.mono fun _ _ hn e => ⟨g.keep _ _ e, hn⟩
theorem Rep.sub {N N' : Addr → Prop} {h : Heap} (hs : ∀ a, N' a → N a) {v : Value} {d : D} (r : Rep N h v d) : Rep N' h v d :=
  r.mono fun _ _ hn e => ⟨e, fun x => hn (hs _ x)⟩

theorem RepAll.mono {N N' : Addr → Prop} {h h' : Heap} (hk : ∀ a o, ¬ N a → h.get? a = some o → h'.get? a = some o ∧ ¬ N' a) {vs : List Value} {ds : List D} (r : RepAll N h vs ds) : RepAll N' h' vs ds :=
  ⟨r.1, fun i v d e1 e2 => (r.2 i v d e1 e2).mono hk⟩
theorem RepAll.grow {N : Addr → Prop} {s s' : Shared} (g : Grow s s') {vs : List Value} {ds : List D} (r : RepAll N s.heap vs ds) : RepAll N s'.heap vs ds :=
  r.mono fun _ _ hn e => ⟨g.keep _ _ e, hn⟩
theorem RepAll.sub {N N' : Addr → Prop} {h : Heap} (hs : ∀ a, N' a → N a) {vs : List Value} {ds : List D} (r : RepAll N h vs ds) : RepAll N' h vs ds :=
  ⟨r.1, fun i v d e1 e2 => (r.2 i v d e1 e2).sub hs⟩
theorem RepAll.nil {N : Addr → Prop} {h : Heap} : RepAll N h [] [] := ⟨rfl, fun i v d e _ => by simp at e⟩
theorem RepAll.cons {N : Addr → Prop} {h : Heap} {v : Value} {d : D} {vs : List Value} {ds : List D} (a : Rep N h v d) (r : RepAll N h vs ds) : RepAll N h (v :: vs) (d :: ds) :=
  ⟨by simp [r.1], fun i => by
    cases i with
    | zero => intro v' d' e1 e2; simp at e1 e2; subst e1; subst e2; exact a
    | succ i => intro v' d' e1 e2; simp at e1 e2; exact r.2 i v' d' e1 e2⟩
theorem RepAll.head {N : Addr → Prop} {h : Heap} {v : Value} {d : D} {vs : List Value} {ds : List D} (r : RepAll N h (v :: vs) (d :: ds)) : Rep N h v d := r.2 0 v d rfl rfl
theorem RepAll.tail {N : Addr → Prop} {h : Heap} {v : Value} {d : D} {vs : List Value} {ds : List D} (r : RepAll N h (v :: vs) (d :: ds)) : RepAll N h vs ds :=
  ⟨by simpa using r.1, fun i v' d' e1 e2 => r.2 (i + 1) v' d' (by simpa using e1) (by simpa using e2)⟩
theorem RepAll.append {N : Addr → Prop} {h : Heap} {vs vs' : List Value} {ds ds' : List D} (a : RepAll N h vs ds) (b : RepAll N h vs' ds') : RepAll N h (vs ++ vs') (ds ++ ds') := by
  induction vs generalizing ds with
  | nil => cases ds with
    | nil => exact b
    | cons d ds => exact absurd a.1 (by simp)
  | cons v vs ih => cases ds with
    | nil => exact absurd a.1 (by simp)
    | cons d ds => exact RepAll.cons a.head (ih a.tail)
theorem RepAll.drop {N : Addr → Prop} {h : Heap} {vs : List Value} {ds : List D} (a : RepAll N h vs ds) (k : Nat) : RepAll N h (vs.drop k) (ds.drop k) :=
  ⟨by simp [a.1], fun i v d e1 e2 => a.2 (k + i) v d (by simpa using e1) (by simpa using e2)⟩
theorem RepAll.take {N : Addr → Prop} {h : Heap} {vs : List Value} {ds : List D} (a : RepAll N h vs ds) (k : Nat) : RepAll N h (vs.take k) (ds.take k) :=
  ⟨by simp [a.1], fun i v d e1 e2 => by
    rw [List.getElem?_take] at e1 e2
    split at e1
    · rename_i hlt; rw [if_pos hlt] at e2; exact a.2 i v d e1 e2
    · cases e1⟩
theorem RepAll.set {N : Addr → Prop} {h : Heap} {vs : List Value} {ds : List D} (a : RepAll N h vs ds) {k : Nat} {v : Value} {d : D} (r : Rep N h v d) : RepAll N h (vs.set k v) (ds.set k d) :=
  ⟨by simp [a.1], fun i v' d' e1 e2 => by
    rw [List.getElem?_set] at e1 e2
    by_cases hik : k = i
    · subst hik
      simp only [if_true] at e1 e2
      split at e1
      · rename_i hlt
        rw [if_pos (a.1 ▸ hlt)] at e2
        cases e1; cases e2; exact r
      · cases e1
    · rw [if_neg hik] at e1 e2; exact a.2 i v' d' e1 e2⟩

theorem Rep.toT {N : Addr → Prop} {h : Heap} {v : Value} {d : D} (r : Rep N h v d) : RepT N h v d := by
  cases r with
  | list a vs ds hn ha hl he hi => exact ⟨a, vs, rfl, ha, hl, he, hi⟩
  | none => exact .none
  | bool b => exact .bool b
  | int i t => exact .int i t
  | str s t hs => exact .str s t hs
  | tup a vs ds hn ha hl he hi => exact .tup a vs ds hn ha hl he hi
  | range r a b c t u v hn hr hs => exact .range r a b c t u v hn hr hs
theorem RepT.mono {N N' : Addr → Prop} {h h' : Heap} (hk : ∀ a o, h.get? a = some o → h'.get? a = some o ∧ (¬ N a → ¬ N' a)) {v : Value} {d : D} (r : RepT N h v d) : RepT N' h' v d := by
  have hk' : ∀ a o, ¬ N a → h.get? a = some o → h'.get? a = some o ∧ ¬ N' a := fun a o hn e => ⟨(hk a o e).1, (hk a o e).2 hn⟩
  cases d with
  | list ds =>
    obtain ⟨a, vs, rfl, ⟨n, ho⟩, hl, ra⟩ := r
    exact ⟨a, vs, rfl, ⟨n, (hk a _ ho).1⟩, hl, ra.mono hk'⟩
  | none => exact Rep.mono hk' r
  | bool b => exact Rep.mono hk' r
  | int i => exact Rep.mono hk' r
  | str s => exact Rep.mono hk' r
  | tup ds => exact Rep.mono hk' r
  | range a b c => exact Rep.mono hk' r
theorem RepT.grow {N : Addr → Prop} {s s' : Shared} (g : Grow s s') {v : Value} {d : D} (r : RepT N s.heap v d) : RepT N s'.heap v d :=
  r.mono fun _ _ e => ⟨g.keep _ _ e, id⟩
theorem RepTAll.grow {N : Addr → Prop} {s s' : Shared} (g : Grow s s') : ∀ {vs : List Value} {ds : List D}, RepTAll N s.heap vs ds → RepTAll N s'.heap vs ds
  | [], [], _ => trivial
  | _ :: _, _ :: _, h => ⟨h.1.grow g, RepTAll.grow g h.2⟩
  | [], _ :: _, h => h.elim
  | _ :: _, [], h => h.elim
theorem RepTAll.length {N : Addr → Prop} {h : Heap} : ∀ {vs : List Value} {ds : List D}, RepTAll N h vs ds → vs.length = ds.length
  | [], [], _ => rfl
  | _ :: _, _ :: _, h => by simp [RepTAll.length h.2]
  | [], _ :: _, h => h.elim
  | _ :: _, [], h => h.elim

/-! inversion by the datum -/
theorem Rep.inv_int {N : Addr → Prop} {h : Heap} {v : Value} {i : Int} (r : Rep N h v (.int i)) : ∃ t, v = .int i t := by cases r with | int _ t => exact ⟨t, rfl⟩
theorem Rep.inv_bool {N : Addr → Prop} {h : Heap} {v : Value} {b : Bool} (r : Rep N h v (.bool b)) : v = .bool b := by cases r; rfl
theorem Rep.inv_none {N : Addr → Prop} {h : Heap} {v : Value} (r : Rep N h v .none) : v = .none := by cases r; rfl
theorem Rep.inv_str {N : Addr → Prop} {h : Heap} {v : Value} {s : List Nat} (r : Rep N h v (.str s)) : ∃ t, v = .str ⟨s.toArray⟩ t ∧ s.length ≤ LIM := by cases r with | str _ t hs => exact ⟨t, rfl, hs⟩
theorem Rep.inv_tup {N : Addr → Prop} {h : Heap} {v : Value} {ds : List D} (r : Rep N h v (.tup ds)) : ∃ a vs, v = .ref a ∧ ¬ N a ∧ PTup h a vs.toArray ∧ vs.length ≤ LIM ∧ RepAll N h vs ds := by
  cases r with | tup a vs _ hn ha hl he hi => exact ⟨a, vs, rfl, hn, ha, hl, he, hi⟩
theorem Rep.inv_list {N : Addr → Prop} {h : Heap} {v : Value} {ds : List D} (r : Rep N h v (.list ds)) : ∃ a vs, v = .ref a ∧ ¬ N a ∧ h.PlainList a vs.toArray ∧ vs.length ≤ LIM ∧ RepAll N h vs ds := by
  cases r with | list a vs _ hn ha hl he hi => exact ⟨a, vs, rfl, hn, ha, hl, he, hi⟩
theorem Rep.inv_range {N : Addr → Prop} {h : Heap} {v : Value} {a b c : Int} (r : Rep N h v (.range a b c)) : ∃ r t u w, v = .ref r ∧ ¬ N r ∧ IsRange h r a b c t u w ∧ (small a && small b && decide (1 ≤ c) && small c) = true := by
  cases r with | range r _ _ _ t u w hn hr hs => exact ⟨r, t, u, w, rfl, hn, hr, hs⟩
theorem Rep.mk_list {N : Addr → Prop} {h : Heap} {a : Addr} {vs : List Value} {ds : List D} (hn : ¬ N a) (ha : h.PlainList a vs.toArray) (hl : vs.length ≤ LIM) (r : RepAll N h vs ds) : Rep N h (.ref a) (.list ds) := .list a vs ds hn ha hl r.1 r.2
theorem Rep.scalar_any {N N' : Addr → Prop} {h h' : Heap} {v : Value} {d : D} (hd : scalar d = true) (r : Rep N h v d) : Rep N' h' v d := by
  cases r with
  | none => exact .none
  | bool b => exact .bool b
  | int i t => exact .int i t
  | str s t hs => exact .str s t hs
  | tup => cases hd
  | list => cases hd
  | range => cases hd

theorem LIM_eq : LIM = sizeLine := by decide
end Mine
end
/-! P1 -/
section
open PySem PySem.W PyProof.Rows
namespace Mine

noncomputable abbrev NoE : Value → Shared → Prop := fun _ _ => False

/-- what an operation gives: the datum, all else as it was; a list is a new one -/
structure Ok (N : Addr → Prop) (s : Shared) (d : D) (v : Value) (s' : Shared) : Prop where
  grow : Grow s s'
  rep : Rep N s'.heap v d
  new : ∀ xs, d = .list xs → ∃ a vs, v = .ref a ∧ s.heap.get? a = none ∧ s'.heap.PlainList a vs

noncomputable def pyBop : Bop → Operator
  | .add => .Add | .sub => .Sub | .mul => .Mult | .fdiv => .FloorDiv | .mod => .Mod
noncomputable def pyCop : Cop → CmpOp
  | .eq => .Eq | .ne => .NotEq | .lt => .Lt | .le => .LtE | .gt => .Gt | .ge => .GtE | .isNone => .Is | .notNone => .IsNot | .isIn => .In | .notIn => .NotIn

section
variable {prog : Program} {w : World} {A : Around} {s : Shared} {N : Addr → Prop}

theorem Ok.int {i : Int} {t : Nat} : Ok N s (.int i) (.int i t) s := ⟨Grow.rfl' _, .int _ _, fun _ e => by cases e⟩
theorem Ok.int' {i : Int} {t k : Nat} : Ok N s (.int i) (.int i t) { s with toks := k } := ⟨Grow.toks _ _, .int _ _, fun _ e => by cases e⟩
theorem Ok.str' {x : List Nat} {t k : Nat} (h : x.length ≤ LIM) : Ok N s (.str x) (.str ⟨x.toArray⟩ t) { s with toks := k } := ⟨Grow.toks _ _, .str _ _ h, fun _ e => by cases e⟩
theorem Ok.newList {vs : List Value} {ds : List D} {k : Nat} (hN : Alive N s.heap) (hl : vs.length ≤ LIM) (r : RepAll N s.heap vs ds) :
    Ok N s (.list ds) (.ref s.heap.objs.size) { s with heap := s.heap.push { cls := .type "list", data := .seq vs.toArray }, toks := k } := by
  have hp : (s.heap.push { cls := .type "list", data := .seq vs.toArray }).PlainList s.heap.objs.size vs.toArray := ⟨0, Heap.get?_push_size _ rfl⟩
  exact ⟨Grow.push _ _ _, Rep.mk_list (hN.not (get_size _)) hp hl (r.grow (Grow.push s _ k)), fun _ _ => ⟨_, _, rfl, get_size _, hp⟩⟩
theorem RepAll.rep {h : Heap} {vs : List Value} {ds : List D} (r : RepAll N h vs ds) : ∀ n : Nat, RepAll N h (List.replicate n vs).flatten (List.replicate n ds).flatten
  | 0 => .nil
  | n + 1 => by simp only [List.replicate_succ, List.flatten_cons]; exact r.append (RepAll.rep r n)

theorem binD_sound {op : Bop} {a b d : D} {v u : Value} (hN : Alive N s.heap) (ra : RepT N s.heap v a) (rb : RepT N s.heap u b) (e : binD op a b = some d) :
    wpAny (model prog w) A (binaryOp (pyBop op) v u) (Ok N s d) NoE s := by
  unfold binD at e
  split at e
  · cases e
    obtain ⟨t, rfl⟩ := Rep.inv_int ra; obtain ⟨t', rfl⟩ := Rep.inv_int rb
    exact add_int .int'
  · split at e
    · cases e
      rename_i x y hlen
      obtain ⟨t, rfl, h1⟩ := Rep.inv_str ra; obtain ⟨t', rfl, h2⟩ := Rep.inv_str rb
      refine P.add_str ?_
      split
      · rename_i h0
        have : x = [] := by simpa [Str.length] using h0
        subst this
        exact ⟨Grow.rfl' _, .str _ _ h2, fun _ e => by cases e⟩
      · split
        · rename_i h0
          have : y = [] := by simpa [Str.length] using h0
          subst this
          exact ⟨Grow.rfl' _, by simpa using Rep.str (N := N) (h := s.heap) x t h1, fun _ e => by cases e⟩
        · have hx : (⟨x.toArray⟩ : Str) ++ (⟨y.toArray⟩ : Str) = ⟨(x ++ y).toArray⟩ := by show Str.append _ _ = _; simp [Str.append]
          rw [hx]
          exact ⟨by show (x ++ y).toArray.size ≤ sizeLine; rw [← LIM_eq]; simpa using hlen, Ok.str' (by simpa using hlen)⟩
    · cases e
  · split at e
    · cases e
      rename_i x y hlen
      obtain ⟨l, vs, rfl, ⟨n, hl⟩, h1, r1⟩ := ra; obtain ⟨l', vs', rfl, ⟨n', hl'⟩, h2, r2⟩ := rb
      refine P.add_list hl hl' ?_ ?_
      · have hv : vs.toArray ++ vs'.toArray = (vs ++ vs').toArray := by simp
        rw [hv]
        exact Ok.newList hN (by simp [r1.1, r2.1]; exact hlen) (r1.append r2)
      · rw [← LIM_eq]; simp [r1.1, r2.1]; exact hlen
    · cases e
  · split at e
    · cases e
      rename_i x y hb
      obtain ⟨t, rfl⟩ := Rep.inv_int ra; obtain ⟨t', rfl⟩ := Rep.inv_int rb
      refine floordiv_int (by omega) ?_ (.inl (PyProof.noPylong_small (by omega)))
      rw [Int.fdiv_eq_ediv_of_nonneg _ (by omega)]
      exact .int'
    · cases e
  · split at e
    · cases e
      rename_i x y hb
      obtain ⟨t, rfl⟩ := Rep.inv_int ra; obtain ⟨t', rfl⟩ := Rep.inv_int rb
      refine mod_int' (by omega) ?_
      rw [Int.fmod_eq_emod_of_nonneg _ (by omega)]
      exact .int'
    · cases e
  · cases e
end
end Mine
end
/-! P2 -/
section
open PySem PySem.W PyProof.Rows PySem.SeqAt
namespace Mine

theorem str_beq (x y : List Nat) : ((⟨x.toArray⟩ : Str) == ⟨y.toArray⟩) = (x == y) := by
  rw [Bool.eq_iff_iff]
  simp only [beq_iff_eq, Str.mk.injEq]
  constructor
  · intro h; exact List.toArray_inj h
  · intro h; rw [h]

section
variable {prog : Program} {w : World} {A : Around} {s : Shared} {N : Addr → Prop}

theorem eqS_at {a b : D} {v u : Value} {k : Bool} (hu : A.units + 10 < cLine) (ra : RepT N s.heap v a) (rb : RepT N s.heap u b) (e : eqS a b = some k) :
    RcAt A s v u k ∧ RcNeAt A s v u (!k) := by
  unfold eqS at e
  split at e
  · cases e; obtain ⟨t, rfl, _⟩ := Rep.inv_str ra; obtain ⟨t', rfl, _⟩ := Rep.inv_str rb
    rw [← str_beq]
    exact ⟨RcAt.str_str _ _ _ _, RcNeAt.str_str _ _ _ _⟩
  · cases e

theorem cmpD_sound {op : Cop} {a b : D} {v u : Value} {k : Bool} (hu : A.units + 10 < cLine) (ra : RepT N s.heap v a) (rb : RepT N s.heap u b) (e : cmpD op a b = some k) :
    wpAny (model prog w) A (compareOp (pyCop op) v u) (fun r s' => r = .bool k ∧ Grow s s') NoE s := by
  unfold cmpD at e
  split at e
  · exact (eqS_at hu ra rb e).1 prog w _ _ ⟨rfl, Grow.rfl' _⟩
  · simp only [Option.map_eq_some_iff] at e
    obtain ⟨k, e, rfl⟩ := e
    exact (eqS_at hu ra rb e).2 prog w _ _ ⟨rfl, Grow.rfl' _⟩
  · cases e

theorem truthD_sound {d : D} {v : Value} {k : Bool} (ra : RepT N s.heap v d) (e : truthD d = some k) :
    wpAny (model prog w) A (truthy v) (fun b s' => b = k ∧ Grow s s') NoE s := by
  unfold truthD at e
  split at e
  · cases e; obtain rfl := Rep.inv_bool ra; exact wpAny_truthy_bool ⟨rfl, Grow.rfl' _⟩
  · rename_i x
    cases e; obtain ⟨a, vs, rfl, hl, hx, r⟩ := ra
    have hL : LIM = 16777216 := rfl
    refine wpAny_truthy_list hl.isList (by simp; omega) ⟨?_, Grow.toks _ _⟩
    have := r.1
    cases vs <;> cases x <;> simp_all
  · cases e
end
end Mine
end
/-! P3 -/
section
open PySem PySem.W PyProof.Rows PySem.SeqAt
namespace Mine

theorem place_seqIndex {i : Int} {n k : Nat} (h : place? i n = some k) : seqIndex? i n = some k := by
  unfold place? at h
  unfold seqIndex?
  split at h
  · split at h
    · cases h
      simp only [show ¬ i < 0 from by omega, if_false]
      rw [if_pos (by simp only [Bool.and_eq_true, decide_eq_true_eq]; omega)]
    · cases h
  · split at h
    · cases h
      simp only [show i < 0 from by omega, if_true]
      rw [if_pos (by simp only [Bool.and_eq_true, decide_eq_true_eq]; omega)]
    · cases h
theorem place_bounds {i : Int} {n k : Nat} (h : place? i n = some k) : -(n : Int) ≤ i ∧ i < n ∧ k < n := by
  unfold place? at h
  split at h
  · split at h
    · cases h; omega
    · cases h
  · split at h
    · cases h; omega
    · cases h
theorem clip_eq (n : Nat) (i : Int) : clip n i = clipAt n i := by
  unfold clip clipAt
  split
  · omega
  · omega

section
variable {prog : Program} {w : World} {A : Around} {s : Shared} {N : Addr → Prop}

theorem idx_sound {value slice : Expr} {a b d : D} {v u : Value} (ra : RepT N s.heap v a) (rb : RepT N s.heap u b) (e : idxD a b = some d)
    (hs : ∀ o i, subscripted slice false o i = operate [o, i] (getItem o i)) :
    wpAny (model prog w) A (subscriptTail value slice v u) (fun r s' => Grow s s' ∧ Rep N s'.heap r d) NoE s := by
  have hL : LIM = 16777216 := rfl
  unfold idxD at e
  split at e
  · rename_i xs i
    obtain ⟨l, vs, rfl, hl, h1, r1⟩ := ra
    obtain ⟨t, rfl⟩ := Rep.inv_int rb
    simp only [Option.bind_eq_some_iff] at e
    obtain ⟨k, hk, hd⟩ := e
    obtain ⟨b1, b2, b3⟩ := place_bounds hk
    rw [← r1.1] at hk b1 b2 b3
    have hx : vs[k]? = some vs[k] := by simp
    have hr := r1.2 k _ _ hx hd
    refine tail_any hl.isList.typeIs slot_list_getitem.lookup ?_ (hs _ _)
    by_cases h0 : 0 ≤ i
    · refine wpAny_getItem_list (x := vs[k]) hl.isList h0 (by omega) ?_ ⟨Grow.rfl' _, hr⟩
      unfold place? at hk
      rw [if_pos h0, if_pos b2] at hk
      cases hk; simp
    · refine wpAny_getItem_list_neg (x := vs[k]) hl.isList (by omega) (by simp; omega) (by omega) ?_ ⟨Grow.rfl' _, hr⟩
      unfold place? at hk
      rw [if_neg h0, if_pos (by omega)] at hk
      cases hk; simp
  · cases e

theorem part_is {d : D} {v : Value} {o : Option Int} (r : RepT N s.heap v d) (e : part? d = some o) : (∃ t : Option (Int × Tok), v = partValue t ∧ o = t.map (·.1)) ∧ IsPart v o := by
  unfold part? at e
  split at e
  · cases e; obtain rfl := Rep.inv_none r; exact ⟨⟨none, rfl, rfl⟩, .none⟩
  · cases e; obtain ⟨t, rfl⟩ := Rep.inv_int r; exact ⟨⟨some (_, t), rfl, rfl⟩, .int _ _⟩
  · cases e

theorem strSlice_cut (x : List Nat) (lo hi : Option Int) : (Builtin.Str.strSliceIndices lo hi 1 x.length).filterMap (x.toArray[·]?) = cut x lo hi := by
  have h : Builtin.Str.strSliceIndices lo hi 1 x.length = sliceRange (sliceBounds lo hi none x.length).1 (sliceBounds lo hi none x.length).2.1 1 := by
    cases lo <;> cases hi <;> simp [Builtin.Str.strSliceIndices, sliceBounds]
  rw [h, sliceBounds_plain]
  simp only [sliceRange_one]
  rw [pick_run]
  unfold cut
  cases lo <;> cases hi <;> simp [clip_eq]

theorem slice_sound {value : Expr} {lower upper : Option Expr} {p : Pos} {a l u d : D} {v vl vu : Value} {sl : Addr} (hN : Alive N s.heap) (ra : RepT N s.heap v a) (rl : RepT N s.heap vl l) (ru : RepT N s.heap vu u)
    (hsl : s.heap.get? sl = some { cls := .type "slice", data := .fields #[vl, vu, .none] }) (e : sliceD a l u = some d) :
    wpAny (model prog w) A (subscriptTail value (.Slice lower upper none p) v (.ref sl)) (Ok N s d) NoE s := by
  have hL : LIM = 16777216 := rfl
  unfold sliceD at e
  simp only [bind, Option.bind_eq_some_iff] at e
  obtain ⟨lo, elo, hi, ehi, e⟩ := e
  obtain ⟨⟨tl, rfl, hlo⟩, pl⟩ := part_is rl elo
  obtain ⟨⟨tu, rfl, hhi⟩, pu⟩ := part_is ru ehi
  split at e
  · rename_i xs
    cases e
    obtain ⟨b, vs, rfl, hl, h1, r1⟩ := ra
    refine tail_any (ops := [.ref sl, .ref b]) hl.isList.typeIs slot_list_getitem.lookup ?_ rfl
    refine wpAny_getItem_list_slice hl.isList ⟨_, hsl, rfl, rfl⟩ pl pu .none (by simp) ?_ (by rw [← LIM_eq]; simpa using h1)
    rw [slicePick_plain]
    have hc : (List.drop (lo.elim 0 (clipAt vs.toArray.size)) vs.toArray.toList).take (hi.elim vs.toArray.size (clipAt vs.toArray.size) - lo.elim 0 (clipAt vs.toArray.size)) = cut vs lo hi := by
      unfold cut
      cases lo <;> cases hi <;> simp [clip_eq]
    rw [hc]
    refine Ok.newList hN ?_ ?_
    · unfold cut; simp only [List.length_take, List.length_drop]; omega
    · unfold cut
      have hlen : xs.length = vs.length := r1.1.symm
      rw [hlen]
      exact (r1.drop _).take _
  · rename_i x
    cases e
    obtain ⟨t, rfl, h1⟩ := Rep.inv_str ra
    refine tail_any (ops := [.ref sl, .str ⟨x.toArray⟩ t]) (typeIs_str s _ _) F.slot_str_getitem.lookup ?_ rfl
    refine wpAny_getItem_str_slice (l := tl) (u := tu) (st := none) ⟨_, hsl, rfl, rfl⟩ rfl ?_
    have hx : (slicePicked ⟨x.toArray⟩ tl tu none).filterMap ((Str.cps ⟨x.toArray⟩)[·]?) = cut x lo hi := by
      rw [hlo, hhi, ← strSlice_cut]
      simp [slicePicked, Str.length]
    have hlen : (cut x lo hi).length ≤ x.length := by unfold cut; simp only [List.length_take, List.length_drop]; omega
    unfold sliceMade
    split
    · rename_i hc
      rw [Bool.and_eq_true] at hc
      have hfull : cut x lo hi = x := by
        have h2 : (slicePicked ⟨x.toArray⟩ tl tu none).length = x.length := by simpa [Str.length] using hc.2
        have h3 : (cut x lo hi).length = x.length := by
          rw [← hx]
          have hsub : ∀ k ∈ slicePicked ⟨x.toArray⟩ tl tu none, k < x.length := by
            intro k hk
            have h : Builtin.Str.strSliceIndices lo hi 1 x.length = sliceRange (sliceBounds lo hi none x.length).1 (sliceBounds lo hi none x.length).2.1 1 := by
              cases lo <;> cases hi <;> simp [Builtin.Str.strSliceIndices, sliceBounds]
            have hk' : k ∈ Builtin.Str.strSliceIndices lo hi 1 x.length := by
              rw [hlo, hhi]; simpa [slicePicked, Str.length] using hk
            rw [h, sliceBounds_plain] at hk'
            simp only [sliceRange_one, List.mem_map, List.mem_range] at hk'
            obtain ⟨j, hj, rfl⟩ := hk'
            have hb : hi.elim x.length (clipAt x.length) ≤ x.length := by
              cases hi with
              | none => simp
              | some i => simp only [Option.elim]; unfold clipAt; omega
            omega
          rw [List.length_filterMap_eq_countP, ← h2, List.countP_eq_length]
          intro k hk
          simp [hsub k hk]
        unfold cut at h3 ⊢
        simp only [List.length_take, List.length_drop] at h3
        have hb : hi.elim x.length (clip x.length) ≤ x.length := by
          cases hi with
          | none => simp
          | some i => simp only [Option.elim]; rw [clip_eq]; unfold clipAt; omega
        by_cases hz : x.length = 0
        · have : x = [] := List.length_eq_zero_iff.mp hz
          subst this; simp
        · have h4 : lo.elim 0 (clip x.length) = 0 := by omega
          have h5 : hi.elim x.length (clip x.length) = x.length := by omega
          rw [h4, h5]; simp
      rw [hfull]
      exact ⟨Grow.rfl' _, .str _ _ h1, fun _ e => by cases e⟩
    · show _ ∧ _
      rw [hx]
      exact ⟨by show (cut x lo hi).toArray.size ≤ sizeLine; rw [← LIM_eq]; simp; omega, Ok.str' (by omega)⟩
  · cases e
end
end Mine
end
/-! P4 -/
section
open PySem PySem.W PyProof.Rows PySem.SeqAt
namespace Mine

theorem small_range {a b c : Int} (h : (small a && small b && decide (1 ≤ c) && small c) = true) : Builtin.Range.small a b c = true ∧ Builtin.Range.rangeSize a b c = (rangeD a b c).length ∧ ∀ i : Nat, i < (rangeD a b c).length → (rangeD a b c)[i]? = some (a + i * c) := by
  simp only [small, Bool.and_eq_true, decide_eq_true_eq] at h
  obtain ⟨⟨⟨h1, h3⟩, h5⟩, h6⟩ := h
  have hc : 0 < c := by omega
  have hsz : Builtin.Range.rangeSize a b c = (((b - a + c - 1) / c).toNat : Int) := by
    unfold Builtin.Range.rangeSize
    rw [if_pos (by omega)]
    by_cases hab : a < b
    · rw [if_pos hab]
      have e : b - a + c - 1 = (b - a - 1) + c := by omega
      rw [e, Int.add_ediv_of_dvd_right (Int.dvd_refl _), Int.ediv_self (by omega)]
      have : 0 ≤ (b - a - 1) / c := Int.ediv_nonneg (by omega) (by omega)
      omega
    · rw [if_neg hab]
      have e : (b - a + c - 1) / c ≤ 0 := by
        have : (b - a + c - 1) / c < 1 := Int.ediv_lt_of_lt_mul hc (by omega)
        omega
      omega
  have hlen : ((rangeD a b c).length : Int) = (((b - a + c - 1) / c).toNat : Int) := by simp [rangeD, hc]
  have hle : (((b - a + c - 1) / c).toNat : Int) ≤ 2 ^ 43 := by
    have : (b - a + c - 1) / c ≤ 2 ^ 43 := by
      apply Int.ediv_le_of_le_mul hc
      have : (2 ^ 43 : Int) * 1 ≤ 2 ^ 43 * c := Int.mul_le_mul_of_nonneg_left (by omega) (by omega)
      omega
    omega
  refine ⟨?_, hsz.trans hlen.symm, fun i hi => ?_⟩
  · unfold Builtin.Range.small
    rw [hsz]
    simp only [Builtin.Range.rangeFitsLong, Bool.and_eq_true, Bool.or_eq_true, decide_eq_true_eq, beq_iff_eq]
    rw [if_pos (by omega)]
    simp only [Bool.and_eq_true, decide_eq_true_eq]
    omega
  · simp only [rangeD, if_pos hc, List.length_map, List.length_range] at hi ⊢
    simp [List.getElem?_map, List.getElem?_range hi, Int.mul_comm]

noncomputable def fnVal : Fn → Value
  | .len => .builtin "len" | .min => .builtin "min" | .max => .builtin "max" | .sum => .builtin "sum" | .chr => .builtin "chr" | .ord => .builtin "ord"
  | .range => .type "range" | .list => .type "list" | .isBool => .builtin "isinstance"
noncomputable def fnArgs (f : Fn) (vs : List Value) : List Value := match f with
  | .isBool => vs ++ [.type "bool"]
  | _ => vs

section
variable {prog : Program} {w : World} {A : Around} {s : Shared} {N : Addr → Prop}

theorem Ok.newRange {a b c : Int} {t u v : Tok} {k : Nat} (hN : Alive N s.heap) (h : (small a && small b && decide (1 ≤ c) && small c) = true) :
    Ok N s (.range a b c) (.ref s.heap.objs.size) { s with heap := s.heap.push { cls := .type "range", data := .fields #[.int a t, .int b u, .int c v] }, toks := k } :=
  ⟨Grow.push _ _ _, .range _ a b c t u v (hN.not (get_size _)) (Heap.get?_push_size _ rfl) h, fun _ e => by cases e⟩

theorem RepTAll.one {vs : List Value} {d : D} (r : RepTAll N s.heap vs [d]) : ∃ v, vs = [v] ∧ RepT N s.heap v d := by
  match vs, r with
  | [v], r => exact ⟨v, rfl, r.1⟩
theorem RepTAll.two {vs : List Value} {d e : D} (r : RepTAll N s.heap vs [d, e]) : ∃ v u, vs = [v, u] ∧ RepT N s.heap v d ∧ RepT N s.heap u e := by
  match vs, r with
  | [v, u], r => exact ⟨v, u, rfl, r.1, r.2.1⟩
theorem fnD_sound {f : Fn} {ds : List D} {d : D} {vs : List Value} (hh : A.handled = none) (hN : Alive N s.heap) (r : RepTAll N s.heap vs ds) (e : fnD f ds = some d) :
    wpAny (model prog w) A (call (fnVal f) (fnArgs f vs)) (Ok N s d) NoE s := by
  have hL : LIM = 16777216 := rfl
  unfold fnD at e
  split at e
  · cases e; obtain ⟨v, rfl, q⟩ := r.one
    obtain ⟨t, rfl, h1⟩ := Rep.inv_str q
    refine P.len_str (by simp [Str.length]; omega) ?_
    simp only [Str.length, List.size_toArray]
    exact .int'
  · cases e; obtain ⟨v, u, rfl, r1, r2⟩ := r.two
    obtain ⟨t, rfl⟩ := Rep.inv_int r1; obtain ⟨t', rfl⟩ := Rep.inv_int r2
    refine min_two_ints hh fun h' tk hk => ?_
    refine ⟨Grow.of hk, ?_, fun _ e => by cases e⟩
    split
    · rw [Int.min_eq_right (by omega)]; exact .int _ _
    · rw [Int.min_eq_left (by omega)]; exact .int _ _
  · split at e
    · rename_i i hi
      cases e
      obtain ⟨v, rfl, q⟩ := r.one
      obtain ⟨t, rfl⟩ := Rep.inv_int q
      refine P.chr_of_int (by simp only [Bool.or_eq_false_iff, decide_eq_false_iff_not]; omega) ?_
      exact Ok.str' (x := [i.toNat]) (by simp [LIM])
    · cases e
  · split at e
    · rename_i b hb
      cases e
      obtain ⟨v, rfl, q⟩ := r.one
      obtain ⟨t, rfl⟩ := Rep.inv_int q
      exact call_range_1 (Ok.newRange hN (by simp only [hb, Bool.and_true]; decide))
    · cases e
  · split at e
    · rename_i a b hb
      cases e
      obtain ⟨v, u, rfl, r1, r2⟩ := r.two
      obtain ⟨t, rfl⟩ := Rep.inv_int r1; obtain ⟨t', rfl⟩ := Rep.inv_int r2
      exact call_range_2 (Ok.newRange hN (by simp only [hb, Bool.true_and]; decide))
    · cases e
  · simp only at e
    split at e
    · rename_i a b c hb
      cases e
      obtain ⟨v, rfl, q⟩ := r.one
      obtain ⟨x, t, u, w', rfl, hn, hr, hs⟩ := Rep.inv_range q
      obtain ⟨g1, g2, g3⟩ := small_range hs
      refine call_list_range hh hr g1 g2 (by omega) fun h' tk acc' c' hk hS' hacc => ?_
      have hp : h'.PlainList s.heap.objs.size acc'.toList.toArray := ⟨c', by simpa using hS'⟩
      refine ⟨Grow.of hk, Rep.mk_list (hN.not (get_size _)) hp ?_ ⟨?_, fun i v d e1 e2 => ?_⟩, fun _ _ => ⟨_, _, rfl, get_size _, hp⟩⟩
      · have := hacc.1; simp; omega
      · have := hacc.1; simp; omega
      · obtain ⟨t, rfl⟩ := hacc.2 i v (by simpa using e1)
        rw [List.getElem?_map] at e2
        have hi : i < (rangeD a b c).length := by
          have := List.getElem?_eq_some_iff.mp e1
          obtain ⟨q, _⟩ := this
          have := hacc.1; simp at q; omega
        rw [g3 i hi] at e2
        cases e2
        exact .int _ _
    · cases e
  · cases e
end
end Mine
end
/-! P5 -/
section
open PySem PySem.W PyProof.Rows PySem.SeqAt
open PySem.Builtin.Str (strSub occurrences partsBetween subAt spaceWords tooLong glued)
set_option linter.unusedSimpArgs false
namespace Mine

/-! ## texts of the model and lists of signs -/
noncomputable abbrev S (x : List Nat) : Str := ⟨x.toArray⟩
theorem S_length (x : List Nat) : (S x).length = x.length := by simp [S, Str.length]

/-! ## words -/
/-! ## strip -/
/-! ## join -/
end Mine
end
/-! P6 -/
section
open PySem PySem.W PyProof.Rows PySem.SeqAt
open PySem.Builtin.Str (strSub occurrences partsBetween subAt spaceWords tooLong glued)
set_option linter.unusedSimpArgs false
namespace Mine

section
variable {prog : Program} {w : World} {A : Around} {s : Shared} {N : Addr → Prop}

end
end Mine
end
/-! R1 -/
section
open PySem PySem.W PyProof.Rows
open PySem.Sre
set_option linter.unusedSimpArgs false
namespace Mine

noncomputable def code1 : Array Nat := #[14, 4, 0, 1, 4294967295, 17, 0, 24, 9, 1, 4294967295, 13, 4, 8, 12, 0, 1, 17, 1, 1]
noncomputable def code2 : Array Nat := #[14, 4, 0, 0, 4294967295, 6, 0, 24, 9, 0, 4294967295, 13, 4, 8, 12, 0, 1, 6, 5, 1]
noncomputable def code3 : Array Nat := #[14, 4, 0, 0, 4294967295, 6, 0, 17, 0, 24, 11, 0, 4294967295, 13, 6, 16, 32, 16, 9, 0, 1, 17, 1, 1]

theorem acc1 (c : Nat) (seen : Sre.Seen) : ∃ seen', accepts code1 11 c seen = .ok (isWs c, seen') := by
  have h : accepts code1 11 c seen = inSet code1 c 20 13 true seen := rfl
  rw [h]
  have h2 : inSet code1 c 20 13 true seen = (do if ← category 12 c then pure (true, (seen.add 8).add 67) else inSet code1 c 19 15 true ((seen.add 8).add 67)) := rfl
  rw [h2]
  have h3 : category 12 c = .ok (isWs c) := by
    show (Except.ok (Unicode.isSpace c) : Except String Bool).map (· != (12 % 2 == 1)) = _
    simp [Except.map, isWs]
  rw [h3]
  cases hc : isWs c
  · exact ⟨_, rfl⟩
  · exact ⟨_, rfl⟩
theorem acc2 (c : Nat) (seen : Sre.Seen) : ∃ seen', accepts code2 11 c seen = .ok (isWs c, seen') := by
  have h : accepts code2 11 c seen = inSet code2 c 20 13 true seen := rfl
  rw [h]
  have h2 : inSet code2 c 20 13 true seen = (do if ← category 12 c then pure (true, (seen.add 8).add 67) else inSet code2 c 19 15 true ((seen.add 8).add 67)) := rfl
  rw [h2]
  have h3 : category 12 c = .ok (isWs c) := by
    show (Except.ok (Unicode.isSpace c) : Except String Bool).map (· != (12 % 2 == 1)) = _
    simp [Except.map, isWs]
  rw [h3]
  cases hc : isWs c
  · exact ⟨_, rfl⟩
  · exact ⟨_, rfl⟩
theorem acc3 (c : Nat) (seen : Sre.Seen) : ∃ seen', accepts code3 13 c seen = .ok (c == 32 || c == 9, seen') := by
  have h : accepts code3 13 c seen = inSet code3 c 24 15 true seen := rfl
  rw [h]
  have h2 : inSet code3 c 24 15 true seen = if (c == 32) = true then .ok (true, seen.add 16) else if (c == 9) = true then .ok (true, (seen.add 16).add 16) else .ok (false, ((seen.add 16).add 16).add 0) := rfl
  rw [h2]
  cases h3 : (c == 32) <;> cases h4 : (c == 9) <;> exact ⟨_, rfl⟩

/-- the run of an item that takes the signs of p -/
theorem run_eq {code : Array Nat} {i : Nat} {p : Nat → Bool} (ha : ∀ c seen, ∃ seen', accepts code i c seen = .ok (p c, seen')) (x : List Nat) :
    ∀ (l : List Nat) (n q found : Nat) (seen : Sre.Seen), x.drop q = l → n = l.length → ∃ seen', run code x.toArray i n q found seen = .ok (found + (l.takeWhile p).length, seen')
  | [], n, q, found, seen, hl, hn => by subst hn; exact ⟨seen, rfl⟩
  | y :: r, n, q, found, seen, hl, hn => by
    subst hn
    have hr : x.drop (q + 1) = r := by
      have : x.drop (q + 1) = (x.drop q).drop 1 := by rw [List.drop_drop]
      rw [this, hl]; rfl
    have hy : x.toArray.getD q 0 = y := by
      have := congrArg (fun l => l[0]?) hl
      simp at this
      simp [Array.getD_eq_getD_getElem?, this]
    obtain ⟨seen', e⟩ := ha y seen
    show ∃ seen', (do let (yes, seen) ← accepts code i (x.toArray.getD q 0) seen; if yes then run code x.toArray i r.length (q + 1) (found + 1) seen else pure (found, seen)) = _
    rw [hy, e]
    cases hp : p y
    · exact ⟨seen', by simp [List.takeWhile, hp]; rfl⟩
    · obtain ⟨s2, e2⟩ := run_eq ha x r r.length (q + 1) (found + 1) seen' hr rfl
      refine ⟨s2, ?_⟩
      show run code x.toArray i r.length (q + 1) (found + 1) seen' = _
      rw [e2]
      simp [List.takeWhile, hp]; omega

/-! ## the machine's steps -/
noncomputable def iter : Nat → M → M
  | 0, m => m
  | n + 1, m => iter n m.step
theorem iter_add (a b : Nat) (m : M) : iter (a + b) m = iter b (iter a m) := by
  induction a generalizing m with
  | zero => simp [iter]
  | succ a ih => rw [Nat.succ_add]; exact ih m.step
theorem step_done {m : M} (h : m.outcome.isSome = true) : m.step = m := by unfold M.step; rw [if_pos h]
theorem iter_done {m : M} (h : m.outcome.isSome = true) : ∀ n, iter n m = m
  | 0 => rfl
  | n + 1 => by rw [iter, step_done h]; exact iter_done h n
theorem runFor_iter : ∀ (n : Nat) (m : M), m.runFor n = iter n m
  | 0, _ => rfl
  | n + 1, m => by
    unfold M.runFor
    split
    · rename_i h; rw [iter_done h]
    · rw [runFor_iter n]; rfl


/-! ### the second pattern: all white -/
theorem step2_at {text : Array Nat} {lim : Nat} {marks : Array (Option Nat)} {seen : Sre.Seen} {handed : Nat} :
    ∃ seen', M.step { code := code2, text, lim, start := 0, pc := 5, pos := 0, handed, marks, seen } = { code := code2, text, lim, start := 0, pc := 7, pos := 0, handed, marks, seen := seen' } := ⟨_, rfl⟩

noncomputable abbrev gb2 (n : Nat) : Sre.Frame := { wait := .giveBack, pc := 7, pos := n, outermost := true, count := n }
/-- behind the run, n signs taken -/
noncomputable abbrev at2 (x : List Nat) (n : Nat) (seen : Sre.Seen) : M :=
  { code := code2, text := x.toArray, lim := x.length, start := 0, pc := 17, pos := n, handed := n, marks := #[], seen, frames := [gb2 n], weight := 1 }

theorem step2_rep (x : List Nat) (hx : x.length < 1000000) {seen : Sre.Seen} {handed : Nat} :
    ∃ seen', M.step { code := code2, text := x.toArray, lim := x.length, start := 0, pc := 7, pos := 0, handed, marks := #[], seen } = at2 x (x.takeWhile isWs).length seen' := by
  have hmin : min 4294967295 ((x.length : Int) - ((0 : Nat) : Int)).toNat = x.length := by simp; omega
  obtain ⟨s1, h1⟩ := run_eq (fun c seen => acc2 c seen) x x x.length 0 0 ((seen.add 24).add 13) (by simp) rfl
  refine ⟨s1, ?_⟩
  unfold M.step
  rw [if_neg (by simp)]
  show (if 7 < code2.size then M.exec _ else _) = _
  rw [if_pos (by decide)]
  unfold M.exec
  show (if ((0 : Nat) : Int) > ((x.length : Int) - ((0 : Nat) : Int)) then _ else match run code2 x.toArray 11 (min 4294967295 ((x.length : Int) - ((0 : Nat) : Int)).toNat) 0 0 ((seen.add 24).add 13) with | .error why => _ | .ok (n, seen) => _) = _
  rw [if_neg (by simp), hmin, h1, Nat.zero_add]
  show (if (x.takeWhile isWs).length < 0 then _ else _) = _
  rw [if_neg (by omega)]
  dsimp only
  rw [Nat.zero_add]
  rfl

theorem match2_end (x : List Nat) (seen : Sre.Seen) : ∃ m, iter 4 (at2 x x.length seen) = m ∧ m.outcome = some .matched := by
  have h1 : M.step (at2 x x.length seen) = { at2 x x.length ((seen.add 6).add 48) with pc := 19 } := by
    unfold M.step
    rw [if_neg (by simp)]
    show (if 17 < code2.size then M.exec _ else _) = _
    rw [if_pos (by decide)]
    unfold M.exec
    show (if (x.length == x.length || (x.length + 1 == x.length && x.toArray.getD x.length 0 == 10)) = true then _ else _) = _
    rw [if_pos (by simp)]
    rfl
  refine ⟨_, rfl, ?_⟩
  show (iter 3 (M.step (at2 x x.length seen))).outcome = _
  rw [h1]
  rfl

theorem step2_no (x : List Nat) (n : Nat) (hn : n < x.length) (h10 : ¬ (n + 1 = x.length ∧ x.toArray.getD n 0 = 10)) (seen : Sre.Seen) :
    M.step (at2 x n seen) = { at2 x n ((seen.add 6).add 48) with answer := some false } := by
  unfold M.step
  rw [if_neg (by simp)]
  show (if 17 < code2.size then M.exec _ else _) = _
  rw [if_pos (by decide)]
  unfold M.exec
  show (if (n == x.length || (n + 1 == x.length && x.toArray.getD n 0 == 10)) = true then _ else _) = _
  rw [if_neg (by simp only [Bool.or_eq_true, beq_iff_eq, Bool.and_eq_true]; intro h; rcases h with h | h; omega; exact h10 h)]
  rfl

theorem fail2 (x : List Nat) : ∀ (n : Nat) (seen : Sre.Seen), n < x.length → (∀ k, k ≤ n → ¬ (k + 1 = x.length ∧ x.toArray.getD k 0 = 10)) → ∃ m, iter (2 * n + 3) (at2 x n seen) = m ∧ m.outcome = some .failed
  | 0, seen, hn, h10 => by
    refine ⟨_, rfl, ?_⟩
    show (iter 2 (M.step (at2 x 0 seen))).outcome = _
    rw [step2_no x 0 hn (h10 0 (Nat.le_refl _))]
    rfl
  | n + 1, seen, hn, h10 => by
    obtain ⟨m, h1, h2⟩ := fail2 x n ((seen.add 6).add 48) (by omega) fun k hk => h10 k (by omega)
    refine ⟨m, ?_, h2⟩
    rw [show 2 * (n + 1) + 3 = (2 * n + 3) + 1 + 1 from by omega]
    show iter (2 * n + 3) (M.step (M.step (at2 x (n + 1) seen))) = m
    rw [step2_no x (n + 1) hn (h10 _ (Nat.le_refl _))]
    have : M.step { at2 x (n + 1) ((seen.add 6).add 48) with answer := some false } = at2 x n ((seen.add 6).add 48) := by
      unfold M.step
      rw [if_neg (by simp)]
      show M.resume _ _ false = _
      unfold M.resume
      show (if (((n + 1 : Nat) : Int) - 1 < ((0 : Nat) : Int)) then _ else _) = _
      rw [if_neg (by omega)]
      have hc : (((n + 1 : Nat) : Int) - 1) = (n : Int) := by omega
      show M.afterRun _ _ (((n + 1 : Nat) : Int) - 1) _ = _
      rw [hc]
      rfl
    rw [this, h1]

theorem takeWhile_all (p : Nat → Bool) : ∀ x : List Nat, x.all p = true → (x.takeWhile p).length = x.length
  | [], _ => rfl
  | y :: r, h => by
    rw [List.all_cons, Bool.and_eq_true] at h
    simp [List.takeWhile, h.1, takeWhile_all p r h.2]
theorem takeWhile_le (p : Nat → Bool) : ∀ x : List Nat, (x.takeWhile p).length ≤ x.length
  | [] => by simp
  | y :: r => by
    have := takeWhile_le p r
    simp only [List.takeWhile]
    split
    · simp; omega
    · simp
theorem takeWhile_stop (p : Nat → Bool) : ∀ x : List Nat, x.all p = false → (x.takeWhile p).length < x.length ∧ p (x.toArray.getD (x.takeWhile p).length 0) = false
  | [], h => by simp at h
  | y :: r, h => by
    rw [List.all_cons, Bool.and_eq_false_iff] at h
    cases hp : p y
    · simp [List.takeWhile, hp]
    · obtain ⟨h1, h2⟩ := takeWhile_stop p r (h.resolve_left (by simp [hp]))
      simp only [List.takeWhile, hp, List.length_cons]
      refine ⟨by omega, ?_⟩
      simpa [Array.getD_eq_getD_getElem?] using h2

theorem white2 (x : List Nat) (hx : x.length < 1000000) : ∃ K m, K ≤ 3000000 ∧ iter K (Sre.forMatch code2 x.toArray 0 0 x.length false false) = m ∧ m.outcome = some (if x.all isWs then .matched else .failed) := by
  have h0 : Sre.forMatch code2 x.toArray 0 0 x.length false false = { code := code2, text := x.toArray, lim := x.length, start := 0, pc := 5, pos := 0, handed := 0, marks := #[], seen := ({} : Sre.Seen).add 14 } := rfl
  obtain ⟨s1, h1⟩ := step2_at (text := x.toArray) (lim := x.length) (marks := #[]) (seen := ({} : Sre.Seen).add 14) (handed := 0)
  obtain ⟨s2, h2⟩ := step2_rep x hx (seen := s1) (handed := 0)
  have hl : (x.takeWhile isWs).length ≤ x.length := takeWhile_le isWs x
  cases ha : x.all isWs
  · obtain ⟨g1, g2⟩ := takeWhile_stop isWs x ha
    obtain ⟨m, e1, e2⟩ := fail2 x (x.takeWhile isWs).length s2 g1 (by
      intro k hk ⟨q1, q2⟩
      have : k = (x.takeWhile isWs).length := by omega
      rw [this] at q2
      rw [q2] at g2
      exact absurd g2 (by decide))
    refine ⟨2 * (x.takeWhile isWs).length + 3 + 1 + 1, m, by omega, ?_, e2⟩
    show iter (2 * (x.takeWhile isWs).length + 3) (M.step (M.step _)) = m
    rw [h0, h1, h2, e1]
  · rw [takeWhile_all _ _ ha] at h2
    obtain ⟨m, e1, e2⟩ := match2_end x s2
    refine ⟨6, m, by omega, ?_, e2⟩
    show iter 4 (M.step (M.step _)) = m
    rw [h0, h1, h2, e1]

/-! ### the third pattern: the indent -/
theorem indent3 (x : List Nat) (hx : x.length < 1000000) : ∃ K m, K ≤ 3000000 ∧ iter K (Sre.forMatch code3 x.toArray 1 0 x.length false false) = m ∧ m.outcome = some .matched ∧
    m.start = 0 ∧ m.handed = (indentOf x).length ∧ m.lastmark = 1 ∧ m.marks = #[some 0, some (indentOf x).length] := by
  have hmin : min 4294967295 ((x.length : Int) - ((0 : Nat) : Int)).toNat = x.length := by simp; omega
  have h0 : iter 2 (Sre.forMatch code3 x.toArray 1 0 x.length false false) = { code := code3, text := x.toArray, lim := x.length, start := 0, pc := 9, pos := 0, handed := 0, marks := #[some 0, none], lastmark := 0, seen := (((({} : Sre.Seen).add 14).add 6).add 43).add 17 } := rfl
  generalize hs : (((({} : Sre.Seen).add 14).add 6).add 43).add 17 = seen at h0
  obtain ⟨s1, h1⟩ := run_eq (fun c seen => acc3 c seen) x x x.length 0 0 ((seen.add 24).add 13) (by simp) rfl
  have h2 : M.step { code := code3, text := x.toArray, lim := x.length, start := 0, pc := 9, pos := 0, handed := 0, marks := #[some 0, none], lastmark := 0, seen := seen } =
      { code := code3, text := x.toArray, lim := x.length, start := 0, pc := 21, pos := (indentOf x).length, handed := (indentOf x).length, marks := #[some 0, none], lastmark := 0, seen := s1, weight := 1, frames := [{ wait := .giveBack, pc := 9, pos := (indentOf x).length, outermost := true, count := (indentOf x).length, kept := { lastmark := 0 } }] } := by
    unfold M.step
    rw [if_neg (by simp)]
    show (if 9 < code3.size then M.exec _ else _) = _
    rw [if_pos (by decide)]
    unfold M.exec
    show (if ((0 : Nat) : Int) > ((x.length : Int) - ((0 : Nat) : Int)) then _ else match run code3 x.toArray 13 (min 4294967295 ((x.length : Int) - ((0 : Nat) : Int)).toNat) 0 0 ((seen.add 24).add 13) with | .error why => _ | .ok (n, seen) => _) = _
    rw [if_neg (by simp), hmin, h1, Nat.zero_add]
    show (if (indentOf x).length < 0 then _ else _) = _
    rw [if_neg (by omega)]
    show M.afterRun _ _ _ _ = _
    dsimp only
    rw [Nat.zero_add]
    rfl
  generalize (indentOf x).length = n at h2
  obtain ⟨li, hli⟩ : ∃ li : Int, (M.step { code := code3, text := x.toArray, lim := x.length, start := 0, pc := 21, pos := n, handed := n, marks := #[some 0, none], lastmark := 0, seen := s1, weight := 1, frames := [{ wait := .giveBack, pc := 9, pos := n, outermost := true, count := n, kept := { lastmark := 0 } }] }).lastindex = li := ⟨_, rfl⟩
  have h3 : M.step { code := code3, text := x.toArray, lim := x.length, start := 0, pc := 21, pos := n, handed := n, marks := #[some 0, none], lastmark := 0, seen := s1, weight := 1, frames := [{ wait := .giveBack, pc := 9, pos := n, outermost := true, count := n, kept := { lastmark := 0 } }] } =
      { code := code3, text := x.toArray, lim := x.length, start := 0, pc := 23, pos := n, handed := n, marks := #[some 0, some n], lastmark := 1, lastindex := li, seen := s1.add 17, weight := 1, frames := [{ wait := .giveBack, pc := 9, pos := n, outermost := true, count := n, kept := { lastmark := 0 } }] } := by rw [← hli]; rfl
  have h4 : M.step { code := code3, text := x.toArray, lim := x.length, start := 0, pc := 23, pos := n, handed := n, marks := #[some 0, some n], lastmark := 1, lastindex := li, seen := s1.add 17, weight := 1, frames := [{ wait := .giveBack, pc := 9, pos := n, outermost := true, count := n, kept := { lastmark := 0 } }] } =
      { code := code3, text := x.toArray, lim := x.length, start := 0, pc := 23, pos := n, handed := n, marks := #[some 0, some n], lastmark := 1, lastindex := li, seen := (s1.add 17).add 1, weight := 1, frames := [{ wait := .giveBack, pc := 9, pos := n, outermost := true, count := n, kept := { lastmark := 0 } }], answer := some true } := rfl
  have h5 : iter 2 { code := code3, text := x.toArray, lim := x.length, start := 0, pc := 23, pos := n, handed := n, marks := #[some 0, some n], lastmark := 1, lastindex := li, seen := (s1.add 17).add 1, weight := 1, frames := [{ wait := .giveBack, pc := 9, pos := n, outermost := true, count := n, kept := { lastmark := 0 } }], answer := some true } =
      { code := code3, text := x.toArray, lim := x.length, start := 0, pc := 9, pos := n, handed := n, marks := #[some 0, some n], lastmark := 1, lastindex := li, seen := (s1.add 17).add 1, weight := 0, frames := [], answer := some true, outcome := some .matched } := rfl
  have h6 : iter 7 (Sre.forMatch code3 x.toArray 1 0 x.length false false) = iter 2 (M.step (M.step (M.step (iter 2 (Sre.forMatch code3 x.toArray 1 0 x.length false false))))) := rfl
  rw [h0, h2, h3, h4, h5] at h6
  exact ⟨7, _, by omega, h6, rfl, rfl, rfl, rfl, rfl⟩
end Mine
end
/-! R2 -/
section
open PySem PySem.W PyProof.Rows
open PySem.Sre
set_option linter.unusedSimpArgs false
namespace Mine

/-! ### the first pattern: the runs of what is white -/
noncomputable abbrev ns1 (q : Nat) (first : Bool) : Sre.Frame := { wait := .nextStart, pc := 5, pos := q, outermost := first }
noncomputable abbrev rep1 (x : List Nat) (q : Nat) (first : Bool) (b : Option Nat) (li : Int) (seen : Sre.Seen) : M :=
  { code := code1, text := x.toArray, lim := x.length, start := q, lastStart := x.length, pc := 7, pos := q, handed := q, outermost := first, marks := #[some q, b], lastmark := 0, lastindex := li, frames := [ns1 q first], weight := 1, seen }

theorem hit1 (x : List Nat) (hx : x.length < 1000000) (q : Nat) (first : Bool) (b : Option Nat) (li : Int) (seen : Sre.Seen) (y : Nat) (r : List Nat) (hl : x.drop q = y :: r) (hy : isWs y = true) :
    ∃ m, iter 6 (rep1 x q first b li seen) = m ∧ m.outcome = some .matched ∧ m.start = q ∧ m.handed = q + ((y :: r).takeWhile isWs).length ∧ m.lastmark = 1 ∧ m.marks = #[some q, some (q + ((y :: r).takeWhile isWs).length)] := by
  have hlen := congrArg List.length hl
  simp at hlen
  have hmin : min 4294967295 ((x.length : Int) - (q : Int)).toNat = (y :: r).length := by simp; omega
  obtain ⟨s1, h1⟩ := run_eq (fun c seen => acc1 c seen) x (y :: r) (y :: r).length q 0 ((seen.add 24).add 13) hl rfl
  have hpos : 1 ≤ ((y :: r).takeWhile isWs).length := by simp [List.takeWhile, hy]
  rw [Nat.zero_add] at h1
  generalize ((y :: r).takeWhile isWs).length = n at h1 hpos
  have h2 : M.step (rep1 x q first b li seen) = { code := code1, text := x.toArray, lim := x.length, start := q, lastStart := x.length, pc := 17, pos := q + n, handed := q + n, outermost := first, marks := #[some q, b], lastmark := 0, lastindex := li, seen := s1, weight := 2, frames := [{ wait := .giveBack, pc := 7, pos := q + n, outermost := first, count := n, kept := { lastmark := 0, lastindex := li } }, ns1 q first] } := by
    unfold M.step
    rw [if_neg (by simp)]
    show (if 7 < code1.size then M.exec _ else _) = _
    rw [if_pos (by decide)]
    unfold M.exec
    show (if ((1 : Nat) : Int) > ((x.length : Int) - (q : Int)) then _ else match run code1 x.toArray 11 (min 4294967295 ((x.length : Int) - (q : Int)).toNat) q 0 ((seen.add 24).add 13) with | .error why => _ | .ok (n, seen) => _) = _
    rw [if_neg (by omega), hmin, h1]
    show (if n < 1 then _ else _) = _
    rw [if_neg (by omega)]
    rfl
  obtain ⟨li', hli⟩ : ∃ li' : Int, (M.step { code := code1, text := x.toArray, lim := x.length, start := q, lastStart := x.length, pc := 17, pos := q + n, handed := q + n, outermost := first, marks := #[some q, b], lastmark := 0, lastindex := li, seen := s1, weight := 2, frames := [{ wait := .giveBack, pc := 7, pos := q + n, outermost := first, count := n, kept := { lastmark := 0, lastindex := li } }, ns1 q first] }).lastindex = li' := ⟨_, rfl⟩
  have h3 : M.step { code := code1, text := x.toArray, lim := x.length, start := q, lastStart := x.length, pc := 17, pos := q + n, handed := q + n, outermost := first, marks := #[some q, b], lastmark := 0, lastindex := li, seen := s1, weight := 2, frames := [{ wait := .giveBack, pc := 7, pos := q + n, outermost := first, count := n, kept := { lastmark := 0, lastindex := li } }, ns1 q first] } =
      { code := code1, text := x.toArray, lim := x.length, start := q, lastStart := x.length, pc := 19, pos := q + n, handed := q + n, outermost := first, marks := #[some q, some (q + n)], lastmark := 1, lastindex := li', seen := s1.add 17, weight := 2, frames := [{ wait := .giveBack, pc := 7, pos := q + n, outermost := first, count := n, kept := { lastmark := 0, lastindex := li } }, ns1 q first] } := by
    rw [← hli]; rfl
  have h4 : M.step { code := code1, text := x.toArray, lim := x.length, start := q, lastStart := x.length, pc := 19, pos := q + n, handed := q + n, outermost := first, marks := #[some q, some (q + n)], lastmark := 1, lastindex := li', seen := s1.add 17, weight := 2, frames := [{ wait := .giveBack, pc := 7, pos := q + n, outermost := first, count := n, kept := { lastmark := 0, lastindex := li } }, ns1 q first] } =
      { code := code1, text := x.toArray, lim := x.length, start := q, lastStart := x.length, pc := 19, pos := q + n, handed := q + n, outermost := first, marks := #[some q, some (q + n)], lastmark := 1, lastindex := li', seen := (s1.add 17).add 1, weight := 2, answer := some true, frames := [{ wait := .giveBack, pc := 7, pos := q + n, outermost := first, count := n, kept := { lastmark := 0, lastindex := li } }, ns1 q first] } := by
    cases first <;> rfl
  have h5 : iter 3 { code := code1, text := x.toArray, lim := x.length, start := q, lastStart := x.length, pc := 19, pos := q + n, handed := q + n, outermost := first, marks := #[some q, some (q + n)], lastmark := 1, lastindex := li', seen := (s1.add 17).add 1, weight := 2, answer := some true, frames := [{ wait := .giveBack, pc := 7, pos := q + n, outermost := first, count := n, kept := { lastmark := 0, lastindex := li } }, ns1 q first] } =
      { code := code1, text := x.toArray, lim := x.length, start := q, lastStart := x.length, pc := 5, pos := q, handed := q + n, outermost := first, marks := #[some q, some (q + n)], lastmark := 1, lastindex := li', seen := (s1.add 17).add 1, weight := 0, answer := some true, frames := [], outcome := some .matched } := rfl
  have h6 : iter 6 (rep1 x q first b li seen) = iter 3 (M.step (M.step (M.step (rep1 x q first b li seen)))) := rfl
  rw [h2, h3, h4, h5] at h6
  exact ⟨_, h6, rfl, rfl, rfl, rfl, rfl⟩

end Mine
end
/-! R3 -/
section
open PySem PySem.W PyProof.Rows
open PySem.Builtin.Re
set_option linter.unusedSimpArgs false
set_option maxRecDepth 100000
namespace Mine

theorem slot_pat_match : PySem.Slot "re.Pattern" "match" "re.Pattern.match" :=
  .of (owner := "re.Pattern") (n := "match") (by rw [typeLookup_type, builtinLookup_eq_fast]; kernel_rfl) (by decide +kernel) (by decide +kernel) (by decide +kernel)
    (by first | exact .inl (by decide +kernel) | exact .inr (by decide +kernel)) (by rw [isSubtype_type]; kernel_rfl)
theorem type_pat_match : typeOf (.builtin "re.Pattern.match") = pure (.type "method_descriptor") := by show builtinType _ = _; rw [builtinType_eq_fast]; kernel_rfl
theorem entry_pat_match : entryFor table "re.Pattern.match" = some Builtin.«re.Pattern.match» := entryFor_of_tree (by kernel_rfl)
theorem slot_match_group : PySem.Slot "re.Match" "group" "re.Match.group" :=
  .of (owner := "re.Match") (n := "group") (by rw [typeLookup_type, builtinLookup_eq_fast]; kernel_rfl) (by decide +kernel) (by decide +kernel) (by decide +kernel)
    (by first | exact .inl (by decide +kernel) | exact .inr (by decide +kernel)) (by rw [isSubtype_type]; kernel_rfl)
theorem type_match_group : typeOf (.builtin "re.Match.group") = pure (.type "method_descriptor") := by show builtinType _ = _; rw [builtinType_eq_fast]; kernel_rfl
theorem entry_match_group : entryFor table "re.Match.group" = some Builtin.«re.Match.group» := entryFor_of_tree (by kernel_rfl)
theorem plainAttrs_pat : PlainAttrs "re.Pattern" :=
  ⟨⟨"object.__getattribute__", by rw [typeLookup_type, builtinLookup_eq_fast]; kernel_rfl, by decide +kernel⟩, by rw [typeLookup_type, builtinLookup_eq_fast]; kernel_rfl⟩
theorem plainAttrs_match : PlainAttrs "re.Match" :=
  ⟨⟨"object.__getattribute__", by rw [typeLookup_type, builtinLookup_eq_fast]; kernel_rfl, by decide +kernel⟩, by rw [typeLookup_type, builtinLookup_eq_fast]; kernel_rfl⟩
theorem args_pat_match (a b : Value) : argsOk "re.Pattern.match" ⟨[a, b], []⟩ := by unfold argsOk; kernel_rfl
theorem args_match_group (a : Value) : argsOk "re.Match.group" ⟨[a], []⟩ := by unfold argsOk; kernel_rfl
end Mine
end
/-! R4 -/
section
open PySem PySem.W PyProof.Rows
open PySem.Builtin.Re
open PySem.Sre (M)
set_option linter.unusedSimpArgs false
set_option maxRecDepth 100000
namespace Mine

/-- a compiled pattern of the text -/
noncomputable def IsPat (h : Heap) (P : Addr) (groups : Nat) (code : Array Nat) : Prop :=
  ∃ f0 f1 f3 f4 C n, h.get? P = some { cls := .type "re.Pattern", data := .fields #[f0, f1, .int groups 0, f3, f4, .ref C, .int 0 0] } ∧
    h.get? C = some { cls := .type "tuple", data := .seq (code.map fun (k : Nat) => Value.int (k : Int) 0) n }
theorem IsPat.keeps {h h' : Heap} {P groups code} (x : IsPat h P groups code) (hk : ∀ b o, h.get? b = some o → h'.get? b = some o) : IsPat h' P groups code :=
  let ⟨f0, f1, f3, f4, C, n, a, b⟩ := x; ⟨f0, f1, f3, f4, C, n, hk _ _ a, hk _ _ b⟩

section
variable {prog : Program} {w : World} {A : Around} {s : Shared} {N : Addr → Prop}

theorem drive {E : Value → Shared → Prop} {mf : M} {Q : M → Shared → Prop} (ho : mf.outcome.isSome = true) (hQ : Q mf s) :
    ∀ (T K : Nat) (m : M), iter K m = mf → K ≤ 4 * T → 0 < T → wpAny (model prog w) A (reDrive T m) Q E s
  | 0, _, _, _, _, h => absurd h (Nat.lt_irrefl _)
  | T + 1, K, m, e, hK, _ => by
    unfold reDrive
    have hm : m.runFor reTurnSteps = iter 4 m := runFor_iter 4 m
    simp only [hm]
    by_cases ho' : (iter 4 m).outcome.isSome = true
    · rw [if_pos ho']
      have : iter 4 m = mf := by
        by_cases h4 : K ≤ 4
        · have : iter 4 m = iter (4 - K) (iter K m) := by rw [← iter_add]; congr 1; omega
          rw [this, e, iter_done ho]
        · have : iter K m = iter (K - 4) (iter 4 m) := by rw [← iter_add]; congr 1; omega
          rw [iter_done ho', e] at this; exact this.symm
      rw [this]
      exact wpAny_pure hQ
    · rw [if_neg ho']
      have h4 : 4 < K := by
        apply Nat.lt_of_not_le
        intro h4
        have : iter 4 m = iter (4 - K) (iter K m) := by rw [← iter_add]; congr 1; omega
        rw [this, e, iter_done ho] at ho'
        exact ho' ho
      have h5 : iter (K - 4) (iter 4 m) = mf := by
        rw [← iter_add, ← e]; congr 1; omega
      exact wpAny_bind (wpAny_rule (drive ho hQ T (K - 4) (iter 4 m) h5 (by omega) (by omega)))

theorem rules_for {E : Value → Shared → Prop} (p : Nat → Bool) (f : Nat → String) (l : List Nat) {Q : PUnit → Shared → Prop} (h : Q ⟨⟩ s) :
    wpAny (model prog w) A (forIn l PUnit.unit fun i _ => if p i = true then do rule (f i); pure (ForInStep.yield PUnit.unit) else pure (ForInStep.yield PUnit.unit)) Q E s := by
  refine wpAny_forIn_list _ (fun _ _ s' => s' = s) _ ?_ ?_ l _ rfl
  · rintro i rest _ s' rfl
    split
    · exact wpAny_bind (wpAny_rule (wpAny_pure rfl))
    · exact wpAny_pure rfl
  · rintro _ s' rfl; exact h

theorem toEnd {E : Value → Shared → Prop} {m mf : M} {K : Nat} {Q : Option M → Shared → Prop} (e : iter K m = mf) (hK : K ≤ 4000000)
    (ho : (mf.outcome = some .matched ∧ Q (some mf) s) ∨ (mf.outcome = some .failed ∧ Q none s)) : wpAny (model prog w) A (reRunToEnd m) Q E s := by
  unfold reRunToEnd
  refine wpAny_bind (drive (mf := mf) (by rcases ho with ⟨h, _⟩ | ⟨h, _⟩ <;> rw [h] <;> rfl) ?_ (2 ^ 64) K m e (by omega) (by decide))
  refine wpAny_bind (rules_for (fun i => mf.seen.has i) (fun i => Sre.names.getD i "") _ ?_)
  rcases ho with ⟨h, hq⟩ | ⟨h, hq⟩ <;> rw [h] <;> exact wpAny_pure hq

theorem raw_code (code : Array Nat) : (((code.map fun (k : Nat) => Value.int (k : Int) 0).map reRawOf).map (·.toNat)) = code := by
  rw [Array.map_map, Array.map_map]
  have : (((fun x : Int => x.toNat) ∘ reRawOf) ∘ fun (k : Nat) => Value.int (k : Int) 0) = id := by funext k; simp [reRawOf]
  rw [this]; simp

theorem target {E : Value → Shared → Prop} {P : Addr} {groups : Nat} {code : Array Nat} {x : List Nat} {t : Tok} {Q : ReTarget → Shared → Prop} (hp : IsPat s.heap P groups code) (hx : x.length < 1000000) {id f : String}
    (h : Q { pattern := .ref P, string := .str (S x) t, code, text := x.toArray, kind := 0, groups, pos := 0, lim := x.length } s) :
    wpAny (model prog w) A (reTarget id f ⟨[.ref P, .str (S x) t], []⟩) Q E s := by
  obtain ⟨f0, f1, f3, f4, C, n, hP, hC⟩ := hp
  unfold reTarget
  refine wpAny_bind (m := reNamed _ _ _ _ _ _) (wpAny_pure ?_)
  refine wpAny_bind (wpAny_pure (wpAny_bind (wpAny_pure ?_)))
  refine wpAny_bind (wpAny_fieldsOf hP rfl ?_)
  refine wpAny_bind (m := reTextOf _) (wpAny_pure ?_)
  simp only
  rw [if_neg (by simp)]
  rw [if_neg (by simp [reRawNat])]
  refine wpAny_bind (m := reNoCollectionInside _ _) (wpAny_pure ?_)
  refine wpAny_bind ?_
  unfold reRawItems
  refine wpAny_bind (m := seqItems? _) (wpAny_seqItems hC rfl (wpAny_pure (wpAny_pure ?_)))
  have h1 : min (2 ^ 63 - 1 : Int).toNat x.toArray.size = x.length := by simp; omega
  show Q { pattern := .ref P, string := .str (S x) t, code := _, text := x.toArray, kind := 0, groups := groups, pos := 0, lim := min (2 ^ 63 - 1 : Int).toNat x.toArray.size } s
  rw [h1]
  have h2 := raw_code code
  show Q { pattern := .ref P, string := .str (S x) t, code := (((code.map fun (k : Nat) => Value.int (k : Int) 0).map reRawOf).map (·.toNat)), text := x.toArray, kind := 0, groups := groups, pos := 0, lim := x.length } s
  rw [h2]
  exact h

theorem newMatch0 {E : Value → Shared → Prop} {pat str : Value} {pos lim : Nat} {m : M} {Q : Value → Shared → Prop} (h : ∀ s' a, Grow s s' → Q (.ref a) s') :
    wpAny (model prog w) A (reNewMatch pat str 0 pos lim m) Q E s := by
  unfold reNewMatch
  rw [if_neg (by simp)]
  refine wpAny_bind (wpAny_newObj_type ?_ (by show (List.toArray _).size ≤ sizeLine; simp; decide))
  exact wpAny_newObj_type (h _ _ ((Grow.push s _ s.toks).trans (Grow.push _ _ _))) (by size_fits)

theorem call_match2 {P : Addr} {x : List Nat} {t : Tok} (hp : IsPat s.heap P 0 code2) (hx : x.length < 1000000) :
    wpAny (model prog w) A (call (.builtin "re.Pattern.match") [.ref P, .str (S x) t]) (fun r s' => Grow s s' ∧ (r == .none) = !(x.all isWs) ∧ (r = .none ∨ ∃ a, r = .ref a)) NoE s := by
  have hT : s.TypeIs (.ref P) "re.Pattern" := by obtain ⟨f0, f1, f3, f4, C, n, hP, hC⟩ := hp; exact ⟨_, hP, rfl⟩
  refine wpAny_call_entry slot_pat_match hT entry_pat_match ?_ (args_pat_match _ _)
  unfold Builtin.«re.Pattern.match»
  refine wpAny_bind (target hp hx ?_)
  show wpAny _ _ (reRunToEnd (Sre.forMatch code2 x.toArray 0 0 x.length false false) >>= _) _ _ _
  obtain ⟨K, m, hK, e, ho⟩ := white2 x hx
  refine wpAny_bind ?_
  generalize Sre.forMatch code2 x.toArray 0 0 x.length false false = m0 at e ⊢
  refine toEnd e (by omega) ?_
  cases ha : x.all isWs
  · rw [ha] at ho
    exact .inr ⟨ho, wpAny_pure ⟨_, rfl, Grow.rfl' _, rfl, .inl rfl⟩⟩
  · rw [ha] at ho
    exact .inl ⟨ho, wpAny_bind (newMatch0 fun s' a g => wpAny_pure ⟨_, rfl, g, rfl, .inr ⟨a, rfl⟩⟩)⟩

noncomputable def IsMatch (h : Heap) (a : Addr) (x : List Nat) (b e : Int) : Prop :=
  ∃ t f1 f2 f3 f4 T n, ∃ rest : List Value, h.get? a = some { cls := .type "re.Match", data := .fields #[.str (S x) t, f1, f2, f3, f4, .ref T] } ∧
    h.get? T = some { cls := .type "tuple", data := .seq (Value.int b 0 :: Value.int e 0 :: rest).toArray n }

theorem newMatch1 {E : Value → Shared → Prop} {pat : Value} {x : List Nat} {t : Tok} {pos lim k : Nat} {m : M} {Q : Value → Shared → Prop} (h1 : m.start = 0) (h2 : m.handed = k) (h3 : m.lastmark = 1) (h4 : m.marks = #[some 0, some k])
    (h : ∀ s' a, Grow s s' → IsMatch s'.heap a x 0 k → Q (.ref a) s') :
    wpAny (model prog w) A (reNewMatch pat (.str (S x) t) 1 pos lim m) Q E s := by
  unfold reNewMatch
  have hr : List.range 1 = [0] := rfl
  simp only [hr, h1, h2, h3, h4]
  rw [if_neg (by simp)]
  refine wpAny_bind (wpAny_newObj_type ?_ (by show (List.toArray _).size ≤ sizeLine; simp; decide))
  refine wpAny_newObj_type (h _ _ ((Grow.push s _ s.toks).trans (Grow.push _ _ _)) ⟨t, _, _, _, _, s.heap.objs.size, 0, _, Heap.get?_push_size _ rfl, Heap.get?_push_of_some _ (Heap.get?_push_size _ rfl)⟩) (by size_fits)

theorem call_match3 {P : Addr} {x : List Nat} {t : Tok} (hp : IsPat s.heap P 1 code3) (hx : x.length < 1000000) :
    wpAny (model prog w) A (call (.builtin "re.Pattern.match") [.ref P, .str (S x) t]) (fun r s' => Grow s s' ∧ ∃ a, r = .ref a ∧ IsMatch s'.heap a x 0 (indentOf x).length) NoE s := by
  have hT : s.TypeIs (.ref P) "re.Pattern" := by obtain ⟨f0, f1, f3, f4, C, n, hP, hC⟩ := hp; exact ⟨_, hP, rfl⟩
  refine wpAny_call_entry slot_pat_match hT entry_pat_match ?_ (args_pat_match _ _)
  unfold Builtin.«re.Pattern.match»
  refine wpAny_bind (target hp hx ?_)
  show wpAny _ _ (reRunToEnd (Sre.forMatch code3 x.toArray 1 0 x.length false false) >>= _) _ _ _
  obtain ⟨K, m, hK, e, ho, h1, h2, h3, h4⟩ := indent3 x hx
  refine wpAny_bind ?_
  generalize Sre.forMatch code3 x.toArray 1 0 x.length false false = m0 at e ⊢
  exact (toEnd e (by omega) (.inl ⟨ho, wpAny_bind (newMatch1 h1 h2 h3 h4 fun s' a g hm => wpAny_pure ⟨_, rfl, g, a, rfl, hm⟩)⟩))

theorem call_group {a : Addr} {x : List Nat} {k : Nat} (hm : IsMatch s.heap a x 0 k) (hx : x.length < 1000000) :
    wpAny (model prog w) A (call (.builtin "re.Match.group") [.ref a]) (Ok N s (.str (x.take k))) NoE s := by
  have hL : LIM = 16777216 := rfl
  obtain ⟨t, f1, f2, f3, f4, T, n, rest, ha, hT⟩ := hm
  refine wpAny_call_entry slot_match_group ⟨_, ha, rfl⟩ entry_match_group ?_ (args_match_group _)
  unfold Builtin.«re.Match.group»
  refine wpAny_bind (m := noKeywords _ _) (wpAny_pure ?_)
  refine wpAny_bind ?_
  unfold reFound
  refine wpAny_bind (wpAny_fieldsOf ha rfl ?_)
  refine wpAny_bind ?_
  unfold reRawItems
  refine wpAny_bind (m := seqItems? _) (wpAny_seqItems hT rfl (wpAny_pure (wpAny_pure ?_)))
  refine wpAny_bind ?_
  unfold reGroupText
  have h0 : ((Option.getD (some (Value.int 0 0 :: Value.int k 0 :: rest).toArray) #[]).map reRawOf).getD (2 * 0) (-1) = 0 := by simp [reRawOf, Array.getD_eq_getD_getElem?]
  have h1 : ((Option.getD (some (Value.int 0 0 :: Value.int k 0 :: rest).toArray) #[]).map reRawOf).getD (2 * 0 + 1) (-1) = k := by simp [reRawOf, Array.getD_eq_getD_getElem?]
  simp only [h0, h1]
  rw [if_neg (by simp)]
  refine wpAny_bind (m := reTextOf _) (wpAny_pure ?_)
  unfold reSlice
  have hs : (⟨Array.extract (S x).cps 0 k⟩ : Str) = S (x.take k) := by
    apply Str.ext'; apply Array.ext'; simp [S]
  show wpAny _ _ (mkStr ⟨Array.extract (S x).cps (Int.toNat 0) (Int.toNat k)⟩) _ _ _
  simp only [Int.toNat_natCast, Int.toNat_zero, hs]
  exact wpAny_mkStr (wpAny_pure ⟨_, rfl, Ok.str' (by simp; omega)⟩) (by rw [S_length, ← LIM_eq]; simp; omega)
end
end Mine
end
/-! R5 -/
section
open PySem PySem.W PyProof.Rows
open PySem.Builtin.Re
open PySem.Sre (M)
set_option linter.unusedSimpArgs false
set_option maxRecDepth 100000
namespace Mine

section
variable {prog : Program} {w : World} {A : Around} {s : Shared} {N : Addr → Prop}
theorem RepAll.toks {h : Heap} {out : Array Value} {done : List (List Nat)} {y : List Nat} {t : Tok} (r : RepAll N h out.toList (done.map .str)) (hy : y.length ≤ LIM) : RepAll N h (out.push (.str (S y) t)).toList ((done ++ [y]).map .str) := by
  rw [Array.toList_push, List.map_append]
  exact r.append (.cons (.str y t hy) .nil)

end
end Mine
end
/-! S1 -/
section
open PySem PySem.W PyProof.Rows
set_option linter.unusedSimpArgs false
namespace Mine

/-! ## what stands at the top -/
noncomputable def fnName : Fn → Str
  | .len => "len" | .min => "min" | .max => "max" | .sum => "sum" | .chr => "chr" | .ord => "ord" | .range => "range" | .list => "list" | .isBool => "isinstance"

/-- the fixed things: the program, the heap at the law's call, the names of the text's own functions and where they lie, what they compute -/
structure Cx where
  prog : Program
  w : World
  h₀ : Heap
  mg : Str → Option Value
  mb : Str → Option Value
  fnames : List Str
  fas : List Addr
  hasPat : Bool
  Φ : Funs
  n : Nat

structure GOk (c : Cx) : Prop where
  g : c.h₀.Ns mainGlobals c.mg
  b : c.h₀.Ns builtinsNs c.mb
  nolimit : c.h₀.NoLimit
  bl : ∀ f : Fn, c.mg (fnName f) = none ∧ c.mb (fnName f) = some (fnVal f)
  bool : c.mg "bool" = none ∧ c.mb "bool" = some (.type "bool")
  rev : c.mg "reversed" = none ∧ c.mb "reversed" = some (.type "reversed")
  zip : c.mg "zip" = none ∧ c.mb "zip" = some (.type "zip")
  fn : ∀ (i : Nat) (nm : Str), c.fnames[i]? = some nm → nm ≠ "" → ∃ a, c.fas[i]? = some a ∧ c.mg nm = some (.ref a) ∧ ∃ o fd, c.h₀.get? a = some o ∧ o.data = .func fd
  pat : c.hasPat = true → ∃ P, c.mg "_twin_re_1" = some (.ref P) ∧ IsPat c.h₀ P 1 code1

noncomputable def AOk (n : Nat) (A : Around) : Prop := A.handled = none ∧ A.depth + n < recursionLimit ∧ A.units + 4 * n + 40 < cLine
theorem AOk.deeper {n : Nat} {A : Around} (h : AOk (n + 1) A) (env : Env) : AOk n (A.deeper env) :=
  ⟨h.1, by have := h.2.1; show A.depth + 1 + n < _; omega, by have := h.2.2; show A.units + 3 + 4 * n + 40 < _; omega⟩

/-- the functions of the text do what Φ says -/
noncomputable def FnsOk (c : Cx) : Prop :=
  ∀ (i : Nat) (a : Addr) (nm : Str) (ds : List D) (d : D) (fr : Bool), c.fnames[i]? = some nm → nm ≠ "" → c.fas[i]? = some a → c.Φ i ds = some (d, fr) → ∀ (A : Around) (s : Shared) (X : Addr → Prop) (vs : List Value), AOk c.n A →
    (∀ b o, c.h₀.get? b = some o → s.heap.get? b = some o) → Alive X s.heap → RepAll X s.heap vs ds →
    codeAny (model c.prog c.w) A (.call (.ref a) ⟨vs, []⟩) (fun r s' => ∃ v, r = .ok (.ret v) ∧ Grow s s' ∧ Rep X s'.heap v d ∧ (fr = true → ∀ xs, d = .list xs → ∃ b, v = .ref b ∧ s.heap.get? b = none)) s

/-! ## the static context and the state -/
structure Tx where
  names : List (Str × NameKind)
  ft : List Str
  ct : List Str
  comp : Bool

noncomputable def Tx.kind (τ : Tx) (n : Str) : Option NameKind := τ.names.lookup n
noncomputable def Tx.varOk (τ : Tx) (n : Str) : Bool := if τ.comp then τ.kind n == some .cell else (τ.kind n == some .local || τ.kind n == some .cell)

noncomputable def VarAt (env : Env) (h : Heap) (nm : Str) (v : Value) : Prop :=
  (env.kindOf nm = some .local ∧ ∃ m, h.Ns env.locals m ∧ m nm = some v) ∨ (env.kindOf nm = some .cell ∧ ∃ c, env.cells.lookup nm = some c ∧ h.IsCell c (some v))
theorem VarAt.keeps {env : Env} {h h' : Heap} {nm : Str} {v : Value} (x : VarAt env h nm v) (hk : ∀ b o, h.get? b = some o → h'.get? b = some o) : VarAt env h' nm v := by
  rcases x with ⟨a, m, b, c⟩ | ⟨a, c, b, d⟩
  · exact .inl ⟨a, m, b.keeps hk, c⟩
  · exact .inr ⟨a, c, b, d.keeps hk⟩

noncomputable def SlotAt (env : Env) (N : Addr → Prop) (h : Heap) (nm : Str) : Slot → Prop
  | .unset => True
  | .val d => ∃ v, VarAt env h nm v ∧ Rep N h v d
  | .own xs => ∃ a vs, VarAt env h nm (.ref a) ∧ h.PlainList a vs.toArray ∧ vs.length ≤ LIM ∧ RepAll N h vs xs

structure InvE (h₀ : Heap) (τ : Tx) (env : Env) (N : Addr → Prop) (h : Heap) (ρ : List Slot) (κ : List D) : Prop where
  keep : ∀ b o, h₀.get? b = some o → h.get? b = some o
  alive : Alive N h
  kind : env.scope.kind = .function
  names : env.scope.names = τ.names
  glob : env.globals = mainGlobals
  blt : env.builtins = builtinsNs
  cells : ∀ nm, τ.kind nm = some .cell → ∃ c, env.cells.lookup nm = some c
  slots : ∀ (x : Nat) (nm : Str) (sl : Slot), τ.ft[x]? = some nm → ρ[x]? = some sl → τ.varOk nm = true → SlotAt env N h nm sl
  cvars : ∀ (x : Nat) (nm : Str) (d : D), τ.ct[x]? = some nm → κ[x]? = some d → τ.kind nm = some .local → ∃ v, VarAt env h nm v ∧ Rep N h v d

theorem SlotAt.grow {env : Env} {N : Addr → Prop} {s s' : Shared} {nm : Str} {sl : Slot} (g : Grow s s') (x : SlotAt env N s.heap nm sl) : SlotAt env N s'.heap nm sl := by
  cases sl with
  | unset => trivial
  | val d => obtain ⟨v, a, b⟩ := x; exact ⟨v, a.keeps g.keep, b.grow g⟩
  | own xs => obtain ⟨a, vs, b, ⟨n, c⟩, d, e⟩ := x; exact ⟨a, vs, b.keeps g.keep, ⟨n, g.keep _ _ c⟩, d, e.grow g⟩
theorem InvE.grow {h₀ : Heap} {τ : Tx} {env : Env} {N : Addr → Prop} {s s' : Shared} {ρ : List Slot} {κ : List D} (x : InvE h₀ τ env N s.heap ρ κ) (g : Grow s s') : InvE h₀ τ env N s'.heap ρ κ :=
  ⟨fun b o e => g.keep b o (x.keep b o e), x.alive.grow g, x.kind, x.names, x.glob, x.blt, x.cells, fun i nm sl a b c => (x.slots i nm sl a b c).grow g,
   fun i nm d a b c => let ⟨v, p, q⟩ := x.cvars i nm d a b c; ⟨v, p.keeps g.keep, q.grow g⟩⟩
theorem InvE.kindOf {h₀ : Heap} {τ : Tx} {env : Env} {N : Addr → Prop} {h : Heap} {ρ : List Slot} {κ : List D} (x : InvE h₀ τ env N h ρ κ) (nm : Str) : env.kindOf nm = τ.kind nm := by
  unfold Env.kindOf Tx.kind; rw [x.names]

/-- what an evaluation gives -/
structure EvOk (N : Addr → Prop) (ρ : List Slot) (e : E) (s : Shared) (d : D) (v : Value) (s' : Shared) : Prop where
  grow : Grow s s'
  rep : RepT N s'.heap v d
  str : strong ρ e = true → Rep N s'.heap v d
  new : newE e = true → ∀ xs, d = .list xs → ∃ a vs, v = .ref a ∧ s.heap.get? a = none ∧ s'.heap.PlainList a vs

theorem EvOk.of {N : Addr → Prop} {ρ : List Slot} {e : E} {s s' : Shared} {d : D} {v : Value} (h : Ok N s d v s') : EvOk N ρ e s d v s' := ⟨h.grow, h.rep.toT, fun _ => h.rep, fun _ => h.new⟩
theorem EvOk.ofRep {N : Addr → Prop} {ρ : List Slot} {e : E} {s s' : Shared} {d : D} {v : Value} (g : Grow s s') (h : Rep N s'.heap v d) (hn : newE e = false) : EvOk N ρ e s d v s' := ⟨g, h.toT, fun _ => h, fun x => by rw [hn] at x; cases x⟩
theorem Ok.back {N : Addr → Prop} {s₀ s s' : Shared} {d : D} {v : Value} (g : Grow s₀ s) (h : Ok N s d v s') : Ok N s₀ d v s' :=
  ⟨g.trans h.grow, h.rep, fun xs e => by
    obtain ⟨a, vs, h1, h2, h3⟩ := h.new xs e
    refine ⟨a, vs, h1, ?_, h3⟩
    cases q : s₀.heap.get? a with
    | none => rfl
    | some o => rw [g.keep _ _ q] at h2; cases h2⟩
theorem get_none_back {s₀ s : Shared} {a : Addr} (g : Grow s₀ s) (h : s.heap.get? a = none) : s₀.heap.get? a = none := by
  cases q : s₀.heap.get? a with
  | none => rfl
  | some o => rw [g.keep _ _ q] at h; cases h
theorem EvOk.back {N : Addr → Prop} {ρ : List Slot} {e : E} {s₀ s s' : Shared} {d : D} {v : Value} (g : Grow s₀ s) (h : EvOk N ρ e s d v s') : EvOk N ρ e s₀ d v s' :=
  ⟨g.trans h.grow, h.rep, h.str, fun x xs q => by
    obtain ⟨a, vs, h1, h2, h3⟩ := h.new x xs q
    exact ⟨a, vs, h1, get_none_back g h2, h3⟩⟩

/-! ## iteration -/
noncomputable def Items (N : Addr → Prop) (h : Heap) (P : Nat → Value → Prop) (ds : List D) : Prop := ∀ (i : Nat) (v : Value) (d : D), P i v → ds[i]? = some d → Rep N h v d
theorem Items.mono {N N' : Addr → Prop} {h h' : Heap} {P : Nat → Value → Prop} {ds : List D} (hk : ∀ a o, ¬ N a → h.get? a = some o → h'.get? a = some o ∧ ¬ N' a) (x : Items N h P ds) : Items N' h' P ds :=
  fun i v d a b => (x i v d a b).mono hk

/-- an iterator that owns no tuple -/
noncomputable def IterCls (h : Heap) (I : Addr) : Prop := ∃ o n, h.get? I = some o ∧ o.cls = .type n ∧ ["enumerate", "zip", "dict_itemiterator", "dict_reverseitemiterator", "odict_iterator", "itertools.zip_longest", "itertools.pairwise"].contains n = false
theorem IterCls.alive {h : Heap} {I : Addr} (x : IterCls h I) : h.get? I ≠ none := by obtain ⟨o, n, e, _⟩ := x; rw [e]; simp
theorem IterCls.at {h h' : Heap} {I : Addr} (x : IterCls h I) (hk : ∀ o, h.get? I = some o → h'.get? I = some o) : IterCls h' I := let ⟨o, n, e, r⟩ := x; ⟨o, n, hk _ e, r⟩

structure IterAt (prog : Program) (w : World) (N : Addr → Prop) (s : Shared) (strg : Prop) (ds : List D) (it : Value) (s' : Shared) : Prop where
  grow : Grow s s'
  ex : ∃ I fp P St, it = .ref I ∧ s.heap.get? I = none ∧ (∀ A : Around, A.handled = none → Walks prog w A I fp [I] ds.length P St) ∧ St 0 s'.heap ∧ (∀ i h, St i h → IterCls h I) ∧
    (∀ b ∈ fp, b = I ∨ (s.heap.get? b ≠ none ∧ (strg → ¬ N b))) ∧ Items N s.heap P ds

section
variable {prog : Program} {w : World} {A : Around} {s : Shared} {N : Addr → Prop}

theorem iter_sound {d : D} {ds : List D} {v : Value} {strg : Prop} (r : RepT N s.heap v d) (rs : strg → Rep N s.heap v d) (e : itemsD d = some ds) :
    wpAny (model prog w) A (pyIter v) (IterAt prog w N s strg ds) NoE s := by
  unfold itemsD at e
  split at e
  · cases e
    obtain ⟨l, vs, rfl, hl, h1, r1⟩ := r
    have hne : l ≠ s.heap.objs.size := by
      obtain ⟨n, hl⟩ := hl
      exact Nat.ne_of_lt (Heap.lt_size hl)
    refine wpAny_pyIter_list hl.isList (IterAt.mk (Grow.push s _ s.toks) ⟨s.heap.objs.size, [s.heap.objs.size, l], (fun i v => vs.toArray[i]? = some v), (fun i h => h.IsListIter s.heap.objs.size l i ∧ h.IsList l vs.toArray), rfl, get_size _, fun A' hh => ?_, ⟨⟨_, Heap.get?_push_size _ rfl, rfl, rfl⟩, hl.isList.push _⟩, ?_, ?_, ?_⟩)
    · have := Walks.list (prog := prog) (w := w) (A := A') hh s.heap.objs.size l hne vs.toArray
      have e : ds.length = vs.toArray.size := by rw [← r1.1]; rfl
      rw [e]; exact this
    · rintro i h ⟨⟨o, ho, hc, _⟩, _⟩
      exact ⟨o, _, ho, hc, by decide⟩
    · intro b hb
      rcases List.mem_cons.mp hb with rfl | hb
      · exact .inl rfl
      · rcases List.mem_cons.mp hb with rfl | hb
        · refine .inr ⟨?_, fun q => ?_⟩
          · obtain ⟨n, hl⟩ := hl; rw [hl]; simp
          · obtain ⟨a', vs', e1, hn, _⟩ := (rs q).inv_list
            cases e1; exact hn
        · cases hb
    · intro i v d hv hd
      exact r1.2 i v d (by simpa using hv) hd
  · split at e
    · rename_i a b c hc
      cases e
      obtain ⟨q, t, u, v', rfl, hn, hr, hs⟩ := Rep.inv_range r
      obtain ⟨g1, g2, g3⟩ := small_range hs
      refine wpAny_pyIter_range hr g1 (IterAt.mk (Grow.push s _ s.toks) ⟨s.heap.objs.size, [s.heap.objs.size], (fun i v => ∃ t, v = .int (a + i * c) t), (fun i h => IsRangeIter h s.heap.objs.size (a + (i : Nat) * c) (((rangeD a b c).length : Int) - (i : Nat)) c), rfl, get_size _, fun A' hh => ?_, ?_, ?_, fun b hb => .inl (by simpa using hb), ?_⟩)
      · have := Walks.range (prog := prog) (w := w) (A := A') hh s.heap.objs.size a c (rangeD a b c).length
        simpa using this
      · rw [g2]
        have e1 : a + ((0 : Nat) : Int) * c = a := by simp
        have e2 : ((rangeD a b c).length : Int) - ((0 : Nat) : Int) = (rangeD a b c).length := by simp
        show IsRangeIter _ _ (a + ((0 : Nat) : Int) * c) (((rangeD a b c).length : Int) - ((0 : Nat) : Int)) c
        rw [e1, e2]
        exact Heap.get?_push_size _ rfl
      · intro i h hi
        exact ⟨_, _, hi, rfl, by decide⟩
      · intro i v d hv hd
        obtain ⟨t, rfl⟩ := hv
        rw [List.getElem?_map] at hd
        have hi : i < (rangeD a b c).length := by
          simp only [Option.map_eq_some_iff] at hd
          obtain ⟨_, h, _⟩ := hd
          exact (List.getElem?_eq_some_iff.mp h).1
        rw [g3 i hi] at hd
        cases hd
        exact .int _ _
    · cases e
  · cases e
end
end Mine
end
/-! S2 -/
section
open PySem PySem.W PyProof.Rows
set_option linter.unusedSimpArgs false
set_option linter.unusedVariables false
namespace Mine

/-! ## the translator's small parts -/
noncomputable def idx? (x : Str) : List Str → Option Nat
  | [] => none
  | y :: r => if x == y then some 0 else (idx? x r).map (· + 1)
theorem idx?_get {x : Str} : ∀ {l : List Str} {i : Nat}, idx? x l = some i → l[i]? = some x
  | [], i, h => by cases h
  | y :: r, i, h => by
    unfold idx? at h
    split at h
    · rename_i e; cases h; simp [eq_of_beq e]
    · simp only [Option.map_eq_some_iff] at h
      obtain ⟨j, hj, rfl⟩ := h
      simpa using idx?_get hj

noncomputable def fnOf (nm : Str) : Option Fn := [Fn.len, .min, .max, .sum, .chr, .ord, .range, .list].find? fun f => fnName f == nm
theorem fnOf_name {nm : Str} {f : Fn} (h : fnOf nm = some f) : nm = fnName f := by
  have := List.find?_some (show List.find? (fun f => fnName f == nm) _ = some f from h)
  exact (eq_of_beq this).symm
theorem fnOf_ne {nm : Str} {f : Fn} (h : fnOf nm = some f) : f ≠ .isBool := by
  have := List.mem_of_find?_eq_some h
  rintro rfl
  simp at this
noncomputable def bopOf : Operator → Option Bop
  | .Add => some .add | .Sub => some .sub | .Mult => some .mul | .FloorDiv => some .fdiv | .Mod => some .mod | _ => none
theorem bopOf_py {op : Operator} {b : Bop} (h : bopOf op = some b) : pyBop b = op := by cases op <;> cases h <;> rfl
noncomputable def copOf : CmpOp → Option Cop
  | .Eq => some .eq | .NotEq => some .ne | .Lt => some .lt | .LtE => some .le | .Gt => some .gt | .GtE => some .ge | .Is => some .isNone | .IsNot => some .notNone | .In => some .isIn | .NotIn => some .notIn
theorem copOf_py {op : CmpOp} {b : Cop} (h : copOf op = some b) : pyCop b = op := by cases op <;> cases h <;> rfl

/-! ## what is asked of an expression -/
structure SndE (c : Cx) (τ : Tx) (e : Expr) (x : E) : Prop where
  val : ∀ {A : Around} {env : Env} {N : Addr → Prop} {s : Shared} {ρ : List Slot} {κ : List D} {d : D}, AOk c.n A → InvE c.h₀ τ env N s.heap ρ κ → ev c.Φ ρ κ x = some d →
    wpAny (model c.prog c.w) A (eval e env) (EvOk N ρ x s d) NoE s
  tru : ∀ {A : Around} {env : Env} {N : Addr → Prop} {s : Shared} {ρ : List Slot} {κ : List D} {d : D} {b : Bool}, AOk c.n A → InvE c.h₀ τ env N s.heap ρ κ → ev c.Φ ρ κ x = some d → truthD d = some b →
    wpAny (model c.prog c.w) A (isTrue e env (eval e env)) (fun b' s' => b' = b ∧ Grow s s') NoE s
  nst : ∀ x p, e ≠ .Starred x p

noncomputable abbrev EvSnd (c : Cx) (τ : Tx) (e : Expr) (x : E) : Prop := ∀ {A : Around} {env : Env} {N : Addr → Prop} {s : Shared} {ρ : List Slot} {κ : List D} {d : D}, AOk c.n A → InvE c.h₀ τ env N s.heap ρ κ → ev c.Φ ρ κ x = some d →
    wpAny (model c.prog c.w) A (eval e env) (EvOk N ρ x s d) NoE s

variable {c : Cx} {τ : Tx}

theorem SndE.ofEv {e : Expr} {x : E} (h : EvSnd c τ e x) (ht : ∀ env, isTrue e env (eval e env) = (do let v ← eval e env; standAt e.pos; holding [v] (truthy v))) (hs : ∀ x p, e ≠ .Starred x p) : SndE c τ e x :=
  ⟨h, fun hA I e1 e2 => wpAny_isTrue_value (wpAny_mono (h hA I e1) (fun v s₁ o₁ => wpAny_mono (truthD_sound o₁.rep e2) (fun b s₂ h₂ => ⟨h₂.1, o₁.grow.trans h₂.2⟩) fun _ _ e => e) fun _ _ e => e) (ht _), hs⟩

theorem AOk.cmp {n : Nat} {A : Around} (h : AOk n A) : A.units + 10 < cLine := by have := h.2.2; omega

/-! constants -/
noncomputable def trConst : Const → Option E
  | .none => some (.const .none)
  | .bool b => some (.const (.bool b))
  | .int i => some (.const (.int i))
  | .str s => if s.cps.size ≤ 1000 then some (.const (.str s.cps.toList)) else none
  | _ => none
theorem good_const {k : Const} {j : Nat} {p : Pos} {x : E} (h : trConst k = some x) : SndE c τ (.Constant k j p) x := by
  refine SndE.ofEv (fun {A env N s ρ κ d} hA I e => ?_) (fun _ => rfl) (fun _ _ h => by cases h)
  unfold trConst at h
  split at h
  · cases h; simp only [ev] at e; cases e; exact wpAny_Constant_none (.ofRep (Grow.rfl' _) .none rfl)
  · cases h; simp only [ev] at e; cases e; exact wpAny_Constant_bool (.ofRep (Grow.rfl' _) (.bool _) rfl)
  · cases h; simp only [ev] at e; cases e; exact wpAny_Constant_int (.ofRep (Grow.toks _ _) (.int _ _) rfl)
  · split at h
    · rename_i z hz
      cases h; simp only [ev] at e; cases e
      refine wpAny_Constant_str (.ofRep (Grow.toks _ _) ?_ rfl)
      have : Rep N s.heap (.str ⟨z.cps.toList.toArray⟩ s.toks) (.str z.cps.toList) := .str _ _ (by simp [LIM]; omega)
      simpa using this
    · cases h
  · cases h

/-! names -/
noncomputable def trName (τ : Tx) (id : Str) : Option E :=
  if id == ("__debug__" : Str) then none else
  match τ.kind id with
  | some .local => if τ.comp then (idx? id τ.ct).map .cvar else (idx? id τ.ft).map .var
  | some .cell => (idx? id τ.ft).map .var
  | _ => none

theorem load_var {A : Around} {env : Env} {s : Shared} {nm : Str} {v : Value} {Q : Value → Shared → Prop} {E : Value → Shared → Prop} {prog : Program} {w : World} (hk : env.scope.kind = .function) (x : VarAt env s.heap nm v) (h : Q v s) : wpAny (model prog w) A (loadName env nm) Q E s := by
  rcases x with ⟨a, m, b, d⟩ | ⟨a, k, b, d⟩
  · exact wpAny_loadName_local hk a b d h
  · exact wpAny_loadName_cell hk a b d h

theorem good_var {id : Str} {p : Pos} {i : Nat} (hd : (id == ("__debug__" : Str)) = false) (hv : τ.varOk id = true) (hi : idx? id τ.ft = some i) : SndE c τ (.Name id p) (.var i) := by
  refine SndE.ofEv (fun {A env N s ρ κ d} hA I e => ?_) (fun _ => rfl) (fun _ _ h => by cases h)
  simp only [ev] at e
  refine wpAny_Name ?_ hd
  split at e
  · rename_i d' hs
    cases e
    obtain ⟨v, q, r⟩ := I.slots i id _ (idx?_get hi) hs hv
    exact load_var I.kind q (.ofRep (Grow.rfl' _) r rfl)
  · rename_i xs hs
    cases e
    obtain ⟨a, vs, q, hl, h1, r⟩ := I.slots i id _ (idx?_get hi) hs hv
    refine load_var I.kind q ⟨Grow.rfl' _, ⟨a, vs, rfl, hl, h1, r⟩, fun hst => ?_, fun hn => by cases hn⟩
    simp [strong, hs, isOwn] at hst
  · cases e
theorem good_cvar {id : Str} {p : Pos} {i : Nat} (hd : (id == ("__debug__" : Str)) = false) (hv : τ.kind id = some .local) (hi : idx? id τ.ct = some i) : SndE c τ (.Name id p) (.cvar i) := by
  refine SndE.ofEv (fun {A env N s ρ κ d} hA I e => ?_) (fun _ => rfl) (fun _ _ h => by cases h)
  simp only [ev] at e
  refine wpAny_Name ?_ hd
  obtain ⟨v, q, r⟩ := I.cvars i id d (idx?_get hi) e hv
  exact load_var I.kind q (.ofRep (Grow.rfl' _) r rfl)
theorem good_name {id : Str} {p : Pos} {x : E} (h : trName τ id = some x) : SndE c τ (.Name id p) x := by
  unfold trName at h
  split at h
  · cases h
  · rename_i hd
    have hd : (id == ("__debug__" : Str)) = false := by simpa using hd
    split at h
    · rename_i hk
      split at h
      · rename_i hc
        simp only [Option.map_eq_some_iff] at h
        obtain ⟨i, hi, rfl⟩ := h
        exact good_cvar hd hk hi
      · rename_i hc
        simp only [Option.map_eq_some_iff] at h
        obtain ⟨i, hi, rfl⟩ := h
        exact good_var hd (by simp [Tx.varOk, hc, hk]) hi
    · rename_i hk
      simp only [Option.map_eq_some_iff] at h
      obtain ⟨i, hi, rfl⟩ := h
      exact good_var hd (by simp only [Tx.varOk, hk]; cases τ.comp <;> rfl) hi
    · cases h

/-! operators -/
theorem good_bin {l r : Expr} {op : Operator} {p : Pos} {b : Bop} {L R : E} (hb : bopOf op = some b) (hl : SndE c τ l L) (hr : SndE c τ r R) : SndE c τ (.BinOp l op r p) (.bin b L R) := by
  refine SndE.ofEv (fun {A env N s ρ κ d} hA I e => ?_) (fun _ => rfl) (fun _ _ h => by cases h)
  simp only [ev, Option.bind_eq_bind, Option.bind_eq_some_iff] at e
  obtain ⟨x, hx, y, hy, e⟩ := e
  refine wpAny_BinOp (wpAny_mono (hl.val hA I hx) (fun v s₁ o₁ => wpAny_mono (hr.val hA (I.grow o₁.grow) hy) (fun u s₂ o₂ => ?_) fun _ _ e => e) fun _ _ e => e)
  rw [← bopOf_py hb]
  exact wpAny_mono (binD_sound ((I.grow o₁.grow).grow o₂.grow).alive (o₁.rep.grow o₂.grow) o₂.rep e) (fun v s' o => .of (o.back (o₁.grow.trans o₂.grow))) fun _ _ e => e

theorem good_cmp {l r : Expr} {op : CmpOp} {p : Pos} {b : Cop} {L R : E} (hm : behindInMarks op r = false) (hb : copOf op = some b) (hl : SndE c τ l L) (hr : SndE c τ r R) : SndE c τ (.Compare l [op] [r] p) (.cmp b L R) := by
  have main : ∀ {A : Around} {env : Env} {N : Addr → Prop} {s : Shared} {ρ : List Slot} {κ : List D} {d : D}, AOk c.n A → InvE c.h₀ τ env N s.heap ρ κ → ev c.Φ ρ κ (.cmp b L R) = some d → ∃ k, d = .bool k ∧
      wpAny (model c.prog c.w) A (eval l env) (fun v s₁ => wpAny (model c.prog c.w) A (eval r env) (fun u s₂ => wpAny (model c.prog c.w) A (compareOp op v u) (fun x s' => x = .bool k ∧ Grow s s') NoE s₂) NoE s₁) NoE s := fun {A env N s ρ κ d} hA I e => by
    simp only [ev, Option.bind_eq_bind, Option.bind_eq_some_iff] at e
    obtain ⟨x, hx, y, hy, k, hk, e⟩ := e
    cases e
    refine ⟨k, rfl, wpAny_mono (hl.val hA I hx) (fun v s₁ o₁ => wpAny_mono (hr.val hA (I.grow o₁.grow) hy) (fun u s₂ o₂ => ?_) fun _ _ e => e) fun _ _ e => e⟩
    rw [← copOf_py hb]
    exact wpAny_mono (cmpD_sound hA.cmp (o₁.rep.grow o₂.grow) o₂.rep hk) (fun v s' o => ⟨o.1, (o₁.grow.trans o₂.grow).trans o.2⟩) fun _ _ e => e
  refine ⟨fun {A env N s ρ κ d} hA I e => ?_, fun {A env N s ρ κ d k} hA I e hk => ?_, fun _ _ h => by cases h⟩
  · obtain ⟨k, rfl, h⟩ := main hA I e
    refine wpAny_Compare1 (wpAny_mono h (fun v s₁ h₁ => wpAny_mono h₁ (fun u s₂ h₂ => wpAny_mono h₂ (fun x s₃ h₃ => ?_) fun _ _ e => e) fun _ _ e => e) fun _ _ e => e) hm
    rw [h₃.1]; exact .ofRep h₃.2 (.bool _) rfl
  · obtain ⟨k', rfl, h⟩ := main hA I e
    cases hk
    refine wpAny_isTrue_Compare1 (wpAny_mono h (fun v s₁ h₁ => wpAny_mono h₁ (fun u s₂ h₂ => wpAny_mono h₂ (fun x s₃ h₃ => ?_) fun _ _ e => e) fun _ _ e => e) fun _ _ e => e) hm
    rw [h₃.1]; exact wpAny_truthy_bool ⟨rfl, h₃.2⟩
end Mine
end
/-! S3 -/
section
open PySem PySem.W PyProof.Rows
set_option linter.unusedSimpArgs false
set_option linter.unusedVariables false
namespace Mine
variable {c : Cx} {τ : Tx}

theorem good_cmp2 {l m r : Expr} {op1 op2 : CmpOp} {p : Pos} {b1 b2 : Cop} {L M R : E} (hm : lastMarks [op1, op2] [m, r] = false) (h1 : copOf op1 = some b1) (h2 : copOf op2 = some b2)
    (hl : SndE c τ l L) (hmm : SndE c τ m M) (hr : SndE c τ r R) : SndE c τ (.Compare l [op1, op2] [m, r] p) (.cmp2 b1 b2 L M R) := by
  have main : ∀ {A : Around} {env : Env} {N : Addr → Prop} {s : Shared} {ρ : List Slot} {κ : List D} {d : D}, AOk c.n A → InvE c.h₀ τ env N s.heap ρ κ → ev c.Φ ρ κ (.cmp2 b1 b2 L M R) = some d → ∃ k k1, d = .bool k ∧
      wpAny (model c.prog c.w) A (eval l env) (fun v s₁ => wpAny (model c.prog c.w) A (eval m env) (fun u s₂ => wpAny (model c.prog c.w) A (compareOp op1 v u) (fun x s₃ => x = .bool k1 ∧
        if k1 then wpAny (model c.prog c.w) A (eval r env) (fun z s₄ => wpAny (model c.prog c.w) A (compareOp op2 u z) (fun x s' => x = .bool k ∧ Grow s s') NoE s₄) NoE s₃ else k = false ∧ Grow s s₃) NoE s₂) NoE s₁) NoE s := fun {A env N s ρ κ d} hA I e => by
    simp only [ev, Option.bind_eq_bind, Option.bind_eq_some_iff] at e
    obtain ⟨x, hx, y, hy, k1, hk1, e⟩ := e
    have key : ∃ k, d = .bool k ∧ (if k1 then ∃ z, ev c.Φ ρ κ R = some z ∧ cmpD b2 y z = some k else k = false) := by
      cases k1
      · simp at e; cases e; exact ⟨false, rfl, rfl⟩
      · simp only [if_true, Option.bind_eq_some_iff] at e
        obtain ⟨z, hz, k, hk, e⟩ := e
        cases e; exact ⟨k, rfl, z, hz, hk⟩
    obtain ⟨k, rfl, hk⟩ := key
    refine ⟨k, k1, rfl, wpAny_mono (hl.val hA I hx) (fun v s₁ o₁ => wpAny_mono (hmm.val hA (I.grow o₁.grow) hy) (fun u s₂ o₂ => ?_) fun _ _ e => e) fun _ _ e => e⟩
    rw [← copOf_py h1]
    refine wpAny_mono (cmpD_sound hA.cmp (o₁.rep.grow o₂.grow) o₂.rep hk1) (fun v s₃ o₃ => ⟨o₃.1, ?_⟩) fun _ _ e => e
    have g3 := (o₁.grow.trans o₂.grow).trans o₃.2
    cases k1
    · exact ⟨hk, g3⟩
    · obtain ⟨z, hz, hk⟩ := hk
      refine wpAny_mono (hr.val hA (I.grow g3) hz) (fun z s₄ o₄ => ?_) fun _ _ e => e
      rw [← copOf_py h2]
      exact wpAny_mono (cmpD_sound hA.cmp (o₂.rep.grow (o₃.2.trans o₄.grow)) o₄.rep hk) (fun v s' o => ⟨o.1, (g3.trans o₄.grow).trans o.2⟩) fun _ _ e => e
  refine ⟨fun {A env N s ρ κ d} hA I e => ?_, fun {A env N s ρ κ d k} hA I e hk => ?_, fun _ _ h => by cases h⟩
  · obtain ⟨k, k1, rfl, h⟩ := main hA I e
    refine Compare_chain (wpAny_mono h (fun v s₁ h₁ => chain_link (wpAny_mono h₁ (fun u s₂ h₂ => wpAny_mono h₂ (fun x s₃ h₃ => ?_) fun _ _ e => e) fun _ _ e => e)) fun _ _ e => e) hm
    obtain ⟨rfl, h₃⟩ := h₃
    refine wpAny_truthy_bool ?_
    cases k1
    · obtain ⟨rfl, g⟩ := h₃; exact .ofRep g (.bool _) rfl
    · refine chain_last (wpAny_mono h₃ (fun z s₄ h₄ => wpAny_mono h₄ (fun x s₅ h₅ => ?_) fun _ _ e => e) fun _ _ e => e)
      rw [h₅.1]; exact .ofRep h₅.2 (.bool _) rfl
  · obtain ⟨k', k1, rfl, h⟩ := main hA I e
    cases hk
    refine isTrue_chain (wpAny_mono h (fun v s₁ h₁ => ?_) fun _ _ e => e) hm
    show wpAny _ A (do
      let rv ← holding [v] (eval m env)
      standAt p
      let c ← holding [v, rv] (compareOp op1 v rv)
      release [v, rv] [c]
      if ← holding [c, rv] (truthy c) then testChain p rv [op2] [eval r env] else pure false) _ _ s₁
    refine wpAny_bind (wpAny_holding (wpAny_mono h₁ (fun b s₁ h₁ => wpAny_bind (wpAny_standAt (wpAny_bind (wpAny_holding (wpAny_mono h₁ (fun c s₂ h₂ =>
      wpAny_bind (wpAny_release' (wpAny_bind (wpAny_holding ?_)))) fun _ _ x => x))))) fun _ _ x => x))
    obtain ⟨rfl, h₃⟩ := h₂
    refine wpAny_truthy_bool ?_
    cases k1
    · exact wpAny_pure ⟨h₃.1.symm, h₃.2⟩
    · show wpAny _ A (do
        let rv ← holding [b] (eval r env)
        standAt p
        let c ← operate [b, rv] (compareOp op2 b rv)
        holding [c] (truthy c)) _ _ s₂
      refine wpAny_bind (wpAny_holding (wpAny_mono h₃ (fun z s₄ h₄ => wpAny_bind (wpAny_standAt (wpAny_bind (wpAny_operate' (wpAny_mono h₄ (fun x s₅ h₅ => wpAny_holding ?_) fun _ _ e => e))))) fun _ _ e => e))
      rw [h₅.1]; exact wpAny_truthy_bool ⟨rfl, h₅.2⟩

theorem good_ite {t a b : Expr} {p : Pos} {T A' B : E} (ht : SndE c τ t T) (ha : SndE c τ a A') (hb : SndE c τ b B) : SndE c τ (.IfExp t a b p) (.ite T A' B) := by
  refine ⟨fun {A env N s ρ κ d} hA I e => ?_, fun {A env N s ρ κ d k} hA I e hk => ?_, fun _ _ h => by cases h⟩
  · simp only [ev, Option.bind_eq_bind, Option.bind_eq_some_iff] at e
    obtain ⟨y, hy, b', hb', e⟩ := e
    refine wpAny_IfExp (wpAny_mono (ht.tru hA I hy hb') (fun b₁ s₁ h₁ => ?_) fun _ _ e => e)
    obtain ⟨rfl, g⟩ := h₁
    cases b₁
    · exact wpAny_mono (hb.val hA (I.grow g) e) (fun v s₂ o => let o := o.back g; ⟨o.grow, o.rep, fun h => o.str (by simp [strong] at h; exact h.2), fun h => o.new (by simp [newE] at h; exact h.2)⟩) fun _ _ e => e
    · exact wpAny_mono (ha.val hA (I.grow g) e) (fun v s₂ o => let o := o.back g; ⟨o.grow, o.rep, fun h => o.str (by simp [strong] at h; exact h.1), fun h => o.new (by simp [newE] at h; exact h.1)⟩) fun _ _ e => e
  · simp only [ev, Option.bind_eq_bind, Option.bind_eq_some_iff] at e
    obtain ⟨y, hy, b', hb', e⟩ := e
    show wpAny _ A (do if ← isTrue t env (eval t env) then isTrue a env (eval a env) else isTrue b env (eval b env)) _ _ s
    refine wpAny_bind (wpAny_mono (ht.tru hA I hy hb') (fun b₁ s₁ h₁ => ?_) fun _ _ e => e)
    obtain ⟨rfl, g⟩ := h₁
    cases b₁
    · exact wpAny_mono (hb.tru hA (I.grow g) e hk) (fun v s₂ o => ⟨o.1, g.trans o.2⟩) fun _ _ e => e
    · exact wpAny_mono (ha.tru hA (I.grow g) e hk) (fun v s₂ o => ⟨o.1, g.trans o.2⟩) fun _ _ e => e

/-! lists of expressions -/
inductive SndL (c : Cx) (τ : Tx) : List Expr → E → Prop
  | nil : SndL c τ [] .nil
  | cons {e : Expr} {es : List Expr} {x xs : E} : SndE c τ e x → SndL c τ es xs → SndL c τ (e :: es) (.cons x xs)

theorem starEach_cons {e : Expr} {es : List Expr} {env : Env} (h : ∀ x p, e ≠ .Starred x p) : starEach (e :: es) env = (false, eval e env) :: starEach es env := by
  cases e <;> first | rfl | exact absurd rfl (h _ _)

theorem SndL.plain {es : List Expr} {xs : E} (h : SndL c τ es xs) (env : Env) : starEach es env = es.map fun e => (false, eval e env) := by
  induction h with
  | nil => rfl
  | cons h _ ih => rw [starEach_cons h.nst, ih]; rfl

/-- what the values of a list of expressions are -/
structure EvsOk (N : Addr → Prop) (ρ : List Slot) (x : E) (s : Shared) (ds : List D) (vs : List Value) (s' : Shared) : Prop where
  grow : Grow s s'
  rep : RepTAll N s'.heap vs ds
  str : strong ρ x = true → RepAll N s'.heap vs ds

theorem SndL.vals {es : List Expr} {xs : E} (h : SndL c τ es xs) : ∀ {A : Around} {env : Env} {N : Addr → Prop} {s : Shared} {ρ : List Slot} {κ : List D} {ds : List D} {pos : Pos}, AOk c.n A → InvE c.h₀ τ env N s.heap ρ κ → evs c.Φ ρ κ xs = some ds →
    wpAny (model c.prog c.w) A (spliced (backTo pos (starEach es env))) (EvsOk N ρ xs s ds) NoE s := by
  induction h with
  | nil =>
    intro A env N s ρ κ ds pos hA I e
    simp only [evs] at e
    cases e
    exact wpAny_items_nil ⟨Grow.rfl' _, trivial, fun _ => .nil⟩
  | cons h _ ih =>
    intro A env N s ρ κ ds pos hA I e
    simp only [evs, Option.bind_eq_bind, Option.bind_eq_some_iff] at e
    obtain ⟨d, hd, ds', hds, e⟩ := e
    cases e
    refine wpAny_items_cons (wpAny_mono (h.val hA I hd) (fun v s₁ o₁ => wpAny_mono (ih hA (I.grow o₁.grow) hds) (fun vs s₂ o₂ => ?_) fun _ _ e => e) fun _ _ e => e) (starEach_cons h.nst)
    exact ⟨o₁.grow.trans o₂.grow, ⟨o₁.rep.grow o₂.grow, o₂.rep⟩, fun hs => by
      simp only [strong, Bool.and_eq_true] at hs
      exact .cons ((o₁.str hs.1).grow o₂.grow) (o₂.str hs.2)⟩

theorem good_list {es : List Expr} {xs : E} {p : Pos} (h : SndL c τ es xs) : SndE c τ (.List es p) (.list xs) := by
  refine SndE.ofEv (fun {A env N s ρ κ d} hA I e => ?_) (fun _ => rfl) (fun _ _ h => by cases h)
  simp only [ev, Option.bind_eq_bind] at e
  split at e
  · rename_i hst
    simp only [Option.bind_eq_some_iff] at e
    obtain ⟨ds, hds, e⟩ := e
    split at e
    · rename_i hlen
      cases e
      refine wpAny_List (wpAny_mono (h.vals hA I hds) (fun vs s₁ o => ?_) fun _ _ e => e)
      have hl := (o.str hst).1
      exact ⟨by rw [← LIM_eq]; omega, .of ((Ok.newList (I.grow o.grow).alive (by omega) (o.str hst)).back o.grow)⟩
    · cases e
  · cases e
noncomputable def opAnd : BoolOp → Bool
  | .And => true
  | .Or => false

theorem evB_cons {Φ : Funs} {ρ : List Slot} {κ : List D} {k : Bool} {x xs : E} : evB Φ ρ κ k (.cons x xs) = (match xs with | .nil => ev Φ ρ κ x | xs => do let d ← ev Φ ρ κ x; if (← truthD d) == k then evB Φ ρ κ k xs else some d) := by
  cases xs <;> simp only [evB]

theorem SndL.bools {es : List Expr} {xs : E} (h : SndL c τ es xs) : ∀ {A : Around} {env : Env} {N : Addr → Prop} {s : Shared} {ρ : List Slot} {κ : List D} {d : D} {pos : Pos} {op : BoolOp}, AOk c.n A → InvE c.h₀ τ env N s.heap ρ κ → evB c.Φ ρ κ (opAnd op) xs = some d →
    wpAny (model c.prog c.w) A (boolOp pos op (evalEach es env)) (EvOk N ρ (.bools (opAnd op) xs) s d) NoE s := by
  induction h with
  | nil => intro A env N s ρ κ d pos op hA I e; simp [evB] at e
  | cons h hl ih =>
    rename_i x es' y ys
    intro A env N s ρ κ d pos op hA I e
    rw [evB_cons] at e
    cases hl with
    | nil =>
      refine wpAny_mono (h.val hA I e) (fun v s₁ o => ⟨o.grow, o.rep, fun hs => o.str (by simpa [strong] using hs), fun hn => by cases hn⟩) fun _ _ e => e
    | cons h2 hl2 =>
      rename_i x2 es2 y2 ys2
      simp only [Option.bind_eq_bind, Option.bind_eq_some_iff] at e
      obtain ⟨d', hd', t, ht, e⟩ := e
      show wpAny _ A (do
        let v ← eval x env
        standAt pos
        let t ← holding [v] (truthy v)
        match op, t with
        | .And, false | .Or, true => pure v
        | _, _ => boolOp pos op (evalEach (x2 :: es2) env)) _ _ s
      refine wpAny_bind (wpAny_mono (h.val hA I hd') (fun v s₁ o₁ => wpAny_bind (wpAny_standAt (wpAny_bind (wpAny_holding (wpAny_mono (truthD_sound o₁.rep ht) (fun t' s₂ h₂ => ?_) fun _ _ e => e))))) fun _ _ e => e)
      obtain ⟨rfl, g₂⟩ := h₂
      have g := o₁.grow.trans g₂
      have short : d = d' → EvOk N ρ (.bools (opAnd op) (.cons y (.cons y2 ys2))) s d v s₂ := fun q => by
        subst q
        exact ⟨g, o₁.rep.grow g₂, fun hs => (o₁.str (by simp [strong] at hs; exact hs.1)).grow g₂, fun hn => by cases hn⟩
      have long : evB c.Φ ρ κ (opAnd op) (.cons y2 ys2) = some d → wpAny (model c.prog c.w) A (boolOp pos op (evalEach (x2 :: es2) env)) (EvOk N ρ (.bools (opAnd op) (.cons y (.cons y2 ys2))) s d) NoE s₂ := fun q =>
        wpAny_mono (ih hA (I.grow g) q) (fun v s₃ o₃ => let o₃ := o₃.back g; ⟨o₃.grow, o₃.rep, fun hs => o₃.str (by simp [strong] at hs ⊢; exact hs.2), fun hn => by cases hn⟩) fun _ _ e => e
      cases op <;> cases t'
      · simp [opAnd] at e; exact wpAny_pure (short e.symm)
      · simp only [opAnd, beq_self_eq_true, if_true] at e; exact long e
      · simp only [opAnd, beq_self_eq_true, if_true] at e; exact long e
      · simp [opAnd] at e; exact wpAny_pure (short e.symm)

theorem SndL.alls {es : List Expr} {xs : E} (h : SndL c τ es xs) : ∀ {A : Around} {env : Env} {N : Addr → Prop} {s : Shared} {ρ : List Slot} {κ : List D} {d : D} {b : Bool} {op : BoolOp}, AOk c.n A → InvE c.h₀ τ env N s.heap ρ κ → evB c.Φ ρ κ (opAnd op) xs = some d → truthD d = some b →
    wpAny (model c.prog c.w) A (allTrue op es env) (fun b' s' => b' = b ∧ Grow s s') NoE s := by
  induction h with
  | nil => intro A env N s ρ κ d b op hA I e; simp [evB] at e
  | cons h hl ih =>
    rename_i x es' y ys
    intro A env N s ρ κ d b op hA I e hb
    rw [evB_cons] at e
    cases hl with
    | nil =>
      have hx := h.tru hA I e hb
      cases op
      · refine wpAny_allTrue_And_cons (wpAny_mono hx (fun t s₁ h₁ => ?_) fun _ _ e => e)
        obtain ⟨rfl, g⟩ := h₁
        cases t
        · exact ⟨rfl, g⟩
        · exact wpAny_allTrue_And_nil ⟨rfl, g⟩
      · refine wpAny_allTrue_Or_cons (wpAny_mono hx (fun t s₁ h₁ => ?_) fun _ _ e => e)
        obtain ⟨rfl, g⟩ := h₁
        cases t
        · exact wpAny_allTrue_Or_nil ⟨rfl, g⟩
        · exact ⟨rfl, g⟩
    | cons h2 hl2 =>
      simp only [Option.bind_eq_bind, Option.bind_eq_some_iff] at e
      obtain ⟨d', hd', t, ht, e⟩ := e
      have hx := h.tru hA I hd' ht
      cases op
      · refine wpAny_allTrue_And_cons (wpAny_mono hx (fun t' s₁ h₁ => ?_) fun _ _ e => e)
        obtain ⟨rfl, g⟩ := h₁
        cases t'
        · simp [opAnd] at e; cases e; rw [ht] at hb; cases hb; exact ⟨rfl, g⟩
        · simp only [opAnd, beq_self_eq_true, if_true] at e
          exact wpAny_mono (ih hA (I.grow g) e hb) (fun b' s' h' => ⟨h'.1, g.trans h'.2⟩) fun _ _ e => e
      · refine wpAny_allTrue_Or_cons (wpAny_mono hx (fun t' s₁ h₁ => ?_) fun _ _ e => e)
        obtain ⟨rfl, g⟩ := h₁
        cases t'
        · simp only [opAnd, beq_self_eq_true, if_true] at e
          exact wpAny_mono (ih hA (I.grow g) e hb) (fun b' s' h' => ⟨h'.1, g.trans h'.2⟩) fun _ _ e => e
        · simp [opAnd] at e; cases e; rw [ht] at hb; cases hb; exact ⟨rfl, g⟩

theorem good_bools {op : BoolOp} {es : List Expr} {xs : E} {p : Pos} (h : SndL c τ es xs) : SndE c τ (.BoolOp op es p) (.bools (opAnd op) xs) := by
  refine ⟨fun {A env N s ρ κ d} hA I e => ?_, fun {A env N s ρ κ d k} hA I e hk => ?_, fun _ _ h => by cases h⟩
  · simp only [ev] at e; exact h.bools hA I e
  · simp only [ev] at e; exact wpAny_isTrue_BoolOp (h.alls hA I e hk)

/-! subscripts -/
noncomputable def notSlice : Expr → Bool
  | .Slice .. => false
  | _ => true
theorem subscripted_plain {slice : Expr} (h : notSlice slice = true) (o i : Value) : subscripted slice false o i = operate [o, i] (getItem o i) := by
  cases slice <;> first | rfl | cases h

theorem good_idx {v i : Expr} {p : Pos} {V I' : E} (hn : notSlice i = true) (hv : SndE c τ v V) (hi : SndE c τ i I') : SndE c τ (.Subscript v i p) (.idx V I') := by
  refine SndE.ofEv (fun {A env N s ρ κ d} hA I e => ?_) (fun _ => rfl) (fun _ _ h => by cases h)
  simp only [ev, Option.bind_eq_bind, Option.bind_eq_some_iff] at e
  obtain ⟨x, hx, y, hy, e⟩ := e
  refine Subscript_ (wpAny_mono (hv.val hA I hx) (fun a s₁ o₁ => wpAny_mono (hi.val hA (I.grow o₁.grow) hy) (fun b s₂ o₂ => ?_) fun _ _ e => e) fun _ _ e => e)
  exact wpAny_mono (idx_sound (o₁.rep.grow o₂.grow) o₂.rep e (subscripted_plain hn)) (fun r s₃ h₃ => .ofRep ((o₁.grow.trans o₂.grow).trans h₃.1) h₃.2 rfl) fun _ _ e => e

inductive SndP (c : Cx) (τ : Tx) : Option Expr → E → Prop
  | no : SndP c τ .none (.const .none)
  | yes {e : Expr} {x : E} : SndE c τ e x → SndP c τ (.some e) x
theorem SndP.val {o : Option Expr} {x : E} (h : SndP c τ o x) {A : Around} {env : Env} {N : Addr → Prop} {s : Shared} {ρ : List Slot} {κ : List D} {d : D} (hA : AOk c.n A) (I : InvE c.h₀ τ env N s.heap ρ κ) (e : ev c.Φ ρ κ x = some d) :
    wpAny (model c.prog c.w) A (evalPart o env) (fun v s' => Grow s s' ∧ RepT N s'.heap v d) NoE s := by
  cases h with
  | no => simp only [ev] at e; cases e; exact wpAny_evalPart_none ⟨Grow.rfl' _, .none⟩
  | yes h => exact wpAny_evalPart_some (wpAny_mono (h.val hA I e) (fun v s' o => ⟨o.grow, o.rep⟩) fun _ _ e => e)

theorem good_slice {v : Expr} {l u : Option Expr} {p p' : Pos} {V L U : E} (hv : SndE c τ v V) (hl : SndP c τ l L) (hu : SndP c τ u U) : SndE c τ (.Subscript v (.Slice l u none p') p) (.slice V L U) := by
  refine SndE.ofEv (fun {A env N s ρ κ d} hA I e => ?_) (fun _ => rfl) (fun _ _ h => by cases h)
  simp only [ev, Option.bind_eq_bind, Option.bind_eq_some_iff] at e
  obtain ⟨x, hx, y, hy, z, hz, e⟩ := e
  refine Subscript_ (wpAny_mono (hv.val hA I hx) (fun a s₁ o₁ => wpAny_Slice (wpAny_mono (hl.val hA (I.grow o₁.grow) hy) (fun b s₂ o₂ => wpAny_mono (hu.val hA ((I.grow o₁.grow).grow o₂.1) hz) (fun d s₃ o₃ => wpAny_evalPart_none ?_) fun _ _ e => e) fun _ _ e => e)) fun _ _ e => e)
  have g4 := Grow.push s₃ { cls := .type "slice", data := .fields #[b, d, .none] } s₃.toks
  have g3 := (o₁.grow.trans o₂.1).trans o₃.1
  refine wpAny_mono (slice_sound (I.grow (g3.trans g4)).alive (o₁.rep.grow ((o₂.1.trans o₃.1).trans g4)) (o₂.2.grow (o₃.1.trans g4)) (o₃.2.grow g4) (Heap.get?_push_size _ rfl) e) (fun r s₅ o => .of (o.back (g3.trans g4))) fun _ _ e => e
end Mine
end
/-! S4 -/
section
open PySem PySem.W PyProof.Rows
set_option linter.unusedSimpArgs false
set_option linter.unusedVariables false
namespace Mine
variable {c : Cx} {τ : Tx}

theorem SndL.noStar {es : List Expr} {xs : E} (h : SndL c τ es xs) (env : Env) (pos : Pos) : (backTo pos (starEach es env)).any (·.1) = false ∧ (backTo pos (starEach es env)).all (fun x => !x.1) = true := by
  rw [h.plain]
  constructor
  · simp [backTo]
  · simp [backTo]

theorem SndL.args {es : List Expr} {xs : E} (h : SndL c τ es xs) {A : Around} {env : Env} {N : Addr → Prop} {s : Shared} {ρ : List Slot} {κ : List D} {ds : List D} {pos : Pos} {f : Value} {Q : Args → Shared → Prop} (hA : AOk c.n A) (I : InvE c.h₀ τ env N s.heap ρ κ)
    (e : evs c.Φ ρ κ xs = some ds) (hQ : ∀ vs s', EvsOk N ρ xs s ds vs s' → Q ⟨vs, []⟩ s') : wpAny (model c.prog c.w) A (evalArgs f true (backTo pos (starEach es env)) []) Q NoE s := by
  have hv := h.vals (pos := pos) hA I e
  cases h with
  | nil =>
    simp only [evs] at e
    cases e
    exact PySem.evalArgs_none (hQ [] s ⟨Grow.rfl' _, trivial, fun _ => .nil⟩)
  | cons h hl =>
    rw [starEach_cons h.nst] at hv ⊢
    exact Calls.evalArgs_plain (wpAny_mono hv (fun vs s' o => hQ vs s' o) fun _ _ e => e)

theorem callWith_fn {f : Fn} {M : Model} {A : Around} {E : Value → Shared → Prop} {s : Shared} {pos : Pos} {args : List (Bool × Sem Value)} {Q : Value → Shared → Prop} (hplain : args.any (·.1) = false)
    (h : wpAny M A (evalArgs (fnVal f) true args []) (fun a s₁ => wpAny M A (call (fnVal f) a.pos a.kw) Q E s₁) E s) :
    wpAny M A (callWith pos (fnVal f) [] args []) Q E s := by
  cases f
  case range => dsimp only [fnVal] at h ⊢; exact PySem.callWith_type (first := []) hplain h
  case list => dsimp only [fnVal] at h ⊢; exact PySem.callWith_type (first := []) hplain h
  all_goals dsimp only [fnVal] at h ⊢; exact Calls.callWith_builtin (first := []) hplain h

theorem InvE.ns {h₀ : Heap} {env : Env} {N : Addr → Prop} {h : Heap} {ρ : List Slot} {κ : List D} (I : InvE h₀ τ env N h ρ κ) {a : Addr} {m : Str → Option Value} (n : h₀.Ns a m) : h.Ns a m := n.keeps I.keep

/-- a name of the built-ins, called -/
theorem eval_builtin {A : Around} {env : Env} {N : Addr → Prop} {s : Shared} {ρ : List Slot} {κ : List D} {id : Str} {p : Pos} {v : Value} {Q : Value → Shared → Prop} (G : GOk c) (I : InvE c.h₀ τ env N s.heap ρ κ) (hd : (id == ("__debug__" : Str)) = false) (hk : τ.kind id = some .globalImplicit)
    (hg : c.mg id = none) (hb : c.mb id = some v) (h : Q v s) : wpAny (model c.prog c.w) A (eval (.Name id p) env) Q NoE s := by
  refine Calls.Name_function_global I.kind (by rw [I.kindOf]; exact hk) (Calls.loadGlobal_builtin (by rw [I.glob]; exact I.ns G.g) hg (by rw [I.blt]; exact I.ns G.b) hb h) hd
theorem eval_global {A : Around} {env : Env} {N : Addr → Prop} {s : Shared} {ρ : List Slot} {κ : List D} {id : Str} {p : Pos} {v : Value} {Q : Value → Shared → Prop} (G : GOk c) (I : InvE c.h₀ τ env N s.heap ρ κ) (hd : (id == ("__debug__" : Str)) = false) (hk : τ.kind id = some .globalImplicit)
    (hg : c.mg id = some v) (h : Q v s) : wpAny (model c.prog c.w) A (eval (.Name id p) env) Q NoE s :=
  Calls.Name_function_global I.kind (by rw [I.kindOf]; exact hk) (Calls.loadGlobal_global (by rw [I.glob]; exact I.ns G.g) hg h) hd

theorem good_fn {id : Str} {f : Fn} {p pos : Pos} {es : List Expr} {xs : E} (G : GOk c) (hf : fnOf id = some f) (hk : τ.kind id = some .globalImplicit) (h : SndL c τ es xs) : SndE c τ (.Call (.Name id p) es [] pos) (.fn f xs) := by
  refine SndE.ofEv (fun {A env N s ρ κ d} hA I e => ?_) (fun _ => rfl) (fun _ _ h => by cases h)
  simp only [ev, Option.bind_eq_bind, Option.bind_eq_some_iff] at e
  obtain ⟨ds, hds, e⟩ := e
  have hid := fnOf_name hf
  have hne := fnOf_ne hf
  have hd : (id == ("__debug__" : Str)) = false := by rw [hid]; cases f <;> decide
  refine wpAny_Call_ofName (eval_builtin G I hd hk (by rw [hid]; exact (G.bl f).1) (by rw [hid]; exact (G.bl f).2) ?_)
  show wpAny _ A (callWith pos (fnVal f) [] (backTo pos (starEach es env)) []) _ _ s
  refine callWith_fn (h.noStar env pos).1 (h.args hA I hds fun vs s' o => ?_)
  have hargs : fnArgs f vs = vs := by cases f <;> first | rfl | exact absurd rfl hne
  show wpAny _ A (call (fnVal f) vs []) _ _ s'
  rw [← hargs]
  exact wpAny_mono (fnD_sound hA.1 (I.grow o.grow).alive o.rep e) (fun v s'' o' => .of (o'.back o.grow)) fun _ _ e => e

theorem good_isBool {p p' pos : Pos} {a : Expr} {x : E} (G : GOk c) (hk : τ.kind "isinstance" = some .globalImplicit) (hk' : τ.kind "bool" = some .globalImplicit) (h : SndE c τ a x) : SndE c τ (.Call (.Name "isinstance" p) [a, .Name "bool" p'] [] pos) (.fn .isBool (.cons x .nil)) := by
  refine SndE.ofEv (fun {A env N s ρ κ d} hA I e => ?_) (fun _ => rfl) (fun _ _ h => by cases h)
  simp only [ev, evs, Option.bind_eq_bind, Option.bind_eq_some_iff] at e
  obtain ⟨ds, ⟨d1, hd1, ds', e', e''⟩, e⟩ := e
  cases e'; cases e''
  refine wpAny_Call_ofName (eval_builtin (v := fnVal .isBool) G I (by decide) hk (G.bl .isBool).1 (G.bl .isBool).2 ?_)
  show wpAny _ A (callWith pos (fnVal .isBool) [] (backTo pos (starEach [a, .Name "bool" p'] env)) []) _ _ s
  have hs : starEach [a, .Name "bool" p'] env = [(false, eval a env), (false, eval (.Name "bool" p') env)] := by rw [starEach_cons h.nst]; rfl
  have hb : backTo pos [(false, eval a env), (false, eval (.Name "bool" p') env)] = [(false, eval a env), (false, eval (.Name "bool" p') env)] := rfl
  rw [hs, hb]
  refine callWith_fn (by simp) (Calls.evalArgs_plain (Calls.spliced_cons (wpAny_mono (h.val hA I hd1) (fun v s₁ o => Calls.spliced_cons (eval_builtin G (I.grow o.grow) (by decide) hk' G.bool.1 G.bool.2 (Calls.spliced_nil ?_))) fun _ _ e => e)))
  show wpAny _ A (call (fnVal .isBool) (fnArgs .isBool [v]) []) _ _ s₁
  exact wpAny_mono (fnD_sound (ds := [d1]) hA.1 (I.grow o.grow).alive ⟨o.rep, trivial⟩ e) (fun v s'' o' => .of (o'.back o.grow)) fun _ _ e => e

/-! the text's own functions -/
theorem RepTAll.toX {N : Addr → Prop} {h : Heap} : ∀ {vs : List Value} {ds : List D} (L : List Value), (∀ v ∈ vs, v ∈ L) → RepTAll N h vs ds → RepAll (fun a => N a ∧ Value.ref a ∉ L) h vs ds
  | [], [], _, _, _ => .nil
  | v :: vs, d :: ds, L, hL, r => by
    refine .cons ?_ (RepTAll.toX L (fun u hu => hL u (List.mem_cons_of_mem _ hu)) r.2)
    have r1 := r.1
    cases d with
    | list xs =>
      obtain ⟨a, us, rfl, hl, h1, ra⟩ := r1
      exact Rep.mk_list (fun hN => hN.2 (hL _ List.mem_cons_self)) hl h1 (ra.sub fun _ h => h.1)
    | none => exact Rep.sub (fun _ h => h.1) r1
    | bool b => exact Rep.sub (fun _ h => h.1) r1
    | int i => exact Rep.sub (fun _ h => h.1) r1
    | str s => exact Rep.sub (fun _ h => h.1) r1
    | tup ds => exact Rep.sub (fun _ h => h.1) r1
    | range a b c => exact Rep.sub (fun _ h => h.1) r1
  | [], _ :: _, _, _, r => r.elim
  | _ :: _, [], _, _, r => r.elim

theorem RepAll.scalars {N N' : Addr → Prop} {h : Heap} {vs : List Value} {ds : List D} (hs : ds.all scalar = true) (r : RepAll N h vs ds) : RepAll N' h vs ds :=
  ⟨r.1, fun i v d e1 e2 => (r.2 i v d e1 e2).scalar_any (by
    rw [List.all_eq_true] at hs
    exact hs d (List.mem_of_getElem? e2))⟩

theorem good_ucall {id : Str} {i : Nat} {p pos : Pos} {es : List Expr} {xs : E} (G : GOk c) (F : FnsOk c) (hd : (id == ("__debug__" : Str)) = false) (hne : id ≠ "") (hi : idx? id c.fnames = some i) (hk : τ.kind id = some .globalImplicit) (h : SndL c τ es xs) :
    SndE c τ (.Call (.Name id p) es [] pos) (.ucall i xs) := by
  refine SndE.ofEv (fun {A env N s ρ κ d} hA I e => ?_) (fun _ => rfl) (fun _ _ h => by cases h)
  simp only [ev, Option.bind_eq_bind, Option.bind_eq_some_iff] at e
  obtain ⟨ds, hds, ⟨d', fr⟩, hΦ, e⟩ := e
  split at e
  · rename_i hcond
    cases e
    obtain ⟨a, ha, hm, o, fd, ho, hfd⟩ := G.fn i id (idx?_get hi) hne
    refine wpAny_Call_ofName (eval_global G I hd hk hm ?_)
    show wpAny _ A (callWith pos (.ref a) [] (backTo pos (starEach es env)) []) _ _ s
    refine Calls.callWith_function (o := o) (fd := fd) (h.args hA I hds fun vs s' ov => ⟨⟨(I.grow ov.grow).keep _ _ ho, hfd⟩, wpAny_call ?_⟩)
    show codeAny _ A (.call (.ref a) ⟨vs, []⟩) _ s'
    have I' := I.grow ov.grow
    by_cases hst : strong ρ xs = true
    · refine codeAny_mono (F i a id ds d' fr (idx?_get hi) hne ha hΦ A s' N vs hA I'.keep I'.alive (ov.str hst)) fun r s'' hr => ?_
      obtain ⟨v, rfl, g, rep, _⟩ := hr
      exact .ofRep (ov.grow.trans g) rep rfl
    · refine codeAny_mono (F i a id ds d' fr (idx?_get hi) hne ha hΦ A s' (fun a => N a ∧ Value.ref a ∉ vs) vs hA I'.keep (fun b hb => I'.alive b hb.1) (RepTAll.toX vs (fun _ h => h) ov.rep)) fun r s'' hr => ?_
      obtain ⟨v, rfl, g, rep, fresh⟩ := hr
      refine .ofRep (ov.grow.trans g) ?_ rfl
      by_cases hsc : scalar d' = true
      · exact rep.scalar_any hsc
      · have hff : fr = true ∧ flat d' = true := by
          simp only [Bool.not_eq_true] at hst hsc
          simpa [hst, hsc] using hcond
        obtain ⟨hf1, hf2⟩ := hff
        cases d' with
        | list ys =>
          obtain ⟨b, rfl, hb⟩ := fresh hf1 ys rfl
          obtain ⟨a', us, e1, hn, hl, h1, ra⟩ := rep.inv_list
          cases e1
          exact Rep.mk_list (I'.alive.not hb) hl h1 (ra.scalars (by simpa [flat] using hf2))
        | none => exact absurd rfl hsc
        | bool b => exact absurd rfl hsc
        | int i => exact absurd rfl hsc
        | str s => exact absurd rfl hsc
        | tup ds => cases hf2
        | range a b c => cases hf2
  · cases e

/-! methods -/
section
variable {prog : Program} {w : World} {A : Around} {s : Shared} {N : Addr → Prop}
end

noncomputable def notSuper : Expr → Bool
  | .Call (.Name _ _) [] [] _ => false
  | _ => true
theorem base_plain {o : Expr} {nm : Str} {env : Env} {m : Sem Value} (h : notSuper o = true) : attributeBase o nm env m = m := by
  unfold attributeBase
  split
  · cases h
  · rfl

theorem few {es : List Expr} {xs : E} (h : SndL c τ es xs) (env : Env) (pos : Pos) (hl : es.length < 30) :
    ((backTo pos (starEach es env)).all (fun x => !x.1) && (backToKw pos (keywordEach [] env)).all (fun x => x.1.isSome)
      && decide (es.length + ([] : List Keyword).length + (if ([] : List Keyword).isEmpty then 0 else 1) < 30)) = true := by
  rw [(h.noStar env pos).2]
  simp [keywordEach, backToKw]
  exact hl

end Mine
end
/-! S5 -/
section
open PySem PySem.W PyProof.Rows
set_option linter.unusedSimpArgs false
set_option linter.unusedVariables false
namespace Mine
variable {c : Cx} {τ : Tx}

/-- all but X stands as it stood -/
structure KeepBut (X : Addr → Prop) (s s' : Shared) : Prop where
  os : s'.os = s.os
  gens : s'.gens = s.gens
  keep : ∀ b o, ¬ X b → s.heap.get? b = some o → s'.heap.get? b = some o
theorem KeepBut.rfl' {X : Addr → Prop} (s : Shared) : KeepBut X s s := ⟨rfl, rfl, fun _ _ _ e => e⟩
theorem KeepBut.trans {X : Addr → Prop} {s s' s'' : Shared} (a : KeepBut X s s') (b : KeepBut X s' s'') : KeepBut X s s'' :=
  ⟨b.os.trans a.os, b.gens.trans a.gens, fun x o hx e => b.keep x o hx (a.keep x o hx e)⟩
theorem KeepBut.mono {X Y : Addr → Prop} {s s' : Shared} (h : ∀ b, X b → Y b) (a : KeepBut X s s') : KeepBut Y s s' := ⟨a.os, a.gens, fun b o hb e => a.keep b o (fun hx => hb (h b hx)) e⟩
theorem Grow.kb {X : Addr → Prop} {s s' : Shared} (a : Grow s s') : KeepBut X s s' := ⟨a.os, a.gens, fun b o _ e => a.keep b o e⟩
theorem KeepBut.grow {X : Addr → Prop} {s₁ s s' : Shared} (k : KeepBut X s s') (g : Grow s₁ s) (hX : ∀ b, X b → s₁.heap.get? b = none) : Grow s₁ s' :=
  ⟨k.os.trans g.os, k.gens.trans g.gens, fun b o e => k.keep b o (fun hb => by rw [hX b hb] at e; cases e) (g.keep b o e)⟩
theorem KeepBut.of {X : Addr → Prop} {s : Shared} {h' : Heap} {t : Nat} (hk : ∀ b o, ¬ X b → s.heap.get? b = some o → h'.get? b = some o) : KeepBut X s { s with heap := h', toks := t } := ⟨rfl, rfl, hk⟩
theorem Rep.kb {N X : Addr → Prop} {s s' : Shared} {v : Value} {d : D} (k : KeepBut X s s') (hX : ∀ b, X b → N b) (r : Rep N s.heap v d) : Rep N s'.heap v d :=
  r.mono fun a o hn e => ⟨k.keep a o (fun hx => hn (hX a hx)) e, hn⟩
theorem RepAll.kb {N X : Addr → Prop} {s s' : Shared} {v : List Value} {d : List D} (k : KeepBut X s s') (hX : ∀ b, X b → N b) (r : RepAll N s.heap v d) : RepAll N s'.heap v d :=
  r.mono fun a o hn e => ⟨k.keep a o (fun hx => hn (hX a hx)) e, hn⟩

/-! mapO -/
/-! scopes -/
noncomputable def scopeOk (τ : Tx) (scope : Scope) (vars : List Str) : Bool :=
  (match scope.kind with | .function => true | _ => false) &&
  scope.names.all (fun p => p.2 != .cell && (p.2 != .local || scope.names.lookup p.1 == some .local) && (p.2 != .free || τ.kind p.1 == some .cell)) &&
  vars.all (fun x => scope.names.lookup x == some .local) && !τ.comp
noncomputable def Tx.compTx (τ : Tx) (scope : Scope) (vars : List Str) : Tx :=
  { τ with names := scope.names.map (fun p => if p.2 == .free && τ.kind p.1 == some .cell then (p.1, .cell) else p), ct := vars, comp := true }

structure ScopeOk (τ : Tx) (scope : Scope) (vars : List Str) : Prop where
  kind : scope.kind = .function
  nocell : ∀ p ∈ scope.names, p.2 ≠ .cell
  loc : ∀ p ∈ scope.names, p.2 = .local → scope.names.lookup p.1 = some .local
  free : ∀ p ∈ scope.names, p.2 = .free → τ.kind p.1 = some .cell
  vars : ∀ x ∈ vars, scope.names.lookup x = some .local
  comp : τ.comp = false
theorem ScopeOk.of {scope : Scope} {vars : List Str} (h : scopeOk τ scope vars = true) : ScopeOk τ scope vars := by
  unfold scopeOk at h
  simp only [Bool.and_eq_true, List.all_eq_true, Bool.or_eq_true, bne_iff_ne, beq_iff_eq, Bool.not_eq_true'] at h
  obtain ⟨⟨⟨h1, h2⟩, h3⟩, h4⟩ := h
  refine ⟨?_, fun p hp => (h2 p hp).1.1, fun p hp hl => ?_, fun p hp hl => ?_, h3, h4⟩
  · split at h1
    · assumption
    · cases h1
  · rcases (h2 p hp).1.2 with h | h
    · exact absurd hl h
    · exact h
  · rcases (h2 p hp).2 with h | h
    · exact absurd hl h
    · exact h

theorem lookup_mem {α : Type} {x : Str} {k : α} : ∀ {l : List (Str × α)}, l.lookup x = some k → (x, k) ∈ l
  | [], h => by cases h
  | (n, j) :: r, h => by
    rw [List.lookup_cons] at h
    split at h
    · rename_i e; cases h; rw [eq_of_beq e]; exact List.mem_cons_self
    · exact List.mem_cons_of_mem _ (lookup_mem h)
theorem relabel_cell {nm : Str} : ∀ {names : List (Str × NameKind)}, (∀ p ∈ names, p.2 ≠ .cell) →
    (names.map (fun p => if p.2 == .free && τ.kind p.1 == some .cell then (p.1, NameKind.cell) else p)).lookup nm = some .cell → names.lookup nm = some .free ∧ τ.kind nm = some .cell
  | [], _, h => by cases h
  | (n, k) :: r, hc, h => by
    have ih := relabel_cell (nm := nm) (names := r) (fun p hp => hc p (List.mem_cons_of_mem _ hp))
    simp only [List.map_cons] at h
    by_cases hk : (k == NameKind.free && τ.kind n == some .cell) = true
    · rw [if_pos hk] at h
      rw [List.lookup_cons] at h ⊢
      cases he : nm == n
      · rw [he] at h; exact ih h
      · simp only [Bool.and_eq_true, beq_iff_eq] at hk
        rw [eq_of_beq he]; exact ⟨by rw [hk.1], hk.2⟩
    · rw [if_neg hk] at h
      rw [List.lookup_cons] at h ⊢
      cases he : nm == n
      · rw [he] at h; exact ih h
      · rw [he] at h
        simp only [Option.some.injEq] at h
        exact absurd h (hc (n, k) List.mem_cons_self)

/-! the cells that a comprehension takes along -/
noncomputable def clGo (env : Env) : List (Str × NameKind) → List (Str × Addr) → List (Str × Addr)
  | [], cs => cs
  | (n, k) :: r, cs => clGo env r (if k == .free then (n, (env.cells.lookup n).getD 0) :: cs else cs)
theorem clGo_lookup {env : Env} {nm : Str} : ∀ {l : List (Str × NameKind)} {cs : List (Str × Addr)}, ((nm, NameKind.free) ∈ l ∨ cs.lookup nm = some ((env.cells.lookup nm).getD 0)) → (clGo env l cs).lookup nm = some ((env.cells.lookup nm).getD 0)
  | [], cs, h => by
    rcases h with h | h
    · cases h
    · exact h
  | (n, k) :: r, cs, h => by
    rw [clGo]
    refine clGo_lookup ?_
    rcases h with h | h
    · rcases List.mem_cons.mp h with h | h
      · cases h
        right; simp
      · exact .inl h
    · right
      split
      · rw [List.lookup_cons]
        cases he : nm == n
        · exact h
        · rw [eq_of_beq he]
      · exact h

theorem InvE.comp {env : Env} {N N' : Addr → Prop} {s₁ s' : Shared} {ρ : List Slot} {κ κ' : List D} {scope : Scope} {C : Addr} {vars : List Str} {m : Str → Option Value} (I : InvE c.h₀ τ env N s₁.heap ρ κ) (g : Grow s₁ s')
    (hN' : ∀ a, N' a → N a ∨ s₁.heap.get? a = none) (al : Alive N' s'.heap) (sc : ScopeOk τ scope vars) (ns : s'.heap.Ns C m)
    (hv : ∀ (i : Nat) (nm : Str) (d : D), vars[i]? = some nm → κ'[i]? = some d → ∃ v, m nm = some v ∧ Rep N' s'.heap v d) :
    InvE c.h₀ (τ.compTx scope vars) (compEnvC scope (clGo env scope.names []) C env) N' s'.heap ρ κ' := by
  have hnames : (relabel scope env).names = (τ.compTx scope vars).names := by
    show scope.names.map _ = scope.names.map _
    congr 1
    funext p
    obtain ⟨n, k⟩ := p
    simp [I.kind, I.kindOf]
  have hrep : ∀ {v d}, Rep N s₁.heap v d → Rep N' s'.heap v d := fun r => r.mono fun a o hn e => ⟨g.keep a o e, fun h => by
    rcases hN' a h with h | h
    · exact hn h
    · rw [h] at e; cases e⟩
  have hcell : ∀ nm, (τ.compTx scope vars).kind nm = some .cell → τ.kind nm = some .cell ∧ ∃ a, env.cells.lookup nm = some a ∧ (clGo env scope.names []).lookup nm = some a := fun nm h => by
    obtain ⟨h1, h2⟩ := relabel_cell sc.nocell h
    obtain ⟨a, ha⟩ := I.cells nm h2
    exact ⟨h2, a, ha, by rw [clGo_lookup (.inl (lookup_mem h1)), ha]; rfl⟩
  refine ⟨fun b o e => g.keep b o (I.keep b o e), al, sc.kind, hnames, I.glob, I.blt, fun nm h => ?_, fun x nm sl h1 h2 h3 => ?_, fun x nm d h1 h2 h3 => ?_⟩
  · obtain ⟨_, a, _, h⟩ := hcell nm h
    exact ⟨a, h⟩
  · have h3' : (τ.compTx scope vars).kind nm = some .cell := by simpa [Tx.varOk, Tx.compTx] using h3
    obtain ⟨hk, a, ha, hcl⟩ := hcell nm h3'
    have hvar : ∀ {v}, VarAt env s₁.heap nm v → VarAt (compEnvC scope (clGo env scope.names []) C env) s'.heap nm v := fun {v} x => by
      rcases x with ⟨h, _⟩ | ⟨h, k, hk', hc⟩
      · rw [I.kindOf, hk] at h; cases h
      · rw [ha] at hk'; cases hk'
        refine .inr ⟨?_, a, hcl, hc.keeps g.keep⟩
        show (relabel scope env).names.lookup nm = _
        rw [hnames]; exact h3'
    have := I.slots x nm sl h1 h2 (by simp [Tx.varOk, sc.comp, hk])
    cases sl with
    | unset => trivial
    | val d => obtain ⟨v, p, q⟩ := this; exact ⟨v, hvar p, hrep q⟩
    | own xs =>
      obtain ⟨l, vs, p, ⟨n, hl⟩, q1, q2⟩ := this
      exact ⟨l, vs, hvar p, ⟨n, g.keep _ _ hl⟩, q1, q2.1, fun i v d e1 e2 => hrep (q2.2 i v d e1 e2)⟩
  · obtain ⟨v, hm, r⟩ := hv x nm d h1 h2
    refine ⟨v, .inl ⟨?_, m, ns, hm⟩, r⟩
    show (relabel scope env).names.lookup nm = _
    rw [hnames]; exact h3
end Mine
end
/-! S6 -/
section
open PySem PySem.W PyProof.Rows
set_option linter.unusedSimpArgs false
set_option linter.unusedVariables false
namespace Mine
variable {c : Cx} {τ : Tx}

section
variable {prog : Program} {w : World} {A : Around}

theorem anyE {α : Type} {M : Model} {A : Around} {m : Sem α} {Q : α → Shared → Prop} {E : Value → Shared → Prop} {s : Shared} (h : wpAny M A m Q NoE s) : wpAny M A m Q E s := wpAny_mono h (fun _ _ q => q) fun _ _ f => f.elim

/-! the target of a `for` -/
noncomputable def tgtOf : Expr → Option (List Str)
  | .Name x _ => some [x]
  | .Tuple [.Name x _, .Name y _] _ _ => if x == y then none else some [x, y]
  | _ => none

theorem wpAny_letOwned {E : Value → Shared → Prop} {tgt : Expr} {I : Addr} {v : Value} {s : Shared} {Q : Unit → Shared → Prop} (hc : IterCls s.heap I) (h : Q () s) : wpAny (model prog w) A (letOwnedTupleGo tgt (.ref I) v) Q E s := by
  obtain ⟨o, n, ho, hcl, hn⟩ := hc
  unfold letOwnedTupleGo
  have key : wpAny (model prog w) A (do
    let (.ref r, .ref a) := ((Value.ref I, v) : Value × Value) | return
    let o ← load r
    match o.cls, o.data with
    | .type n, .fields vs =>
      if ["enumerate", "zip", "dict_itemiterator", "dict_reverseitemiterator", "odict_iterator", "itertools.zip_longest", "itertools.pairwise"].contains n && vs[0]? == some (rawInt a) then
        rule "for.unpacks-the-owned-tuple"
        updateField r 0 .none
    | _, _ => pure ()) Q E s := by
    cases v with
    | ref a =>
      refine wpAny_bind (wpAny_load ho ?_)
      rw [hcl]
      cases o.data with
      | fields vs =>
        simp only [hn, Bool.false_and]
        exact wpAny_pure h
      | _ => exact wpAny_pure h
    | _ => exact wpAny_pure h
  split
  · exact key
  · exact key
  · exact wpAny_pure h

end
end Mine
end
/-! S7 -/
section
open PySem PySem.W PyProof.Rows
set_option linter.unusedSimpArgs false
set_option linter.unusedVariables false
namespace Mine
variable {c : Cx} {τ : Tx}

noncomputable def notSet : Expr → Bool
  | .Set .. => false
  | _ => true
theorem folded_plain {e : Expr} {env : Env} {x : Value} (h : notSet e = true) : foldedSetIterable e env x = pure x := by
  unfold foldedSetIterable
  split
  · cases h
  · rfl

section
variable {prog : Program} {w : World} {A : Around}
end

/-- what stands when the loop of a comprehension opens -/
structure CompOpen (c : Cx) (A : Around) (env : Env) (N : Addr → Prop) (s : Shared) (ds : List D) (I Z C : Addr) (fp : List Addr) (P : Nat → Value → Prop) (St : Nat → Heap → Prop) (s₄ : Shared) : Prop where
  W : Walks c.prog c.w A I fp [I] ds.length P St
  cls : ∀ i h, St i h → IterCls h I
  Zf : Z ∉ fp
  Cf : C ∉ fp
  ZI : Z ≠ I
  CI : C ≠ I
  ZC : Z ≠ C
  grow : Grow s s₄
  deadI : s.heap.get? I = none
  deadZ : s.heap.get? Z = none
  deadC : s.heap.get? C = none
  items : Items (fun a => N a ∨ a = C ∨ a = Z ∨ a = I) s₄.heap P ds
  st : St 0 s₄.heap
  ns : ∃ m, s₄.heap.Ns C m
  acc : s₄.heap.PlainList Z #[]

end Mine
end
/-! S8 -/
section
open PySem PySem.W PyProof.Rows
set_option linter.unusedSimpArgs false
set_option linter.unusedVariables false
namespace Mine
variable {c : Cx} {τ : Tx}

/-- the tests of a clause: none, or one -/
inductive SndT (c : Cx) (τ : Tx) : List Expr → E → Prop
  | no : SndT c τ [] (.const (.bool true))
  | one {e : Expr} {x : E} : SndE c τ e x → SndT c τ [e] x
theorem SndT.val {ifs : List Expr} {x : E} (h : SndT c τ ifs x) {A : Around} {env : Env} {N : Addr → Prop} {s : Shared} {ρ : List Slot} {κ : List D} {d : D} {b : Bool} (hA : AOk c.n A) (I : InvE c.h₀ τ env N s.heap ρ κ) (e : ev c.Φ ρ κ x = some d) (hb : truthD d = some b) :
    wpAny (model c.prog c.w) A (forIn ifs true fun c r => if r = true then do let ok ← isTrue c env (eval c env); pure (ForInStep.yield ok) else pure (ForInStep.yield r)) (fun b' s' => b' = b ∧ Grow s s') NoE s := by
  cases h with
  | no => simp only [ev] at e; cases e; cases hb; exact wpAny_tests_nil ⟨rfl, Grow.rfl' _⟩
  | one h => exact wpAny_tests_one (h.tru hA I e hb)

/-- what a comprehension leaves -/
structure CompDone (N : Addr → Prop) (s : Shared) (out : List D) (Z C : Addr) (s' : Shared) : Prop where
  grow : Grow s s'
  deadZ : s.heap.get? Z = none
  deadC : s.heap.get? C = none
  ZC : Z ≠ C
  ns : ∃ m, s'.heap.Ns C m
  rep : ∃ vs, s'.heap.PlainList Z vs.toArray ∧ vs.length ≤ LIM ∧ RepAll (fun a => N a ∨ a = C ∨ a = Z) s'.heap vs out

end Mine
end
/-! S9 -/
section
open PySem PySem.W PyProof.Rows
set_option linter.unusedSimpArgs false
set_option linter.unusedVariables false
namespace Mine
variable {c : Cx} {τ : Tx}

end Mine
end
/-! S10 -/
section
open PySem PySem.W PyProof.Rows
set_option linter.unusedSimpArgs false
set_option linter.unusedVariables false
namespace Mine
variable {c : Cx} {τ : Tx}

/-! ## the translator of expressions -/
noncomputable def trL (f : Expr → Option E) : List Expr → Option E
  | [] => some .nil
  | e :: es => do
    let x ← f e
    let xs ← trL f es
    some (.cons x xs)
noncomputable def trP (f : Expr → Option E) : Option Expr → Option E
  | none => some (.const .none)
  | some e => f e
noncomputable def trCmp (f : Expr → Option E) (l : Expr) (ops : List CmpOp) (rs : List Expr) : Option E :=
  match ops, rs with
  | [op], [r] => if behindInMarks op r then none else do some (.cmp (← copOf op) (← f l) (← f r))
  | [o1, o2], [m, r] => if lastMarks [o1, o2] [m, r] then none else do some (.cmp2 (← copOf o1) (← copOf o2) (← f l) (← f m) (← f r))
  | _, _ => none
noncomputable def trSub (f : Expr → Option E) (v i : Expr) : Option E :=
  match i with
  | .Slice l u none _ => do some (.slice (← f v) (← trP f l) (← trP f u))
  | i => if notSlice i then do some (.idx (← f v) (← f i)) else none
noncomputable def globalName (τ : Tx) (id : Str) : Bool := id != ("__debug__" : Str) && τ.kind id == some .globalImplicit
noncomputable def isName (nm : Str) : Expr → Bool
  | .Name id _ => id == nm
  | _ => false
noncomputable def trFn (f : Expr → Option E) (τ : Tx) (fnames : List Str) (id : Str) (args : List Expr) : Option E :=
  if !globalName τ id then none else
  match fnOf id with
  | some g => (trL f args).map (.fn g)
  | none =>
    if id == ("isinstance" : Str) then
      match args with
      | [a, b] => if isName "bool" b && globalName τ "bool" then (f a).map fun x => .fn .isBool (.cons x .nil) else none
      | _ => none
    else if id == ("" : Str) then none else do some (.ucall (← idx? id fnames) (← trL f args))
noncomputable def trCall (f : Expr → Option E) (τ : Tx) (fnames : List Str) (hasPat : Bool) (fn : Expr) (args : List Expr) (pos : Pos) : Option E :=
  match fn with
  | .Name id _ => trFn f τ fnames id args
  | _ => none
noncomputable def trE (fnames : List Str) (hasPat : Bool) : Nat → Tx → Expr → Option E
  | 0, _, _ => none
  | n + 1, τ, e =>
    match e with
    | .Constant k _ _ => trConst k
    | .Name id _ => trName τ id
    | .BinOp l op r _ => do some (.bin (← bopOf op) (← trE fnames hasPat n τ l) (← trE fnames hasPat n τ r))
    | .BoolOp op es _ => (trL (trE fnames hasPat n τ) es).map (.bools (opAnd op))
    | .Compare l ops rs _ => trCmp (trE fnames hasPat n τ) l ops rs
    | .IfExp t a b _ => do some (.ite (← trE fnames hasPat n τ t) (← trE fnames hasPat n τ a) (← trE fnames hasPat n τ b))
    | .List es _ => (trL (trE fnames hasPat n τ) es).map .list
    | .Subscript v i _ => trSub (trE fnames hasPat n τ) v i
    | .Call fn args kws pos => if kws.isEmpty then trCall (trE fnames hasPat n τ) τ fnames hasPat fn args pos else none
    | _ => none

section
variable {f : Expr → Option E} (hf : ∀ {e x}, f e = some x → SndE c τ e x)
include hf
theorem trL_sound : ∀ {es : List Expr} {xs : E}, trL f es = some xs → SndL c τ es xs
  | [], xs, h => by cases h; exact .nil
  | e :: es, xs, h => by
    simp only [trL, Option.bind_eq_bind, Option.bind_eq_some_iff] at h
    obtain ⟨x, hx, ys, hy, h⟩ := h
    cases h
    exact .cons (hf hx) (trL_sound hy)
theorem trP_sound {o : Option Expr} {x : E} (h : trP f o = some x) : SndP c τ o x := by
  cases o with
  | none => cases h; exact .no
  | some e => exact .yes (hf h)
end

theorem globalName_ok {id : Str} (h : globalName τ id = true) : (id == ("__debug__" : Str)) = false ∧ τ.kind id = some .globalImplicit := by
  simp only [globalName, Bool.and_eq_true, bne_iff_ne, beq_iff_eq] at h
  exact ⟨by simpa using h.1, h.2⟩
theorem isName_eq {nm : Str} {e : Expr} (h : isName nm e = true) : ∃ p, e = .Name nm p := by
  unfold isName at h
  split at h
  · rename_i id p; exact ⟨p, by rw [eq_of_beq h]⟩
  · cases h

/-- a comprehension of one `for`, of two -/
inductive SndK (c : Cx) (τ : Tx) : Expr → List Comprehension → Scope → E → Prop
  | one {elt tgt iter : Expr} {ifs : List Expr} {scope : Scope} {SRC TEST ELT : E} {vars : List Str} (htg : tgtOf tgt = some vars) (sc : ScopeOk τ scope vars) (hit : SndE c τ iter SRC) (hset : notSet iter = true) (hif : SndT c (τ.compTx scope vars) ifs TEST) (hel : SndE c (τ.compTx scope vars) elt ELT) :
    SndK c τ elt [⟨tgt, iter, ifs, 0⟩] scope (.comp vars.length SRC TEST ELT)
  | two {elt iter1 iter2 : Expr} {x y : Str} {px py : Pos} {scope : Scope} {SRC1 SRC2 ELT : E} (hxy : x ≠ y) (sc : ScopeOk τ scope [x, y]) (hit1 : SndE c τ iter1 SRC1) (hset1 : notSet iter1 = true) (hit2 : SndE c (τ.compTx scope [x, y]) iter2 SRC2) (hset2 : notSet iter2 = true)
    (hel : SndE c (τ.compTx scope [x, y]) elt ELT) : SndK c τ elt [⟨.Name x px, iter1, [], 0⟩, ⟨.Name y py, iter2, [], 0⟩] scope (.comp2 SRC1 SRC2 ELT)

theorem trE_sound (G : GOk c) (F : FnsOk c) : ∀ {n : Nat} {τ : Tx} {e : Expr} {x : E}, trE c.fnames c.hasPat n τ e = some x → SndE c τ e x := by
  intro n
  induction n with
  | zero => intro τ e x h; cases h
  | succ n ih =>
    intro τ e x h
    have hf : ∀ {τ e x}, trE c.fnames c.hasPat n τ e = some x → SndE c τ e x := @ih
    cases e with
    | Constant k j p => exact good_const h
    | Name id p => exact good_name h
    | BinOp l op r p =>
      simp only [trE, Option.bind_eq_bind, Option.bind_eq_some_iff] at h
      obtain ⟨b, hb, L, hL, R, hR, h⟩ := h
      cases h; exact good_bin hb (hf hL) (hf hR)
    | BoolOp op es p =>
      simp only [trE, Option.map_eq_some_iff] at h
      obtain ⟨xs, hx, rfl⟩ := h
      exact good_bools (trL_sound hf hx)
    | Compare l ops rs p =>
      have h : trCmp (trE c.fnames c.hasPat n τ) l ops rs = some x := h
      unfold trCmp at h
      split at h
      · split at h
        · cases h
        · rename_i hm
          simp only [Option.bind_eq_bind, Option.bind_eq_some_iff] at h
          obtain ⟨b, hb, L, hL, R, hR, h⟩ := h
          cases h; exact good_cmp (by simpa using hm) hb (hf hL) (hf hR)
      · split at h
        · cases h
        · rename_i hm
          simp only [Option.bind_eq_bind, Option.bind_eq_some_iff] at h
          obtain ⟨b, hb, b2, hb2, L, hL, M, hM, R, hR, h⟩ := h
          cases h; exact good_cmp2 (by simpa using hm) hb hb2 (hf hL) (hf hM) (hf hR)
      · cases h
    | IfExp t a b p =>
      simp only [trE, Option.bind_eq_bind, Option.bind_eq_some_iff] at h
      obtain ⟨T, hT, L, hL, R, hR, h⟩ := h
      cases h; exact good_ite (hf hT) (hf hL) (hf hR)
    | List es p =>
      simp only [trE, Option.map_eq_some_iff] at h
      obtain ⟨xs, hx, rfl⟩ := h
      exact good_list (trL_sound hf hx)
    | Subscript v i p =>
      have h : trSub (trE c.fnames c.hasPat n τ) v i = some x := h
      unfold trSub at h
      split at h
      · simp only [Option.bind_eq_bind, Option.bind_eq_some_iff] at h
        obtain ⟨V, hV, L, hL, U, hU, h⟩ := h
        cases h; exact good_slice (hf hV) (trP_sound hf hL) (trP_sound hf hU)
      · split at h
        · rename_i hn
          simp only [Option.bind_eq_bind, Option.bind_eq_some_iff] at h
          obtain ⟨V, hV, L, hL, h⟩ := h
          cases h; exact good_idx hn (hf hV) (hf hL)
        · cases h
    | Call fn args kws pos =>
      simp only [trE] at h
      split at h
      · rename_i hk
        have hk : kws = [] := by simpa using hk
        subst hk
        unfold trCall at h
        split at h
        · rename_i id p
          unfold trFn at h
          split at h
          · cases h
          · rename_i hg
            have hg : globalName τ id = true := by simpa using hg
            obtain ⟨hd, hk⟩ := globalName_ok hg
            split at h
            · rename_i g hfn
              simp only [Option.map_eq_some_iff] at h
              obtain ⟨xs, hx, rfl⟩ := h
              exact good_fn G hfn hk (trL_sound hf hx)
            · split at h
              · rename_i hi
                have hi : id = ("isinstance" : Str) := by simpa using hi
                subst hi
                split at h
                · split at h
                  · rename_i hc
                    simp only [Bool.and_eq_true] at hc
                    obtain ⟨p', rfl⟩ := isName_eq hc.1
                    simp only [Option.map_eq_some_iff] at h
                    obtain ⟨y, hy, rfl⟩ := h
                    exact good_isBool G hk (globalName_ok hc.2).2 (hf hy)
                  · cases h
                · cases h
              · split at h
                · cases h
                · rename_i hne
                  simp only [Option.bind_eq_bind, Option.bind_eq_some_iff] at h
                  obtain ⟨i, hi, xs, hx, h⟩ := h
                  cases h
                  exact good_ucall G F hd (by simpa using hne) hi hk (trL_sound hf hx)
        · cases h
      · cases h
    | _ => cases h
end Mine
end
/-! S11 -/
section
open PySem PySem.W PyProof.Rows
set_option linter.unusedSimpArgs false
set_option linter.unusedVariables false
namespace Mine
variable {c : Cx} {τ : Tx}

/-! ## Rep is a function; a list does not hold itself -/
theorem PTup.inj {h : Heap} {a : Addr} {xs ys : Array Value} (x : PTup h a xs) (y : PTup h a ys) : xs = ys := by
  obtain ⟨n, hx⟩ := x; obtain ⟨m, hy⟩ := y; rw [hx] at hy; cases hy; rfl
theorem plain_inj {h : Heap} {a : Addr} {xs ys : Array Value} (x : h.PlainList a xs) (y : h.PlainList a ys) : xs = ys := by
  obtain ⟨n, hx⟩ := x; obtain ⟨m, hy⟩ := y; rw [hx] at hy; cases hy; rfl
theorem plain_not_tup {h : Heap} {a : Addr} {xs ys : Array Value} (x : h.PlainList a xs) (y : PTup h a ys) : False := by
  obtain ⟨n, hx⟩ := x; obtain ⟨m, hy⟩ := y
  rw [hx] at hy
  have := Option.some.inj hy
  have h2 := congrArg Obj.cls this
  exact absurd (Value.type.inj h2) (by decide)

theorem Rep.func {N : Addr → Prop} {h : Heap} {v : Value} {d d' : D} (r : Rep N h v d) (r' : Rep N h v d') : d = d' := by
  induction r generalizing d' with
  | none => cases r'; rfl
  | bool b => cases r'; rfl
  | int i t => cases r'; rfl
  | str x t hx =>
    generalize hv : Value.str ⟨x.toArray⟩ t = v at r'
    cases r' with
    | str y u hy => cases hv; rfl
    | _ => cases hv
  | tup a vs ds hn ha hl he hi ih =>
    cases r' with
    | tup _ vs' ds' _ ha' _ he' hi' =>
      have : vs = vs' := by simpa using ha.inj ha'
      subst this
      congr 1
      refine List.ext_getElem (he.symm.trans he') fun i h1 h2 => ?_
      exact ih i vs[i] ds[i] (by simp) (by simp) (hi' i vs[i] ds'[i] (by simp) (by simp))
    | list _ vs' ds' _ ha' _ _ _ => exact (plain_not_tup ha' ha).elim
    | range _ x y z t u w _ hr _ =>
      obtain ⟨n, ha⟩ := ha
      have hr : h.get? a = _ := hr
      rw [ha] at hr
      exact absurd (Value.type.inj (congrArg Obj.cls (Option.some.inj hr))) (by decide)
  | list a vs ds hn ha hl he hi ih =>
    cases r' with
    | list _ vs' ds' _ ha' _ he' hi' =>
      have : vs = vs' := by simpa using plain_inj ha ha'
      subst this
      congr 1
      refine List.ext_getElem (he.symm.trans he') fun i h1 h2 => ?_
      exact ih i vs[i] ds[i] (by simp) (by simp) (hi' i vs[i] ds'[i] (by simp) (by simp))
    | tup _ vs' ds' _ ha' _ _ _ => exact (plain_not_tup ha ha').elim
    | range _ x y z t u w _ hr _ =>
      obtain ⟨n, ha⟩ := ha
      have hr : h.get? a = _ := hr
      rw [ha] at hr
      exact absurd (Value.type.inj (congrArg Obj.cls (Option.some.inj hr))) (by decide)
  | range q x y z t u w hn hr hs =>
    have hr0 : h.get? q = _ := hr
    cases r' with
    | range _ x' y' z' t' u' w' _ hr' _ =>
      have hr' : h.get? q = _ := hr'
      rw [hr0] at hr'
      have := Option.some.inj hr'
      have := congrArg Obj.data this
      simp at this
      obtain ⟨⟨rfl, _⟩, ⟨rfl, _⟩, ⟨rfl, _⟩⟩ := this
      rfl
    | tup _ vs' ds' _ ha' _ _ _ => obtain ⟨n, ha⟩ := ha'; rw [ha] at hr0; exact absurd (Value.type.inj (congrArg Obj.cls (Option.some.inj hr0))) (by decide)
    | list _ vs' ds' _ ha' _ _ _ => obtain ⟨n, ha⟩ := ha'; rw [ha] at hr0; exact absurd (Value.type.inj (congrArg Obj.cls (Option.some.inj hr0))) (by decide)

theorem Rep.apart {N : Addr → Prop} {h : Heap} {a : Addr} {xs : List D} (ra : Rep N h (.ref a) (.list xs)) {v : Value} {d : D} (r : Rep N h v d) : sizeOf d < sizeOf (D.list xs) → Rep (fun b => N b ∨ b = a) h v d := by
  induction r with
  | none => intro _; exact .none
  | bool b => intro _; exact .bool b
  | int i t => intro _; exact .int i t
  | str x t hx => intro _; exact .str x t hx
  | tup b vs ds hn hb hl he hi ih =>
    intro hs
    have hne : b ≠ a := fun e => by
      subst e
      have := ra.func (.tup b vs ds hn hb hl he hi)
      cases this
    refine .tup b vs ds (fun h => h.elim hn hne) hb hl he fun i v d e1 e2 => ih i v d e1 e2 ?_
    have := List.sizeOf_lt_of_mem (List.mem_of_getElem? e2)
    simp at hs ⊢; omega
  | list b vs ds hn hb hl he hi ih =>
    intro hs
    have hne : b ≠ a := fun e => by
      subst e
      have := ra.func (.list b vs ds hn hb hl he hi)
      rw [this] at hs
      exact Nat.lt_irrefl _ hs
    refine .list b vs ds (fun h => h.elim hn hne) hb hl he fun i v d e1 e2 => ih i v d e1 e2 ?_
    have := List.sizeOf_lt_of_mem (List.mem_of_getElem? e2)
    simp at hs ⊢; omega
  | range q x y z t u w hn hr hs =>
    intro _
    have hne : q ≠ a := fun e => by
      subst e
      have := ra.func (.range q x y z t u w hn hr hs)
      cases this
    exact .range q x y z t u w (fun h => h.elim hn hne) hr hs
theorem Rep.elems {N : Addr → Prop} {h : Heap} {a : Addr} {xs : List D} {vs : Array Value} (ra : Rep N h (.ref a) (.list xs)) (hp : h.PlainList a vs) : vs.toList.length ≤ LIM ∧ RepAll (fun b => N b ∨ b = a) h vs.toList xs := by
  obtain ⟨b, us, e, hn, hl, h1, r⟩ := ra.inv_list
  cases e
  have : us.toArray = vs := plain_inj hl hp
  subst this
  refine ⟨by simpa using h1, r.1, fun i v d e1 e2 => ra.apart (r.2 i v d e1 e2) ?_⟩
  have := List.sizeOf_lt_of_mem (List.mem_of_getElem? e2)
  simp; omega

/-! ## the state of a running function -/
structure EnvOk (τ : Tx) (env : Env) : Prop where
  kind : env.scope.kind = .function
  names : env.scope.names = τ.names
  glob : env.globals = mainGlobals
  blt : env.builtins = builtinsNs
  comp : τ.comp = false
  inj : ∀ n n' a, env.cells.lookup n = some a → env.cells.lookup n' = some a → n = n'
  ft : ∀ (x : Nat) (nm : Str), τ.ft[x]? = some nm → τ.kind nm = some .local ∨ τ.kind nm = some .cell
  nd : ∀ (x y : Nat) (nm : Str), τ.ft[x]? = some nm → τ.ft[y]? = some nm → x = y
theorem EnvOk.kindOf {env : Env} (h : EnvOk τ env) (nm : Str) : env.kindOf nm = τ.kind nm := by unfold Env.kindOf Tx.kind; rw [h.names]

noncomputable def SlotV (N M : Addr → Prop) (h : Heap) (V : Str → Option Value) (nm : Str) : Slot → Prop
  | .unset => True
  | .val d => ∃ v, V nm = some v ∧ Rep N h v d
  | .own xs => ∃ a vs, V nm = some (.ref a) ∧ M a ∧ h.PlainList a vs.toArray ∧ vs.length ≤ LIM ∧ RepAll N h vs xs

structure InvS (c : Cx) (τ : Tx) (env : Env) (X M : Addr → Prop) (V : Str → Option Value) (s : Shared) (ρ : List Slot) : Prop where
  keep : ∀ b o, c.h₀.get? b = some o → s.heap.get? b = some o
  alive : Alive (fun a => M a ∨ X a) s.heap
  disj : ∀ a, M a → ¬ X a
  h0 : ∀ a, M a → c.h₀.get? a = none
  ns : ∃ m, s.heap.Ns env.locals m ∧ ∀ nm, τ.kind nm = some .local → m nm = V nm
  cell : ∀ nm, τ.kind nm = some .cell → ∃ a, env.cells.lookup nm = some a ∧ M a ∧ s.heap.IsCell a (V nm)
  mloc : M env.locals
  len : ρ.length = τ.ft.length
  slots : ∀ (x : Nat) (nm : Str) (sl : Slot), τ.ft[x]? = some nm → ρ[x]? = some sl → SlotV (fun a => M a ∨ X a) M s.heap V nm sl
  uniq : ∀ (x y : Nat) (nx ny : Str) (xs ys : List D) (a : Addr), x ≠ y → τ.ft[x]? = some nx → τ.ft[y]? = some ny → ρ[x]? = some (.own xs) → ρ[y]? = some (.own ys) → V nx = some (.ref a) → V ny = some (.ref a) → False

theorem InvS.name {env : Env} {X M : Addr → Prop} {V : Str → Option Value} {s : Shared} {ρ : List Slot} (I : InvS c τ env X M V s ρ) {x : Nat} (hx : x < ρ.length) : ∃ nm, τ.ft[x]? = some nm := by
  rw [I.len] at hx; exact ⟨τ.ft[x], by simp [hx]⟩

theorem InvS.varAt {env : Env} {X M : Addr → Prop} {V : Str → Option Value} {s : Shared} {ρ : List Slot} (ok : EnvOk τ env) (I : InvS c τ env X M V s ρ) {x : Nat} {nm : Str} {v : Value} (hx : τ.ft[x]? = some nm) (hv : V nm = some v) : VarAt env s.heap nm v := by
  rcases ok.ft x nm hx with h | h
  · obtain ⟨m, hm, hmv⟩ := I.ns
    exact .inl ⟨by rw [ok.kindOf]; exact h, m, hm, by rw [hmv nm h]; exact hv⟩
  · obtain ⟨a, ha, _, hc⟩ := I.cell nm h
    exact .inr ⟨by rw [ok.kindOf]; exact h, a, ha, hv ▸ hc⟩

theorem InvS.toE {env : Env} {X M : Addr → Prop} {V : Str → Option Value} {s : Shared} {ρ : List Slot} (ok : EnvOk τ env) (I : InvS c τ env X M V s ρ) : InvE c.h₀ τ env (fun a => M a ∨ X a) s.heap ρ [] := by
  refine ⟨I.keep, I.alive, ok.kind, ok.names, ok.glob, ok.blt, fun nm h => let ⟨a, ha, _⟩ := I.cell nm h; ⟨a, ha⟩, fun x nm sl h1 h2 _ => ?_, fun x nm d _ h2 _ => by simp at h2⟩
  have := I.slots x nm sl h1 h2
  cases sl with
  | unset => trivial
  | val d => obtain ⟨v, hv, r⟩ := this; exact ⟨v, I.varAt ok h1 hv, r⟩
  | own xs => obtain ⟨a, vs, hv, _, hl, h3, r⟩ := this; exact ⟨a, vs, I.varAt ok h1 hv, hl, h3, r⟩

theorem SlotV.grow {N M : Addr → Prop} {s s' : Shared} {V : Str → Option Value} {nm : Str} {sl : Slot} (g : Grow s s') (x : SlotV N M s.heap V nm sl) : SlotV N M s'.heap V nm sl := by
  cases sl with
  | unset => trivial
  | val d => obtain ⟨v, a, b⟩ := x; exact ⟨v, a, b.grow g⟩
  | own xs => obtain ⟨a, vs, b, m, ⟨n, c⟩, d, e⟩ := x; exact ⟨a, vs, b, m, ⟨n, g.keep _ _ c⟩, d, e.grow g⟩
theorem InvS.grow {env : Env} {X M : Addr → Prop} {V : Str → Option Value} {s s' : Shared} {ρ : List Slot} (I : InvS c τ env X M V s ρ) (g : Grow s s') : InvS c τ env X M V s' ρ :=
  ⟨fun b o e => g.keep b o (I.keep b o e), I.alive.grow g, I.disj, I.h0, let ⟨m, h1, h2⟩ := I.ns; ⟨m, h1.keeps g.keep, h2⟩, fun nm h => let ⟨a, h1, h2, h3⟩ := I.cell nm h; ⟨a, h1, h2, h3.keeps g.keep⟩, I.mloc, I.len,
   fun x nm sl h1 h2 => (I.slots x nm sl h1 h2).grow g, I.uniq⟩

/-- one stretch of a function's run: it writes on what is its own alone; what it newly owns did not stand before -/
structure Step (M : Addr → Prop) (s : Shared) (M' : Addr → Prop) (s' : Shared) : Prop where
  kb : KeepBut M s s'
  sub : ∀ a, M' a → M a ∨ s.heap.get? a = none
theorem Step.rfl' {M : Addr → Prop} (s : Shared) : Step M s M s := ⟨KeepBut.rfl' s, fun _ h => .inl h⟩
theorem Step.ofGrow {M : Addr → Prop} {s s' : Shared} (g : Grow s s') : Step M s M s' := ⟨g.kb, fun _ h => .inl h⟩
theorem Step.back {M M' : Addr → Prop} {s s' : Shared} (h : Step M s M' s') {a : Addr} (hd : s'.heap.get? a = none) : M a ∨ s.heap.get? a = none := by
  by_cases hm : M a
  · exact .inl hm
  · right
    cases q : s.heap.get? a with
    | none => rfl
    | some o => rw [h.kb.keep a o hm q] at hd; cases hd
theorem Step.trans {M M' M'' : Addr → Prop} {s s' s'' : Shared} (a : Step M s M' s') (b : Step M' s' M'' s'') : Step M s M'' s'' := by
  refine ⟨⟨b.kb.os.trans a.kb.os, b.kb.gens.trans a.kb.gens, fun x o hx e => b.kb.keep x o (fun hm => ?_) (a.kb.keep x o hx e)⟩, fun x hx => ?_⟩
  · rcases a.sub x hm with h | h
    · exact hx h
    · rw [h] at e; cases e
  · rcases b.sub x hx with h | h
    · exact a.sub x h
    · exact a.back h
theorem Step.less {M M₁ M' : Addr → Prop} {s s' : Shared} (h : ∀ a, M₁ a → M a) (a : Step M₁ s M' s') : Step M s M' s' :=
  ⟨a.kb.mono h, fun x hx => (a.sub x hx).imp (h x) id⟩
theorem Step.rep {M M' X : Addr → Prop} {s s' : Shared} {v : Value} {d : D} (st : Step M s M' s') (r : Rep (fun a => M a ∨ X a) s.heap v d) : Rep (fun a => M' a ∨ X a) s'.heap v d :=
  r.mono fun a o hn e => ⟨st.kb.keep a o (fun h => hn (.inl h)) e, fun h => h.elim (fun h => (st.sub a h).elim (fun h => hn (.inl h)) fun h => by rw [h] at e; cases e) fun h => hn (.inr h)⟩

/-! freezing -/
theorem ns_not_plain {h : Heap} {a : Addr} {m : Str → Option Value} {xs : Array Value} (x : h.Ns a m) (y : h.PlainList a xs) : False := by
  obtain ⟨o, es, ep, ho, hd, _⟩ := x; obtain ⟨n, hy⟩ := y
  rw [ho] at hy; cases hy; cases hd
theorem cell_not_plain {h : Heap} {a : Addr} {v : Option Value} {xs : Array Value} (x : h.IsCell a v) (y : h.PlainList a xs) : False := by
  obtain ⟨o, ho, hd⟩ := x; obtain ⟨n, hy⟩ := y
  rw [ho] at hy; cases hy; cases hd
theorem ns_not_cell {h : Heap} {a : Addr} {m : Str → Option Value} {v : Option Value} (x : h.Ns a m) (y : h.IsCell a v) : False := by
  obtain ⟨o, es, ep, ho, hd, _⟩ := x; obtain ⟨o', hy, hd'⟩ := y
  rw [ho] at hy; cases hy; rw [hd] at hd'; cases hd'

theorem InvS.freeze1 {env : Env} {X M : Addr → Prop} {V : Str → Option Value} {s : Shared} {ρ : List Slot} (I : InvS c τ env X M V s ρ) (x : Nat) : ∃ M₁, (∀ a, M₁ a → M a) ∧ InvS c τ env X M₁ V s (freeze1 x ρ) := by
  unfold Mine.freeze1
  split
  · rename_i xs hx
    have hlt : x < ρ.length := (List.getElem?_eq_some_iff.mp hx).1
    obtain ⟨nm, hnm⟩ := I.name hlt
    obtain ⟨l, vs, hv, hM, hl, h1, ra⟩ := I.slots x nm _ hnm hx
    have hsub : ∀ a, (M a ∧ a ≠ l) ∨ X a → M a ∨ X a := fun a h => h.imp And.left id
    refine ⟨fun a => M a ∧ a ≠ l, fun a h => h.1, I.keep, fun a h => I.alive a (hsub a h), fun a h => I.disj a h.1, fun a h => I.h0 a h.1, I.ns, fun nm h => ?_, ⟨I.mloc, fun e => ?_⟩, by simp [I.len], fun y ny sl h2 h3 => ?_, fun y z ny nz ys zs a hyz h2 h3 h4 h5 => ?_⟩
    · obtain ⟨a, p, q, r⟩ := I.cell nm h
      exact ⟨a, p, ⟨q, fun e => cell_not_plain (e ▸ r) hl⟩, r⟩
    · obtain ⟨m, hm, _⟩ := I.ns; exact ns_not_plain (e ▸ hm) hl
    · rw [List.getElem?_set] at h3
      split at h3
      · rename_i exy
        subst exy
        cases h3
        rw [hnm] at h2; cases h2
        exact ⟨.ref l, hv, Rep.mk_list (fun h => h.elim (fun h => h.2 rfl) (I.disj l hM)) hl h1 (ra.sub hsub)⟩
      · rename_i hne
        have := I.slots y ny sl h2 h3
        cases sl with
        | unset => trivial
        | val d => obtain ⟨v, a, b⟩ := this; exact ⟨v, a, b.sub hsub⟩
        | own ys =>
          obtain ⟨a, us, b, m, p, d, e⟩ := this
          exact ⟨a, us, b, ⟨m, fun e => I.uniq x y nm ny xs ys l hne hnm h2 hx h3 hv (e ▸ b)⟩, p, d, e.sub hsub⟩
    · rw [List.getElem?_set] at h4 h5
      split at h4
      · cases h4
      · split at h5
        · cases h5
        · exact I.uniq y z ny nz ys zs a hyz h2 h3 h4 h5
  · exact ⟨M, fun _ h => h, I⟩
theorem InvS.freeze {env : Env} {X : Addr → Prop} {V : Str → Option Value} {s : Shared} {ρ : List Slot} : ∀ (xs : List Nat) {M : Addr → Prop}, InvS c τ env X M V s ρ → ∃ M₁, (∀ a, M₁ a → M a) ∧ InvS c τ env X M₁ V s (freeze xs ρ)
  | [], M, I => ⟨M, fun _ h => h, I⟩
  | x :: xs, M, I => by
    obtain ⟨M₁, h1, I₁⟩ := InvS.freeze xs I
    obtain ⟨M₂, h2, I₂⟩ := I₁.freeze1 x
    exact ⟨M₂, fun a h => h1 a (h2 a h), I₂⟩

theorem own_freeze1 {x y : Nat} {ρ : List Slot} (h : (freeze1 y ρ)[x]?.any isOwn = true) : x ≠ y ∧ ρ[x]?.any isOwn = true := by
  unfold freeze1 at h
  split at h
  · rename_i xs hy
    rw [List.getElem?_set] at h
    split at h
    · split at h <;> simp [isOwn] at h
    · rename_i hne; exact ⟨fun e => hne e.symm, h⟩
  · rename_i hy
    refine ⟨fun e => ?_, h⟩
    subst e
    cases q : ρ[x]? with
    | none => rw [q] at h; cases h
    | some sl =>
      rw [q] at h
      cases sl with
      | own xs => exact hy xs q
      | _ => simp [isOwn] at h
theorem own_freeze {x : Nat} {ρ : List Slot} : ∀ {xs : List Nat}, (freeze xs ρ)[x]?.any isOwn = true → x ∉ xs ∧ ρ[x]?.any isOwn = true
  | [], h => ⟨by simp, h⟩
  | y :: xs, h => by
    obtain ⟨h1, h2⟩ := own_freeze1 (show (freeze1 y (freeze xs ρ))[x]?.any isOwn = true from h)
    obtain ⟨h3, h4⟩ := own_freeze h2
    exact ⟨by simp [h1, h3], h4⟩
theorem strong_freeze (ρ : List Slot) : ∀ (e : E) (L : List Nat), (∀ x ∈ aliased e, x ∈ L) → strong (freeze L ρ) e = true := by
  intro e
  induction e with
  | var x =>
    intro L hL
    simp only [strong, Bool.not_eq_true']
    cases q : (freeze L ρ)[x]?.any isOwn with
    | false => rfl
    | true => exact absurd (hL x (by simp [aliased])) (own_freeze q).1
  | ite t a b _ iha ihb =>
    intro L hL
    simp only [strong, Bool.and_eq_true]
    exact ⟨iha L fun x hx => hL x (by simp [aliased, hx]), ihb L fun x hx => hL x (by simp [aliased, hx])⟩
  | bools k es ih => intro L hL; exact ih L fun x hx => hL x (by simpa [aliased] using hx)
  | cons e es ih1 ih2 =>
    intro L hL
    simp only [strong, Bool.and_eq_true]
    exact ⟨ih1 L fun x hx => hL x (by simp [aliased, hx]), ih2 L fun x hx => hL x (by simp [aliased, hx])⟩
  | _ => intro L hL; rfl
end Mine
end
/-! S12 -/
section
open PySem PySem.W PyProof.Rows
set_option linter.unusedSimpArgs false
set_option linter.unusedVariables false
namespace Mine
variable {c : Cx} {τ : Tx}

/-! ## what a statement leaves -/
noncomputable def FlOk (M : Addr → Prop) (s : Shared) (N : Addr → Prop) (h' : Heap) : Fl → Flow → Prop
  | .next, f => f = .next
  | .brk, f => f = .brk
  | .cont, f => f = .cont
  | .ret d fr, f => ∃ v, f = .ret v ∧ Rep N h' v d ∧ (fr = true → ∀ xs, d = .list xs → ∃ b, v = .ref b ∧ (M b ∨ s.heap.get? b = none))
noncomputable def ExOk (c : Cx) (τ : Tx) (env : Env) (X M : Addr → Prop) (s : Shared) (ρ' : List Slot) (fl : Fl) (f : Flow) (s' : Shared) : Prop :=
  ∃ M' V', Step M s M' s' ∧ InvS c τ env X M' V' s' ρ' ∧ FlOk M s (fun a => M' a ∨ X a) s'.heap fl f
theorem ExOk.pre {env : Env} {X M₀ M : Addr → Prop} {s₀ s : Shared} {ρ' : List Slot} {fl : Fl} {f : Flow} {s' : Shared} (st : Step M₀ s₀ M s) (h : ExOk c τ env X M s ρ' fl f s') : ExOk c τ env X M₀ s₀ ρ' fl f s' := by
  obtain ⟨M', V', h1, h2, h3⟩ := h
  refine ⟨M', V', st.trans h1, h2, ?_⟩
  cases fl with
  | ret d fr =>
    obtain ⟨v, rfl, r, fresh⟩ := h3
    refine ⟨v, rfl, r, fun hf xs e => ?_⟩
    obtain ⟨b, hv, hb⟩ := fresh hf xs e
    exact ⟨b, hv, hb.elim (st.sub b) st.back⟩
  | _ => exact h3
theorem ExOk.less {env : Env} {X M₀ M : Addr → Prop} {s : Shared} {ρ' : List Slot} {fl : Fl} {f : Flow} {s' : Shared} (hs : ∀ a, M a → M₀ a) (h : ExOk c τ env X M s ρ' fl f s') : ExOk c τ env X M₀ s ρ' fl f s' :=
  ExOk.pre ⟨KeepBut.rfl' s, fun a h => .inl (hs a h)⟩ h

/-- a statement, a block of them -/
noncomputable def SndS (c : Cx) (τ : Tx) (st : Stmt) (k : C) : Prop :=
  ∀ {A : Around} {env : Env} {X M : Addr → Prop} {V : Str → Option Value} {s : Shared} {ρ ρ' : List Slot} {fl : Fl}, AOk c.n A → EnvOk τ env → InvS c τ env X M V s ρ → ex c.Φ k ρ = some (ρ', fl) → wpAny (model c.prog c.w) A (exec st env) (ExOk c τ env X M s ρ' fl) NoE s
noncomputable def SndB (c : Cx) (τ : Tx) (ss : List Stmt) (k : C) : Prop :=
  ∀ {A : Around} {env : Env} {X M : Addr → Prop} {V : Str → Option Value} {s : Shared} {ρ ρ' : List Slot} {fl : Fl}, AOk c.n A → EnvOk τ env → InvS c τ env X M V s ρ → ex c.Φ k ρ = some (ρ', fl) → wpAny (model c.prog c.w) A (execs ss env) (ExOk c τ env X M s ρ' fl) NoE s

theorem sndB_nil : SndB c τ [] .skip := fun hA ok I e => by
  simp only [ex] at e
  cases e
  exact wpAny_execs_nil ⟨_, _, Step.rfl' _, I, rfl⟩
theorem sndB_cons {st : Stmt} {rest : List Stmt} {a b : C} (ha : SndS c τ st a) (hb : SndB c τ rest b) : SndB c τ (st :: rest) (.seq a b) := fun {A env X M V s ρ ρ' fl} hA ok I e => by
  simp only [ex, Option.bind_eq_bind, Option.bind_eq_some_iff] at e
  obtain ⟨⟨ρ₁, f₁⟩, h1, e⟩ := e
  refine wpAny_execs_cons (wpAny_mono (ha hA ok I h1) (fun f s₁ h₁ => ?_) fun _ _ e => e)
  obtain ⟨M₁, V₁, st₁, I₁, fo⟩ := h₁
  cases f₁ with
  | next =>
    cases fo
    exact wpAny_mono (hb hA ok I₁ e) (fun f s₂ h₂ => h₂.pre st₁) fun _ _ e => e
  | brk => cases fo; cases e; exact ⟨M₁, V₁, st₁, I₁, rfl⟩
  | cont => cases fo; cases e; exact ⟨M₁, V₁, st₁, I₁, rfl⟩
  | ret d fr => cases e; obtain ⟨v, rfl, r⟩ := fo; exact ⟨M₁, V₁, st₁, I₁, v, rfl, r⟩

/-! ## stores -/
noncomputable def upd (V : Str → Option Value) (nm : Str) (v : Value) : Str → Option Value := fun y => if y = nm then some v else V y

theorem SlotV.kb {X M : Addr → Prop} {s s' : Shared} {V V' : Str → Option Value} {nm : Str} {sl : Slot} {a₀ : Addr} (ha : M a₀) (kb : KeepBut (fun b => b = a₀) s s') (hp : ∀ a xs, s.heap.PlainList a xs → a ≠ a₀) (hV : V' nm = V nm)
    (x : SlotV (fun a => M a ∨ X a) M s.heap V nm sl) : SlotV (fun a => M a ∨ X a) M s'.heap V' nm sl := by
  have hN : ∀ b, b = a₀ → M b ∨ X b := fun b h => .inl (h ▸ ha)
  cases sl with
  | unset => trivial
  | val d => obtain ⟨v, a, b⟩ := x; exact ⟨v, hV.trans a, b.kb kb hN⟩
  | own xs => obtain ⟨a, vs, b, m, hl, d, e⟩ := x; exact ⟨a, vs, hV.trans b, m, hl.at fun o h => kb.keep a o (hp a _ hl) h, d, e.kb kb hN⟩

theorem store_ok {A : Around} {env : Env} {X M : Addr → Prop} {V : Str → Option Value} {s : Shared} {ρ : List Slot} {x : Nat} {nm : Str} {v : Value} {sl : Slot} {Q : Unit → Shared → Prop} {E : Value → Shared → Prop} (ok : EnvOk τ env) (I : InvS c τ env X M V s ρ) (hx : τ.ft[x]? = some nm)
    (hsl : SlotV (fun a => M a ∨ X a) M s.heap (upd V nm v) nm sl)
    (hu : ∀ xs a, sl = .own xs → v = .ref a → ∀ (y : Nat) (ny : Str) (ys : List D), y ≠ x → τ.ft[y]? = some ny → ρ[y]? = some (.own ys) → V ny ≠ some (.ref a))
    (hQ : ∀ s', KeepBut M s s' → InvS c τ env X M (upd V nm v) s' (ρ.set x sl) → Q () s') : wpAny (model c.prog c.w) A (storeName env nm v) Q E s := by
  have fin : ∀ (a₀ : Addr) (s' : Shared), M a₀ → KeepBut (fun b => b = a₀) s s' → s'.heap.get? a₀ ≠ none → (∀ a xs, s.heap.PlainList a xs → a ≠ a₀) → (∃ m, s'.heap.Ns env.locals m ∧ ∀ n, τ.kind n = some .local → m n = upd V nm v n) →
      (∀ n, τ.kind n = some .cell → ∃ a, env.cells.lookup n = some a ∧ M a ∧ s'.heap.IsCell a (upd V nm v n)) → Q () s' := fun a₀ s' ha kb hal hp hns hcell => by
    have kbM : KeepBut M s s' := kb.mono fun b (h : b = a₀) => by rw [h]; exact ha
    refine hQ s' kbM ⟨fun b o e => kb.keep b o (fun h => ?_) (I.keep b o e), fun a h => ?_, I.disj, I.h0, hns, hcell, I.mloc, by simp [I.len], fun y ny sl' h1 h2 => ?_, fun y z ny nz ys zs a hyz h1 h2 h3 h4 h5 h6 => ?_⟩
    · subst h; rw [I.h0 b ha] at e; cases e
    · by_cases hq : a = a₀
      · rw [hq]; exact hal
      · intro hno
        cases q : s.heap.get? a with
        | none => exact I.alive a h q
        | some o => rw [kb.keep a o hq q] at hno; cases hno
    · rw [List.getElem?_set] at h2
      by_cases hxy : x = y
      · subst hxy
        rw [if_pos rfl] at h2
        split at h2
        · cases h2
          rw [hx] at h1; cases h1
          exact hsl.kb ha kb hp rfl
        · cases h2
      · rw [if_neg hxy] at h2
        exact (I.slots y ny sl' h1 h2).kb ha kb hp (if_neg fun (e : ny = nm) => hxy (ok.nd x y nm hx (by rw [← e]; exact h1)))
    · have hne : ∀ {y ny}, x ≠ y → τ.ft[y]? = some ny → upd V nm v ny = V ny := fun {y ny} hxy h => if_neg fun (e : ny = nm) => hxy (ok.nd x y nm hx (by rw [← e]; exact h))
      rw [List.getElem?_set] at h3 h4
      by_cases hxy : x = y
      · subst hxy
        rw [hx] at h1; cases h1
        have hxz : ¬ x = z := hyz
        rw [if_pos rfl] at h3
        rw [if_neg hxz] at h4
        split at h3
        · cases h3
          rw [hne hxz h2] at h6
          have h5' : v = .ref a := by simpa [upd] using h5
          exact hu ys a rfl h5' z nz zs (Ne.symm hxz) h2 h4 h6
        · cases h3
      · rw [if_neg hxy] at h3
        rw [hne hxy h1] at h5
        by_cases hxz : x = z
        · subst hxz
          rw [hx] at h2; cases h2
          rw [if_pos rfl] at h4
          split at h4
          · cases h4
            have h6' : v = .ref a := by simpa [upd] using h6
            exact hu zs a rfl h6' y ny ys (fun e => hxy e.symm) h1 h3 h5
          · cases h4
        · rw [if_neg hxz] at h4
          rw [hne hxz h2] at h6
          exact I.uniq y z ny nz ys zs a hyz h1 h2 h3 h4 h5 h6
  obtain ⟨m, hm, hmv⟩ := I.ns
  rcases ok.ft x nm hx with hk | hk
  · refine wpAny_storeName_local (by rw [ok.kindOf]; exact hk) hm (fun h' hn' hs => ?_) (by rw [ok.kind]; rfl)
    refine fin env.locals _ I.mloc (KeepBut.of fun b o hb e => hs.extBut b o hb e) (by obtain ⟨o, _, _, ho, _⟩ := hn'; show h'.get? _ ≠ none; rw [ho]; simp) (fun a xs hl e => ns_not_plain (e ▸ hm) hl) ⟨_, hn', fun n hn => ?_⟩ fun n hn => ?_
    · show (if n = nm then some v else m n) = (if n = nm then some v else V n)
      rw [hmv n hn]
    · obtain ⟨a, h1, h2, h3⟩ := I.cell n hn
      have hne : n ≠ nm := fun e => by rw [e, hk] at hn; cases hn
      refine ⟨a, h1, h2, ?_⟩
      rw [show upd V nm v n = V n from if_neg hne]
      exact h3.sameBut hs fun e => ns_not_cell (e ▸ hm) h3
  · obtain ⟨a, h1, h2, h3⟩ := I.cell nm hk
    refine wpAny_storeName_cell ok.kind (by rw [ok.kindOf]; exact hk) h1 h3 fun h' hc' hs => ?_
    refine fin a _ h2 (KeepBut.of (t := s.toks) fun b o hb e => hs.extBut b o hb e) (by obtain ⟨o, ho, _⟩ := hc'; show h'.get? _ ≠ none; rw [ho]; simp) (fun b xs hl e => cell_not_plain (e ▸ h3) hl) ⟨m, hm.sameBut hs fun e => ns_not_cell hm (e ▸ h3), fun n hn => ?_⟩ fun n hn => ?_
    · have hne : n ≠ nm := fun e => by rw [e, hk] at hn; cases hn
      rw [show upd V nm v n = V n from if_neg hne]
      exact hmv n hn
    · by_cases hne : n = nm
      · subst hne
        exact ⟨a, h1, h2, by simpa [upd] using hc'⟩
      · obtain ⟨b, p, q, r⟩ := I.cell n hn
        refine ⟨b, p, q, ?_⟩
        rw [show upd V nm v n = V n from if_neg hne]
        exact r.sameBut hs fun e => hne (ok.inj n nm a (e ▸ p) h1)

/-- a new object becomes the function's own -/
theorem InvS.add {env : Env} {X M : Addr → Prop} {V : Str → Option Value} {s s₁ : Shared} {ρ : List Slot} {a : Addr} (I : InvS c τ env X M V s ρ) (g : Grow s s₁) (hd : s.heap.get? a = none) (ha : s₁.heap.get? a ≠ none) : InvS c τ env X (fun b => M b ∨ b = a) V s₁ ρ := by
  have I₁ := I.grow g
  have hr : ∀ {v d}, Rep (fun b => M b ∨ X b) s.heap v d → Rep (fun b => (M b ∨ b = a) ∨ X b) s₁.heap v d := fun r => r.mono fun b o hn e => ⟨g.keep b o e, fun h => by
    rcases h with (h | h) | h
    · exact hn (.inl h)
    · rw [h, hd] at e; cases e
    · exact hn (.inr h)⟩
  refine ⟨I₁.keep, fun b h => ?_, fun b h hX => ?_, fun b h => ?_, I₁.ns, fun n h => let ⟨b, p, q, r⟩ := I₁.cell n h; ⟨b, p, .inl q, r⟩, .inl I.mloc, I.len, fun x nm sl h1 h2 => ?_, I.uniq⟩
  · rcases h with (h | h) | h
    · exact I₁.alive b (.inl h)
    · rw [h]; exact ha
    · exact I₁.alive b (.inr h)
  · rcases h with h | h
    · exact I.disj b h hX
    · rw [h] at hX; exact I.alive a (.inr hX) hd
  · rcases h with h | h
    · exact I.h0 b h
    · rw [h]
      cases q : c.h₀.get? a with
      | none => rfl
      | some o => rw [I.keep a o q] at hd; cases hd
  · have := I.slots x nm sl h1 h2
    cases sl with
    | unset => trivial
    | val d => obtain ⟨v, p, q⟩ := this; exact ⟨v, p, hr q⟩
    | own xs =>
      obtain ⟨l, vs, p, m, ⟨n, hl⟩, q, r⟩ := this
      exact ⟨l, vs, p, .inl m, ⟨n, g.keep _ _ hl⟩, q, r.1, fun i v d e1 e2 => hr (r.2 i v d e1 e2)⟩

theorem InvS.own_alive {env : Env} {X M : Addr → Prop} {V : Str → Option Value} {s : Shared} {ρ : List Slot} {a : Addr} (I : InvS c τ env X M V s ρ) {y : Nat} {ny : Str} {ys : List D} (h1 : τ.ft[y]? = some ny) (h2 : ρ[y]? = some (.own ys)) (h3 : V ny = some (.ref a)) : s.heap.get? a ≠ none := by
  obtain ⟨l, vs, p, m, ⟨n, hl⟩, q, r⟩ := I.slots y ny _ h1 h2
  rw [h3] at p; cases p; rw [hl]; simp

theorem assign_store {A : Around} {env : Env} {X M : Addr → Prop} {V : Str → Option Value} {s s₁ : Shared} {ρ : List Slot} {x : Nat} {nm : Str} {e : E} {d : D} {v : Value} {E : Value → Shared → Prop} (ok : EnvOk τ env) (I : InvS c τ env X M V s ρ) (hx : τ.ft[x]? = some nm)
    (hstr : strong ρ e = true) (o : EvOk (fun a => M a ∨ X a) ρ e s d v s₁) :
    wpAny (model c.prog c.w) A (storeName env nm v) (fun _ s' => ∃ M' V', Step M s M' s' ∧ KeepBut M' s₁ s' ∧ (∀ a, M' a → M a ∨ v = .ref a) ∧ InvS c τ env X M' V' s' (ρ.set x (slotOf e d))) E s₁ := by
  have plain : slotOf e d = .val d → wpAny (model c.prog c.w) A (storeName env nm v) (fun _ s' => ∃ M' V', Step M s M' s' ∧ KeepBut M' s₁ s' ∧ (∀ a, M' a → M a ∨ v = .ref a) ∧ InvS c τ env X M' V' s' (ρ.set x (slotOf e d))) E s₁ := fun hsl => by
    rw [hsl]
    refine store_ok (sl := .val d) ok (I.grow o.grow) hx ⟨v, by simp [upd], o.str hstr⟩ (fun _ _ h => by cases h) fun s' kb I' => ?_
    exact ⟨M, _, ⟨(o.grow.kb).trans kb, fun a h => .inl h⟩, kb, fun a h => .inl h, I'⟩
  cases d with
  | list xs =>
    cases hn : newE e with
    | false => exact plain (by simp [slotOf, hn])
    | true =>
      obtain ⟨a, vs, rfl, hd, hpl⟩ := o.new hn xs rfl
      obtain ⟨hl, ra⟩ := (o.str hstr).elems hpl
      have hal : s₁.heap.get? a ≠ none := by obtain ⟨n, h⟩ := hpl; rw [h]; simp
      have hsl : slotOf e (.list xs) = .own xs := by simp [slotOf, hn]
      rw [hsl]
      refine store_ok (sl := .own xs) ok (I.add o.grow hd hal) hx ⟨a, vs.toList, by simp [upd], .inr rfl, by simpa using hpl, hl, ra.sub fun b h => ?_⟩ (fun ys b h1 h2 y ny zs h3 h4 h5 h6 => ?_) fun s' kb I' => ?_
      · rcases h with (h | h) | h
        · exact .inl (.inl h)
        · exact .inr h
        · exact .inl (.inr h)
      · cases h2; exact I.own_alive h4 h5 h6 hd
      · refine ⟨_, _, ⟨⟨kb.os.trans o.grow.os, kb.gens.trans o.grow.gens, fun b ob hb e => kb.keep b ob (fun h => h.elim hb fun h => by rw [h, hd] at e; cases e) (o.grow.keep b ob e)⟩, fun b h => h.imp id fun (h : b = a) => by rw [h]; exact hd⟩, kb, fun b h => h.imp id fun (h : b = a) => by rw [h], I'⟩
  | none => exact plain rfl
  | bool b => exact plain rfl
  | int i => exact plain rfl
  | str b => exact plain rfl
  | tup b => exact plain rfl
  | range a b c => exact plain rfl

/-! ## assignments -/
theorem assign_core {A : Around} {env : Env} {X M : Addr → Prop} {V : Str → Option Value} {s : Shared} {ρ ρ' : List Slot} {fl : Fl} {x : Nat} {e : E} (I : InvS c τ env X M V s ρ) (h : ex c.Φ (.assign x e) ρ = some (ρ', fl)) :
    ∃ M₁ d, (∀ a, M₁ a → M a) ∧ InvS c τ env X M₁ V s (freeze (aliased e) ρ) ∧ strong (freeze (aliased e) ρ) e = true ∧ ev c.Φ (freeze (aliased e) ρ) [] e = some d ∧ ρ' = (freeze (aliased e) ρ).set x (slotOf e d) ∧ fl = .next := by
  simp only [ex, Option.bind_eq_bind, Option.bind_eq_some_iff] at h
  obtain ⟨d, hd, h⟩ := h
  obtain ⟨M₁, hs, I₁⟩ := I.freeze (aliased e)
  split at h
  · cases h; exact ⟨M₁, d, hs, I₁, strong_freeze ρ e _ (fun _ h => h), hd, rfl, rfl⟩
  · cases h

theorem snd_assign {nm : Str} {x : Nat} {px pos : Pos} {value : Expr} {e : E} (hv : SndE c τ value e) (hi : idx? nm τ.ft = some x) (hsw : ∀ env, EnvOk τ env → swapsWith value (some (.Name nm px)) pos.line env = pure false) : SndS c τ (.Assign [.Name nm px] value pos) (.assign x e) :=
  fun {A env X M V s ρ ρ' fl} hA ok I h => by
  obtain ⟨M₁, d, hs, I₁, hst, hd, rfl, rfl⟩ := assign_core (A := A) I h
  refine wpAny_Assign_Name (wpAny_mono (hv.val hA (I₁.toE ok) hd) (fun v s₁ o => ?_) fun _ _ e => e) (hsw env ok)
  refine wpAny_mono (assign_store ok I₁ (idx?_get hi) hst o) (fun _ s' h' => ?_) fun _ _ e => e
  obtain ⟨M', V', st, _, _, I'⟩ := h'
  exact ⟨M', V', st.less hs, I', rfl⟩

end Mine
end
/-! S13 -/
section
open PySem PySem.W PyProof.Rows
set_option linter.unusedSimpArgs false
set_option linter.unusedVariables false
namespace Mine
variable {c : Cx} {τ : Tx}

/-! ## targets -/
theorem put1_ok {A : Around} {env : Env} {X M : Addr → Prop} {V : Str → Option Value} {s : Shared} {ρ ρ' : List Slot} {x : Nat} {nm : Str} {p : Pos} {d : D} {v : Value} {E : Value → Shared → Prop} (ok : EnvOk τ env) (I : InvS c τ env X M V s ρ) (hi : idx? nm τ.ft = some x) (hp : put1 x d ρ = some ρ')
    (r : Rep (fun a => M a ∨ X a) s.heap v d) : wpAny (model c.prog c.w) A (assign (.Name nm p) env v) (fun _ s' => ∃ V', KeepBut M s s' ∧ InvS c τ env X M V' s' ρ') E s := by
  unfold put1 at hp
  split at hp
  · cases hp
    exact wpAny_assign_Name (store_ok (sl := .val d) ok I (idx?_get hi) ⟨v, by simp [upd], r⟩ (fun _ _ h => by cases h) fun s' kb I' => ⟨_, kb, I'⟩)
  · cases hp

theorem put2_ok {A : Around} {env : Env} {X M : Addr → Prop} {V : Str → Option Value} {s : Shared} {ρ ρ' : List Slot} {x y k : Nat} {nx ny : Str} {px py p : Pos} {d : D} {v : Value} {E : Value → Shared → Prop} (hh : A.handled = none) (ok : EnvOk τ env) (I : InvS c τ env X M V s ρ) (hix : idx? nx τ.ft = some x) (hiy : idx? ny τ.ft = some y) (hp : put2 x y d ρ = some ρ')
    (r : Rep (fun a => M a ∨ X a) s.heap v d) : wpAny (model c.prog c.w) A (assign (.Tuple [.Name nx px, .Name ny py] k p) env v) (fun _ s' => ∃ V', KeepBut M s s' ∧ InvS c τ env X M V' s' ρ') E s := by
  unfold put2 at hp
  split at hp
  · split at hp
    · rename_i da db hc
      cases hp
      obtain ⟨t, vs, rfl, hn, hT, hl, ra⟩ := r.inv_tup
      have hlen : vs.length = 2 := ra.1
      obtain ⟨va, vb, rfl⟩ : ∃ va vb, vs = [va, vb] := by
        match vs, hlen with
        | [a, b], _ => exact ⟨a, b, rfl⟩
      refine assign_Tuple_tuple hh hT.isTup rfl rfl fun h₁ he => ?_
      have g₁ : Grow s { s with heap := h₁ } := ⟨rfl, rfl, fun b o e => he b o (fun hbs => by rw [hbs, get_size] at e; cases e) e⟩
      show wpAny _ A (do holding [vb] (assign (.Name nx px) env va); assignInOrder [assign (.Name ny py) env] [vb]) _ _ _
      have ra' : Rep (fun a => M a ∨ X a) ({ s with heap := h₁ } : Shared).heap va da := (ra.2 0 va da rfl rfl).grow g₁
      have rb' : Rep (fun a => M a ∨ X a) ({ s with heap := h₁ } : Shared).heap vb db := (ra.2 1 vb db rfl rfl).grow g₁
      refine wpAny_bind (wpAny_holding (wpAny_assign_Name (store_ok (sl := .val da) ok (I.grow g₁) (idx?_get hix) ⟨va, by simp [upd], ra'⟩ (fun _ _ h => by cases h) fun s₂ kb₂ I₂ => ?_)))
      show wpAny _ A (do holding [] (assign (.Name ny py) env vb); assignInOrder [] []) _ _ _
      refine wpAny_bind (wpAny_holding (wpAny_assign_Name (store_ok (sl := .val db) ok I₂ (idx?_get hiy) ⟨vb, by simp [upd], rb'.kb kb₂ fun b h => .inl h⟩ (fun _ _ h => by cases h) fun s₃ kb₃ I₃ => wpAny_pure ⟨_, (g₁.kb.trans kb₂).trans kb₃, I₃⟩)))
    · cases hp
  · cases hp

/-- a `for`'s target, and how the interpreter sets it -/
inductive Tgt (τ : Tx) : Expr → (D → List Slot → Option (List Slot)) → Prop
  | one {nm : Str} {p : Pos} {x : Nat} : idx? nm τ.ft = some x → Tgt τ (.Name nm p) (put1 x)
  | two {nx ny : Str} {px py p : Pos} {x y k : Nat} : idx? nx τ.ft = some x → idx? ny τ.ft = some y → Tgt τ (.Tuple [.Name nx px, .Name ny py] k p) (put2 x y)
theorem Tgt.ok {tgt : Expr} {put : D → List Slot → Option (List Slot)} (t : Tgt τ tgt put) {A : Around} {env : Env} {X M : Addr → Prop} {V : Str → Option Value} {s : Shared} {ρ ρ' : List Slot} {d : D} {v : Value} {E : Value → Shared → Prop} (hh : A.handled = none) (ok : EnvOk τ env) (I : InvS c τ env X M V s ρ)
    (hp : put d ρ = some ρ') (r : Rep (fun a => M a ∨ X a) s.heap v d) : wpAny (model c.prog c.w) A (assign tgt env v) (fun _ s' => ∃ V', KeepBut M s s' ∧ InvS c τ env X M V' s' ρ') E s := by
  cases t with
  | one hi => exact put1_ok ok I hi hp r
  | two hx hy => exact put2_ok hh ok I hx hy hp r

/-! ## an own list is written -/
section
variable {A : Around} {env : Env} {X M : Addr → Prop} {V : Str → Option Value} {s : Shared} {ρ : List Slot}

end

end Mine
end
/-! S14 -/
section
open PySem PySem.W PyProof.Rows
set_option linter.unusedSimpArgs false
set_option linter.unusedVariables false
namespace Mine
variable {c : Cx} {τ : Tx}

section
variable {prog : Program} {w : World} {A : Around} {E : Value → Shared → Prop} {s : Shared}
end

theorem snd_ite {t : Expr} {a b : List Stmt} {p : Pos} {T : E} {A' B : C} (ht : SndE c τ t T) (ha : SndB c τ a A') (hb : SndB c τ b B) : SndS c τ (.If t a b p) (.ite T A' B) := fun {A env X M V s ρ ρ' fl} hA ok I h => by
  simp only [ex, Option.bind_eq_bind, Option.bind_eq_some_iff] at h
  obtain ⟨d, hd, k, hk, h⟩ := h
  refine wpAny_If (wpAny_mono (ht.tru hA (I.toE ok) hd hk) (fun b s₁ h₁ => ?_) fun _ _ e => e)
  obtain ⟨rfl, g⟩ := h₁
  cases b
  · exact wpAny_mono (hb hA ok (I.grow g) h) (fun f s' h' => h'.pre (Step.ofGrow g)) fun _ _ e => e
  · exact wpAny_mono (ha hA ok (I.grow g) h) (fun f s' h' => h'.pre (Step.ofGrow g)) fun _ _ e => e

theorem snd_ret {e : Expr} {p : Pos} {z : E} (hz : SndE c τ e z) : SndS c τ (.Return (some e) p) (.ret z) := fun {A env X M V s ρ ρ' fl} hA ok I h => by
  simp only [ex, Option.bind_eq_bind, Option.bind_eq_some_iff] at h
  obtain ⟨d, hd, h⟩ := h
  obtain ⟨rfl, rfl⟩ := Prod.mk.inj (Option.some.inj h)
  obtain ⟨M₁, hs, I₁⟩ := I.freeze (aliased z)
  have hst := strong_freeze ρ z (aliased z) fun _ h => h
  refine wpAny_Return_some (wpAny_mono (hz.val hA (I₁.toE ok) hd) (fun v s₁ o => ?_) fun _ _ e => e)
  refine ⟨M₁, V, ⟨o.grow.kb, fun a h => .inl (hs a h)⟩, I₁.grow o.grow, v, rfl, o.str hst, fun hf xs e => ?_⟩
  obtain ⟨a, vs, rfl, hd', _⟩ := o.new hf xs e
  exact ⟨a, rfl, .inr hd'⟩

theorem snd_retv {nm : Str} {x : Nat} {p p' : Pos} (hd : (nm == ("__debug__" : Str)) = false) (hi : idx? nm τ.ft = some x) : SndS c τ (.Return (some (.Name nm p')) p) (.retv x) := fun {A env X M V s ρ ρ' fl} hA ok I h => by
  simp only [ex] at h
  have hx := idx?_get hi
  split at h
  · rename_i d hρ
    cases h
    obtain ⟨v, hv, r⟩ := I.slots x nm _ hx hρ
    exact wpAny_Return_some (wpAny_Name (load_var ok.kind (I.varAt ok hx hv) ⟨M, V, Step.rfl' _, I, v, rfl, r, fun h => by cases h⟩) hd)
  · rename_i xs hρ
    obtain ⟨rfl, rfl⟩ := Prod.mk.inj (Option.some.inj h)
    obtain ⟨a, vs, hv, hM, hpl, hl, ra⟩ := I.slots x nm _ hx hρ
    obtain ⟨M₁, hs, I₁⟩ := I.freeze1 x
    have hlt : x < ρ.length := (List.getElem?_eq_some_iff.mp hρ).1
    have hρ₁ : (freeze1 x ρ)[x]? = some (.val (.list xs)) := by unfold freeze1; rw [hρ]; simp [hlt]
    obtain ⟨v', hv', r'⟩ := I₁.slots x nm _ hx hρ₁
    rw [hv] at hv'; cases hv'
    refine wpAny_Return_some (wpAny_Name (load_var ok.kind (I.varAt ok hx hv) ⟨M₁, V, ⟨KeepBut.rfl' _, fun a h => .inl (hs a h)⟩, I₁, .ref a, rfl, r', fun _ ys _ => ⟨a, rfl, .inl hM⟩⟩) hd)
  · cases h
end Mine
end
/-! S15 -/
section
open PySem PySem.W PyProof.Rows
set_option linter.unusedSimpArgs false
set_option linter.unusedVariables false
namespace Mine
variable {c : Cx} {τ : Tx}

/-! ## `for` -/
theorem InvS.addX {env : Env} {X Y M : Addr → Prop} {V : Str → Option Value} {s s₁ : Shared} {ρ : List Slot} (I : InvS c τ env X M V s ρ) (g : Grow s s₁) (hd : ∀ a, Y a → s.heap.get? a = none) (ha : ∀ a, Y a → s₁.heap.get? a ≠ none) : InvS c τ env (fun b => X b ∨ Y b) M V s₁ ρ := by
  have I₁ := I.grow g
  have hr : ∀ {v d}, Rep (fun b => M b ∨ X b) s.heap v d → Rep (fun b => M b ∨ X b ∨ Y b) s₁.heap v d := fun r => r.mono fun b o hn e => ⟨g.keep b o e, fun h => by
    rcases h with h | h | h
    · exact hn (.inl h)
    · exact hn (.inr h)
    · rw [hd b h] at e; cases e⟩
  refine ⟨I₁.keep, fun b h => ?_, fun b h hX => ?_, I.h0, I₁.ns, I₁.cell, I.mloc, I.len, fun x nm sl h1 h2 => ?_, I.uniq⟩
  · rcases h with h | h | h
    · exact I₁.alive b (.inl h)
    · exact I₁.alive b (.inr h)
    · exact ha b h
  · rcases hX with hX | hX
    · exact I.disj b h hX
    · exact I.alive b (.inl h) (hd b hX)
  · have := I.slots x nm sl h1 h2
    cases sl with
    | unset => trivial
    | val d => obtain ⟨v, p, q⟩ := this; exact ⟨v, p, hr q⟩
    | own xs =>
      obtain ⟨l, vs, p, m, ⟨n, hl⟩, q, r⟩ := this
      exact ⟨l, vs, p, m, ⟨n, g.keep _ _ hl⟩, q, r.1, fun i v d e1 e2 => hr (r.2 i v d e1 e2)⟩
theorem InvS.subX {env : Env} {X Y M : Addr → Prop} {V : Str → Option Value} {s : Shared} {ρ : List Slot} (I : InvS c τ env Y M V s ρ) (h : ∀ a, X a → Y a) : InvS c τ env X M V s ρ := by
  have hN : ∀ a, M a ∨ X a → M a ∨ Y a := fun a q => q.imp id (h a)
  refine ⟨I.keep, fun a q => I.alive a (hN a q), fun a q r => I.disj a q (h a r), I.h0, I.ns, I.cell, I.mloc, I.len, fun x nm sl h1 h2 => ?_, I.uniq⟩
  have := I.slots x nm sl h1 h2
  cases sl with
  | unset => trivial
  | val d => obtain ⟨v, p, q⟩ := this; exact ⟨v, p, q.sub hN⟩
  | own xs => obtain ⟨l, vs, p, m, hl, q, r⟩ := this; exact ⟨l, vs, p, m, hl, q, r.sub hN⟩
/-- what the iterators do -/
theorem InvS.chgX {env : Env} {X Y M : Addr → Prop} {V : Str → Option Value} {s s' : Shared} {ρ : List Slot} (I : InvS c τ env X M V s ρ) (kb : KeepBut Y s s') (hY : ∀ a, Y a → X a) (hal : ∀ a, Y a → s'.heap.get? a ≠ none) (h0 : ∀ a, Y a → c.h₀.get? a = none) : InvS c τ env X M V s' ρ := by
  have hM : ∀ a, M a → ¬ Y a := fun a h q => I.disj a h (hY a q)
  have hN : ∀ b, Y b → M b ∨ X b := fun b h => .inr (hY b h)
  refine ⟨fun b o e => kb.keep b o (fun h => by rw [h0 b h] at e; cases e) (I.keep b o e), fun a h => ?_, I.disj, I.h0, ?_, fun n h => ?_, I.mloc, I.len, fun x nm sl h1 h2 => ?_, I.uniq⟩
  · by_cases q : Y a
    · exact hal a q
    · intro hno
      cases e : s.heap.get? a with
      | none => exact I.alive a h e
      | some o => rw [kb.keep a o q e] at hno; cases hno
  · obtain ⟨m, h1, h2⟩ := I.ns
    exact ⟨m, h1.at' fun o e => kb.keep _ o (hM _ I.mloc) e, h2⟩
  · obtain ⟨a, p, q, o, ho, hd⟩ := I.cell n h
    exact ⟨a, p, q, o, kb.keep a o (hM a q) ho, hd⟩
  · have := I.slots x nm sl h1 h2
    cases sl with
    | unset => trivial
    | val d => obtain ⟨v, p, q⟩ := this; exact ⟨v, p, q.kb kb hN⟩
    | own xs => obtain ⟨l, vs, p, m, hl, q, r⟩ := this; exact ⟨l, vs, p, m, hl.at fun o e => kb.keep l o (hM l m) e, q, r.kb kb hN⟩

/-- the iterator's end -/
theorem InvS.dropX {env : Env} {X Y M : Addr → Prop} {V : Str → Option Value} {s s' : Shared} {ρ : List Slot} (I : InvS c τ env (fun a => X a ∨ Y a) M V s ρ) (kb : KeepBut Y s s') (hXY : ∀ a, X a → ¬ Y a) (h0 : ∀ a, Y a → c.h₀.get? a = none) : InvS c τ env X M V s' ρ := by
  have hM : ∀ a, M a → ¬ Y a := fun a h q => I.disj a h (.inr q)
  have hr : ∀ {v d}, Rep (fun a => M a ∨ X a ∨ Y a) s.heap v d → Rep (fun a => M a ∨ X a) s'.heap v d := fun r => r.mono fun a o hn e => ⟨kb.keep a o (fun q => hn (.inr (.inr q))) e, fun q => hn (q.imp id .inl)⟩
  refine ⟨fun b o e => kb.keep b o (fun h => by rw [h0 b h] at e; cases e) (I.keep b o e), fun a h => ?_, fun a h q => I.disj a h (.inl q), I.h0, ?_, fun n h => ?_, I.mloc, I.len, fun x nm sl h1 h2 => ?_, I.uniq⟩
  · have hy : ¬ Y a := h.elim (hM a) (hXY a)
    intro hno
    cases e : s.heap.get? a with
    | none => exact I.alive a (h.imp id .inl) e
    | some o => rw [kb.keep a o hy e] at hno; cases hno
  · obtain ⟨m, h1, h2⟩ := I.ns
    exact ⟨m, h1.at' fun o e => kb.keep _ o (hM _ I.mloc) e, h2⟩
  · obtain ⟨a, p, q, o, ho, hd⟩ := I.cell n h
    exact ⟨a, p, q, o, kb.keep a o (hM a q) ho, hd⟩
  · have := I.slots x nm sl h1 h2
    cases sl with
    | unset => trivial
    | val d => obtain ⟨v, p, q⟩ := this; exact ⟨v, p, hr q⟩
    | own xs => obtain ⟨l, vs, p, m, hl, q, r⟩ := this; exact ⟨l, vs, p, m, hl.at fun o e => kb.keep l o (hM l m) e, q, r.1, fun i v d e1 e2 => hr (r.2 i v d e1 e2)⟩

/-- a source of items, once its iterator stands: Y are the iterator's own objects -/
structure SrcW (c : Cx) (A : Around) (tgt : Expr) (it : Value) (N₀ : Addr → Prop) (s₀ : Shared) (ds : List D) (Y : Addr → Prop) (St : Nat → Heap → Prop) : Prop where
  dead : ∀ a, Y a → s₀.heap.get? a = none
  live : ∀ i h, St i h → ∀ a, Y a → h.get? a ≠ none
  frame : ∀ i h h', St i h → (∀ b o, (Y b ∨ (s₀.heap.get? b ≠ none ∧ ¬ N₀ b)) → h.get? b = some o → h'.get? b = some o) → St i h'
  item : ∀ (i : Nat) (d : D) (s₂ : Shared) (Q : Option Value → Shared → Prop), ds[i]? = some d → St i s₂.heap → (∀ b o, ¬ N₀ b → s₀.heap.get? b = some o → s₂.heap.get? b = some o) →
    (∀ v s₃, (∀ Q' : Unit → Shared → Prop, (∀ s₄, KeepBut Y s₂ s₄ → St (i + 1) s₄.heap → (∀ N' : Addr → Prop, (∀ b, N' b → (N₀ b ∨ s₀.heap.get? b = none) ∧ s₂.heap.get? b ≠ none) → Rep N' s₄.heap v d) → Q' () s₄) →
      wpAny (model c.prog c.w) A (letOwnedTupleGo tgt it v) Q' NoE s₃) → Q (some v) s₃) →
    wpAny (model c.prog c.w) A (pyNext it) Q NoE s₂
  done : ∀ (s₂ : Shared) (Q : Option Value → Shared → Prop), St ds.length s₂.heap → (∀ s₃, KeepBut Y s₂ s₃ → Q none s₃) → wpAny (model c.prog c.w) A (pyNext it) Q NoE s₂

theorem Step.other {M M' Y : Addr → Prop} {s s' s'' : Shared} (a : Step M s M' s') (k : KeepBut Y s' s'') (hd : ∀ b, Y b → s.heap.get? b = none) : Step M s M' s'' :=
  ⟨⟨k.os.trans a.kb.os, k.gens.trans a.kb.gens, fun b o hb e => k.keep b o (fun hy => by rw [hd b hy] at e; cases e) (a.kb.keep b o hb e)⟩, a.sub⟩
theorem FlOk.subN {M : Addr → Prop} {s : Shared} {N N' : Addr → Prop} {h' : Heap} {fl : Fl} {f : Flow} (hN : ∀ a, N' a → N a) (x : FlOk M s N h' fl f) : FlOk M s N' h' fl f := by
  cases fl with
  | ret d fr => obtain ⟨v, e, r, q⟩ := x; exact ⟨v, e, r.sub hN, q⟩
  | _ => exact x

theorem for_loop {A : Around} {env : Env} {X M Y : Addr → Prop} {V : Str → Option Value} {s₁ s₂ : Shared} {ρ ρ' : List Slot} {fl : Fl} {tgt : Expr} {it : Value} {body : List Stmt} {B : C} {ds : List D} {St : Nat → Heap → Prop} {put : D → List Slot → Option (List Slot)} {R : Result → Shared → Prop}
    (hA : AOk c.n A) (ok : EnvOk τ env) (W : SrcW c A tgt it (fun a => M a ∨ X a) s₁ ds Y St) (st : St 0 s₂.heap) (g : Grow s₁ s₂) (I : InvS c τ env X M V s₁ ρ) (ht : Tgt τ tgt put) (hb : SndB c τ body B) (h : forF put (fun ρ => ex c.Φ B ρ) ds ρ = some (ρ', fl))
    (hR : ∀ f s', ExOk c τ env X M s₁ ρ' fl f s' → R (.ok f) s') : codeAny (model c.prog c.w) A (.forLoop tgt it body [] env) R s₂ := by
  have hY0 : ∀ a, Y a → c.h₀.get? a = none := fun a ha => by
    cases q : c.h₀.get? a with
    | none => rfl
    | some o => have := I.keep a o q; rw [W.dead a ha] at this; cases this
  refine codeAny_forLoop_any (fun k s' => ∃ (i : Nat) (M' : Addr → Prop) (V' : Str → Option Value) (ρ₁ : List Slot), k = ds.length + 1 - i ∧ i ≤ ds.length ∧ St i s'.heap ∧ Step M s₁ M' s' ∧ InvS c τ env (fun a => X a ∨ Y a) M' V' s' ρ₁ ∧
    forF put (fun ρ => ex c.Φ B ρ) (ds.drop i) ρ₁ = some (ρ', fl)) ?_ (ds.length + 1) ⟨0, M, V, ρ, rfl, Nat.zero_le _, st, Step.ofGrow g, I.addX g W.dead (W.live 0 _ st), h⟩
  rintro k s' ⟨i, M', V', ρ₁, rfl, hi, hst, hstep, I', hF⟩
  have hkeep : ∀ b o, ¬ (M b ∨ X b) → s₁.heap.get? b = some o → s'.heap.get? b = some o := fun b o hb e => hstep.kb.keep b o (fun q => hb (.inl q)) e
  by_cases hlt : i < ds.length
  · obtain ⟨d, hd⟩ : ∃ d, ds[i]? = some d := ⟨ds[i], by simp [hlt]⟩
    have hdrop : ds.drop i = d :: ds.drop (i + 1) := by
      rw [List.drop_eq_getElem_cons hlt]
      rw [List.getElem?_eq_getElem hlt] at hd
      cases hd; rfl
    rw [hdrop] at hF
    simp only [forF, Option.bind_eq_bind, Option.bind_eq_some_iff] at hF
    obtain ⟨ρ₂, hput, ⟨ρ₃, f₃⟩, hB, hF⟩ := hF
    refine anyE (W.item i d s' _ hd hst hkeep fun v s₃ hlet => anyE (hlet _ fun s₄ k₄ st₄ hrep => ?_))
    have I₄ : InvS c τ env (fun a => X a ∨ Y a) M' V' s₄ ρ₁ := I'.chgX k₄ (fun a h => .inr h) (W.live _ _ st₄) hY0
    have step₄ : Step M s₁ M' s₄ := hstep.other k₄ W.dead
    have hrd : Rep (fun a => M' a ∨ X a ∨ Y a) s₄.heap v d := hrep _ fun b hb => by
      refine ⟨?_, I'.alive b hb⟩
      rcases hb with hb | hb | hb
      · exact (hstep.sub b hb).imp .inl id
      · exact .inl (.inr hb)
      · exact .inr (W.dead b hb)
    refine anyE (wpAny_mono (ht.ok hA.1 ok I₄ hput hrd) (fun _ s₅ h₅ => ?_) fun _ _ e => e)
    obtain ⟨V₅, kb₅, I₅⟩ := h₅
    have step₅ : Step M s₁ M' s₅ := step₄.trans ⟨kb₅, fun a h => .inl h⟩
    have off : ∀ b, (Y b ∨ (s₁.heap.get? b ≠ none ∧ ¬ (M b ∨ X b))) → ¬ M' b := fun b hb hm => by
      rcases hb with hb | ⟨hb, hn⟩
      · exact I'.disj b hm (.inr hb)
      · rcases hstep.sub b hm with q | q
        · exact hn (.inl q)
        · exact hb q
    have st₅ : St (i + 1) s₅.heap := W.frame _ _ _ st₄ fun b o hb e => kb₅.keep b o (off b hb) e
    refine anyE (wpAny_mono (hb hA ok I₅ hB) (fun f s₆ h₆ => ?_) fun _ _ e => e)
    obtain ⟨M₆, V₆, step₆, I₆, fo⟩ := h₆
    have stepAll : Step M s₁ M₆ s₆ := step₅.trans step₆
    have st₆ : St (i + 1) s₆.heap := W.frame _ _ _ st₅ fun b o hb e => step₆.kb.keep b o (off b hb) e
    have I₆' : InvS c τ env X M₆ V₆ s₆ ρ₃ := I₆.subX fun a h => .inl h
    cases f₃ with
    | next => cases fo; exact ⟨ds.length + 1 - (i + 1), by omega, i + 1, M₆, V₆, ρ₃, rfl, hlt, st₆, stepAll, I₆, hF⟩
    | cont => cases fo; exact ⟨ds.length + 1 - (i + 1), by omega, i + 1, M₆, V₆, ρ₃, rfl, hlt, st₆, stepAll, I₆, hF⟩
    | brk => cases fo; cases hF; exact hR _ _ ⟨M₆, V₆, stepAll, I₆', rfl⟩
    | ret d' fr =>
      cases hF
      have fo' : ExOk c τ env X M s₁ ρ' (.ret d' fr) f s₆ := ExOk.pre step₅ ⟨M₆, V₆, step₆, I₆', fo.subN fun a h => h.imp id .inl⟩
      obtain ⟨v, rfl, _⟩ := fo
      exact hR _ _ fo'
  · have hin : i = ds.length := by omega
    subst hin
    rw [List.drop_length] at hF
    cases hF
    refine anyE (W.done s' _ hst fun s₃ k₃ => ?_)
    exact wpAny_execs_nil (hR _ _ ⟨M', V', hstep.other k₃ W.dead, I'.dropX k₃ (fun a hx hy => I.alive a (.inr hx) (W.dead a hy)) hY0, rfl⟩)
end Mine
end
/-! S16 -/
section
open PySem PySem.W PyProof.Rows
set_option linter.unusedSimpArgs false
set_option linter.unusedVariables false
namespace Mine
variable {c : Cx} {τ : Tx}

theorem IterAt.src {A : Around} {N : Addr → Prop} {s s' : Shared} {ds : List D} {it : Value} (hh : A.handled = none) (x : IterAt c.prog c.w N s True ds it s') (tgt : Expr) : ∃ Y St, SrcW c A tgt it N s ds Y St ∧ St 0 s'.heap := by
  obtain ⟨g, I, fp, P, St, rfl, hI, hW, hst, hcls, hfp, hitems⟩ := x
  have W := hW A hh
  refine ⟨fun a => a = I, St, ⟨fun a h => h ▸ hI, fun i h st a e => e ▸ (hcls i h st).alive, fun i h h' st hk => W.frame i h h' st fun b hb o e => hk b o ?_ e, fun i d s₂ Q hd st hk hQ => ?_, fun s₂ Q st hQ => ?_⟩, hst⟩
  · rcases hfp b hb with q | ⟨q1, q2⟩
    · exact .inl q
    · exact .inr ⟨q1, q2 trivial⟩
  · refine W.item i s₂ Q NoE (List.getElem?_eq_some_iff.mp hd).1 st fun v h' tk hP st' hkeep => hQ v _ fun Q' hQ' => wpAny_letOwned (hcls _ _ st') (hQ' _ (KeepBut.of fun b o hb e => hkeep b o (by simpa using hb) e) st' fun N' hN' => ?_)
    refine (hitems i v d hP hd).mono fun a o hn e => ⟨?_, fun q => ?_⟩
    · exact hkeep a o (by simp; rintro rfl; rw [hI] at e; cases e) (hk a o hn e)
    · rcases (hN' a q).1 with q | q
      · exact hn q
      · rw [q] at e; cases e
  · exact W.done s₂ Q NoE st fun h' tk hkeep => hQ _ (KeepBut.of fun b o hb e => hkeep b o (by simpa using hb) e)

/-- the sources of a `for` -/
inductive SndR (c : Cx) (τ : Tx) : Expr → Src → Prop
  | e {e : Expr} {x : E} : notSet e = true → SndE c τ e x → SndR c τ e (.e x)
  | zip {a b : Expr} {x y : E} {p pos : Pos} : τ.kind "zip" = some .globalImplicit → SndE c τ a x → SndE c τ b y → SndR c τ (.Call (.Name "zip" p) [a, b] [] pos) (.zip x y)
  | rev {a : Expr} {x : E} {p pos : Pos} : τ.kind "reversed" = some .globalImplicit → SndE c τ a x → SndR c τ (.Call (.Name "reversed" p) [a] [] pos) (.rev x)

/-- what evaluating a source and asking for its iterator leaves: s₁ is the state before the iterator's objects came -/
noncomputable def SrcOk (c : Cx) (A : Around) (tgt : Expr) (N : Addr → Prop) (s : Shared) (ds : List D) (it : Value) (s₂ : Shared) : Prop :=
  ∃ s₁ Y St, Grow s s₁ ∧ Grow s₁ s₂ ∧ SrcW c A tgt it N s₁ ds Y St ∧ St 0 s₂.heap

theorem snd_for {tgt iter : Expr} {body : List Stmt} {p : Pos} {R : Src} {B : C} {put : D → List Slot → Option (List Slot)} (ht : Tgt τ tgt put) (hset : notSet iter = true)
    (hr : ∀ {A : Around} {env : Env} {N : Addr → Prop} {s : Shared} {ρ : List Slot} {ds : List D}, AOk c.n A → InvE c.h₀ τ env N s.heap (freeze (srcVars R) ρ) [] → srcD c.Φ (freeze (srcVars R) ρ) R = some ds →
      wpAny (model c.prog c.w) A (eval iter env) (fun x s₁ => wpAny (model c.prog c.w) A (pyIter x) (SrcOk c A tgt N s ds) NoE s₁) NoE s)
    (hb : SndB c τ body B) {A : Around} {env : Env} {X M : Addr → Prop} {V : Str → Option Value} {s : Shared} {ρ ρ' : List Slot} {fl : Fl} (hA : AOk c.n A) (ok : EnvOk τ env) (I : InvS c τ env X M V s ρ)
    (h : (do let ds ← srcD c.Φ (freeze (srcVars R) ρ) R; forF put (fun ρ => ex c.Φ B ρ) ds (freeze (srcVars R) ρ)) = some (ρ', fl)) :
    wpAny (model c.prog c.w) A (exec (.For tgt iter body [] p) env) (ExOk c τ env X M s ρ' fl) NoE s := by
  simp only [Option.bind_eq_bind, Option.bind_eq_some_iff] at h
  obtain ⟨ds, hds, h⟩ := h
  obtain ⟨M₁, hs, I₁⟩ := I.freeze (srcVars R)
  refine wpAny_For (wpAny_mono (hr hA (I₁.toE ok) hds) (fun x s₁ h₁ => wpAny_mono h₁ (fun it s₂ h₂ => ?_) fun _ _ e => e) fun _ _ e => e) (fun x => folded_plain hset)
  obtain ⟨s₁', Y, St, g1, g2, W, st⟩ := h₂
  refine for_loop hA ok W st g2 (I₁.grow g1) ht hb h fun f s' h' => ?_
  exact (h'.pre (Step.ofGrow g1)).less hs

theorem src_e {iter : Expr} {x : E} {tgt : Expr} (hx : SndE c τ iter x) : ∀ {A : Around} {env : Env} {N : Addr → Prop} {s : Shared} {ρ : List Slot} {ds : List D}, AOk c.n A → InvE c.h₀ τ env N s.heap (freeze (srcVars (.e x)) ρ) [] → srcD c.Φ (freeze (srcVars (.e x)) ρ) (.e x) = some ds →
      wpAny (model c.prog c.w) A (eval iter env) (fun v s₁ => wpAny (model c.prog c.w) A (pyIter v) (SrcOk c A tgt N s ds) NoE s₁) NoE s := by
  intro A env N s ρ ds hA I h
  simp only [srcD, Option.bind_eq_bind, Option.bind_eq_some_iff] at h
  obtain ⟨d, hd, hi⟩ := h
  refine wpAny_mono (hx.val hA I hd) (fun v s₁ o => ?_) fun _ _ e => e
  have hst : strong (freeze (srcVars (.e x)) ρ) x = true := strong_freeze ρ x _ fun _ h => h
  refine wpAny_mono (iter_sound (strg := True) o.rep (fun _ => o.str hst) hi) (fun it s₂ i₂ => ?_) fun _ _ e => e
  obtain ⟨Y, St, W, st⟩ := i₂.src hA.1 tgt
  exact ⟨s₁, Y, St, o.grow, i₂.grow, W, st⟩

end Mine
end
/-! S17 -/
section
open PySem PySem.W PyProof.Rows
set_option linter.unusedSimpArgs false
set_option linter.unusedVariables false
set_option maxRecDepth 100000
namespace Mine
variable {c : Cx} {τ : Tx}

theorem owner_rev : Manifest.owners.lookup (String.ofList ['d', 'e', 's', 'r', 'e', 'v', 'e', 'r'].reverse) = some Manifest.sig_reversed := by kernel_rfl
theorem slot_rev_next : PySem.Slot "reversed" "__next__" "reversed.__next__" :=
  .of (owner := "reversed") (n := "__next__") (by rw [typeLookup_type, builtinLookup_eq_fast]; kernel_rfl) (by decide +kernel) (by decide +kernel) (by decide +kernel)
    (by first | exact .inl (by decide +kernel) | exact .inr (by decide +kernel)) (by rw [isSubtype_type]; kernel_rfl)
theorem entry_rev_next : entryFor table "reversed.__next__" = some Builtin.«reversed.__next__» := entryFor_of_tree (by kernel_rfl)
theorem args_rev_next_1 (a : Value) : argsOk "reversed.__next__" ⟨[a], []⟩ := by
  unfold argsOk; rw [signature?_of (id := "reversed.__next__") (n := ['_', '_', 't', 'x', 'e', 'n', '_', '_']) (o := ['d', 'e', 's', 'r', 'e', 'v', 'e', 'r']) (by kernel_rfl) owner_rev]; kernel_rfl
theorem slot_rev_iter : PySem.Slot "reversed" "__iter__" "reversed.__iter__" :=
  .of (owner := "reversed") (n := "__iter__") (by rw [typeLookup_type, builtinLookup_eq_fast]; kernel_rfl) (by decide +kernel) (by decide +kernel) (by decide +kernel)
    (by first | exact .inl (by decide +kernel) | exact .inr (by decide +kernel)) (by rw [isSubtype_type]; kernel_rfl)
theorem args_rev_iter_1 (a : Value) : argsOk "reversed.__iter__" ⟨[a], []⟩ := by
  unfold argsOk; rw [signature?_of (id := "reversed.__iter__") (n := ['_', '_', 'r', 'e', 't', 'i', '_', '_']) (o := ['d', 'e', 's', 'r', 'e', 'v', 'e', 'r']) (by kernel_rfl) owner_rev]; kernel_rfl
theorem entry_rev_iter : entryFor table "reversed.__iter__" = some Builtin.«dict_keyiterator.__iter__» :=
  entryFor_alias (id' := "dict_keyiterator.__iter__") (by kernel_rfl) (by first | rfl | decide +kernel | (unfold String.splitOn; simp +decide [String.splitOnAux])) (by decide +kernel) (by kernel_rfl)
theorem slot_rev_init : PySem.Slot "reversed" "__init__" "object.__init__" :=
  .of (owner := "object") (n := "__init__") (by rw [typeLookup_type, builtinLookup_eq_fast]; kernel_rfl) (by decide +kernel) (by decide +kernel) (by decide +kernel)
    (by first | exact .inl (by decide +kernel) | exact .inr (by decide +kernel)) (by rw [isSubtype_type]; kernel_rfl)
theorem mro_rev : mroOf (.type "reversed") = pure [.type "reversed", .type "object"] := by rw [mroOf_type]; kernel_rfl
theorem lookup_rev_new : typeLookup (.type "reversed") "__new__" = pure (some (.builtin "reversed.__new__")) := by rw [typeLookup_type, builtinLookup_eq_fast]; kernel_rfl
theorem called_rev : TypeCalled "reversed" "reversed.__new__" "object.__init__" :=
  ⟨by decide +kernel, by decide +kernel, ⟨_, _, mro_rev⟩, madeBy_type mro_rev lookup_rev_new (by decide +kernel), by decide +kernel, by rw [isSubtype_type]; kernel_rfl, slot_rev_init⟩
theorem typeCall_rev (a : Value) : checkTypeCall "reversed" ⟨[a], []⟩ = pure () := by kernel_rfl
theorem newCall_rev (a : Value) : checkBuiltinCall "reversed.__new__" ⟨[.type "reversed", a], []⟩ = pure () := by kernel_rfl
theorem entry_rev_new : entryFor table "reversed.__new__" = some Builtin.«reversed.__new__» := entryFor_of_tree (by kernel_rfl)
theorem sub_rev : isSubtype (.type "reversed") (.type "reversed") = pure true := by rw [isSubtype_type]; kernel_rfl
theorem sub_str_dict : isSubtype (.type "str") (.type "dict") = pure false := by rw [isSubtype_type]; kernel_rfl
theorem look_str_rev : typeLookup (.type "str") "__reversed__" = pure none := by rw [typeLookup_type, builtinLookup_eq_fast]; kernel_rfl
theorem newClass_rev (a : Value) : Builtin.SmallTypes.newClass "reversed" ⟨[.type "reversed", a], []⟩ = pure (.type "reversed", [a]) := by
  unfold Builtin.SmallTypes.newClass
  simp only [isType, sub_rev, pure_bind, Bool.not_true, Bool.false_eq_true, if_false]

noncomputable def revObj (x : Str) (t : Tok) (i : Int) : Obj := { cls := .type "reversed", data := .fields #[.str x t, rawInt i] }

end Mine
end
/-! S18 -/
section
open PySem PySem.W PyProof.Rows
set_option linter.unusedSimpArgs false
set_option linter.unusedVariables false
set_option maxRecDepth 100000
namespace Mine
variable {c : Cx} {τ : Tx}

section
variable {prog : Program} {w : World} {A : Around} {E : Value → Shared → Prop} {s : Shared}
theorem meets_rev_new (x : Str) (t : Tok) (hx : (x.length : Int) < 2 ^ 63) : Meets (Builtin.«reversed.__new__» ⟨[.type "reversed", .str x t], []⟩) (fun _ R s => R (.ok (.ret (.ref s.heap.objs.size))) { s with heap := s.heap.push (revObj x t ((x.length : Int) - 1)), toks := s.toks + 1 + 1 }) :=
  .of_wp fun prog w A R s h => by
    unfold Builtin.«reversed.__new__»
    refine wpAny_bind (wpAny_of_eq (newClass_rev _) ?_)
    try dsimp only
    refine wpAny_bind (wpAny_of_eq (a := ()) (by first | rfl | kernel_rfl) ?_)
    refine wpAny_bind (wpAny_of_eq (a := ()) (by first | rfl | kernel_rfl) ?_)
    try dsimp only
    refine wpAny_bind (wpAny_specialOf (typeIs_str s x t) look_str_rev ?_)
    try dsimp only
    refine wpAny_bind ?_
    show wpAny _ _ (isInstance (.str x t) (.type "dict") >>= _) _ _ s
    refine wpAny_bind (wpAny_isInstance (T := "str") (b := false) (typeIs_str s x t) sub_str_dict ?_)
    simp only [Bool.false_eq_true, if_false]
    show wpAny _ _ (specialOf (.str x t) "__getitem__" >>= _) _ _ s
    refine wpAny_bind (wpAny_specialOf (typeIs_str s x t) F.slot_str_getitem.lookup ?_)
    refine wpAny_of_eq (a := true) rfl ?_
    simp only [Bool.not_true, Bool.false_eq_true, if_false]
    refine wpAny_bind (len_str (by omega) ?_)
    refine wpAny_bind (wpAny_of_eq (a := some (x.length : Int)) rfl ?_)
    refine wpAny_bind ?_
    show wpAny _ _ (newObj (.type "reversed") (.fields #[.str x t, rawInt ((x.length : Int) - 1)])) _ _ _
    exact wpAny_newObj_type (wpAny_pure ⟨_, rfl, h⟩)

theorem call_reversed_str {x : Str} {t : Tok} {Q : Value → Shared → Prop} (hx : (x.length : Int) < 2 ^ 63)
    (h : Q (.ref s.heap.objs.size) { s with heap := s.heap.push (revObj x t ((x.length : Int) - 1)), toks := s.toks + 1 + 1 }) : wpAny (model prog w) A (call (.type "reversed") [.str x t]) Q E s :=
  callType_new called_rev (by decide) (typeCall_rev _) (newCall_rev _) (fun obj => F.args_object_init_2 obj _) entry_rev_new (meets_rev_new x t hx) ⟨⟨_, Heap.get?_push_size _ rfl, rfl⟩, h⟩

noncomputable def IsRev (h : Heap) (a : Addr) (x : Str) (t : Tok) (i : Int) : Prop := h.get? a = some { cls := .type "reversed", dict := none, data := .fields #[.str x t, rawInt i], slots := #[] }

theorem next_rev_item {it : Addr} {x : Str} {t : Tok} {i : Nat} {cp : Nat} {Q : Option Value → Shared → Prop} (hit : IsRev s.heap it x t (i : Int)) (hx : x.cps[i]? = some cp) (hlen : (x.length : Int) < 2 ^ 63)
    (hQ : ∀ h' u tk, IsRev h' it x t ((i : Int) - 1) → Heap.SameBut it s.heap h' → Q (some (.str ⟨#[cp]⟩ u)) { s with heap := h', toks := tk }) : wpAny (model prog w) A (pyNext (.ref it)) Q E s := by
  have hT : s.TypeIs (.ref it) "reversed" := ⟨_, hit, rfl⟩
  unfold pyNext
  refine wpAny_bind (wpAny_attempt (wpAny_callSpecial?_slot (name := Str.ofString "__next__") hT slot_rev_next
    (wpAny_call_entry slot_rev_next hT entry_rev_next ?_ (args_rev_next_1 _))))
  unfold Builtin.«reversed.__next__»
  refine wpAny_bind (wpAny_of_eq (a := (Value.ref it, [])) rfl ?_)
  try dsimp only
  refine wpAny_bind (wpAny_field hit rfl (x := .str x t) rfl ?_)
  refine wpAny_bind (wpAny_field hit rfl (x := rawInt (i : Int)) rfl ?_)
  show wpAny _ _ (if (i : Int) < 0 then _ else _) _ _ s
  rw [if_neg (by omega)]
  refine wpAny_bind (wpAny_specialOf (typeIs_str s x t) F.slot_str_getitem.lookup ?_)
  simp only [Option.isNone_some, Bool.false_eq_true, if_false]
  refine wpAny_bind (wpAny_mkInt ?_)
  have hi : i < x.length := by
    have := (Array.getElem?_eq_some_iff.mp hx).1
    exact this
  refine wpAny_bind (wpAny_attempt (P.getItem_str (c := cp) (by simp only [Bool.or_eq_false_iff, decide_eq_false_iff_not]; omega) ?_ ?_))
  · have : place? (i : Int) x.length = some i := by
      unfold place?
      rw [if_pos (by omega), if_pos (by omega)]; simp
    rw [place_seqIndex this]
    exact hx
  · refine wpAny_bind (wpAny_field (s := { s with toks := _ }) hit rfl (x := rawInt (i : Int)) rfl ?_)
    show wpAny _ _ (setField (.ref it) 1 (rawInt ((i : Int) - 1)) >>= fun _ => ret _) _ _ _
    refine wpAny_bind (wpAny_setField_rec (s := { s with toks := _ }) hit (by simp) fun h₁ ho₁ hs₁ => ?_)
    exact wpAny_pure ⟨_, rfl, wpAny_pure (hQ h₁ _ _ (by unfold IsRev; rw [ho₁]; simp) hs₁)⟩
theorem next_rev_end {it : Addr} {x : Str} {t : Tok} {Q : Option Value → Shared → Prop} (hh : A.handled = none) (hit : IsRev s.heap it x t (-1))
    (hQ : ∀ h', Heap.ExtBut it s.heap h' → Q none { s with heap := h' }) : wpAny (model prog w) A (pyNext (.ref it)) Q E s := by
  have hT : s.TypeIs (.ref it) "reversed" := ⟨_, hit, rfl⟩
  unfold pyNext
  refine wpAny_bind (wpAny_attempt (wpAny_callSpecial?_slot (name := Str.ofString "__next__") hT slot_rev_next
    (wpAny_call_entry slot_rev_next hT entry_rev_next ?_ (args_rev_next_1 _))))
  unfold Builtin.«reversed.__next__»
  refine wpAny_bind (wpAny_of_eq (a := (Value.ref it, [])) rfl ?_)
  try dsimp only
  refine wpAny_bind (wpAny_field hit rfl (x := .str x t) rfl ?_)
  refine wpAny_bind (wpAny_field hit rfl (x := rawInt (-1)) rfl ?_)
  show wpAny _ _ (if (-1 : Int) < 0 then _ else _) _ _ s
  rw [if_pos (by omega)]
  refine wpAny_bind (wpAny_rule ?_)
  refine wpAny_bind ?_
  show wpAny _ _ (setField (.ref it) 1 (rawInt (-1)) >>= fun _ => setField (.ref it) 0 .none) _ _ _
  refine wpAny_bind (wpAny_setField_rec hit (by simp) fun h₁ ho₁ hs₁ => ?_)
  refine wpAny_setField_rec ho₁ (by simp) fun h₂ ho₂ hs₂ => ?_
  refine wpAny_bind ?_
  show wpAny _ _ (newExc (.type "StopIteration") [] >>= _) _ _ _
  refine wpAny_bind ?_
  simp only [newExc, newTuple]
  refine wpAny_bind (wpAny_newObj_type ?_ (by size_fits))
  refine wpAny_bind (m := firstArgMember _ _) (wpAny_of_eq (a := Value.none) (by first | rfl | (simp only [firstArgMember]; rfl)) ?_)
  refine wpAny_newObj_type ?_ (by size_fits)
  simp only [raiseNew]
  refine wpAny_bind (wpAny_handled ?_)
  first | rw [show A.in1.handled = none from hh] | rw [hh]
  refine wpAny_bind (wpAny_pure (wpAny_throw ?_))
  refine wpAny_bind (wpAny_isInstance (T := "StopIteration") (b := true) ⟨_, Heap.get?_push_size _ rfl, rfl⟩ isSubtype_stop ?_)
  exact wpAny_pure (hQ _ fun b o hb e => Heap.get?_push_of_some _ (Heap.get?_push_of_some _ (hs₂.extBut b o hb (hs₁.extBut b o hb e))))

theorem iter_rev {it : Addr} {x : Str} {t : Tok} {i : Int} {Q : Value → Shared → Prop} (hit : IsRev s.heap it x t i) (h : Q (.ref it) s) : wpAny (model prog w) A (pyIter (.ref it)) Q E s := by
  have hT : s.TypeIs (.ref it) "reversed" := ⟨_, hit, rfl⟩
  refine wpAny_pyIter_slot hT slot_rev_iter (wpAny_call_entry slot_rev_iter hT entry_rev_iter ?_ (args_rev_iter_1 _))
  show wpAny _ _ (ret (.ref it)) _ _ s
  exact wpAny_pure ⟨_, rfl, "reversed", _, hT, slot_rev_next.lookup, h⟩
end

theorem src_rev {a : Expr} {x : E} {p pos : Pos} {tgt : Expr} (G : GOk c) (hk : τ.kind "reversed" = some .globalImplicit) (ha : SndE c τ a x) :
    ∀ {A : Around} {env : Env} {N : Addr → Prop} {s : Shared} {ρ : List Slot} {ds : List D}, AOk c.n A → InvE c.h₀ τ env N s.heap (freeze (srcVars (.rev x)) ρ) [] → srcD c.Φ (freeze (srcVars (.rev x)) ρ) (.rev x) = some ds →
      wpAny (model c.prog c.w) A (eval (.Call (.Name "reversed" p) [a] [] pos) env) (fun v s₁ => wpAny (model c.prog c.w) A (pyIter v) (SrcOk c A tgt N s ds) NoE s₁) NoE s := by
  intro A env N s ρ ds hA I h
  have hL : LIM = 16777216 := rfl
  simp only [srcD, Option.bind_eq_bind, Option.bind_eq_some_iff] at h
  obtain ⟨d1, hd1, h⟩ := h
  split at h
  · rename_i z
    cases h
    refine wpAny_Call_ofName (eval_builtin G I (by decide) hk G.rev.1 G.rev.2 ?_)
    show wpAny _ A (callWith pos (.type "reversed") [] (backTo pos (starEach [a] env)) []) _ _ s
    have hs : starEach [a] env = [(false, eval a env)] := by rw [starEach_cons ha.nst]; rfl
    have hbk : backTo pos [(false, eval a env)] = [(false, eval a env)] := rfl
    rw [hs, hbk]
    refine PySem.callWith_type (first := []) (by simp) (Calls.evalArgs_plain (Calls.spliced_cons (wpAny_mono (ha.val hA I hd1) (fun v s₁ o₁ => Calls.spliced_nil ?_) fun _ _ e => e)))
    show wpAny _ A (call (.type "reversed") [v] []) _ _ s₁
    obtain ⟨t, rfl, hz⟩ := Rep.inv_str o₁.rep
    have hlen : Str.length ⟨z.toArray⟩ = z.length := by simp [Str.length]
    refine call_reversed_str (by rw [hlen]; omega) ?_
    have hr : IsRev (s₁.heap.push (revObj ⟨z.toArray⟩ t (((Str.length ⟨z.toArray⟩ : Nat) : Int) - 1))) s₁.heap.objs.size ⟨z.toArray⟩ t ((z.length : Int) - 1) := by
      rw [hlen]; exact Heap.get?_push_size _ rfl
    refine iter_rev (s := { s₁ with heap := _, toks := _ }) hr ?_
    refine ⟨s₁, fun q => q = s₁.heap.objs.size, (fun i h => i ≤ z.length ∧ IsRev h s₁.heap.objs.size ⟨z.toArray⟩ t ((z.length : Int) - 1 - (i : Int))), o₁.grow, Grow.push _ _ _, ⟨?_, ?_, ?_, ?_, ?_⟩, ⟨Nat.zero_le _, by simpa using hr⟩⟩
    · rintro q rfl; exact get_size _
    · rintro i h ⟨_, q⟩ a rfl
      unfold IsRev at q; rw [q]; simp
    · rintro i h h₂ ⟨q0, q⟩ hkk
      exact ⟨q0, hkk _ _ (.inl rfl) q⟩
    · intro i d s₃ Q hd st hkp hQ
      obtain ⟨q0, q⟩ := st
      have hi : i < z.length := by
        have := (List.getElem?_eq_some_iff.mp hd).1
        simpa using this
      have e : (z.length : Int) - 1 - (i : Int) = ((z.length - 1 - i : Nat) : Int) := by omega
      rw [e] at q
      rw [List.getElem?_map, List.getElem?_reverse hi] at hd
      have hg : z[z.length - 1 - i]? = some z[z.length - 1 - i] := by simp
      rw [hg] at hd
      cases hd
      refine next_rev_item q (cp := z[z.length - 1 - i]) (by simp) (by rw [hlen]; omega) fun h₄ u tk hr₄ hs₄ => hQ _ _ fun Q' hQ' => ?_
      have e2 : ((z.length - 1 - i : Nat) : Int) - 1 = (z.length : Int) - 1 - ((i + 1 : Nat) : Int) := by omega
      rw [e2] at hr₄
      refine wpAny_letOwned ⟨_, _, hr₄, rfl, by decide⟩ (hQ' _ (KeepBut.of fun b o hb e => hs₄.extBut b o hb e) ⟨hi, hr₄⟩ fun N' _ => .str _ _ (by simp [LIM]))
    · intro s₃ Q st hQ
      obtain ⟨q0, q⟩ := st
      simp only [List.length_map, List.length_reverse] at q
      have e : (z.length : Int) - 1 - (z.length : Int) = -1 := by omega
      rw [e] at q
      exact next_rev_end hA.1 q fun h₄ hs₄ => hQ _ (KeepBut.of (t := s₃.toks) fun b o hb e => hs₄ b o hb e)
  · cases h
end Mine
end
/-! S19 -/
section
open PySem PySem.W PyProof.Rows
set_option linter.unusedSimpArgs false
set_option linter.unusedVariables false
namespace Mine
variable {c : Cx} {τ : Tx}

/-! ## the translator of statements -/
noncomputable def notComp : Expr → Bool
  | .ListComp .. | .SetComp .. | .DictComp .. => false
  | _ => true
theorem swaps_plain {value : Expr} {t : Option Expr} {l : Nat} {env : Env} (h : notComp value = true) : swapsWith value t l env = pure false := by
  unfold swapsWith
  cases value <;> first | rfl | (cases h)

section
variable (fnames : List Str) (hasPat : Bool) (n : Nat) (τ : Tx)
noncomputable def trAssignName (nm : Str) (px : Pos) (value : Expr) : Option C :=
  if notComp value then do some (.assign (← idx? nm τ.ft) (← trE fnames hasPat n τ value)) else
  none
noncomputable def trAssign (t value : Expr) : Option C :=
  match t with
  | .Name nm px => trAssignName fnames hasPat n τ nm px value
  | _ => none
noncomputable def trSrc (tgt iter : Expr) : Option Src :=
  match iter with
  | .Call (.Name f _) [a] [] _ =>
    if f == ("reversed" : Str) then (if τ.kind "reversed" == some .globalImplicit then do some (.rev (← trE fnames hasPat n τ a)) else none)
    else (trE fnames hasPat n τ iter).map .e
  | iter => (trE fnames hasPat n τ iter).map .e
noncomputable def trFor (tgt iter : Expr) (b : C) : Option C :=
  if !notSet iter then none else
  match tgt with
  | .Name nm _ => do some (.for1 (← idx? nm τ.ft) (← trSrc fnames hasPat n τ tgt iter) b)
  | _ => none
noncomputable def trRet (v : Option Expr) : Option C :=
  match v with
  | some (.Name nm _) => if nm == ("__debug__" : Str) then none else do some (.retv (← idx? nm τ.ft))
  | some e => (trE fnames hasPat n τ e).map .ret
  | none => none
end

noncomputable def trBl (f : Stmt → Option C) : List Stmt → Option C
  | [] => some .skip
  | s :: r => do
    let a ← f s
    let b ← trBl f r
    some (.seq a b)
noncomputable def trS (fnames : List Str) (hasPat : Bool) (τ : Tx) : Nat → Stmt → Option C
  | 0, _ => none
  | n + 1, st =>
    match st with
    | .Assign [t] value _ => trAssign fnames hasPat n τ t value
    | .If t a b _ => do some (.ite (← trE fnames hasPat n τ t) (← trBl (trS fnames hasPat τ n) a) (← trBl (trS fnames hasPat τ n) b))
    | .For tgt iter b [] _ => do
      let B ← trBl (trS fnames hasPat τ n) b
      trFor fnames hasPat n τ tgt iter B
    | .Return v _ => trRet fnames hasPat n τ v
    | _ => none
noncomputable def trB (fnames : List Str) (hasPat : Bool) (τ : Tx) (n : Nat) (ss : List Stmt) : Option C := trBl (trS fnames hasPat τ n) ss

theorem trBl_sound {f : Stmt → Option C} (hf : ∀ {s k}, f s = some k → SndS c τ s k) : ∀ {ss : List Stmt} {k : C}, trBl f ss = some k → SndB c τ ss k
  | [], k, h => by cases h; exact sndB_nil
  | s :: r, k, h => by
    simp only [trBl, Option.bind_eq_bind, Option.bind_eq_some_iff] at h
    obtain ⟨a, ha, b, hb, h⟩ := h
    cases h
    exact sndB_cons (hf ha) (trBl_sound hf hb)

section
variable (G : GOk c) (F : FnsOk c) {n : Nat}
include G F
theorem trAssign_sound {t value : Expr} {pos : Pos} {k : C} (h : trAssign c.fnames c.hasPat n τ t value = some k) : SndS c τ (.Assign [t] value pos) k := by
  unfold trAssign at h
  split at h
  · rename_i nm px
    unfold trAssignName at h
    split at h
    · rename_i hc
      simp only [Option.bind_eq_bind, Option.bind_eq_some_iff] at h
      obtain ⟨x, hx, e, he, h⟩ := h
      cases h
      exact snd_assign (trE_sound G F he) hx fun env _ => swaps_plain hc
    · cases h
  · cases h

theorem trSrc_sound {tgt iter : Expr} {R : Src} (h : trSrc c.fnames c.hasPat n τ tgt iter = some R) :
    ∀ {A : Around} {env : Env} {N : Addr → Prop} {s : Shared} {ρ : List Slot} {ds : List D}, AOk c.n A → InvE c.h₀ τ env N s.heap (freeze (srcVars R) ρ) [] → srcD c.Φ (freeze (srcVars R) ρ) R = some ds →
      wpAny (model c.prog c.w) A (eval iter env) (fun x s₁ => wpAny (model c.prog c.w) A (pyIter x) (SrcOk c A tgt N s ds) NoE s₁) NoE s := by
  unfold trSrc at h
  split at h
  · split at h
    · rename_i hz
      have hz := eq_of_beq hz
      subst hz
      split at h
      · rename_i hc
        simp only [Option.bind_eq_bind, Option.bind_eq_some_iff] at h
        obtain ⟨x, hx, h⟩ := h
        cases h
        exact fun {A env N s ρ ds} hA I e => src_rev G (eq_of_beq hc) (trE_sound G F hx) hA I e
      · cases h
    · simp only [Option.map_eq_some_iff] at h; obtain ⟨y, hy, rfl⟩ := h; exact fun {A env N s ρ ds} hA I e => src_e (trE_sound G F hy) hA I e
  · simp only [Option.map_eq_some_iff] at h; obtain ⟨y, hy, rfl⟩ := h; exact fun {A env N s ρ ds} hA I e => src_e (trE_sound G F hy) hA I e

theorem trFor_sound {tgt iter : Expr} {body : List Stmt} {B : C} {pos : Pos} {k : C} (hb : SndB c τ body B) (h : trFor c.fnames c.hasPat n τ tgt iter B = some k) : SndS c τ (.For tgt iter body [] pos) k := by
  unfold trFor at h
  split at h
  · cases h
  · rename_i hs
    have hs : notSet iter = true := by simpa using hs
    split at h
    · simp only [Option.bind_eq_bind, Option.bind_eq_some_iff] at h
      obtain ⟨x, hx, R, hR, h⟩ := h
      cases h
      exact fun {A env X M V s ρ ρ' fl} hA ok I e => snd_for (.one hx) hs (trSrc_sound G F hR) hb hA ok I (by simpa only [ex] using e)
    · cases h

theorem trRet_sound {v : Option Expr} {pos : Pos} {k : C} (h : trRet c.fnames c.hasPat n τ v = some k) : SndS c τ (.Return v pos) k := by
  unfold trRet at h
  split at h
  · split at h
    · cases h
    · rename_i hn
      simp only [Option.bind_eq_bind, Option.bind_eq_some_iff] at h
      obtain ⟨x, hx, h⟩ := h
      cases h
      exact snd_retv (by simpa using hn) hx
  · simp only [Option.map_eq_some_iff] at h; obtain ⟨y, hy, rfl⟩ := h; exact snd_ret (trE_sound G F hy)
  · cases h
end

theorem trS_sound (G : GOk c) (F : FnsOk c) : ∀ {n : Nat} {st : Stmt} {k : C}, trS c.fnames c.hasPat τ n st = some k → SndS c τ st k := by
  intro n
  induction n with
  | zero => intro st k h; cases h
  | succ n ih =>
    intro st k h
    have hf : ∀ {st k}, trS c.fnames c.hasPat τ n st = some k → SndS c τ st k := @ih
    unfold trS at h
    split at h
    · exact fun {A env X M V s ρ ρ' fl} hA ok I e => trAssign_sound G F h hA ok I e
    · simp only [Option.bind_eq_bind, Option.bind_eq_some_iff] at h
      obtain ⟨t, ht, a, ha, b, hb, h⟩ := h
      cases h
      exact fun {A env X M V s ρ ρ' fl} hA ok I e => snd_ite (trE_sound G F ht) (trBl_sound hf ha) (trBl_sound hf hb) hA ok I e
    · simp only [Option.bind_eq_bind, Option.bind_eq_some_iff] at h
      obtain ⟨B, hB, h⟩ := h
      exact fun {A env X M V s ρ ρ' fl} hA ok I e => trFor_sound G F (trBl_sound hf hB) h hA ok I e
    · exact fun {A env X M V s ρ ρ' fl} hA ok I e => trRet_sound G F h hA ok I e
    · cases h
theorem trB_sound (G : GOk c) (F : FnsOk c) {n : Nat} {ss : List Stmt} {k : C} (h : trB c.fnames c.hasPat τ n ss = some k) : SndB c τ ss k := trBl_sound (trS_sound G F) h
end Mine
end
/-! S20 -/
section
open PySem PySem.W PyProof.Rows
set_option linter.unusedSimpArgs false
set_option linter.unusedVariables false
namespace Mine
variable {c : Cx}

/-! ## parameters -/
noncomputable def plainArgs (p : Arguments) : Bool := p.posonlyargs.isEmpty && p.vararg.isNone && p.kwonlyargs.isEmpty && p.kwarg.isNone

theorem lookup_split {α : Type} : ∀ (pre l : List (Str × α)) (k : Str) (v : α), k ∉ pre.map (·.1) → (pre ++ (k, v) :: l).lookup k = some v
  | [], l, k, v, _ => by simp [List.lookup_cons]
  | (k', v') :: pre, l, k, v, h => by
    simp only [List.map_cons, List.mem_cons, not_or] at h
    rw [List.cons_append, List.lookup_cons, show (k == k') = false from by simpa using h.1]
    exact lookup_split pre l k v h.2
theorem binds_all {α : Type} : ∀ (l pre : List (Str × α)), ((pre ++ l).map (·.1)).Nodup → (l.map (·.1)).filterMap (fun n => ((pre ++ l).lookup n).map (n, ·)) = l
  | [], pre, _ => rfl
  | (k, v) :: l, pre, h => by
    have hk : k ∉ pre.map (·.1) := fun hm => by
      rw [List.map_append, List.nodup_append] at h
      exact h.2.2 k hm k (by simp) rfl
    rw [List.map_cons, List.filterMap_cons, lookup_split pre l k v hk]
    have := binds_all l (pre ++ [(k, v)]) (by simpa using h)
    simp only [List.append_assoc, List.singleton_append] at this
    simp [this]
theorem missing_none {α : Type} (l : List (Str × α)) (h : (l.map (·.1)).Nodup) : (l.map (·.1)).filter (fun n => (l.lookup n).isNone) = [] := by
  rw [List.filter_eq_nil_iff]
  intro n hn
  obtain ⟨⟨k, v⟩, hm, rfl⟩ := List.mem_map.mp hn
  obtain ⟨pre, post, rfl⟩ := List.append_of_mem hm
  have hk : k ∉ pre.map (·.1) := fun hm => by
    rw [List.map_append, List.nodup_append] at h
    exact h.2.2 k hm k (by simp) rfl
  rw [lookup_split pre post k v hk]
  simp

theorem bind_plain {name : Str} {params : Arguments} {body : List Stmt} {scope : Scope} {pm cd doc : Value} {vs : List Value} (hp : plainArgs params = true) (hl : params.args.length = vs.length) (hn : (params.args.map (·.arg)).Nodup) :
    bindArgs (Calls.docDef name params body scope pm cd doc) ⟨vs, []⟩ = pure ((params.args.map (·.arg)).zip vs) := by
  obtain ⟨po, as, va, ko, kd, kw, df⟩ := params
  simp only [plainArgs, Bool.and_eq_true, List.isEmpty_iff, Option.isNone_iff_eq_none] at hp
  obtain ⟨⟨⟨rfl, rfl⟩, rfl⟩, rfl⟩ := hp
  have hk : (((as.map (·.arg)).zip vs).map (·.1)) = as.map (·.arg) := by
    rw [List.map_fst_zip]; simp; exact Nat.le_of_eq hl
  have hb := binds_all ((as.map (·.arg)).zip vs) [] (by simpa [hk] using hn)
  have hm := missing_none ((as.map (·.arg)).zip vs) (by simpa [hk] using hn)
  rw [hk] at hb hm
  simp only [List.nil_append] at hb
  simp only at hl
  have hgt : ¬ vs.length > as.length := by omega
  have ht : List.take vs.length (as.map (·.arg)) = as.map (·.arg) := List.take_of_length_le (by simp [hl])
  unfold bindArgs
  simp [Calls.docDef, seqItems?, notAStandIn, hl, hgt, -List.filterMap_map]
  rw [hb]
  refine if_neg ?_
  have e0 : List.filter (fun n => (List.lookup n ((List.map (fun x => x.arg) as).zip vs)).isNone) (List.take ((List.map (fun x => x.arg) ([] : List Arg) ++ List.map (fun x => x.arg) as).length - (List.drop ((#[] : Array Value).size - (List.map (fun x => x.arg) ([] : List Arg) ++ List.map (fun x => x.arg) as).length) ([] : List Value)).length) (List.map (fun x => x.arg) ([] : List Arg) ++ List.map (fun x => x.arg) as)) = [] := by
    rw [List.take_of_length_le (by simp)]
    exact hm
  rw [e0]
  simp

/-! ## what stands in the frame -/
theorem bindL_skip {kindOf : Str → Option NameKind} : ∀ (l : List (Str × Value)) (m : Str → Option Value) (n : Str), n ∉ l.map (·.1) → bindL kindOf l m n = m n
  | [], m, n, _ => rfl
  | (k, v) :: l, m, n, h => by
    simp only [List.map_cons, List.mem_cons, not_or] at h
    unfold bindL
    rw [bindL_skip l _ n h.2]
    split
    · exact if_neg h.1
    · rfl
theorem bindC_skip {kindOf : Str → Option NameKind} : ∀ (l : List (Str × Value)) (m : Str → Option Value) (n : Str), n ∉ l.map (·.1) → bindC kindOf l m n = m n
  | [], m, n, _ => rfl
  | (k, v) :: l, m, n, h => by
    simp only [List.map_cons, List.mem_cons, not_or] at h
    unfold bindC
    rw [bindC_skip l _ n h.2]
    split
    · rfl
    · exact if_neg h.1
theorem bindL_at {kindOf : Str → Option NameKind} : ∀ (l : List (Str × Value)) (m : Str → Option Value) (x : Nat) (n : Str) (v : Value), (l.map (·.1)).Nodup → l[x]? = some (n, v) → kindOf n = some .local → bindL kindOf l m n = some v
  | (k, u) :: l, m, 0, n, v, hn, h, hk => by
    simp at h
    obtain ⟨rfl, rfl⟩ := h
    simp only [List.map_cons, List.nodup_cons] at hn
    unfold bindL
    rw [bindL_skip l _ k hn.1, if_pos hk]
    simp
  | (k, u) :: l, m, x + 1, n, v, hn, h, hk => by
    simp only [List.map_cons, List.nodup_cons] at hn
    unfold bindL
    exact bindL_at l _ x n v hn.2 (by simpa using h) hk
theorem bindC_at {kindOf : Str → Option NameKind} : ∀ (l : List (Str × Value)) (m : Str → Option Value) (x : Nat) (n : Str) (v : Value), (l.map (·.1)).Nodup → l[x]? = some (n, v) → kindOf n ≠ some .local → bindC kindOf l m n = some v
  | (k, u) :: l, m, 0, n, v, hn, h, hk => by
    simp at h
    obtain ⟨rfl, rfl⟩ := h
    simp only [List.map_cons, List.nodup_cons] at hn
    unfold bindC
    rw [bindC_skip l _ k hn.1, if_neg hk]
    simp
  | (k, u) :: l, m, x + 1, n, v, hn, h, hk => by
    simp only [List.map_cons, List.nodup_cons] at hn
    unfold bindC
    exact bindC_at l _ x n v hn.2 (by simpa using h) hk

theorem cellsFrom_acc {nm : Str} {a : Addr} : ∀ (names : List (Str × NameKind)) (n : Nat) (acc : List (Str × Addr)), (nm, a) ∈ acc → (nm, a) ∈ cellsFrom n names acc
  | [], n, acc, h => h
  | (k, kd) :: r, n, acc, h => by
    unfold cellsFrom
    split
    · exact cellsFrom_acc r _ _ (List.mem_cons_of_mem _ h)
    · exact cellsFrom_acc r _ _ h
theorem cellsFrom_has {nm : Str} : ∀ (names : List (Str × NameKind)) (n : Nat) (acc : List (Str × Addr)), (nm, NameKind.cell) ∈ names → ∃ a, (nm, a) ∈ cellsFrom n names acc
  | (k, kd) :: r, n, acc, h => by
    unfold cellsFrom
    rcases List.mem_cons.mp h with e | h
    · cases e
      rw [if_pos (by decide)]
      exact ⟨n, cellsFrom_acc r _ _ List.mem_cons_self⟩
    · split
      · exact cellsFrom_has r _ _ h
      · exact cellsFrom_has r _ _ h
theorem lookup_has {α : Type} : ∀ {l : List (Str × α)} {n : Str} {a : α}, (n, a) ∈ l → ∃ b, l.lookup n = some b
  | (k, v) :: r, n, a, h => by
    rw [List.lookup_cons]
    cases hb : n == k with
    | true => exact ⟨v, rfl⟩
    | false =>
      rcases List.mem_cons.mp h with e | h
      · cases e; simp at hb
      · exact lookup_has h
theorem cells_lookup {nm : Str} {names : List (Str × NameKind)} {n : Nat} (h : names.lookup nm = some .cell) : ∃ a, (cellsFrom n names []).lookup nm = some a :=
  let ⟨_, h1⟩ := cellsFrom_has names n [] (mem_of_lookup h)
  lookup_has h1

/-! ## a function stands -/
noncomputable def FnDef (h : Heap) (a : Addr) (d : DefRec) : Prop := ∃ o pm cd doc, h.get? a = some o ∧ o.data = .func (Calls.docDef d.name d.params d.body d.scope pm cd doc) ∧ h.CodeRec cd d.name

noncomputable def ftOf (d : DefRec) : List Str := (d.scope.names.filter fun x => x.2 == .local || x.2 == .cell).map (·.1)
noncomputable def asOf (d : DefRec) : List Str := d.params.args.map (·.arg)
noncomputable def txOf (d : DefRec) : Tx := ⟨d.scope.names, ftOf d, [], false⟩
noncomputable def headOk (d : DefRec) : Bool := plainArgs d.params && d.scope.kind == .function && !d.scope.isGenerator && !d.scope.isCoroutine && (asOf d).isPrefixOf (ftOf d) && decide (d.scope.names.map (·.1)).Nodup

theorem lookup_of_mem {α : Type} : ∀ {l : List (Str × α)} {k : Str} {v : α}, (l.map (·.1)).Nodup → (k, v) ∈ l → l.lookup k = some v
  | (k', v') :: l, k, v, hn, h => by
    simp only [List.map_cons, List.nodup_cons] at hn
    rw [List.lookup_cons]
    rcases List.mem_cons.mp h with e | h
    · cases e; simp
    · have : k ≠ k' := fun e => hn.1 (e ▸ List.mem_map.mpr ⟨_, h, rfl⟩)
      rw [show (k == k') = false from by simpa using this]
      exact lookup_of_mem hn.2 h
theorem ft_kind {d : DefRec} (hn : (d.scope.names.map (·.1)).Nodup) {x : Nat} {nm : Str} (h : (ftOf d)[x]? = some nm) : (txOf d).kind nm = some .local ∨ (txOf d).kind nm = some .cell := by
  have h1 := List.mem_of_getElem? h
  unfold ftOf at h1
  obtain ⟨⟨k, kd⟩, hm, rfl⟩ := List.mem_map.mp h1
  rw [List.mem_filter] at hm
  have h2 : (txOf d).kind k = some kd := lookup_of_mem hn hm.1
  have h3 : kd = .local ∨ kd = .cell := by simpa using hm.2
  rcases h3 with rfl | rfl
  · exact .inl h2
  · exact .inr h2
theorem ft_nodup {d : DefRec} (hn : (d.scope.names.map (·.1)).Nodup) : (ftOf d).Nodup := by
  unfold ftOf
  exact hn.sublist (List.filter_sublist.map _)
theorem nodup_get {l : List Str} (h : l.Nodup) {x y : Nat} {n : Str} (h1 : l[x]? = some n) (h2 : l[y]? = some n) : x = y := by
  obtain ⟨hx, ex⟩ := List.getElem?_eq_some_iff.mp h1
  obtain ⟨hy, ey⟩ := List.getElem?_eq_some_iff.mp h2
  rcases Nat.lt_trichotomy x y with q | q | q
  · exact absurd (ex.trans ey.symm) (List.pairwise_iff_getElem.mp h x y hx hy q)
  · exact q
  · exact absurd (ey.trans ex.symm) (List.pairwise_iff_getElem.mp h y x hy hx q)

/-- the frame of a call -/
theorem fn_enter {d : DefRec} {a : Addr} {A : Around} {s : Shared} {X : Addr → Prop} {vs : List Value} {ds : List D} {R : Result → Shared → Prop} (hd : FnDef c.h₀ a d) (hok : headOk d = true) (hnl : c.h₀.NoLimit) (hA : A.depth < recursionLimit)
    (hk : ∀ b o, c.h₀.get? b = some o → s.heap.get? b = some o) (hX : Alive X s.heap) (hr : RepAll X s.heap vs ds) (hl : ds.length = (asOf d).length)
    (h : ∀ env M V s₁, EnvOk (txOf d) env → Grow s s₁ → (∀ b, M b → s.heap.get? b = none) → InvS c (txOf d) env X M V s₁ (ds.map .val ++ List.replicate ((ftOf d).length - (asOf d).length) .unset) →
      wpAny (model c.prog c.w) (A.deeper env) (execs d.body env) (fun f s' => R (.ok (.ret (match f with | .ret v => v | _ => .none))) s') NoE s₁) :
    codeAny (model c.prog c.w) A (.call (.ref a) ⟨vs, []⟩) R s := by
  obtain ⟨o, pm, cd, doc, ho, hdata, hcd⟩ := hd
  simp only [headOk, Bool.and_eq_true, Bool.not_eq_true', decide_eq_true_eq, beq_iff_eq] at hok
  obtain ⟨⟨⟨⟨⟨hp, hkind⟩, hgen⟩, hco⟩, hpre⟩, hnd⟩ := hok
  have hpre := List.isPrefixOf_iff_prefix.mp hpre
  have hfn := ft_nodup (d := d) hnd
  have han : (asOf d).Nodup := hfn.sublist hpre.sublist
  have hvl : (asOf d).length = vs.length := by rw [hr.1, hl]
  have hbind := bind_plain (name := d.name) (params := d.params) (body := d.body) (scope := d.scope) (pm := pm) (cd := cd) (doc := doc) (vs := vs) hp (by rw [← hvl]; simp [asOf]) han
  have hkb : ∀ {x : Nat} {nm : Str}, (asOf d)[x]? = some nm → (ftOf d)[x]? = some nm := fun {x nm} e => by
    obtain ⟨t, ht⟩ := hpre
    rw [← ht]
    obtain ⟨hx, ex⟩ := List.getElem?_eq_some_iff.mp e
    rw [List.getElem?_append_left hx]; exact e
  have hzip : (((d.params.args.map (·.arg)).zip vs).map (·.1)) = asOf d := by
    rw [List.map_fst_zip]; rfl; exact Nat.le_of_eq hvl
  refine codeAny_call_cells (fd := Calls.docDef d.name d.params d.body d.scope pm cd doc) (o := o) hA (hk _ _ ho) hdata (hnl.keeps hk) (hcd.keeps hk) rfl hbind rfl (fun x hx => ?_) (fun s₁ I => ?_) hco hgen hkind
  · have h1 : x.1 ∈ asOf d := by rw [← hzip]; exact List.mem_map.mpr ⟨x, hx, rfl⟩
    obtain ⟨i, hi⟩ := List.getElem?_of_mem h1
    rcases ft_kind hnd (hkb hi) with h2 | h2
    · exact .inl h2
    · exact .inr ⟨h2, by obtain ⟨b, hb⟩ := cells_lookup (n := s.heap.objs.size + 1) (show d.scope.names.lookup x.1 = some .cell from h2); show ((cellsFrom (s.heap.objs.size + 1) d.scope.names []).lookup x.1).isSome = true; rw [hb]; rfl⟩
  generalize henv : callEnvC (Calls.docDef d.name d.params d.body d.scope pm cd doc) s.heap.objs.size a = env at I ⊢
  have eL : env.locals = s.heap.objs.size := by rw [← henv]; rfl
  have eC : env.cells = cellsFrom (s.heap.objs.size + 1) d.scope.names [] := by rw [← henv]; rfl
  have eN : env.scope = d.scope := by rw [← henv]; rfl
  have eK : ∀ nm, env.kindOf nm = (txOf d).kind nm := fun nm => by unfold Env.kindOf Tx.kind; rw [eN]; rfl
  have hg : Grow s s₁ := by
    obtain ⟨h', tk, e⟩ := I.toInCall.same
    exact ⟨by rw [e], by rw [e], I.toInCall.keep⟩
  have ok : EnvOk (txOf d) env := by
    refine ⟨by rw [eN]; exact hkind, by rw [eN]; rfl, by rw [← henv]; rfl, by rw [← henv]; rfl, rfl, fun n n' b h1 h2 => name_of_addr I.apart (mem_of_lookup h1) (mem_of_lookup h2), fun x nm h => ft_kind hnd h, fun x y nm h1 h2 => nodup_get hfn h1 h2⟩
  have hdead : ∀ b, (b = env.locals ∨ ∃ nm, env.cells.lookup nm = some b) → s.heap.get? b = none := fun b hb => by
    cases q : s.heap.get? b with
    | none => rfl
    | some ob =>
      have hlt : @LT.lt Nat instLTNat b s.heap.objs.size := Heap.lt_size q
      rcases hb with hb | ⟨nm, hb⟩
      · rw [hb, eL] at hlt; exact absurd hlt (Nat.lt_irrefl _)
      · have : @LT.lt Nat instLTNat env.locals b := I.above nm b (mem_of_lookup hb)
        rw [eL] at this
        exact absurd (Nat.lt_trans this hlt) (Nat.lt_irrefl _)
  refine wpAny_mono (h env (fun b => b = env.locals ∨ ∃ nm, env.cells.lookup nm = some b) (fun nm => if env.kindOf nm = some .local then bindL env.kindOf ((d.params.args.map (·.arg)).zip vs) (fun _ => none) nm else bindC env.kindOf ((d.params.args.map (·.arg)).zip vs) (fun _ => none) nm) s₁ ok hg hdead ?_) (fun _ _ e => e) fun _ _ e => e.elim
  refine ⟨fun b ob e => hg.keep b ob (hk b ob e), fun b hb => ?_, fun b hb hXb => hX b hXb (hdead b hb), fun b hb => ?_, ⟨_, I.toInCall.ns, fun nm hkn => ?_⟩, fun nm hkn => ?_, .inl rfl, ?_, fun x nm sl h1 h2 => ?_, fun x y nx ny xs ys b hxy h1 h2 h3 h4 h5 h6 => ?_⟩
  · rcases hb with (hb | ⟨nm, hb⟩) | hb
    · obtain ⟨ob, _, _, hob, _⟩ := I.toInCall.ns
      rw [hb, hob]; simp
    · obtain ⟨ob, hob, _⟩ := I.cell nm b hb
      rw [hob]; simp
    · intro hno
      cases q : s.heap.get? b with
      | none => exact hX b hb q
      | some ob => rw [hg.keep b ob q] at hno; cases hno
  · cases q : c.h₀.get? b with
    | none => rfl
    | some ob => have := hdead b hb; rw [hk b ob q] at this; cases this
  · rw [if_pos (by rw [eK]; exact hkn)]
  · obtain ⟨b, hb⟩ := cells_lookup (n := s.heap.objs.size + 1) (show d.scope.names.lookup nm = some .cell from hkn)
    rw [← eC] at hb
    refine ⟨b, hb, .inr ⟨nm, hb⟩, ?_⟩
    rw [if_neg (by rw [eK, hkn]; decide)]
    exact I.cell nm b hb
  · have := hpre.length_le
    simp [hl]
    show _ = (ftOf d).length
    omega
  · by_cases hx : x < ds.length
    · rw [List.getElem?_append_left (by simpa using hx)] at h2
      simp [hx] at h2
      subst h2
      have hxa : x < (asOf d).length := by omega
      have ha : (asOf d)[x]? = some nm := by
        rw [← h1]
        show _ = (ftOf d)[x]?
        rw [hkb (List.getElem?_eq_getElem hxa)]
        exact List.getElem?_eq_getElem hxa
      have hxv : x < vs.length := by omega
      have hz : ((d.params.args.map (·.arg)).zip vs)[x]? = some (nm, vs[x]) := by
        rw [List.getElem?_zip_eq_some]
        exact ⟨ha, by simp [hxv]⟩
      refine ⟨vs[x], ?_, ((hr.2 x vs[x] ds[x] (by simp [hxv]) (by simp [hx])).mono fun b ob hnb e => ⟨hg.keep b ob e, fun hb => ?_⟩)⟩
      · show (if _ then _ else _) = _
        split
        · rename_i hloc
          exact bindL_at _ _ x nm _ (by rw [hzip]; exact han) hz hloc
        · rename_i hloc
          exact bindC_at _ _ x nm _ (by rw [hzip]; exact han) hz hloc
      · rcases hb with hb | hb
        · rw [hdead b hb] at e; cases e
        · exact hnb hb
    · rw [List.getElem?_append_right (by simp; omega), List.getElem?_replicate] at h2
      split at h2
      · cases h2; trivial
      · cases h2
  · by_cases hx : x < ds.length
    · rw [List.getElem?_append_left (by simpa using hx)] at h3
      simp [hx] at h3
    · rw [List.getElem?_append_right (by simp; omega), List.getElem?_replicate] at h3
      split at h3 <;> cases h3
end Mine
end
/-! S21 -/
section
open PySem PySem.W PyProof.Rows
set_option linter.unusedSimpArgs false
set_option linter.unusedVariables false
namespace Mine
variable {c : Cx}

/-! ## the two native functions -/
theorem eval_patmatch {τ : Tx} {A : Around} {env : Env} {N : Addr → Prop} {s : Shared} {ρ : List Slot} {g : Nat} {code : Array Nat} {nm arg : Str} {p p' apos pos : Pos} {x : List Nat} {P : Addr} {Q : Value → Shared → Prop} (G : GOk c) (hA : AOk c.n A) (I : InvE c.h₀ τ env N s.heap ρ []) (hd : (nm == ("__debug__" : Str)) = false)
    (hk : τ.kind nm = some .globalImplicit) (hg : c.mg nm = some (.ref P)) (hp : IsPat c.h₀ P g code) (hline : (apos.endLine == pos.line) = true) (ha : SndE c τ (.Name arg p') (.var 0)) (h0 : ev c.Φ ρ [] (.var 0) = some (.str x))
    (h : ∀ s₁ t, Grow s s₁ → wpAny (model c.prog c.w) A (call (.builtin "re.Pattern.match") [.ref P, .str (S x) t]) Q NoE s₁) :
    wpAny (model c.prog c.w) A (eval (.Call (.Attribute (.Name nm p) "match" apos) [.Name arg p'] [] pos) env) Q NoE s := by
  have hL : SndL c τ [.Name arg p'] (.cons (.var 0) .nil) := .cons ha .nil
  refine wpAny_Call_method_lateS (base_plain rfl) (few hL env pos (by simp)) hline (eval_global G I hd hk hg ?_)
  have hpat' := hp.keeps I.keep
  have hT : s.TypeIs (.ref P) "re.Pattern" := by obtain ⟨f0, f1, f3, f4, C, n, hP, hC⟩ := hpat'; exact ⟨_, hP, rfl⟩
  have hdn : ∀ a, Value.ref P = .ref a → ∃ ob, s.heap.get? a = some ob ∧ ob.dict = none := fun a e => by
    cases e; obtain ⟨f0, f1, f3, f4, C, n, hP, hC⟩ := hpat'; exact ⟨_, hP, rfl⟩
  refine ⟨"re.Pattern", "re.Pattern.match", plainAttrs_pat, slot_pat_match, type_pat_match, hT, hdn, ?_⟩
  refine Calls.callWith_builtin (hL.noStar env pos).1 ?_
  rw [starEach_cons ha.nst]
  refine Calls.evalArgs_plain (Calls.spliced_cons (wpAny_mono (ha.val hA I h0) (fun v s₁ o => Calls.spliced_nil ?_) fun _ _ e => e))
  show wpAny _ A (call (.builtin "re.Pattern.match") [.ref P, v] []) _ _ s₁
  obtain ⟨t, rfl, h1⟩ := Rep.inv_str o.rep
  exact h s₁ t o.grow

structure NatOk (c : Cx) (d : DefRec) (pat : Str) (groups : Nat) (code : Array Nat) : Prop where
  head : headOk d = true
  as : asOf d = [("line" : Str)]
  nm : trName (txOf d) "line" = some (.var 0)
  dbg : (pat == ("__debug__" : Str)) = false
  kind : (txOf d).kind pat = some .globalImplicit
  at' : ∃ P, c.mg pat = some (.ref P) ∧ IsPat c.h₀ P groups code
noncomputable def WhiteBody (body : List Stmt) : Prop := ∃ p p' apos pos kk p2 cp rp, (apos.endLine == pos.line) = true ∧
  body = [.Return (some (.Compare (.Call (.Attribute (.Name "_twin_re_2" p) "match" apos) [.Name "line" p'] [] pos) [.IsNot] [.Constant .none kk p2] cp)) rp]
noncomputable def IndentBody (body : List Stmt) : Prop := ∃ p p' apos pos apos2 pos2 rp, (apos.endLine == pos.line) = true ∧ (apos2.endLine == pos2.line) = true ∧
  body = [.Return (some (.Call (.Attribute (.Call (.Attribute (.Name "_twin_re_3" p) "match" apos) [.Name "line" p'] [] pos) "group" apos2) [] [] pos2)) rp]

theorem fn_white {d : DefRec} {a : Addr} {A : Around} {s : Shared} {X : Addr → Prop} {vs : List Value} {x : List Nat} (G : GOk c) (hd : FnDef c.h₀ a d) (ok : NatOk c d "_twin_re_2" 0 code2) (hb : WhiteBody d.body) (hA : AOk (c.n + 1) A) (hx : x.length < 1000000)
    (hk : ∀ b o, c.h₀.get? b = some o → s.heap.get? b = some o) (hX : Alive X s.heap) (hr : RepAll X s.heap vs [.str x]) :
    codeAny (model c.prog c.w) A (.call (.ref a) ⟨vs, []⟩) (fun r s' => ∃ v, r = .ok (.ret v) ∧ Grow s s' ∧ Rep X s'.heap v (.bool (x.all isWs))) s := by
  obtain ⟨p, p', apos, pos, kk, p2, cp, rp, hline, hbody⟩ := hb
  obtain ⟨P, hmg, hpat⟩ := ok.at'
  refine fn_enter hd ok.head G.nolimit (by have := hA.2.1; omega) hk hX hr (by rw [ok.as]; rfl) fun env M V s₁ eok g hM I => ?_
  have I₁ := I.toE eok
  have hA' := hA.deeper env
  rw [hbody]
  refine wpAny_execs_cons (wpAny_Return_some (wpAny_Compare1 (eval_patmatch G hA' I₁ ok.dbg ok.kind hmg hpat hline (good_name ok.nm) (x := x) rfl fun s₂ t g₂ => ?_) rfl))
  refine wpAny_mono (call_match2 (hpat.keeps (I₁.grow g₂).keep) hx) (fun r s₃ h₃ => ?_) fun _ _ e => e
  obtain ⟨g₃, hr, hn⟩ := h₃
  rw [eval_Constant]
  refine wpAny_pure (wpAny_isNot_plain ?_ ?_)
  · rcases hn with rfl | ⟨q, rfl⟩ <;> rfl
  · refine ⟨_, rfl, (g.trans g₂).trans g₃, ?_⟩
    rw [hr]
    simp only [Bool.not_not]
    exact .bool _

theorem fn_indent {d : DefRec} {a : Addr} {A : Around} {s : Shared} {X : Addr → Prop} {vs : List Value} {x : List Nat} (G : GOk c) (hd : FnDef c.h₀ a d) (ok : NatOk c d "_twin_re_3" 1 code3) (hb : IndentBody d.body) (hA : AOk (c.n + 1) A) (hx : x.length < 1000000)
    (hk : ∀ b o, c.h₀.get? b = some o → s.heap.get? b = some o) (hX : Alive X s.heap) (hr : RepAll X s.heap vs [.str x]) :
    codeAny (model c.prog c.w) A (.call (.ref a) ⟨vs, []⟩) (fun r s' => ∃ v, r = .ok (.ret v) ∧ Grow s s' ∧ Rep X s'.heap v (.str (indentOf x))) s := by
  obtain ⟨p, p', apos, pos, apos2, pos2, rp, hline, hline2, hbody⟩ := hb
  obtain ⟨P, hmg, hpat⟩ := ok.at'
  refine fn_enter hd ok.head G.nolimit (by have := hA.2.1; omega) hk hX hr (by rw [ok.as]; rfl) fun env M V s₁ eok g hM I => ?_
  have I₁ := I.toE eok
  have hA' := hA.deeper env
  rw [hbody]
  refine wpAny_execs_cons (wpAny_Return_some ?_)
  refine wpAny_Call_method_lateS (base_plain rfl) (few (.nil : SndL c (txOf d) [] .nil) env pos2 (by simp)) hline2 ?_
  refine eval_patmatch G hA' I₁ ok.dbg ok.kind hmg hpat hline (good_name ok.nm) (x := x) rfl fun s₂ t g₂ => ?_
  refine wpAny_mono (call_match3 (hpat.keeps (I₁.grow g₂).keep) hx) (fun r s₃ h₃ => ?_) fun _ _ e => e
  obtain ⟨g₃, q, rfl, hm⟩ := h₃
  have hm' := hm
  obtain ⟨_, _, _, _, _, _, _, _, hq, _⟩ := hm'
  refine ⟨"re.Match", "re.Match.group", plainAttrs_match, slot_match_group, type_match_group, ⟨_, hq, rfl⟩, fun a e => by cases e; exact ⟨_, hq, rfl⟩, ?_⟩
  refine Calls.callWith_builtin ((.nil : SndL c (txOf d) [] .nil).noStar env pos2).1 ?_
  refine PySem.evalArgs_none ?_
  show wpAny _ _ (call (.builtin "re.Match.group") [.ref q] []) _ _ s₃
  refine wpAny_mono (call_group (N := X) hm hx) (fun v s₄ o => ?_) fun _ _ e => e
  refine ⟨_, rfl, ((g.trans g₂).trans g₃).trans o.grow, ?_⟩
  have := o.rep
  rw [show x.take (indentOf x).length = indentOf x from ?_] at this
  · exact this
  · unfold indentOf
    exact (List.prefix_iff_eq_take.mp (List.takeWhile_prefix _)).symm
end Mine
end
/-! S22 -/
section
open PySem PySem.W PyProof.Rows
set_option linter.unusedSimpArgs false
set_option linter.unusedVariables false
namespace Mine
variable {c : Cx}

/-! ## the written functions -/
noncomputable def compile (fnames : List Str) (hasPat : Bool) (d : DefRec) : Option Fun :=
  if headOk d then (trB fnames hasPat (txOf d) 60 d.body).map fun k => ⟨(asOf d).length, (ftOf d).length, k⟩ else none

theorem fn_compiled {d : DefRec} {a : Addr} {f : Fun} {A : Around} {s : Shared} {X : Addr → Prop} {vs : List Value} {ds : List D} {v : D} {fr : Bool} (G : GOk c) (F : FnsOk c) (hd : FnDef c.h₀ a d) (hc : compile c.fnames c.hasPat d = some f) (hA : AOk (c.n + 1) A)
    (hk : ∀ b o, c.h₀.get? b = some o → s.heap.get? b = some o) (hX : Alive X s.heap) (hr : RepAll X s.heap vs ds) (e : runF c.Φ f ds = some (v, fr)) :
    codeAny (model c.prog c.w) A (.call (.ref a) ⟨vs, []⟩) (fun r s' => ∃ u, r = .ok (.ret u) ∧ Grow s s' ∧ Rep X s'.heap u v ∧ (fr = true → ∀ xs, v = .list xs → ∃ b, u = .ref b ∧ s.heap.get? b = none)) s := by
  unfold compile at hc
  split at hc
  · rename_i hok
    simp only [Option.map_eq_some_iff] at hc
    obtain ⟨k, hk', rfl⟩ := hc
    unfold runF at e
    split at e
    · rename_i hl
      have hB : SndB c (txOf d) d.body k := trB_sound G F hk'
      refine fn_enter hd hok G.nolimit (by have := hA.2.1; omega) hk hX hr hl fun env M V s₁ eok g hM I => ?_
      have hA' := hA.deeper env
      have fin : ∀ {M' : Addr → Prop} {s' : Shared}, Step M s₁ M' s' → Grow s s' := fun {M' s'} st => ⟨st.kb.os.trans g.os, st.kb.gens.trans g.gens, fun b o q => st.kb.keep b o (fun hb => by rw [hM b hb] at q; cases q) (g.keep b o q)⟩
      split at e
      · rename_i ρ' v' fr' hex
        cases e
        refine wpAny_mono (hB hA' eok I hex) (fun fl s' h' => ?_) fun _ _ e => e
        obtain ⟨M', V', st, I', u, rfl, r, fresh⟩ := h'
        refine ⟨u, rfl, fin st, r.mono fun b o hn q => ⟨q, fun hb => hn (.inr hb)⟩, fun hf xs hx => ?_⟩
        obtain ⟨b, rfl, hb⟩ := fresh hf xs hx
        exact ⟨b, rfl, hb.elim (hM b) fun h => get_none_back g h⟩
      · rename_i ρ' hex
        cases e
        refine wpAny_mono (hB hA' eok I hex) (fun fl s' h' => ?_) fun _ _ e => e
        obtain ⟨M', V', st, I', rfl⟩ := h'
        exact ⟨.none, rfl, fin st, .none, fun h => by cases h⟩
      · cases e
    · cases e
  · cases hc

noncomputable def Cx.lev (c : Cx) (fs : List Fun) (n : Nat) : Cx := { c with Φ := Phi fs n, n := n }
theorem GOk.lev (G : GOk c) (fs : List Fun) (n : Nat) : GOk (c.lev fs n) := ⟨G.g, G.b, G.nolimit, G.bl, G.bool, G.rev, G.zip, G.fn, G.pat⟩
theorem NatOk.lev {d : DefRec} {pat : Str} {g : Nat} {code : Array Nat} (h : NatOk c d pat g code) (fs : List Fun) (n : Nat) : NatOk (c.lev fs n) d pat g code := ⟨h.head, h.as, h.nm, h.dbg, h.kind, h.at'⟩

structure ProgOk (c : Cx) (fs : List Fun) : Prop where
  white : ∀ nm : Str, c.fnames[0]? = some nm → nm ≠ "" → ∃ a d, c.fas[0]? = some a ∧ FnDef c.h₀ a d ∧ NatOk c d "_twin_re_2" 0 code2 ∧ WhiteBody d.body
  indent : ∃ a d, c.fas[1]? = some a ∧ FnDef c.h₀ a d ∧ NatOk c d "_twin_re_3" 1 code3 ∧ IndentBody d.body
  fns : ∀ (k : Nat) (nm : Str), c.fnames[k + 2]? = some nm → ∃ a d f, c.fas[k + 2]? = some a ∧ FnDef c.h₀ a d ∧ fs[k]? = some f ∧ compile c.fnames c.hasPat d = some f

theorem all_ok {fs : List Fun} (G : GOk c) (P : ProgOk c fs) : ∀ n, FnsOk (c.lev fs n)
  | 0 => fun i a nm ds d fr _ _ _ h => by cases h
  | n + 1 => fun i a nm ds d fr hnm hne ha h A s X vs hA hk hX hr => by
    replace h : Phi fs (n + 1) i ds = some (d, fr) := h
    have G' := G.lev fs n
    unfold Phi at h
    split at h
    · split at h
      · rename_i hx
        cases h
        obtain ⟨a', d', h1, h2, h3, h4⟩ := P.white nm hnm hne
        have : a = a' := by have := ha.symm.trans h1; exact Option.some.inj this
        subst this
        refine codeAny_mono (fn_white (c := c.lev fs n) G' h2 (h3.lev fs n) h4 hA hx hk hX hr) fun r s' hq => ?_
        obtain ⟨v, e, g, rep⟩ := hq
        exact ⟨v, e, g, rep, fun h => by cases h⟩
      · cases h
    · split at h
      · rename_i hx
        cases h
        obtain ⟨a', d', h1, h2, h3, h4⟩ := P.indent
        have : a = a' := by have := ha.symm.trans h1; exact Option.some.inj this
        subst this
        refine codeAny_mono (fn_indent (c := c.lev fs n) G' h2 (h3.lev fs n) h4 hA hx hk hX hr) fun r s' hq => ?_
        obtain ⟨v, e, g, rep⟩ := hq
        exact ⟨v, e, g, rep, fun h => by cases h⟩
      · cases h
    · rename_i k
      obtain ⟨a', d', f, h1, h2, h3, h4⟩ := P.fns k nm hnm
      have : a = a' := by have := ha.symm.trans h1; exact Option.some.inj this
      subst this
      rw [h3] at h
      exact fn_compiled (c := c.lev fs n) G' (all_ok G P n) h2 h4 hA hk hX hr h
    · cases h
end Mine
end
/-! S23 -/
section
open PySem PySem.W PyProof.Rows
set_option linter.unusedSimpArgs false
set_option linter.unusedVariables false
namespace Mine

/-! ## the top -/
noncomputable def needed : List Str := ["len", "min", "max", "sum", "chr", "ord", "range", "list", "isinstance", "bool", "reversed", "zip"]
noncomputable def freeB (q : Program) (lo : List Str) (x : Str) : Bool := !(startupNames.contains x || lo.contains x || ((recsOf q).map (·.name)).contains x || ((litsOf q).map (·.1)).contains x || ((clssOf q lo).map (·.name)).contains x)
noncomputable def recOf (q : Program) (nm : Str) : Option DefRec := (recsOf q).find? fun d => d.name == nm

theorem boot_fn : ∀ f : Fn, bootBuiltins (fnName f) = some (fnVal f) ∧ fnName f ≠ "__name__" ∧ fnName f ∈ needed
  | .len => by decide +kernel
  | .min => by decide +kernel
  | .max => by decide +kernel
  | .sum => by decide +kernel
  | .chr => by decide +kernel
  | .ord => by decide +kernel
  | .range => by decide +kernel
  | .list => by decide +kernel
  | .isBool => by decide +kernel
theorem boot_three : (bootBuiltins "bool" = some (.type "bool") ∧ bootBuiltins "reversed" = some (.type "reversed") ∧ bootBuiltins "zip" = some (.type "zip")) := by decide +kernel

section
variable {q : Program} {lo : List Str} {mean : ExcName → Option Value} {mg mb : Str → Option Value} {h : Heap}
theorem Top.not (T : Top q lo mean mg mb h) {x : Str} (hx : freeB q lo x = true) : mg x = none := by
  simp only [freeB, Bool.not_eq_true', Bool.or_eq_false_iff, List.contains_iff_mem] at hx
  obtain ⟨⟨⟨⟨h1, h2⟩, h3⟩, h4⟩, h5⟩ := hx
  refine T.free x (fun e => ?_) (fun e => ?_) (fun e => ?_) (fun e => ?_) (fun e => ?_)
  · rw [List.contains_iff_mem.mpr e] at h1; cases h1
  · rw [List.contains_iff_mem.mpr e] at h2; cases h2
  · rw [List.contains_iff_mem.mpr e] at h3; cases h3
  · rw [List.contains_iff_mem.mpr e] at h4; cases h4
  · rw [List.contains_iff_mem.mpr e] at h5; cases h5
theorem Top.fnDef (T : Top q lo mean mg mb h) {nm : Str} {d : DefRec} (hd : recOf q nm = some d) : ∃ a, mg nm = some (.ref a) ∧ FnDef h a d := by
  have hn : d.name = nm := beq_iff_eq.mp (List.find?_some (p := fun e : DefRec => e.name == nm) hd)
  obtain ⟨a, o, pm, cd, doc, h1, h2, h3, h4⟩ := T.fn d (List.mem_of_find?_eq_some hd)
  exact ⟨a, hn ▸ h1, o, pm, cd, doc, h2, h3, h4⟩
end

noncomputable def addrOf (mg : Str → Option Value) (nm : Str) : Addr := match mg nm with
  | some (.ref a) => a
  | _ => 0

/-! ## the natives, looked at by a program -/
noncomputable def isVar0 : Option E → Bool
  | some (.var 0) => true
  | _ => false
theorem isVar0_eq {x : Option E} (h : isVar0 x = true) : x = some (.var 0) := by
  unfold isVar0 at h
  split at h
  · rfl
  · cases h
noncomputable def natB (d : DefRec) (pat : Str) : Bool := headOk d && asOf d == [("line" : Str)] && isVar0 (trName (txOf d) "line") && !(pat == ("__debug__" : Str)) && (txOf d).kind pat == some .globalImplicit
noncomputable def whiteB : List Stmt → Bool
  | [.Return (some (.Compare (.Call (.Attribute (.Name a _) b apos) [.Name d _] [] pos) [.IsNot] [.Constant .none _ _] _)) _] => a == ("_twin_re_2" : Str) && b == ("match" : Str) && d == ("line" : Str) && apos.endLine == pos.line
  | _ => false
noncomputable def indentB : List Stmt → Bool
  | [.Return (some (.Call (.Attribute (.Call (.Attribute (.Name a _) b apos) [.Name d _] [] pos) g apos2) [] [] pos2)) _] => a == ("_twin_re_3" : Str) && b == ("match" : Str) && d == ("line" : Str) && g == ("group" : Str) && apos.endLine == pos.line && apos2.endLine == pos2.line
  | _ => false
theorem whiteB_ok {b : List Stmt} (h : whiteB b = true) : WhiteBody b := by
  unfold whiteB at h
  split at h
  · simp only [Bool.and_eq_true, beq_iff_eq] at h
    obtain ⟨⟨⟨rfl, rfl⟩, rfl⟩, h⟩ := h
    exact ⟨_, _, _, _, _, _, _, _, by simpa using h, rfl⟩
  · cases h
theorem indentB_ok {b : List Stmt} (h : indentB b = true) : IndentBody b := by
  unfold indentB at h
  split at h
  · simp only [Bool.and_eq_true, beq_iff_eq] at h
    obtain ⟨⟨⟨⟨⟨rfl, rfl⟩, rfl⟩, rfl⟩, h⟩, h'⟩ := h
    exact ⟨_, _, _, _, _, _, _, by simpa using h, by simpa using h', rfl⟩
  · cases h
theorem natB_ok {c : Cx} {d : DefRec} {pat : Str} {g : Nat} {code : Array Nat} (h : natB d pat = true) (hp : ∃ P, c.mg pat = some (.ref P) ∧ IsPat c.h₀ P g code) : NatOk c d pat g code := by
  simp only [natB, Bool.and_eq_true, Bool.not_eq_true', beq_iff_eq] at h
  obtain ⟨⟨⟨⟨h1, h2⟩, h3⟩, h4⟩, h5⟩ := h
  exact ⟨h1, h2, isVar0_eq h3, h4, h5, hp⟩

/-- what is looked at of a law: the view of its program, the names of its functions, their translations -/
structure LawOk (q : Program) (lo : List Str) (white : Bool) (names : List Str) (fs : List Fun) : Prop where
  free : needed.all (freeB q lo) = true
  isW : white = true → ((recOf q "is_all_white").any fun d => natB d "_twin_re_2" && whiteB d.body) = true
  indent : ((recOf q "get_indent").any fun d => natB d "_twin_re_3" && indentB d.body) = true
  fns : names.map (fun nm => (recOf q nm).bind (compile ((if white then ("is_all_white" : Str) else "") :: "get_indent" :: names) white)) = fs.map some
  ne : names.contains "" = false

theorem ints_rep {X : Addr → Prop} {h : Heap} : ∀ {vs : List Value} {xs : List Int}, IntsAre vs xs → RepAll X h vs (xs.map .int)
  | _, _, .nil => .nil
  | _, _, .cons n t r => .cons (.int n t) (ints_rep r)

theorem walk_core {q prog : Program} {w : World} {lo : List Str} {mean : ExcName → Option Value} {mg mb : Str → Option Value} {s : Shared} {white : Bool} {names : List Str} {fs : List Fun} {k N : Nat} {nm : Str} {a L : Addr} {vs : List Value} {xs : List Int} {c : ClaimW} {cl : Str → Option Addr} {mean' : ExcName → Option Value} {args : List WData}
    (T : Top q lo mean mg mb s.heap) (ok : LawOk q lo white names fs) (hp1 : white = true → ∃ P, mg "_twin_re_1" = some (.ref P) ∧ IsPat s.heap P 1 code1) (hp2 : white = true → ∃ P, mg "_twin_re_2" = some (.ref P) ∧ IsPat s.heap P 0 code2)
    (hp3 : ∃ P, mg "_twin_re_3" = some (.ref P) ∧ IsPat s.heap P 1 code3) (hnm : names[k]? = some nm) (ha : mg nm = some (.ref a)) (hN : N ≤ 20) (hW : Well w.params s.heap (.ref L) (ofPy (.list (xs.map PyData.int)))) (hL : s.heap.IsList L vs.toArray) (hI : IntsAre vs xs) (hlen : xs.length ≤ 63)
    (pure : ∃ fr, Phi fs N (k + 2) [.list (xs.map .int)] = some (.bool true, fr)) (hg : s.gens = #[])
    (hraise : ∀ cls, c.raises args cls = false) (hpost : c.post args (.bool true) args = true) :
    wpAny (model prog w) callerA (call (.ref a) [.ref L]) (fun v s' => GoodWG c cl mean' args s (.ok (.ret v)) s') (fun e s' => GoodWG c cl mean' args s (.error e) s') s := by
  let fnames : List Str := (if white then ("is_all_white" : Str) else "") :: "get_indent" :: names
  let cx : Cx := { prog, w, h₀ := s.heap, mg, mb, fnames, fas := fnames.map (addrOf mg), hasPat := white, Φ := Phi fs 0, n := 0 }
  have hfree : ∀ x, x ∈ needed → mg x = none := fun x hx => Top.not T (List.all_eq_true.mp ok.free x hx)
  have hfas : ∀ (i : Nat) (nm : Str) (a : Addr), fnames[i]? = some nm → mg nm = some (.ref a) → cx.fas[i]? = some a := fun i nm a h1 h2 => by
    show (fnames.map (addrOf mg))[i]? = some a
    rw [List.getElem?_map, h1]
    simp [addrOf, h2]
  have hfn : ∀ (i : Nat) (nm : Str), names[i]? = some nm → ∃ d f, recOf q nm = some d ∧ fs[i]? = some f ∧ compile fnames white d = some f := fun i nm h1 => by
    have h2 := congrArg (fun l => l[i]?) ok.fns
    simp only [List.getElem?_map, h1, Option.map_some] at h2
    cases h3 : fs[i]? with
    | none => rw [h3] at h2; cases h2
    | some f =>
      rw [h3] at h2
      simp only [Option.map_some, Option.some.injEq] at h2
      cases h4 : recOf q nm with
      | none => rw [h4] at h2; cases h2
      | some d => rw [h4] at h2; exact ⟨d, f, rfl, rfl, h2⟩
  have hind : ∃ a d, mg "get_indent" = some (.ref a) ∧ FnDef s.heap a d ∧ NatOk cx d "_twin_re_3" 1 code3 ∧ IndentBody d.body := by
    have h1 := ok.indent
    rw [Option.any_eq_true] at h1
    obtain ⟨d, h1, h2⟩ := h1
    rw [Bool.and_eq_true] at h2
    obtain ⟨a, h3, h4⟩ := Top.fnDef T h1
    exact ⟨a, d, h3, h4, natB_ok h2.1 hp3, indentB_ok h2.2⟩
  have hwh : white = true → ∃ a d, mg "is_all_white" = some (.ref a) ∧ FnDef s.heap a d ∧ NatOk cx d "_twin_re_2" 0 code2 ∧ WhiteBody d.body := fun hw => by
    have h1 := ok.isW hw
    rw [Option.any_eq_true] at h1
    obtain ⟨d, h1, h2⟩ := h1
    rw [Bool.and_eq_true] at h2
    obtain ⟨a, h3, h4⟩ := Top.fnDef T h1
    exact ⟨a, d, h3, h4, natB_ok h2.1 (hp2 hw), whiteB_ok h2.2⟩
  have G : GOk cx := by
    refine ⟨T.g, T.b, T.nolimit, fun f => ?_, ?_, ?_, ?_, fun i nm h1 h2 => ?_, hp1⟩
    · obtain ⟨h1, h2, h3⟩ := boot_fn f
      exact ⟨hfree _ h3, (T.builtins _ h2).trans h1⟩
    · exact ⟨hfree _ (by decide +kernel), (T.builtins _ (by decide +kernel)).trans boot_three.1⟩
    · exact ⟨hfree _ (by decide +kernel), (T.builtins _ (by decide +kernel)).trans boot_three.2.1⟩
    · exact ⟨hfree _ (by decide +kernel), (T.builtins _ (by decide +kernel)).trans boot_three.2.2⟩
    · have fin : ∀ a d, mg nm = some (.ref a) → FnDef s.heap a d → ∃ a, cx.fas[i]? = some a ∧ mg nm = some (.ref a) ∧ ∃ o fd, s.heap.get? a = some o ∧ o.data = .func fd := fun a d h3 h4 => by
        obtain ⟨o, _, _, _, h5, h6, _⟩ := h4
        exact ⟨a, hfas i nm a h1 h3, h3, o, _, h5, h6⟩
      have h1' : fnames[i]? = some nm := h1
      rcases Nat.lt_or_ge i 2 with hi | hi
      · have hi' : i = 0 ∨ i = 1 := by omega
        rcases hi' with hi' | hi'
        · have e : (if white then ("is_all_white" : Str) else "") = nm := by rw [hi'] at h1'; exact Option.some.inj h1'
          by_cases hw : white = true
          · rw [if_pos hw] at e
            obtain ⟨a, d, h3, h4, _⟩ := hwh hw
            exact fin a d (by rw [← e]; exact h3) h4
          · rw [if_neg hw] at e; exact absurd e.symm h2
        · have e : ("get_indent" : Str) = nm := by rw [hi'] at h1'; exact Option.some.inj h1'
          obtain ⟨a, d, h3, h4, _⟩ := hind
          exact fin a d (by rw [← e]; exact h3) h4
      · obtain ⟨j, rfl⟩ : ∃ j, i = j + 2 := ⟨i - 2, by omega⟩
        obtain ⟨d, f, h3, _⟩ := hfn j nm h1'
        obtain ⟨a, h5, h6⟩ := Top.fnDef T h3
        exact fin a d h5 h6
  have P : ProgOk cx fs := by
    refine ⟨fun nm h1 h2 => ?_, ?_, fun i nm h1 => ?_⟩
    · have e : (if white then ("is_all_white" : Str) else "") = nm := Option.some.inj h1
      by_cases hw : white = true
      · rw [if_pos hw] at e
        obtain ⟨a, d, h3, h4, h5⟩ := hwh hw
        exact ⟨a, d, hfas 0 nm a h1 (by rw [← e]; exact h3), h4, h5⟩
      · rw [if_neg hw] at e; exact absurd e.symm h2
    · obtain ⟨a, d, h3, h4, h5⟩ := hind
      exact ⟨a, d, hfas 1 _ a rfl h3, h4, h5⟩
    · have h1' : names[i]? = some nm := h1
      obtain ⟨d, f, h3, h4, h5⟩ := hfn i nm h1'
      obtain ⟨a, h6, h7⟩ := Top.fnDef T h3
      exact ⟨a, d, f, hfas (i + 2) nm a h1 h6, h7, h4, h5⟩
  have F := all_ok G P N
  obtain ⟨fr, hphi⟩ := pure
  have hnm' : fnames[k + 2]? = some nm := by simpa [fnames] using hnm
  have hne : nm ≠ "" := fun e => by
    have h1 := ok.ne
    rw [List.contains_iff_mem.mpr (e ▸ List.mem_of_getElem? hnm)] at h1
    cases h1
  have hobj : ∃ us : List Value, s.heap.get? L = some { cls := .type "list", data := .seq us.toArray } := by
    have hW' : Well w.params s.heap (.ref L) (.list (ofPys (xs.map PyData.int))) := by
      have e : ofPy (.list (xs.map PyData.int)) = .list (ofPys (xs.map PyData.int)) := by simp [ofPy]
      rw [← e]; exact hW
    cases hW' with
    | list h1 _ => exact ⟨_, h1⟩
  obtain ⟨us, hus⟩ := hobj
  have huv : us.toArray = vs.toArray := by
    obtain ⟨o, h1, h2, n, h3⟩ := hL
    rw [hus] at h1; cases h1; cases h3; rfl
  have hpl : s.heap.PlainList L vs.toArray := ⟨_, by rw [hus, huv]⟩
  have hl2 := hI.length
  have hrep : RepAll (fun _ => False) s.heap [.ref L] [.list (xs.map .int)] := .cons (Rep.mk_list (fun h => h) hpl (by show vs.length ≤ 16777216; omega) (ints_rep hI)) .nil
  refine enter_call (codeAny_mono (F (k + 2) a nm _ _ fr hnm' hne (hfas (k + 2) nm a hnm' ha) hphi callerA s (fun _ => False) [.ref L] ⟨rfl, ?_, ?_⟩ (fun _ _ e => e) (fun _ h => h.elim) hrep) fun r s' hr => ?_)
  · show 1 + claimMargin + N < recursionLimit
    have : recursionLimit = 1000 := rfl
    have : claimMargin = 300 := rfl
    omega
  · show 4 + 4 * N + 40 < cLine
    have : cLine = 9900 := rfl
    omega
  · obtain ⟨v, rfl, g, rep, _⟩ := hr
    cases rep
    exact GoodW.toG ⟨.inl ⟨_, .bool true, [], rfl, hraise, .bool true, hpost, fun _ => ⟨List.nodup_nil, fun a h => by cases h⟩⟩, g.keep, g.os, g.gens.trans hg⟩
end Mine
end
/-! Q1 -/
section
open PySem
set_option linter.unusedSimpArgs false
set_option linter.unusedVariables false
namespace Mine

/-! ## rules for loops, in plain Lean -/
theorem forF_rule {put : D → List Slot → Option (List Slot)} {body : List Slot → Option (List Slot × Fl)} (I : List D → List Slot → Prop) (Q : List Slot → Fl → Prop)
    (hstep : ∀ d ds ρ, I (d :: ds) ρ → ∃ ρ₁, put d ρ = some ρ₁ ∧ ((∃ ρ', (body ρ₁ = some (ρ', .next) ∨ body ρ₁ = some (ρ', .cont)) ∧ I ds ρ') ∨ (∃ ρ', body ρ₁ = some (ρ', .brk) ∧ Q ρ' .next) ∨ ∃ ρ' d f, body ρ₁ = some (ρ', .ret d f) ∧ Q ρ' (.ret d f)))
    (hend : ∀ ρ, I [] ρ → Q ρ .next) : ∀ ds ρ, I ds ρ → ∃ ρ' fl, forF put body ds ρ = some (ρ', fl) ∧ Q ρ' fl
  | [], ρ, h => ⟨ρ, .next, rfl, hend ρ h⟩
  | d :: ds, ρ, h => by
    obtain ⟨ρ₁, hp, h⟩ := hstep d ds ρ h
    rcases h with ⟨ρ', hb, hI⟩ | ⟨ρ', hb, hQ⟩ | ⟨ρ', d', f, hb, hQ⟩
    · obtain ⟨ρ₂, fl, h1, h2⟩ := forF_rule I Q hstep hend ds ρ' hI
      refine ⟨ρ₂, fl, ?_, h2⟩
      rcases hb with hb | hb <;> simp [forF, hp, hb, h1]
    · exact ⟨ρ', .next, by simp [forF, hp, hb], hQ⟩
    · exact ⟨ρ', .ret d' f, by simp [forF, hp, hb], hQ⟩

/-- the plain one: no break, no return -/
theorem forF_plain {put : D → List Slot → Option (List Slot)} {body : List Slot → Option (List Slot × Fl)} (I : List D → List Slot → Prop)
    (hstep : ∀ d ds ρ, I (d :: ds) ρ → ∃ ρ₁ ρ', put d ρ = some ρ₁ ∧ (body ρ₁ = some (ρ', .next) ∨ body ρ₁ = some (ρ', .cont)) ∧ I ds ρ') (ds : List D) (ρ : List Slot) (h : I ds ρ) : ∃ ρ', forF put body ds ρ = some (ρ', .next) ∧ I [] ρ' := by
  obtain ⟨ρ', fl, h1, h2⟩ := forF_rule I (fun ρ' fl => fl = .next ∧ I [] ρ') (fun d ds ρ h => by obtain ⟨ρ₁, ρ', h1, h2, h3⟩ := hstep d ds ρ h; exact ⟨ρ₁, h1, .inl ⟨ρ', h2, h3⟩⟩) (fun ρ h => ⟨rfl, h⟩) ds ρ h
  obtain ⟨rfl, h2⟩ := h2
  exact ⟨ρ', h1, h2⟩

theorem ex_seq {Φ : Funs} {a b : C} {ρ ρ₁ : List Slot} (h : ex Φ a ρ = some (ρ₁, .next)) : ex Φ (.seq a b) ρ = ex Φ b ρ₁ := by
  simp [ex, h]

/-! ## small facts -/
theorem place_nat {n i : Nat} (h : i < n) : place? (i : Int) n = some i := by
  unfold place?
  rw [if_pos (by omega), if_pos (by omega)]
  simp
theorem place_int {n : Nat} {i : Int} (h0 : 0 ≤ i) (h : i < n) : place? i n = some i.toNat := by
  unfold place?
  rw [if_pos h0, if_pos h]
theorem cut_nat {α : Type} (l : List α) (a b : Nat) : cut l (some (a : Int)) (some (b : Int)) = (l.drop a).take (b - a) := by
  unfold cut clip
  simp only [Option.elim]
  rw [if_neg (by omega), if_neg (by omega)]
  simp only [Int.toNat_natCast]
  apply List.ext_getElem?
  intro i
  simp only [List.getElem?_take, List.getElem?_drop]
  by_cases hx : min a l.length + i < l.length
  · have e : min a l.length = a := by omega
    rw [e] at *
    by_cases h2 : i < b - a
    · rw [if_pos h2, if_pos (by omega)]
    · rw [if_neg h2, if_neg (by omega)]
  · rw [List.getElem?_eq_none (by omega : l.length ≤ min a l.length + i), List.getElem?_eq_none (by omega : l.length ≤ a + i)]
    simp
theorem cut_to {α : Type} (l : List α) (b : Nat) : cut l none (some (b : Int)) = l.take b := by
  unfold cut clip
  simp only [Option.elim]
  rw [if_neg (by omega)]
  simp only [Int.toNat_natCast, List.drop_zero, Nat.sub_zero]
  rcases Nat.lt_or_ge b l.length with h | h
  · rw [show min b l.length = b from by omega]
  · rw [show min b l.length = l.length from by omega, List.take_of_length_le h, List.take_of_length_le (Nat.le_refl _)]
theorem small_int {i : Int} (h0 : -1000000 ≤ i) (h1 : i ≤ 1000000) : small i = true := by
  unfold small
  simp only [decide_eq_true_eq]
  omega
theorem ex_for1 {Φ : Funs} {x : Nat} {src : Src} {b : C} {ρ : List Slot} {ds : List D} (h : srcD Φ (freeze (srcVars src) ρ) src = some ds) : ex Φ (.for1 x src b) ρ = forF (put1 x) (ex Φ b) ds (freeze (srcVars src) ρ) := by
  simp [ex, h]
theorem fn_range1 {b : Int} (h : small b = true) : fnD .range [.int b] = some (.range 0 b 1) := by
  simp only [fnD, h, if_true]
theorem fn_range2 {a b : Int} (ha : small a = true) (h : small b = true) : fnD .range [.int a, .int b] = some (.range a b 1) := by
  simp only [fnD, ha, h, Bool.and_self, if_true]
theorem items_range (a b : Int) : itemsD (.range a b 1) = some ((rangeD a b 1).map .int) := by
  simp [itemsD]

/-! `fnD` is never unfolded beside a bound: these say it -/
theorem fn_len_str (xs : List Nat) : fnD .len [.str xs] = some (.int xs.length) := rfl
theorem fn_chr {i : Int} (h0 : 0 ≤ i) (h1 : i < 1114112) : fnD .chr [.int i] = some (.str [i.toNat]) := by simp only [fnD]; rw [if_pos ⟨h0, by omega⟩]
theorem src_ev {Φ : Funs} {ρ : List Slot} {z : E} {d : D} {ds : List D} (h : ev Φ ρ [] z = some d) (hi : itemsD d = some ds) : srcD Φ ρ (.e z) = some ds := by
  show (ev Φ ρ [] z).bind itemsD = _
  rw [h, Option.bind_some, hi]

theorem add_int (a b : Int) : binD .add (.int a) (.int b) = some (.int (a + b)) := rfl
theorem add_str {a b : List Nat} (h : a.length + b.length ≤ LIM) : binD .add (.str a) (.str b) = some (.str (a ++ b)) := by simp only [binD, h, if_true]
theorem add_list {a b : List D} (h : a.length + b.length ≤ LIM) : binD .add (.list a) (.list b) = some (.list (a ++ b)) := by simp only [binD, h, if_true]
end Mine
end
/-! Q01 -/
section
open PySem
set_option linter.unusedSimpArgs false
set_option linter.unusedVariables false
namespace Mine
/-- _law_signs(script); the slots: 0 script, 1 others, 2 signs, 3 x, 4 more, 5 kinds -/
noncomputable def l_law_signs_1 : C :=
  (.seq (.assign 4 (.bin .fdiv (.var 3) (.const (.int 8))))
  (.seq (.assign 5 (.list (.cons (.const (.str [32])) (.cons (.const (.str [9])) (.cons (.const (.str [32])) (.cons (.const (.str [9])) (.cons (.const (.str [10])) (.cons (.fn .chr (.cons (.idx (.var 1) (.bin .mod (.bin .add (.var 4) (.const (.int 1))) (.const (.int 27)))) .nil)) (.cons (.fn .chr (.cons (.bin .mod (.var 4) (.const (.int 1114112))) .nil)) (.cons (.const (.str [35])) .nil))))))))))
  (.seq (.assign 2 (.bin .add (.var 2) (.idx (.var 5) (.bin .mod (.var 3) (.const (.int 8))))))
  .skip)))
noncomputable def b_law_signs : C :=
  (.seq (.assign 1 (.list (.cons (.const (.int 10)) (.cons (.const (.int 11)) (.cons (.const (.int 12)) (.cons (.const (.int 13)) (.cons (.const (.int 28)) (.cons (.const (.int 29)) (.cons (.const (.int 30)) (.cons (.const (.int 31)) (.cons (.const (.int 133)) (.cons (.const (.int 160)) (.cons (.const (.int 5760)) (.cons (.const (.int 8232)) (.cons (.const (.int 8233)) (.cons (.const (.int 8239)) (.cons (.const (.int 8287)) (.cons (.const (.int 12288)) .nil))))))))))))))))))
  (.seq (.assign 1 (.bin .add (.var 1) (.fn .list (.cons (.fn .range (.cons (.const (.int 8192)) (.cons (.const (.int 8203)) .nil))) .nil))))
  (.seq (.assign 2 (.const (.str [])))
  (.seq (.for1 3 (.e (.var 0)) l_law_signs_1)
  (.seq (.retv 2)
  .skip)))))
noncomputable def f_law_signs : Fun := ⟨1, 6, b_law_signs⟩
/-- _law_runs(signs); the slots: 0 signs, 1 runs, 2 sign -/
noncomputable def l_law_runs_1 : C :=
  (.seq (.assign 1 (.bin .add (.list (.cons (.ite (.bools false (.cons (.cmp .eq (.var 2) (.const (.str [32]))) (.cons (.cmp .eq (.var 2) (.const (.str [9]))) .nil))) (.bin .add (.idx (.var 1) (.const (.int 0))) (.const (.int 1))) (.const (.int 0))) .nil)) (.var 1)))
  .skip)
noncomputable def b_law_runs : C :=
  (.seq (.assign 1 (.list (.cons (.const (.int 0)) .nil)))
  (.seq (.for1 2 (.rev (.var 0)) l_law_runs_1)
  (.seq (.retv 1)
  .skip)))
noncomputable def f_law_runs : Fun := ⟨1, 3, b_law_runs⟩
/-- law(script); the slots: 0 script, 1 signs, 2 runs, 3 i, 4 j -/
noncomputable def l_law_1 : C :=
  (.seq (.ite (.cmp .ne (.ucall 1 (.cons (.slice (.var 1) (.var 3) (.var 4)) .nil)) (.slice (.var 1) (.var 3) (.fn .min (.cons (.var 4) (.cons (.bin .add (.var 3) (.idx (.var 2) (.var 3))) .nil)))))
   (.seq (.ret (.const (.bool false)))
   .skip)
   .skip)
  .skip)
noncomputable def l_law_2 : C :=
  (.seq (.for1 4 (.e (.fn .range (.cons (.var 3) (.cons (.bin .add (.fn .len (.cons (.var 1) .nil)) (.const (.int 1))) .nil)))) l_law_1)
  .skip)
noncomputable def b_law : C :=
  (.seq (.assign 1 (.ucall 2 (.cons (.bools false (.cons (.slice (.var 0) (.const .none) (.const (.int 16))) (.cons (.list (.cons (.const (.int 0)) (.cons (.const (.int 1)) (.cons (.const (.int 7)) (.cons (.const (.int 2)) (.cons (.const (.int 2)) (.cons (.const (.int 4)) (.cons (.const (.int 3)) .nil)))))))) .nil))) .nil)))
  (.seq (.assign 2 (.ucall 3 (.cons (.var 1) .nil)))
  (.seq (.for1 3 (.e (.fn .range (.cons (.bin .add (.fn .len (.cons (.var 1) .nil)) (.const (.int 1))) .nil))) l_law_2)
  (.seq (.ret (.const (.bool true)))
  .skip))))
noncomputable def f_law : Fun := ⟨1, 5, b_law⟩
noncomputable def lawFs : List Fun := [f_law_signs, f_law_runs, f_law]
noncomputable def lawNames : List Str := ["_law_signs", "_law_runs", "law"]

/-! ## the signs -/
noncomputable def others1 : List Int := [10, 11, 12, 13, 28, 29, 30, 31, 133, 160, 5760, 8232, 8233, 8239, 8287, 12288, 8192, 8193, 8194, 8195, 8196, 8197, 8198, 8199, 8200, 8201, 8202]
noncomputable def kinds1 (x : Int) : List Nat := [32, 9, 32, 9, 10, (others1[((x / 8 + 1) % 27).toNat]?.getD 0).toNat, (x / 8 % 1114112).toNat, 35]
noncomputable def sgn1 (x : Int) : Nat := (kinds1 x)[(x % 8).toNat]?.getD 0

theorem others_at (n : Int) (h0 : 0 ≤ n) (h1 : n < 27) : ∃ c : Int, others1[n.toNat]? = some c ∧ 0 ≤ c ∧ c < 1114112 := by
  have h : ∀ k : Fin 27, ∃ c : Int, others1[k.1]? = some c ∧ 0 ≤ c ∧ c < 1114112 := by
    intro k
    have hk : k.1 < others1.length := k.2
    refine ⟨others1[k.1], List.getElem?_eq_getElem hk, ?_⟩
    revert k
    decide
  exact h ⟨n.toNat, by omega⟩
theorem map_get {α β : Type} (f : α → β) (l : List α) (i : Nat) (a : α) (h : l[i]? = some a) : (l.map f)[i]? = some (f a) := by simp [h]

set_option maxHeartbeats 4000000 in
theorem signs_run (Φ : Funs) (xs : List Int) (h : xs.length ≤ 1000) : runF Φ f_law_signs [.list (xs.map .int)] = some (.str (xs.map sgn1), false) := by
  have hL : LIM = 16777216 := rfl
  let I : List D → List Slot → Prop := fun ds ρ => ∃ (ys zs : List Int) (a b c : Slot), xs = ys ++ zs ∧ ds = zs.map .int ∧ ρ = [.val (.list (xs.map .int)), .own (others1.map .int), .val (.str (ys.map sgn1)), a, b, c]
  have hstep : ∀ d ds ρ, I (d :: ds) ρ → ∃ ρ₁ ρ', put1 3 d ρ = some ρ₁ ∧ (ex Φ l_law_signs_1 ρ₁ = some (ρ', .next) ∨ ex Φ l_law_signs_1 ρ₁ = some (ρ', .cont)) ∧ I ds ρ' := by
    rintro d ds ρ ⟨ys, zs, a, b, c, e1, e2, rfl⟩
    cases zs with
    | nil => cases e2
    | cons z zs =>
      simp at e2
      obtain ⟨rfl, rfl⟩ := e2
      have hlen : ys.length < 1000 := by rw [e1] at h; simp at h; omega
      obtain ⟨o, ho, ho0, ho'⟩ := others_at ((z / 8 + 1) % 27) (by omega) (by omega)
      have hp : place? ((z / 8 + 1) % 27) others1.length = some ((z / 8 + 1) % 27).toNat := place_int (by omega) (by simp [others1]; omega)
      have hm0 : 0 ≤ z % 8 := by omega
      have hm1 : z % 8 < 8 := by omega
      have hk : (kinds1 z)[(z % 8).toNat]? = some (sgn1 z) := by
        have : (z % 8).toNat < (kinds1 z).length := by simp [kinds1]; omega
        simp [sgn1, this]
      have hp8 : place? (z % 8) 8 = some (z % 8).toNat := place_int hm0 (by omega)
      have hkd : ([D.str [32], .str [9], .str [32], .str [9], .str [10], .str [o.toNat], .str [(z / 8 % 1114112).toNat], .str [35]] : List D)[(z % 8).toNat]? = some (.str [sgn1 z]) := by
        have := map_get (fun n : Nat => D.str [n]) _ _ _ hk
        simpa [kinds1, ho] using this
      have h0 : 0 ≤ z / 8 % 1114112 := by omega
      have h1 : z / 8 % 1114112 < 1114112 := by omega
      have hle : ys.length + 1 ≤ 16777216 := by omega
      refine ⟨[.val (.list (xs.map .int)), .own (others1.map .int), .val (.str (ys.map sgn1)), .val (.int z), b, c], [.val (.list (xs.map .int)), .own (others1.map .int), .val (.str ((ys ++ [z]).map sgn1)), .val (.int z), .val (.int (z / 8)), .own [D.str [32], .str [9], .str [32], .str [9], .str [10], .str [o.toNat], .str [(z / 8 % 1114112).toNat], .str [35]]], by simp [put1], .inl ?_, ys ++ [z], zs, _, _, _, by simp [e1], rfl, rfl⟩
      simp [l_law_signs_1, ex, ev, evs, binD, freeze, aliased, slotOf, newE, strong, isOwn, hL, idxD, hp, ho, ho0, fn_chr ho0 ho', fn_chr h0 h1, hp8, hkd, freeze1, hle]
  obtain ⟨ρ', h1, ys, zs, a, b, c, e1, e2, rfl⟩ := forF_plain (put := put1 3) (body := ex Φ l_law_signs_1) I hstep (xs.map .int) [.val (.list (xs.map .int)), .own (others1.map .int), .val (.str []), .unset, .unset, .unset] ⟨[], xs, _, _, _, rfl, rfl, rfl⟩
  have e2 : zs = [] := by simpa using e2.symm
  subst e2
  simp at e1
  subst e1
  have hr : rangeD 8192 8203 1 = [8192, 8193, 8194, 8195, 8196, 8197, 8198, 8199, 8200, 8201, 8202] := by decide
  simp [others1] at h1
  simp [runF, f_law_signs, b_law_signs, ex, ev, evs, binD, freeze, aliased, slotOf, newE, strong, isOwn, fnD, small, hr, hL, List.replicate, srcVars, srcD, itemsD, freeze1, h1]


/-! ## the runs -/
noncomputable def runs1 : List Nat → List Int
  | [] => [0]
  | c :: r => (if c = 32 ∨ c = 9 then (runs1 r).headD 0 + 1 else 0) :: runs1 r
theorem runs1_ne (s : List Nat) : ∃ x l, runs1 s = x :: l := by cases s <;> exact ⟨_, _, rfl⟩
theorem runs1_len (s : List Nat) : (runs1 s).length = s.length + 1 := by
  induction s with
  | nil => rfl
  | cons c r ih => simp [runs1, ih]
theorem runs_run (Φ : Funs) (s : List Nat) (h : s.length ≤ 1000) : ∃ fr, runF Φ f_law_runs [.str s] = some (.list ((runs1 s).map .int), fr) := by
  have hL : LIM = 16777216 := rfl
  let I : List D → List Slot → Prop := fun ds ρ => ∃ (ys zs : List Nat) (a : Slot), s = ys ++ zs ∧ ds = ys.reverse.map (fun c => .str [c]) ∧ ρ = [.val (.str s), .own ((runs1 zs).map .int), a]
  have hstep : ∀ d ds ρ, I (d :: ds) ρ → ∃ ρ₁ ρ', put1 2 d ρ = some ρ₁ ∧ (ex Φ l_law_runs_1 ρ₁ = some (ρ', .next) ∨ ex Φ l_law_runs_1 ρ₁ = some (ρ', .cont)) ∧ I ds ρ' := by
    rintro d ds ρ ⟨ys, zs, a, e1, e2, rfl⟩
    rcases List.eq_nil_or_concat ys with rfl | ⟨ys, y, rfl⟩
    · cases e2
    · simp at e2
      obtain ⟨rfl, rfl⟩ := e2
      obtain ⟨x, l, hx⟩ := runs1_ne zs
      have hlen := runs1_len zs
      have hl2 : ys.length + 1 + zs.length = s.length := by rw [e1]; simp; omega
      have hc : l.length + 1 + 1 ≤ 16777216 := by rw [hx] at hlen; simp at hlen; omega
      refine ⟨[.val (.str s), .own ((runs1 zs).map .int), .val (.str [y])], [.val (.str s), .own ((runs1 (y :: zs)).map .int), .val (.str [y])], by simp [put1], .inl ?_, ys, y :: zs, _, by simp [e1], by simp, rfl⟩
      have hp : place? 0 (l.length + 1) = some 0 := by have := place_nat (n := l.length + 1) (i := 0) (by omega); simpa using this
      rw [show runs1 (y :: zs) = (if y = 32 ∨ y = 9 then x + 1 else 0) :: runs1 zs from by simp [runs1, hx], hx]
      by_cases h32 : y = 32
      · simp [l_law_runs_1, ex, ev, evs, evB, binD, freeze, aliased, slotOf, newE, strong, isOwn, hL, idxD, freeze1, cmpD, eqS, truthD, hp, h32, show 1 + (l.length + 1) ≤ 16777216 from by omega]
      · by_cases h9 : y = 9
        · simp [l_law_runs_1, ex, ev, evs, evB, binD, freeze, aliased, slotOf, newE, strong, isOwn, hL, idxD, freeze1, cmpD, eqS, truthD, hp, h9, show 1 + (l.length + 1) ≤ 16777216 from by omega]
        · simp [l_law_runs_1, ex, ev, evs, evB, binD, freeze, aliased, slotOf, newE, strong, isOwn, hL, idxD, freeze1, cmpD, eqS, truthD, hp, h9, h32, show 1 + (l.length + 1) ≤ 16777216 from by omega]
  obtain ⟨ρ', h1, ys, zs, a, e1, e2, rfl⟩ := forF_plain (put := put1 2) (body := ex Φ l_law_runs_1) I hstep (s.reverse.map fun c => .str [c]) [.val (.str s), .own ((runs1 []).map .int), .unset] ⟨s, [], _, by simp, rfl, rfl⟩
  have e2 : ys = [] := by simpa using e2.symm
  subst e2
  simp at e1
  subst e1
  simp only [runs1, List.map_cons, List.map_nil] at h1
  refine ⟨true, ?_⟩
  have h1' : ∀ l, l = List.map (fun c => D.str [c]) s.reverse → forF (put1 2) (ex Φ l_law_runs_1) l [Slot.val (D.str s), Slot.own [D.int 0], Slot.unset] = _ := fun l hl => hl ▸ h1
  simp only [List.map_reverse] at h1'
  simp [runF, f_law_runs, b_law_runs, ex, ev, evs, binD, freeze, aliased, slotOf, newE, strong, isOwn, hL, List.replicate, srcVars, srcD, itemsD, freeze1, h1']


/-! ## the law -/
theorem runs1_at : ∀ (s : List Nat) (i : Nat), i ≤ s.length → (runs1 s)[i]? = some ((indentOf (s.drop i)).length : Int)
  | [], 0, _ => rfl
  | c :: r, 0, _ => by
    have ih := runs1_at r 0 (by omega)
    obtain ⟨x, l, hx⟩ := runs1_ne r
    rw [hx] at ih
    simp at ih
    by_cases h : c = 32 ∨ c = 9
    · rcases h with rfl | rfl <;> simp [runs1, indentOf, hx, ih]
    · have h1 : ¬ c = 32 := fun e => h (.inl e)
      have h2 : ¬ c = 9 := fun e => h (.inr e)
      simp [runs1, indentOf, h1, h2]
  | c :: r, i + 1, h => by
    have := runs1_at r i (by simpa using h)
    simpa [runs1] using this
  | [], i + 1, h => by simp at h
theorem takeWhile_take {p : Nat → Bool} : ∀ (l : List Nat) (m : Nat), (l.take m).takeWhile p = l.take (min m (l.takeWhile p).length)
  | [], m => by simp
  | a :: l, 0 => by simp
  | a :: l, m + 1 => by
    simp only [List.take_succ_cons, List.takeWhile_cons]
    split
    · simp only [List.length_cons]
      rw [takeWhile_take l m, show min (m + 1) ((l.takeWhile p).length + 1) = min m (l.takeWhile p).length + 1 from by omega, List.take_succ_cons]
    · simp
theorem range_nat (a b : Nat) : rangeD (a : Int) (b : Int) 1 = (List.range (b - a)).map fun k => ((a + k : Nat) : Int) := by
  unfold rangeD
  rw [if_pos (by omega), show (((b : Int) - a + 1 - 1) / 1).toNat = b - a from by omega]
  apply List.map_congr_left
  intro k _
  push_cast
  omega

theorem inner_run {Φ : Funs} (hΦ1 : ∀ t : List Nat, t.length < 1000000 → Φ 1 [.str t] = some (.str (indentOf t), false)) (sc : D) (s : List Nat) (hs : s.length ≤ 1000) (i : Nat) (hi : i ≤ s.length) (b : Slot) :
    ∃ b', forF (put1 4) (ex Φ l_law_1) ((rangeD i ((s.length : Int) + 1) 1).map .int) [.val sc, .val (.str s), .val (.list ((runs1 s).map .int)), .val (.int i), b] = some ([.val sc, .val (.str s), .val (.list ((runs1 s).map .int)), .val (.int i), b'], .next) := by
  let I : List D → List Slot → Prop := fun ds ρ => ∃ b, (∀ d ∈ ds, ∃ j : Nat, i ≤ j ∧ j ≤ s.length ∧ d = .int j) ∧ ρ = [.val sc, .val (.str s), .val (.list ((runs1 s).map .int)), .val (.int i), b]
  have hstep : ∀ d ds ρ, I (d :: ds) ρ → ∃ ρ₁ ρ', put1 4 d ρ = some ρ₁ ∧ (ex Φ l_law_1 ρ₁ = some (ρ', .next) ∨ ex Φ l_law_1 ρ₁ = some (ρ', .cont)) ∧ I ds ρ' := by
    rintro d ds ρ ⟨b, hd, rfl⟩
    obtain ⟨j, hij, hj, rfl⟩ := hd d (by simp)
    refine ⟨[.val sc, .val (.str s), .val (.list ((runs1 s).map .int)), .val (.int i), .val (.int j)], [.val sc, .val (.str s), .val (.list ((runs1 s).map .int)), .val (.int i), .val (.int j)], by simp [put1], .inl ?_, _, fun d h => hd d (by simp [h]), rfl⟩
    have hr := runs1_at s i hi
    have hp : place? (i : Int) (runs1 s).length = some i := place_nat (by rw [runs1_len]; omega)
    have hlen : (cut s (some (i : Int)) (some (j : Int))).length < 1000000 := by rw [cut_nat]; simp; omega
    have heq : indentOf (cut s (some (i : Int)) (some (j : Int))) = cut s (some (i : Int)) (some (min (j : Int) ((i : Int) + ((indentOf (s.drop i)).length : Int)))) := by
      rw [show (min (j : Int) ((i : Int) + ((indentOf (s.drop i)).length : Int))) = ((min j (i + (indentOf (s.drop i)).length) : Nat) : Int) from by omega, cut_nat, cut_nat]
      unfold indentOf
      rw [takeWhile_take]
      congr 1
      omega
    simp [l_law_1, ex, ev, evs, binD, strong, idxD, cmpD, eqS, truthD, sliceD, part?, fnD, hp, hr, hΦ1 _ hlen, heq]
  have hr : ∀ d ∈ (rangeD i ((s.length : Int) + 1) 1).map D.int, ∃ j : Nat, i ≤ j ∧ j ≤ s.length ∧ d = .int j := fun d hd => by
    have := range_nat i (s.length + 1)
    push_cast at this
    rw [this] at hd
    simp at hd
    obtain ⟨k, hk, rfl⟩ := hd
    exact ⟨i + k, by omega, by omega, by push_cast; rfl⟩
  obtain ⟨ρ', h1, b', _, rfl⟩ := forF_plain I hstep ((rangeD i ((s.length : Int) + 1) 1).map .int) _ ⟨b, hr, rfl⟩
  exact ⟨b', h1⟩

theorem law_run {Φ : Funs} (hΦ1 : ∀ t : List Nat, t.length < 1000000 → Φ 1 [.str t] = some (.str (indentOf t), false)) (hΦ2 : ∀ ys : List Int, ys.length ≤ 1000 → Φ 2 [.list (ys.map .int)] = some (.str (ys.map sgn1), false))
    (hΦ3 : ∀ s : List Nat, s.length ≤ 1000 → ∃ fr, Φ 3 [.str s] = some (.list ((runs1 s).map .int), fr)) (xs : List Int) : ∃ fr, runF Φ f_law [.list (xs.map .int)] = some (.bool true, fr) := by
  have hL : LIM = 16777216 := rfl
  obtain ⟨ys, hys, hev⟩ : ∃ ys : List Int, ys.length ≤ 16 ∧ (if (xs.take 16).isEmpty then [0, 1, 7, 2, 2, 4, 3] else xs.take 16) = ys := ⟨_, by split <;> simp <;> omega, rfl⟩
  have e16 : cut (xs.map D.int) none (some 16) = (xs.take 16).map .int := by have := cut_to (xs.map D.int) 16; simpa using this
  obtain ⟨s, hse⟩ : ∃ s, s = ys.map sgn1 := ⟨_, rfl⟩
  have hs : s.length ≤ 1000 := by simp [hse]; omega
  obtain ⟨fr, h3⟩ := hΦ3 s hs
  have h2 := hΦ2 ys (by omega)
  rw [← hse] at h2
  let I : List D → List Slot → Prop := fun ds ρ => ∃ a b, (∀ d ∈ ds, ∃ i : Nat, i ≤ s.length ∧ d = .int i) ∧ ρ = [.val (.list (xs.map .int)), .val (.str s), .val (.list ((runs1 s).map .int)), a, b]
  have hsm : small ((s.length : Int) + 1) = true := small_int (by omega) (by omega)
  have hstep : ∀ d ds ρ, I (d :: ds) ρ → ∃ ρ₁ ρ', put1 3 d ρ = some ρ₁ ∧ (ex Φ l_law_2 ρ₁ = some (ρ', .next) ∨ ex Φ l_law_2 ρ₁ = some (ρ', .cont)) ∧ I ds ρ' := by
    rintro d ds ρ ⟨a, b, hd, rfl⟩
    obtain ⟨i, hi, rfl⟩ := hd d (by simp)
    obtain ⟨b', hb'⟩ := inner_run hΦ1 (.list (xs.map .int)) s hs i hi b
    have hsi : small (i : Int) = true := small_int (by omega) (by omega)
    refine ⟨[.val (.list (xs.map .int)), .val (.str s), .val (.list ((runs1 s).map .int)), .val (.int i), b], [.val (.list (xs.map .int)), .val (.str s), .val (.list ((runs1 s).map .int)), .val (.int i), b'], by simp [put1], .inl ?_, _, _, fun d h => hd d (by simp [h]), rfl⟩
    simp [l_law_2, ex, ev, evs, binD, fn_len_str, fn_range2 hsi hsm, srcVars, aliased, freeze, srcD, items_range, hb']
  have hr : ∀ d ∈ (rangeD 0 ((s.length : Int) + 1) 1).map D.int, ∃ j : Nat, j ≤ s.length ∧ d = .int j := fun d hd => by
    have := range_nat 0 (s.length + 1)
    push_cast at this
    rw [this] at hd
    simp at hd
    obtain ⟨k, hk, rfl⟩ := hd
    exact ⟨k, by omega, rfl⟩
  obtain ⟨ρ', h1, a', b', _, rfl⟩ := forF_plain I hstep ((rangeD 0 ((s.length : Int) + 1) 1).map .int) _ ⟨.unset, .unset, hr, rfl⟩
  refine ⟨false, ?_⟩
  have hb : ex Φ b_law [.val (.list (xs.map .int)), .unset, .unset, .unset, .unset] = some ([.val (.list (xs.map .int)), .val (.str s), .val (.list ((runs1 s).map .int)), a', b'], .ret (.bool true) false) := by
    unfold b_law
    rw [ex_seq (ρ₁ := [.val (.list (xs.map .int)), .val (.str s), .unset, .unset, .unset])]
    rw [ex_seq (ρ₁ := [.val (.list (xs.map .int)), .val (.str s), .val (.list ((runs1 s).map .int)), .unset, .unset])]
    rw [ex_seq (ρ₁ := [.val (.list (xs.map .int)), .val (.str s), .val (.list ((runs1 s).map .int)), a', b'])]
    · simp [ex, ev, freeze, aliased, newE]
    · rw [ex_for1 (ds := (rangeD 0 ((s.length : Int) + 1) 1).map .int)]
      · exact h1
      · exact src_ev (d := .range 0 ((s.length : Int) + 1) 1) (by simp [ev, evs, srcVars, aliased, freeze, binD, fn_len_str, fn_range1 hsm]) (items_range _ _)
    · simp [ex, ev, evs, freeze, aliased, strong, isOwn, h3, slotOf, newE]
    · cases hx : xs.take 16 with
      | nil =>
        rw [hx] at hev e16
        simp at hev
        subst hev
        simp at h2 e16
        simp [ex, ev, evs, evB, freeze, aliased, slotOf, newE, strong, isOwn, hL, sliceD, part?, e16, truthD, h2]
      | cons y r =>
        rw [hx] at hev e16
        simp at hev
        subst hev
        simp at h2 e16
        simp [ex, ev, evs, evB, freeze, aliased, slotOf, newE, strong, isOwn, hL, sliceD, part?, e16, truthD, h2]
  simp [runF, f_law, List.replicate, hb]

theorem law_pure (xs : List Int) : ∃ fr, Phi lawFs 8 (2 + 2) [.list (xs.map .int)] = some (.bool true, fr) := by
  have h : Phi lawFs 8 (2 + 2) [.list (xs.map .int)] = runF (Phi lawFs 7) f_law [.list (xs.map .int)] := rfl
  rw [h]
  refine law_run (fun t ht => ?_) (fun ys hy => ?_) (fun s hs => ?_) xs
  · show (if t.length < 1000000 then _ else _) = _
    rw [if_pos ht]
  · exact signs_run _ ys hy
  · exact runs_run _ s hs
end Mine
end
open PySem PySem.W PyProof.Rows Mine
set_option maxRecDepth 100000 in
set_option maxHeartbeats 8000000 in
theorem PySem.Challenge.cw_dm0160_01_holds : PySem.Challenge.rw_dm0160_01.Holds := by
  w_on
  o_law
  k_head
  case hw => w_witness2
  intro w s₀ s₁ mg mb G Y fa o pm cd doc dV kV ho hd hcd hD hmg hg args vals as hpre hlay hrd hwl hlo
  have KX := kIn_of Y
  refine Ground.open G ?_
  intro T B D TE TW
  wrow_args hpre hlay hrd hwl hlo
  refine walk_core (white := false) (names := lawNames) (fs := lawFs) (k := 2) (N := 8) (nm := "law") T ?ok (fun h => nomatch h) (fun h => nomatch h) ?p3 ?hn hmg (by decide) (by assumption) (by assumption) (by assumption) (by omega) (law_pure _) hg ?hra ?hpo
  case ok => exact ⟨by kernel_rfl, (fun h => nomatch h), by kernel_rfl, by kernel_rfl, by kernel_rfl⟩
  case hn => kernel_rfl
  case hra => exact fun _ => rfl
  case hpo => kernel_rfl
  case p3 =>
    refine ⟨36, mg_of KX T.g (by kernel_rfl), ?_⟩
    exact ⟨_, _, _, _, 35, 0, KX 36 _ (by with_unfolding_all rfl), KX 35 _ (by kernel_rfl)⟩
