import PyProof.Rows.All
import Wide.All
import OpenK.AllK
import Wide.FinOn
import PySem.Challenge.RW_rw0081_03
set_option Elab.async false
set_option genInjectivity false
set_option genSizeOf false
set_option genSizeOfSpec false
section
open PySem PySem.W PyProof.Rows
namespace Mine

/-- pure values: data, a range, or a list that its frame may still change -/
inductive V where
  | d (x : PyData)
  | r (a b c : Int)
  | o (xs : List PyData)

inductive Slot where
  | un
  | sh (v : V)
  | ow (xs : List PyData)

noncomputable abbrev Ev := List Slot

noncomputable def slotV : Slot → Option V
  | .un => none
  | .sh v => some v
  | .ow xs => some (.o xs)
noncomputable def slotO : Slot → Option (List PyData)
  | .ow xs => some xs
  | _ => none
noncomputable def rd (ρ : Ev) (i : Nat) : Option V := ρ[i]?.bind slotV
noncomputable def ow? (ρ : Ev) (i : Nat) : Option (List PyData) := ρ[i]?.bind slotO

noncomputable def V.fz : V → V
  | .o xs => .d (.list xs)
  | v => v
noncomputable def V.own : V → Bool
  | .o _ => true
  | _ => false

noncomputable def fit (i : Int) : Bool := decide (i.natAbs < 2 ^ 3000)
noncomputable def szOk (n : Nat) : Bool := decide (n ≤ 2 ^ 20)

noncomputable def toD : V → Option PyData
  | .d x => some x
  | _ => none

noncomputable def dStr : PyData → Option Str
  | .str x => some x
  | _ => none
noncomputable def dInt : PyData → Option Int
  | .int x => some x
  | _ => none
noncomputable def dLst : PyData → Option (List PyData)
  | .list x => some x
  | _ => none
noncomputable def asStr (v : V) : Option Str := (toD v).bind dStr
noncomputable def asInt (v : V) : Option Int := (toD v).bind dInt
noncomputable def asLst (v : V) : Option (List PyData) := (toD v).bind dLst
theorem vd_inj {x y : PyData} (h : V.d x = V.d y) : x = y := Option.some.inj (congrArg toD h)
theorem dStr_eq {d : PyData} {x : Str} (h : dStr d = some x) : d = .str x := by cases d <;> first | (cases h; rfl) | cases h
theorem dInt_eq {d : PyData} {x : Int} (h : dInt d = some x) : d = .int x := by cases d <;> first | (cases h; rfl) | cases h
theorem dLst_eq {d : PyData} {x : List PyData} (h : dLst d = some x) : d = .list x := by cases d <;> first | (cases h; rfl) | cases h
theorem toD_eq {v : V} {d : PyData} (h : toD v = some d) : v = .d d := by cases v <;> first | (cases h; rfl) | cases h
theorem b_inv {α β : Type} {o : Option α} {f : α → Option β} {b : β} (h : o.bind f = some b) : ∃ a, o = some a ∧ f a = some b := Option.bind_eq_some_iff.mp h
theorem b_of {α β : Type} {o : Option α} {f : α → Option β} {a : α} {r : Option β} (h : o = some a) (k : f a = r) : o.bind f = r := by rw [h]; exact k
theorem if_inv {α : Type} {c : Prop} [Decidable c] {x r : α} (h : (if c then some x else none) = some r) : c ∧ x = r := by
  by_cases q : c
  · rw [if_pos q] at h; cases h; exact ⟨q, rfl⟩
  · rw [if_neg q] at h; cases h
theorem ib_inv {α : Type} {c : Prop} [Decidable c] {o : Option α} {b : α} (h : (if c then o else none) = some b) : c ∧ o = some b := by
  by_cases q : c
  · rw [if_pos q] at h; exact ⟨q, h⟩
  · rw [if_neg q] at h; cases h
theorem ow_eq {ρ : Ev} {i : Nat} {xs : List PyData} (h : ow? ρ i = some xs) : ρ[i]? = some (.ow xs) := by
  obtain ⟨a, h1, h2⟩ := b_inv h
  rw [h1]; cases a <;> cases h2; rfl
theorem ow_of {ρ : Ev} {i : Nat} {xs : List PyData} (h : ρ[i]? = some (.ow xs)) : ow? ρ i = some xs := b_of h rfl
theorem asStr_eq {v : V} {x : Str} (h : asStr v = some x) : v = .d (.str x) := by
  obtain ⟨d, h1, h2⟩ := Option.bind_eq_some_iff.mp h
  rw [toD_eq h1, dStr_eq h2]
theorem asInt_eq {v : V} {x : Int} (h : asInt v = some x) : v = .d (.int x) := by
  obtain ⟨d, h1, h2⟩ := Option.bind_eq_some_iff.mp h
  rw [toD_eq h1, dInt_eq h2]
theorem asLst_eq {v : V} {x : List PyData} (h : asLst v = some x) : v = .d (.list x) := by
  obtain ⟨d, h1, h2⟩ := Option.bind_eq_some_iff.mp h
  rw [toD_eq h1, dLst_eq h2]
noncomputable def dtruth : PyData → Option Bool
  | .none => some false
  | .bool b => some b
  | .int i => some (i != 0)
  | .str x => if szOk x.length then some (x.length != 0) else none
  | .list xs => if szOk xs.length then some (!xs.isEmpty) else none
  | _ => none
noncomputable def vtruth (v : V) : Option Bool := (toD v).bind dtruth

noncomputable def ibin : Operator → Int → Int → Option Int
  | .Add, a, b => some (a + b)
  | .Sub, a, b => some (a - b)
  | .Mult, a, b => if fit a && fit b then some (a * b) else none
  | .FloorDiv, a, b => if b != 0 && fit b then some (a.fdiv b) else none
  | .Mod, a, b => if b != 0 && fit b then some (a.fmod b) else none
  | .Pow, a, n => if fit a && decide (0 ≤ n) && decide (n ≤ 1000) then some (a ^ n.toNat) else none
  | .LShift, a, n => if fit a && decide (0 ≤ n) && decide (n ≤ 8000) then some (a * 2 ^ n.toNat) else none
  | .RShift, a, n => if decide (0 ≤ n) then some (a.fdiv (2 ^ n.toNat)) else none
  | .BitAnd, a, b => some (Builtin.bitAnd a b)
  | .BitOr, a, b => some (Builtin.bitOr a b)
  | .BitXor, a, b => some (Builtin.bitXor a b)
  | _, _, _ => none

noncomputable def strBin (op : Operator) (a b : Str) : Option V := match op with
  | .Add => if szOk (a.length + b.length) then some (.d (.str (a ++ b))) else none
  | _ => none
noncomputable def lstBin (op : Operator) (a : List PyData) (y : PyData) : Option V := match op with
  | .Add => (dLst y).bind fun b => if szOk (a.length + b.length) then some (.d (.list (a ++ b))) else none
  | .Mult => (dInt y).bind fun n => if decide (0 ≤ n) && szOk n.toNat && szOk (a.length * n.toNat) then some (.d (.list (List.replicate n.toNat a).flatten)) else none
  | _ => none
noncomputable def dbin (op : Operator) (x y : PyData) : Option V := match x with
  | .int a => (dInt y).bind fun b => (ibin op a b).bind fun c => some (.d (.int c))
  | .str a => (dStr y).bind fun b => strBin op a b
  | .list a => lstBin op a y
  | _ => none
noncomputable def vbin (op : Operator) (x y : V) : Option V := (toD x).bind fun a => (toD y).bind fun b => dbin op a b

noncomputable def vun : UnaryOp → V → Option V
  | .USub, v => (asInt v).bind fun a => some (.d (.int (-a)))
  | .Invert, v => (asInt v).bind fun a => some (.d (.int (Builtin.bitNot a)))
  | .Not, v => (vtruth v).bind fun b => some (.d (.bool (!b)))
  | .UAdd, _ => none

noncomputable def isOne : PyData → Bool
  | .none => true
  | .bool _ => true
  | _ => false

noncomputable def shp (d : PyData) : Bool := SeqAt.shaped d

noncomputable def strIn (y x : Str) : Bool := !(Builtin.Str.occurrences x y 0 x.length 1).isEmpty

noncomputable def int2 (x y : PyData) (f : Int → Int → Bool) : Option Bool := (dInt x).bind fun a => (dInt y).bind fun b => some (f a b)
noncomputable def dBool : PyData → Option Bool
  | .bool b => some b
  | _ => none
noncomputable def isNo : PyData → Bool
  | .none => true
  | _ => false
noncomputable def sameOne (x y : PyData) : Bool := match x with
  | .none => isNo y
  | .bool a => dBool y == some a
  | _ => false

/-- what `is` answers against None or a bool: every other thing is another object -/
noncomputable def isIs (x y : PyData) : Option Bool := if isOne y then some (sameOne x y) else none
noncomputable def inD (x y : PyData) : Option Bool := match y with
  | .str t => (dStr x).bind fun p => some (strIn p t)
  | .list ys => if shp x && ys.all shp then some (ys.any fun z => PyData.eqv z x) else none
  | _ => none
noncomputable def dcmp (op : CmpOp) (x y : PyData) : Option Bool := match op with
  | .Eq => if shp x && shp y then some (PyData.eqv x y) else none
  | .NotEq => if shp x && shp y then some (!PyData.eqv x y) else none
  | .Is => isIs x y
  | .IsNot => (isIs x y).bind fun b => some (!b)
  | .In => inD x y
  | .NotIn => (inD x y).bind fun b => some (!b)
  | .Lt => int2 x y fun a b => decide (a < b)
  | .LtE => int2 x y fun a b => decide (a ≤ b)
  | .Gt => int2 x y fun a b => decide (a > b)
  | .GtE => int2 x y fun a b => decide (a ≥ b)

noncomputable def vcmp (op : CmpOp) (x y : V) : Option V := (toD x).bind fun a => (toD y).bind fun b => (dcmp op a b).bind fun k => some (.d (.bool k))

noncomputable def rangeSz (a b c : Int) : Nat := (Builtin.Range.rangeSize a b c).toNat
noncomputable def rangeL (a b c : Int) : List PyData := (List.range (rangeSz a b c)).map fun (i : Nat) => .int (a + (i : Int) * c)
noncomputable def smallR (a b c : Int) : Bool := Builtin.Range.small a b c && decide (0 ≤ Builtin.Range.rangeSize a b c) && szOk (rangeSz a b c)

noncomputable def dItems : PyData → Option (List PyData)
  | .list xs => if szOk xs.length then some xs else none
  | .tuple xs => if szOk xs.length then some xs else none
  | _ => none
noncomputable def vitems : V → Option (List PyData)
  | .d x => dItems x
  | .r a b c => if smallR a b c then some (rangeL a b c) else none
  | .o _ => none

noncomputable def getIx (xs : List PyData) (i : Int) : Option PyData :=
  if 0 ≤ i ∧ i < 2 ^ 62 then xs[i.toNat]?
  else if i < 0 ∧ -(xs.length : Int) ≤ i ∧ xs.length < 2 ^ 62 then xs[(xs.length + i).toNat]? else none

noncomputable def vlst : V → Option (List PyData)
  | .d (.list xs) => some xs
  | .o xs => some xs
  | _ => none

noncomputable def dItem (x : PyData) (i : Int) : Option V := match x with
  | .list xs => (getIx xs i).bind fun d => some (.d d)
  | .tuple xs => if 0 ≤ i ∧ i < 2 ^ 62 then (xs[i.toNat]?).bind fun d => some (.d d) else none
  | _ => none
noncomputable def vitem (x y : V) : Option V := (asInt y).bind fun i => match x with
  | .d d => dItem d i
  | .o xs => (getIx xs i).bind fun d => some (.d d)
  | .r _ _ _ => none

noncomputable def pickL {α : Type} (xs : List α) (lo hi st : Option Int) : List α :=
  (sliceRange (sliceBounds lo hi st xs.length).1 (sliceBounds lo hi st xs.length).2.1 (sliceBounds lo hi st xs.length).2.2).filterMap (xs[·]?)

noncomputable def lSlice (xs : List PyData) (lo hi st : Option Int) : Option V := if szOk xs.length && st != some 0 then some (.d (.list (pickL xs lo hi st))) else none
noncomputable def dSlice (x : PyData) (lo hi st : Option Int) : Option V := match x with
  | .list xs => lSlice xs lo hi st
  | .str x => if szOk x.length && st == none then some (.d (.str (Txt.slice x lo hi))) else none
  | _ => none
noncomputable def vslice (v : V) (lo hi st : Option Int) : Option V := match v with
  | .d x => dSlice x lo hi st
  | .o xs => lSlice xs lo hi st
  | .r _ _ _ => none

inductive Pf where
  | len | range1 | range2 | range3 | sum | chr | listOf | isInt | isList | divmod
inductive Pm where
  | join | split | startswith | endswith | find | count | index | bitLength

noncomputable def intsOf : List PyData → Option (List Int)
  | [] => some []
  | x :: r => (dInt x).bind fun i => (intsOf r).map (i :: ·)
noncomputable def strsOf : List PyData → Option (List Str)
  | [] => some []
  | x :: r => (dStr x).bind fun i => (strsOf r).map (i :: ·)

noncomputable def sumOk (ns : List Int) : Bool := szOk ns.length && ns.all fun i => decide (i.natAbs ≤ 2 ^ 40)

noncomputable def arg1 : List V → Option V
  | [a] => some a
  | _ => none
noncomputable def arg2 : List V → Option (V × V)
  | [a, b] => some (a, b)
  | _ => none
noncomputable def arg3 : List V → Option (V × V × V)
  | [a, b, c] => some (a, b, c)
  | _ => none
theorem arg1_eq {as : List V} {a : V} (h : arg1 as = some a) : as = [a] := by
  rcases as with _ | ⟨x, _ | ⟨y, r⟩⟩ <;> cases h; rfl
theorem arg2_eq {as : List V} {p : V × V} (h : arg2 as = some p) : as = [p.1, p.2] := by
  rcases as with _ | ⟨x, _ | ⟨y, _ | ⟨z, r⟩⟩⟩ <;> cases h; rfl
theorem arg3_eq {as : List V} {p : V × V × V} (h : arg3 as = some p) : as = [p.1, p.2.1, p.2.2] := by
  rcases as with _ | ⟨x, _ | ⟨y, _ | ⟨z, _ | ⟨u, r⟩⟩⟩⟩ <;> cases h; rfl
noncomputable def dLen : PyData → Option Nat
  | .list xs => some xs.length
  | .tuple xs => some xs.length
  | .str x => some x.length
  | _ => none
noncomputable def lenOf : V → Option Nat
  | .d x => dLen x
  | .o xs => some xs.length
  | .r _ _ _ => none

noncomputable def vprim : Pf → List V → Option V
  | .len, as => (arg1 as).bind fun v => (lenOf v).bind fun n => if n < 2 ^ 62 then some (.d (.int n)) else none
  | .range1, as => (arg1 as).bind fun a => (asInt a).bind fun n => some (.r 0 n 1)
  | .range2, as => (arg2 as).bind fun p => (asInt p.1).bind fun a => (asInt p.2).bind fun b => some (.r a b 1)
  | .range3, as => (arg3 as).bind fun p => (asInt p.1).bind fun a => (asInt p.2.1).bind fun b => (asInt p.2.2).bind fun c => if c != 0 && fit c then some (.r a b c) else none
  | .sum, as => (arg1 as).bind fun v => (asLst v).bind fun xs => (intsOf xs).bind fun ns => if sumOk ns then some (.d (.int ns.sum)) else none
  | .chr, as => (arg1 as).bind fun v => (asInt v).bind fun n => if 0 ≤ n ∧ n < 55296 then some (.d (.str ⟨#[n.toNat]⟩)) else none
  | .listOf, as => (arg1 as).bind fun v => (asStr v).bind fun x => if szOk x.length then some (.d (.list (x.cps.toList.map fun c => .str ⟨#[c]⟩))) else none
  | .isInt, as => (arg1 as).bind fun v => (asInt v).bind fun _ => some (.d (.bool true))
  | .isList, as => (arg1 as).bind fun v => (asLst v).bind fun _ => some (.d (.bool true))
  | .divmod, as => (arg2 as).bind fun p => (asInt p.1).bind fun a => (asInt p.2).bind fun b => if b != 0 && fit b then some (.d (.tuple [.int (a.fdiv b), .int (a.fmod b)])) else none

noncomputable def find4 (x y : Str) (a b : Nat) : Int := match Builtin.Str.occurrences x y a b 1 with
  | i :: _ => (i : Int)
  | [] => -1

noncomputable def idxOf? (x : PyData) : List PyData → Option Nat
  | [] => none
  | y :: r => if PyData.eqv y x then some 0 else (idxOf? x r).map (· + 1)

noncomputable def bitLen (a : Int) : Int := if a = 0 then 0 else (a.natAbs.log2 + 1 : Nat)

/-- a list's count and index -/
noncomputable def cntL (xs : List PyData) (y : PyData) : Option V := if shp y && xs.all shp && szOk xs.length then some (.d (.int (xs.countP fun z => PyData.eqv z y))) else none
noncomputable def vmeth : Pm → V → List V → Option V
  | .join, v, as => (asStr v).bind fun x => (arg1 as).bind fun a => (asLst a).bind fun ys => (strsOf ys).bind fun ts => if szOk ts.length && szOk (ts.length * x.length + (ts.map Str.length).sum) then some (.d (.str (Txt.join x ts))) else none
  | .split, v, as => (asStr v).bind fun x => (arg1 as).bind fun a => (asStr a).bind fun y => if szOk x.length && y.length != 0 then some (.d (.list ((Txt.split x y).map .str))) else none
  | .startswith, v, as => (asStr v).bind fun x => (arg1 as).bind fun a => (asStr a).bind fun y => some (.d (.bool (Txt.startswith x y)))
  | .endswith, v, as => (asStr v).bind fun x => (arg1 as).bind fun a => (asStr a).bind fun y => some (.d (.bool (Txt.endswith x y)))
  | .find, v, as => (asStr v).bind fun x => (arg3 as).bind fun p => (asStr p.1).bind fun y => (asInt p.2.1).bind fun a => (asInt p.2.2).bind fun b =>
    if 0 ≤ a ∧ a ≤ b ∧ b ≤ x.length ∧ x.length < 2 ^ 62 then some (.d (.int (find4 x y a.toNat b.toNat))) else none
  | .count, v, as => (toD v).bind fun o => match o with
    | .str x => (arg1 as).bind fun a => (asStr a).bind fun y => some (.d (.int (Txt.count x y)))
    | .list xs => (arg1 as).bind fun a => (toD a).bind fun y => cntL xs y
    | _ => none
  | .index, v, as => (asLst v).bind fun xs => (arg1 as).bind fun a => (toD a).bind fun y => if shp y && xs.all shp && szOk xs.length then (idxOf? y xs).bind fun (k : Nat) => some (.d (.int k)) else none
  | .bitLength, v, as => (asInt v).bind fun a => if as.isEmpty then some (.d (.int (bitLen a))) else none

/-- compact expressions -/
inductive CE where
  | lit (x : PyData)
  | var (i : Nat)
  | bin (op : Operator) (a b : CE)
  | un (op : UnaryOp) (a : CE)
  | cmp (op : CmpOp) (a b : CE)
  | cmp2 (o1 o2 : CmpOp) (a b c : CE)
  | boolop (op : BoolOp) (a b : CE)
  | ite (t a b : CE)
  | list (es : List CE)
  | tup (es : List CE)
  | item (a i : CE)
  | slice (a : CE) (lo hi st : Option CE)
  | call (f : Nat) (es : List CE)
  | prim (f : Pf) (es : List CE)
  | meth (m : Pm) (o : CE) (es : List CE)
  | comp (k : Nat) (elt it : CE) (ifs : List CE)

noncomputable abbrev Fns := Nat → List V → Option V

/-- the items of a comprehension: one turn a source item -/
noncomputable def compM (test : PyData → Option Bool) (elt : PyData → Option PyData) : List PyData → Option (List PyData)
  | [] => some []
  | x :: r => (test x).bind fun t => if t then (elt x).bind fun y => (compM test elt r).map (y :: ·) else compM test elt r

/-- what a target of k names takes from an item: k = 0 is one plain name -/
noncomputable def spread (k : Nat) (x : PyData) : Option Ev :=
  if k = 0 then some [.sh (.d x)] else match x with
    | .tuple xs => if xs.length = k then some (xs.map fun y => .sh (.d y)) else none
    | .list xs => if xs.length = k then some (xs.map fun y => .sh (.d y)) else none
    | _ => none

mutual
noncomputable def ceval (Φ : Fns) : CE → Ev → Option V
  | .lit x, _ => some (.d x)
  | .var i, ρ => rd ρ i
  | .bin op a b, ρ => (ceval Φ a ρ).bind fun x => (ceval Φ b ρ).bind fun y => vbin op x y
  | .un op a, ρ => (ceval Φ a ρ).bind fun x => vun op x
  | .cmp op a b, ρ => (ceval Φ a ρ).bind fun x => (ceval Φ b ρ).bind fun y => vcmp op x y
  | .cmp2 o1 o2 a b c, ρ => (ceval Φ a ρ).bind fun x => (ceval Φ b ρ).bind fun y => (vcmp o1 x y).bind fun t =>
      (vtruth t).bind fun k => if k then (ceval Φ c ρ).bind fun z => vcmp o2 y z else some t
  | .boolop op a b, ρ => (ceval Φ a ρ).bind fun x => (vtruth x).bind fun k => match op with
      | .And => if k then ceval Φ b ρ else some x
      | .Or => if k then some x else ceval Φ b ρ
  | .ite t a b, ρ => (ceval Φ t ρ).bind fun x => (vtruth x).bind fun k => if k then ceval Φ a ρ else ceval Φ b ρ
  | .list es, ρ => (cevalsD Φ es ρ).bind fun xs => if szOk xs.length then some (.d (.list xs)) else none
  | .tup es, ρ => (cevalsD Φ es ρ).bind fun xs => if szOk xs.length then some (.d (.tuple xs)) else none
  | .item a i, ρ => (ceval Φ a ρ).bind fun x => (ceval Φ i ρ).bind fun y => vitem x y
  | .slice a lo hi st, ρ => (ceval Φ a ρ).bind fun x => (cpart Φ lo ρ).bind fun l => (cpart Φ hi ρ).bind fun h => (cpart Φ st ρ).bind fun k => vslice x l h k
  | .call f es, ρ => (cevals Φ es ρ).bind fun xs => if xs.all fun v => !v.own then Φ f xs else none
  | .prim f es, ρ => (cevals Φ es ρ).bind fun xs => vprim f xs
  | .meth m o es, ρ => (ceval Φ o ρ).bind fun x => (cevals Φ es ρ).bind fun xs => vmeth m x xs
  | .comp k elt it ifs, ρ => (ceval Φ it ρ).bind fun v => (vitems v).bind fun xs =>
      (compM (fun x => (spread k x).bind fun t => ctests Φ ifs (ρ ++ t)) (fun x => (spread k x).bind fun t => (ceval Φ elt (ρ ++ t)).bind toD) xs).map fun ys => .d (.list ys)
noncomputable def cevals (Φ : Fns) : List CE → Ev → Option (List V)
  | [], _ => some []
  | e :: r, ρ => (ceval Φ e ρ).bind fun x => (cevals Φ r ρ).map (x :: ·)
noncomputable def cevalsD (Φ : Fns) : List CE → Ev → Option (List PyData)
  | [], _ => some []
  | e :: r, ρ => (ceval Φ e ρ).bind fun x => (toD x).bind fun y => (cevalsD Φ r ρ).map (y :: ·)
noncomputable def cpart (Φ : Fns) : Option CE → Ev → Option (Option Int)
  | none, _ => some none
  | some e, ρ => (ceval Φ e ρ).bind fun v => (asInt v).bind fun i => some (some i)
noncomputable def ctests (Φ : Fns) : List CE → Ev → Option Bool
  | [], _ => some true
  | e :: r, ρ => (ceval Φ e ρ).bind fun x => (vtruth x).bind fun k => if k then ctests Φ r ρ else some false
end

section
variable {Φ : Fns} {ρ : Ev}
theorem ce_lit {x : PyData} : ceval Φ (.lit x) ρ = some (.d x) := rfl
theorem ce_var {i : Nat} : ceval Φ (.var i) ρ = rd ρ i := rfl
theorem ce_bin {op : Operator} {a b : CE} : ceval Φ (.bin op a b) ρ = (ceval Φ a ρ).bind fun x => (ceval Φ b ρ).bind fun y => vbin op x y := rfl
theorem ce_un {op : UnaryOp} {a : CE} : ceval Φ (.un op a) ρ = (ceval Φ a ρ).bind fun x => vun op x := rfl
theorem ce_cmp {op : CmpOp} {a b : CE} : ceval Φ (.cmp op a b) ρ = (ceval Φ a ρ).bind fun x => (ceval Φ b ρ).bind fun y => vcmp op x y := rfl
theorem ce_and {a b : CE} : ceval Φ (.boolop .And a b) ρ = (ceval Φ a ρ).bind fun x => (vtruth x).bind fun k => if k then ceval Φ b ρ else some x := rfl
theorem ce_or {a b : CE} : ceval Φ (.boolop .Or a b) ρ = (ceval Φ a ρ).bind fun x => (vtruth x).bind fun k => if k then some x else ceval Φ b ρ := rfl
theorem ce_ite {t a b : CE} : ceval Φ (.ite t a b) ρ = (ceval Φ t ρ).bind fun x => (vtruth x).bind fun k => if k then ceval Φ a ρ else ceval Φ b ρ := rfl
theorem ce_list {es : List CE} : ceval Φ (.list es) ρ = (cevalsD Φ es ρ).bind fun xs => if szOk xs.length then some (.d (.list xs)) else none := rfl
theorem ce_tup {es : List CE} : ceval Φ (.tup es) ρ = (cevalsD Φ es ρ).bind fun xs => if szOk xs.length then some (.d (.tuple xs)) else none := rfl
theorem ce_item {a i : CE} : ceval Φ (.item a i) ρ = (ceval Φ a ρ).bind fun x => (ceval Φ i ρ).bind fun y => vitem x y := rfl
theorem ce_slice {a : CE} {lo hi st : Option CE} : ceval Φ (.slice a lo hi st) ρ = (ceval Φ a ρ).bind fun x => (cpart Φ lo ρ).bind fun l => (cpart Φ hi ρ).bind fun h => (cpart Φ st ρ).bind fun k => vslice x l h k := rfl
theorem ce_call {f : Nat} {es : List CE} : ceval Φ (.call f es) ρ = (cevals Φ es ρ).bind fun xs => if xs.all fun v => !v.own then Φ f xs else none := rfl
theorem ce_prim {f : Pf} {es : List CE} : ceval Φ (.prim f es) ρ = (cevals Φ es ρ).bind fun xs => vprim f xs := rfl
theorem ce_meth {m : Pm} {o : CE} {es : List CE} : ceval Φ (.meth m o es) ρ = (ceval Φ o ρ).bind fun x => (cevals Φ es ρ).bind fun xs => vmeth m x xs := rfl
theorem ce_comp {k : Nat} {elt it : CE} {ifs : List CE} : ceval Φ (.comp k elt it ifs) ρ = (ceval Φ it ρ).bind fun v => (vitems v).bind fun xs => (compM (fun x => (spread k x).bind fun t => ctests Φ ifs (ρ ++ t)) (fun x => (spread k x).bind fun t => (ceval Φ elt (ρ ++ t)).bind toD) xs).map fun ys => .d (.list ys) := rfl
theorem ces_nil : cevals Φ [] ρ = some [] := rfl
theorem ces_cons {e : CE} {r : List CE} : cevals Φ (e :: r) ρ = (ceval Φ e ρ).bind fun x => (cevals Φ r ρ).map (x :: ·) := rfl
theorem ceD_nil : cevalsD Φ [] ρ = some [] := rfl
theorem ceD_cons {e : CE} {r : List CE} : cevalsD Φ (e :: r) ρ = (ceval Φ e ρ).bind fun x => (toD x).bind fun y => (cevalsD Φ r ρ).map (y :: ·) := rfl
theorem cp_n : cpart Φ none ρ = some none := rfl
theorem cp_s {e : CE} : cpart Φ (some e) ρ = (ceval Φ e ρ).bind fun v => (asInt v).bind fun i => some (some i) := rfl
theorem ct_nil : ctests Φ [] ρ = some true := rfl
theorem ct_cons {e : CE} {r : List CE} : ctests Φ (e :: r) ρ = (ceval Φ e ρ).bind fun x => (vtruth x).bind fun k => if k then ctests Φ r ρ else some false := rfl
variable {a b i : CE} {v x y : V} {p q : PyData}
theorem rv0 {i : Nat} (h : ρ[i]? = some (.sh v)) : ceval Φ (.var i) ρ = some v := b_of h rfl
theorem rvo {i : Nat} {xs : List PyData} (h : ρ[i]? = some (.ow xs)) : ceval Φ (.var i) ρ = some (.o xs) := b_of h rfl
theorem ev_c : ceval Φ (.lit p) ρ = some (.d p) := rfl
theorem ev_cmp {op : CmpOp} {k : Bool} (h1 : ceval Φ a ρ = some (.d p)) (h2 : ceval Φ b ρ = some (.d q)) (h : dcmp op p q = some k) : ceval Φ (.cmp op a b) ρ = some (.d (.bool k)) := b_of h1 (b_of h2 (b_of rfl (b_of rfl (b_of h rfl))))
theorem ev_bin {op : Operator} (h1 : ceval Φ a ρ = some x) (h2 : ceval Φ b ρ = some y) : ceval Φ (.bin op a b) ρ = vbin op x y := b_of h1 (b_of h2 rfl)
theorem vbin_int {op : Operator} {i j k : Int} (h : ibin op i j = some k) : vbin op (.d (.int i)) (.d (.int j)) = some (.d (.int k)) := by show (ibin op i j).bind (fun c => some (V.d (.int c))) = _; rw [h]; rfl
theorem ev_ib {op : Operator} {i j k : Int} (h1 : ceval Φ a ρ = some (.d (.int i))) (h2 : ceval Φ b ρ = some (.d (.int j))) (h : ibin op i j = some k) : ceval Φ (.bin op a b) ρ = some (.d (.int k)) := (ev_bin h1 h2).trans (vbin_int h)
theorem ev_item {xs : List PyData} {j : Int} {d : PyData} (h1 : ceval Φ a ρ = some (.d (.list xs))) (h2 : ceval Φ i ρ = some (.d (.int j))) (h3 : getIx xs j = some d) : ceval Φ (.item a i) ρ = some (.d d) := b_of h1 (b_of h2 (b_of rfl (b_of h3 rfl)))
end
end Mine
end
section
open PySem PySem.W PyProof.Rows
namespace Mine

/-- a code object's table of made code: the one kind of old object that may change under a call -/
noncomputable def TabLike (o : Obj) : Prop := o.cls = .none ∧ ∃ fs, o.data = .fields fs ∧ ∀ q t, fs[1]? ≠ some (.str q t)
/-- what our own statements may change: no table, no code object -/
noncomputable def Soft (o : Obj) : Prop := ¬ TabLike o ∧ ∀ vs q t, o.data = .fields vs → vs[1]? ≠ some (.str q t)

structure Wd where
  prog : Program
  w : World
  mg : Str → Option Value
  mb : Str → Option Value
  stat : Addr → Prop
  ok : Heap → Prop
  g : ∀ {h}, ok h → h.Ns mainGlobals mg
  b : ∀ {h}, ok h → h.Ns builtinsNs mb
  lim : ∀ {h}, ok h → h.NoLimit
  mono : ∀ {h h'}, ok h → (∀ b o, (stat b ∨ ¬ Soft o) → h.get? b = some o → h'.get? b = some o) → ok h'
  occ : ∀ {h a}, ok h → stat a → ∃ o, h.get? a = some o
  csts : List (Str × PyData)
  cstG : ∀ p ∈ csts, ∃ v, mg p.1 = some v ∧ ∀ d, p.2 = d → ((∃ i t, v = .int i t ∧ d = .int i) ∨ (∃ x t, v = .str x t ∧ d = .str x))
  blts : List (Str × Value)
  bltG : ∀ p ∈ blts, mg p.1 = none ∧ mb p.1 = some p.2
  fns : List (Str × Addr)
  fnG : ∀ p ∈ fns, mg p.1 = some (.ref p.2)
  fnO : ∀ {h}, ok h → ∀ p ∈ fns, ∃ o fd, h.get? p.2 = some o ∧ o.data = .func fd

structure Good (W : Wd) (s : Shared) : Prop where
  ok : W.ok s.heap
  bare : AllBare s.gens

structure SX (W : Wd) (s s' : Shared) : Prop where
  keep : ∀ b o, s.heap.get? b = some o → ¬ TabLike o → s'.heap.get? b = some o
  occ : ∀ b o, s.heap.get? b = some o → ∃ o', s'.heap.get? b = some o'
  os : s'.os = s.os
  gens : ∀ (i : Nat) g, s.gens[i]? = some g → s'.gens[i]? = some g
  good : Good W s'

section
variable {W : Wd} {s s' s'' : Shared}

theorem SX.refl (g : Good W s) : SX W s s := ⟨fun _ _ e _ => e, fun _ o e => ⟨o, e⟩, rfl, fun _ _ e => e, g⟩
theorem SX.trans (x : SX W s s') (y : SX W s' s'') : SX W s s'' :=
  ⟨fun b o e n => y.keep b o (x.keep b o e n) n, fun b o e => let ⟨o', e'⟩ := x.occ b o e; y.occ b o' e', y.os.trans x.os, fun i g e => y.gens i g (x.gens i g e), y.good⟩
theorem Wd.keep {h h' : Heap} (k : W.ok h) (hk : ∀ b o, h.get? b = some o → h'.get? b = some o) : W.ok h' := W.mono k fun b o _ e => hk b o e
theorem SX.of_keep {h' : Heap} {tk : Nat} (g : Good W s) (hk : ∀ b o, s.heap.get? b = some o → h'.get? b = some o) : SX W s { s with heap := h', toks := tk } :=
  ⟨fun b o e _ => hk b o e, fun b o e => ⟨o, hk b o e⟩, rfl, fun _ _ e => e, ⟨W.keep g.ok hk, g.bare⟩⟩
theorem SX.toks {tk : Nat} (g : Good W s) : SX W s { s with toks := tk } := SX.of_keep (h' := s.heap) g fun _ _ e => e
theorem SX.heap {h' : Heap} (g : Good W s) (hk : ∀ b o, s.heap.get? b = some o → h'.get? b = some o) : SX W s { s with heap := h' } := SX.of_keep (tk := s.toks) g hk
theorem SX.push {o : Obj} {tk : Nat} (g : Good W s) : SX W s { s with heap := s.heap.push o, toks := tk } := SX.of_keep g fun _ _ e => Heap.get?_push_of_some o e
theorem SX.of_same {s' : Shared} (g : Good W s) (hk : ∀ b o, s.heap.get? b = some o → s'.heap.get? b = some o) (ho : s'.os = s.os) (hg : s'.gens = s.gens) : SX W s s' :=
  ⟨fun b o e _ => hk b o e, fun b o e => ⟨o, hk b o e⟩, ho, fun i g e => by rw [hg]; exact e, ⟨W.keep g.ok hk, by rw [hg]; exact g.bare⟩⟩
theorem SX.of_inCall {L : Addr} {m : Str → Option Value} (g : Good W s) (x : InCall s L m s') : SX W s s' := by
  obtain ⟨h', tk, e⟩ := x.same
  subst e
  exact SX.of_keep g x.keep
end

noncomputable abbrev plainL (vs : Array Value) (n : Nat) : Obj := { cls := .type "list", data := .seq vs n }
noncomputable abbrev plainT (vs : Array Value) (n : Nat) : Obj := { cls := .type "tuple", data := .seq vs n }
theorem CodeRec.soft_no {h : Heap} {cd : Value} {q : Str} (x : h.CodeRec cd q) : ∃ c o, cd = .ref c ∧ h.get? c = some o ∧ ¬ TabLike o ∧ ¬ Soft o := by
  refine Classical.byContradiction fun hQ => ?_
  obtain ⟨c, o, vs, t, e1, e2, e3, e4⟩ := x
  (refine hQ ?_; clear hQ)
  exact ⟨c, o, e1, e2, fun z => by (obtain ⟨fs, f1, f2⟩ := z.2; rw [e3] at f1; cases f1; exact f2 _ _ e4), fun z => z.2 vs q t e3 e4⟩
theorem notTab_L {vs : Array Value} {n : Nat} : ¬ TabLike (plainL vs n) := fun h => by cases h.1
theorem notTab_T {vs : Array Value} {n : Nat} : ¬ TabLike (plainT vs n) := fun h => by cases h.1

mutual
/-- a value stands for data, by plain objects none of which lies in M -/
inductive Rep (h : Heap) (M : List Addr) : Value → PyData → Prop
  | none : Rep h M .none .none
  | bool (b : Bool) : Rep h M (.bool b) (.bool b)
  | int (i : Int) (t : Tok) : Rep h M (.int i t) (.int i)
  | str (x : Str) (t : Tok) : Rep h M (.str x t) (.str x)
  | list {a : Addr} {vs : Array Value} {n : Nat} {xs : List PyData} : a ∉ M → h.get? a = some (plainL vs n) → Reps h M vs.toList xs → Rep h M (.ref a) (.list xs)
  | tuple {a : Addr} {vs : Array Value} {n : Nat} {xs : List PyData} : a ∉ M → h.get? a = some (plainT vs n) → Reps h M vs.toList xs → Rep h M (.ref a) (.tuple xs)
inductive Reps (h : Heap) (M : List Addr) : List Value → List PyData → Prop
  | nil : Reps h M [] []
  | cons {v : Value} {vs : List Value} {d : PyData} {ds : List PyData} : Rep h M v d → Reps h M vs ds → Reps h M (v :: vs) (d :: ds)
end

section
variable {h h' : Heap} {M M' : List Addr}
theorem Reps.ind {P : List Value → List PyData → Prop} (h0 : P [] []) (h1 : ∀ v vs d ds, Rep h M v d → Reps h M vs ds → P vs ds → P (v :: vs) (d :: ds)) {vs : List Value} {ds : List PyData} (r : Reps h M vs ds) : P vs ds :=
  @Reps.rec h M (fun _ _ _ => True) (fun vs ds _ => P vs ds) trivial (fun _ => trivial) (fun _ _ => trivial) (fun _ _ => trivial) (fun _ _ _ _ => trivial) (fun _ _ _ _ => trivial) h0 (fun a t _ ih => h1 _ _ _ _ a t ih) _ _ r
theorem Rep.mono (k : ∀ b o, b ∉ M → h.get? b = some o → ¬ TabLike o → h'.get? b = some o) (m : ∀ a ∈ M', a ∈ M ∨ h.get? a = Option.none) {v : Value} {d : PyData} (r : Rep h M v d) : Rep h' M' v d :=
  have nm : ∀ {a o}, a ∉ M → h.get? a = some o → a ∉ M' := fun ha e q => (m _ q).elim ha fun z => Option.some_ne_none _ (e.symm.trans z)
  @Rep.rec h M (fun v d _ => Rep h' M' v d) (fun vs ds _ => Reps h' M' vs ds) .none .bool .int .str (fun ha e _ ih => .list (nm ha e) (k _ _ ha e notTab_L) ih) (fun ha e _ ih => .tuple (nm ha e) (k _ _ ha e notTab_T) ih) .nil (fun _ _ a t => .cons a t) _ _ r
theorem Reps.mono (k : ∀ b o, b ∉ M → h.get? b = some o → ¬ TabLike o → h'.get? b = some o) (m : ∀ a ∈ M', a ∈ M ∨ h.get? a = Option.none) {vs : List Value} {ds : List PyData} (r : Reps h M vs ds) : Reps h' M' vs ds :=
  Reps.ind (P := Reps h' M') .nil (fun _ _ _ _ a _ ih => .cons (a.mono k m) ih) r
end

theorem Rep.ext {W : Wd} {s s' : Shared} {M : List Addr} (x : SX W s s') {v : Value} {d : PyData} (r : Rep s.heap M v d) : Rep s'.heap M v d :=
  r.mono (fun b o _ e n => x.keep b o e n) fun _ h => .inl h
theorem Reps.ext {W : Wd} {s s' : Shared} {M : List Addr} (x : SX W s s') {v : List Value} {d : List PyData} (r : Reps s.heap M v d) : Reps s'.heap M v d :=
  r.mono (fun b o _ e n => x.keep b o e n) fun _ h => .inl h
theorem Rep.sub {h : Heap} {M M' : List Addr} (m : ∀ a ∈ M', a ∈ M) {v : Value} {d : PyData} (r : Rep h M v d) : Rep h M' v d := r.mono (fun _ _ _ e _ => e) fun a ha => .inl (m a ha)
theorem Reps.sub {h : Heap} {M M' : List Addr} (m : ∀ a ∈ M', a ∈ M) {v : List Value} {d : List PyData} (r : Reps h M v d) : Reps h M' v d := r.mono (fun _ _ _ e _ => e) fun a ha => .inl (m a ha)

section
variable {h : Heap} {M : List Addr} {vs ws : List Value} {ds es : List PyData} {v : Value} {d : PyData}
theorem Reps.length (r : Reps h M vs ds) : vs.length = ds.length := Reps.ind (P := fun vs ds => vs.length = ds.length) rfl (fun _ _ _ _ _ _ ih => congrArg (· + 1) ih) r
theorem Reps.append (r : Reps h M vs ds) (q : Reps h M ws es) : Reps h M (vs ++ ws) (ds ++ es) := Reps.ind (P := fun vs ds => Reps h M (vs ++ ws) (ds ++ es)) q (fun _ _ _ _ a _ ih => .cons a ih) r
theorem Reps.get (r : Reps h M vs ds) : ∀ (i : Nat) d, ds[i]? = some d → ∃ v, vs[i]? = some v ∧ Rep h M v d :=
  Reps.ind (P := fun vs ds => ∀ (i : Nat) d, ds[i]? = some d → ∃ v, vs[i]? = some v ∧ Rep h M v d) (fun _ _ e => nomatch e)
    (fun v _ _ _ a _ ih i d e => by
      cases i with
      | zero => exact ⟨v, rfl, Option.some.inj e ▸ a⟩
      | succ i => exact ih i d e) r
theorem Reps.at (r : Reps h M vs ds) : ∀ (i : Nat) v, vs[i]? = some v → ∃ d, ds[i]? = some d ∧ Rep h M v d :=
  Reps.ind (P := fun vs ds => ∀ (i : Nat) v, vs[i]? = some v → ∃ d, ds[i]? = some d ∧ Rep h M v d) (fun _ _ e => nomatch e)
    (fun _ _ d _ a _ ih i v e => by
      cases i with
      | zero => exact ⟨d, rfl, Option.some.inj e ▸ a⟩
      | succ i => exact ih i v e) r
theorem Reps.of_get : ∀ {vs : List Value} {ds : List PyData}, vs.length = ds.length → (∀ (i : Nat) v d, vs[i]? = some v → ds[i]? = some d → Rep h M v d) → Reps h M vs ds := by
  intro vs
  induction vs with
  | nil => intro ds e _; rw [List.length_eq_zero_iff.mp e.symm]; exact .nil
  | cons v vs ih =>
    intro ds e k
    cases ds with
    | nil => cases e
    | cons d ds => exact .cons (k 0 v d rfl rfl) (ih (Nat.succ.inj e) fun i => k (i + 1))
theorem Reps.set (a : Rep h M v d) (r : Reps h M vs ds) : ∀ i : Nat, Reps h M (vs.set i v) (ds.set i d) :=
  Reps.ind (P := fun vs ds => ∀ i : Nat, Reps h M (vs.set i v) (ds.set i d)) (fun _ => .nil)
    (fun _ _ _ _ b t ih i => by
      cases i with
      | zero => exact .cons a t
      | succ i => exact .cons b (ih i)) r
theorem Reps.reverse (r : Reps h M vs ds) : Reps h M vs.reverse ds.reverse :=
  Reps.ind (P := fun vs ds => Reps h M vs.reverse ds.reverse) .nil (fun _ _ _ _ a _ ih => by rw [List.reverse_cons, List.reverse_cons]; exact Reps.append ih (.cons a .nil)) r
theorem Reps.tail (r : Reps h M vs ds) : Reps h M vs.tail ds.tail := Reps.ind (P := fun vs ds => Reps h M vs.tail ds.tail) .nil (fun _ _ _ _ _ t _ => t) r
theorem Reps.dropLast (r : Reps h M vs ds) : Reps h M vs.dropLast ds.dropLast := by
  have := r.reverse.tail.reverse
  rwa [List.tail_reverse, List.tail_reverse, List.reverse_reverse, List.reverse_reverse] at this
end

/-- a list object that may still change -/
noncomputable def OwnAt (h : Heap) (M : List Addr) (a : Addr) (xs : List PyData) : Prop := ∃ vs n, h.get? a = some (plainL vs n) ∧ Reps h M vs.toList xs

noncomputable def VRep (h : Heap) (M : List Addr) (v : Value) : V → Prop
  | .d x => Rep h M v x
  | .r a b c => ∃ p t u k, v = .ref p ∧ p ∉ M ∧ IsRange h p a b c t u k
  | .o xs => ∃ a, v = .ref a ∧ OwnAt h M a xs

theorem notTab_R {a b c : Int} {t u v : Tok} : ¬ TabLike { cls := .type "range", dict := none, data := .fields #[.int a t, .int b u, .int c v], slots := #[] } := fun h => by cases h.1

theorem OwnAt.ext {W : Wd} {s s' : Shared} {M : List Addr} (x : SX W s s') {a : Addr} {xs : List PyData} (r : OwnAt s.heap M a xs) : OwnAt s'.heap M a xs := by
  obtain ⟨vs, n, e, r⟩ := r
  exact ⟨vs, n, x.keep _ _ e notTab_L, r.ext x⟩
theorem VRep.ext {W : Wd} {s s' : Shared} {M : List Addr} (x : SX W s s') {v : Value} {d : V} (r : VRep s.heap M v d) : VRep s'.heap M v d := by
  cases d with
  | d y => exact Rep.ext x r
  | r a b c => obtain ⟨p, t, u, k, e, hp, r⟩ := r; exact ⟨p, t, u, k, e, hp, x.keep _ _ r notTab_R⟩
  | o xs => exact r.elim fun a q => ⟨a, q.1, q.2.ext x⟩
theorem VRep.mono {h h' : Heap} {M M' : List Addr} (k : ∀ b o, b ∉ M → h.get? b = some o → ¬ TabLike o → h'.get? b = some o) (m : ∀ a ∈ M', a ∈ M ∨ h.get? a = none) {v : Value} {d : V} (z : d.own = false) (r : VRep h M v d) : VRep h' M' v d := by
  cases d with
  | d y => exact Rep.mono k m r
  | r a b c => obtain ⟨p, t, u, q, e, hp, r⟩ := r; exact ⟨p, t, u, q, e, (fun z => (m _ z).elim hp (fun z => Option.some_ne_none _ (Eq.trans (show some _ = h.get? p from Eq.symm r) z))), k _ _ hp r notTab_R⟩
  | o xs => cases z

inductive VReps (h : Heap) (M : List Addr) : List Value → List V → Prop
  | nil : VReps h M [] []
  | cons {v : Value} {vs : List Value} {d : V} {ds : List V} : VRep h M v d → VReps h M vs ds → VReps h M (v :: vs) (d :: ds)
theorem VReps.ext {W : Wd} {s s' : Shared} {M : List Addr} (x : SX W s s') {vs : List Value} {ds : List V} (r : VReps s.heap M vs ds) : VReps s'.heap M vs ds :=
  VReps.rec (motive := fun vs ds _ => VReps s'.heap M vs ds) .nil (fun a _ ih => .cons (a.ext x) ih) r
theorem VReps.length {h : Heap} {M : List Addr} {vs : List Value} {ds : List V} (r : VReps h M vs ds) : vs.length = ds.length :=
  VReps.rec (motive := fun vs ds _ => vs.length = ds.length) rfl (fun _ _ ih => congrArg (· + 1) ih) r

/-- the room that expressions need -/
structure Room (A : Around) (_n : Nat) : Prop where
  handled : A.handled = none
  depth : A.depth ≤ 960
  units : A.units + 150 ≤ cLine
/-- the room that is left above: n calls deep -/
structure RoomN (A : Around) (n : Nat) : Prop where
  handled : A.handled = none
  depth : A.depth + n ≤ 900
  units : A.units + 4 * n + 200 ≤ cLine
theorem RoomN.w {A : Around} {n : Nat} (r : RoomN A n) : Room A n := ⟨r.handled, by have := r.depth; lia, by have := r.units; lia⟩

noncomputable def VarAt (h : Heap) (env : Env) (x : Str) (v : Value) : Prop :=
  (env.kindOf x = some .local ∧ ∃ m, h.Ns env.locals m ∧ m x = some v) ∨
  ((env.kindOf x = some .cell ∨ env.kindOf x = some .free) ∧ ∃ c, env.cells.lookup x = some c ∧ h.IsCell c (some v))

theorem ns_notTab {h : Heap} {a : Addr} {m : Str → Option Value} (n : h.Ns a m) : ∃ o, h.get? a = some o ∧ ¬ TabLike o := by
  obtain ⟨o, es, ep, e, hd, _⟩ := n
  exact ⟨o, e, fun t => t.2.elim fun fs q => by rw [hd] at q; cases q.1⟩
theorem Ns.ext {W : Wd} {s s' : Shared} (x : SX W s s') {a : Addr} {m : Str → Option Value} (n : s.heap.Ns a m) : s'.heap.Ns a m := by
  obtain ⟨o, es, ep, e, hd, r⟩ := n
  exact ⟨o, es, ep, x.keep _ _ e (fun t => t.2.elim fun fs q => by rw [hd] at q; cases q.1), hd, r⟩
theorem Cell.ext {W : Wd} {s s' : Shared} (x : SX W s s') {a : Addr} {v : Option Value} (n : s.heap.IsCell a v) : s'.heap.IsCell a v := by
  obtain ⟨o, e, hd⟩ := n
  exact ⟨o, x.keep _ _ e (fun t => t.2.elim fun fs q => by rw [hd] at q; cases q.1), hd⟩
theorem CodeRec.ext {W : Wd} {s s' : Shared} (x : SX W s s') {cd : Value} {q : Str} (n : s.heap.CodeRec cd q) : s'.heap.CodeRec cd q := by
  refine Classical.byContradiction fun hQ => ?_
  obtain ⟨c, o, vs, t, e1, e2, e3, e4⟩ := n
  (refine hQ ?_; clear hQ)
  exact ⟨c, o, vs, t, e1, x.keep _ _ e2 (fun z => by (obtain ⟨fs, f1, f2⟩ := z.2; rw [e3] at f1; cases f1; exact f2 _ _ e4)), e3, e4⟩
theorem VarAt.ext {W : Wd} {s s' : Shared} (x : SX W s s') {env : Env} {y : Str} {v : Value} (r : VarAt s.heap env y v) : VarAt s'.heap env y v :=
  r.imp (fun q => ⟨q.1, q.2.elim fun m q => ⟨m, Ns.ext x q.1, q.2⟩⟩) fun q => ⟨q.1, q.2.elim fun c q => ⟨c, q.1, Cell.ext x q.2⟩⟩

noncomputable def SlotAt (h : Heap) (env : Env) (M : List Addr) (x : Str) : Slot → Prop
  | .un => True
  | .sh v => v.own = false ∧ ∃ val, VarAt h env x val ∧ VRep h M val v
  | .ow xs => ∃ a, VarAt h env x (.ref a) ∧ OwnAt h M a xs

theorem SlotAt.ext {W : Wd} {s s' : Shared} (x : SX W s s') {env : Env} {M : List Addr} {y : Str} {sl : Slot} (r : SlotAt s.heap env M y sl) : SlotAt s'.heap env M y sl := by
  cases sl with
  | un => trivial
  | sh v => exact ⟨r.1, r.2.elim fun v q => ⟨v, q.1.ext x, q.2.ext x⟩⟩
  | ow xs => exact r.elim fun a q => ⟨a, q.1.ext x, q.2.ext x⟩

/-- the names that can be seen, each with its place; how many places there are -/
structure Gam where
  vars : List (Str × Nat)
  size : Nat

noncomputable def Vis (Γ : Gam) (env : Env) (M : List Addr) (h : Heap) (ρ : Ev) : Prop := ∀ x i, Γ.vars.lookup x = some i → ∀ sl, ρ[i]? = some sl → SlotAt h env M x sl
theorem Vis.ext {W : Wd} {s s' : Shared} (x : SX W s s') {Γ : Gam} {env : Env} {M : List Addr} {ρ : Ev} (v : Vis Γ env M s.heap ρ) : Vis Γ env M s'.heap ρ :=
  fun y i e sl h => (v y i e sl h).ext x

structure EnvOk (env : Env) (sc : Scope) : Prop where
  scope : env.scope = sc
  kind : sc.kind = ScopeKind.function
  globals : env.globals = mainGlobals
  builtins : env.builtins = builtinsNs
  cells : ∀ x, (sc.names.lookup x = some .cell ∨ sc.names.lookup x = some .free) → ∃ c, env.cells.lookup x = some c
  inj : ∀ x y c, env.cells.lookup x = some c → env.cells.lookup y = some c → x = y
  apart : ∀ x c, env.cells.lookup x = some c → c ≠ env.locals

/-- the frame's own store lies in the heap -/
structure Lay (env : Env) (h : Heap) : Prop where
  ns : ∃ m, h.Ns env.locals m
  cell : ∀ x c, env.cells.lookup x = some c → ∃ v, h.IsCell c v
theorem Lay.ext {W : Wd} {s s' : Shared} (x : SX W s s') {env : Env} (l : Lay env s.heap) : Lay env s'.heap :=
  ⟨let ⟨m, n⟩ := l.ns; ⟨m, Ns.ext x n⟩, fun y c e => let ⟨v, q⟩ := l.cell y c e; ⟨v, Cell.ext x q⟩⟩

noncomputable def MOk (h : Heap) (M : List Addr) : Prop := ∀ a ∈ M, ∃ o, h.get? a = some o ∧ ¬ TabLike o
theorem MOk.ext {W : Wd} {s s' : Shared} (x : SX W s s') {M : List Addr} (m : MOk s.heap M) : MOk s'.heap M := fun a ha => let ⟨o, e, n⟩ := m a ha; ⟨o, x.keep _ _ e n, n⟩
theorem MOk.fresh {h : Heap} {M : List Addr} (m : MOk h M) {a : Addr} (e : h.get? a = none) : a ∉ M := fun q => by obtain ⟨o, e', _⟩ := m a q; rw [e] at e'; cases e'

/-- a call of a function of the text, told by a plain function -/
noncomputable def Ctr (W : Wd) (n : Nat) (a : Addr) (φ : List V → Option V) : Prop :=
  ∀ (A : Around) (s : Shared) (M : List Addr) (vals : List Value) (vs : List V) (r : V) (E : Value → Shared → Prop) (Q : Value → Shared → Prop),
    RoomN A n → Good W s → MOk s.heap M → VReps s.heap M vals vs → (vs.all fun v => !v.own) = true → φ vs = some r →
    (∀ x s', SX W s s' → r.own = false → VRep s'.heap M x r → Q x s') → wpAny (model W.prog W.w) A (call (.ref a) vals []) Q E s
noncomputable def Ctrs (W : Wd) (n : Nat) (Φ : Fns) : Prop := ∀ f p, W.fns[f]? = some p → Ctr W n p.2 (Φ f)

structure Cx (W : Wd) (Γ : Gam) (scope : Scope) (n : Nat) (Φ : Fns) (A : Around) (s : Shared) (ev : Env) (M : List Addr) (ρ : Ev) : Prop where
  ctrs : ∀ f p vs r, W.fns[f]? = some p → Φ f vs = some r → RoomN A n ∧ Ctr W n p.2 (Φ f)
  room : Room A n
  good : Good W s
  env : EnvOk ev scope
  mok : MOk s.heap M
  vis : Vis Γ ev M s.heap ρ
  lay : Lay ev s.heap
  len : ρ.length = Γ.size
  wf : ∀ y i, Γ.vars.lookup y = some i → i < Γ.size
theorem Cx.ext {W : Wd} {Γ : Gam} {scope : Scope} {n : Nat} {Φ : Fns} {A : Around} {s s' : Shared} {env : Env} {M : List Addr} {ρ : Ev} (c : Cx W Γ scope n Φ A s env M ρ) (x : SX W s s') : Cx W Γ scope n Φ A s' env M ρ :=
  ⟨c.ctrs, c.room, x.good, c.env, c.mok.ext x, c.vis.ext x, c.lay.ext x, c.len, c.wf⟩

/-- the expression e runs as the compact expression c says -/
noncomputable def SndE (W : Wd) (Γ : Gam) (scope : Scope) (e : Expr) (c : CE) : Prop :=
  ∀ (n : Nat) (Φ : Fns) (A : Around) (s : Shared) (env : Env) (M : List Addr) (ρ : Ev) (v : V) (E : Value → Shared → Prop) (Q : Value → Shared → Prop),
    Cx W Γ scope n Φ A s env M ρ → ceval Φ c ρ = some v → (∀ x s', SX W s s' → VRep s'.heap M x v → Q x s') → wpAny (model W.prog W.w) A (eval e env) Q E s

/-- the same in a test -/
noncomputable def SndT (W : Wd) (Γ : Gam) (scope : Scope) (e : Expr) (c : CE) : Prop :=
  ∀ (n : Nat) (Φ : Fns) (A : Around) (s : Shared) (env : Env) (M : List Addr) (ρ : Ev) (v : V) (k : Bool) (E : Value → Shared → Prop) (Q : Bool → Shared → Prop),
    Cx W Γ scope n Φ A s env M ρ → ceval Φ c ρ = some v → vtruth v = some k → (∀ s', SX W s s' → Q k s') → wpAny (model W.prog W.w) A (isTrue e env (eval e env)) Q E s

/-! what a value that stands for a thing looks like -/
section
variable {h : Heap} {M : List Addr} {w w2 w3 : Value}
theorem int_self {i : Int} (r : VRep h M w (.d (.int i))) : ∃ t, w = .int i t := by cases r with | int i t => exact ⟨t, rfl⟩
theorem str_self {x : Str} (r : VRep h M w (.d (.str x))) : ∃ t, w = .str x t := by cases r with | str x t => exact ⟨t, rfl⟩
theorem list_self {xs : List PyData} (r : VRep h M w (.d (.list xs))) : ∃ l vs n, w = .ref l ∧ l ∉ M ∧ h.get? l = some (plainL vs n) ∧ Reps h M vs.toList xs := by
  cases r with | list h1 h2 h3 => exact ⟨_, _, _, rfl, h1, h2, h3⟩
theorem tup_self {xs : List PyData} (r : VRep h M w (.d (.tuple xs))) : ∃ l vs n, w = .ref l ∧ l ∉ M ∧ h.get? l = some (plainT vs n) ∧ Reps h M vs.toList xs := by
  cases r with | tuple h1 h2 h3 => exact ⟨_, _, _, rfl, h1, h2, h3⟩
@[elab_as_elim] theorem vint {G : Value → Prop} {i : Int} (r : VRep h M w (.d (.int i))) (k : ∀ t, G (.int i t)) : G w := by obtain ⟨t, rfl⟩ := int_self r; exact k t
@[elab_as_elim] theorem vstr {G : Value → Prop} {x : Str} (r : VRep h M w (.d (.str x))) (k : ∀ t, G (.str x t)) : G w := by obtain ⟨t, rfl⟩ := str_self r; exact k t
@[elab_as_elim] theorem vls {G : Value → Prop} {xs : List PyData} (r : VRep h M w (.d (.list xs))) (k : ∀ l vs n, l ∉ M → h.get? l = some (plainL vs n) → Reps h M vs.toList xs → G (.ref l)) : G w := by
  obtain ⟨l, vs, n, rfl, h1, h2, h3⟩ := list_self r; exact k l vs n h1 h2 h3
@[elab_as_elim] theorem vtup {G : Value → Prop} {xs : List PyData} (r : VRep h M w (.d (.tuple xs))) (k : ∀ l vs n, l ∉ M → h.get? l = some (plainT vs n) → Reps h M vs.toList xs → G (.ref l)) : G w := by
  obtain ⟨l, vs, n, rfl, h1, h2, h3⟩ := tup_self r; exact k l vs n h1 h2 h3
@[elab_as_elim] theorem vown {G : Value → Prop} {xs : List PyData} (r : VRep h M w (.o xs)) (k : ∀ l vs n, h.get? l = some (plainL vs n) → Reps h M vs.toList xs → G (.ref l)) : G w := by
  obtain ⟨l, rfl, vs, n, h2, h3⟩ := r; exact k l vs n h2 h3
variable {vals : List Value} {xs : List V}
theorem vr1 {v : V} (r : VReps h M vals [v]) : ∃ w, vals = [w] ∧ VRep h M w v := by cases r with | cons a t => cases t; exact ⟨_, rfl, a⟩
theorem vr2 {v u : V} (r : VReps h M vals [v, u]) : ∃ w z, vals = [w, z] ∧ VRep h M w v ∧ VRep h M z u := by
  cases r with | cons a t => obtain ⟨z, rfl, b⟩ := vr1 t; exact ⟨_, _, rfl, a, b⟩
theorem vr3 {v u p : V} (r : VReps h M vals [v, u, p]) : ∃ w z y, vals = [w, z, y] ∧ VRep h M w v ∧ VRep h M z u ∧ VRep h M y p := by
  cases r with | cons a t => obtain ⟨z, y, rfl, b, c⟩ := vr2 t; exact ⟨_, _, _, rfl, a, b, c⟩
variable {α β : Type} {y : α} {G : List Value → Prop}
@[elab_as_elim] theorem p1 {f : V → Option α} (e : (arg1 xs).bind f = some y) (r : VReps h M vals xs) (k : ∀ w v, VRep h M w v → f v = some y → G [w]) : G vals := by
  obtain ⟨a, h1, e⟩ := b_inv e
  rw [arg1_eq h1] at r
  obtain ⟨w, rfl, q⟩ := vr1 r
  exact k w a q e
@[elab_as_elim] theorem p1i {f : Int → Option α} (e : ((arg1 xs).bind fun v => (asInt v).bind f) = some y) (r : VReps h M vals xs) (k : ∀ i t, f i = some y → G [.int i t]) : G vals :=
  p1 e r fun w v q e => (b_inv e).elim fun i e => by obtain ⟨t, rfl⟩ := int_self (asInt_eq e.1 ▸ q); exact k i t e.2
@[elab_as_elim] theorem p1s {f : Str → Option α} (e : ((arg1 xs).bind fun v => (asStr v).bind f) = some y) (r : VReps h M vals xs) (k : ∀ i t, f i = some y → G [.str i t]) : G vals :=
  p1 e r fun w v q e => (b_inv e).elim fun i e => by obtain ⟨t, rfl⟩ := str_self (asStr_eq e.1 ▸ q); exact k i t e.2
@[elab_as_elim] theorem p1l {f : List PyData → Option α} (e : ((arg1 xs).bind fun v => (asLst v).bind f) = some y) (r : VReps h M vals xs) (k : ∀ ds l vs n, h.get? l = some (plainL vs n) → Reps h M vs.toList ds → f ds = some y → G [.ref l]) : G vals :=
  p1 e r fun w v q e => (b_inv e).elim fun i e => by obtain ⟨l, vs, n, rfl, _, q2, q3⟩ := list_self (asLst_eq e.1 ▸ q); exact k i l vs n q2 q3 e.2
@[elab_as_elim] theorem p1d {f : PyData → Option α} (e : ((arg1 xs).bind fun v => (toD v).bind f) = some y) (r : VReps h M vals xs) (k : ∀ w d, Rep h M w d → f d = some y → G [w]) : G vals :=
  p1 e r fun w v q e => (b_inv e).elim fun d e => k w d (by rw [toD_eq e.1] at q; exact q) e.2
@[elab_as_elim] theorem p2 {f : Int → Int → Option α} (e : ((arg2 xs).bind fun p => (asInt p.1).bind fun a => (asInt p.2).bind fun b => f a b) = some y) (r : VReps h M vals xs) (k : ∀ i t j u, f i j = some y → G [.int i t, .int j u]) : G vals := by
  obtain ⟨a, h1, e⟩ := b_inv e
  obtain ⟨i, h2, e⟩ := b_inv e
  obtain ⟨j, h3, e⟩ := b_inv e
  rw [arg2_eq h1, asInt_eq h2, asInt_eq h3] at r
  obtain ⟨w, z, rfl, q1, q2⟩ := vr2 r
  obtain ⟨t, rfl⟩ := int_self q1
  obtain ⟨u, rfl⟩ := int_self q2
  exact k i t j u e
@[elab_as_elim] theorem p3 {g : V → Option β} {f : β → Int → Int → Option α} (e : ((arg3 xs).bind fun p => (g p.1).bind fun x => (asInt p.2.1).bind fun a => (asInt p.2.2).bind fun b => f x a b) = some y) (r : VReps h M vals xs)
    (k : ∀ w v x i t j u, VRep h M w v → g v = some x → f x i j = some y → G [w, .int i t, .int j u]) : G vals := by
  obtain ⟨a, h1, e⟩ := b_inv e
  obtain ⟨x, h0, e⟩ := b_inv e
  obtain ⟨i, h2, e⟩ := b_inv e
  obtain ⟨j, h3, e⟩ := b_inv e
  rw [arg3_eq h1, asInt_eq h2, asInt_eq h3] at r
  obtain ⟨w, z, p, rfl, q0, q1, q2⟩ := vr3 r
  obtain ⟨t, rfl⟩ := int_self q1
  obtain ⟨u, rfl⟩ := int_self q2
  exact k w a.1 x i t j u q0 h0 e
end
end Mine
end
section
open PySem PySem.W PyProof.Rows
set_option maxRecDepth 4000
namespace Mine

theorem szOk_le {n : Nat} (h : szOk n = true) : n ≤ 2 ^ 20 := of_decide_eq_true h
theorem fit_lt {i : Int} (h : fit i = true) : i.natAbs < 2 ^ 3000 := of_decide_eq_true h

section
variable {W : Wd} {A : Around} {n : Nat} {E : Value → Shared → Prop} {s : Shared} {M : List Addr} {a b : Value} {x y v : V}

theorem truth_snd {k : Bool} {Q : Bool → Shared → Prop} (g : Good W s) (ha : VRep s.heap M a x) (e : vtruth x = some k) (h : ∀ s', SX W s s' → Q k s') : wpAny (model W.prog W.w) A (truthy a) Q E s := by
  obtain ⟨d, hd, e⟩ := b_inv e
  rw [toD_eq hd] at ha
  have h : ∀ {tk b}, b = k → Q b { s with toks := tk } := fun q => q ▸ h _ (SX.toks g)
  have ha : Rep s.heap M a d := ha
  cases ha with
  | none => exact truthy_none (h (Option.some.inj e))
  | bool c => exact wpAny_truthy_bool (h (Option.some.inj e))
  | int i t => exact truthy_int (h (Option.some.inj e))
  | str z t =>
    obtain ⟨hz, e⟩ := if_inv e
    have hz := szOk_le hz
    have e1 : ((z.length : Int) != 0) = (z.length != 0) := by
      rw [Bool.eq_iff_iff]; simp
    exact PyProof.Rows.SBL.truthy (by lia) (h (e1.trans e))
  | @list l vs m xs hm ho r =>
    obtain ⟨hz, e⟩ := if_inv e
    have hl := r.length
    rw [Array.length_toList] at hl
    have hz := szOk_le hz
    have e1 : vs.isEmpty = xs.isEmpty := by rw [Array.isEmpty, hl, Bool.eq_iff_iff, decide_eq_true_eq, List.isEmpty_iff, List.length_eq_zero_iff]
    exact wpAny_truthy_list ⟨_, ho, rfl, _, rfl⟩ (by lia) (h ((congrArg (!·) e1).trans e))
  | tuple => cases e

theorem un_snd {op : UnaryOp} {Q : Value → Shared → Prop} (g : Good W s) (ha : VRep s.heap M a x) (e : vun op x = some v) (h : ∀ r s', SX W s s' → VRep s'.heap M r v → Q r s') :
    wpAny (model W.prog W.w) A (unaryOp op a) Q E s := by
  have h : ∀ r s' u, u = v → SX W s s' → VRep s'.heap M r u → Q r s' := fun r s' u q x y => h r s' x (q ▸ y)
  cases op with
  | UAdd => cases e
  | USub =>
    obtain ⟨i, hi, e⟩ := b_inv e
    rw [asInt_eq hi] at ha
    exact vint ha fun t => neg_int (h _ _ _ (Option.some.inj e) (SX.toks g) (.int _ _))
  | Invert =>
    obtain ⟨i, hi, e⟩ := b_inv e
    rw [asInt_eq hi] at ha
    exact vint ha fun t => invert_int (h _ _ _ (Option.some.inj e) (SX.toks g) (.int _ _))
  | Not => exact (b_inv e).elim fun k e => not_of (truth_snd g ha e.1 fun s' x => h _ _ _ (Option.some.inj e.2) x (.bool _))

theorem mulOk {a b : Int} (ha : fit a = true) (hb : fit b = true) : IntMulOk a b := by
  have h1 := intBits_le (fit_lt ha)
  have h2 := intBits_le (fit_lt hb)
  unfold IntMulOk Builtin.Int.intTooBig
  have : ¬ (((Builtin.Int.intBits a + Builtin.Int.intBits b : Nat) : Int) > (bitsLine : Int)) := by unfold bitsLine; lia
  simp only [Bool.and_eq_true, decide_eq_true_eq, not_and]
  intro _ q
  apply this
  push_cast
  exact q

theorem noPy {a b : Int} (hb : fit b = true) : Builtin.divisionGoesByPylong a b = false := by
  apply PyProof.noPylong_of_log2
  have h := fit_lt hb
  by_cases z : b.natAbs = 0
  · rw [z]; decide
  · exact Nat.lt_trans ((Nat.log2_lt z).mpr h) (by decide)

section
variable {a b : Int}
theorem ib_mul : ibin .Mult a b = if fit a && fit b then some (a * b) else none := rfl
theorem ib_div : ibin .FloorDiv a b = if b != 0 && fit b then some (a.fdiv b) else none := rfl
theorem ib_mod : ibin .Mod a b = if b != 0 && fit b then some (a.fmod b) else none := rfl
theorem ib_pow : ibin .Pow a b = if fit a && decide (0 ≤ b) && decide (b ≤ 1000) then some (a ^ b.toNat) else none := rfl
theorem ib_shl : ibin .LShift a b = if fit a && decide (0 ≤ b) && decide (b ≤ 8000) then some (a * 2 ^ b.toNat) else none := rfl
theorem ib_shr : ibin .RShift a b = if decide (0 ≤ b) then some (a.fdiv (2 ^ b.toNat)) else none := rfl
end
theorem ibin_snd {op : Operator} {i j k : Int} {t u : Tok} {Q : Value → Shared → Prop} (hh : A.handled = none) (e : ibin op i j = some k) (h : ∀ tk tk', Q (.int k tk) { s with toks := tk' }) :
    wpAny (model W.prog W.w) A (binaryOp op (.int i t) (.int j u)) Q E s := by
  have h : ∀ {c}, c = k → ∀ {tk tk'}, Q (.int c tk) { s with toks := tk' } := fun {c} q {tk tk'} => q ▸ h tk tk'
  cases op with
  | Add => exact PyProof.Rows.add_int (h (Option.some.inj e))
  | Sub => exact PyProof.Rows.sub_int (h (Option.some.inj e))
  | Mult =>
    rw [ib_mul] at e
    obtain ⟨q, e⟩ := if_inv e
    rw [Bool.and_eq_true] at q
    exact PyProof.Rows.mul_int (h e) (mulOk q.1 q.2)
  | FloorDiv =>
    rw [ib_div] at e
    obtain ⟨q, e⟩ := if_inv e
    rw [Bool.and_eq_true, bne_iff_ne] at q
    exact floordiv_int q.1 (h e) (.inl (noPy q.2))
  | Mod =>
    rw [ib_mod] at e
    obtain ⟨q, e⟩ := if_inv e
    rw [Bool.and_eq_true, bne_iff_ne] at q
    exact mod_int' q.1 (h e)
  | Pow =>
    rw [ib_pow] at e
    obtain ⟨q, e⟩ := if_inv e
    rw [Bool.and_eq_true, Bool.and_eq_true, decide_eq_true_eq, decide_eq_true_eq] at q
    refine pow_int q.1.2 ?_ (h e)
    have h1 := intBits_le (fit_lt q.1.1)
    exact Int.le_trans (Int.mul_le_mul (Int.ofNat_le.mpr h1) q.2 q.1.2 (by decide)) (by decide)
  | LShift =>
    rw [ib_shl] at e
    obtain ⟨q, e⟩ := if_inv e
    rw [Bool.and_eq_true, Bool.and_eq_true, decide_eq_true_eq, decide_eq_true_eq] at q
    have h1 := intBits_le (fit_lt q.1.1)
    exact lshift_int_or hh (fun z => absurd z (Int.not_lt.mpr q.1.2)) (fun _ => by have := q.2; lia) fun _ => h e
  | RShift =>
    rw [ib_shr] at e
    obtain ⟨q, e⟩ := if_inv e
    exact rshift_int (of_decide_eq_true q) (h e)
  | BitAnd => exact and_int (h (Option.some.inj e))
  | BitOr => exact PyProof.Rows.or_int (h (Option.some.inj e))
  | BitXor => exact xor_int (h (Option.some.inj e))
  | Div => cases e
  | MatMult => cases e

theorem list_add {l b : Addr} {vs ws : Array Value} {n m : Nat} {Q : Value → Shared → Prop} (hl : s.heap.get? l = some (plainL vs n)) (hb : s.heap.get? b = some (plainL ws m))
    (h : Q (.ref s.heap.objs.size) { s with heap := s.heap.push (plainL (vs ++ ws) 0) }) (hsz : vs.size + ws.size ≤ sizeLine) :
    wpAny (model W.prog W.w) A (binaryOp .Add (.ref l) (.ref b)) Q E s :=
  concat_meets ⟨_, hl, rfl⟩ ⟨_, hb, rfl⟩ noFill_list_add seq_list_add PySem.F.slot_list_add PySem.F.entry_list_add (PySem.F.args_list_add_2 _ _) (list_addW l b vs ws n m none none #[] #[] hsz) ⟨hl, hb, h⟩

theorem list_mul {l : Addr} {items : Array Value} {k : Nat} {x : Int} {u : Tok} {Q : Value → Shared → Prop} (hl : s.heap.get? l = some (plainL items k))
    (hlo : -(2 ^ 63 : Int) ≤ x) (hhi : x < 2 ^ 63) (hsz : items.size * x.toNat ≤ 2 ^ 24)
    (h : Q (.ref s.heap.objs.size) { s with heap := s.heap.push (plainL (List.foldl (fun x1 x2 => x1 ++ x2) #[] (List.replicate (if items.isEmpty = true then 0 else x.toNat) items)) 0) }) :
    wpAny (model W.prog W.w) A (binaryOp .Mult (.ref l) (.int x u)) Q E s :=
  wpAny_binaryOp_repeat_ref (T := "list") (U := "int") (by decide) ⟨_, hl, rfl⟩ (fun s' => typeIs_int s' x u) noFill_list_mul PySem.F.fills_int_mul PySem.F.slot_int_rmul repeat_list PySem.F.slot_int_index.lookup
    (call_meets PySem.F.slot_int_rmul (typeIs_int s x u) PySem.F.entry_int_rmul (PySem.F.args_int_rmul_2 _ _) (int___rmul___int_list x u l items k)
      ⟨hl, rfl, ⟨_, hl, rfl⟩, call_meets PySem.F.slot_list_mul ⟨_, hl, rfl⟩ PySem.F.entry_list_mul (PySem.F.args_list_mul_2 _ _)
        (AutoListH.list___mul___list_int_3 l items k x u (by simp [Builtin.List.listFitsIndex]; lia) (by lia) (by simp [Builtin.List.listTooLong, sizeLine]; lia))
        ⟨hl, h⟩⟩)

theorem fresh_none (h : Heap) : h.get? h.objs.size = none := Heap.get?_none_of_le (Nat.le_refl _)

/-- a new plain list stands for its data -/
theorem newL {vs : Array Value} {k : Nat} {xs : List PyData} {tk : Nat} (g : Good W s) (mok : MOk s.heap M) (r : Reps s.heap M vs.toList xs) :
    Rep (s.heap.push (plainL vs k)) M (.ref s.heap.objs.size) (.list xs) :=
  .list (mok.fresh (fresh_none _)) (Heap.get?_push_size _ rfl) (Reps.ext (SX.push (tk := tk) g) r)
theorem newT {vs : Array Value} {k : Nat} {xs : List PyData} {tk : Nat} (g : Good W s) (mok : MOk s.heap M) (r : Reps s.heap M vs.toList xs) :
    Rep (s.heap.push (plainT vs k)) M (.ref s.heap.objs.size) (.tuple xs) :=
  .tuple (mok.fresh (fresh_none _)) (Heap.get?_push_size _ rfl) (Reps.ext (SX.push (tk := tk) g) r)

theorem foldl_app {α : Type} : ∀ (l : List (Array α)) (acc : Array α), (l.foldl (fun x y => x ++ y) acc).toList = acc.toList ++ (l.map Array.toList).flatten
  | [], acc => by simp
  | x :: l, acc => by rw [List.foldl_cons, foldl_app l]; simp

theorem Reps.replicate {h : Heap} {M : List Addr} {vs : List Value} {xs : List PyData} (r : Reps h M vs xs) : ∀ n : Nat, Reps h M (List.replicate n vs).flatten (List.replicate n xs).flatten
  | 0 => .nil
  | n + 1 => by rw [List.replicate_succ, List.replicate_succ, List.flatten_cons, List.flatten_cons]; exact Reps.append r (Reps.replicate r n)

theorem rep_arr (vs : Array Value) (k : Nat) : (List.foldl (fun x y => x ++ y) #[] (List.replicate (if vs.isEmpty = true then 0 else k) vs)).toList = (List.replicate k vs.toList).flatten := by
  rw [foldl_app, show (#[] : Array Value).toList = [] from rfl, List.nil_append, List.map_replicate]
  by_cases z : vs.isEmpty = true
  · have : vs.toList = [] := by simpa using z
    rw [if_pos z, this]; simp
  · rw [if_neg z]

theorem bin_snd {op : Operator} {Q : Value → Shared → Prop} (hh : A.handled = none) (g : Good W s) (mok : MOk s.heap M) (ha : VRep s.heap M a x) (hb : VRep s.heap M b y) (e : vbin op x y = some v)
    (h : ∀ r s', SX W s s' → VRep s'.heap M r v → Q r s') : wpAny (model W.prog W.w) A (binaryOp op a b) Q E s := by
  have h : ∀ r s' u, u = v → SX W s s' → VRep s'.heap M r u → Q r s' := fun r s' u q x y => h r s' x (q ▸ y)
  obtain ⟨x, hx, e⟩ := b_inv e
  obtain ⟨y, hy, e⟩ := b_inv e
  rw [toD_eq hx] at ha
  rw [toD_eq hy] at hb
  clear hx hy
  cases x with
  | int i =>
    obtain ⟨j, hj, e⟩ := b_inv e
    obtain ⟨k, hk, e⟩ := b_inv e
    rw [dInt_eq hj] at hb
    exact vint ha fun _ => vint hb fun _ => ibin_snd hh hk fun _ _ => h _ _ _ (Option.some.inj e) (SX.toks g) (.int _ _)
  | str z =>
    obtain ⟨w, hw, e⟩ := b_inv e
    rw [dStr_eq hw] at hb
    cases op with
    | Add =>
      obtain ⟨q, e⟩ := if_inv e
      exact vstr ha fun _ => vstr hb fun _ => PyProof.Rows.add_str (fun _ _ => h _ _ _ e (SX.toks g) (.str _ _)) (Nat.le_trans (szOk_le q) (by decide))
    | _ => cases e
  | list xs =>
    refine vls ha fun l vs m _ ha2 ha3 => ?_
    have l1 := ha3.length
    rw [Array.length_toList] at l1
    cases op with
    | Add =>
      obtain ⟨ys, hy, e⟩ := b_inv e
      obtain ⟨q, e⟩ := if_inv e
      rw [dLst_eq hy] at hb
      refine vls hb fun l vs m _ hb2 hb3 => ?_
      have l2 := hb3.length
      rw [Array.length_toList] at l2
      refine list_add ha2 hb2 (h _ _ _ e (SX.push (tk := s.toks) g) (newL (tk := s.toks) g mok ?_)) (by rw [l1, l2]; exact Nat.le_trans (szOk_le q) (by decide))
      rw [Array.toList_append]
      exact Reps.append ha3 hb3
    | Mult =>
      obtain ⟨n, hn, e⟩ := b_inv e
      obtain ⟨q, e⟩ := if_inv e
      rw [Bool.and_eq_true, Bool.and_eq_true, decide_eq_true_eq] at q
      have q1 := szOk_le q.1.2
      rw [dInt_eq hn] at hb
      have q0 := q.1.1
      refine vint hb fun t => list_mul ha2 (by lia) (by lia) (by rw [l1]; exact Nat.le_trans (szOk_le q.2) (by decide)) (h _ _ _ e (SX.push (tk := s.toks) g) (newL (tk := s.toks) g mok ?_))
      rw [rep_arr]
      exact Reps.replicate ha3 _
    | _ => cases e
  | _ => cases e
end
end Mine
end
section
open PySem PySem.W PyProof.Rows
set_option maxRecDepth 4000
namespace Mine

theorem Rep.reads {h : Heap} {M : List Addr} {v : Value} {d : PyData} (r : Rep h M v d) : ∃ as, Reads h v d as :=
  @Rep.rec h M (fun v d _ => ∃ as, Reads h v d as) (fun vs ds _ => ∃ as, ReadsAll h vs ds as) ⟨_, .none⟩ (fun b => ⟨_, .bool b⟩) (fun i t => ⟨_, .int i t⟩) (fun x t => ⟨_, .str x t⟩)
    (fun _ e _ ih => ih.elim fun _ q => ⟨_, .list e rfl rfl q⟩) (fun _ e _ ih => ih.elim fun _ q => ⟨_, .tuple e rfl rfl q⟩) ⟨_, .nil⟩ (fun _ _ a b => a.elim fun _ q => b.elim fun _ p => ⟨_, .cons q p⟩) _ _ r
theorem Reps.reads {h : Heap} {M : List Addr} {vs : List Value} {ds : List PyData} (r : Reps h M vs ds) : ∃ as, ReadsAll h vs ds as :=
  Reps.ind (P := fun vs ds => ∃ as, ReadsAll h vs ds as) ⟨_, .nil⟩ (fun _ _ _ _ a _ b => a.reads.elim fun _ q => b.elim fun _ p => ⟨_, .cons q p⟩) r

theorem canAll : ∀ {xs : List PyData}, xs.all shp = true → PyData.canLayAll0 xs = true
  | [], _ => rfl
  | x :: xs, h => by
    rw [List.all_cons, Bool.and_eq_true] at h
    have h1 := SeqAt.canLay_of_shaped h.1
    have h2 := canAll h.2
    simp [PyData.canLayAll0, h1, h2]

section
variable {W : Wd} {A : Around} {n : Nat} {E : Value → Shared → Prop} {s : Shared} {M : List Addr} {a b : Value} {x y v : V}

theorem isIs_plain {h : Heap} {a b : Value} {x y : PyData} {k : Bool} (ha : Rep h M a x) (hb : Rep h M b y) (e : isIs x y = some k) : plainIs a b = true ∧ (a == b) = k := by
  obtain ⟨q, e⟩ := if_inv e
  rw [← e]; clear e
  cases hb with
  | none => cases ha <;> exact ⟨rfl, rfl⟩
  | bool c =>
    cases ha with
    | bool d => cases c <;> cases d <;> exact ⟨rfl, rfl⟩
    | _ => exact ⟨rfl, rfl⟩
  | _ => cases q
theorem int2_snd {f : Int → Int → Bool} {x y : PyData} {k : Bool} {P : Value → Value → Prop} (ha : Rep s.heap M a x) (hb : Rep s.heap M b y) (e : int2 x y f = some k) (h : ∀ i t j u, f i j = k → P (.int i t) (.int j u)) : P a b := by
  obtain ⟨i, hi, e⟩ := b_inv e
  obtain ⟨j, hj, e⟩ := b_inv e
  rw [dInt_eq hi] at ha
  rw [dInt_eq hj] at hb
  obtain ⟨t, rfl⟩ := int_self ha
  obtain ⟨u, rfl⟩ := int_self hb
  exact h i t j u (Option.some.inj e)

theorem cmp_snd {op : CmpOp} {Q : Value → Shared → Prop} (R : Room A n) (g : Good W s) (ha : VRep s.heap M a x) (hb : VRep s.heap M b y) (e : vcmp op x y = some v)
    (h : ∀ r s', SX W s s' → VRep s'.heap M r v → Q r s') : wpAny (model W.prog W.w) A (compareOp op a b) Q E s := by
  obtain ⟨x, hx, e⟩ := b_inv e
  obtain ⟨y, hy, e⟩ := b_inv e
  obtain ⟨k, hk, e⟩ := b_inv e
  rw [toD_eq hx] at ha
  rw [toD_eq hy] at hb
  have f : ∀ {c}, c = k → Q (.bool c) s := fun hc => h _ _ (SX.refl g) (by rw [← Option.some.inj e, ← hc]; exact .bool _)
  have ha : Rep s.heap M a x := ha
  have hb : Rep s.heap M b y := hb
  clear h hx hy e
  have hu : A.units + 100 < cLine := by have := R.units; lia
  have hu2 : A.units + 30 < cLine := Nat.lt_of_le_of_lt (Nat.add_le_add_left (by decide) _) hu
  have rd : ∃ as bs, Reads s.heap a x as ∧ Reads s.heap b y bs := ha.reads.elim fun as p => hb.reads.elim fun bs q => ⟨as, bs, p, q⟩
  cases op with
  | Eq =>
    obtain ⟨q, e⟩ := if_inv hk
    rw [Bool.and_eq_true] at q
    exact rd.elim fun as r => r.elim fun bs r => SeqAt.compareEq_shaped r.1 r.2 q.1 q.2 (by lia) (f e)
  | NotEq =>
    obtain ⟨q, e⟩ := if_inv hk
    rw [Bool.and_eq_true] at q
    exact rd.elim fun as r => r.elim fun bs r => SeqAt.compareNe_shaped r.1 r.2 q.1 q.2 (by lia) (f e)
  | Is =>
    obtain ⟨h1, h2⟩ := isIs_plain ha hb hk
    exact wpAny_is_plain h1 (f h2)
  | IsNot =>
    obtain ⟨c, hc, e⟩ := b_inv hk
    obtain ⟨h1, h2⟩ := isIs_plain ha hb hc
    exact wpAny_isNot_plain h1 (f ((congrArg (!·) h2).trans (Option.some.inj e)))
  | In =>
    cases y with
    | str t =>
      obtain ⟨p, hp, e⟩ := b_inv hk
      rw [dStr_eq hp] at ha
      exact vstr ha fun _ => vstr (show VRep s.heap M b (.d (.str t)) from hb) fun _ => PySem.P.in_str (f (Option.some.inj e))
    | list ys =>
      obtain ⟨q, e⟩ := if_inv hk
      rw [Bool.and_eq_true] at q
      exact rd.elim fun as r => r.elim fun bs r => SeqAt.in_list_reads r.2 r.1 (canAll q.2) (SeqAt.canLay_of_shaped q.1) (room_in_shaped q.1 (by lia)) (f e)
    | _ => cases hk
  | NotIn =>
    obtain ⟨c, hc, e0⟩ := b_inv hk
    have e0 := Option.some.inj e0
    cases y with
    | str t =>
      obtain ⟨p, hp, e⟩ := b_inv hc
      rw [dStr_eq hp] at ha
      exact vstr ha fun _ => vstr (show VRep s.heap M b (.d (.str t)) from hb) fun _ => PySem.P.notIn_str (f ((congrArg (!·) (Option.some.inj e)).trans e0))
    | list ys =>
      obtain ⟨q, e⟩ := if_inv hc
      rw [Bool.and_eq_true] at q
      exact rd.elim fun as r => r.elim fun bs r => SeqAt.notIn_list_reads r.2 r.1 (canAll q.2) (SeqAt.canLay_of_shaped q.1) (room_in_shaped q.1 (by lia)) (f ((congrArg (!·) e).trans e0))
    | _ => cases hc
  | Lt => exact int2_snd (P := fun a b => wpAny _ A (compareOp .Lt a b) Q E s) ha hb hk fun _ _ _ _ e => PyProof.Rows.lt_int (f e)
  | LtE => exact int2_snd (P := fun a b => wpAny _ A (compareOp .LtE a b) Q E s) ha hb hk fun _ _ _ _ e => PyProof.Rows.le_int (f e)
  | Gt => exact int2_snd (P := fun a b => wpAny _ A (compareOp .Gt a b) Q E s) ha hb hk fun _ _ _ _ e => PyProof.Rows.gt_int (f e)
  | GtE => exact int2_snd (P := fun a b => wpAny _ A (compareOp .GtE a b) Q E s) ha hb hk fun _ _ _ _ e => PyProof.Rows.ge_int (f e)

theorem subscripted_ops (slice : Expr) (o i : Value) : ∃ ops, subscripted slice false o i = operate ops (getItem o i) := by
  cases slice with
  | Slice a b c p => cases c <;> exact ⟨_, rfl⟩
  | _ => exact ⟨_, rfl⟩

theorem getIx_snd {xs : List PyData} {i : Int} {d : PyData} {l : Addr} {vs : Array Value} {m : Nat} {t : Tok} {Q : Value → Shared → Prop} (ho : s.heap.get? l = some (plainL vs m)) (r : Reps s.heap M vs.toList xs)
    (e : getIx xs i = some d) (h : ∀ u, Rep s.heap M u d → Q u s) : wpAny (model W.prog W.w) A (getItem (.ref l) (.int i t)) Q E s := by
  have hl := r.length
  rw [Array.length_toList] at hl
  unfold getIx at e
  split at e
  · rename_i q
    refine Classical.byContradiction fun hQ => ?_
    obtain ⟨u, h1, h2⟩ := r.get _ _ e
    (refine hQ ?_; clear hQ)
    exact wpAny_getItem_list ⟨_, ho, rfl, _, rfl⟩ q.1 (by lia) (by simpa using h1) (h u h2)
  · split at e
    · rename_i q
      obtain ⟨u, h1, h2⟩ := r.get _ _ e
      refine wpAny_getItem_list_neg ⟨_, ho, rfl, _, rfl⟩ q.1 ?_ ?_ ?_ (h u h2)
      all_goals (try rw [hl]; try lia)
      all_goals first | lia | (rw [← Array.getElem?_toList]; rw [show i + (xs.length : Int) = xs.length + i from Int.add_comm _ _]; exact h1) | skip
    · cases e

theorem item_snd {value slice : Expr} {Q : Value → Shared → Prop} (g : Good W s) (ha : VRep s.heap M a x) (hb : VRep s.heap M b y) (e : vitem x y = some v)
    (h : ∀ r s', SX W s s' → VRep s'.heap M r v → Q r s') : wpAny (model W.prog W.w) A (subscriptTail value slice a b) Q E s := by
  obtain ⟨ops, hs⟩ := subscripted_ops slice a b
  have h : ∀ {u d}, some (V.d d) = some v → Rep s.heap M u d → Q u s := fun {u d} q r => h u s (SX.refl g) (Option.some.inj q ▸ r)
  obtain ⟨i, hi, e⟩ := b_inv e
  rw [asInt_eq hi] at hb
  clear hi
  cases x with
  | r => cases e
  | o xs =>
    obtain ⟨d, hd, e⟩ := b_inv e
    revert hs
    exact vown ha fun l vs m h2 h3 => vint hb fun t hs => tail_any ⟨_, h2, rfl⟩ slot_list_getitem.lookup (getIx_snd h2 h3 hd fun u hu => h e hu) hs
  | d x =>
    cases x with
    | list xs =>
      obtain ⟨d, hd, e⟩ := b_inv e
      revert hs
      exact vls ha fun l vs m _ h2 h3 => vint hb fun t hs => tail_any ⟨_, h2, rfl⟩ slot_list_getitem.lookup (getIx_snd h2 h3 hd fun u hu => h e hu) hs
    | tuple xs =>
      obtain ⟨q, e⟩ := ib_inv e
      obtain ⟨d, hd, e⟩ := b_inv e
      revert hs
      refine vtup ha fun l vs m _ h2 h3 => vint hb fun t hs => ?_
      have hl := h3.length
      rw [Array.length_toList] at hl
      obtain ⟨u, k1, k2⟩ := h3.get _ _ hd
      have hlt : i.toNat < xs.length := (List.getElem?_eq_some_iff.mp hd).1
      exact tail_any ⟨_, h2, rfl⟩ slot_tuple_getitem.lookup (PyProof.Rows.getItem_tuple ⟨_, h2, rfl, _, rfl⟩ (by lia) (by lia) (seqIndex_of q.1 (by rw [hl]; lia)) (by simpa using k1) (h e k2)) hs
    | _ => cases e
end
end Mine
end
section
open PySem PySem.W PyProof.Rows
set_option maxRecDepth 4000
namespace Mine

theorem reps_places {h : Heap} {M : List Addr} {vs : List Value} {ds : List PyData} (r : Reps h M vs ds) : ∀ js : List Nat, Reps h M (js.filterMap (vs[·]?)) (js.filterMap (ds[·]?))
  | [] => .nil
  | j :: js => by
    have ih := reps_places r js
    cases hn : ds[j]? with
    | some d =>
      refine Classical.byContradiction fun hQ => ?_
      obtain ⟨v, hv, hr⟩ := r.get j d hn
      (refine hQ ?_; clear hQ)
      simp only [List.filterMap_cons, hn, hv]
      exact .cons hr ih
    | none =>
      have hv : vs[j]? = none := by
        rw [List.getElem?_eq_none_iff] at hn ⊢
        rw [r.length]; exact hn
      simp only [List.filterMap_cons, hn, hv]
      exact ih

theorem reps_pick {h : Heap} {M : List Addr} {vs : Array Value} {ds : List PyData} (r : Reps h M vs.toList ds) (lo hi st : Option Int) : Reps h M (slicePick vs lo hi st).toList (pickL ds lo hi st) := by
  have hl := r.length
  rw [Array.length_toList] at hl
  have e : (slicePick vs lo hi st).toList = (sliceRange (sliceBounds lo hi st ds.length).1 (sliceBounds lo hi st ds.length).2.1 (sliceBounds lo hi st ds.length).2.2).filterMap (vs.toList[·]?) := by
    unfold slicePick
    rw [hl]
    simp
  rw [e]
  exact reps_places r _

theorem gives_find4 (x y : Str) (a b : Int) (t u p q : Tok) (ha : 0 ≤ a) (hb : 0 ≤ b) (hbx : b ≤ x.length) : PySem.Gives (Builtin.«str.find» ⟨[.str x t, .str y u, .int a p, .int b q], []⟩) (.int (find4 x y a.toNat b.toNat)) := by
  have e : PySem.Gives (match Builtin.Str.occurrences x y (fromIndex x.length a) (min (fromIndex x.length b) x.length) 1 with | k :: _ => retInt k | [] => (do rule "str.find.not-found"; retInt (-1))) (.int (find4 x y a.toNat b.toNat)) := by
    have h1 : fromIndex x.length a = a.toNat := by unfold fromIndex; rw [if_neg (by lia)]; lia
    have h2 : min (fromIndex x.length b) x.length = b.toNat := by unfold fromIndex; rw [if_neg (by lia)]; lia
    rw [h1, h2]
    unfold find4
    cases Builtin.Str.occurrences x y a.toNat b.toNat 1 with
    | nil => exact .rule (.of_eq rfl)
    | cons k _ => exact .of_eq rfl
  exact e
end Mine
namespace Mine

theorem isPart_of {v : Value} {k : Option Int} (p : IsPart v k) : ∃ q : Option (Int × Tok), v = partValue q ∧ q.map (·.1) = k := by
  cases p with
  | none => exact ⟨none, rfl, rfl⟩
  | int i t => exact ⟨some (i, t), rfl, rfl⟩

theorem Reps.ints {h : Heap} {M : List Addr} {vs : List Value} {ds : List PyData} (r : Reps h M vs ds) : ∀ {ns : List Int}, intsOf ds = some ns → ∃ l : List (Int × Tok), vs = l.map (fun p => .int p.1 p.2) ∧ l.map (·.1) = ns :=
  Reps.ind (P := fun vs ds => ∀ {ns : List Int}, intsOf ds = some ns → ∃ l : List (Int × Tok), vs = l.map (fun p => .int p.1 p.2) ∧ l.map (·.1) = ns) (fun e => ⟨[], rfl, Option.some.inj e⟩)
    (fun v vs d ds a _ ih ns e => by
      obtain ⟨i, hi, e⟩ := b_inv e
      obtain ⟨ms, h1, rfl⟩ := Option.map_eq_some_iff.mp e
      rw [dInt_eq hi] at a
      obtain ⟨t, rfl⟩ := int_self a
      exact (ih h1).elim fun l q => ⟨(i, t) :: l, congrArg (.int i t :: ·) q.1, congrArg (i :: ·) q.2⟩) r
theorem Reps.strs {h : Heap} {M : List Addr} {vs : List Value} {ds : List PyData} (r : Reps h M vs ds) : ∀ {ns : List Str}, strsOf ds = some ns → StrsAre vs ns :=
  Reps.ind (P := fun vs ds => ∀ {ns : List Str}, strsOf ds = some ns → StrsAre vs ns) (fun e => by cases e; exact .nil)
    (fun v vs d ds a _ ih ns e => by
      obtain ⟨i, hi, e⟩ := b_inv e
      obtain ⟨ms, h1, rfl⟩ := Option.map_eq_some_iff.mp e
      rw [dStr_eq hi] at a
      obtain ⟨t, rfl⟩ := str_self a
      exact .cons _ _ (ih h1)) r
theorem strsOf_len : ∀ {ds : List PyData} {ns : List Str}, strsOf ds = some ns → ds.length = ns.length := by
  intro ds
  induction ds with
  | nil => intro ns e; cases e; rfl
  | cons d ds ih =>
    intro ns e
    obtain ⟨i, hi, e⟩ := b_inv e
    obtain ⟨ms, h1, rfl⟩ := Option.map_eq_some_iff.mp e
    exact congrArg (· + 1) (ih h1)

theorem Reps.ofStrs {h : Heap} {M : List Addr} : ∀ l : List (Str × Tok), Reps h M (strValues l) (l.map fun p => .str p.1)
  | [] => .nil
  | p :: l => .cons (.str _ _) (Reps.ofStrs l)

noncomputable def sumTo : List Int → Int
  | [] => 0
  | a :: r => a + sumTo r
theorem preSum_take (xs : List (Int × Tok)) : ∀ j : Nat, j ≤ xs.length → preSum (numAt xs.toArray) j = ((xs.map (·.1)).take j).sum
  | 0, _ => rfl
  | j + 1, h => by
    have ih := preSum_take xs j (by lia)
    have hj : j < xs.length := by lia
    rw [preSum, ih, List.take_add_one, List.sum_append]
    congr 1
    unfold numAt
    simp [hj]

theorem abs_sum_le : ∀ (l : List Int), (∀ i ∈ l, i.natAbs ≤ 2 ^ 40) → l.sum.natAbs ≤ l.length * 2 ^ 40
  | [], _ => by simp
  | a :: l, h => by
    have h1 := abs_sum_le l fun i hi => h i (List.mem_cons_of_mem _ hi)
    have h2 := h a List.mem_cons_self
    rw [List.sum_cons, List.length_cons, Nat.succ_mul]
    omega

theorem sumFits {xs : List (Int × Tok)} (ok : sumOk (xs.map (·.1)) = true) (j : Nat) (hj : j < xs.toArray.size) : InLong (numAt xs.toArray j) ∧ InLong (preSum (numAt xs.toArray) (j + 1)) := by
  unfold sumOk at ok
  rw [Bool.and_eq_true, List.all_eq_true] at ok
  have l := szOk_le ok.1
  rw [List.length_map] at l
  have hj : j < xs.length := by simpa using hj
  have b : ∀ i ∈ xs.map (·.1), i.natAbs ≤ 2 ^ 40 := fun i hi => of_decide_eq_true (ok.2 i hi)
  constructor
  · have e : numAt xs.toArray j = (xs[j]).1 := by unfold numAt; simp [hj]
    have := b (xs[j]).1 (List.mem_map_of_mem (List.getElem_mem hj))
    unfold InLong; rw [e]; lia
  · rw [preSum_take xs (j + 1) (by lia)]
    have := abs_sum_le ((xs.map (·.1)).take (j + 1)) fun i hi => b i (List.mem_of_mem_take hi)
    have l2 : ((xs.map (·.1)).take (j + 1)).length ≤ 2 ^ 20 := by rw [List.length_take, List.length_map]; lia
    have l3 := Nat.mul_le_mul_right (2 ^ 40) l2
    unfold InLong; lia

section
variable {W : Wd} {A : Around} {n : Nat} {E : Value → Shared → Prop} {s : Shared} {M : List Addr} {a b : Value} {x y v : V}

theorem str_slice_snd {z : Str} {t : Tok} {value slice : Expr} {sl : Addr} {vl vu : Value} {lo hi : Option Int} {ops : List Value} {Q : Value → Shared → Prop} (g : Good W s)
    (hs : s.heap.get? sl = some { cls := .type "slice", data := .fields #[vl, vu, .none] }) (pl : IsPart vl lo) (pu : IsPart vu hi) (q1 : z.length ≤ 2 ^ 20)
    (ho : subscripted slice false (.str z t) (.ref sl) = operate ops (getItem (.str z t) (.ref sl)))
    (h : ∀ r s', SX W s s' → VRep s'.heap M r (.d (.str (Txt.slice z lo hi))) → Q r s') : wpAny (model W.prog W.w) A (subscriptTail value slice (.str z t) (.ref sl)) Q E s := by
  refine Classical.byContradiction fun hQ => ?_
  obtain ⟨l, el, fl⟩ := isPart_of pl
  obtain ⟨u, eu, fu⟩ := isPart_of pu
  (refine hQ ?_; clear hQ)
  subst el eu fl fu
  refine tail_any (typeIs_str _ _ _) PySem.F.slot_str_getitem.lookup (wpAny_getItem_str_slice (l := l) (u := u) (st := none) ⟨_, hs, rfl, rfl⟩ rfl ?_) ho
  refine post_val_or_str ⟨Nat.le_trans (Txt.slice_le z _ _) ?_, fun t' k => h _ _ (SX.toks g) (.str _ _)⟩
  unfold sizeLine; lia

theorem slice_snd {value slice : Expr} {sl : Addr} {vl vu vk : Value} {lo hi st : Option Int} {Q : Value → Shared → Prop} (g : Good W s) (mok : MOk s.heap M) (ha : VRep s.heap M a x)
    (hs : s.heap.get? sl = some { cls := .type "slice", data := .fields #[vl, vu, vk] }) (pl : IsPart vl lo) (pu : IsPart vu hi) (pk : IsPart vk st) (e : vslice x lo hi st = some v)
    (h : ∀ r s', SX W s s' → VRep s'.heap M r v → Q r s') : wpAny (model W.prog W.w) A (subscriptTail value slice a (.ref sl)) Q E s := by
  have fin : ∀ {xs : List PyData} {l : Addr} {vs : Array Value} {m : Nat}, s.heap.get? l = some (plainL vs m) → Reps s.heap M vs.toList xs → lSlice xs lo hi st = some v →
      wpAny (model W.prog W.w) A (subscriptTail value slice (.ref l) (.ref sl)) Q E s := by
    intro xs l vs m h2 h3 e
    obtain ⟨q, e⟩ := if_inv e
    rw [Bool.and_eq_true, bne_iff_ne] at q
    have hl := h3.length
    rw [Array.length_toList] at hl
    exact (subscripted_ops slice (.ref l) (.ref sl)).elim fun ops ho => tail_any ⟨_, h2, rfl⟩ slot_list_getitem.lookup (wpAny_getItem_list_slice ⟨_, h2, rfl, _, rfl⟩ ⟨_, hs, rfl, rfl⟩ pl pu pk q.2
      (h _ _ (SX.push (tk := s.toks) g) (e ▸ newL (tk := s.toks) g mok (reps_pick h3 lo hi st))) (by rw [hl]; exact Nat.le_trans (szOk_le q.1) (by decide))) ho
  cases x with
  | r => cases e
  | o xs => exact vown ha fun l vs m h2 h3 => fin h2 h3 e
  | d x =>
    cases x with
    | list xs => exact vls ha fun l vs m _ h2 h3 => fin h2 h3 e
    | str z =>
      obtain ⟨q, e⟩ := if_inv e
      rw [Bool.and_eq_true, beq_iff_eq] at q
      rw [q.2] at pk
      have hk : vk = .none := by cases pk; rfl
      rw [hk] at hs
      refine vstr ha fun t => (subscripted_ops slice (.str z t) (.ref sl)).elim fun ops ho => str_slice_snd g hs pl pu (szOk_le q.1) ho fun r s' x y => h r s' x (e ▸ y)
    | _ => cases e

theorem split_snd {z w : Str} {t u : Tok} {Q : Value → Shared → Prop} (g : Good W s) (mok : MOk s.heap M) (hz : szOk z.length = true) (hw : w.length ≠ 0)
    (h : ∀ r s', SX W s s' → s.heap.get? r = none → (∃ vs n, s'.heap.get? r = some (plainL vs n)) → Rep s'.heap M (.ref r) (.list ((Txt.split z w).map .str)) → Q (.ref r) s') :
    wpAny (model W.prog W.w) A (call (.builtin "str.split") [.str z t, .str w u]) Q E s := by
  have hy : (w.length == 0) = false := by simpa using hw
  have hz := szOk_le hz
  have hsz : z.length ≤ sizeLine := by unfold sizeLine; lia
  have fin : ∀ (l : List (Str × Tok)) tk, l.map (·.1) = Txt.split z w → Q (.ref s.heap.objs.size) { s with heap := s.heap.push (plainL (strValues l).toArray 0), toks := tk } := by
    intro l tk hl
    refine h _ _ (SX.push g) (fresh_none _) ⟨_, _, Heap.get?_push_size _ rfl⟩ ?_
    refine newL (tk := tk) g mok ?_
    rw [← hl, List.map_map]
    exact Reps.ofStrs l
  cases h1 : (decide (z.length < w.length) || decide (Builtin.Str.strKind z < Builtin.Str.strKind w))
  · cases hf : (Builtin.Str.occurrences z w 0 z.length (z.length + 1)).isEmpty
    · refine call_meets PySem.F.slot_str_split (typeIs_str _ _ _) PySem.F.entry_str_split (PySem.F.args_str_split_2 _ _) (meets_str_split_sep z w t u h1 hy hf hsz ?_) ?_
      · have e : Txt.split z w = Builtin.Str.partsBetween z (Builtin.Str.occurrences z w 0 z.length (z.length + 1)) w.length := (if_neg (ne_true_of_eq_false h1)).trans (if_neg (ne_true_of_eq_false hf))
        rw [← e]
        have := split_le z w
        unfold sizeLine; lia
      · show wants Q E _ { s with toks := _, heap := s.heap.push { cls := .type "list", data := .seq (strsFrom s.toks (Builtin.Str.partsBetween z (Builtin.Str.occurrences z w 0 z.length (z.length + 1)) w.length)).toArray } }
        rw [strsFrom_eq]
        exact fin (numbered s.toks _) _ ((numbered_texts _ _).trans ((if_neg (ne_true_of_eq_false h1)).trans (if_neg (ne_true_of_eq_false hf))).symm)
    · exact call_meets PySem.F.slot_str_split (typeIs_str _ _ _) PySem.F.entry_str_split (PySem.F.args_str_split_2 _ _) (meets_str_split_not_found z w t u h1 hy hf)
        (fin [(z, t)] _ ((if_neg (ne_true_of_eq_false h1)).trans (if_pos hf)).symm)
  · exact call_meets PySem.F.slot_str_split (typeIs_str _ _ _) PySem.F.entry_str_split (PySem.F.args_str_split_2 _ _) (meets_str_split_cannot_occur z w t u h1)
      (fin [(z, t)] _ (if_pos h1).symm)
end
end Mine
end
section
open PySem PySem.W PyProof.Rows
set_option maxRecDepth 4000
namespace Mine

noncomputable def mname : Pm → Str
  | .join => Str.ofString "join"
  | .split => Str.ofString "split"
  | .startswith => Str.ofString "startswith"
  | .endswith => Str.ofString "endswith"
  | .find => Str.ofString "find"
  | .count => Str.ofString "count"
  | .index => Str.ofString "index"
  | .bitLength => Str.ofString "bit_length"

/-- a method that a value's built-in type has, and what its call answers -/
noncomputable def MethIs (W : Wd) (m : Pm) (x : V) (xs : List V) (v : V) : Prop :=
  ∃ T id, PlainAttrs T ∧ PySem.Slot T (mname m) id ∧ typeOf (.builtin id) = pure (.type "method_descriptor") ∧
    (∀ (s : Shared) (a : Value) (M : List Addr), VRep s.heap M a x → s.TypeIs a T ∧ ∀ l, a = .ref l → ∃ ob, s.heap.get? l = some ob ∧ ob.dict = none) ∧
    (∀ (A : Around) (n : Nat) (s : Shared) (M : List Addr) (a : Value) (vals : List Value) (E Q : Value → Shared → Prop), Room A n → Good W s → MOk s.heap M → VRep s.heap M a x → VReps s.heap M vals xs →
      (∀ r s', SX W s s' → VRep s'.heap M r v → Q r s') → wpAny (model W.prog W.w) A (call (.builtin id) (a :: vals) []) Q E s)

theorem str_type {s : Shared} {a : Value} {M : List Addr} {z : Str} (r : VRep s.heap M a (.d (.str z))) : s.TypeIs a "str" ∧ ∀ l, a = .ref l → ∃ ob, s.heap.get? l = some ob ∧ ob.dict = none := by
  obtain ⟨t, rfl⟩ := str_self r
  exact ⟨typeIs_str _ _ _, fun _ e => by cases e⟩
theorem list_type {s : Shared} {a : Value} {M : List Addr} {xs : List PyData} (r : VRep s.heap M a (.d (.list xs))) : s.TypeIs a "list" ∧ ∀ l, a = .ref l → ∃ ob, s.heap.get? l = some ob ∧ ob.dict = none := by
  refine Classical.byContradiction fun hQ => ?_
  obtain ⟨l, vs, n, rfl, _, h2, _⟩ := list_self r
  (refine hQ ?_; clear hQ)
  exact ⟨⟨_, h2, rfl⟩, fun _ e => by cases e; exact ⟨_, h2, rfl⟩⟩

theorem eq_items {A : Around} {n : Nat} {s : Shared} {M : List Addr} {vs : Array Value} {xs : List PyData} {b : Value} {y : PyData} (R : Room A n) (r : Reps s.heap M vs.toList xs) (rb : Rep s.heap M b y)
    (q1 : shp y = true) (q2 : xs.all shp = true) : (∀ z, z ∈ vs → SeqAt.EqAt A.in1 s z b (PyData.eqv (SeqAt.readOf s.heap z) y)) ∧ vs.toList.map (SeqAt.readOf s.heap) = xs := by
  obtain ⟨_, rr⟩ := r.reads; obtain ⟨_, rrb⟩ := rb.reads
  have hu : A.units + 100 < cLine := by have := R.units; lia
  exact ⟨SeqAt.items_eqAt rr rrb (canAll q2) (SeqAt.canLay_of_shaped q1) (room_in_shaped q1 (by lia)), SeqAt.readsAll_map _ _ _ (canAll q2) rr⟩

theorem map_at {f : Value → PyData} {vs : Array Value} {xs : List PyData} (i2 : vs.toList.map f = xs) (m : Nat) (hm : m < vs.size) (hm' : m < xs.length) : f vs[m] = xs[m] := by subst i2; simp

theorem idxOf_facts {y : PyData} : ∀ {xs : List PyData} {j : Nat}, idxOf? y xs = some j → ∃ h : j < xs.length, PyData.eqv xs[j] y = true ∧ ∀ m (hm : m < xs.length), m < j → PyData.eqv xs[m] y = false
  | [], _, e => by cases e
  | x :: xs, j, e => by
    unfold idxOf? at e
    cases hx : PyData.eqv x y with
    | true => rw [if_pos hx] at e; cases e; exact ⟨by simp, hx, fun m _ hm => by lia⟩
    | false =>
      rw [if_neg (by rw [hx]; exact Bool.false_ne_true)] at e
      refine Classical.byContradiction fun hQ => ?_
      obtain ⟨k, hk, rfl⟩ := Option.map_eq_some_iff.mp e
      obtain ⟨h1, h2, h3⟩ := idxOf_facts hk
      (refine hQ ?_; clear hQ)
      refine ⟨by simpa using h1, by simpa using h2, fun m hm hlt => ?_⟩
      cases m with
      | zero => exact hx
      | succ m => simpa using h3 m (by simpa using hm) (by lia)

theorem split_inv0 {v r : V} {as : List V} (e : vmeth .split v as = some r) : ∃ x y, v = .d (.str x) ∧ as = [.d (.str y)] ∧ szOk x.length = true ∧ y.length ≠ 0 ∧ V.d (.list ((Txt.split x y).map .str)) = r := by
  refine Classical.byContradiction fun hQ => ?_
  obtain ⟨x, h1, e⟩ := b_inv e
  obtain ⟨a, h2, e⟩ := b_inv e
  obtain ⟨y, h3, e⟩ := b_inv e
  obtain ⟨q, e⟩ := if_inv e
  (refine hQ ?_; clear hQ)
  rw [Bool.and_eq_true, bne_iff_ne] at q
  exact ⟨x, y, asStr_eq h1, by rw [arg1_eq h2, asStr_eq h3], q.1, q.2, e⟩
/-- what a method's call must show, with what it answers told by an equation -/
theorem MethIs.of {W : Wd} {m : Pm} {x : V} {xs : List V} {v : V} (T id : String) (h1 : PlainAttrs T) (h2 : PySem.Slot T (mname m) id) (h3 : typeOf (.builtin id) = pure (.type "method_descriptor"))
    (h4 : ∀ (s : Shared) (a : Value) (M : List Addr), VRep s.heap M a x → s.TypeIs a T ∧ ∀ l, a = .ref l → ∃ ob, s.heap.get? l = some ob ∧ ob.dict = none)
    (h5 : ∀ (A : Around) (n : Nat) (s : Shared) (M : List Addr) (a : Value) (vals : List Value) (E Q : Value → Shared → Prop), Room A n → Good W s → MOk s.heap M → VRep s.heap M a x → VReps s.heap M vals xs →
      (∀ r s' u, some u = some v → SX W s s' → VRep s'.heap M r u → Q r s') → wpAny (model W.prog W.w) A (call (.builtin id) (a :: vals) []) Q E s) : MethIs W m x xs v :=
  ⟨T, id, h1, h2, h3, h4, fun A n s M a vals E Q R g mok ha hb h => h5 A n s M a vals E Q R g mok ha hb fun r s' u q x y => h r s' x (Option.some.inj q ▸ y)⟩
theorem meth_on (W : Wd) {m : Pm} {x : V} {xs : List V} {v : V} (e : vmeth m x xs = some v) : MethIs W m x xs v := by
  cases m with
  | join =>
    obtain ⟨x, hx, e⟩ := b_inv e
    rw [asStr_eq hx]; clear hx
    refine .of "str" "str.join" PySem.F.plainAttrs_str PySem.F.slot_str_join PySem.F.type_str_join (fun _ _ _ => str_type) fun A n s M a vals E Q R g mok ha hb h => ?_
    refine vstr ha fun t => p1l e hb fun ds l vs n h2 h3 e => ?_
    obtain ⟨ts, h1, e⟩ := b_inv e
    obtain ⟨q, e⟩ := ib_inv e
    exact join_list ⟨_, h2, rfl, _, rfl⟩ (h3.strs h1) (by have := szOk_le (Bool.and_eq_true_iff.mp q).2; rw [show (List.map (fun x => x.length) ts) = ts.map Str.length from rfl]; lia) fun _ _ => h _ _ _ e (SX.toks g) (.str _ _)
  | split =>
    obtain ⟨x, hx, e⟩ := b_inv e
    rw [asStr_eq hx]; clear hx
    refine .of "str" "str.split" PySem.F.plainAttrs_str PySem.F.slot_str_split PySem.F.type_str_split (fun _ _ _ => str_type) fun A n s M a vals E Q R g mok ha hb h => ?_
    refine vstr ha fun t => p1s e hb fun y u e => ?_
    obtain ⟨q, e⟩ := ib_inv e
    rw [Bool.and_eq_true, bne_iff_ne] at q
    exact split_snd g mok q.1 q.2 fun r s' sx _ _ hr => h _ _ _ e sx hr
  | startswith =>
    obtain ⟨x, hx, e⟩ := b_inv e
    rw [asStr_eq hx]; clear hx
    exact .of "str" "str.startswith" PySem.F.plainAttrs_str PySem.F.slot_str_startswith PySem.F.type_str_startswith (fun _ _ _ => str_type) fun A n s M a vals E Q R g mok ha hb h =>
      vstr ha fun t => p1s e hb fun y u e => SC.startswith (h _ _ _ e (SX.refl g) (.bool _))
  | endswith =>
    obtain ⟨x, hx, e⟩ := b_inv e
    rw [asStr_eq hx]; clear hx
    exact .of "str" "str.endswith" PySem.F.plainAttrs_str PySem.F.slot_str_endswith PySem.F.type_str_endswith (fun _ _ _ => str_type) fun A n s M a vals E Q R g mok ha hb h =>
      vstr ha fun t => p1s e hb fun y u e => SC.endswith (h _ _ _ e (SX.refl g) (.bool _))
  | find =>
    obtain ⟨x, hx, e⟩ := b_inv e
    rw [asStr_eq hx]; clear hx
    refine .of "str" "str.find" PySem.F.plainAttrs_str PySem.F.slot_str_find PySem.F.type_str_find (fun _ _ _ => str_type) fun A n s M a vals E Q R g mok ha hb h => ?_
    refine vstr ha fun t => p3 e hb fun w v y i t1 j t2 r q e => ?_
    rw [asStr_eq q] at r
    obtain ⟨q, e⟩ := ib_inv e
    exact vstr r fun u => call_gives PySem.F.slot_str_find (typeIs_str _ _ _) PySem.F.entry_str_find (PySem.F.args_str_find_4 _ _ _ _) (gives_find4 _ _ _ _ _ _ _ _ q.1 (Int.le_trans q.1 q.2.1) q.2.2.1) (h _ _ _ e (SX.toks g) (.int _ _))
  | count =>
    obtain ⟨o, hx, e⟩ := b_inv e
    rw [toD_eq hx]; clear hx
    cases o with
    | str x =>
      exact .of "str" "str.count" PySem.F.plainAttrs_str PySem.F.slot_str_count PySem.F.type_str_count (fun _ _ _ => str_type) fun A n s M a vals E Q R g mok ha hb h =>
        vstr ha fun t => p1s e hb fun y u e => SC.count (h _ _ _ e (SX.toks g) (.int _ _))
    | list xs =>
      refine .of "list" "list.count" PySem.F.plainAttrs_list PySem.F.slot_list_count PySem.F.type_list_count (fun _ _ _ => list_type) fun A n s M a vals E Q R g mok ha hb h => ?_
      refine vls ha fun l vs k _ h2 h3 => p1d e hb fun w y r e => ?_
      obtain ⟨q, e⟩ := ib_inv e
      rw [Bool.and_eq_true, Bool.and_eq_true] at q
      obtain ⟨i1, i2⟩ := eq_items R h3 r q.1.1 q.1.2
      refine call_meets PySem.F.slot_list_count ⟨_, h2, rfl⟩ PySem.F.entry_list_count (PySem.F.args_list_count_2 _ _) (SeqAt.list_countAt l vs k none #[] _ _) ⟨h2, i1, ?_⟩
      rw [← i2, List.countP_map] at e
      exact h (.int ((_ : Nat) : Int) s.toks) { s with toks := s.toks + 1 } _ e (SX.toks g) (.int _ _)
    | _ => cases e
  | index =>
    obtain ⟨xs, hx, e⟩ := b_inv e
    rw [asLst_eq hx]; clear hx
    refine .of "list" "list.index" PySem.F.plainAttrs_list PySem.F.slot_list_index PySem.F.type_list_index (fun _ _ _ => list_type) fun A n s M a vals E Q R g mok ha hb h => ?_
    refine vls ha fun l vs k _ h2 h3 => p1d e hb fun w y r e => ?_
    have hl := h3.length
    rw [Array.length_toList] at hl
    obtain ⟨q, e⟩ := ib_inv e
    rw [Bool.and_eq_true, Bool.and_eq_true] at q
    obtain ⟨j, hj, e⟩ := b_inv e
    obtain ⟨i1, i2⟩ := eq_items R h3 r q.1.1 q.1.2
    obtain ⟨k1, k2, k3⟩ := idxOf_facts hj
    have sz := szOk_le q.2
    refine call_meets PySem.F.slot_list_index ⟨_, h2, rfl⟩ PySem.F.entry_list_index (PySem.F.args_list_index_2 _ _)
      (SeqAt.list_indexAt l vs k none #[] _ (fun z => PyData.eqv (SeqAt.readOf s.heap z) _) j (hl ▸ k1) (by lia) ?_ ?_) ⟨h2, i1, h _ _ _ e (SX.toks g) (.int _ _)⟩
    · show PyData.eqv (SeqAt.readOf s.heap vs[j]) _ = true
      rw [map_at i2 j (hl ▸ k1) k1]; exact k2
    · intro m hm hlt
      show PyData.eqv (SeqAt.readOf s.heap vs[m]) _ = false
      rw [map_at i2 m hm (hl ▸ hm)]; exact k3 m (hl ▸ hm) hlt
  | bitLength =>
    obtain ⟨i, hx, e⟩ := b_inv e
    rw [asInt_eq hx]; clear hx
    obtain ⟨q, e⟩ := ib_inv e
    rw [List.isEmpty_iff.mp q]
    refine .of "int" "int.bit_length" PySem.F.plainAttrs_int slot_int_bit_length type_int_bit_length (fun s a M r => vint r fun t => ⟨typeIs_int _ _ _, fun _ e => by cases e⟩) fun A n s M a vals E Q R g mok ha hb h => ?_
    cases hb
    refine vint ha fun t => call_int_bit_length ?_
    have e1 : ((Builtin.Int.intBits i : Nat) : Int) = bitLen i := by
      unfold Builtin.Int.intBits bitLen
      by_cases z : i = 0
      · simp [z]
      · simp [z]
    rw [← e1] at e
    exact h (.int _ s.toks) { s with toks := s.toks + 1 } _ e (SX.toks g) (.int _ _)
end Mine
end
section
open PySem PySem.W PyProof.Rows
set_option maxRecDepth 4000
namespace Mine

noncomputable def pval : Pf → Value
  | .len => .builtin "len"
  | .range1 => .type "range"
  | .range2 => .type "range"
  | .range3 => .type "range"
  | .sum => .builtin "sum"
  | .chr => .builtin "chr"
  | .listOf => .type "list"
  | .isInt => .builtin "isinstance"
  | .isList => .builtin "isinstance"
  | .divmod => .builtin "divmod"
noncomputable def pmore : Pf → List Value
  | .isInt => [.type "int"]
  | .isList => [.type "list"]
  | _ => []

section
variable {W : Wd} {A : Around} {n : Nat} {E : Value → Shared → Prop} {s : Shared} {M : List Addr} {v : V}

theorem fresh_ne {h : Heap} {M : List Addr} (mok : MOk h M) : h.objs.size ∉ M := mok.fresh (fresh_none _)

theorem reps_signs {h : Heap} {M : List Addr} {x : Str} {acc : Array Value} (e : ItemsOf (SignAt x) acc x.cps.size) : Reps h M acc.toList (x.cps.toList.map fun c => .str ⟨#[c]⟩) := by
  refine Reps.of_get (by simp [e.1]) fun i v d h1 h2 => ?_
  obtain ⟨c, u, hc, rfl⟩ := e.2 i v (by simpa using h1)
  simp only [List.getElem?_map, Array.getElem?_toList, hc, Option.map_some] at h2
  cases h2
  exact .str _ _

theorem prim_snd {f : Pf} {vals : List Value} {xs : List V} {Q : Value → Shared → Prop} (R : Room A n) (g : Good W s) (mok : MOk s.heap M) (hb : VReps s.heap M vals xs) (e : vprim f xs = some v)
    (h : ∀ r s', SX W s s' → VRep s'.heap M r v → Q r s') : wpAny (model W.prog W.w) A (call (pval f) (vals ++ pmore f) []) Q E s := by
  have hh := R.handled
  have h : ∀ {r s' u}, some u = some v → SX W s s' → VRep s'.heap M r u → Q r s' := fun {r s' u} q x y => h r s' x (Option.some.inj q ▸ y)
  cases f with
  | len =>
    refine p1 e hb fun w v r e => ?_
    obtain ⟨k, h2, e9⟩ := b_inv e
    obtain ⟨q, e9⟩ := ib_inv e9
    clear e
    have L : ∀ {l vs n}, s.heap.get? l = some (plainL vs n) → vs.size = k → wpAny (model W.prog W.w) A (call (.builtin "len") [.ref l] []) Q E s := fun {l vs n} e1 e2 =>
      PyProof.Rows.len_list ⟨_, e1, rfl, _, rfl⟩ (by lia) (h e9 (SX.toks g) (by rw [e2]; exact .int _ _))
    cases v with
    | r => cases h2
    | o xs => exact vown r fun l vs n e1 e2 => L e1 (by rw [← Array.length_toList, e2.length]; exact Option.some.inj h2)
    | d x =>
      cases x with
      | list xs => exact vls r fun l vs n _ e1 e2 => L e1 (by rw [← Array.length_toList, e2.length]; exact Option.some.inj h2)
      | tuple xs =>
        refine vtup r fun l vs n _ e1 e2 => ?_
        have e2 : vs.size = k := by rw [← Array.length_toList, e2.length]; exact Option.some.inj h2
        exact PyProof.Rows.len_tuple ⟨_, e1, rfl, _, rfl⟩ (by lia) (h e9 (SX.toks g) (by rw [e2]; exact .int _ _))
      | str x =>
        have e2 : x.length = k := Option.some.inj h2
        exact vstr r fun t => PySem.P.len_str (by lia) (h e9 (SX.toks g) (by rw [e2]; exact .int _ _))
      | _ => cases h2
  | range1 => exact p1i e hb fun k t e => call_range_1 (h e (SX.push g) ⟨_, _, _, _, rfl, fresh_ne mok, Heap.get?_push_size _ rfl⟩)
  | range2 => exact p2 e hb fun i t j u e => call_range_2 (h e (SX.push g) ⟨_, _, _, _, rfl, fresh_ne mok, Heap.get?_push_size _ rfl⟩)
  | range3 =>
    refine p3 e hb fun w v i j t2 k t3 r1 r2 e => ?_
    obtain ⟨q, e⟩ := ib_inv e
    rw [Bool.and_eq_true, bne_iff_ne] at q
    rw [asInt_eq r2] at r1
    exact vint r1 fun t => call_range_3 q.1 (h e (SX.push g) ⟨_, _, _, _, rfl, fresh_ne mok, Heap.get?_push_size _ rfl⟩) (.inl (noPy q.2))
  | sum =>
    refine p1l e hb fun ds l vs k h2 h4 e => ?_
    obtain ⟨ns, h3, e⟩ := b_inv e
    obtain ⟨q, e⟩ := ib_inv e
    obtain ⟨ps, e1, rfl⟩ := h4.ints h3
    have e3 : vs = intItems ps.toArray := by
      have : vs.toList.toArray = (ps.map (fun p => Value.int p.1 p.2)).toArray := by rw [e1]
      simpa [intItems] using this
    rw [e3] at h2
    have e4 : preSum (numAt ps.toArray) ps.toArray.size = (ps.map (·.1)).sum := by
      rw [show ps.toArray.size = ps.length from by simp, preSum_take ps _ (Nat.le_refl _), List.take_of_length_le (by simp)]
    exact sum_intList hh ⟨_, h2, rfl, _, rfl⟩ (sumFits q) fun h' tk t' hk => h e (SX.of_keep g hk) (by rw [e4]; exact .int _ _)
  | chr =>
    refine p1i e hb fun k t e => ?_
    obtain ⟨q, e⟩ := ib_inv e
    exact chr_of_range q.1 (by lia) (h e (SX.toks g) (.str _ _))
  | listOf =>
    refine p1s e hb fun x t e => ?_
    obtain ⟨q, e⟩ := ib_inv e
    exact call_list_str hh _ t (fun h' tk acc c' hk hn hi => h e (SX.of_keep g hk) (.list (fresh_ne mok) hn (reps_signs hi))) (Nat.le_trans (szOk_le q) (by decide))
  | isInt => exact p1i e hb fun k t e => IsiPair.int_int (h e (SX.refl g) (.bool _))
  | isList => exact p1l e hb fun ds l vs k h2 _ e => IsiPair.list_list h2 rfl (h e (SX.refl g) (.bool _))
  | divmod =>
    refine p2 e hb fun i t j u e => ?_
    obtain ⟨q, e⟩ := ib_inv e
    rw [Bool.and_eq_true, bne_iff_ne] at q
    exact divmod_int q.1 (h e (SX.push (tk := s.toks + 1 + 1) g) (newT (tk := s.toks) g mok (.cons (.int _ _) (.cons (.int _ _) .nil)))) (.inl (noPy q.2))
end
end Mine
end
section
open PySem PySem.W PyProof.Rows
set_option maxRecDepth 4000
namespace Mine

section
variable {W : Wd} {Γ : Gam} {sc : Scope}

theorem snd_int {i : Int} {k : Nat} {p : Pos} : SndE W Γ sc (.Constant (.int i) k p) (.lit (.int i)) := fun n Φ A s env M ρ v E Q c e h => by
  cases e; exact wpAny_Constant_int (h _ _ (SX.toks c.good) (.int _ _))
theorem snd_str {x : Str} {k : Nat} {p : Pos} : SndE W Γ sc (.Constant (.str x) k p) (.lit (.str x)) := fun n Φ A s env M ρ v E Q c e h => by
  cases e; exact wpAny_Constant_str (h _ _ (SX.toks c.good) (.str _ _))
theorem snd_bool {b : Bool} {k : Nat} {p : Pos} : SndE W Γ sc (.Constant (.bool b) k p) (.lit (.bool b)) := fun n Φ A s env M ρ v E Q c e h => by
  cases e; exact wpAny_Constant_bool (h _ _ (SX.refl c.good) (.bool _))
theorem snd_none {k : Nat} {p : Pos} : SndE W Γ sc (.Constant .none k p) (.lit .none) := fun n Φ A s env M ρ v E Q c e h => by
  cases e; exact wpAny_Constant_none (h _ _ (SX.refl c.good) .none)

noncomputable def okName (x : Str) : Bool := !(x == ("__debug__" : Str)) && !(x == ("__classdict__" : Str))
theorem okName_1 {x : Str} (h : okName x = true) : (x == ("__debug__" : Str)) = false := by
  unfold okName at h; rw [Bool.and_eq_true] at h; simpa using h.1
theorem okName_2 {x : Str} (h : okName x = true) : (x == ("__classdict__" : Str)) = false := by
  unfold okName at h; rw [Bool.and_eq_true] at h; simpa using h.2

theorem load_var {M : Model} {A : Around} {E : Value → Shared → Prop} {s : Shared} {env : Env} {x : Str} {p : Pos} {v : Value} {Q : Value → Shared → Prop} (ho : okName x = true) (hk : env.scope.kind = .function)
    (hv : VarAt s.heap env x v) (h : Q v s) : wpAny M A (eval (.Name x p) env) Q E s := by
  refine wpAny_Name ?_ (okName_1 ho)
  rcases hv with ⟨k, m, n, e⟩ | ⟨k | k, c, e, n⟩
  · exact wpAny_loadName_local hk k n e h
  · exact wpAny_loadName_cell hk k e n h
  · exact wpAny_loadName_free hk k e n h (okName_2 ho)

theorem snd_var {x : Str} {p : Pos} {i : Nat} (ho : okName x = true) (hl : Γ.vars.lookup x = some i) : SndE W Γ sc (.Name x p) (.var i) := fun n Φ A s env M ρ v E Q c e h => by
  have hk : env.scope.kind = .function := by rw [c.env.scope]; exact c.env.kind
  obtain ⟨sl, hu, e⟩ := b_inv e
  have q := c.vis x i hl _ hu
  cases sl with
  | un => cases e
  | sh u => exact q.2.elim fun val q => load_var ho hk q.1 (h _ _ (SX.refl c.good) (Option.some.inj e ▸ q.2))
  | ow xs => exact q.elim fun a q => load_var ho hk q.1 (h _ _ (SX.refl c.good) (Option.some.inj e ▸ ⟨a, rfl, q.2⟩))

theorem snd_cst {x : Str} {p : Pos} {d : PyData} (ho : okName x = true) (hk : sc.names.lookup x = some .globalImplicit) (hm : (x, d) ∈ W.csts) : SndE W Γ sc (.Name x p) (.lit d) := fun n Φ A s env M ρ v E Q c e h => by
  cases e
  have hk1 : env.scope.kind = .function := by rw [c.env.scope]; exact c.env.kind
  have hk2 : env.kindOf x = some .globalImplicit := by unfold Env.kindOf; rw [c.env.scope]; exact hk
  obtain ⟨val, h1, h2⟩ := W.cstG _ hm
  refine Calls.Name_function_global hk1 hk2 (Calls.loadGlobal_global (by rw [c.env.globals]; exact W.g c.good.ok) h1 ?_) (okName_1 ho)
  rcases h2 d rfl with ⟨i, t, rfl, rfl⟩ | ⟨z, t, rfl, rfl⟩
  · exact h _ _ (SX.refl c.good) (.int _ _)
  · exact h _ _ (SX.refl c.good) (.str _ _)

theorem load_glob {A : Around} {E : Value → Shared → Prop} {s : Shared} {env : Env} {x : Str} {p : Pos} {v : Value} {Q : Value → Shared → Prop} (g : Good W s) (ek : EnvOk env sc) (ho : okName x = true) (hk : sc.names.lookup x = some .globalImplicit)
    (hv : W.mg x = some v ∨ (W.mg x = none ∧ W.mb x = some v)) (h : Q v s) : wpAny (model W.prog W.w) A (eval (.Name x p) env) Q E s := by
  have hk1 : env.scope.kind = .function := by rw [ek.scope]; exact ek.kind
  have hk2 : env.kindOf x = some .globalImplicit := by unfold Env.kindOf; rw [ek.scope]; exact hk
  refine Calls.Name_function_global hk1 hk2 ?_ (okName_1 ho)
  rcases hv with hv | ⟨h1, h2⟩
  · exact Calls.loadGlobal_global (by rw [ek.globals]; exact W.g g.ok) hv h
  · exact Calls.loadGlobal_builtin (by rw [ek.globals]; exact W.g g.ok) h1 (by rw [ek.builtins]; exact W.b g.ok) h2 h

theorem snd_bin {op : Operator} {a b : Expr} {ca cb : CE} {p : Pos} (ha : SndE W Γ sc a ca) (hb : SndE W Γ sc b cb) : SndE W Γ sc (.BinOp a op b p) (.bin op ca cb) := fun n Φ A s env M ρ v E Q c e h => by
  refine Classical.byContradiction fun hQ => ?_
  obtain ⟨x, e1, e⟩ := b_inv e
  obtain ⟨y, e2, e⟩ := b_inv e
  (refine hQ ?_; clear hQ)
  refine wpAny_BinOp (ha n Φ A s env M ρ x E _ c e1 fun xv s₁ x1 r1 => hb n Φ A s₁ env M ρ y E _ (c.ext x1) e2 fun yv s₂ x2 r2 => ?_)
  exact bin_snd c.room.handled x2.good ((c.ext x1).ext x2).mok (r1.ext x2) r2 e fun r s' x3 r3 => h _ _ ((x1.trans x2).trans x3) r3

theorem snd_un {op : UnaryOp} {a : Expr} {ca : CE} {p : Pos} (ha : SndE W Γ sc a ca) : SndE W Γ sc (.UnaryOp op a p) (.un op ca) := fun n Φ A s env M ρ v E Q c e h => by
  refine Classical.byContradiction fun hQ => ?_
  obtain ⟨x, e1, e⟩ := b_inv e
  (refine hQ ?_; clear hQ)
  refine wpAny_UnaryOp (ha n Φ A s env M ρ x E _ c e1 fun xv s₁ x1 r1 => ?_)
  exact un_snd x1.good r1 e fun r s' x3 r3 => h _ _ (x1.trans x3) r3

theorem snd_ite {t a b : Expr} {ct ca cb : CE} {p : Pos} (ht : SndT W Γ sc t ct) (ha : SndE W Γ sc a ca) (hb : SndE W Γ sc b cb) : SndE W Γ sc (.IfExp t a b p) (.ite ct ca cb) := fun n Φ A s env M ρ v E Q c e h => by
  refine Classical.byContradiction fun hQ => ?_
  obtain ⟨x, e1, e⟩ := b_inv e
  obtain ⟨k, e2, e⟩ := b_inv e
  (refine hQ ?_; clear hQ)
  refine wpAny_IfExp (ht n Φ A s env M ρ x k E _ c e1 e2 fun s₁ x1 => ?_)
  cases k with
  | true => exact ha n Φ A s₁ env M ρ v E _ (c.ext x1) e fun r s' x3 r3 => h _ _ (x1.trans x3) r3
  | false => exact hb n Φ A s₁ env M ρ v E _ (c.ext x1) e fun r s' x3 r3 => h _ _ (x1.trans x3) r3

/-- a test of an expression that has no form of its own -/
theorem sndT_of {e : Expr} {ce : CE} (he : SndE W Γ sc e ce) (hp : ∀ env (w : Sem Value), isTrue e env w = (do let v ← w; standAt e.pos; holding [v] (truthy v))) : SndT W Γ sc e ce := fun n Φ A s env M ρ v k E Q c e1 e2 h => by
  rw [hp]
  refine wpAny_bind (he n Φ A s env M ρ v E _ c e1 fun xv s₁ x1 r1 => wpAny_bind (wpAny_standAt (wpAny_holding ?_)))
  exact truth_snd x1.good r1 e2 fun s' x2 => h _ (x1.trans x2)

theorem sndT_not {a : Expr} {ca : CE} {p : Pos} (ha : SndT W Γ sc a ca) : SndT W Γ sc (.UnaryOp .Not a p) (.un .Not ca) := fun n Φ A s env M ρ v k E Q c e1 e2 h => by
  obtain ⟨x, h1, e1⟩ := b_inv e1
  obtain ⟨k', h2, e1⟩ := b_inv e1
  rw [← Option.some.inj e1] at e2
  rw [← Option.some.inj e2] at h
  exact wpAny_isTrue_Not (ha n Φ A s env M ρ x k' E _ c h1 h2 h)

theorem sndT_ite {t a b : Expr} {ct ca cb : CE} {p : Pos} (ht : SndT W Γ sc t ct) (ha : SndT W Γ sc a ca) (hb : SndT W Γ sc b cb) : SndT W Γ sc (.IfExp t a b p) (.ite ct ca cb) := fun n Φ A s env M ρ v k E Q c e e3 h => by
  refine Classical.byContradiction fun hQ => ?_
  obtain ⟨x, e1, e⟩ := b_inv e
  obtain ⟨k', e2, e⟩ := b_inv e
  (refine hQ ?_; clear hQ)
  show wpAny _ A (isTrue t env (eval t env) >>= fun z => if z = true then isTrue a env (eval a env) else isTrue b env (eval b env)) Q E s
  refine wpAny_bind (ht n Φ A s env M ρ x k' E _ c e1 e2 fun s₁ x1 => ?_)
  cases k' with
  | true => exact ha n Φ A s₁ env M ρ v k E _ (c.ext x1) e e3 fun s' x3 => h _ (x1.trans x3)
  | false => exact hb n Φ A s₁ env M ρ v k E _ (c.ext x1) e e3 fun s' x3 => h _ (x1.trans x3)

end
end Mine
end
section
open PySem PySem.W PyProof.Rows
set_option maxRecDepth 4000
namespace Mine

noncomputable def isStar (e : Expr) : Bool := e.ctorIdx == 22
theorem starEach_cons {e : Expr} {rest : List Expr} {env : Env} (h : isStar e = false) : starEach (e :: rest) env = (false, eval e env) :: starEach rest env := by
  cases e <;> first | rfl | cases h

inductive SndL (W : Wd) (Γ : Gam) (sc : Scope) : List Expr → List CE → Prop
  | nil : SndL W Γ sc [] []
  | cons {e : Expr} {c : CE} {es : List Expr} {cs : List CE} : isStar e = false → SndE W Γ sc e c → SndL W Γ sc es cs → SndL W Γ sc (e :: es) (c :: cs)

section
variable {W : Wd} {Γ : Gam} {sc : Scope}

theorem snd_args {es : List Expr} {cs : List CE} (H : SndL W Γ sc es cs) : ∀ {n : Nat} {Φ : Fns} {A : Around} {s : Shared} {env : Env} {M : List Addr} {ρ : Ev} {xs : List V} {E : Value → Shared → Prop} {pos : Pos} {Q : List Value → Shared → Prop},
    Cx W Γ sc n Φ A s env M ρ → cevals Φ cs ρ = some xs → (∀ vals s', SX W s s' → VReps s'.heap M vals xs → Q vals s') → wpAny (model W.prog W.w) A (spliced (backTo pos (starEach es env))) Q E s := by
  induction H with
  | nil => intro n Φ A s env M ρ xs E pos Q c e h; cases e; exact wpAny_items_nil (h _ _ (SX.refl c.good) .nil)
  | cons hs he _ ih =>
    intro n Φ A s env M ρ xs E pos Q c e h
    refine Classical.byContradiction fun hQ => ?_
    obtain ⟨x, e1, e⟩ := b_inv e
    obtain ⟨ys, e2, rfl⟩ := Option.map_eq_some_iff.mp e
    (refine hQ ?_; clear hQ)
    exact wpAny_items_cons (he n Φ A s env M ρ x E _ c e1 fun xv s₁ x1 r1 => ih (c.ext x1) e2 fun vals s₂ x2 r2 => h _ _ (x1.trans x2) (.cons (r1.ext x2) r2)) (starEach_cons hs)

theorem snd_argsD {es : List Expr} {cs : List CE} (H : SndL W Γ sc es cs) : ∀ {n : Nat} {Φ : Fns} {A : Around} {s : Shared} {env : Env} {M : List Addr} {ρ : Ev} {xs : List PyData} {E : Value → Shared → Prop} {pos : Pos} {Q : List Value → Shared → Prop},
    Cx W Γ sc n Φ A s env M ρ → cevalsD Φ cs ρ = some xs → (∀ vals s', SX W s s' → Reps s'.heap M vals xs → Q vals s') → wpAny (model W.prog W.w) A (spliced (backTo pos (starEach es env))) Q E s := by
  induction H with
  | nil => intro n Φ A s env M ρ xs E pos Q c e h; cases e; exact wpAny_items_nil (h _ _ (SX.refl c.good) .nil)
  | cons hs he _ ih =>
    intro n Φ A s env M ρ xs E pos Q c e h
    refine Classical.byContradiction fun hQ => ?_
    obtain ⟨x, e1, e⟩ := b_inv e
    obtain ⟨d, e3, e⟩ := b_inv e
    obtain ⟨ys, e2, rfl⟩ := Option.map_eq_some_iff.mp e
    (refine hQ ?_; clear hQ)
    cases x with
    | d x => cases e3; exact wpAny_items_cons (he n Φ A s env M ρ _ E _ c e1 fun xv s₁ x1 r1 => ih (c.ext x1) e2 fun vals s₂ x2 r2 => h _ _ (x1.trans x2) (.cons (Rep.ext x2 r1) r2)) (starEach_cons hs)
    | r => cases e3
    | o => cases e3

theorem reps_list {vs : List Value} {xs : List PyData} {h : Heap} {M : List Addr} (r : Reps h M vs xs) : Reps h M vs.toArray.toList xs := r

theorem snd_list {es : List Expr} {cs : List CE} {p : Pos} (H : SndL W Γ sc es cs) : SndE W Γ sc (.List es p) (.list cs) := fun n Φ A s env M ρ v E Q c e h => by
  refine Classical.byContradiction fun hQ => ?_
  obtain ⟨xs, e1, e⟩ := b_inv e
  (refine hQ ?_; clear hQ)
  split at e
  · rename_i q; cases e
    refine wpAny_List (snd_argsD H c e1 fun vals s₁ x1 r1 => ⟨?_, h _ _ (x1.trans (SX.push (tk := s₁.toks) x1.good)) (newL (tk := s₁.toks) x1.good (c.ext x1).mok r1)⟩)
    have := szOk_le q; rw [r1.length]; unfold sizeLine; lia
  · cases e

theorem snd_tup {es : List Expr} {cs : List CE} {k : Nat} {p : Pos} (H : SndL W Γ sc es cs) : SndE W Γ sc (.Tuple es k p) (.tup cs) := fun n Φ A s env M ρ v E Q c e h => by
  refine Classical.byContradiction fun hQ => ?_
  obtain ⟨xs, e1, e⟩ := b_inv e
  (refine hQ ?_; clear hQ)
  split at e
  · rename_i q; cases e
    refine wpAny_Tuple (snd_argsD H c e1 fun vals s₁ x1 r1 => ⟨?_, h _ _ (x1.trans (SX.push (tk := s₁.toks) x1.good)) (newT (tk := s₁.toks) x1.good (c.ext x1).mok r1)⟩)
    have := szOk_le q; rw [r1.length]; unfold sizeLine; lia
  · cases e

theorem snd_item {a i : Expr} {ca ci : CE} {p : Pos} (ha : SndE W Γ sc a ca) (hi : SndE W Γ sc i ci) : SndE W Γ sc (.Subscript a i p) (.item ca ci) := fun n Φ A s env M ρ v E Q c e h => by
  refine Classical.byContradiction fun hQ => ?_
  obtain ⟨x, e1, e⟩ := b_inv e
  obtain ⟨y, e2, e⟩ := b_inv e
  (refine hQ ?_; clear hQ)
  refine Subscript_ (ha n Φ A s env M ρ x E _ c e1 fun xv s₁ x1 r1 => hi n Φ A s₁ env M ρ y E _ (c.ext x1) e2 fun yv s₂ x2 r2 => ?_)
  exact item_snd x2.good (r1.ext x2) r2 e fun r s' x3 r3 => h _ _ ((x1.trans x2).trans x3) r3

inductive SndP (W : Wd) (Γ : Gam) (sc : Scope) : Option Expr → Option CE → Prop
  | none : SndP W Γ sc none none
  | some {e : Expr} {c : CE} : SndE W Γ sc e c → SndP W Γ sc (some e) (some c)

theorem snd_part {eo : Option Expr} {co : Option CE} (H : SndP W Γ sc eo co) {n : Nat} {Φ : Fns} {A : Around} {s : Shared} {env : Env} {M : List Addr} {ρ : Ev} {k : Option Int} {E : Value → Shared → Prop} {Q : Value → Shared → Prop}
    (c : Cx W Γ sc n Φ A s env M ρ) (e : cpart Φ co ρ = some k) (h : ∀ x s', SX W s s' → IsPart x k → Q x s') : wpAny (model W.prog W.w) A (evalPart eo env) Q E s := by
  cases H with
  | none => cases e; exact wpAny_pure (h _ _ (SX.refl c.good) .none)
  | some he =>
    obtain ⟨x, e1, e⟩ := b_inv e
    obtain ⟨i, e2, e⟩ := b_inv e
    rw [asInt_eq e2] at e1
    rw [← Option.some.inj e] at h
    exact he n Φ A s env M ρ _ E _ c e1 fun xv s₁ x1 r1 => vint r1 fun t => h _ _ x1 (.int _ _)

theorem snd_slice {a : Expr} {ca : CE} {lo hi st : Option Expr} {cl ch ck : Option CE} {p q : Pos} (ha : SndE W Γ sc a ca) (hl : SndP W Γ sc lo cl) (hh : SndP W Γ sc hi ch) (hk : SndP W Γ sc st ck) :
    SndE W Γ sc (.Subscript a (.Slice lo hi st q) p) (.slice ca cl ch ck) := fun n Φ A s env M ρ v E Q c e h => by
  refine Classical.byContradiction fun hQ => ?_
  obtain ⟨x, e1, e⟩ := b_inv e
  obtain ⟨l, e2, e⟩ := b_inv e
  obtain ⟨u, e3, e⟩ := b_inv e
  obtain ⟨k, e4, e⟩ := b_inv e
  (refine hQ ?_; clear hQ)
  refine Subscript_ (ha n Φ A s env M ρ x E _ c e1 fun xv s₁ x1 r1 => wpAny_Slice (snd_part hl (c.ext x1) e2 fun lv s₂ x2 p2 => snd_part hh ((c.ext x1).ext x2) e3 fun uv s₃ x3 p3 =>
    snd_part hk (((c.ext x1).ext x2).ext x3) e4 fun kv s₄ x4 p4 => ?_))
  have y := ((x2.trans x3).trans x4)
  have z := SX.push (o := { cls := .type "slice", data := .fields #[lv, uv, kv] }) (tk := s₄.toks) x4.good
  exact slice_snd z.good (((c.ext x1).ext y).ext z).mok ((r1.ext y).ext z) (Heap.get?_push_size _ rfl) p2 p3 p4 e fun r s' x5 r5 => h _ _ (((x1.trans y).trans z).trans x5) r5

theorem cmp_marks {op : CmpOp} {r : Expr} (h : ∀ es k p, r ≠ .Set es k p) : behindInMarks op r = false := by
  cases r <;> first | rfl | exact absurd rfl (h _ _ _)

noncomputable def isSet (e : Expr) : Bool := e.ctorIdx == 7
theorem isSet_no {r : Expr} (h : isSet r = false) : ∀ es k p, r ≠ .Set es k p := fun _ _ _ e => by subst e; cases h

theorem snd_cmp {op : CmpOp} {a b : Expr} {ca cb : CE} {p : Pos} (ha : SndE W Γ sc a ca) (hb : SndE W Γ sc b cb) (hs : isSet b = false) : SndE W Γ sc (.Compare a [op] [b] p) (.cmp op ca cb) := fun n Φ A s env M ρ v E Q c e h => by
  refine Classical.byContradiction fun hQ => ?_
  obtain ⟨x, e1, e⟩ := b_inv e
  obtain ⟨y, e2, e⟩ := b_inv e
  (refine hQ ?_; clear hQ)
  refine wpAny_Compare1 (ha n Φ A s env M ρ x E _ c e1 fun xv s₁ x1 r1 => hb n Φ A s₁ env M ρ y E _ (c.ext x1) e2 fun yv s₂ x2 r2 => ?_) (cmp_marks (isSet_no hs))
  exact cmp_snd c.room x2.good (r1.ext x2) r2 e fun r s' x3 r3 => h _ _ ((x1.trans x2).trans x3) r3

theorem sndT_cmp {op : CmpOp} {a b : Expr} {ca cb : CE} {p : Pos} (ha : SndE W Γ sc a ca) (hb : SndE W Γ sc b cb) (hs : isSet b = false) : SndT W Γ sc (.Compare a [op] [b] p) (.cmp op ca cb) := fun n Φ A s env M ρ v k E Q c e e3 h => by
  refine Classical.byContradiction fun hQ => ?_
  obtain ⟨x, e1, e⟩ := b_inv e
  obtain ⟨y, e2, e⟩ := b_inv e
  (refine hQ ?_; clear hQ)
  refine wpAny_isTrue_Compare1 (ha n Φ A s env M ρ x E _ c e1 fun xv s₁ x1 r1 => hb n Φ A s₁ env M ρ y E _ (c.ext x1) e2 fun yv s₂ x2 r2 => ?_) (cmp_marks (isSet_no hs))
  exact cmp_snd c.room x2.good (r1.ext x2) r2 e fun r s' x3 r3 => truth_snd x3.good r3 e3 fun s₄ x4 => h _ (((x1.trans x2).trans x3).trans x4)

theorem marks2 {o1 o2 : CmpOp} {b d : Expr} (hs : isSet d = false) : lastMarks [o1, o2] [b, d] = false := by
  show behindInMarks o2 d = false
  exact cmp_marks (isSet_no hs)

theorem snd_cmp2 {o1 o2 : CmpOp} {a b d : Expr} {ca cb cd : CE} {p : Pos} (ha : SndE W Γ sc a ca) (hb : SndE W Γ sc b cb) (hd : SndE W Γ sc d cd) (hs : isSet d = false) :
    SndE W Γ sc (.Compare a [o1, o2] [b, d] p) (.cmp2 o1 o2 ca cb cd) := fun n Φ A s env M ρ v E Q c e h => by
  refine Classical.byContradiction fun hQ => ?_
  obtain ⟨x, e1, e⟩ := b_inv e
  obtain ⟨y, e2, e⟩ := b_inv e
  obtain ⟨t, e3, e⟩ := b_inv e
  obtain ⟨k, e4, e⟩ := b_inv e
  (refine hQ ?_; clear hQ)
  refine Compare_chain (ha n Φ A s env M ρ x E _ c e1 fun xv s₁ x1 r1 => chain_link (hb n Φ A s₁ env M ρ y E _ (c.ext x1) e2 fun yv s₂ x2 r2 => ?_)) (marks2 hs)
  refine cmp_snd c.room x2.good (r1.ext x2) r2 e3 fun r s₃ x3 r3 => truth_snd x3.good r3 e4 fun s₄ x4 => ?_
  cases k with
  | false => cases e; exact h _ _ (((x1.trans x2).trans x3).trans x4) (r3.ext x4)
  | true =>
    obtain ⟨z, e5, e⟩ := b_inv e
    refine chain_last (hd n Φ A s₄ env M ρ z E _ ((((c.ext x1).ext x2).ext x3).ext x4) e5 fun zv s₅ x5 r5 => ?_)
    exact cmp_snd c.room x5.good (((r2.ext x3).ext x4).ext x5) r5 e fun r s' x6 r6 => h _ _ (((((x1.trans x2).trans x3).trans x4).trans x5).trans x6) r6

theorem test_link {M : Model} {A : Around} {E : Value → Shared → Prop} {s : Shared} {pos : Pos} {a : Value} {op op' : CmpOp} {r r' : Sem Value} {Q : Bool → Shared → Prop}
    (h : wpAny M A r (fun b s₁ => wpAny M A (compareOp op a b) (fun c s₂ => wpAny M A (truthy c)
      (fun t s₃ => if t then wpAny M A (testChain pos b [op'] [r']) Q E s₃ else Q false s₃) E s₂) E s₁) E s) :
    wpAny M A (testChain pos a [op, op'] [r, r']) Q E s := by
  show wpAny M A (do
    let rv ← holding [a] r
    standAt pos
    let c ← holding [a, rv] (compareOp op a rv)
    release [a, rv] [c]
    if ← holding [c, rv] (truthy c) then testChain pos rv [op'] [r'] else pure false) Q E s
  refine wpAny_bind (wpAny_holding (wpAny_mono h (fun b s₁ h₁ => wpAny_bind (wpAny_standAt (wpAny_bind (wpAny_holding (wpAny_mono h₁ (fun c s₂ h₂ =>
    wpAny_bind (wpAny_release' (wpAny_bind (wpAny_holding (wpAny_mono h₂ (fun t s₃ h₃ => ?_) fun _ _ x => x))))) fun _ _ x => x))))) fun _ _ x => x))
  cases t with
  | false => exact wpAny_pure h₃
  | true => exact h₃
theorem test_last {M : Model} {A : Around} {E : Value → Shared → Prop} {s : Shared} {pos : Pos} {a : Value} {op : CmpOp} {r : Sem Value} {Q : Bool → Shared → Prop}
    (h : wpAny M A r (fun b s₁ => wpAny M A (compareOp op a b) (fun c s₂ => wpAny M A (truthy c) Q E s₂) E s₁) E s) : wpAny M A (testChain pos a [op] [r]) Q E s := by
  show wpAny M A (do
    let rv ← holding [a] r
    standAt pos
    let c ← operate [a, rv] (compareOp op a rv)
    holding [c] (truthy c)) Q E s
  exact wpAny_bind (wpAny_holding (wpAny_mono h (fun b s₁ h₁ => wpAny_bind (wpAny_standAt (wpAny_bind (wpAny_operate' (wpAny_mono h₁ (fun c s₂ h₂ => wpAny_holding h₂) fun _ _ x => x))))) fun _ _ x => x))

theorem sndT_cmp2 {o1 o2 : CmpOp} {a b d : Expr} {ca cb cd : CE} {p : Pos} (ha : SndE W Γ sc a ca) (hb : SndE W Γ sc b cb) (hd : SndE W Γ sc d cd) (hs : isSet d = false) :
    SndT W Γ sc (.Compare a [o1, o2] [b, d] p) (.cmp2 o1 o2 ca cb cd) := fun n Φ A s env M ρ v k E Q c e ek h => by
  refine Classical.byContradiction fun hQ => ?_
  obtain ⟨x, e1, e⟩ := b_inv e
  obtain ⟨y, e2, e⟩ := b_inv e
  obtain ⟨t, e3, e⟩ := b_inv e
  obtain ⟨k', e4, e⟩ := b_inv e
  (refine hQ ?_; clear hQ)
  refine isTrue_chain (ha n Φ A s env M ρ x E _ c e1 fun xv s₁ x1 r1 => test_link (hb n Φ A s₁ env M ρ y E _ (c.ext x1) e2 fun yv s₂ x2 r2 => ?_)) (marks2 hs)
  refine cmp_snd c.room x2.good (r1.ext x2) r2 e3 fun r s₃ x3 r3 => truth_snd x3.good r3 e4 fun s₄ x4 => ?_
  cases k' with
  | false => cases e; rw [e4] at ek; cases ek; exact h _ (((x1.trans x2).trans x3).trans x4)
  | true =>
    refine Classical.byContradiction fun hQ => ?_
    obtain ⟨z, e5, e⟩ := b_inv e
    (refine hQ ?_; clear hQ)
    refine test_last (hd n Φ A s₄ env M ρ z E _ ((((c.ext x1).ext x2).ext x3).ext x4) e5 fun zv s₅ x5 r5 => ?_)
    exact cmp_snd c.room x5.good (((r2.ext x3).ext x4).ext x5) r5 e fun r s' x6 r6 => truth_snd x6.good r6 ek fun s₇ x7 => h _ ((((((x1.trans x2).trans x3).trans x4).trans x5).trans x6).trans x7)

/-- a row of operands of «and» or «or» -/
noncomputable def SndB (W : Wd) (Γ : Gam) (sc : Scope) (op : BoolOp) (es : List Expr) (c : CE) : Prop :=
  ∀ (n : Nat) (Φ : Fns) (A : Around) (s : Shared) (env : Env) (M : List Addr) (ρ : Ev) (v : V) (pos : Pos) (E : Value → Shared → Prop) (Q : Value → Shared → Prop),
    Cx W Γ sc n Φ A s env M ρ → ceval Φ c ρ = some v → (∀ x s', SX W s s' → VRep s'.heap M x v → Q x s') → wpAny (model W.prog W.w) A (boolOp pos op (evalEach es env)) Q E s
theorem sndB_one {op : BoolOp} {e : Expr} {ce : CE} (h : SndE W Γ sc e ce) : SndB W Γ sc op [e] ce := fun n Φ A s env M ρ v pos E Q c e1 hq => h n Φ A s env M ρ v E Q c e1 hq
theorem sndB_cons {op : BoolOp} {e e' : Expr} {es : List Expr} {ce cr : CE} (he : SndE W Γ sc e ce) (hr : SndB W Γ sc op (e' :: es) cr) : SndB W Γ sc op (e :: e' :: es) (.boolop op ce cr) := fun n Φ A s env M ρ v pos E Q c e1 hq => by
  refine Classical.byContradiction fun hQ => ?_
  obtain ⟨x, e2, e1⟩ := b_inv e1
  obtain ⟨k, e3, e1⟩ := b_inv e1
  (refine hQ ?_; clear hQ)
  show wpAny _ A (do
    let v ← eval e env
    standAt pos
    let t ← holding [v] (truthy v)
    match op, t with
    | .And, false | .Or, true => pure v
    | _, _ => boolOp pos op (evalEach (e' :: es) env)) Q E s
  refine wpAny_bind (he n Φ A s env M ρ x E _ c e2 fun xv s₁ x1 r1 => wpAny_bind (wpAny_standAt (wpAny_bind (wpAny_holding (truth_snd x1.good r1 e3 fun s₂ x2 => ?_)))))
  cases op with
  | And =>
    cases k with
    | true => exact hr n Φ A s₂ env M ρ v pos E Q ((c.ext x1).ext x2) e1 fun r s' x3 r3 => hq _ _ ((x1.trans x2).trans x3) r3
    | false => cases e1; exact wpAny_pure (hq _ _ (x1.trans x2) (r1.ext x2))
  | Or =>
    cases k with
    | false => exact hr n Φ A s₂ env M ρ v pos E Q ((c.ext x1).ext x2) e1 fun r s' x3 r3 => hq _ _ ((x1.trans x2).trans x3) r3
    | true => cases e1; exact wpAny_pure (hq _ _ (x1.trans x2) (r1.ext x2))
theorem snd_bool_op {op : BoolOp} {es : List Expr} {ce : CE} {p : Pos} (h : SndB W Γ sc op es ce) : SndE W Γ sc (.BoolOp op es p) ce := fun n Φ A s env M ρ v E Q c e1 hq => h n Φ A s env M ρ v p E Q c e1 hq

noncomputable def SndBT (W : Wd) (Γ : Gam) (sc : Scope) (op : BoolOp) (es : List Expr) (c : CE) : Prop :=
  ∀ (n : Nat) (Φ : Fns) (A : Around) (s : Shared) (env : Env) (M : List Addr) (ρ : Ev) (v : V) (k : Bool) (E : Value → Shared → Prop) (Q : Bool → Shared → Prop),
    Cx W Γ sc n Φ A s env M ρ → ceval Φ c ρ = some v → vtruth v = some k → (∀ s', SX W s s' → Q k s') → wpAny (model W.prog W.w) A (allTrue op es env) Q E s
theorem sndBT_one {op : BoolOp} {e : Expr} {ce : CE} (h : SndT W Γ sc e ce) : SndBT W Γ sc op [e] ce := fun n Φ A s env M ρ v k E Q c e1 e2 hq => by
  cases op with
  | And =>
    refine wpAny_allTrue_And_cons (h n Φ A s env M ρ v k E _ c e1 e2 fun s₁ x1 => ?_)
    cases k with
    | true => exact wpAny_allTrue_And_nil (hq _ x1)
    | false => exact hq _ x1
  | Or =>
    refine wpAny_allTrue_Or_cons (h n Φ A s env M ρ v k E _ c e1 e2 fun s₁ x1 => ?_)
    cases k with
    | true => exact hq _ x1
    | false => exact wpAny_allTrue_Or_nil (hq _ x1)
theorem sndBT_cons {op : BoolOp} {e : Expr} {es : List Expr} {ce cr : CE} (he : SndT W Γ sc e ce) (hr : SndBT W Γ sc op es cr) : SndBT W Γ sc op (e :: es) (.boolop op ce cr) := fun n Φ A s env M ρ v k E Q c e1 e2 hq => by
  obtain ⟨x, h2, e1⟩ := b_inv e1
  obtain ⟨k', h3, e1⟩ := b_inv e1
  cases op with
  | And =>
    refine wpAny_allTrue_And_cons (he n Φ A s env M ρ x k' E _ c h2 h3 fun s₁ x1 => ?_)
    cases k' with
    | true => exact hr n Φ A s₁ env M ρ v k E _ (c.ext x1) e1 e2 fun s' x3 => hq _ (x1.trans x3)
    | false => cases e1; rw [h3] at e2; cases e2; exact hq _ x1
  | Or =>
    refine wpAny_allTrue_Or_cons (he n Φ A s env M ρ x k' E _ c h2 h3 fun s₁ x1 => ?_)
    cases k' with
    | false => exact hr n Φ A s₁ env M ρ v k E _ (c.ext x1) e1 e2 fun s' x3 => hq _ (x1.trans x3)
    | true => cases e1; rw [h3] at e2; cases e2; exact hq _ x1
theorem sndT_bool_op {op : BoolOp} {es : List Expr} {ce : CE} {p : Pos} (h : SndBT W Γ sc op es ce) : SndT W Γ sc (.BoolOp op es p) ce := fun n Φ A s env M ρ v k E Q c e1 e2 hq =>
  wpAny_isTrue_BoolOp (h n Φ A s env M ρ v k E Q c e1 e2 hq)
end
end Mine
end
section
open PySem PySem.W PyProof.Rows
set_option maxRecDepth 4000
namespace Mine

theorem back_cons {pos : Pos} {t : Sem Value} {l : List (Bool × Sem Value)} : backTo pos ((false, t) :: l) = (false, t) :: backTo pos l := rfl

section
variable {W : Wd} {Γ : Gam} {sc : Scope}

theorem SndL.plain {es : List Expr} {cs : List CE} (H : SndL W Γ sc es cs) (pos : Pos) (env : Env) : (backTo pos (starEach es env)).any (·.1) = false := by
  induction H with
  | nil => rfl
  | cons hs _ _ ih => rw [starEach_cons hs, back_cons, List.any_cons, ih]; rfl
theorem SndL.allPlain {es : List Expr} {cs : List CE} (H : SndL W Γ sc es cs) (pos : Pos) (env : Env) : (backTo pos (starEach es env)).all (fun x => !x.1) = true := by
  induction H with
  | nil => rfl
  | cons hs _ _ ih => rw [starEach_cons hs, back_cons, List.all_cons, ih]; rfl

theorem snd_evalArgs {es : List Expr} {cs : List CE} (H : SndL W Γ sc es cs) {n : Nat} {Φ : Fns} {A : Around} {s : Shared} {env : Env} {M : List Addr} {ρ : Ev} {xs : List V} {f : Value} {E : Value → Shared → Prop} {pos : Pos} {Q : Args → Shared → Prop}
    (c : Cx W Γ sc n Φ A s env M ρ) (e : cevals Φ cs ρ = some xs) (h : ∀ vals s', SX W s s' → VReps s'.heap M vals xs → Q ⟨vals, []⟩ s') : wpAny (model W.prog W.w) A (evalArgs f true (backTo pos (starEach es env)) []) Q E s := by
  cases H with
  | nil => cases e; exact evalArgs_nil3 (h _ _ (SX.refl c.good) .nil)
  | cons hs he ht =>
    have H' := snd_args (SndL.cons hs he ht) (E := E) (pos := pos) (Q := fun vs s' => Q ⟨vs, []⟩ s') c e h
    rw [starEach_cons hs, back_cons] at H' ⊢
    exact Calls.evalArgs_plain H'

theorem callee_in {x : Str} {v : Value} {p pos : Pos} {es : List Expr} {A : Around} {s : Shared} {env : Env} {E : Value → Shared → Prop} {Q : Value → Shared → Prop} (g : Good W s) (ek : EnvOk env sc) (ho : okName x = true)
    (hk : sc.names.lookup x = some .globalImplicit) (hv : W.mg x = some v ∨ (W.mg x = none ∧ W.mb x = some v)) (h : wpAny (model W.prog W.w) A (callWith pos v [] (backTo pos (starEach es env)) []) Q E s) :
    wpAny (model W.prog W.w) A (eval (.Call (.Name x p) es [] pos) env) Q E s := wpAny_Call_NameR (load_glob g ek ho hk hv h)

theorem snd_call {f : Nat} {x : Str} {a : Addr} {p pos : Pos} {es : List Expr} {cs : List CE} (ho : okName x = true) (hk : sc.names.lookup x = some .globalImplicit) (hf : W.fns[f]? = some (x, a)) (H : SndL W Γ sc es cs) :
    SndE W Γ sc (.Call (.Name x p) es [] pos) (.call f cs) := fun n Φ A s env M ρ v E Q c e h => by
  refine Classical.byContradiction fun hQ => ?_
  obtain ⟨xs, e1, e⟩ := b_inv e
  (refine hQ ?_; clear hQ)
  split at e
  · rename_i q
    have hm : (x, a) ∈ W.fns := List.mem_of_getElem? hf
    refine callee_in c.good c.env ho hk (.inl (W.fnG _ hm)) ?_
    refine callWith_of (P := FnAt a) (by rw [H.plain]; rfl) keeps_F (snd_evalArgs H c e1 fun vals s₁ x1 r1 => ⟨?_, ?_⟩)
    · refine Classical.byContradiction fun hQ => ?_
      obtain ⟨o, fd, h1, h2⟩ := W.fnO x1.good.ok _ hm
      obtain ⟨oc, od, dt, sl⟩ := o
      (refine hQ ?_; clear hQ)
      simp only at h2
      subst h2
      exact ⟨oc, od, fd, sl, h1⟩
    · obtain ⟨rn, ct⟩ := c.ctrs f _ _ _ hf e
      exact ct A s₁ M vals xs v E Q rn x1.good (c.ext x1).mok r1 q e fun r s' x3 _ r3 => h _ _ (x1.trans x3) r3
  · cases e

theorem callWith_prim {v : Value} {es : List Expr} {cs : List CE} (H : SndL W Γ sc es cs) {pos : Pos} {env : Env} {A : Around} {s : Shared} {E : Value → Shared → Prop} {Q : Value → Shared → Prop} {first : List Value} (hv : (∃ id, v = .builtin id) ∨ ∃ T, v = .type T)
    (h : wpAny (model W.prog W.w) A (evalArgs v true (backTo pos (starEach es env)) []) (fun a s₁ => wpAny (model W.prog W.w) A (call v (first ++ a.pos) a.kw) Q E s₁) E s) :
    wpAny (model W.prog W.w) A (callWith pos v first (backTo pos (starEach es env)) []) Q E s := by
  rcases hv with ⟨id, rfl⟩ | ⟨T, rfl⟩
  · exact Calls.callWith_builtin (H.plain _ _) h
  · exact PyProof.Rows.callWith_type (H.plain _ _) h

theorem pval_kind (f : Pf) : (∃ id, pval f = .builtin id) ∨ ∃ T, pval f = .type T := by cases f <;> first | exact .inl ⟨_, rfl⟩ | exact .inr ⟨_, rfl⟩

theorem snd_prim {f : Pf} {x : Str} {p pos : Pos} {es : List Expr} {cs : List CE} (ho : okName x = true) (hk : sc.names.lookup x = some .globalImplicit) (hf : (x, pval f) ∈ W.blts) (hm : pmore f = []) (H : SndL W Γ sc es cs) :
    SndE W Γ sc (.Call (.Name x p) es [] pos) (.prim f cs) := fun n Φ A s env M ρ v E Q c e h => by
  refine Classical.byContradiction fun hQ => ?_
  obtain ⟨xs, e1, e⟩ := b_inv e
  (refine hQ ?_; clear hQ)
  refine callee_in c.good c.env ho hk (.inr (W.bltG _ hf)) ?_
  refine callWith_prim H (pval_kind f) (snd_evalArgs H c e1 fun vals s₁ x1 r1 => ?_)
  have := prim_snd (Q := Q) (E := E) c.room x1.good (c.ext x1).mok r1 e fun r s' x3 r3 => h _ _ (x1.trans x3) r3
  rw [hm, List.append_nil] at this
  exact this

theorem snd_isi {f : Pf} {x y : Str} {T : String} {p q pos : Pos} {a : Expr} {ca : CE} (ho : okName x = true) (hk : sc.names.lookup x = some .globalImplicit) (hf : (x, pval f) ∈ W.blts) (ho2 : okName y = true)
    (hk2 : sc.names.lookup y = some .globalImplicit) (hy : (y, Value.type T) ∈ W.blts) (hm : pmore f = [.type T]) (hs : isStar a = false) (ha : SndE W Γ sc a ca) :
    SndE W Γ sc (.Call (.Name x p) [a, .Name y q] [] pos) (.prim f [ca]) := fun n Φ A s env M ρ v E Q c e h => by
  refine Classical.byContradiction fun hQ => ?_
  obtain ⟨xs, e1, e⟩ := b_inv e
  obtain ⟨x0, e0, e1⟩ := b_inv e1
  (refine hQ ?_; clear hQ)
  cases e1
  refine callee_in c.good c.env ho hk (.inr (W.bltG _ hf)) ?_
  have hst : starEach [a, .Name y q] env = [(false, eval a env), (false, eval (.Name y q) env)] := starEach_cons hs
  have fin : wpAny (model W.prog W.w) A (evalArgs (pval f) true (backTo pos (starEach [a, .Name y q] env)) []) (fun a s₁ => wpAny (model W.prog W.w) A (call (pval f) ([] ++ a.pos) a.kw) Q E s₁) E s := by
    rw [hst]
    refine Calls.evalArgs_plain (Calls.spliced_cons (ha n Φ A s env M ρ x0 E _ c e0 fun xv s₁ x1 r1 => ?_))
    refine Calls.spliced_cons (load_glob x1.good c.env ho2 hk2 (.inr (W.bltG _ hy)) (Calls.spliced_nil ?_))
    have := prim_snd (Q := Q) (E := E) c.room x1.good (c.ext x1).mok (.cons r1 .nil) e fun r s' x3 r3 => h _ _ (x1.trans x3) r3
    rw [hm] at this
    exact this
  have hpl : (backTo pos (starEach [a, .Name y q] env)).any (·.1) = false := by rw [hst]; rfl
  rcases pval_kind f with ⟨id, hv⟩ | ⟨T', hv⟩
  · rw [hv] at fin ⊢; exact Calls.callWith_builtin hpl fin
  · rw [hv] at fin ⊢; exact PyProof.Rows.callWith_type hpl fin

noncomputable def notSuper (e : Expr) : Bool := !(e.ctorIdx == 16)
theorem base_plain {o : Expr} {nm : Str} {env : Env} {w : Sem Value} (h : notSuper o = true) : attributeBase o nm env w = w := by
  cases o <;> first | rfl | cases h

theorem kw_nil {env : Env} : keywordEach [] env = [] := rfl
theorem snd_meth {m : Pm} {o : Expr} {co : CE} {es : List Expr} {cs : List CE} {apos pos : Pos} (hb : notSuper o = true) (hl : (apos.endLine == pos.line) = true) (hn : es.length < 30) (hobj : SndE W Γ sc o co) (H : SndL W Γ sc es cs) :
    SndE W Γ sc (.Call (.Attribute o (mname m) apos) es [] pos) (.meth m co cs) := fun n Φ A s env M ρ v E Q c e h => by
  refine Classical.byContradiction fun hQ => ?_
  obtain ⟨x, e0, e⟩ := b_inv e
  obtain ⟨xs, e1, e⟩ := b_inv e
  obtain ⟨T, id, pa, slot, hty, hT, hc⟩ := meth_on W e
  (refine hQ ?_; clear hQ)
  refine wpAny_Call_method_lateS (base_plain hb) ?_ hl (hobj n Φ A s env M ρ x E _ c e0 fun ov s₁ x1 r1 => ?_)
  · rw [H.allPlain]
    simp [hn, backToKw, kw_nil]
  · refine ⟨T, id, pa, slot, hty, (hT s₁ ov M r1).1, (hT s₁ ov M r1).2, ?_⟩
    refine Calls.callWith_builtin (H.plain _ _) (snd_evalArgs H (c.ext x1) e1 fun vals s₂ x2 r2 => ?_)
    exact hc A n s₂ M ov vals E Q c.room x2.good ((c.ext x1).ext x2).mok (r1.ext x2) r2 fun r s' x3 r3 => h _ _ ((x1.trans x2).trans x3) r3
end
end Mine
end
section
open PySem PySem.W PyProof.Rows
set_option maxRecDepth 4000
namespace Mine

/-- where a name of the frame is kept -/
noncomputable def locOf (env : Env) (x : Str) : Addr := if env.kindOf x = some .local then env.locals else (env.cells.lookup x).getD 0

section
variable {M : Model} {A : Around} {E : Value → Shared → Prop} {s : Shared} {env : Env} {sc : Scope}

theorem kindOf_eq (ek : EnvOk env sc) (x : Str) : env.kindOf x = sc.names.lookup x := by unfold Env.kindOf; rw [ek.scope]
theorem scope_fn (ek : EnvOk env sc) : env.scope.kind = .function := by rw [ek.scope]; exact ek.kind

theorem store_snd {x : Str} {v : Value} {Q : Unit → Shared → Prop} (ek : EnvOk env sc) (lay : Lay env s.heap) (hx : sc.names.lookup x = some .local ∨ sc.names.lookup x = some .cell)
    (h : ∀ h' tk, (∀ b o, b ≠ locOf env x → s.heap.get? b = some o → h'.get? b = some o) → Lay env h' → VarAt h' env x v → (∀ y w, y ≠ x → VarAt s.heap env y w → VarAt h' env y w) → Q () { s with heap := h', toks := tk }) :
    wpAny M A (storeName env x v) Q E s := by
  have hf := scope_fn ek
  rcases hx with hx | hx
  · have hk : env.kindOf x = some .local := by rw [kindOf_eq ek]; exact hx
    obtain ⟨m, n⟩ := lay.ns
    have hl : locOf env x = env.locals := by unfold locOf; rw [if_pos hk]
    refine wpAny_storeName_local hk n (fun h' n' sb => ?_) (by rw [hf]; rfl)
    refine h h' _ (fun b o hb e => sb.extBut b o (by rw [hl] at hb; exact hb) e) ⟨⟨_, n'⟩, fun y c e => ?_⟩ (.inl ⟨hk, _, n', by simp⟩) fun y w hy hv => ?_
    · obtain ⟨v', hv'⟩ := lay.cell y c e
      exact ⟨v', hv'.sameBut sb (ek.apart y c e)⟩
    · rcases hv with ⟨k, m', n2, e⟩ | ⟨k, c, e, hc⟩
      · refine .inl ⟨k, _, n', ?_⟩
        rw [if_neg hy]
        refine Classical.byContradiction fun hQ => ?_
        obtain ⟨o, es, ep, e1, e2, _, e4⟩ := n
        obtain ⟨o', es', ep', f1, f2, _, f4⟩ := n2
        (refine hQ ?_; clear hQ)
        rw [e1] at f1; cases f1; rw [e2] at f2; cases f2
        rw [← e4, f4]; exact e
      · exact .inr ⟨k, c, e, hc.sameBut sb (ek.apart y c e)⟩
  · have hk : env.kindOf x = some .cell := by rw [kindOf_eq ek]; exact hx
    obtain ⟨c, hc⟩ := ek.cells x (.inl hx)
    obtain ⟨v₀, hv₀⟩ := lay.cell x c hc
    have hl : locOf env x = c := by unfold locOf; rw [if_neg (by rw [hk]; decide), hc]; rfl
    refine wpAny_storeName_cell hf hk hc hv₀ fun h' hc' sb => ?_
    refine h h' s.toks (fun b o hb e => sb.extBut b o (by rw [hl] at hb; exact hb) e) ⟨?_, fun y d e => ?_⟩ (.inr ⟨.inl hk, c, hc, hc'⟩) fun y w hy hv => ?_
    · obtain ⟨m, n⟩ := lay.ns
      exact ⟨m, n.sameBut sb (Ne.symm (ek.apart x c hc))⟩
    · by_cases q : d = c
      · subst q; exact ⟨_, hc'⟩
      · obtain ⟨v', hv'⟩ := lay.cell y d e
        exact ⟨v', hv'.sameBut sb q⟩
    · rcases hv with ⟨k, m', n2, e⟩ | ⟨k, d, e, hd⟩
      · exact .inl ⟨k, m', n2.sameBut sb (Ne.symm (ek.apart x c hc)), e⟩
      · exact .inr ⟨k, d, e, hd.sameBut sb fun q => hy (ek.inj y x c (by rw [← q]; exact e) hc)⟩
end

/-- the closure that a comprehension takes along -/
noncomputable def cloOf (cells : List (Str × Addr)) : List (Str × NameKind) → List (Str × Addr) → List (Str × Addr)
  | [], acc => acc
  | (n, k) :: r, acc => if k == .free then cloOf cells r ((n, (cells.lookup n).getD 0) :: acc) else cloOf cells r acc

theorem closure_loop (env : Env) (f : Str × NameKind → List (Str × Addr) → Sem (ForInStep (List (Str × Addr))))
    (hf : ∀ n k cs, f (n, k) cs = if k == .free then (do let a ← cellOf env n; pure (.yield ((n, a) :: cs))) else pure (.yield cs)) :
    ∀ (names : List (Str × NameKind)) (acc : List (Str × Addr)), (∀ x ∈ names, x.2 = .free → ∃ c, env.cells.lookup x.1 = some c) → forIn names acc f = pure (cloOf env.cells names acc)
  | [], acc, _ => by rw [List.forIn_nil]; rfl
  | (n, k) :: r, acc, h => by
    rw [List.forIn_cons, hf]
    have ih := fun acc => closure_loop env f hf r acc fun x hx => h x (List.mem_cons_of_mem _ hx)
    unfold cloOf
    by_cases hk : (k == NameKind.free) = true
    · rw [if_pos hk, if_pos hk]
      obtain ⟨c, hc⟩ := h (n, k) List.mem_cons_self (eq_of_beq hk)
      have e : cellOf env n = pure c := by unfold cellOf; rw [hc]
      rw [e, hc]
      exact ih _
    · rw [if_neg hk, if_neg hk]
      exact ih _

theorem closure_pure {scope : Scope} {env : Env} (h : ∀ x ∈ scope.names, x.2 = .free → ∃ c, env.cells.lookup x.1 = some c) : closureFor scope env = pure (cloOf env.cells scope.names []) := by
  unfold closureFor
  have := closure_loop env (fun x r => match x with | (name, kind) => if kind == .free then (do let a ← cellOf env name; pure (ForInStep.yield ((name, a) :: r))) else pure (ForInStep.yield r)) (fun _ _ _ => rfl) scope.names [] h
  simp only [bind_pure]
  exact this

theorem cellsFrom_other {y : Str} : ∀ (names : List (Str × NameKind)) (n : Nat) (acc : List (Str × Addr)), (∀ k, (y, k) ∈ names → k ≠ .cell) → (cellsFrom n names acc).lookup y = acc.lookup y
  | [], _, _, _ => rfl
  | (x, k) :: r, n, acc, h => by
    unfold cellsFrom
    have hr := fun n acc => cellsFrom_other r n acc fun k hk => h k (List.mem_cons_of_mem _ hk)
    by_cases hk : (k == NameKind.cell) = true
    · rw [if_pos hk, hr]
      have : (y == x) = false := by
        cases q : y == x with
        | false => rfl
        | true => have := eq_of_beq q; subst this; exact absurd (eq_of_beq hk) (h k List.mem_cons_self)
      rw [List.lookup_cons, this]
    · rw [if_neg hk, hr]

theorem cellsFrom_new {y : Str} : ∀ (names : List (Str × NameKind)) (n : Nat) (acc : List (Str × Addr)), (∃ k, (y, k) ∈ names ∧ k = .cell) → ∃ c, (cellsFrom n names acc).lookup y = some c ∧ n ≤ c
  | [], _, _, h => by obtain ⟨k, hk, _⟩ := h; cases hk
  | (x, k) :: r, n, acc, h => by
    unfold cellsFrom
    by_cases hr : ∃ k, (y, k) ∈ r ∧ k = .cell
    · by_cases hk : (k == NameKind.cell) = true
      · rw [if_pos hk]; obtain ⟨c, h1, h2⟩ := cellsFrom_new r (n + 1) ((x, n) :: acc) hr; exact ⟨c, h1, by lia⟩
      · rw [if_neg hk]; exact cellsFrom_new r n acc hr
    · obtain ⟨k', hm, hk'⟩ := h
      rcases List.mem_cons.mp hm with e | hm
      · cases e
        subst hk'
        rw [if_pos (by rfl), cellsFrom_other r _ _ (fun k hk q => hr ⟨k, hk, q⟩)]
        exact ⟨n, by simp, Nat.le_refl _⟩
      · exact absurd ⟨k', hm, hk'⟩ hr

theorem cellsFrom_mem {y : Str} {c : Addr} : ∀ (names : List (Str × NameKind)) (n : Nat) (acc : List (Str × Addr)), (y, c) ∈ cellsFrom n names acc → (y, c) ∈ acc ∨ (n ≤ c ∧ (y, NameKind.cell) ∈ names)
  | [], _, _, h => .inl h
  | (x, k) :: r, n, acc, h => by
    unfold cellsFrom at h
    by_cases hk : (k == NameKind.cell) = true
    · rw [if_pos hk] at h
      rcases cellsFrom_mem r _ _ h with h | ⟨h1, h2⟩
      · rcases List.mem_cons.mp h with e | h
        · cases e; exact .inr ⟨Nat.le_refl _, by rw [eq_of_beq hk]; exact List.mem_cons_self⟩
        · exact .inl h
      · exact .inr ⟨by lia, List.mem_cons_of_mem _ h2⟩
    · rw [if_neg hk] at h
      rcases cellsFrom_mem r _ _ h with h | ⟨h1, h2⟩
      · exact .inl h
      · exact .inr ⟨h1, List.mem_cons_of_mem _ h2⟩

theorem cloOf_mem {cells : List (Str × Addr)} {y : Str} {c : Addr} : ∀ (names : List (Str × NameKind)) (acc : List (Str × Addr)), (y, c) ∈ cloOf cells names acc → (y, c) ∈ acc ∨ ((y, NameKind.free) ∈ names ∧ c = (cells.lookup y).getD 0)
  | [], _, h => .inl h
  | (x, k) :: r, acc, h => by
    unfold cloOf at h
    by_cases hk : (k == NameKind.free) = true
    · rw [if_pos hk] at h
      rcases cloOf_mem r _ h with h | ⟨h1, h2⟩
      · rcases List.mem_cons.mp h with e | h
        · cases e; exact .inr ⟨by rw [eq_of_beq hk]; exact List.mem_cons_self, rfl⟩
        · exact .inl h
      · exact .inr ⟨List.mem_cons_of_mem _ h1, h2⟩
    · rw [if_neg hk] at h
      rcases cloOf_mem r _ h with h | ⟨h1, h2⟩
      · exact .inl h
      · exact .inr ⟨List.mem_cons_of_mem _ h1, h2⟩

theorem cloOf_acc {cells : List (Str × Addr)} {y : Str} : ∀ (names : List (Str × NameKind)) (acc : List (Str × Addr)), (∃ c, acc.lookup y = some c) → ∃ c, (cloOf cells names acc).lookup y = some c
  | [], _, h => h
  | (x, k) :: r, acc, h => by
    unfold cloOf
    by_cases hk : (k == NameKind.free) = true
    · rw [if_pos hk]
      refine cloOf_acc r _ ?_
      rw [List.lookup_cons]
      cases y == x with
      | true => exact ⟨_, rfl⟩
      | false => exact h
    · rw [if_neg hk]; exact cloOf_acc r _ h
theorem cloOf_some {cells : List (Str × Addr)} {y : Str} : ∀ (names : List (Str × NameKind)) (acc : List (Str × Addr)), (y, NameKind.free) ∈ names → ∃ c, (cloOf cells names acc).lookup y = some c
  | [], _, h => by cases h
  | (x, k) :: r, acc, h => by
    unfold cloOf
    rcases List.mem_cons.mp h with e | h
    · cases e
      rw [if_pos (by rfl)]
      exact cloOf_acc r _ ⟨(cells.lookup y).getD 0, by simp⟩
    · by_cases hk : (k == NameKind.free) = true
      · rw [if_pos hk]; exact cloOf_some r _ h
      · rw [if_neg hk]; exact cloOf_some r _ h

theorem cloOf_lookup {cells : List (Str × Addr)} {y : Str} {names : List (Str × NameKind)} (h : (y, NameKind.free) ∈ names) : (cloOf cells names []).lookup y = some ((cells.lookup y).getD 0) := by
  obtain ⟨c, hc⟩ := cloOf_some (cells := cells) names [] h
  rcases cloOf_mem names [] (mem_of_lookup hc) with q | ⟨_, q⟩
  · cases q
  · rw [hc, q]
end Mine
end
section
open PySem PySem.W PyProof.Rows
set_option maxRecDepth 4000
namespace Mine

/-- one fresh object is changed -/
theorem SX.upd {W : Wd} {s₁ s' : Shared} {a : Addr} {h' : Heap} {tk : Nat} (x : SX W s₁ s') (hk : ∀ b o, b ≠ a → s'.heap.get? b = some o → h'.get? b = some o) (hf : s₁.heap.get? a = none)
    (hs : ∀ o, s'.heap.get? a = some o → Soft o) (g₁ : Good W s₁) : SX W s₁ { s' with heap := h', toks := tk } :=
  ⟨fun b o e n => hk b o (fun q => by rw [q, hf] at e; cases e) (x.keep b o e n), fun b o e => (let ⟨o', e'⟩ := x.occ b o e; ⟨o', hk b o' (fun q => by rw [q, hf] at e; cases e) e'⟩), x.os, x.gens,
    ⟨W.mono x.good.ok fun b o q e => hk b o (fun z => by
      subst z
      rcases q with q | q
      · obtain ⟨o', e'⟩ := W.occ g₁.ok q; rw [hf] at e'; cases e'
      · exact q (hs o e)) e, x.good.bare⟩⟩

theorem soft_of_data {o : Obj} (h : ∀ fs, o.data ≠ .fields fs) : Soft o := ⟨fun t => by obtain ⟨fs, q, _⟩ := t.2; exact h fs q, fun vs _ _ q => absurd q (h vs)⟩
theorem soft_ns {h : Heap} {a : Addr} {m : Str → Option Value} (n : h.Ns a m) : ∀ o, h.get? a = some o → Soft o := fun o e => by
  obtain ⟨o', es, ep, e', hd, _⟩ := n
  rw [e] at e'; cases e'
  exact soft_of_data fun fs q => by rw [hd] at q; cases q
theorem soft_cell {h : Heap} {a : Addr} {v : Option Value} (n : h.IsCell a v) : ∀ o, h.get? a = some o → Soft o := fun o e => by
  obtain ⟨o', e', hd⟩ := n
  rw [e] at e'; cases e'
  exact soft_of_data fun fs q => by rw [hd] at q; cases q
theorem soft_L {vs : Array Value} {n : Nat} : Soft (plainL vs n) := soft_of_data fun _ q => by cases q
theorem soft_of {h : Heap} {a : Addr} {o : Obj} (e : h.get? a = some o) (hs : Soft o) : ∀ o', h.get? a = some o' → Soft o' := fun o' e' => by rw [e] at e'; cases e'; exact hs

theorem old2 {h : Heap} {M : List Addr} {I l : Addr} {o : Obj} (hm : l ∉ M) (h2 : h.get? l = some o) (hn : ¬ TabLike o) : ∀ b ∈ [I, l], b ≠ I → b ∉ M ∧ ∃ o, h.get? b = some o ∧ ¬ TabLike o := fun b hb hbI => by
  rw [List.mem_singleton.mp ((List.mem_cons.mp hb).resolve_left hbI)]
  exact ⟨hm, o, h2, hn⟩
theorem soft_it {o : Obj} {c : String} {l : Addr} {v : Value} (h1 : o.cls = .type c) (h2 : o.data = .fields #[.ref l, v]) (hv : ∀ q t, v ≠ .str q t) : Soft o :=
  ⟨fun t => Value.noConfusion (h1.symm.trans t.1), fun vs q t e z => by rw [h2] at e; cases e; exact hv q t (Option.some.inj z)⟩
theorem Reps.pair {h : Heap} {M : List Addr} {vs : Array Value} {xs : List PyData} (r : Reps h M vs.toList xs) {i : Nat} {v : Value} {d : PyData} (hv : vs[i]? = some v) (hd : xs[i]? = some d) : Rep h M v d := by
  obtain ⟨d', e1, e2⟩ := r.at i v (by rw [Array.getElem?_toList]; exact hv)
  rw [hd] at e1
  rw [Option.some.inj e1]; exact e2
/-- an iterator under way: its items, and what it stands on -/
structure Itr (W : Wd) (A : Around) (M : List Addr) (s₁ s₂ : Shared) (I : Addr) (xs : List PyData) (fp : List Addr) (P : Nat → Value → Prop) (St : Nat → Heap → Prop) : Prop where
  walks : Walks W.prog W.w A I fp [I] xs.length P St
  st : St 0 s₂.heap
  new : s₁.heap.get? I = none
  ext : SX W s₁ s₂
  old : ∀ b ∈ fp, b ≠ I → b ∉ M ∧ ∃ o, s₁.heap.get? b = some o ∧ ¬ TabLike o
  rep : ∀ i v d, P i v → xs[i]? = some d → Rep s₁.heap M v d
  soft : ∀ i h o, St i h → h.get? I = some o → Soft o
  here : ∀ i h, St i h → ∃ o, h.get? I = some o

section
variable {W : Wd} {A : Around} {n : Nat} {E : Value → Shared → Prop} {s : Shared} {M : List Addr} {a : Value} {x : V}

theorem iter_list {l : Addr} {vs : Array Value} {k : Nat} {xs : List PyData} {Q : Value → Shared → Prop} (hh : A.handled = none) (g : Good W s) (hm : l ∉ M) (h2 : s.heap.get? l = some (plainL vs k)) (h3 : Reps s.heap M vs.toList xs)
    (h : ∀ I s' fp P St, Itr W A M s s' I xs fp P St → Q (.ref I) s') : wpAny (model W.prog W.w) A (pyIter (.ref l)) Q E s := by
  have hne : l ≠ s.heap.objs.size := fun q => by rw [q, fresh_none] at h2; cases h2
  have hl := h3.length
  rw [Array.length_toList] at hl
  have W0 := Walks.list (prog := W.prog) (w := W.w) hh s.heap.objs.size l hne vs
  rw [hl] at W0
  refine wpAny_pyIter_list ⟨_, h2, rfl, _, rfl⟩ (h _ _ _ _ _ ⟨W0, ⟨⟨_, Heap.get?_push_size _ rfl, rfl, rfl⟩, ⟨_, Heap.get?_push_of_some _ h2, rfl, _, rfl⟩⟩, fresh_none _, SX.push (tk := s.toks) g, old2 hm h2 notTab_L, fun _ _ _ => h3.pair,
    fun i h o st e => st.1.elim fun o' q => soft_of q.1 (soft_it q.2.1 q.2.2 fun _ _ z => nomatch z) o e, fun i h st => st.1.elim fun o q => ⟨o, q.1⟩⟩)

theorem iter_tuple {l : Addr} {vs : Array Value} {k : Nat} {xs : List PyData} {Q : Value → Shared → Prop} (hh : A.handled = none) (g : Good W s) (hm : l ∉ M) (h2 : s.heap.get? l = some (plainT vs k)) (h3 : Reps s.heap M vs.toList xs)
    (h : ∀ I s' fp P St, Itr W A M s s' I xs fp P St → Q (.ref I) s') : wpAny (model W.prog W.w) A (pyIter (.ref l)) Q E s := by
  have hne : l ≠ s.heap.objs.size := fun q => by rw [q, fresh_none] at h2; cases h2
  have hl := h3.length
  rw [Array.length_toList] at hl
  have W0 := Walks.tuple (prog := W.prog) (w := W.w) hh s.heap.objs.size l hne vs
  rw [hl] at W0
  refine wpAny_pyIter_tuple ⟨_, h2, rfl, _, rfl⟩ (h _ _ _ _ _ ⟨W0, ⟨⟨_, Heap.get?_push_size _ rfl, rfl, rfl⟩, ⟨_, Heap.get?_push_of_some _ h2, rfl, _, rfl⟩⟩, fresh_none _, SX.push (tk := s.toks) g, old2 hm h2 notTab_T, fun _ _ _ => h3.pair,
    fun i h o st e => st.1.elim fun o' q => soft_of q.1 (soft_it q.2.1 q.2.2 fun _ _ z => nomatch z) o e, fun i h st => st.1.elim fun o q => ⟨o, q.1⟩⟩)

theorem rangeL_len (a b c : Int) : (rangeL a b c).length = (Builtin.Range.rangeSize a b c).toNat := by simp [rangeL, rangeSz]

theorem iter_range {p : Addr} {i j k : Int} {t u v : Tok} {Q : Value → Shared → Prop} (hh : A.handled = none) (g : Good W s) (h2 : IsRange s.heap p i j k t u v) (hs : smallR i j k = true)
    (h : ∀ I s' fp P St, Itr W A M s s' I (rangeL i j k) fp P St → Q (.ref I) s') : wpAny (model W.prog W.w) A (pyIter (.ref p)) Q E s := by
  unfold smallR at hs
  rw [Bool.and_eq_true, Bool.and_eq_true, decide_eq_true_eq] at hs
  have W0 := Walks.range (prog := W.prog) (w := W.w) hh s.heap.objs.size i k (Builtin.Range.rangeSize i j k).toNat
  rw [← rangeL_len] at W0
  refine wpAny_pyIter_range h2 hs.1.1 (h _ _ _ _ _ ⟨W0, ?_, fresh_none _, SX.push (tk := s.toks) g, ?_, ?_, ?_, ?_⟩)
  · have e1 : i + ((0 : Nat) : Int) * k = i := by simp
    have e2 : (((rangeL i j k).length : Nat) : Int) - ((0 : Nat) : Int) = Builtin.Range.rangeSize i j k := by rw [rangeL_len]; simp; have := hs.1.2; lia
    rw [e1, e2]
    exact Heap.get?_push_size _ rfl
  · intro b hb hbI
    rcases List.mem_cons.mp hb with rfl | hb
    · exact absurd rfl hbI
    · cases hb
  · intro m v d hv hd
    obtain ⟨t, rfl⟩ := hv
    simp only [rangeL, List.getElem?_map, Option.map_eq_some_iff] at hd
    obtain ⟨q, hq, rfl⟩ := hd
    have := List.getElem?_eq_some_iff.mp hq
    obtain ⟨hlt, e⟩ := this
    rw [List.getElem_range] at e
    subst e
    exact .int _ _
  · intro m h o st e
    rw [show h.get? _ = some _ from st] at e; cases e
    exact ⟨fun t => (by have t := t.1; cases t), fun vs q t hd => (by cases hd; intro z; cases z)⟩
  · intro m h st
    exact ⟨_, st⟩

theorem iter_snd {xs : List PyData} {Q : Value → Shared → Prop} (R : Room A n) (g : Good W s) (ha : VRep s.heap M a x) (e : vitems x = some xs) (h : ∀ I s' fp P St, Itr W A M s s' I xs fp P St → Q (.ref I) s') :
    szOk xs.length = true ∧ wpAny (model W.prog W.w) A (pyIter a) Q E s := by
  have e0 : ∀ {ys : List PyData}, (if szOk ys.length then some ys else none) = some xs → szOk xs.length = true ∧ ys = xs := fun {ys} e => (if_inv e).2 ▸ ⟨(if_inv e).1, rfl⟩
  cases x with
  | o => cases e
  | r i j k =>
    obtain ⟨q, e⟩ := if_inv e
    rw [← e] at h ⊢
    obtain ⟨p, t, u, k, rfl, _, hr⟩ := ha
    refine ⟨?_, iter_range R.handled g hr q h⟩
    rw [rangeL_len]
    exact (Bool.and_eq_true_iff.mp q).2
  | d y =>
    cases y with
    | list ys =>
      obtain ⟨q, e⟩ := e0 e
      rw [e] at ha
      exact ⟨q, vls ha fun l vs m h1 h2 h3 => iter_list R.handled g h1 h2 h3 h⟩
    | tuple ys =>
      obtain ⟨q, e⟩ := e0 e
      rw [e] at ha
      exact ⟨q, vtup ha fun l vs m h1 h2 h3 => iter_tuple R.handled g h1 h2 h3 h⟩
    | _ => cases e

theorem list_append {l : Addr} {vs : Array Value} {k : Nat} {y : Value} {Q : Value → Shared → Prop} (ho : s.heap.get? l = some (plainL vs k)) (hsz : vs.size ≤ sizeLine)
    (h : ∀ h', h'.get? l = some (plainL (vs.push y) (k + 1)) → (∀ b o, b ≠ l → s.heap.get? b = some o → h'.get? b = some o) → Q .none { s with heap := h' }) :
    wpAny (model W.prog W.w) A (call (.builtin "list.append") [.ref l, y]) Q E s := by
  refine wpAny_call_entry slot_list_append (s := s) ⟨_, ho, rfl⟩ entry_list_append ?_ (args_list_append _ _)
  show wpAny _ _ (updateSeq l (·.push y) >>= fun _ => ret .none) _ _ s
  refine wpAny_bind ?_
  refine wpAny_updateSeq ho rfl (wpAny_pure ⟨.none, rfl, h _ ?_ (Heap.SameBut.update ..).extBut⟩) hsz (by simp; omega)
  have e : Obj.mapSeq (·.push y) (plainL vs k) = plainL (vs.push y) (k + 1) := by
    simp [Obj.mapSeq]
  rw [Heap.get?_update_self _ ho (by rw [e]; rfl), e]
end
end Mine
end
section
open PySem PySem.W PyProof.Rows
set_option maxRecDepth 4000
namespace Mine

/-- the comprehension's block, its free names the cells of the block around it -/
noncomputable def relab (scope sc : Scope) : Scope :=
  { scope with names := scope.names.map fun (n, k) => if (k == .free && sc.kind == .function && sc.names.lookup n == some .cell) then (n, .cell) else (n, k) }
theorem relabel_eq {scope sc : Scope} {env : Env} (ek : EnvOk env sc) : relabel scope env = relab scope sc := by
  unfold relabel relab Env.kindOf
  rw [ek.scope]

noncomputable def compOk (sc scope : Scope) : Bool :=
  scope.kind == .function && decide (scope.names.map (·.1)).Nodup &&
    scope.names.all fun p => match p.2 with
      | .free => sc.names.lookup p.1 == some .cell || sc.names.lookup p.1 == some .free
      | .local => true
      | .cell => true
      | .globalImplicit => true
      | _ => false

theorem nodup_kind {names : List (Str × NameKind)} (nd : (names.map (·.1)).Nodup) {y : Str} {k k' : NameKind} (h : (y, k) ∈ names) (h' : (y, k') ∈ names) : k = k' := by
  induction names with
  | nil => cases h
  | cons p r ih =>
    rw [List.map_cons, List.nodup_cons] at nd
    rcases List.mem_cons.mp h with e | h1
    · rcases List.mem_cons.mp h' with e' | h2
      · rw [← e'] at e; cases e; rfl
      · cases e; exact absurd (List.mem_map_of_mem (f := (·.1)) h2) nd.1
    · rcases List.mem_cons.mp h' with e' | h2
      · cases e'; exact absurd (List.mem_map_of_mem (f := (·.1)) h1) nd.1
      · exact ih nd.2 h1 h2

theorem nodup_lookup {names : List (Str × NameKind)} (nd : (names.map (·.1)).Nodup) {y : Str} {k : NameKind} (h : (y, k) ∈ names) : names.lookup y = some k := by
  induction names with
  | nil => cases h
  | cons p r ih =>
    rw [List.map_cons, List.nodup_cons] at nd
    obtain ⟨z, k'⟩ := p
    rw [List.lookup_cons]
    rcases List.mem_cons.mp h with e | h1
    · cases e; simp
    · have : (y == z) = false := by
        cases q : y == z with
        | false => rfl
        | true => have := eq_of_beq q; subst this; exact absurd (List.mem_map_of_mem (f := (·.1)) h1) nd.1
      rw [this]; exact ih nd.2 h1

theorem relab_lookup {scope sc : Scope} : ∀ {names : List (Str × NameKind)} {y : Str}, (names.map fun (n, k) => if (k == NameKind.free && sc.kind == .function && sc.names.lookup n == some .cell) then (n, NameKind.cell) else (n, k)).lookup y =
    (names.lookup y).map fun k => if (k == NameKind.free && sc.kind == .function && sc.names.lookup y == some .cell) then NameKind.cell else k
  | [], _ => rfl
  | (n, k) :: r, y => by
    have ih := @relab_lookup scope sc r y
    rw [List.map_cons]
    cases hx : y == n with
    | true =>
      have := eq_of_beq hx
      subst this
      by_cases hc : (k == NameKind.free && sc.kind == .function && sc.names.lookup y == some .cell) = true
      · simp only [hc, if_true, List.lookup_cons, beq_self_eq_true, Option.map_some]
      · simp only [hc, if_false, Bool.false_eq_true, List.lookup_cons, beq_self_eq_true, Option.map_some]
    | false =>
      by_cases hc : (k == NameKind.free && sc.kind == .function && sc.names.lookup n == some .cell) = true
      · simp only [hc, if_true, List.lookup_cons, hx]; exact ih
      · simp only [hc, if_false, Bool.false_eq_true, List.lookup_cons, hx]; exact ih

structure CompOk (sc scope : Scope) : Prop where
  kind : scope.kind = .function
  nd : (scope.names.map (·.1)).Nodup
  free : ∀ y, (y, NameKind.free) ∈ scope.names → sc.names.lookup y = some .cell ∨ sc.names.lookup y = some .free
theorem CompOk.of {sc scope : Scope} (h : compOk sc scope = true) : CompOk sc scope := by
  unfold compOk at h
  rw [Bool.and_eq_true, Bool.and_eq_true, decide_eq_true_eq, List.all_eq_true] at h
  refine ⟨eq_of_beq h.1.1, h.1.2, fun y hy => ?_⟩
  have := h.2 _ hy
  simp only [Bool.or_eq_true, beq_iff_eq] at this
  exact this

/-- the frame of a comprehension -/
noncomputable abbrev cenvOf (scope sc : Scope) (env : Env) (C : Addr) : Env :=
  { scope := relab scope sc, locals := C, globals := env.globals, cells := cellsFrom (C + 1) scope.names (cloOf env.cells scope.names []), qual := env.qual, func := none, code := env.code, frame := env.frame, builtins := env.builtins }

theorem cellsFrom_app : ∀ (names : List (Str × NameKind)) (n : Nat) (acc : List (Str × Addr)), cellsFrom n names acc = cellsFrom n names [] ++ acc
  | [], _, _ => rfl
  | (x, k) :: r, n, acc => by
    unfold cellsFrom
    by_cases hk : (k == NameKind.cell) = true
    · rw [if_pos hk, if_pos hk, cellsFrom_app r (n + 1) ((x, n) :: acc), cellsFrom_app r (n + 1) [(x, n)], List.append_assoc]; rfl
    · rw [if_neg hk, if_neg hk]; exact cellsFrom_app r n acc

section
variable {sc scope : Scope} {env : Env} {C : Addr}

theorem cenv_own {y : Str} {c : Addr} (h : (cenvOf scope sc env C).cells.lookup y = some c) : (C + 1 ≤ c ∧ (y, c) ∈ cellsFrom (C + 1) scope.names [] ∧ (y, NameKind.cell) ∈ scope.names) ∨ ((y, NameKind.free) ∈ scope.names ∧ c = (env.cells.lookup y).getD 0) := by
  have h := mem_of_lookup h
  rcases cellsFrom_mem _ _ _ h with q | ⟨q1, q2⟩
  · rcases cloOf_mem _ _ q with q | ⟨q1, q2⟩
    · cases q
    · exact .inr ⟨q1, q2⟩
  · rw [show (cenvOf scope sc env C).cells = cellsFrom (C + 1) scope.names (cloOf env.cells scope.names []) from rfl, cellsFrom_app] at h
    rcases List.mem_append.mp h with h | h
    · exact .inl ⟨q1, h, q2⟩
    · rcases cloOf_mem _ _ h with q | ⟨q3, q4⟩
      · cases q
      · exact .inr ⟨q3, q4⟩

theorem cenv_free (co : CompOk sc scope) {y : Str} (h : (y, NameKind.free) ∈ scope.names) : (cenvOf scope sc env C).cells.lookup y = some ((env.cells.lookup y).getD 0) := by
  show (cellsFrom (C + 1) scope.names (cloOf env.cells scope.names [])).lookup y = _
  rw [cellsFrom_other _ _ _ fun k hk => by rw [nodup_kind co.nd hk h]; decide]
  exact cloOf_lookup h

theorem cenv_ok (ek : EnvOk env sc) (co : CompOk sc scope) (hC : ∀ y c, env.cells.lookup y = some c → c < C)
    (hap : (cellsFrom (C + 1) scope.names []).Pairwise fun x y => x.2 ≠ y.2) : EnvOk (cenvOf scope sc env C) (relab scope sc) := by
  have outer : ∀ {y}, (y, NameKind.free) ∈ scope.names → ∃ c, env.cells.lookup y = some c := fun h => ek.cells _ (co.free _ h)
  have clt : ∀ {y}, (y, NameKind.free) ∈ scope.names → (env.cells.lookup y).getD 0 < C := fun h => by
    obtain ⟨c, hc⟩ := outer h; rw [hc]; exact hC _ _ hc
  refine ⟨rfl, co.kind, ek.globals, ek.builtins, fun x hx => ?_, fun x y c hx hy => ?_, fun x c hx => ?_⟩
  · have hx : (scope.names.lookup x = some .cell ∨ scope.names.lookup x = some .free) := by
      have e := @relab_lookup scope sc scope.names x
      have e2 : (relab scope sc).names.lookup x = _ := e
      rw [e2] at hx
      cases hl : scope.names.lookup x with
      | none => rw [hl] at hx; rcases hx with hx | hx <;> cases hx
      | some k =>
        rw [hl] at hx
        simp only [Option.map_some, Option.some.injEq] at hx
        cases k with
        | cell => exact .inl rfl
        | free => exact .inr rfl
        | _ => rcases hx with hx | hx <;> simp at hx
    rcases hx with hx | hx
    · refine Classical.byContradiction fun hQ => ?_
      obtain ⟨c, h1, _⟩ := cellsFrom_new scope.names (C + 1) (cloOf env.cells scope.names []) ⟨_, mem_of_lookup hx, rfl⟩
      (refine hQ ?_; clear hQ)
      exact ⟨c, h1⟩
    · exact ⟨_, cenv_free co (mem_of_lookup hx)⟩
  · rcases cenv_own hx with ⟨a1, a2, _⟩ | ⟨a1, a2⟩ <;> rcases cenv_own hy with ⟨b1, b2, _⟩ | ⟨b1, b2⟩
    · exact name_of_addr hap a2 b2
    · exact absurd a1 (by rw [b2]; exact Nat.not_le.mpr (Nat.lt_succ_of_lt (clt b1)))
    · exact absurd b1 (by rw [a2]; exact Nat.not_le.mpr (Nat.lt_succ_of_lt (clt a1)))
    · obtain ⟨c1, h1⟩ := outer a1
      obtain ⟨c2, h2⟩ := outer b1
      rw [h1] at a2; rw [h2] at b2
      have e : c1 = c2 := a2.symm.trans b2
      subst e
      exact ek.inj x y _ h1 h2
  · rcases cenv_own hx with ⟨a1, _, _⟩ | ⟨a1, a2⟩
    · exact Nat.ne_of_gt (Nat.lt_of_succ_le a1)
    · exact Nat.ne_of_lt (by rw [a2]; exact clt a1)

/-- what the block around shows, the comprehension sees -/
theorem cenv_var {h h' : Heap} (ek : EnvOk env sc) (co : CompOk sc scope) {y : Str} {v : Value} (hf : (y, NameKind.free) ∈ scope.names) (hv : VarAt h env y v)
    (hk : ∀ c, h.IsCell c (some v) → h'.IsCell c (some v)) : VarAt h' (cenvOf scope sc env C) y v := by
  have kf : ∀ k, env.kindOf y = some k → sc.names.lookup y = some k := fun k e => by rw [← kindOf_eq ek]; exact e
  rcases hv with ⟨k, _⟩ | ⟨k, c, e, hc⟩
  · rcases co.free y hf with q | q <;> rw [kf _ k] at q <;> cases q
  · refine .inr ⟨?_, c, ?_, hk c hc⟩
    · unfold Env.kindOf
      show (relab scope sc).names.lookup y = _ ∨ _
      have e2 : (relab scope sc).names.lookup y = _ := @relab_lookup scope sc scope.names y
      rw [e2, nodup_lookup co.nd hf]
      simp only [Option.map_some, Option.some.injEq]
      by_cases q : (NameKind.free == NameKind.free && sc.kind == ScopeKind.function && List.lookup y sc.names == some NameKind.cell) = true
      · rw [if_pos q]; exact .inl rfl
      · rw [if_neg q]; exact .inr rfl
    · rw [cenv_free co hf, e]; rfl
end

section
variable {M : Model} {A : Around} {E : Value → Shared → Prop} {s : Shared} {env : Env} {sc scope : Scope}

theorem new_cenv {cl : List (Str × Addr)} {g : Addr} {qual : Str} {Q : Env → Shared → Prop} (h : Q { scope, locals := s.heap.objs.size, globals := g, cells := cellsFrom (s.heap.objs.size + 1) scope.names cl, qual, func := none, code := env.code, frame := env.frame, builtins := env.builtins }
    { s with heap := pushCells (s.heap.push { cls := .type "dict", data := .dict #[] }) scope.names }) : wpAny M A (newFunctionEnv scope g cl [] qual none .none (some env)) Q E s := by
  simp only [newFunctionEnv, Option.isSome_some, if_true]
  refine wpAny_bind (wpAny_alloc ?_)
  refine wpAny_bind (wpAny_layCells _ (fun name kind cells => by cases hkc : kind == NameKind.cell <;> simp [hkc]) _ _ _ _ ?_)
  rw [show ({ s with heap := s.heap.push { cls := .type "dict", data := .dict #[] } } : Shared).heap.objs.size = s.heap.objs.size + 1 from Heap.size_push ..]
  simp only [List.forIn_nil]
  exact wpAny_bind (wpAny_pure (wpAny_pure h))
end

/-- the names that a comprehension of one plain name sees -/
noncomputable def gamIn (Γ : Gam) (scope : Scope) (x : Str) : Gam := ⟨(x, Γ.size) :: Γ.vars.filter (fun p => scope.names.lookup p.1 == some .free), Γ.size + 1⟩

theorem lookup_filter {f : Str → Bool} {y : Str} {i : Nat} : ∀ {l : List (Str × Nat)}, (l.filter fun p => f p.1).lookup y = some i → l.lookup y = some i ∧ f y = true
  | [], h => by cases h
  | (z, j) :: r, h => by
    rw [List.lookup_cons]
    by_cases hz : f z = true
    · rw [List.filter_cons_of_pos (by exact hz), List.lookup_cons] at h
      cases q : y == z with
      | true => rw [q] at h; have := eq_of_beq q; subst this; exact ⟨h, hz⟩
      | false => rw [q] at h; exact lookup_filter h
    · rw [List.filter_cons_of_neg (by exact hz)] at h
      have hh := lookup_filter h
      cases q : y == z with
      | true => have := eq_of_beq q; subst this; exact absurd hh.2 hz
      | false => exact hh
end Mine
end
section
open PySem PySem.W PyProof.Rows
set_option maxRecDepth 4000
namespace Mine

theorem SX.fresh {W : Wd} {s s' : Shared} (x : SX W s s') {a : Addr} (h : s'.heap.get? a = none) : s.heap.get? a = none := by
  cases q : s.heap.get? a with
  | none => rfl
  | some o => obtain ⟨o', e⟩ := x.occ a o q; rw [h] at e; cases e

theorem OwnAt.grow {W : Wd} {s s' : Shared} {M M' : List Addr} (x : SX W s s') (m : ∀ a ∈ M', a ∈ M ∨ s.heap.get? a = none) {a : Addr} {xs : List PyData} (r : OwnAt s.heap M a xs) : OwnAt s'.heap M' a xs :=
  let ⟨vs, n, e, r⟩ := r; ⟨vs, n, x.keep _ _ e notTab_L, r.mono (fun b o _ e n => x.keep b o e n) m⟩
theorem VRep.grow {W : Wd} {s s' : Shared} {M M' : List Addr} (x : SX W s s') (m : ∀ a ∈ M', a ∈ M ∨ s.heap.get? a = none) {v : Value} : ∀ {d : V}, VRep s.heap M v d → VRep s'.heap M' v d
  | .d _, r => Rep.mono (fun b o _ e n => x.keep b o e n) m r
  | .r .., r => VRep.mono (d := .r ..) (fun b o _ e n => x.keep b o e n) m rfl r
  | .o _, ⟨a, e, r⟩ => ⟨a, e, r.grow x m⟩

inductive SndI (W : Wd) (Γ : Gam) (sc : Scope) : List Expr → List CE → Prop
  | nil : SndI W Γ sc [] []
  | one {e : Expr} {c : CE} : SndT W Γ sc e c → SndI W Γ sc [e] [c]

theorem tests_snd {W : Wd} {Γ : Gam} {sc : Scope} {ifs : List Expr} {cifs : List CE} (H : SndI W Γ sc ifs cifs) {n : Nat} {Φ : Fns} {A : Around} {s : Shared} {env : Env} {M : List Addr} {ρ : Ev} {k : Bool} {E : Value → Shared → Prop} {Q : Bool → Shared → Prop}
    (c : Cx W Γ sc n Φ A s env M ρ) (e : ctests Φ cifs ρ = some k) (h : ∀ s', SX W s s' → Q k s') :
    wpAny (model W.prog W.w) A (forIn ifs true fun c r => if r = true then do let ok ← isTrue c env (eval c env); pure (ForInStep.yield ok) else pure (ForInStep.yield r)) Q E s := by
  cases H with
  | nil => cases e; exact wpAny_tests_nil (h _ (SX.refl c.good))
  | one ht =>
    refine Classical.byContradiction fun hQ => ?_
    obtain ⟨x, e1, e⟩ := b_inv e
    obtain ⟨k', e2, e⟩ := b_inv e
    (refine hQ ?_; clear hQ)
    have : k' = k := by cases k' <;> exact Option.some.inj e
    subst this
    exact wpAny_tests_one (ht n Φ A s env M ρ x k' E Q c e1 e2 h)

section
variable {W : Wd} {Γ : Gam} {sc scope : Scope}

/-- what holds within a comprehension's turn -/
theorem inner_cx {x : Str} {n : Nat} {Φ : Fns} {A : Around} {s₁ s' : Shared} {env : Env} {M M' : List Addr} {ρ : Ev} {C : Addr} {v : Value} {d : PyData} (co : CompOk sc scope) (c : Cx W Γ sc n Φ A s₁ env M ρ)
    (ek : EnvOk (cenvOf scope sc env C) (relab scope sc)) (x1 : SX W s₁ s') (hM : ∀ a ∈ M', a ∈ M ∨ s₁.heap.get? a = none) (mok : MOk s'.heap M') (lay : Lay (cenvOf scope sc env C) s'.heap)
    (hv : VarAt s'.heap (cenvOf scope sc env C) x v) (r : Rep s'.heap M' v d) : Cx W (gamIn Γ scope x) (relab scope sc) n Φ A s' (cenvOf scope sc env C) M' (ρ ++ [.sh (.d d)]) := by
  refine ⟨c.ctrs, c.room, x1.good, ek, mok, ?_, lay, by simp [gamIn, c.len], ?_⟩
  · intro y i hl sl hs
    unfold gamIn at hl
    rw [List.lookup_cons] at hl
    cases q : y == x with
    | true =>
      rw [q] at hl
      cases hl
      have := eq_of_beq q
      subst this
      rw [← c.len] at hs
      simp at hs
      subst hs
      exact ⟨rfl, v, hv, r⟩
    | false =>
      rw [q] at hl
      obtain ⟨h1, h2⟩ := lookup_filter (f := fun z => scope.names.lookup z == some .free) (l := Γ.vars) (y := y) (i := i) hl
      have hlt := c.wf y i h1
      rw [← c.len] at hlt
      rw [List.getElem?_append_left hlt] at hs
      have hf : (y, NameKind.free) ∈ scope.names := mem_of_lookup (by simpa using h2)
      have vis := c.vis y i h1 sl hs
      cases sl with
      | un => trivial
      | sh u =>
        refine Classical.byContradiction fun hQ => ?_
        obtain ⟨o1, val, o2, o3⟩ := vis
        (refine hQ ?_; clear hQ)
        exact ⟨o1, val, cenv_var c.env co hf o2 (fun c hc => Cell.ext x1 hc), o3.grow x1 hM⟩
      | ow us =>
        refine Classical.byContradiction fun hQ => ?_
        obtain ⟨a, o2, o3⟩ := vis
        (refine hQ ?_; clear hQ)
        exact ⟨a, cenv_var c.env co hf o2 (fun c hc => Cell.ext x1 hc), o3.grow x1 hM⟩
  · intro y i hl
    unfold gamIn at hl ⊢
    rw [List.lookup_cons] at hl
    cases q : y == x with
    | true => rw [q] at hl; cases hl; exact Nat.lt_succ_self _
    | false =>
      rw [q] at hl
      exact Nat.lt_succ_of_lt (c.wf y i (lookup_filter (f := fun z => scope.names.lookup z == some .free) (l := Γ.vars) (y := y) (i := i) hl).1)

structure CA (W : Wd) (Γ : Gam) (sc scope : Scope) (n : Nat) (Φ : Fns) (A : Around) (s₁ s₂ : Shared) (env : Env) (M M' : List Addr) (ρ : Ev) (I C D : Addr) (xs : List PyData) (fp : List Addr) (P : Nat → Value → Prop) (St : Nat → Heap → Prop) : Prop where
  c : Cx W Γ sc n Φ A s₁ env M ρ
  T : Itr W A M s₁ s₂ I xs fp P St
  sz : szOk xs.length = true
  ek : EnvOk (cenvOf scope sc env C) (relab scope sc)
  hM : ∀ a ∈ M', a ∈ M ∨ s₁.heap.get? a = none
  hMM : ∀ a ∈ M, a ∈ M'
  hD : D ∈ M'
  hI : I ∈ M'
  hC : C ∈ M'
  hcell : ∀ y a, (cenvOf scope sc env C).cells.lookup y = some a → (y, NameKind.cell) ∈ scope.names → a ∈ M' ∧ s₁.heap.get? a = none ∧ a ∉ fp ∧ a ≠ D ∧ a ≠ I
  hDn : s₁.heap.get? D = none
  hCn : s₁.heap.get? C = none
  hDC : D ≠ C
  hDI : D ≠ I
  hCI : C ≠ I
  hDf : D ∉ fp
  hCf : C ∉ fp

structure CM (W : Wd) (s₁ : Shared) (K : Env) (M' : List Addr) (D : Addr) (St : Nat → Heap → Prop) (i : Nat) (ys : Array Value) (m : Nat) (done : List PyData) (s : Shared) : Prop where
  x : SX W s₁ s
  st : St i s.heap
  d : s.heap.get? D = some (plainL ys m)
  r : Reps s.heap M' ys.toList done
  lay : Lay K s.heap
  mok : MOk s.heap M'

structure CP (tm : PyData → Option Bool) (fm : PyData → Option PyData) (xs total : List PyData) (i k : Nat) (done rest : List PyData) : Prop where
  le : i ≤ xs.length
  run : compM tm fm (xs.drop i) = some rest
  eq : total = done ++ rest
  sz : k ≤ i

theorem CP.step {tm : PyData → Option Bool} {fm : PyData → Option PyData} {xs total done rest : List PyData} {i k : Nat} (h : CP tm fm xs total i k done rest) {d : PyData} (hd : xs[i]? = some d) :
    (tm d = some false ∧ CP tm fm xs total (i + 1) k done rest) ∨ (tm d = some true ∧ ∃ y rest', fm d = some y ∧ CP tm fm xs total (i + 1) (k + 1) (done ++ [y]) rest') := by
  obtain ⟨hlt, rfl⟩ := List.getElem?_eq_some_iff.mp hd
  obtain ⟨t, et, e5⟩ := b_inv (show (tm xs[i]).bind (fun t => if t then (fm xs[i]).bind fun y => (compM tm fm (xs.drop (i + 1))).map (y :: ·) else compM tm fm (xs.drop (i + 1))) = some rest from (congrArg (compM tm fm) (List.drop_eq_getElem_cons hlt)).symm.trans h.run)
  cases t with
  | false => exact .inl ⟨et, hlt, e5, h.eq, Nat.le_succ_of_le h.sz⟩
  | true =>
    obtain ⟨y, ey, e5⟩ := b_inv e5
    obtain ⟨rest', er, e6⟩ := Option.map_eq_some_iff.mp e5
    exact .inr ⟨et, y, rest', ey, hlt, er, h.eq.trans (by rw [← e6, List.append_assoc]; rfl), Nat.succ_le_succ h.sz⟩
theorem CP.last {tm : PyData → Option Bool} {fm : PyData → Option PyData} {xs total done rest : List PyData} {i k : Nat} (h : CP tm fm xs total i k done rest) (hi : ¬ i < xs.length) : total = done := by
  have := h.run
  rw [List.drop_of_length_le (Nat.le_of_not_lt hi)] at this
  cases this
  exact h.eq.trans (List.append_nil _)

theorem mok_upd {M' : List Addr} {a : Addr} {h h' : Heap} (mo : MOk h M') (hk : ∀ b o, b ≠ a → h.get? b = some o → h'.get? b = some o) (ha : ∃ o, h'.get? a = some o ∧ ¬ TabLike o) : MOk h' M' := fun b hb =>
  if q : b = a then q ▸ ha else (mo b hb).imp fun o e => ⟨hk b o q e.1, e.2⟩
theorem lay_upd {K : Env} {a : Addr} {h h' : Heap} (lay : Lay K h) (hk : ∀ b o, b ≠ a → h.get? b = some o → h'.get? b = some o) (hC : K.locals ≠ a) (hc : ∀ y b v, K.cells.lookup y = some b → h.IsCell b v → b ≠ a) : Lay K h' :=
  ⟨lay.ns.imp fun q hq => hq.extBut (b := a) (fun b o hb e => hk b o hb e) hC, fun y b hy => (lay.cell y b hy).imp fun q hq => hq.imp fun o e => ⟨hk _ _ (hc y b q hy hq) e.1, e.2⟩⟩

/-- where the variable of a comprehension lies -/
noncomputable def LocC (scope : Scope) (K : Env) (x : Str) : Prop := locOf K x = K.locals ∨ ∃ a, K.cells.lookup x = some a ∧ locOf K x = a ∧ (x, NameKind.cell) ∈ scope.names

theorem relab_own {x : Str} (hx : scope.names.lookup x = some .local ∨ scope.names.lookup x = some .cell) : (relab scope sc).names.lookup x = some .local ∨ (relab scope sc).names.lookup x = some .cell := by
  have e2 : (relab scope sc).names.lookup x = _ := @relab_lookup scope sc scope.names x
  rw [e2]
  rcases hx with hx | hx <;> rw [hx] <;> simp

theorem locC {x : Str} {K : Env} (hx : scope.names.lookup x = some .local ∨ scope.names.lookup x = some .cell) (ek : EnvOk K (relab scope sc)) : LocC scope K x := by
  have hk := kindOf_eq ek x
  have e2 : (relab scope sc).names.lookup x = _ := @relab_lookup scope sc scope.names x
  by_cases q : K.kindOf x = some .local
  · exact .inl (if_pos q)
  · rcases hx with hx | hx
    · exact absurd (by rw [hk, e2, hx]; simp) q
    · obtain ⟨a, ha⟩ := ek.cells x (.inl (by rw [e2, hx]; simp))
      exact .inr ⟨a, ha, (if_neg q).trans (by rw [ha]; rfl), mem_of_lookup hx⟩
theorem LocC.soft {x : Str} {K : Env} (h : LocC scope K x) {hp : Heap} (lay : Lay K hp) {o : Obj} (ho : hp.get? (locOf K x) = some o) : Soft o :=
  h.elim (fun q => lay.ns.elim fun _ hm => soft_ns hm o (q ▸ ho)) fun ⟨a, ha, q, _⟩ => (lay.cell x a ha).elim fun _ hv => soft_cell hv o (q ▸ ho)
theorem LocC.notTab {x : Str} {K : Env} (h : LocC scope K x) {hp : Heap} (lay : Lay K hp) : ∃ o, hp.get? (locOf K x) = some o ∧ ¬ TabLike o :=
  h.elim (fun q => lay.ns.elim fun _ hm => by rw [q]; exact ns_notTab hm) fun ⟨a, ha, q, _⟩ => (lay.cell x a ha).elim fun _ hv => by
    rw [q]; obtain ⟨o, ho, hd⟩ := hv; exact ⟨o, ho, fun t => by obtain ⟨fs, q, _⟩ := t.2; rw [hd] at q; cases q⟩

variable {n : Nat} {Φ : Fns} {A : Around} {s₁ s₂ : Shared} {env : Env} {M M' : List Addr} {ρ : Ev} {I C D : Addr} {xs total : List PyData} {fp : List Addr} {P : Nat → Value → Prop} {St : Nat → Heap → Prop}
  {i m : Nat} {ys : Array Value} {done : List PyData} {s : Shared}

theorem CA.loc {x : Str} (a : CA W Γ sc scope n Φ A s₁ s₂ env M M' ρ I C D xs fp P St) (h : LocC scope (cenvOf scope sc env C) x) :
    locOf (cenvOf scope sc env C) x ∈ M' ∧ s₁.heap.get? (locOf (cenvOf scope sc env C) x) = none ∧ locOf (cenvOf scope sc env C) x ∉ fp ∧ locOf (cenvOf scope sc env C) x ≠ D ∧ locOf (cenvOf scope sc env C) x ≠ I :=
  h.elim (fun q => by rw [q]; exact ⟨a.hC, a.hCn, a.hCf, Ne.symm a.hDC, a.hCI⟩) fun ⟨b, hb, q, hm⟩ => by rw [q]; exact a.hcell x b hb hm

theorem CA.cellI (co : CompOk sc scope) (a : CA W Γ sc scope n Φ A s₁ s₂ env M M' ρ I C D xs fp P St) {y : Str} {b : Addr} (hy : (cenvOf scope sc env C).cells.lookup y = some b) : b ≠ I := fun z => by
  rcases cenv_own hy with ⟨_, _, hm⟩ | ⟨hm, ha⟩
  · exact (a.hcell y b hy hm).2.2.2.2 z
  · obtain ⟨c', hc'⟩ := a.c.env.cells y (co.free y hm)
    obtain ⟨u, o', hu, _⟩ := a.c.lay.cell y c' hc'
    rw [hc'] at ha
    have : b = c' := ha
    rw [← this, z, a.T.new] at hu; cases hu

theorem CM.next (co : CompOk sc scope) (a : CA W Γ sc scope n Φ A s₁ s₂ env M M' ρ I C D xs fp P St) (h : CM W s₁ (cenvOf scope sc env C) M' D St i ys m done s) {j : Nat} {h' : Heap} {tk : Nat} (st : St j h') (hk : ∀ b o, b ∉ [I] → s.heap.get? b = some o → h'.get? b = some o) :
    CM W s₁ (cenvOf scope sc env C) M' D St j ys m done { s with heap := h', toks := tk } :=
  have hk : ∀ b o, b ≠ I → s.heap.get? b = some o → h'.get? b = some o := fun b o hb e => hk b o (fun q => hb (List.mem_singleton.mp q)) e
  ⟨h.x.upd hk a.T.new (fun o => a.T.soft i s.heap o h.st) a.c.good, st, hk _ _ a.hDI h.d, h.r.mono (fun b o hb e _ => hk b o (fun q => hb (by rw [q]; exact a.hI)) e) fun a ha => .inl ha,
    lay_upd h.lay hk a.hCI fun _ _ _ hy _ => a.cellI co hy, mok_upd h.mok hk ((a.T.here j h' st).imp fun o ho => ⟨ho, (a.T.soft j h' o st ho).1⟩)⟩

theorem CM.store {x : Str} (a : CA W Γ sc scope n Φ A s₁ s₂ env M M' ρ I C D xs fp P St) (hl : LocC scope (cenvOf scope sc env C) x) (h : CM W s₁ (cenvOf scope sc env C) M' D St i ys m done s) {h' : Heap} {tk : Nat} (lay : Lay (cenvOf scope sc env C) h')
    (hk : ∀ b o, b ≠ locOf (cenvOf scope sc env C) x → s.heap.get? b = some o → h'.get? b = some o) : CM W s₁ (cenvOf scope sc env C) M' D St i ys m done { s with heap := h', toks := tk } :=
  have l := a.loc hl
  ⟨h.x.upd hk l.2.1 (fun _ => hl.soft h.lay) a.c.good, a.T.walks.frame _ _ _ h.st fun b hb o e => hk b o (fun q => l.2.2.1 (by rw [← q]; exact hb)) e, hk _ _ (Ne.symm l.2.2.2.1) h.d,
    h.r.mono (fun b o hb e _ => hk b o (fun q => hb (by rw [q]; exact l.1)) e) fun a ha => .inl ha, lay, mok_upd h.mok hk (hl.notTab lay)⟩

theorem CA.old (a : CA W Γ sc scope n Φ A s₁ s₂ env M M' ρ I C D xs fp P St) {t u : Shared} (x : SX W s₁ t) (st : St i t.heap) (x8 : SX W t u) {b : Addr} (hb : b ∈ fp) {o : Obj} (e : t.heap.get? b = some o) : u.heap.get? b = some o := by
  by_cases hbI : b = I
  · exact x8.keep b o e (a.T.soft i t.heap o st (hbI ▸ e)).1
  · obtain ⟨_, o', e1, e2⟩ := a.T.old b hb hbI
    have e3 := x.keep b o' e1 e2
    rw [e] at e3; cases e3
    exact x8.keep b o e e2

theorem CM.ext (a : CA W Γ sc scope n Φ A s₁ s₂ env M M' ρ I C D xs fp P St) (h : CM W s₁ (cenvOf scope sc env C) M' D St i ys m done s) {s' : Shared} (x8 : SX W s s') : CM W s₁ (cenvOf scope sc env C) M' D St i ys m done s' :=
  ⟨h.x.trans x8, a.T.walks.frame _ _ _ h.st fun _ hb _ e => a.old h.x h.st x8 hb e, x8.keep _ _ h.d notTab_L, Reps.ext x8 h.r, h.lay.ext x8, h.mok.ext x8⟩

theorem CM.app (a : CA W Γ sc scope n Φ A s₁ s₂ env M M' ρ I C D xs fp P St) (h : CM W s₁ (cenvOf scope sc env C) M' D St i ys m done s) {w : Value} {y : PyData} (ry : Rep s.heap M' w y) {h' : Heap} (d : h'.get? D = some (plainL (ys.push w) (m + 1)))
    (hk : ∀ b o, b ≠ D → s.heap.get? b = some o → h'.get? b = some o) : CM W s₁ (cenvOf scope sc env C) M' D St i (ys.push w) (m + 1) (done ++ [y]) { s with heap := h' } :=
  ⟨SX.upd (tk := s.toks) h.x hk a.hDn (soft_of h.d soft_L) a.c.good, a.T.walks.frame _ _ _ h.st fun b hb o e => hk b o (fun q => a.hDf (by rw [← q]; exact hb)) e, d,
    by
      rw [Array.toList_push]
      exact (h.r.append (.cons ry .nil)).mono (fun b o hb e _ => hk b o (fun q => hb (by rw [q]; exact a.hD)) e) fun a ha => .inl ha,
    lay_upd h.lay hk (Ne.symm a.hDC) (fun _ _ _ _ ⟨_, e1, e2⟩ z => by rw [z, h.d] at e1; cases e1; cases e2), mok_upd h.mok hk ⟨_, d, notTab_L⟩⟩

theorem comp_loop {x : Str} {px : Pos} {elt iter : Expr} {ifs : List Expr} {celt : CE} {cifs : List CE} {pos : Pos} (co : CompOk sc scope) (hx : scope.names.lookup x = some .local ∨ scope.names.lookup x = some .cell)
    (helt : SndE W (gamIn Γ scope x) (relab scope sc) elt celt) (hifs : SndI W (gamIn Γ scope x) (relab scope sc) ifs cifs)
    (a : CA W Γ sc scope n Φ A s₁ s₂ env M M' ρ I C D xs fp P St) {tm : PyData → Option Bool} {fm : PyData → Option PyData} (htm : ∀ d k, tm d = some k → ctests Φ cifs (ρ ++ [.sh (.d d)]) = some k)
    (hfm : ∀ d y, fm d = some y → (ceval Φ celt (ρ ++ [.sh (.d d)])).bind toD = some y) (m4 : CM W s₁ (cenvOf scope sc env C) M' D St 0 #[] 0 [] s) (e : compM tm fm xs = some total)
    {R : Result → Shared → Prop} (hR : ∀ s' m, SX W s₁ s' → s'.heap.Ns C m → Rep s'.heap (C :: M) (.ref D) (.list total) → R (.ok .next) s') :
    codeAny (model W.prog W.w) A (.compLoop (.ListComp elt [⟨.Name x px, iter, ifs, 0⟩] scope pos) 0 (.ref I) (.ref D) (cenvOf scope sc env C)) R s := by
  have hl : LocC scope (cenvOf scope sc env C) x := locC hx a.ek
  have key : ∀ Inv : Nat → Shared → Prop, (∀ k s, Inv k s → ∃ z : (Nat × Nat) × Array Value × List PyData × List PyData, k = xs.length + 1 - z.1.1 ∧ CM W s₁ (cenvOf scope sc env C) M' D St z.1.1 z.2.1 z.1.2 z.2.2.1 s ∧ CP tm fm xs total z.1.1 z.2.1.size z.2.2.1 z.2.2.2) →
      (∀ i m ys done rest s, CM W s₁ (cenvOf scope sc env C) M' D St i ys m done s → CP tm fm xs total i ys.size done rest → Inv (xs.length + 1 - i) s) → codeAny (model W.prog W.w) A (.compLoop (.ListComp elt [⟨.Name x px, iter, ifs, 0⟩] scope pos) 0 (.ref I) (.ref D) (cenvOf scope sc env C)) R s := by
    intro Inv hi ho
    refine codeAny_compLoop_tests Inv (fun k s' hh => ?_) _ (ho 0 0 #[] [] total s m4 ⟨Nat.zero_le _, e, rfl, Nat.le_refl _⟩)
    obtain ⟨⟨⟨i, m⟩, ys, done, rest⟩, hk, hm, hp⟩ := hi k s' hh
    clear hi hh m4
    by_cases hlt : i < xs.length
    · have hd : xs[i]? = some xs[i] := List.getElem?_eq_getElem hlt
      have hlow : xs.length + 1 - (i + 1) < k := by rw [hk]; exact Nat.sub_lt_sub_left (Nat.lt_succ_of_lt hlt) (Nat.lt_succ_self i)
      generalize xs[i] = xd at hd
      refine a.T.walks.item i s' _ _ hlt hm.st fun v h' tk hP st6 hk6 => ?_
      have m6 := hm.next (tk := tk) co a st6 hk6
      have rv : Rep h' M' v xd := (a.T.rep i v _ hP hd).mono (fun b o _ e n => m6.x.keep b o e n) a.hM
      refine wpAny_assign_Name (store_snd a.ek m6.lay (relab_own hx) fun h₇ tk₇ hk7 lay7 hv7 _ => ?_)
      have m7 := CM.store (s := { s' with heap := h', toks := tk }) (tk := tk₇) a hl m6 lay7 hk7
      have cx7 := inner_cx (x := x) (s' := { s' with heap := h₇, toks := tk₇ }) co a.c a.ek m7.x a.hM m7.mok lay7 hv7 (rv.mono (fun b o hb e _ => hk7 b o (fun q => hb (by rw [q]; exact (a.loc hl).1)) e) fun a ha => .inl ha)
      clear hk7 lay7 hv7 rv m6 hk6 st6 hP hm
      rcases hp.step hd with ⟨et, hp⟩ | ⟨et, y, rest', ey, hp⟩
      · exact tests_snd hifs cx7 (htm _ _ et) fun s₈ x8 => ⟨_, hlow, ho _ _ _ _ _ _ (m7.ext a x8) hp⟩
      · refine tests_snd hifs cx7 (htm _ _ et) fun s₈ x8 => ?_
        obtain ⟨yv, ey1, ey2⟩ := b_inv (hfm _ _ ey)
        refine helt n Φ A s₈ _ M' _ yv _ _ (cx7.ext x8) ey1 fun w s₉ x9 r9 => ?_
        rw [toD_eq ey2] at r9
        have m9 := (m7.ext a x8).ext a x9
        refine list_append m9.d (by have := szOk_le a.sz; have := hp.sz; have := hp.le; unfold sizeLine; lia) fun h₁₀ d10 hk10 => ?_
        exact ⟨_, hlow, ho _ _ _ _ _ _ (m9.app a r9 d10 hk10) (by rw [Array.size_push]; exact hp)⟩
    · refine a.T.walks.done s' _ _ (Nat.le_antisymm hp.le (Nat.le_of_not_lt hlt) ▸ hm.st) fun h' tk hk6 => ?_
      have hk6 : ∀ b o, b ≠ I → s'.heap.get? b = some o → h'.get? b = some o := fun b o hb e => hk6 b o (fun q => hb (List.mem_singleton.mp q)) e
      obtain ⟨q, hq⟩ := hm.lay.ns
      refine hR _ q (hm.x.upd hk6 a.T.new (fun o => a.T.soft i s'.heap o hm.st) a.c.good) (hq.extBut (b := I) (fun b o hb e => hk6 b o hb e) a.hCI) ?_
      rw [hp.last hlt]
      refine .list ?_ (hk6 _ _ a.hDI hm.d) ?_
      · intro z
        rcases List.mem_cons.mp z with z | z
        · exact a.hDC z
        · obtain ⟨o, e, _⟩ := a.c.mok D z; rw [a.hDn] at e; cases e
      · refine hm.r.mono (fun b o hb e _ => hk6 b o (fun q => hb (by rw [q]; exact a.hI)) e) fun b hb => ?_
        rcases List.mem_cons.mp hb with rfl | hb
        · exact .inl a.hC
        · exact .inl (a.hMM b hb)
  exact key _ (fun _ _ h => h) fun i m ys done rest s h1 h2 => ⟨⟨⟨i, m⟩, ys, done, rest⟩, rfl, h1, h2⟩
end
end Mine
end
section
open PySem PySem.W PyProof.Rows
set_option maxRecDepth 4000
namespace Mine

section
variable {W : Wd} {Γ : Gam} {sc scope : Scope}

theorem lt_of_get {h : Heap} {a : Addr} {o : Obj} (e : h.get? a = some o) : a < h.objs.size := Heap.lt_size e

theorem comp_core {x : Str} {px : Pos} {elt iter : Expr} {ifs : List Expr} {celt : CE} {cifs : List CE} {pos : Pos} (co : CompOk sc scope) (hx : scope.names.lookup x = some .local ∨ scope.names.lookup x = some .cell)
    (helt : SndE W (gamIn Γ scope x) (relab scope sc) elt celt) (hifs : SndI W (gamIn Γ scope x) (relab scope sc) ifs cifs)
    {n : Nat} {Φ : Fns} {A : Around} {s₁ s₂ : Shared} {env : Env} {M : List Addr} {ρ : Ev} {I : Addr} {xs total : List PyData} {fp : List Addr} {P : Nat → Value → Prop} {St : Nat → Heap → Prop}
    (c : Cx W Γ sc n Φ A s₁ env M ρ) (T : Itr W A M s₁ s₂ I xs fp P St) (sz : szOk xs.length = true)
    (e : compM (fun z => (spread 0 z).bind fun t => ctests Φ cifs (ρ ++ t)) (fun z => (spread 0 z).bind fun t => (ceval Φ celt (ρ ++ t)).bind toD) xs = some total)
    {E : Value → Shared → Prop} {RR : Value → Addr → Result → Shared → Prop}
    (hRR : ∀ s' D C m, SX W s₁ s' → s₁.heap.get? C = none → s'.heap.Ns C m → s₁.heap.get? D = none → Rep s'.heap (C :: M) (.ref D) (.list total) → RR (.ref D) C (.ok .next) s') :
    wpAny (model W.prog W.w) A (newList []) (fun acc s₃ => wpAny (model W.prog W.w) A (newFunctionEnv scope env.globals (cloOf env.cells scope.names []) [] env.qual none .none (some env)) (fun cenv s₄ =>
      codeAny (model W.prog W.w) A (.compStart (.ListComp elt [⟨.Name x px, iter, ifs, 0⟩] scope pos) 0 (.ref I) acc { cenv with scope := relab scope sc }) (RR acc cenv.locals) s₄) E s₃) E s₂ := by
  refine wpAny_newList (new_cenv ?_)
  generalize hH3 : s₂.heap.push { cls := .type "list", data := .seq ([] : List Value).toArray } = H3
  generalize hH4 : H3.push { cls := .type "dict", data := .dict #[] } = H4
  have e3 : H3.objs.size = s₂.heap.objs.size + 1 := by rw [← hH3, Heap.size_push]
  have e4 : H4.objs.size = H3.objs.size + 1 := by rw [← hH4, Heap.size_push]
  have k3 : ∀ b o, s₂.heap.get? b = some o → H3.get? b = some o := fun b o e => by rw [← hH3]; exact Heap.get?_push_of_some _ e
  have k4 : ∀ b o, H3.get? b = some o → H4.get? b = some o := fun b o e => by rw [← hH4]; exact Heap.get?_push_of_some _ e
  have k5 : ∀ b o, H4.get? b = some o → (pushCells H4 scope.names).get? b = some o := fun b o e => pushCells_keeps _ _ b o e
  have kk : ∀ b o, s₂.heap.get? b = some o → (pushCells H4 scope.names).get? b = some o := fun b o e => k5 b o (k4 b o (k3 b o e))
  have x2 := T.ext
  have x4 : SX W s₁ { s₂ with heap := pushCells H4 scope.names } := x2.trans (SX.heap x2.good kk)
  have fr : ∀ a : Addr, s₂.heap.objs.size ≤ a → s₁.heap.get? a = none := fun a ha => x2.fresh (Heap.get?_none_of_le ha)
  have d4 : (pushCells H4 scope.names).get? s₂.heap.objs.size = some (plainL #[] 0) := k5 _ _ (k4 _ _ (by rw [← hH3]; exact Heap.get?_push_size _ rfl))
  have ns4 : (pushCells H4 scope.names).Ns H3.objs.size fun _ => none := (Heap.Ns.new H3 (.type "dict")).keeps fun b o e => k5 b o (by rw [← hH4]; exact e)
  have ok := cellsFrom_ok scope.names H4 (H3.objs.size + 1) [] ⟨fun _ _ hm => (nomatch hm), List.Pairwise.nil⟩ (by rw [e4]; exact Nat.le_refl _)
  rw [e4] at ok
  have clt : ∀ y c', env.cells.lookup y = some c' → c' < s₂.heap.objs.size := fun y c' hc => by
    obtain ⟨v, o, ho, hd⟩ := c.lay.cell y c' hc
    exact lt_of_get (x2.keep _ _ ho fun t => by obtain ⟨fs, q, _⟩ := t.2; rw [hd] at q; cases q)
  have ek : EnvOk (cenvOf scope sc env H3.objs.size) (relab scope sc) := cenv_ok c.env co (fun y c' hc => Nat.lt_trans (clt y c' hc) (by rw [e3]; exact Nat.lt_succ_self _)) ok.apart
  have Iold : I < s₂.heap.objs.size := by obtain ⟨o, ho⟩ := T.here 0 _ T.st; exact lt_of_get ho
  have fpold : ∀ b ∈ fp, b < s₂.heap.objs.size := fun b hb => by
    by_cases q : b = I
    · rw [q]; exact Iold
    · obtain ⟨_, o, e1, e2⟩ := T.old b hb q
      exact lt_of_get (x2.keep _ _ e1 e2)
  have lay4 : Lay (cenvOf scope sc env H3.objs.size) (pushCells H4 scope.names) := by
    refine ⟨⟨_, ns4⟩, fun y a hy => ?_⟩
    rcases cenv_own hy with ⟨_, hm, _⟩ | ⟨hm, ha⟩
    · exact ⟨none, (ok.empty y a hm).1⟩
    · obtain ⟨c', hc'⟩ := c.env.cells y (co.free y hm)
      rw [hc'] at ha
      have ha : a = c' := ha
      subst ha
      obtain ⟨v, hv⟩ := c.lay.cell y a hc'
      exact ⟨v, Cell.ext x4 hv⟩
  let own := (cellsFrom (H3.objs.size + 1) scope.names []).map (·.2)
  have hown : ∀ a ∈ own, H3.objs.size + 1 ≤ a ∧ ∃ o, (pushCells H4 scope.names).get? a = some o ∧ ¬ TabLike o := fun a ha => by
    obtain ⟨p, hp, rfl⟩ := List.mem_map.mp ha
    obtain ⟨⟨o, h1, h2⟩, h3⟩ := ok.empty p.1 p.2 hp
    exact ⟨h3, o, h1, fun t => by obtain ⟨fs, q, _⟩ := t.2; rw [h2] at q; cases q⟩
  have big : ∀ a, s₂.heap.objs.size ≤ a → a ≠ I ∧ a ∉ fp := fun a ha => ⟨Nat.ne_of_gt (Nat.lt_of_lt_of_le Iold ha), fun q => Nat.lt_irrefl _ (Nat.lt_of_lt_of_le (fpold a q) ha)⟩
  have loop : codeAny (model W.prog W.w) A (.compLoop (.ListComp elt [⟨.Name x px, iter, ifs, 0⟩] scope pos) 0 (.ref I) (.ref s₂.heap.objs.size) (cenvOf scope sc env H3.objs.size)) (RR (.ref s₂.heap.objs.size) H3.objs.size) { s₂ with heap := pushCells H4 scope.names } := by
    have hDs := big s₂.heap.objs.size (Nat.le_refl _)
    have hCs := big H3.objs.size (by rw [e3]; exact Nat.le_succ _)
    refine comp_loop (M' := s₂.heap.objs.size :: I :: H3.objs.size :: (own ++ M)) co hx helt hifs ⟨c, T, sz, ek, ?_, ?_, by simp, by simp, by simp, ?_, fr _ (Nat.le_refl _), fr _ (by rw [e3]; exact Nat.le_succ _), ?_, hDs.1, hCs.1, hDs.2, hCs.2⟩
      (fun _ _ h => h) (fun _ _ h => h) ⟨x4, ?_, d4, .nil, lay4, ?_⟩ e fun s' m x5 hm hr => hRR s' _ _ m x5 (fr _ (by rw [e3]; exact Nat.le_succ _)) hm (fr _ (Nat.le_refl _)) hr
    · intro a ha
      rcases List.mem_cons.mp ha with rfl | ha
      · exact .inr (fr _ (Nat.le_refl _))
      rcases List.mem_cons.mp ha with rfl | ha
      · exact .inr T.new
      rcases List.mem_cons.mp ha with rfl | ha
      · exact .inr (fr _ (by rw [e3]; exact Nat.le_succ _))
      rcases List.mem_append.mp ha with ha | ha
      · exact .inr (fr _ (Nat.le_trans (by rw [e3]; exact Nat.le_succ_of_le (Nat.le_succ _)) (hown a ha).1))
      · exact .inl ha
    · intro a ha
      exact List.mem_cons_of_mem _ (List.mem_cons_of_mem _ (List.mem_cons_of_mem _ (List.mem_append_right _ ha)))
    · intro y a hy hm
      have hy2 : (y, a) ∈ cellsFrom (H3.objs.size + 1) scope.names [] := by
        rcases cenv_own hy with ⟨_, h2, _⟩ | ⟨h2, _⟩
        · exact h2
        · have := nodup_kind co.nd hm h2; cases this
      have ho := hown a (List.mem_map_of_mem (f := (·.2)) hy2)
      have hle : s₂.heap.objs.size < a := Nat.lt_of_lt_of_le (by rw [e3]; exact Nat.lt_succ_of_lt (Nat.lt_succ_self _)) ho.1
      have hb := big a (Nat.le_of_lt hle)
      exact ⟨List.mem_cons_of_mem _ (List.mem_cons_of_mem _ (List.mem_cons_of_mem _ (List.mem_append_left _ (List.mem_map_of_mem (f := (·.2)) hy2)))), fr a (Nat.le_of_lt hle), hb.2, Nat.ne_of_gt hle, hb.1⟩
    · rw [e3]; exact Nat.ne_of_lt (Nat.lt_succ_self _)
    · exact T.walks.frame _ _ _ T.st fun b _ o e => kk b o e
    · intro a ha
      rcases List.mem_cons.mp ha with rfl | ha
      · exact ⟨_, d4, notTab_L⟩
      rcases List.mem_cons.mp ha with rfl | ha
      · obtain ⟨o, ho⟩ := T.here 0 _ T.st
        exact ⟨o, kk _ _ ho, (T.soft 0 _ _ T.st ho).1⟩
      rcases List.mem_cons.mp ha with rfl | ha
      · exact ns_notTab ns4
      rcases List.mem_append.mp ha with ha | ha
      · exact (hown a ha).2
      · exact (c.mok.ext x4) a ha
  exact codeAny_compStart_list loop (T.walks.self 0 _ _ _ (T.walks.frame _ _ _ T.st fun b _ o e => kk b o e) loop)

theorem snd_comp {x : Str} {px : Pos} {elt iter : Expr} {ifs : List Expr} {celt cit : CE} {cifs : List CE} {pos : Pos} (co : CompOk sc scope) (hx : scope.names.lookup x = some .local ∨ scope.names.lookup x = some .cell)
    (hs : isSet iter = false) (hit : SndE W Γ sc iter cit) (helt : SndE W (gamIn Γ scope x) (relab scope sc) elt celt) (hifs : SndI W (gamIn Γ scope x) (relab scope sc) ifs cifs) :
    SndE W Γ sc (.ListComp elt [⟨.Name x px, iter, ifs, 0⟩] scope pos) (.comp 0 celt cit cifs) := fun n Φ A s env M ρ v E Q c e h => by
  refine Classical.byContradiction fun hQ => ?_
  obtain ⟨u, e1, e⟩ := b_inv e
  obtain ⟨xs, e2, e⟩ := b_inv e
  obtain ⟨total, e3, rfl⟩ := Option.map_eq_some_iff.mp e
  (refine hQ ?_; clear hQ)
  have hclos : closureFor scope env = pure (cloOf env.cells scope.names []) := closure_pure fun p hp hf => by
    obtain ⟨y, k⟩ := p
    have hf : k = .free := hf
    subst hf
    exact c.env.cells y (co.free y hp)
  have hfold : ∀ z, foldedSetIterable iter env z = pure z := fun z => by
    cases iter <;> first | rfl | cases hs
  rw [eval_ListComp]
  refine wpAny_comprehension_free (use := none) rfl hfold hclos co.kind (fun p hp hl => nodup_lookup co.nd (by obtain ⟨y, k⟩ := p; have hl : k = .local := hl; subst hl; exact hp)) ?_
  refine hit n Φ A s env M ρ u E _ c e1 fun xv s₁ x1 r1 => ?_
  refine (iter_snd (M := M) c.room x1.good r1 e2 fun I s₂ fp P St T => ?_).2
  rw [relabel_eq c.env]
  have sz := (iter_snd (M := M) (E := E) (Q := fun _ _ => True) c.room x1.good r1 e2 fun _ _ _ _ _ _ => trivial).1
  refine comp_core (RR := fun acc C => compPost (model W.prog W.w) A E none Q acc C) co hx helt hifs (c.ext x1) T sz e3 fun s' D C m x2 hC hm hD hr => ?_
  refine ⟨m, hm, fun h' hsb => ?_⟩
  have x3 : SX W s₁ { s' with heap := h' } := SX.upd (tk := s'.toks) x2 hsb.extBut hC (soft_ns hm) x1.good
  refine h _ _ (x1.trans x3) (hr.mono (fun b o hb e _ => hsb.extBut b o (fun q => hb (by rw [q]; exact List.mem_cons_self)) e) fun a ha => .inl (List.mem_cons_of_mem _ ha))
end
end Mine
end
section
open PySem PySem.W PyProof.Rows
set_option maxRecDepth 4000
namespace Mine

structure Cc where
  fns : List Str
  csts : List (Str × PyData)

noncomputable def bltAll : List (Str × Value) := [(Str.ofString "len", .builtin "len"), (Str.ofString "range", .type "range"), (Str.ofString "sum", .builtin "sum"), (Str.ofString "chr", .builtin "chr"), (Str.ofString "list", .type "list"),
  (Str.ofString "isinstance", .builtin "isinstance"), (Str.ofString "divmod", .builtin "divmod"), (Str.ofString "int", .type "int"), (Str.ofString "reversed", .type "reversed"), (Str.ofString "sorted", .builtin "sorted"), (Str.ofString "enumerate", .type "enumerate")]

noncomputable def fnIx : List Str → Str → Option Nat
  | [], _ => none
  | y :: r, x => if y == x then some 0 else (fnIx r x).map (· + 1)

/-- a built-in function by its place in the list of built-ins and the number of its arguments -/
noncomputable def primTab : List (Nat × Nat × Pf) := [(0, 1, .len), (1, 1, .range1), (1, 2, .range2), (1, 3, .range3), (2, 1, .sum), (3, 1, .chr), (4, 1, .listOf), (6, 2, .divmod)]
noncomputable def bltN (i : Nat) (x : Str) : Bool := match bltAll[i]? with
  | some p => p.1 == x
  | none => false
noncomputable def primOf (x : Str) (n : Nat) : Option Pf := (primTab.find? fun t => t.2.1 == n && bltN t.1 x).map (·.2.2)
noncomputable def methTab : List Pm := [.join, .split, .startswith, .endswith, .find, .count, .index, .bitLength]
noncomputable def methOf (x : Str) : Option Pm := methTab.find? fun m => mname m == x
noncomputable def isiTab : List (Nat × Nat × Pf) := [(5, 7, .isInt), (5, 4, .isList)]
noncomputable def isiOf (x y : Str) : Option Pf := (isiTab.find? fun t => bltN t.1 x && bltN t.2.1 y).map (·.2.2)

noncomputable def isGlob (sc : Scope) (x : Str) : Bool := okName x && sc.names.lookup x == some .globalImplicit

noncomputable def kindLC (sc : Scope) (x : Str) : Bool := sc.names.lookup x == some .local || sc.names.lookup x == some .cell

/-! parts of a tree, told -/
noncomputable def nameOf (e : Expr) : Option { p : Str × Pos // e = .Name p.1 p.2 } := match e with
  | .Name x p => some ⟨(x, p), rfl⟩
  | _ => none
noncomputable def attrOf (e : Expr) : Option { p : Expr × Str × Pos // e = .Attribute p.1 p.2.1 p.2.2 } := match e with
  | .Attribute o nm p => some ⟨(o, nm, p), rfl⟩
  | _ => none
noncomputable def sliceOf (e : Expr) : Option { p : Option Expr × Option Expr × Option Expr × Pos // e = .Slice p.1 p.2.1 p.2.2.1 p.2.2.2 } := match e with
  | .Slice a b c p => some ⟨(a, b, c, p), rfl⟩
  | _ => none

/-- the compiler one step shallower -/
structure Rc where
  E : Gam → Scope → Expr → Option CE
  L : Gam → Scope → List Expr → Option (List CE)
  P : Gam → Scope → Option Expr → Option (Option CE)
  B : Gam → Scope → BoolOp → List Expr → Option CE
  F : Gam → Scope → List Expr → Option (List CE)
  I : Gam → Scope → Str → List Expr → Option CE
section
variable (K : Cc) (r : Rc) (Γ : Gam) (sc : Scope)
noncomputable def eConst : Const → Option CE
  | .int i => some (.lit (.int i))
  | .str x => some (.lit (.str x))
  | .bool b => some (.lit (.bool b))
  | .none => some (.lit .none)
  | _ => none
noncomputable def eName (x : Str) : Option CE := if okName x then (match Γ.vars.lookup x with
  | some i => some (.var i)
  | none => if isGlob sc x then (K.csts.lookup x).map .lit else none) else none
noncomputable def eCmp (a : Expr) (ops : List CmpOp) (bs : List Expr) : Option CE := match ops with
  | [op] => (match bs with
    | [b] => if isSet b then none else (r.E Γ sc a).bind fun ca => (r.E Γ sc b).map fun cb => .cmp op ca cb
    | _ => none)
  | [o1, o2] => (match bs with
    | [b, d] => if isSet d then none else (r.E Γ sc a).bind fun ca => (r.E Γ sc b).bind fun cb => (r.E Γ sc d).map fun cd => .cmp2 o1 o2 ca cb cd
    | _ => none)
  | _ => none
noncomputable def eSub (a i : Expr) : Option CE := match sliceOf i with
  | some p => (r.E Γ sc a).bind fun ca => (r.P Γ sc p.1.1).bind fun cl => (r.P Γ sc p.1.2.1).bind fun ch => (r.P Γ sc p.1.2.2.1).map fun ck => .slice ca cl ch ck
  | none => (r.E Γ sc a).bind fun ca => (r.E Γ sc i).map fun ci => .item ca ci
noncomputable def eMeth (o : Expr) (nm : Str) (apos : Pos) (es : List Expr) (pos : Pos) : Option CE := if notSuper o && apos.endLine == pos.line && decide (es.length < 30) then
    (methOf nm).bind fun m => (r.E Γ sc o).bind fun co => (r.L Γ sc es).map fun cs => .meth m co cs
  else none
noncomputable def eFn (x : Str) (es : List Expr) : Option CE := if isGlob sc x then (match fnIx K.fns x with
  | some i => (r.L Γ sc es).map fun cs => .call i cs
  | none => (r.I Γ sc x es).or ((primOf x es.length).bind fun f => (r.L Γ sc es).map fun cs => .prim f cs)) else none
noncomputable def eCall (f : Expr) (es : List Expr) (pos : Pos) : Option CE := match attrOf f with
  | some p => eMeth r Γ sc p.1.1 p.1.2.1 p.1.2.2 es pos
  | none => (nameOf f).bind fun x => eFn K r Γ sc x.1.1 es
noncomputable def eComp (elt : Expr) (g : Comprehension) (scope : Scope) : Option CE := (nameOf g.target).bind fun x =>
  if g.is_async = 0 ∧ compOk sc scope = true ∧ kindLC scope x.1.1 = true ∧ isSet g.iter = false ∧ okName x.1.1 = true then
    (r.E Γ sc g.iter).bind fun ci => (r.E (gamIn Γ scope x.1.1) (relab scope sc) elt).bind fun ce => (r.F (gamIn Γ scope x.1.1) (relab scope sc) g.ifs).map fun cf => .comp 0 ce ci cf
  else none
noncomputable def stE : Expr → Option CE
  | .Constant c _ _ => eConst c
  | .Name x _ => eName K Γ sc x
  | .BinOp a op b _ => (r.E Γ sc a).bind fun ca => (r.E Γ sc b).map fun cb => .bin op ca cb
  | .UnaryOp op a _ => (r.E Γ sc a).map fun ca => .un op ca
  | .IfExp t a b _ => (r.E Γ sc t).bind fun ct => (r.E Γ sc a).bind fun ca => (r.E Γ sc b).map fun cb => .ite ct ca cb
  | .BoolOp op es _ => r.B Γ sc op es
  | .Compare a ops bs _ => eCmp r Γ sc a ops bs
  | .List es _ => (r.L Γ sc es).map .list
  | .Tuple es _ _ => (r.L Γ sc es).map .tup
  | .Subscript a i _ => eSub r Γ sc a i
  | .Call f es kws pos => if kws.isEmpty then eCall K r Γ sc f es pos else none
  | .ListComp elt gens scope _ => (match gens with
    | [g] => eComp r Γ sc elt g scope
    | _ => none)
  | _ => none
noncomputable def stL : List Expr → Option (List CE)
  | [] => some []
  | e :: es => if isStar e then none else (r.E Γ sc e).bind fun c => (r.L Γ sc es).map (c :: ·)
noncomputable def stP : Option Expr → Option (Option CE)
  | none => some none
  | some e => (r.E Γ sc e).map some
noncomputable def stB (op : BoolOp) : List Expr → Option CE
  | [] => none
  | e :: es => (match es with
    | [] => r.E Γ sc e
    | _ :: _ => (r.E Γ sc e).bind fun c => (r.B Γ sc op es).map fun cr => .boolop op c cr)
noncomputable def stF : List Expr → Option (List CE)
  | [] => some []
  | e :: es => if es.isEmpty then (r.E Γ sc e).map fun c => [c] else none
noncomputable def stI (x : Str) : List Expr → Option CE
  | [a, b] => (nameOf b).bind fun y => (isiOf x y.1.1).bind fun f => if isGlob sc y.1.1 && !isStar a then (r.E Γ sc a).map fun ca => .prim f [ca] else none
  | _ => none
end
noncomputable def rcN (K : Cc) : Nat → Rc
  | 0 => ⟨fun _ _ _ => none, fun _ _ es => if es.isEmpty then some [] else none, fun _ _ o => if o.isNone then some none else none, fun _ _ _ _ => none, fun _ _ es => if es.isEmpty then some [] else none, fun _ _ _ _ => none⟩
  | n + 1 => ⟨stE K (rcN K n), stL (rcN K n), stP (rcN K n), stB (rcN K n), stF (rcN K n), stI (rcN K n)⟩
noncomputable def cE (K : Cc) (n : Nat) (Γ : Gam) (sc : Scope) (e : Expr) : Option CE := (rcN K n).E Γ sc e
noncomputable def cL (K : Cc) (n : Nat) (Γ : Gam) (sc : Scope) (e : List Expr) : Option (List CE) := (rcN K n).L Γ sc e
noncomputable def cF (K : Cc) (n : Nat) (Γ : Gam) (sc : Scope) (e : List Expr) : Option (List CE) := (rcN K n).F Γ sc e

structure KOk (K : Cc) (W : Wd) : Prop where
  fns : K.fns = W.fns.map (·.1)
  csts : K.csts = W.csts
  blts : W.blts = bltAll

theorem fnIx_get {W : Wd} {x : Str} : ∀ {l : List (Str × Addr)} {i : Nat}, fnIx (l.map (·.1)) x = some i → ∃ a, l[i]? = some (x, a)
  | [], _, e => by cases e
  | (y, a) :: r, i, e => by
    simp only [List.map_cons, fnIx] at e
    by_cases q : (y == x) = true
    · rw [if_pos q] at e; cases e; have := eq_of_beq q; subst this; exact ⟨a, rfl⟩
    · rw [if_neg q] at e
      obtain ⟨j, hj, rfl⟩ := Option.map_eq_some_iff.mp e
      obtain ⟨a', h⟩ := fnIx_get (W := W) hj
      exact ⟨a', by simpa using h⟩

theorem bltN_mem {i : Nat} {x : Str} (h : bltN i x = true) : ∃ v, bltAll[i]? = some (x, v) := by
  unfold bltN at h
  cases e : bltAll[i]? with
  | none => rw [e] at h; cases h
  | some p => rw [e] at h; exact ⟨p.2, by rw [← eq_of_beq h]⟩
theorem primTab_ok : ∀ t ∈ primTab, (bltAll[t.1]?).map (·.2) = some (pval t.2.2) ∧ pmore t.2.2 = [] :=
  List.forall_mem_cons.mpr ⟨⟨rfl, rfl⟩, List.forall_mem_cons.mpr ⟨⟨rfl, rfl⟩, List.forall_mem_cons.mpr ⟨⟨rfl, rfl⟩, List.forall_mem_cons.mpr ⟨⟨rfl, rfl⟩, List.forall_mem_cons.mpr ⟨⟨rfl, rfl⟩, List.forall_mem_cons.mpr ⟨⟨rfl, rfl⟩, List.forall_mem_cons.mpr ⟨⟨rfl, rfl⟩, List.forall_mem_cons.mpr ⟨⟨rfl, rfl⟩, fun _ h => nomatch h⟩⟩⟩⟩⟩⟩⟩⟩
theorem isiTab_ok : ∀ t ∈ isiTab, (bltAll[t.1]?).map (·.2) = some (pval t.2.2) ∧ ∃ T, (bltAll[t.2.1]?).map (·.2) = some (Value.type T) ∧ pmore t.2.2 = [.type T] :=
  List.forall_mem_cons.mpr ⟨⟨rfl, _, rfl, rfl⟩, List.forall_mem_cons.mpr ⟨⟨rfl, _, rfl, rfl⟩, fun _ h => nomatch h⟩⟩
theorem primOf_mem {x : Str} {n : Nat} {f : Pf} (e : primOf x n = some f) : (x, pval f) ∈ bltAll ∧ pmore f = [] := by
  refine Classical.byContradiction fun hQ => ?_
  obtain ⟨t, h1, rfl⟩ := Option.map_eq_some_iff.mp e
  obtain ⟨v, hv⟩ := bltN_mem (Bool.and_eq_true_iff.mp (List.find?_some (p := fun (t : Nat × Nat × Pf) => t.2.1 == n && bltN t.1 x) h1)).2
  obtain ⟨h3, h4⟩ := primTab_ok t (List.mem_of_find?_eq_some h1)
  (refine hQ ?_; clear hQ)
  rw [hv] at h3
  cases h3
  exact ⟨List.mem_of_getElem? hv, h4⟩
theorem methOf_eq {x : Str} {m : Pm} (e : methOf x = some m) : x = mname m := (eq_of_beq (List.find?_some (p := fun m => mname m == x) e)).symm
theorem isiOf_mem {x y : Str} {f : Pf} (e : isiOf x y = some f) : ∃ T, (x, pval f) ∈ bltAll ∧ (y, Value.type T) ∈ bltAll ∧ pmore f = [.type T] := by
  refine Classical.byContradiction fun hQ => ?_
  obtain ⟨t, h1, rfl⟩ := Option.map_eq_some_iff.mp e
  have h2 := Bool.and_eq_true_iff.mp (List.find?_some (p := fun (t : Nat × Nat × Pf) => bltN t.1 x && bltN t.2.1 y) h1)
  obtain ⟨v, hv⟩ := bltN_mem h2.1
  obtain ⟨u, hu⟩ := bltN_mem h2.2
  obtain ⟨h3, T, h4, h5⟩ := isiTab_ok t (List.mem_of_find?_eq_some h1)
  (refine hQ ?_; clear hQ)
  rw [hv] at h3; cases h3
  rw [hu] at h4; cases h4
  exact ⟨T, List.mem_of_getElem? hv, List.mem_of_getElem? hu, h5⟩

theorem isGlob_of {sc : Scope} {x : Str} (h : isGlob sc x = true) : okName x = true ∧ sc.names.lookup x = some .globalImplicit := by
  unfold isGlob at h
  rw [Bool.and_eq_true] at h
  exact ⟨h.1, eq_of_beq h.2⟩
theorem kindLC_of {sc : Scope} {x : Str} (h : kindLC sc x = true) : sc.names.lookup x = some .local ∨ sc.names.lookup x = some .cell := by
  unfold kindLC at h
  rw [Bool.or_eq_true] at h
  exact h.imp eq_of_beq eq_of_beq

/-- expressions whose test has no form of its own -/
noncomputable def plainTest (e : Expr) : Bool := !(e.ctorIdx == 0 || e.ctorIdx == 3 || e.ctorIdx == 5 || e.ctorIdx == 15)
theorem plainTest_eq {e : Expr} (h : plainTest e = true) (env : Env) (w : Sem Value) : isTrue e env w = (do let v ← w; standAt e.pos; holding [v] (truthy v)) := by
  cases e <;> first | rfl | cases h

structure RcOk (K : Cc) (W : Wd) (r : Rc) : Prop where
  E : ∀ {Γ sc e c}, r.E Γ sc e = some c → SndE W Γ sc e c
  T : ∀ {Γ sc e c}, r.E Γ sc e = some c → SndT W Γ sc e c
  L : ∀ {Γ sc es cs}, r.L Γ sc es = some cs → SndL W Γ sc es cs
  P : ∀ {Γ sc eo co}, r.P Γ sc eo = some co → SndP W Γ sc eo co
  B : ∀ {Γ sc op es c}, r.B Γ sc op es = some c → SndB W Γ sc op es c
  BT : ∀ {Γ sc op es c}, r.B Γ sc op es = some c → SndBT W Γ sc op es c
  F : ∀ {Γ sc es cs}, r.F Γ sc es = some cs → SndI W Γ sc es cs
  I : ∀ {Γ sc x es c}, isGlob sc x = true → r.I Γ sc x es = some c → ∀ p pos, SndE W Γ sc (.Call (.Name x p) es [] pos) c
theorem m_inv {α β : Type} {o : Option α} {f : α → β} {b : β} (h : o.map f = some b) : ∃ a, o = some a ∧ f a = b := Option.map_eq_some_iff.mp h
theorem ni_inv {α : Type} {c : Bool} {o : Option α} {b : α} (h : (if c = true then none else o) = some b) : c = false ∧ o = some b := by cases c <;> first | exact ⟨rfl, h⟩ | cases h
section
variable {K : Cc} {W : Wd} (ok : KOk K W) {r : Rc} (R : RcOk K W r) {Γ : Gam} {sc : Scope}
theorem eConst_ok {k : Const} {c : CE} {a : Nat} {p : Pos} (h : eConst k = some c) : SndE W Γ sc (.Constant k a p) c := by
  cases k <;> first | (cases h; first | exact snd_int | exact snd_str | exact snd_bool | exact snd_none) | cases h
include ok in
theorem eName_ok {x : Str} {c : CE} {p : Pos} (h : eName K Γ sc x = some c) : SndE W Γ sc (.Name x p) c := by
  obtain ⟨ho, h⟩ := ib_inv h
  cases hl : Γ.vars.lookup x with
  | some i => rw [hl] at h; cases h; exact snd_var ho hl
  | none =>
    rw [hl] at h
    obtain ⟨hg, h⟩ := ib_inv h
    obtain ⟨d, hd, rfl⟩ := m_inv h
    exact snd_cst ho (isGlob_of hg).2 (by rw [← ok.csts]; exact PySem.mem_of_lookup hd)
include R
theorem eCmp_ok {a : Expr} {ops : List CmpOp} {bs : List Expr} {c : CE} {p : Pos} (h : eCmp r Γ sc a ops bs = some c) : SndE W Γ sc (.Compare a ops bs p) c ∧ SndT W Γ sc (.Compare a ops bs p) c := by
  rcases ops with _ | ⟨o1, _ | ⟨o2, _ | ⟨_, _⟩⟩⟩
  · cases h
  · rcases bs with _ | ⟨b, _ | ⟨_, _⟩⟩
    · cases h
    · refine Classical.byContradiction fun hQ => ?_
      obtain ⟨hs, h⟩ := ni_inv h
      obtain ⟨ca, h1, h⟩ := b_inv h
      obtain ⟨cb, h2, rfl⟩ := m_inv h
      (refine hQ ?_; clear hQ)
      exact ⟨snd_cmp (R.E h1) (R.E h2) hs, sndT_cmp (R.E h1) (R.E h2) hs⟩
    · cases h
  · rcases bs with _ | ⟨b, _ | ⟨d, _ | ⟨_, _⟩⟩⟩
    · cases h
    · cases h
    · refine Classical.byContradiction fun hQ => ?_
      obtain ⟨hs, h⟩ := ni_inv h
      obtain ⟨ca, h1, h⟩ := b_inv h
      obtain ⟨cb, h2, h⟩ := b_inv h
      obtain ⟨cd, h3, rfl⟩ := m_inv h
      (refine hQ ?_; clear hQ)
      exact ⟨snd_cmp2 (R.E h1) (R.E h2) (R.E h3) hs, sndT_cmp2 (R.E h1) (R.E h2) (R.E h3) hs⟩
    · cases h
  · cases h
theorem eSub_ok {a i : Expr} {c : CE} {p : Pos} (h : eSub r Γ sc a i = some c) : SndE W Γ sc (.Subscript a i p) c := by
  unfold eSub at h
  cases q : sliceOf i with
  | some z =>
    rw [q] at h
    obtain ⟨z, rfl⟩ := z
    obtain ⟨ca, h1, h⟩ := b_inv h
    obtain ⟨cl, h2, h⟩ := b_inv h
    obtain ⟨ch, h3, h⟩ := b_inv h
    obtain ⟨ck, h4, rfl⟩ := m_inv h
    exact snd_slice (R.E h1) (R.P h2) (R.P h3) (R.P h4)
  | none =>
    rw [q] at h
    refine Classical.byContradiction fun hQ => ?_
    obtain ⟨ca, h1, h⟩ := b_inv h
    obtain ⟨ci, h2, rfl⟩ := m_inv h
    (refine hQ ?_; clear hQ)
    exact snd_item (R.E h1) (R.E h2)
include ok
theorem eCall_ok {f : Expr} {es : List Expr} {c : CE} {pos : Pos} (h : eCall K r Γ sc f es pos = some c) : SndE W Γ sc (.Call f es [] pos) c := by
  unfold eCall at h
  cases q : attrOf f with
  | some z =>
    rw [q] at h
    obtain ⟨z, rfl⟩ := z
    obtain ⟨q, h⟩ := ib_inv h
    rw [Bool.and_eq_true, Bool.and_eq_true, decide_eq_true_eq] at q
    obtain ⟨m, h0, h⟩ := b_inv h
    obtain ⟨co, h1, h⟩ := b_inv h
    obtain ⟨cs, h2, rfl⟩ := m_inv h
    rw [methOf_eq h0]
    exact snd_meth q.1.1 q.1.2 q.2 (R.E h1) (R.L h2)
  | none =>
    rw [q] at h
    obtain ⟨⟨x, rfl⟩, hx, h⟩ := b_inv h
    obtain ⟨hg, h⟩ := ib_inv h
    obtain ⟨ho, hk⟩ := isGlob_of hg
    cases hi : fnIx K.fns x.1 with
    | some i =>
      rw [hi] at h
      obtain ⟨cs, h1, rfl⟩ := m_inv h
      rw [ok.fns] at hi
      obtain ⟨a, ha⟩ := fnIx_get (W := W) hi
      exact snd_call ho hk ha (R.L h1)
    | none =>
      rw [hi] at h
      rcases Option.or_eq_some_iff.mp h with hc | ⟨_, h⟩
      · exact R.I hg hc _ _
      · obtain ⟨f, h0, h⟩ := b_inv h
        obtain ⟨cs, h1, rfl⟩ := m_inv h
        obtain ⟨m1, m2⟩ := primOf_mem h0
        exact snd_prim ho hk (by rw [ok.blts]; exact m1) m2 (R.L h1)
omit ok in
theorem eComp_ok {elt : Expr} {g : Comprehension} {scope : Scope} {c : CE} {pos : Pos} (h : eComp r Γ sc elt g scope = some c) : SndE W Γ sc (.ListComp elt [g] scope pos) c := by
  refine Classical.byContradiction fun hQ => ?_
  obtain ⟨t, iter, ifs, asy⟩ := g
  obtain ⟨⟨x, e⟩, hx, h⟩ := b_inv h
  have e : t = _ := e
  subst e
  obtain ⟨q, h⟩ := ib_inv h
  obtain ⟨q1, q2, q3, q4, q5⟩ := q
  have q1 : asy = 0 := q1
  subst q1
  obtain ⟨ci, h1, h⟩ := b_inv h
  obtain ⟨ce, h2, h⟩ := b_inv h
  obtain ⟨cf, h3, rfl⟩ := m_inv h
  (refine hQ ?_; clear hQ)
  exact snd_comp (CompOk.of q2) (kindLC_of q3) q4 (R.E h1) (R.E h2) (R.F h3)
theorem stE_ok {e : Expr} {c : CE} (h : stE K r Γ sc e = some c) : SndE W Γ sc e c ∧ SndT W Γ sc e c := by
  have wrap : ∀ {e c}, plainTest e = true → SndE W Γ sc e c → SndE W Γ sc e c ∧ SndT W Γ sc e c := fun hp h => ⟨h, sndT_of h (plainTest_eq hp)⟩
  cases e
  case Constant => exact wrap rfl (eConst_ok h)
  case Name => exact wrap rfl (eName_ok ok h)
  case BinOp =>
    refine Classical.byContradiction fun hQ => ?_
    obtain ⟨ca, h1, h⟩ := b_inv h
    obtain ⟨cb, h2, rfl⟩ := m_inv h
    (refine hQ ?_; clear hQ)
    exact wrap rfl (snd_bin (R.E h1) (R.E h2))
  case UnaryOp op a p =>
    obtain ⟨ca, h1, rfl⟩ := m_inv h
    refine ⟨snd_un (R.E h1), ?_⟩
    cases op <;> first | exact sndT_not (R.T h1) | exact sndT_of (snd_un (R.E h1)) (fun _ _ => rfl)
  case IfExp =>
    refine Classical.byContradiction fun hQ => ?_
    obtain ⟨ct, h0, h⟩ := b_inv h
    obtain ⟨ca, h1, h⟩ := b_inv h
    obtain ⟨cb, h2, rfl⟩ := m_inv h
    (refine hQ ?_; clear hQ)
    exact ⟨snd_ite (R.T h0) (R.E h1) (R.E h2), sndT_ite (R.T h0) (R.T h1) (R.T h2)⟩
  case BoolOp => exact ⟨snd_bool_op (R.B h), sndT_bool_op (R.BT h)⟩
  case Compare => exact eCmp_ok R h
  case List =>
    obtain ⟨cs, h1, rfl⟩ := m_inv h
    exact wrap rfl (snd_list (R.L h1))
  case Tuple =>
    obtain ⟨cs, h1, rfl⟩ := m_inv h
    exact wrap rfl (snd_tup (R.L h1))
  case Subscript => exact wrap rfl (eSub_ok R h)
  case Call f es kws pos =>
    obtain ⟨q, h⟩ := ib_inv h
    obtain rfl := List.isEmpty_iff.mp q
    exact wrap rfl (eCall_ok ok R h)
  case ListComp elt gens scope pos =>
    rcases gens with _ | ⟨g, _ | ⟨_, _⟩⟩
    · cases h
    · exact wrap rfl (eComp_ok R h)
    · cases h
  all_goals cases h
omit ok in
theorem stL_ok {es : List Expr} {cs : List CE} (h : stL r Γ sc es = some cs) : SndL W Γ sc es cs := by
  cases es with
  | nil => cases h; exact .nil
  | cons e r =>
    obtain ⟨hs, h⟩ := ni_inv h
    obtain ⟨c, h1, h⟩ := b_inv h
    obtain ⟨cs', h2, rfl⟩ := m_inv h
    exact .cons hs (R.E h1) (R.L h2)
omit ok in
theorem stP_ok {eo : Option Expr} {co : Option CE} (h : stP r Γ sc eo = some co) : SndP W Γ sc eo co := by
  cases eo with
  | none => cases h; exact .none
  | some e =>
    obtain ⟨c, h1, rfl⟩ := m_inv h
    exact .some (R.E h1)
omit ok in
theorem stB_ok {op : BoolOp} {es : List Expr} {c : CE} (h : stB r Γ sc op es = some c) : SndB W Γ sc op es c ∧ SndBT W Γ sc op es c := by
  rcases es with _ | ⟨e, _ | ⟨e', es⟩⟩
  · cases h
  · exact ⟨sndB_one (R.E h), sndBT_one (R.T h)⟩
  · refine Classical.byContradiction fun hQ => ?_
    obtain ⟨c1, h1, h⟩ := b_inv h
    obtain ⟨cr, h2, rfl⟩ := m_inv h
    (refine hQ ?_; clear hQ)
    exact ⟨sndB_cons (R.E h1) (R.B h2), sndBT_cons (R.T h1) (R.BT h2)⟩
omit ok in
theorem stF_ok {es : List Expr} {cs : List CE} (h : stF r Γ sc es = some cs) : SndI W Γ sc es cs := by
  cases es with
  | nil => cases h; exact .nil
  | cons e es =>
    obtain ⟨q, h⟩ := ib_inv h
    obtain rfl := List.isEmpty_iff.mp q
    obtain ⟨c1, h1, rfl⟩ := m_inv h
    exact .one (R.T h1)
theorem stI_ok {x : Str} {es : List Expr} {c : CE} (hg : isGlob sc x = true) (h : stI r Γ sc x es = some c) (p pos : Pos) : SndE W Γ sc (.Call (.Name x p) es [] pos) c := by
  rcases es with _ | ⟨a, _ | ⟨b, _ | ⟨_, _⟩⟩⟩
  · cases h
  · cases h
  · refine Classical.byContradiction fun hQ => ?_
    obtain ⟨⟨y, rfl⟩, hy, h⟩ := b_inv h
    obtain ⟨f, h0, h⟩ := b_inv h
    obtain ⟨q, h⟩ := ib_inv h
    rw [Bool.and_eq_true, Bool.not_eq_true'] at q
    obtain ⟨ca, h1, rfl⟩ := m_inv h
    obtain ⟨T, m1, m2, m3⟩ := isiOf_mem h0
    obtain ⟨ho, hk⟩ := isGlob_of hg
    obtain ⟨ho2, hk2⟩ := isGlob_of q.1
    (refine hQ ?_; clear hQ)
    exact snd_isi ho hk (by rw [ok.blts]; exact m1) ho2 hk2 (by rw [ok.blts]; exact m2) m3 q.2 (R.E h1)
  · cases h
end
theorem rcN_ok {K : Cc} {W : Wd} (ok : KOk K W) : ∀ n, RcOk K W (rcN K n)
  | 0 => ⟨fun h => (by cases h), fun h => (by cases h), fun h => (by obtain ⟨q, h⟩ := ib_inv h; obtain rfl := List.isEmpty_iff.mp q; cases h; exact .nil), fun {Γ sc eo co} h => (by obtain ⟨q, h⟩ := ib_inv h; cases eo <;> first | (cases h; exact .none) | cases q),
      fun h => (by cases h), fun h => (by cases h), fun h => (by obtain ⟨q, h⟩ := ib_inv h; obtain rfl := List.isEmpty_iff.mp q; cases h; exact .nil), fun _ h => (by cases h)⟩
  | n + 1 => ⟨fun h => (stE_ok ok (rcN_ok ok n) h).1, fun h => (stE_ok ok (rcN_ok ok n) h).2, stL_ok (rcN_ok ok n), stP_ok (rcN_ok ok n), fun h => (stB_ok (rcN_ok ok n) h).1, fun h => (stB_ok (rcN_ok ok n) h).2, stF_ok (rcN_ok ok n), stI_ok ok (rcN_ok ok n)⟩
end Mine
end
section
open PySem PySem.W PyProof.Rows
set_option maxRecDepth 4000
namespace Mine

/-- compact statements -/
inductive CS where
  | asg (i : Nat) (e : CE)
  | own (i : Nat) (e : CE)
  | asgT (is : List Nat) (e : CE)
  | asgS (is : List Nat) (e : CE)
  | stuck
  | aug (neg : Bool) (i : Nat) (e : CE)
  | app (i : Nat) (e : CE)
  | ext (i : Nat) (e : CE)
  | rev (i : Nat)
  | delAt (i : Nat) (last : Bool)
  | put (i : Nat) (k e : CE)
  | frz (i : Nat)
  | ret (e : CE)
  | assert (t : CE)
  | ite (t : CE) (a b : List CS)
  | wh (t : CE) (b : List CS)
  | for1 (i : Nat) (it : CE) (b : List CS)
  | forT (is : List Nat) (it : CE) (b : List CS)
  | forG (i j : Nat) (e : CE) (b : List CS)
  | forR (i : Nat) (e : CE) (b : List CS)

inductive Fl where
  | nx | bk | ct
  | rt (v : V)

noncomputable def putAll : List Nat → List PyData → Ev → Option Ev
  | [], xs, ρ => if xs.isEmpty then some ρ else none
  | i :: is, xs, ρ => match xs with
    | [] => none
    | x :: xs => putAll is xs (ρ.set i (.sh (.d x)))

/-- the items of a tuple that is taken apart -/
noncomputable def partsOf (n : Nat) : PyData → Option (List PyData)
  | .tuple xs => if xs.length = n then some xs else none
  | _ => none

/-- the items of a tuple or a list that is taken apart -/
noncomputable def partsT (n : Nat) : PyData → Option (List PyData)
  | .tuple xs => if xs.length = n then some xs else none
  | .list xs => if xs.length = n then some xs else none
  | _ => none

noncomputable def loopW (test : Ev → Option Bool) (body : Ev → Option (Ev × Fl)) : Nat → Ev → Option (Ev × Fl)
  | 0, _ => none
  | n + 1, ρ => (test ρ).bind fun k => if k then (body ρ).bind fun p => match p.2 with
      | .nx => loopW test body n p.1
      | .ct => loopW test body n p.1
      | .bk => some (p.1, .nx)
      | .rt v => some (p.1, .rt v)
    else some (ρ, .nx)

noncomputable def loopF (take : PyData → Ev → Option Ev) (body : Ev → Option (Ev × Fl)) : List PyData → Ev → Option (Ev × Fl)
  | [], ρ => some (ρ, .nx)
  | x :: r, ρ => (take x ρ).bind fun ρ₁ => (body ρ₁).bind fun p => match p.2 with
      | .nx => loopF take body r p.1
      | .ct => loopF take body r p.1
      | .bk => some (p.1, .nx)
      | .rt v => some (p.1, .rt v)

/-- what the generator _iter_escaped_chars yields, from place n on -/
noncomputable def escG : Nat → Bool → List Nat → List PyData
  | n, e, [] => if e then [.tuple [.int (n - 1 : Nat), .str ⟨#[92]⟩]] else []
  | n, true, c :: r => .tuple [.int n, .str ⟨#[92, c]⟩] :: escG (n + 1) false r
  | n, false, c :: r => if c = 92 then escG (n + 1) true r else .tuple [.int n, .str ⟨#[c]⟩] :: escG (n + 1) false r

noncomputable def takeOne (i : Nat) (x : PyData) (ρ : Ev) : Option Ev := some (ρ.set i (.sh (.d x)))
noncomputable def takeT (is : List Nat) (x : PyData) (ρ : Ev) : Option Ev := (partsT is.length x).bind fun xs => putAll is xs ρ

mutual
noncomputable def cex (Φ : Fns) (fu : Nat) : CS → Ev → Option (Ev × Fl)
  | .asg i e, ρ => (ceval Φ e ρ).bind fun v => if !v.own then some (ρ.set i (.sh v), .nx) else none
  | .own i e, ρ => (ceval Φ e ρ).bind fun v => (asLst v).bind fun xs => some (ρ.set i (.ow xs), .nx)
  | .asgT is e, ρ => (ceval Φ e ρ).bind fun v => (toD v).bind fun x => (takeT is x ρ).bind fun ρ' => some (ρ', .nx)
  | .asgS is e, ρ => (ceval Φ e ρ).bind fun v => (toD v).bind fun x => (partsOf is.length x).bind fun xs => (putAll is xs.reverse ρ).bind fun ρ' => some (ρ', .nx)
  | .stuck, _ => none
  | .aug neg i e, ρ => (ceval Φ e ρ).bind fun v => (asInt v).bind fun b => (rd ρ i).bind fun u => (asInt u).bind fun a => some (ρ.set i (.sh (.d (.int (if neg then a - b else a + b)))), .nx)
  | .app i e, ρ => (ceval Φ e ρ).bind fun v => (toD v).bind fun x => (ow? ρ i).bind fun xs => if szOk xs.length then some (ρ.set i (.ow (xs ++ [x])), .nx) else none
  | .ext i e, ρ => (ceval Φ e ρ).bind fun v => (asLst v).bind fun ys => (ow? ρ i).bind fun xs => if szOk (xs.length + ys.length) then some (ρ.set i (.ow (xs ++ ys)), .nx) else none
  | .rev i, ρ => (ow? ρ i).bind fun xs => if szOk xs.length then some (ρ.set i (.ow xs.reverse), .nx) else none
  | .delAt i last, ρ => (ow? ρ i).bind fun xs => if !xs.isEmpty && szOk xs.length then some (ρ.set i (.ow (if last then xs.dropLast else xs.tail)), .nx) else none
  | .put i k e, ρ => (ceval Φ e ρ).bind fun v => (toD v).bind fun x => (ceval Φ k ρ).bind fun kv => (asInt kv).bind fun j => (ow? ρ i).bind fun xs =>
      if 0 ≤ j ∧ j < xs.length ∧ szOk xs.length then some (ρ.set i (.ow (xs.set j.toNat x)), .nx) else none
  | .frz i, ρ => match ow? ρ i with
      | some xs => some (ρ.set i (.sh (.d (.list xs))), .nx)
      | none => some (ρ, .nx)
  | .ret e, ρ => (ceval Φ e ρ).bind fun v => if !v.own then some (ρ, .rt v) else none
  | .assert t, ρ => (ceval Φ t ρ).bind fun v => (vtruth v).bind fun k => if k then some (ρ, .nx) else none
  | .ite t a b, ρ => (ceval Φ t ρ).bind fun v => (vtruth v).bind fun k => if k then cexs Φ fu a ρ else cexs Φ fu b ρ
  | .wh t b, ρ => loopW (fun ρ => (ceval Φ t ρ).bind vtruth) (fun ρ => cexs Φ fu b ρ) fu ρ
  | .for1 i it b, ρ => (ceval Φ it ρ).bind fun v => (vitems v).bind fun xs => loopF (takeOne i) (fun ρ => cexs Φ fu b ρ) xs ρ
  | .forT is it b, ρ => (ceval Φ it ρ).bind fun v => (vitems v).bind fun xs => loopF (takeT is) (fun ρ => cexs Φ fu b ρ) xs ρ
  | .forG i j e b, ρ => (ceval Φ e ρ).bind fun v => (asStr v).bind fun x => if szOk x.length && PyData.strOk x then loopF (takeT [i, j]) (fun ρ => cexs Φ fu b ρ) (escG 0 false x.cps.toList) ρ else none
  | .forR i e b, ρ => (ceval Φ e ρ).bind fun v => (asLst v).bind fun xs => if szOk xs.length then loopF (takeOne i) (fun ρ => cexs Φ fu b ρ) xs.reverse ρ else none
noncomputable def cexs (Φ : Fns) (fu : Nat) : List CS → Ev → Option (Ev × Fl)
  | [], ρ => some (ρ, .nx)
  | s :: r, ρ => (cex Φ fu s ρ).bind fun p => match p.2 with
      | .nx => cexs Φ fu r p.1
      | f => some (p.1, f)
end

section
variable {Φ : Fns} {fu : Nat} {ρ ρ' : Ev} {c : CS} {r : List CS} {v : V} {R : Option (Ev × Fl)} {t : CE} {sa sb : List CS} {k : Bool}
theorem cexs_no : cexs Φ fu [] ρ = some (ρ, .nx) := rfl
theorem cexs_nx (h : cex Φ fu c ρ = some (ρ', .nx)) : cexs Φ fu (c :: r) ρ = cexs Φ fu r ρ' := b_of h rfl
theorem cexs_rt (h : cex Φ fu c ρ = some (ρ', .rt v)) : cexs Φ fu (c :: r) ρ = some (ρ', .rt v) := b_of h rfl
theorem cexs_one : cexs Φ fu [c] ρ = cex Φ fu c ρ := by
  cases h : cex Φ fu c ρ with
  | none => exact congrArg (fun o => Option.bind o _) h
  | some p =>
    refine b_of h ?_
    obtain ⟨r, f⟩ := p
    cases f <;> rfl
theorem cx_if1 (h : ceval Φ t ρ = some v) (hv : vtruth v = some true) : cex Φ fu (.ite t sa sb) ρ = cexs Φ fu sa ρ := b_of h (b_of hv rfl)
theorem cx_if0 (h : ceval Φ t ρ = some v) (hv : vtruth v = some false) : cex Φ fu (.ite t sa sb) ρ = cexs Φ fu sb ρ := b_of h (b_of hv rfl)
theorem cx_no (h : ceval Φ t ρ = some v) (hv : vtruth v = some false) : cex Φ fu (.ite t sa []) ρ = some (ρ, .nx) := cx_if0 h hv
theorem ev_asg {i : Nat} {e : CE} (h : ceval Φ e ρ = some v) (ho : v.own = false) : cex Φ fu (.asg i e) ρ = some (ρ.set i (.sh v), .nx) := b_of h (if_pos (by rw [ho]; rfl))
theorem ev_ret {e : CE} (h : ceval Φ e ρ = some v) (ho : v.own = false) : cex Φ fu (.ret e) ρ = some (ρ, .rt v) := b_of h (if_pos (by rw [ho]; rfl))
end

/-- a function: size names, of which the first par are its parameters -/
structure CF where
  par : Nat
  size : Nat
  body : List CS

noncomputable def runF (Φ : Fns) (fu : Nat) (F : CF) (args : List V) : Option V :=
  if args.length = F.par then
    (cexs Φ fu F.body ((args.map .sh) ++ List.replicate (F.size - F.par) .un)).bind fun p => match p.2 with
      | .nx => some (.d .none)
      | .rt v => some v
      | _ => none
  else none

/-! what holds within a function's run -/

noncomputable def FS (h : Heap) (env : Env) (M : List Addr) (x : Str) (a : Addr) : Slot → Prop
  | .un => True
  | .sh v => v.own = false ∧ ∃ val, VarAt h env x val ∧ VRep h M val v
  | .ow xs => VarAt h env x (.ref a) ∧ OwnAt h M a xs

theorem FS.slot {h : Heap} {env : Env} {M : List Addr} {x : Str} {a : Addr} : ∀ {sl : Slot}, FS h env M x a sl → SlotAt h env M x sl
  | .un, _ => trivial
  | .sh _, r => r
  | .ow _, r => ⟨a, r.1, r.2⟩

structure SOk (Γ : Gam) (sc : Scope) (env : Env) : Prop where
  ek : EnvOk env sc
  wf : ∀ y i, Γ.vars.lookup y = some i → i < Γ.size
  inj : ∀ x y i, Γ.vars.lookup x = some i → Γ.vars.lookup y = some i → x = y

structure FI (W : Wd) (Γ : Gam) (sc : Scope) (s₀ : Shared) (env : Env) (M₀ : List Addr) (own : Nat → Addr) (M : List Addr) (ρ : Ev) (s : Shared) : Prop where
  g₀ : Good W s₀
  x : SX W s₀ s
  lay : Lay env s.heap
  mok : MOk s.heap M
  sub : ∀ a ∈ M₀, a ∈ M
  apart : ∀ a ∈ M₀, a ≠ env.locals ∧ ∀ y c, env.cells.lookup y = some c → a ≠ c
  loc : ∀ y, (sc.names.lookup y = some .local ∨ sc.names.lookup y = some .cell) → locOf env y ∈ M ∧ locOf env y ∉ M₀ ∧ s₀.heap.get? (locOf env y) = none
  ownM : ∀ i xs, ρ[i]? = some (.ow xs) → own i ∈ M ∧ own i ∉ M₀ ∧ s₀.heap.get? (own i) = none
  inj : ∀ i j xs ys, ρ[i]? = some (.ow xs) → ρ[j]? = some (.ow ys) → i ≠ j → own i ≠ own j
  vis : ∀ y i, Γ.vars.lookup y = some i → ∀ sl, ρ[i]? = some sl → FS s.heap env M y (own i) sl
  len : ρ.length = Γ.size

/-- what a statement leaves alone -/
structure Stp (M₀ M : List Addr) (s : Shared) (M' : List Addr) (s' : Shared) : Prop where
  keep : ∀ b o, (b ∉ M ∨ b ∈ M₀) → s.heap.get? b = some o → ¬ TabLike o → s'.heap.get? b = some o
  out : ∀ b o, b ∉ M → s.heap.get? b = some o → b ∉ M'
  gens : ∀ (i : Nat) g, s.gens[i]? = some g → s'.gens[i]? = some g
  occ : ∀ b o, s.heap.get? b = some o → ∃ o', s'.heap.get? b = some o'

section
variable {W : Wd} {Γ : Gam} {sc : Scope} {s₀ s s' s'' : Shared} {env : Env} {M₀ M M' M'' : List Addr} {own own' : Nat → Addr} {ρ : Ev}

theorem Stp.refl : Stp M₀ M s M s := ⟨fun _ _ _ e _ => e, fun _ _ h _ => h, fun _ _ e => e, fun _ o e => ⟨o, e⟩⟩
theorem Stp.trans (p : Stp M₀ M s M' s') (q : Stp M₀ M' s' M'' s'') : Stp M₀ M s M'' s'' :=
  ⟨fun b o h e n => q.keep b o (h.elim (fun h => .inl (p.out b o h e)) .inr) (p.keep b o h e n) n,
   fun b o h e => (let ⟨o', e'⟩ := p.occ b o e; q.out b o' (p.out b o h e) e'),
   fun i g e => q.gens i g (p.gens i g e), fun b o e => let ⟨o', e'⟩ := p.occ b o e; q.occ b o' e'⟩
theorem Stp.of_SX (x : SX W s s') : Stp M₀ M s M s' := ⟨fun b o _ e n => x.keep b o e n, fun _ _ h _ => h, x.gens, x.occ⟩
theorem Stp.weak {M₁ : List Addr} (h : ∀ a ∈ M₀, a ∈ M₁) (p : Stp M₁ M s M' s') : Stp M₀ M s M' s' :=
  ⟨fun b o q => p.keep b o (q.imp id (h b)), p.out, p.gens, p.occ⟩

theorem FI.cx (fi : FI W Γ sc s₀ env M₀ own M ρ s) {n : Nat} {Φ : Fns} {A : Around} (so : SOk Γ sc env) (c : Ctrs W n Φ) (r : RoomN A n) : Cx W Γ sc n Φ A s env M ρ :=
  ⟨fun f p _ _ h _ => ⟨r, c f p h⟩, r.w, fi.x.good, so.ek, fi.mok, fun y i hy sl hs => (fi.vis y i hy sl hs).slot, fi.lay, fi.len, so.wf⟩

theorem FS.ext (x : SX W s s') {y : Str} {a : Addr} : ∀ {sl : Slot}, FS s.heap env M y a sl → FS s'.heap env M y a sl
  | .un, _ => trivial
  | .sh _, ⟨h, v, p, q⟩ => ⟨h, v, p.ext x, q.ext x⟩
  | .ow _, ⟨p, q⟩ => ⟨p.ext x, q.ext x⟩

theorem FI.ext (fi : FI W Γ sc s₀ env M₀ own M ρ s) (x : SX W s s') : FI W Γ sc s₀ env M₀ own M ρ s' :=
  ⟨fi.g₀, fi.x.trans x, fi.lay.ext x, fi.mok.ext x, fi.sub, fi.apart, fi.loc, fi.ownM, fi.inj, fun y i hy sl hs => (fi.vis y i hy sl hs).ext x, fi.len⟩

/-- one object that may change is changed -/
theorem FI.chg (fi : FI W Γ sc s₀ env M₀ own M ρ s) {p : Addr} {h' : Heap} {tk : Nat} (hk : ∀ b o, b ≠ p → s.heap.get? b = some o → h'.get? b = some o) (hp : p ∈ M) (hf : s₀.heap.get? p = none)
    (hs : ∀ o, s.heap.get? p = some o → Soft o) (hn : ∃ o, h'.get? p = some o ∧ ¬ TabLike o) :
    SX W s₀ { s with heap := h', toks := tk } ∧ MOk h' M ∧ (∀ {v u}, u.own = false → VRep s.heap M v u → VRep h' M v u) ∧ (∀ {a xs}, a ≠ p → OwnAt s.heap M a xs → OwnAt h' M a xs) ∧ (∀ {vs ds}, Reps s.heap M vs ds → Reps h' M vs ds) := by
  have k : ∀ b o, b ∉ M → s.heap.get? b = some o → ¬ TabLike o → h'.get? b = some o := fun b o hb e _ => hk b o (fun q => hb (by rw [q]; exact hp)) e
  refine ⟨SX.upd fi.x hk hf hs fi.g₀, fun a ha => ?_, fun ho r => VRep.mono k (fun a ha => .inl ha) ho r, fun hne r => ?_, fun r => r.mono k fun a ha => .inl ha⟩
  · by_cases q : a = p
    · subst q; exact hn
    · obtain ⟨o, e, n⟩ := fi.mok a ha
      exact ⟨o, hk a o q e, n⟩
  · obtain ⟨vs, n, e, r⟩ := r
    exact ⟨vs, n, hk _ _ hne e, r.mono k fun a ha => .inl ha⟩

theorem Stp.chg {p : Addr} {h' : Heap} {tk : Nat} (hk : ∀ b o, b ≠ p → s.heap.get? b = some o → h'.get? b = some o) (hp : p ∈ M) (hp0 : p ∉ M₀) (hn : ∃ o, h'.get? p = some o) : Stp M₀ M s M { s with heap := h', toks := tk } :=
  ⟨fun b o h e _ => hk b o (fun q => by subst q; exact h.elim (fun h => h hp) hp0) e, fun _ _ h _ => h, fun _ _ e => e, fun b o e => by
    by_cases q : b = p
    · subst q; exact hn
    · exact ⟨o, hk b o q e⟩⟩

theorem locOf_soft (lay : Lay env s.heap) (ek : EnvOk env sc) {y : Str} (hy : sc.names.lookup y = some .local ∨ sc.names.lookup y = some .cell) :
    (∀ o, s.heap.get? (locOf env y) = some o → Soft o) ∧ (∃ o, s.heap.get? (locOf env y) = some o ∧ ¬ TabLike o) ∧ ∀ vs n, s.heap.get? (locOf env y) ≠ some (plainL vs n) := by
  rcases hy with hy | hy
  · have hk : env.kindOf y = some .local := by rw [kindOf_eq ek]; exact hy
    have hl : locOf env y = env.locals := by unfold locOf; rw [if_pos hk]
    obtain ⟨m, n⟩ := lay.ns
    rw [hl]
    refine ⟨soft_ns n, ns_notTab n, fun vs k e => ?_⟩
    obtain ⟨o, es, ep, e', hd, _⟩ := n
    rw [e] at e'; cases e'; cases hd
  · have hk : env.kindOf y = some .cell := by rw [kindOf_eq ek]; exact hy
    obtain ⟨c, hc⟩ := ek.cells y (.inl hy)
    obtain ⟨v, hv⟩ := lay.cell y c hc
    have hl : locOf env y = c := by unfold locOf; rw [if_neg (by rw [hk]; decide), hc]; rfl
    rw [hl]
    refine ⟨soft_cell hv, ?_, fun vs k e => ?_⟩
    · refine Classical.byContradiction fun hQ => ?_
      obtain ⟨o, e, hd⟩ := hv
      (refine hQ ?_; clear hQ)
      exact ⟨o, e, fun t => by obtain ⟨fs, q, _⟩ := t.2; rw [hd] at q; cases q⟩
    · refine Classical.byContradiction fun hQ => ?_
      obtain ⟨o, e', hd⟩ := hv
      (refine hQ ?_; clear hQ)
      rw [e] at e'; cases e'; cases hd

theorem FS.mono_chg {h h' : Heap} {p : Addr} (hv : ∀ {v u}, u.own = false → VRep h M v u → VRep h' M v u) (ho : ∀ {a xs}, a ≠ p → OwnAt h M a xs → OwnAt h' M a xs) {y : Str} {a : Addr} (hvar : ∀ w, VarAt h env y w → VarAt h' env y w)
    : ∀ {sl : Slot}, (∀ xs, sl = .ow xs → a ≠ p) → FS h env M y a sl → FS h' env M y a sl
  | .un, _, _ => trivial
  | .sh _, _, ⟨h, v, q, r⟩ => ⟨h, v, hvar _ q, hv h r⟩
  | .ow _, hne, ⟨q, r⟩ => ⟨hvar _ q, ho (hne _ rfl) r⟩

theorem get_set_ne {ρ : Ev} {i j : Nat} {a b : Slot} (h : (ρ.set i a)[j]? = some b) (hne : i ≠ j) : ρ[j]? = some b := by rwa [List.getElem?_set_ne hne] at h
theorem get_set_eq {ρ : Ev} {i : Nat} {a b : Slot} (h : (ρ.set i a)[i]? = some b) : b = a := by
  have := List.getElem?_eq_some_iff.mp h
  obtain ⟨hl, e⟩ := this
  rw [List.getElem_set_self] at e
  exact e.symm

/-- a name is stored -/
theorem FI.store {A : Around} {E : Value → Shared → Prop} {Q : Unit → Shared → Prop} {Md : Model} {y : Str} {i : Nat} {v : Value} {sl : Slot} (so : SOk Γ sc env) (fi : FI W Γ sc s₀ env M₀ own M ρ s) (hy : Γ.vars.lookup y = some i)
    (hk : sc.names.lookup y = some .local ∨ sc.names.lookup y = some .cell) (hsl : (∃ u, sl = .sh u ∧ u.own = false ∧ VRep s.heap M v u) ∨ (∃ xs, sl = .ow xs ∧ v = .ref (own i) ∧ OwnAt s.heap M (own i) xs ∧ own i ∈ M ∧ own i ∉ M₀ ∧ s₀.heap.get? (own i) = none ∧ ∀ j ys, j ≠ i → ρ[j]? = some (.ow ys) → own i ≠ own j))
    (h : ∀ s', FI W Γ sc s₀ env M₀ own M (ρ.set i sl) s' → Stp M₀ M s M s' → Q () s') : wpAny Md A (storeName env y v) Q E s := by
  have sl0 := locOf_soft fi.lay so.ek hk
  refine Classical.byContradiction fun hQ => ?_
  obtain ⟨lM, lM0, lf⟩ := fi.loc y hk
  (refine hQ ?_; clear hQ)
  refine store_snd so.ek fi.lay hk fun h' tk hkp lay' hv' hoth => ?_
  have hn : ∃ o, h'.get? (locOf env y) = some o ∧ ¬ TabLike o := (locOf_soft (s := { s with heap := h' }) lay' so.ek hk).2.1
  refine Classical.byContradiction fun hQ => ?_
  obtain ⟨x', mok', vr, ow, rs⟩ := fi.chg (tk := tk) hkp lM lf sl0.1 hn
  (refine hQ ?_; clear hQ)
  refine h _ ⟨fi.g₀, x', lay', mok', fi.sub, fi.apart, fi.loc, ?_, ?_, ?_, by rw [List.length_set]; exact fi.len⟩ (Stp.chg hkp lM lM0 (hn.imp fun _ q => q.1))
  · intro j xs hj
    by_cases q : i = j
    · subst q
      have := get_set_eq hj
      rcases hsl with ⟨u, e, _⟩ | ⟨ys, e, _, _, m1, m2, m3, _⟩
      · rw [e] at this; cases this
      · exact ⟨m1, m2, m3⟩
    · exact fi.ownM j xs (get_set_ne hj q)
  · intro j k xs ys hj hk' hne
    by_cases q : i = j
    · subst q
      have := get_set_eq hj
      rcases hsl with ⟨u, e, _⟩ | ⟨zs, e, _, _, _, _, _, m⟩
      · rw [e] at this; cases this
      · exact m k ys (Ne.symm hne) (get_set_ne hk' hne)
    · by_cases q2 : i = k
      · subst q2
        have := get_set_eq hk'
        rcases hsl with ⟨u, e, _⟩ | ⟨zs, e, _, _, _, _, _, m⟩
        · rw [e] at this; cases this
        · exact Ne.symm (m j xs hne (get_set_ne hj q))
      · exact fi.inj j k xs ys (get_set_ne hj q) (get_set_ne hk' q2) hne
  · intro z j hz sz hs
    by_cases q : i = j
    · subst q
      have ez := so.inj z y i hz hy
      subst ez
      have := get_set_eq hs
      subst this
      rcases hsl with ⟨u, e, o1, r⟩ | ⟨xs, e, e2, r, _⟩
      · subst e; exact ⟨o1, v, hv', vr o1 r⟩
      · subst e; subst e2
        refine ⟨hv', ow (fun q => ?_) r⟩
        obtain ⟨vs, n, e, _⟩ := r
        exact sl0.2.2 vs n (by rw [← q]; exact e)
    · have hs' := get_set_ne hs q
      have hf := fi.vis z j hz sz hs'
      have zy : z ≠ y := fun e => by subst e; rw [hy] at hz; cases hz; exact q rfl
      refine FS.mono_chg vr ow (fun w hw => hoth z w zy hw) (fun xs e => ?_) hf
      subst e
      intro e
      obtain ⟨vs, n, e', _⟩ := hf.2
      exact sl0.2.2 vs n (by rw [← e]; exact e')

/-- an owned list is changed -/
theorem FI.mut {y : Str} {i : Nat} {xs ys : List PyData} {h' : Heap} {tk : Nat} {vs : Array Value} {n : Nat} (so : SOk Γ sc env) (fi : FI W Γ sc s₀ env M₀ own M ρ s) (hy : Γ.vars.lookup y = some i) (ho : ρ[i]? = some (.ow xs))
    (hkp : ∀ b o, b ≠ own i → s.heap.get? b = some o → h'.get? b = some o) (hl : h'.get? (own i) = some (plainL vs n)) (hr : Reps s.heap M vs.toList ys) :
    FI W Γ sc s₀ env M₀ own M (ρ.set i (.ow ys)) { s with heap := h', toks := tk } ∧ Stp M₀ M s M { s with heap := h', toks := tk } := by
  refine Classical.byContradiction fun hQ => ?_
  obtain ⟨m1, m2, m3⟩ := fi.ownM i xs ho
  have hf := fi.vis y i hy _ ho
  obtain ⟨hvar, vs0, n0, e0, r0⟩ := hf
  have hn : ∃ o, h'.get? (own i) = some o ∧ ¬ TabLike o := ⟨_, hl, notTab_L⟩
  obtain ⟨x', mok', vr, ow, rs⟩ := fi.chg (tk := tk) hkp m1 m3 (soft_of e0 soft_L) hn
  (refine hQ ?_; clear hQ)
  have hvars : ∀ z w, VarAt s.heap env z w → VarAt h' env z w := fun z w hw => by
    rcases hw with ⟨k, m, ns, e⟩ | ⟨k, c, e, hc⟩
    · refine .inl ⟨k, m, ns.extBut (b := own i) (fun b o hb e => hkp b o hb e) (fun q => ?_), e⟩
      obtain ⟨o, es, ep, e1, hd, _⟩ := ns
      rw [q, e0] at e1; cases e1; cases hd
    · refine .inr ⟨k, c, e, ?_⟩
      obtain ⟨o, e1, hd⟩ := hc
      exact ⟨o, hkp _ _ (fun q => by rw [q, e0] at e1; cases e1; cases hd) e1, hd⟩
  refine ⟨⟨fi.g₀, x', ⟨?_, ?_⟩, mok', fi.sub, fi.apart, fi.loc, ?_, ?_, ?_, by rw [List.length_set]; exact fi.len⟩, Stp.chg hkp m1 m2 ⟨_, hl⟩⟩
  · obtain ⟨m, ns⟩ := fi.lay.ns
    refine ⟨m, ns.extBut (b := own i) (fun b o hb e => hkp b o hb e) (fun q => ?_)⟩
    refine Classical.byContradiction fun hQ => ?_
    obtain ⟨o, es, ep, e1, hd, _⟩ := ns
    (refine hQ ?_; clear hQ)
    rw [q, e0] at e1; cases e1; cases hd
  · intro z c hc
    refine Classical.byContradiction fun hQ => ?_
    obtain ⟨v, o, e1, hd⟩ := fi.lay.cell z c hc
    (refine hQ ?_; clear hQ)
    exact ⟨v, o, hkp _ _ (fun q => by rw [q, e0] at e1; cases e1; cases hd) e1, hd⟩
  · intro j zs hj
    by_cases q : i = j
    · subst q; exact ⟨m1, m2, m3⟩
    · exact fi.ownM j zs (get_set_ne hj q)
  · intro j k zs us hj hk' hne
    have conv : ∀ (j : Nat) (zs : List PyData), (ρ.set i (Mine.Slot.ow ys))[j]? = some (Mine.Slot.ow zs) → ∃ us, ρ[j]? = some (Mine.Slot.ow us) := fun j zs hj => by
      by_cases q : i = j
      · subst q; exact ⟨xs, ho⟩
      · exact ⟨zs, get_set_ne hj q⟩
    obtain ⟨_, h1⟩ := conv j zs hj
    obtain ⟨_, h2⟩ := conv k us hk'
    exact fi.inj j k _ _ h1 h2 hne
  · intro z j hz sz hs
    by_cases q : i = j
    · subst q
      have ez := so.inj z y i hz hy
      subst ez
      have := get_set_eq hs
      subst this
      exact ⟨hvars _ _ hvar, vs, n, hl, rs hr⟩
    · have hs' := get_set_ne hs q
      refine FS.mono_chg vr ow (hvars z) (fun zs e => ?_) (fi.vis z j hz sz hs')
      subst e
      exact Ne.symm (fi.inj i j _ _ ho hs' q)

/-- a list that is no longer to be changed becomes plain data -/
theorem FI.frz {y : Str} {i : Nat} {xs : List PyData} (so : SOk Γ sc env) (fi : FI W Γ sc s₀ env M₀ own M ρ s) (hy : Γ.vars.lookup y = some i) (ho : ρ[i]? = some (.ow xs)) :
    FI W Γ sc s₀ env M₀ own (M.filter fun a => a != own i) (ρ.set i (.sh (.d (.list xs)))) s ∧ Stp M₀ M s (M.filter fun a => a != own i) s := by
  refine Classical.byContradiction fun hQ => ?_
  obtain ⟨m1, m2, m3⟩ := fi.ownM i xs ho
  obtain ⟨hvar, vs0, n0, e0, r0⟩ := fi.vis y i hy _ ho
  (refine hQ ?_; clear hQ)
  have sub : ∀ a ∈ M.filter (fun a => a != own i), a ∈ M := fun a ha => (List.mem_filter.mp ha).1
  have mem : ∀ a ∈ M, a ≠ own i → a ∈ M.filter fun a => a != own i := fun a ha hne => List.mem_filter.mpr ⟨ha, by simpa using hne⟩
  refine ⟨⟨fi.g₀, fi.x, fi.lay, fun a ha => fi.mok a (sub a ha), fun a ha => mem a (fi.sub a ha) (fun q => m2 (by rw [← q]; exact ha)), fi.apart, ?_, ?_, ?_, ?_, by rw [List.length_set]; exact fi.len⟩,
    ⟨fun _ _ _ e _ => e, fun b o h _ q => h (sub b q), fun _ _ e => e, fun _ o e => ⟨o, e⟩⟩⟩
  · intro z hz
    obtain ⟨a, b, c⟩ := fi.loc z hz
    refine ⟨mem _ a fun q => ?_, b, c⟩
    exact (locOf_soft fi.lay so.ek hz).2.2 _ _ (by rw [q]; exact e0)
  · intro j zs hj
    by_cases q : i = j
    · subst q; cases get_set_eq hj
    · have hj := get_set_ne hj q
      obtain ⟨a, b, c⟩ := fi.ownM j zs hj
      exact ⟨mem _ a (Ne.symm (fi.inj i j _ _ ho hj q)), b, c⟩
  · intro j k zs us hj hk' hne
    by_cases q : i = j
    · subst q; cases get_set_eq hj
    · by_cases q2 : i = k
      · subst q2; cases get_set_eq hk'
      · exact fi.inj j k _ _ (get_set_ne hj q) (get_set_ne hk' q2) hne
  · intro z j hz sz hs
    by_cases q : i = j
    · subst q
      have ez := so.inj z y i hz hy
      subst ez
      have := get_set_eq hs
      subst this
      refine ⟨rfl, _, hvar, .list (fun q => ?_) e0 (r0.sub sub)⟩
      have := (List.mem_filter.mp q).2
      simp at this
    · have hs' := get_set_ne hs q
      have hf := fi.vis z j hz sz hs'
      cases sz with
      | un => trivial
      | sh u =>
        refine Classical.byContradiction fun hQ => ?_
        obtain ⟨h1, v, h2, h3⟩ := hf
        (refine hQ ?_; clear hQ)
        exact ⟨h1, v, h2, VRep.mono (fun _ _ _ e _ => e) (fun a ha => .inl (sub a ha)) h1 h3⟩
      | ow us =>
        refine Classical.byContradiction fun hQ => ?_
        obtain ⟨h2, vs, n, h3, h4⟩ := hf
        (refine hQ ?_; clear hQ)
        exact ⟨h2, vs, n, h3, h4.sub sub⟩
end
end Mine
end
section
open PySem PySem.W PyProof.Rows
set_option maxRecDepth 4000
namespace Mine

section
variable {W : Wd} {Γ : Gam} {sc : Scope} {s₀ s₁ s s' s'' : Shared} {env : Env} {M₀ M M' M'' N : List Addr} {own own' : Nat → Addr} {ρ : Ev}

theorem FS.grow {h h' : Heap} {M M' : List Addr} (hd : ∀ {v u}, VRep h M v u → VRep h' M' v u) (ho : ∀ {a xs}, OwnAt h M a xs → OwnAt h' M' a xs) {y : Str} {a : Addr} (hvar : ∀ w, VarAt h env y w → VarAt h' env y w) : ∀ {sl : Slot}, FS h env M y a sl → FS h' env M' y a sl
  | .un, _ => trivial
  | .sh _, ⟨h, v, q, r⟩ => ⟨h, v, hvar _ q, hd r⟩
  | .ow _, ⟨q, r⟩ => ⟨hvar _ q, ho r⟩

/-- new objects that the frame must not touch, and no value may stand on -/
theorem FI.guard (so : SOk Γ sc env) (fi : FI W Γ sc s₀ env M₀ own M ρ s) (x : SX W s s') (hN : ∀ a ∈ N, s.heap.get? a = none ∧ ∃ o, s'.heap.get? a = some o ∧ ¬ TabLike o) :
    FI W Γ sc s₀ env (N ++ M₀) own (N ++ M) ρ s' ∧ Stp M₀ M s (N ++ M) s' := by
  have m : ∀ a ∈ N ++ M, a ∈ M ∨ s.heap.get? a = none := fun a ha => (List.mem_append.mp ha).elim (fun h => .inr (hN a h).1) .inl
  have ne : ∀ {a b : Addr} {o : Obj}, a ∈ N → s.heap.get? b = some o → b ≠ a := fun ha e q => by subst q; rw [(hN _ ha).1] at e; cases e
  refine ⟨⟨fi.g₀, fi.x.trans x, fi.lay.ext x, ?_, ?_, ?_, ?_, ?_, fi.inj, ?_, fi.len⟩, ⟨fun b o _ e n => x.keep b o e n, fun b o h e q => (List.mem_append.mp q).elim (fun q => ne q e rfl) h, x.gens, x.occ⟩⟩
  · intro a ha
    exact (List.mem_append.mp ha).elim (fun h => (hN a h).2) (fun h => fi.mok.ext x a h)
  · intro a ha
    exact (List.mem_append.mp ha).elim (fun h => List.mem_append_left _ h) fun h => List.mem_append_right _ (fi.sub a h)
  · intro a ha
    refine (List.mem_append.mp ha).elim (fun h => ⟨?_, fun y c e => ?_⟩) (fi.apart a)
    · refine Classical.byContradiction fun hQ => ?_
      obtain ⟨m, o, es, ep, e, _⟩ := fi.lay.ns
      (refine hQ ?_; clear hQ)
      exact (ne h e).symm
    · refine Classical.byContradiction fun hQ => ?_
      obtain ⟨v, o, e, _⟩ := fi.lay.cell y c e
      (refine hQ ?_; clear hQ)
      exact (ne h e).symm
  · intro y hy
    refine Classical.byContradiction fun hQ => ?_
    obtain ⟨a, b, c⟩ := fi.loc y hy
    obtain ⟨o, e, _⟩ := (locOf_soft fi.lay so.ek hy).2.1
    (refine hQ ?_; clear hQ)
    exact ⟨List.mem_append_right _ a, fun q => (List.mem_append.mp q).elim (fun q => ne q e rfl) b, c⟩
  · intro i xs hi
    refine Classical.byContradiction fun hQ => ?_
    obtain ⟨a, b, c⟩ := fi.ownM i xs hi
    obtain ⟨o, e, _⟩ := fi.mok _ a
    (refine hQ ?_; clear hQ)
    exact ⟨List.mem_append_right _ a, fun q => (List.mem_append.mp q).elim (fun q => ne q e rfl) b, c⟩
  · intro y i hy sl hs
    exact FS.grow (fun r => r.grow x m) (fun r => r.grow x m) (fun w hw => hw.ext x) (fi.vis y i hy sl hs)

theorem FI.unguard {M₁ : List Addr} (h : ∀ a ∈ M₀, a ∈ M₁) (fi : FI W Γ sc s₀ env M₁ own M ρ s) : FI W Γ sc s₀ env M₀ own M ρ s :=
  ⟨fi.g₀, fi.x, fi.lay, fi.mok, fun a ha => fi.sub a (h a ha), fun a ha => fi.apart a (h a ha), fun y hy => (let ⟨a, b, c⟩ := fi.loc y hy; ⟨a, fun q => b (h _ q), c⟩), fun i xs hi => (let ⟨a, b, c⟩ := fi.ownM i xs hi; ⟨a, fun q => b (h _ q), c⟩), fi.inj, fi.vis, fi.len⟩

/-- a step of others that changes guarded objects only -/
structure Sd (W : Wd) (N : List Addr) (k : Nat) (s s' : Shared) : Prop where
  keep : ∀ b o, b ∉ N → s.heap.get? b = some o → ¬ TabLike o → s'.heap.get? b = some o
  occ : ∀ b o, b ∉ N → s.heap.get? b = some o → ∃ o', s'.heap.get? b = some o'
  os : s'.os = s.os
  gens : ∀ (i : Nat) g, i < k → s.gens[i]? = some g → s'.gens[i]? = some g
  good : Good W s'

section
variable {k : Nat}
theorem Sd.ns (sd : Sd W N k s s') {a : Addr} {m : Str → Option Value} (ha : a ∉ N) (n : s.heap.Ns a m) : s'.heap.Ns a m := by
  obtain ⟨o, es, ep, e, hd, r⟩ := n
  exact ⟨o, es, ep, sd.keep _ _ ha e (fun t => t.2.elim fun fs q => by rw [hd] at q; cases q.1), hd, r⟩
theorem Sd.cell (sd : Sd W N k s s') {a : Addr} {v : Option Value} (ha : a ∉ N) (n : s.heap.IsCell a v) : s'.heap.IsCell a v := by
  obtain ⟨o, e, hd⟩ := n
  exact ⟨o, sd.keep _ _ ha e (fun t => t.2.elim fun fs q => by rw [hd] at q; cases q.1), hd⟩
theorem Sd.var (sd : Sd W N k s s') (lne : env.locals ∉ N) (cne : ∀ y c, env.cells.lookup y = some c → c ∉ N) {z : Str} {w : Value} (h : VarAt s.heap env z w) : VarAt s'.heap env z w :=
  h.imp (fun q => ⟨q.1, q.2.elim fun m q => ⟨m, sd.ns lne q.1, q.2⟩⟩) fun q => ⟨q.1, q.2.elim fun c q => ⟨c, q.1, sd.cell (cne _ _ q.1) q.2⟩⟩
theorem Sd.lay (sd : Sd W N k s s') (lne : env.locals ∉ N) (cne : ∀ y c, env.cells.lookup y = some c → c ∉ N) (l : Lay env s.heap) : Lay env s'.heap :=
  ⟨l.ns.imp fun _ => sd.ns lne, fun y c e => (l.cell y c e).imp fun _ => sd.cell (cne y c e)⟩
theorem Sd.sx (sd : Sd W N k s s') (x : SX W s₀ s) (hk : s₀.gens.size ≤ k) (hN : ∀ b ∈ N, s₀.heap.get? b = none) : SX W s₀ s' := by
  have ne : ∀ {b o}, s₀.heap.get? b = some o → b ∉ N := fun e q => by rw [hN _ q] at e; cases e
  exact ⟨fun b o e n => sd.keep b o (ne e) (x.keep b o e n) n, fun b o e => (x.occ b o e).elim fun o' e' => sd.occ b o' (ne e) e', sd.os.trans x.os,
    fun i g e => sd.gens i g (Nat.lt_of_lt_of_le (Array.getElem?_eq_some_iff.mp e).1 hk) (x.gens i g e), sd.good⟩
theorem Sd.fs (sd : Sd W N k s s') (lne : env.locals ∉ N) (cne : ∀ y c, env.cells.lookup y = some c → c ∉ N) (kM : ∀ b o, b ∉ M → s.heap.get? b = some o → ¬ TabLike o → s'.heap.get? b = some o) (m : ∀ a ∈ M', a ∈ M ∨ s.heap.get? a = none)
    {y : Str} {a : Addr} {sl : Slot} (ha : ∀ xs, sl = .ow xs → a ∉ N) (h : FS s.heap env M y a sl) : FS s'.heap env M' y a sl := by
  cases sl with
  | un => trivial
  | sh u => exact ⟨h.1, h.2.imp fun v q => ⟨sd.var lne cne q.1, VRep.mono kM m h.1 q.2⟩⟩
  | ow us => exact ⟨sd.var lne cne h.1, h.2.imp fun vs q => q.imp fun n q => ⟨sd.keep _ _ (ha us rfl) q.1 notTab_L, q.2.mono kM m⟩⟩

theorem FI.side {Nn : List Addr} (so : SOk Γ sc env) (fi : FI W Γ sc s₀ env M₀ own M ρ s) (sd : Sd W N k s s') (hk : s₀.gens.size ≤ k) (hN : ∀ a ∈ N, a ∈ M₀ ∧ s₀.heap.get? a = none ∧ ∃ o, s'.heap.get? a = some o ∧ ¬ TabLike o)
    (hn : ∀ a ∈ Nn, s.heap.get? a = none ∧ ∃ o, s'.heap.get? a = some o ∧ ¬ TabLike o) : FI W Γ sc s₀ env (Nn ++ M₀) own (Nn ++ M) ρ s' := by
  have kM : ∀ b o, b ∉ M → s.heap.get? b = some o → ¬ TabLike o → s'.heap.get? b = some o := fun b o hb e n => sd.keep b o (fun q => hb (fi.sub b (hN b q).1)) e n
  have m : ∀ a ∈ Nn ++ M, a ∈ M ∨ s.heap.get? a = none := fun a ha => (List.mem_append.mp ha).elim (fun h => .inr (hn a h).1) .inl
  have ne : ∀ {a b : Addr} {o : Obj}, a ∈ Nn → s.heap.get? b = some o → b ≠ a := fun ha e q => by rw [q, (hn _ ha).1] at e; cases e
  have lne : env.locals ∉ N := fun q => (fi.apart _ (hN _ q).1).1 rfl
  have cne : ∀ y c, env.cells.lookup y = some c → c ∉ N := fun y c e q => (fi.apart _ (hN _ q).1).2 y c e rfl
  have nap : ∀ {a}, a ∉ M₀ → (∃ o, s.heap.get? a = some o) → a ∉ Nn ++ M₀ := fun b e q => (List.mem_append.mp q).elim (fun q => e.elim fun o e => ne q e rfl) b
  refine ⟨fi.g₀, sd.sx fi.x hk fun b q => (hN b q).2.1, sd.lay lne cne fi.lay, fun a ha => (List.mem_append.mp ha).elim (fun ha => (hn a ha).2) fun ha => ?_, fun a ha => (List.mem_append.mp ha).elim (fun h => List.mem_append_left _ h) fun h => List.mem_append_right _ (fi.sub a h),
    fun a ha => (List.mem_append.mp ha).elim (fun h => ⟨fi.lay.ns.elim fun m q => q.elim fun o q => q.elim fun es q => q.elim fun ep q => (ne h q.1).symm, fun y c e => (fi.lay.cell y c e).elim fun v q => q.elim fun o q => (ne h q.1).symm⟩) (fi.apart a),
    fun y hy => ⟨List.mem_append_right _ (fi.loc y hy).1, nap (fi.loc y hy).2.1 ((locOf_soft fi.lay so.ek hy).2.1.imp fun _ q => q.1), (fi.loc y hy).2.2⟩,
    fun i xs hi => ⟨List.mem_append_right _ (fi.ownM i xs hi).1, nap (fi.ownM i xs hi).2.1 ((fi.mok _ (fi.ownM i xs hi).1).imp fun _ q => q.1), (fi.ownM i xs hi).2.2⟩, fi.inj,
    fun y i hy sl hs => sd.fs lne cne kM m (fun us e q => (fi.ownM i us (e ▸ hs)).2.1 (hN _ q).1) (fi.vis y i hy sl hs), fi.len⟩
  by_cases q : a ∈ N
  · exact (hN a q).2.2
  · exact (fi.mok a ha).imp fun o e => ⟨sd.keep a o q e.1 e.2, e.2⟩

theorem FI.sideEnd (fi : FI W Γ sc s₀ env (N ++ M₀) own M ρ s) (sd : Sd W N k s s') (hk : s₀.gens.size ≤ k) (hN : ∀ a ∈ N, s₀.heap.get? a = none) (hd : ∀ a ∈ M₀, a ∉ N) :
    FI W Γ sc s₀ env M₀ own (M.filter fun a => decide (a ∉ N)) ρ s' := by
  have sub : ∀ a ∈ M.filter (fun a => decide (a ∉ N)), a ∈ M := fun a ha => (List.mem_filter.mp ha).1
  have mem : ∀ a ∈ M, a ∉ N → a ∈ M.filter fun a => decide (a ∉ N) := fun a ha hne => List.mem_filter.mpr ⟨ha, decide_eq_true hne⟩
  have inN : ∀ {a}, a ∈ N → a ∈ N ++ M₀ := fun h => List.mem_append_left _ h
  have kM : ∀ b o, b ∉ M → s.heap.get? b = some o → ¬ TabLike o → s'.heap.get? b = some o := fun b o hb e n => sd.keep b o (fun q => hb (fi.sub b (inN q))) e n
  have lne : env.locals ∉ N := fun q => (fi.apart _ (inN q)).1 rfl
  have cne : ∀ y c, env.cells.lookup y = some c → c ∉ N := fun y c e q => (fi.apart _ (inN q)).2 y c e rfl
  exact ⟨fi.g₀, sd.sx fi.x hk hN, sd.lay lne cne fi.lay, fun a ha => (fi.mok a (sub a ha)).imp fun o e => ⟨sd.keep a o (of_decide_eq_true (List.mem_filter.mp ha).2) e.1 e.2, e.2⟩,
    fun a ha => mem a (fi.sub a (List.mem_append_right _ ha)) (hd a ha), fun a ha => fi.apart a (List.mem_append_right _ ha),
    fun y hy => ⟨mem _ (fi.loc y hy).1 fun q => (fi.loc y hy).2.1 (inN q), fun q => (fi.loc y hy).2.1 (List.mem_append_right _ q), (fi.loc y hy).2.2⟩,
    fun i xs hi => ⟨mem _ (fi.ownM i xs hi).1 fun q => (fi.ownM i xs hi).2.1 (inN q), fun q => (fi.ownM i xs hi).2.1 (List.mem_append_right _ q), (fi.ownM i xs hi).2.2⟩, fi.inj,
    fun y i hy sl hs => sd.fs lne cne kM (fun a ha => .inl (sub a ha)) (fun us e q => (fi.ownM i us (e ▸ hs)).2.1 (inN q)) (fi.vis y i hy sl hs), fi.len⟩
end

theorem Stp.sub (h : ∀ a ∈ M'', a ∈ M') (p : Stp M₀ M s₁ M' s) : Stp M₀ M s₁ M'' s := ⟨p.keep, fun b o hb e q => p.out b o hb e (h b q), p.gens, p.occ⟩

theorem Stp.side {Nn : List Addr} {k : Nat} (p : Stp M₀ M s₁ M' s) (sd : Sd W N k s s') (hk : s₁.gens.size ≤ k) (hN : ∀ a ∈ N, s₁.heap.get? a = none) (hn : ∀ a ∈ Nn, s.heap.get? a = none) : Stp M₀ M s₁ (Nn ++ M') s' :=
  ⟨fun b o h e n => sd.keep b o (fun q => by rw [hN b q] at e; cases e) (p.keep b o h e n) n,
    fun b o h e q => (List.mem_append.mp q).elim (fun q => by obtain ⟨o', e'⟩ := p.occ b o e; rw [hn b q] at e'; cases e') (p.out b o h e),
    fun i g e => sd.gens i g (by obtain ⟨hl, _⟩ := Array.getElem?_eq_some_iff.mp e; lia) (p.gens i g e),
    fun b o e => (let ⟨o', e'⟩ := p.occ b o e; sd.occ b o' (fun q => by rw [hN b q] at e; cases e) e')⟩

noncomputable def FlR (h : Heap) (M₀ : List Addr) : Fl → Flow → Prop
  | .nx, .next => True
  | .bk, .brk => True
  | .ct, .cont => True
  | .rt v, .ret val => v.own = false ∧ VRep h M₀ val v
  | _, _ => False
theorem FlR.weak {h : Heap} {M₁ : List Addr} (hs : ∀ a ∈ M₀, a ∈ M₁) {f : Fl} {fl : Flow} (r : FlR h M₁ f fl) : FlR h M₀ f fl := by
  cases f with
  | rt v => cases fl <;> first | exact ⟨r.1, VRep.mono (fun _ _ _ e _ => e) (fun x hx => .inl (hs x hx)) r.1 r.2⟩ | exact r
  | _ => cases fl <;> exact r

/-- the statement st runs as the compact statement c says -/
noncomputable def SndS (W : Wd) (Γ : Gam) (sc : Scope) (st : Stmt) (c : CS) : Prop :=
  ∀ (n : Nat) (Φ : Fns) (fu : Nat) (A : Around) (env : Env) (s₀ s : Shared) (M₀ M : List Addr) (own : Nat → Addr) (ρ ρ' : Ev) (f : Fl) (E : Value → Shared → Prop) (Q : Flow → Shared → Prop),
    Ctrs W n Φ → RoomN A n → SOk Γ sc env → FI W Γ sc s₀ env M₀ own M ρ s → cex Φ fu c ρ = some (ρ', f) →
    (∀ own' M' s' fl, FI W Γ sc s₀ env M₀ own' M' ρ' s' → Stp M₀ M s M' s' → FlR s'.heap M₀ f fl → Q fl s') → wpAny (model W.prog W.w) A (exec st env) Q E s

noncomputable def SndBl (W : Wd) (Γ : Gam) (sc : Scope) (sts : List Stmt) (cs : List CS) : Prop :=
  ∀ (n : Nat) (Φ : Fns) (fu : Nat) (A : Around) (env : Env) (s₀ s : Shared) (M₀ M : List Addr) (own : Nat → Addr) (ρ ρ' : Ev) (f : Fl) (E : Value → Shared → Prop) (Q : Flow → Shared → Prop),
    Ctrs W n Φ → RoomN A n → SOk Γ sc env → FI W Γ sc s₀ env M₀ own M ρ s → cexs Φ fu cs ρ = some (ρ', f) →
    (∀ own' M' s' fl, FI W Γ sc s₀ env M₀ own' M' ρ' s' → Stp M₀ M s M' s' → FlR s'.heap M₀ f fl → Q fl s') → wpAny (model W.prog W.w) A (execs sts env) Q E s

theorem bl_nil : SndBl W Γ sc [] [] := fun n Φ fu A env s₀ s M₀ M own ρ ρ' f E Q _ _ _ fi e h => by
  cases e
  exact wpAny_execs_nil (h _ _ _ _ fi Stp.refl trivial)

theorem FlR.next {h : Heap} {fl : Flow} (q : FlR h M₀ .nx fl) : fl = .next := by cases fl <;> first | rfl | exact q.elim

/-- what follows a statement, with its answer told by an equation -/
theorem ct_of {ρ ρ' : Ev} {f f₁ : Fl} {Q : Flow → Shared → Prop} (h : ∀ own' M' s' fl, FI W Γ sc s₀ env M₀ own' M' ρ' s' → Stp M₀ M s M' s' → FlR s'.heap M₀ f fl → Q fl s') (e : some (ρ, f₁) = some (ρ', f)) :
    ∀ {own' M' s' fl}, FI W Γ sc s₀ env M₀ own' M' ρ s' → Stp M₀ M s M' s' → FlR s'.heap M₀ f₁ fl → Q fl s' := fun {own' M' s' fl} a b c => by cases e; exact h own' M' s' fl a b c
theorem bl_cons {st : Stmt} {c : CS} {sts : List Stmt} {cs : List CS} (h1 : SndS W Γ sc st c) (h2 : SndBl W Γ sc sts cs) : SndBl W Γ sc (st :: sts) (c :: cs) := fun n Φ fu A env s₀ s M₀ M own ρ ρ' f E Q ct rm so fi e h => by
  obtain ⟨⟨ρ₁, f₁⟩, e1, e⟩ := b_inv e
  refine wpAny_execs_cons (h1 n Φ fu A env s₀ s M₀ M own ρ ρ₁ f₁ E _ ct rm so fi e1 fun own' M' s' fl fi' st' fr => ?_)
  cases f₁ with
  | nx =>
    rw [fr.next]
    exact h2 n Φ fu A env s₀ s' M₀ M' own' ρ₁ ρ' f E Q ct rm so fi' e fun own'' M'' s'' fl' fi'' st'' fr' => h _ _ _ _ fi'' (st'.trans st'') fr'
  | bk => have q := ct_of h e fi' st' fr; cases fl <;> first | exact fr.elim | exact q
  | ct => have q := ct_of h e fi' st' fr; cases fl <;> first | exact fr.elim | exact q
  | rt v => have q := ct_of h e fi' st' fr; cases fl <;> first | exact fr.elim | exact q

theorem bl_frz {y : Str} {i : Nat} {sts : List Stmt} {cs : List CS} (hy : Γ.vars.lookup y = some i) (h2 : SndBl W Γ sc sts cs) : SndBl W Γ sc sts (.frz i :: cs) := fun n Φ fu A env s₀ s M₀ M own ρ ρ' f E Q ct rm so fi e h => by
  obtain ⟨⟨ρ₁, f₁⟩, e1, e⟩ := b_inv e
  have e1 : (match ow? ρ i with | some xs => some (ρ.set i (Mine.Slot.sh (.d (.list xs))), Fl.nx) | none => some (ρ, Fl.nx)) = some (ρ₁, f₁) := e1
  cases hx : ow? ρ i with
  | some xs =>
    rw [hx] at e1
    cases e1
    obtain ⟨fi', st'⟩ := fi.frz so hy (ow_eq hx)
    exact h2 n Φ fu A env s₀ s M₀ _ own _ ρ' f E Q ct rm so fi' e fun own'' M'' s'' fl' fi'' st'' fr' => h _ _ _ _ fi'' (st'.trans st'') fr'
  | none =>
    rw [hx] at e1
    cases e1
    exact h2 n Φ fu A env s₀ s M₀ M own _ ρ' f E Q ct rm so fi e h

theorem s_if {t : Expr} {a b : List Stmt} {ct : CE} {ca cb : List CS} {p : Pos} (ht : SndT W Γ sc t ct) (ha : SndBl W Γ sc a ca) (hb : SndBl W Γ sc b cb) : SndS W Γ sc (.If t a b p) (.ite ct ca cb) := fun n Φ fu A env s₀ s M₀ M own ρ ρ' f E Q ctr rm so fi e h => by
  obtain ⟨v, e1, e⟩ := b_inv e
  obtain ⟨k, e2, e⟩ := b_inv e
  refine wpAny_If (ht n Φ A s env M ρ v k E _ (fi.cx so ctr rm) e1 e2 fun s₁ x1 => ?_)
  cases k with
  | true => exact ha n Φ fu A env s₀ s₁ M₀ M own ρ ρ' f E Q ctr rm so (fi.ext x1) e fun own' M' s' fl fi' st' fr => h _ _ _ _ fi' ((Stp.of_SX x1).trans st') fr
  | false => exact hb n Φ fu A env s₀ s₁ M₀ M own ρ ρ' f E Q ctr rm so (fi.ext x1) e fun own' M' s' fl fi' st' fr => h _ _ _ _ fi' ((Stp.of_SX x1).trans st') fr

theorem s_ret {x : Expr} {c : CE} {p : Pos} (hx : SndE W Γ sc x c) : SndS W Γ sc (.Return (some x) p) (.ret c) := fun n Φ fu A env s₀ s M₀ M own ρ ρ' f E Q ctr rm so fi e h => by
  obtain ⟨v, e1, e⟩ := b_inv e
  obtain ⟨ho, e⟩ := ib_inv e
  have ho : v.own = false := by rw [← Bool.not_eq_true']; exact ho
  exact wpAny_Return_some (hx n Φ A s env M ρ v E _ (fi.cx so ctr rm) e1 fun xv s₁ x1 r1 => ct_of h e (fi.ext x1) (Stp.of_SX x1) ⟨ho, VRep.mono (fun _ _ _ e _ => e) (fun a ha => .inl (fi.sub a ha)) ho r1⟩)

theorem s_assert {t : Expr} {ct : CE} {msg : Option Expr} {p : Pos} (ht : SndT W Γ sc t ct) : SndS W Γ sc (.Assert t msg p) (.assert ct) := fun n Φ fu A env s₀ s M₀ M own ρ ρ' f E Q ctr rm so fi e h => by
  obtain ⟨v, e1, e⟩ := b_inv e
  obtain ⟨k, e2, e⟩ := b_inv e
  obtain ⟨hk, e⟩ := ib_inv e
  exact wpAny_Assert_holds (ht n Φ A s env M ρ v k E _ (fi.cx so ctr rm) e1 e2 fun s₁ x1 => ⟨hk, ct_of h e (fi.ext x1) (Stp.of_SX x1) trivial⟩)

theorem s_break {p : Pos} : ∀ {Q : Flow → Shared → Prop} {Md : Model} {A : Around} {E : Value → Shared → Prop}, Q .brk s → wpAny Md A (exec (.Break p) env) Q E s := fun h => wpAny_bind (wpAny_standAt (wpAny_pure h))

theorem s_while {t : Expr} {b : List Stmt} {ct : CE} {cb : List CS} {p : Pos} (ht : SndT W Γ sc t ct) (hb : SndBl W Γ sc b cb) : SndS W Γ sc (.While t b [] p) (.wh ct cb) := fun n Φ fu A env s₀ s M₀ M own ρ ρ' f E Q ctr rm so fi e h => by
  obtain ⟨Inv, hI⟩ : ∃ Inv : Nat → Shared → Prop, ∀ k s', Inv k s' ↔ ∃ z : (Nat → Addr) × List Addr × Ev, FI W Γ sc s₀ env M₀ z.1 z.2.1 z.2.2 s' ∧ Stp M₀ M s z.2.1 s' ∧ loopW (fun ρ => (ceval Φ ct ρ).bind vtruth) (fun ρ => cexs Φ fu cb ρ) k z.2.2 = some (ρ', f) := ⟨_, fun _ _ => Iff.rfl⟩
  refine wpAny_While (codeAny_whileLoop Inv ?_ fu ((hI _ _).mpr ⟨⟨own, M, ρ⟩, fi, Stp.refl, e⟩))
  clear e fi
  intro k s₁ hh
  obtain ⟨⟨own₁, M₁, ρ₁⟩, q⟩ := (hI _ _).mp hh
  clear hh
  cases k with
  | zero => exact nomatch q.2.2
  | succ k =>
    obtain ⟨b0, e2, e3⟩ := b_inv q.2.2
    obtain ⟨v, e4, e5⟩ := b_inv e2
    refine ht n Φ A s₁ env M₁ ρ₁ v b0 _ _ (q.1.cx so ctr rm) e4 e5 fun s₂ x2 => ?_
    have fi2 := q.1.ext x2
    have st2 := q.2.1.trans (Stp.of_SX x2)
    clear q e2 e4 e5 x2
    cases b0 with
    | false => exact wpAny_execs_nil (ct_of h e3 fi2 st2 trivial)
    | true =>
      obtain ⟨⟨ρ₂, f₂⟩, e6, e7⟩ := b_inv e3
      refine hb n Φ fu A env s₀ s₂ M₀ M₁ own₁ ρ₁ ρ₂ f₂ _ _ ctr rm so fi2 e6 fun own' M' s' fl fi' st' fr => ?_
      have st3 := st2.trans st'
      clear e6 e3 fi2 st2 st'
      have nxt : loopW (fun ρ => (ceval Φ ct ρ).bind vtruth) (fun ρ => cexs Φ fu cb ρ) k ρ₂ = some (ρ', f) → ∃ m, m < k + 1 ∧ Inv m s' := fun e7 => ⟨k, Nat.lt_succ_self _, (hI _ _).mpr ⟨⟨own', M', ρ₂⟩, fi', st3, e7⟩⟩
      cases f₂ with
      | nx => cases fl <;> first | exact fr.elim | exact nxt e7
      | ct => cases fl <;> first | exact fr.elim | exact nxt e7
      | bk => cases fl <;> first | exact fr.elim | exact ct_of h e7 fi' st3 trivial
      | rt v => cases fl <;> first | exact fr.elim | exact ct_of h e7 fi' st3 fr

/-- an iterator under way, told by states: N are the objects that it may change -/
structure ItS (W : Wd) (A : Around) (M : List Addr) (s₁ s₂ : Shared) (I : Addr) (xs : List PyData) (N₀ fp : List Addr) (St : Nat → List Addr → Shared → Prop) : Prop where
  item : ∀ (i : Nat) (N : List Addr) (s : Shared) (d : PyData) (Q : Option Value → Shared → Prop) (E : Value → Shared → Prop), xs[i]? = some d → Good W s → St i N s →
    (∀ v s' Nn, St (i + 1) (Nn ++ N) s' → (∀ a ∈ Nn, s.heap.get? a = none) → Sd W N s₁.gens.size s s' → (∀ M', MOk s.heap M' → (∀ b o, b ∉ M → s₁.heap.get? b = some o → b ∉ M' ∧ (¬ TabLike o → s.heap.get? b = some o)) → Rep s'.heap M' v d ∧ Rep s'.heap (Nn ++ M') v d) → Q (some v) s') →
    wpAny (model W.prog W.w) A (pyNext (.ref I)) Q E s
  done : ∀ (N : List Addr) (s : Shared) (Q : Option Value → Shared → Prop) (E : Value → Shared → Prop), Good W s → St xs.length N s →
    (∀ s', Sd W N s₁.gens.size s s' → Q none s') → wpAny (model W.prog W.w) A (pyNext (.ref I)) Q E s
  frame : ∀ i N s s', St i N s → (∀ b ∈ N ++ fp, ∀ o, s.heap.get? b = some o → s'.heap.get? b = some o) → (∀ (k : Nat) g, s.gens[k]? = some g → s'.gens[k]? = some g) → (∀ b o, s.heap.get? b = some o → ∃ o', s'.heap.get? b = some o') → St i N s'
  st : St 0 N₀ s₂
  new : ∀ i N s, St i N s → ∀ b ∈ N, s₁.heap.get? b = none
  here : ∀ i N s, St i N s → ∀ b ∈ N, ∃ o, s.heap.get? b = some o ∧ ¬ TabLike o
  ext : SX W s₁ s₂
  old : ∀ b ∈ fp, b ∉ M ∧ ∃ o, s₁.heap.get? b = some o ∧ ¬ TabLike o

theorem Sd.of {N : List Addr} {k : Nat} {h' : Heap} {tk : Nat} (hk : ∀ b o, b ∉ N → s.heap.get? b = some o → h'.get? b = some o) (g : Good W { s with heap := h', toks := tk }) : Sd W N k s { s with heap := h', toks := tk } :=
  ⟨fun b o hb e _ => hk b o hb e, fun b o hb e => ⟨o, hk b o hb e⟩, rfl, fun _ _ _ e => e, g⟩

theorem Itr.toS {A : Around} {s₂ : Shared} {I : Addr} {xs : List PyData} {fp : List Addr} {P : Nat → Value → Prop} {St : Nat → Heap → Prop} (g₁ : Good W s₁) (T : Itr W A M s₁ s₂ I xs fp P St) : ItS W A M s₁ s₂ I xs [I] (fp.filter fun b => b != I) (fun i N s => N = [I] ∧ St i s.heap) := by
  have gd : ∀ {i : Nat} {s : Shared} {h' : Heap} {tk : Nat}, Good W s → St i s.heap → (∀ b o, b ∉ [I] → s.heap.get? b = some o → h'.get? b = some o) → Good W { s with heap := h', toks := tk } := fun {i s h' tk} g st hk =>
    ⟨W.mono g.ok fun b o q e => hk b o (fun z => by
      have z := List.mem_singleton.mp z
      subst z
      rcases q with q | q
      · obtain ⟨o', e'⟩ := W.occ g₁.ok q; rw [T.new] at e'; cases e'
      · exact q (T.soft i s.heap o st e)) e, g.bare⟩
  have here : ∀ {i h b}, St i h → b ∈ [I] → ∃ o, h.get? b = some o ∧ ¬ TabLike o := fun {i h b} st hb => by
    rw [List.mem_singleton.mp hb]
    obtain ⟨o, e⟩ := T.here i h st
    exact ⟨o, e, (T.soft i h o st e).1⟩
  refine ⟨fun i N s d Q E hd g st h => ?_, fun N s Q E g st h => ?_, fun i N s s' st hk _ _ => ⟨st.1, T.walks.frame i _ _ st.2 fun b hb => ?_⟩, ⟨rfl, T.st⟩, fun i N s st b hb => ?_, fun i N s st b hb => ?_, T.ext, fun b hb => ?_⟩
  · obtain ⟨rfl, st⟩ := st
    have hlt : i < xs.length := (List.getElem?_eq_some_iff.mp hd).1
    refine T.walks.item i s Q E hlt st fun v h' tk hp st' hk => h v _ [] ⟨rfl, st'⟩ (fun a ha => by cases ha) (Sd.of hk (gd g st hk)) fun M' hM' hk' => ?_
    have : Rep h' M' v d := by
      refine Rep.mono (fun b o hb e n => hk b o (fun q => ?_) ((hk' b o hb e).2 n)) (fun a ha => ?_) (T.rep i v d hp hd)
      · rw [List.mem_singleton.mp q, T.new] at e; cases e
      · by_cases q : a ∈ M
        · exact .inl q
        · right
          cases e : s₁.heap.get? a with
          | none => rfl
          | some o => exact absurd ha (hk' a o q e).1
    exact ⟨this, this⟩
  · obtain ⟨rfl, st⟩ := st
    exact T.walks.done s Q E st fun h' tk hk => h _ (Sd.of hk (gd g st hk))
  · refine hk b ?_
    obtain ⟨h1, _⟩ := st
    subst h1
    by_cases q : b = I
    · exact List.mem_append_left _ (by rw [q]; exact List.mem_singleton.mpr rfl)
    · exact List.mem_append_right _ (List.mem_filter.mpr ⟨hb, by simpa using q⟩)
  · obtain ⟨h1, _⟩ := st
    subst h1
    rw [List.mem_singleton.mp hb]; exact T.new
  · obtain ⟨h1, st⟩ := st
    subst h1
    exact here st hb
  · obtain ⟨h1, h2⟩ := List.mem_filter.mp hb
    exact T.old b h1 (by simpa using h2)
end
end Mine
end
section
open PySem PySem.W PyProof.Rows
set_option maxRecDepth 4000
namespace Mine

section
variable {W : Wd} {Γ : Gam} {sc : Scope}

noncomputable def NmOk (Γ : Gam) (sc : Scope) (y : Str) (i : Nat) : Prop := Γ.vars.lookup y = some i ∧ (sc.names.lookup y = some .local ∨ sc.names.lookup y = some .cell)

/-- a target takes a value -/
noncomputable def TakeS (W : Wd) (Γ : Gam) (sc : Scope) (tgt : Expr) (take : PyData → Ev → Option Ev) : Prop :=
  ∀ (A : Around) (env : Env) (s₀ s : Shared) (M₀ M : List Addr) (own : Nat → Addr) (ρ ρ' : Ev) (v : Value) (d : PyData) (E : Value → Shared → Prop) (Q : Unit → Shared → Prop),
    A.handled = none → SOk Γ sc env → FI W Γ sc s₀ env M₀ own M ρ s → Rep s.heap M v d → take d ρ = some ρ' →
    (∀ s', FI W Γ sc s₀ env M₀ own M ρ' s' → Stp M₀ M s M s' → Q () s') → wpAny (model W.prog W.w) A (assign tgt env v) Q E s

theorem take_one {y : Str} {i : Nat} {p : Pos} (hy : NmOk Γ sc y i) : TakeS W Γ sc (.Name y p) (takeOne i) := fun A env s₀ s M₀ M own ρ ρ' v d E Q hh so fi r e h => by
  unfold takeOne at e
  cases e
  exact wpAny_assign_Name (FI.store so fi hy.1 hy.2 (.inl ⟨.d d, rfl, rfl, r⟩) h)

/-- the names of a tuple target, each stored in turn -/
inductive Nms (Γ : Gam) (sc : Scope) : List Expr → List Nat → Prop
  | nil : Nms Γ sc [] []
  | cons {y : Str} {i : Nat} {p : Pos} {es : List Expr} {is : List Nat} : NmOk Γ sc y i → Nms Γ sc es is → Nms Γ sc (.Name y p :: es) (i :: is)

theorem nms_len {es : List Expr} {is : List Nat} (H : Nms Γ sc es is) (env : Env) : (assignEach es env).length = is.length ∧ (assignEach es env).findIdx? (·.1) = none := by
  induction H with
  | nil => exact ⟨rfl, rfl⟩
  | cons hy _ ih =>
    have e : ∀ y p es, assignEach (.Name y p :: es) env = (false, assign (.Name y p) env) :: assignEach es env := fun _ _ _ => rfl
    rw [e]
    exact ⟨by simp [ih.1], by rw [List.findIdx?_cons]; simp [ih.2]⟩

theorem put_all {es : List Expr} {is : List Nat} (H : Nms Γ sc es is) : ∀ {A : Around} {env : Env} {s₀ s : Shared} {M₀ M : List Addr} {own : Nat → Addr} {ρ ρ' : Ev} {vs : List Value} {ds : List PyData} {E : Value → Shared → Prop} {Q : Unit → Shared → Prop},
    SOk Γ sc env → FI W Γ sc s₀ env M₀ own M ρ s → Reps s.heap M vs ds → putAll is ds ρ = some ρ' →
    (∀ s', FI W Γ sc s₀ env M₀ own M ρ' s' → Stp M₀ M s M s' → Q () s') → wpAny (model W.prog W.w) A (assignInOrder ((assignEach es env).map (·.2)) vs) Q E s := by
  induction H with
  | nil =>
    intro A env s₀ s M₀ M own ρ ρ' vs ds E Q so fi r e h
    obtain ⟨q, e⟩ := if_inv e
    rw [← e] at h
    rw [List.isEmpty_iff.mp q] at r
    have r := r.length
    rw [List.length_eq_zero_iff.mp r]
    exact wpAny_pure (h _ fi Stp.refl)
  | @cons y i p es is hy _ ih =>
    intro A env s₀ s M₀ M own ρ ρ' vs ds E Q so fi r e h
    cases ds with
    | nil => cases e
    | cons d ds =>
      cases r with
      | @cons v vs _ _ r1 r2 =>
        refine wpAny_bind (wpAny_holding (wpAny_assign_Name (FI.store so fi hy.1 hy.2 (.inl ⟨.d d, rfl, rfl, r1⟩) fun s' fi' st' => ?_)))
        exact ih so fi' (r2.mono (fun b o hb e n => st'.keep b o (.inl hb) e n) fun a ha => .inl ha) e fun s'' fi'' st'' => h _ fi'' (st'.trans st'')

theorem parts_inv {n : Nat} {d : PyData} {xs : List PyData} (e : partsOf n d = some xs) : d = .tuple xs ∧ xs.length = n := by
  cases d with
  | tuple ys => exact (if_inv e).2 ▸ ⟨rfl, (if_inv e).1⟩
  | _ => cases e
theorem fold_no {it : Expr} (hs : isSet it = false) {env : Env} (z : Value) : foldedSetIterable it env z = pure z := by cases it <;> first | rfl | cases hs
theorem partsT_inv {n : Nat} {d : PyData} {xs : List PyData} (e : partsT n d = some xs) : (d = .tuple xs ∨ d = .list xs) ∧ xs.length = n := by
  cases d with
  | tuple ys => exact (if_inv e).2 ▸ ⟨.inl rfl, (if_inv e).1⟩
  | list ys => exact (if_inv e).2 ▸ ⟨.inr rfl, (if_inv e).1⟩
  | _ => cases e
section
variable {prog : Program} {w : World} {A : Around} {E : Value → Shared → Prop}
theorem draw_list {it t : Addr} {items : Array Value} (hne : t ≠ it) : ∀ (n i : Nat) (s : Shared) (Q : List Value → Shared → Prop), s.heap.IsListIter it t i → s.heap.IsList t items → i + n ≤ items.size →
    (∀ h', h'.IsListIter it t (i + n) → Heap.SameBut it s.heap h' → Q ((items.toList.drop i).take n) { s with heap := h' }) → wpAny (model prog w) A (draw (.ref it) n) Q E s
  | 0, i, s, Q, hit, _, _, hQ => by
    show wpAny _ _ (pure []) Q E s
    exact wpAny_pure (by simpa using hQ s.heap hit (Heap.SameBut.refl ..))
  | n + 1, i, s, Q, hit, ht, hle, hQ => by
    have hlt : i < items.size := by lia
    show wpAny _ _ (pyNext (.ref it) >>= _) Q E s
    refine wpAny_bind (wpAny_pyNext_list_item hit ht (x := items[i]) (by simp [hlt]) fun h₁ hit₁ hs₁ => ?_)
    refine wpAny_bind (wpAny_holding (draw_list hne n (i + 1) _ _ hit₁ (ht.extBut hs₁.extBut hne) (by lia) fun h₂ hit₂ hs₂ => wpAny_pure ?_))
    have := hQ h₂ (by rw [show i + (n + 1) = i + 1 + n by lia]; exact hit₂) (hs₁.trans hs₂)
    rw [List.drop_eq_getElem_cons (by simpa using hlt), List.take_succ_cons] at this
    exact this
theorem assign_list {s : Shared} {env : Env} {elts : List Expr} {x1 : Nat} {pos : Pos} {t : Addr} {items : Array Value} {Q : Unit → Shared → Prop} (hh : A.handled = none) (ht : s.heap.IsList t items) (hn : (assignEach elts env).length = items.size)
    (hstar : (assignEach elts env).findIdx? (·.1) = none) (hQ : ∀ h', Heap.ExtBut s.heap.objs.size s.heap h' → wpAny (model prog w) A (assignInOrder ((assignEach elts env).map (·.2)) items.toList) Q E { s with heap := h' }) :
    wpAny (model prog w) A (assign (.Tuple elts x1 pos) env (.ref t)) Q E s := by
  have hlt : t ≠ s.heap.objs.size := by obtain ⟨o, ho, _⟩ := ht; exact Nat.ne_of_lt (Heap.lt_size ho)
  rw [arm_assign_Tuple]
  refine wpAny_bind (wpAny_standAt ?_)
  unfold unpack
  rw [hn, hstar]
  refine wpAny_bind (wpAny_holding ?_)
  unfold unpackItems
  refine wpAny_bind ?_
  unfold notIterableAtAll
  refine wpAny_bind (wpAny_specialOf ht.typeIs slot_list_iter.lookup ?_)
  refine wpAny_pure ?_
  simp only [Bool.false_eq_true, if_false]
  refine wpAny_bind (wpAny_holding (wpAny_pyIter_list ht ?_))
  refine wpAny_bind (wpAny_holding (draw_list hlt items.size 0 _ _ ⟨_, Heap.get?_push_size _ rfl, rfl, rfl⟩ (ht.push _) (by lia) fun h₁ hit₁ hs₁ => ?_))
  rw [show List.take items.size (List.drop 0 items.toList) = items.toList by rw [List.drop_zero]; exact List.take_of_length_le (by simp), if_neg (by simp)]
  refine wpAny_bind (wpAny_holding (wpAny_pyNext_list_end hh hit₁ ((ht.push _).extBut hs₁.extBut hlt) (by simp) fun h₂ he₂ => ?_))
  simp only [Option.isSome_none, Bool.false_eq_true, if_false]
  exact wpAny_pure (hQ h₂ fun b o hb e => he₂ b o hb (hs₁.extBut b o hb (Heap.get?_push_of_some _ e)))
end
theorem take_T {es : List Expr} {is : List Nat} {k : Nat} {p : Pos} (H : Nms Γ sc es is) : TakeS W Γ sc (.Tuple es k p) (takeT is) := fun A env s₀ s M₀ M own ρ ρ' v d E Q hh so fi r e h => by
  obtain ⟨xs, e1, e2⟩ := b_inv e
  obtain ⟨e1, hl⟩ := partsT_inv e1
  obtain ⟨n1, n2⟩ := nms_len H env
  have go : ∀ {l : Addr} {vs : Array Value}, Reps s.heap M vs.toList xs → (vs.size = xs.length → (∀ h', Heap.ExtBut s.heap.objs.size s.heap h' → wpAny (model W.prog W.w) A (assignInOrder ((assignEach es env).map (·.2)) vs.toList) Q E { s with heap := h' }) → wpAny (model W.prog W.w) A (assign (.Tuple es k p) env (.ref l)) Q E s) → wpAny (model W.prog W.w) A (assign (.Tuple es k p) env (.ref l)) Q E s := fun h3 g => by
    have hvl := h3.length
    rw [Array.length_toList] at hvl
    refine g hvl fun h' hb => ?_
    have x1 : SX W s { s with heap := h' } := SX.heap fi.x.good fun b o e => hb b o (fun q => by rw [q, fresh_none] at e; cases e) e
    exact put_all H so (fi.ext x1) (h3.ext x1) e2 fun s' fi' st' => h _ fi' ((Stp.of_SX x1).trans st')
  rcases e1 with e1 | e1 <;> rw [e1] at r
  · exact vtup (show VRep s.heap M v (.d (.tuple xs)) from r) fun l vs n _ h2 h3 => go h3 fun hvl => wpAny_assign_Tuple hh ⟨_, h2, rfl, _, rfl⟩ (by rw [n1, hvl, hl]) n2
  · exact vls (show VRep s.heap M v (.d (.list xs)) from r) fun l vs n _ h2 h3 => go h3 fun hvl => assign_list hh ⟨_, h2, rfl, _, rfl⟩ (by rw [n1, hvl, hl]) n2

/-- a loop over an iterator under way -/
structure FL (W : Wd) (Γ : Gam) (sc : Scope) (env : Env) (s₀ s₁ : Shared) (M₀ M : List Addr) (xs : List PyData) (St : Nat → List Addr → Shared → Prop) (go : List PyData → Ev → Prop) (k : Nat) (s' : Shared) (i : Nat) (N : List Addr) (own' : Nat → Addr) (M' : List Addr) (ρ₁ : Ev) : Prop where
  hk : k = xs.length - i
  hi : i ≤ xs.length
  fi : FI W Γ sc s₀ env (N ++ M₀) own' M' ρ₁ s'
  st : Stp M₀ M s₁ M' s'
  St : St i N s'
  e : go (xs.drop i) ρ₁
theorem gens_le {s₀ s₁ : Shared} (x : SX W s₀ s₁) : s₀.gens.size ≤ s₁.gens.size := Nat.le_of_not_lt fun q => Nat.lt_irrefl _ (Array.getElem?_eq_some_iff.mp (x.gens s₁.gens.size _ (Array.getElem?_eq_getElem q))).1
theorem for_loop {tgt : Expr} {b : List Stmt} {cb : List CS} {take : PyData → Ev → Option Ev} (hb : SndBl W Γ sc b cb) (ht : TakeS W Γ sc tgt take) {n : Nat} {Φ : Fns} {fu : Nat} {A : Around} {env : Env} {s₀ s₁ s₂ : Shared} {M₀ M : List Addr} {own : Nat → Addr} {ρ ρ' : Ev} {f : Fl}
    {E : Value → Shared → Prop} {Q : Flow → Shared → Prop} {I : Addr} {xs : List PyData} {N₀ fp : List Addr} {St : Nat → List Addr → Shared → Prop} (ctr : Ctrs W n Φ) (rm : RoomN A n) (so : SOk Γ sc env) (fi : FI W Γ sc s₀ env M₀ own M ρ s₁)
    (T : ItS W A M s₁ s₂ I xs N₀ fp St) (hlet : ∀ i N s v (Q : Unit → Shared → Prop) (E : Value → Shared → Prop), St i N s → Q () s → wpAny (model W.prog W.w) A (letOwnedTupleGo tgt (.ref I) v) Q E s)
    (e : loopF take (fun ρ => cexs Φ fu cb ρ) xs ρ = some (ρ', f))
    (h : ∀ own' M' s' fl, FI W Γ sc s₀ env M₀ own' M' ρ' s' → Stp M₀ M s₁ M' s' → FlR s'.heap M₀ f fl → Q fl s') :
    codeAny (model W.prog W.w) A (.forLoop tgt (.ref I) b [] env) (fun r s' => match r with | .ok f => Q f s' | .error e => cameBackBy (model W.prog W.w) A env E e s') s₂ := by
  have fr0 : ∀ {i : Nat} {N : List Addr} {s : Shared}, St i N s → ∀ a ∈ N, s₀.heap.get? a = none := fun st a ha => fi.x.fresh (T.new _ _ _ st a ha)
  have kz := gens_le fi.x
  have m0 : ∀ {i : Nat} {N : List Addr} {s : Shared}, St i N s → ∀ a ∈ M₀, a ∉ N := fun st a ha q => (fi.mok a (fi.sub a ha)).elim fun o e => Option.some_ne_none o (e.1.symm.trans (T.new _ _ _ st a q))
  have hw : ∀ {N : List Addr}, ∀ a ∈ M₀, a ∈ N ++ M₀ := fun a ha => List.mem_append_right _ ha
  have fpk : ∀ {sA sB : Shared} {MA MB N : List Addr} {j : Nat}, Stp M₀ M s₁ MA sA → Stp (N ++ M₀) MA sA MB sB → St j N sA → ∀ b ∈ N ++ fp, ∀ o, sA.heap.get? b = some o → sB.heap.get? b = some o := fun {sA sB MA MB N j} pA pB st b hb o e => by
    rcases List.mem_append.mp hb with q | q
    · obtain ⟨o', e', n'⟩ := T.here j _ _ st b q
      rw [e] at e'
      exact pB.keep b o (.inr (List.mem_append_left _ q)) e (Option.some.inj e' ▸ n')
    · obtain ⟨q, o1, e1, n1⟩ := T.old b q
      have e2 := pA.keep b o1 (.inl q) e1 n1
      rw [e] at e2
      exact pB.keep b o (.inl (pA.out b o1 q e1)) e (Option.some.inj e2 ▸ n1)
  obtain ⟨fi2, st2⟩ := fi.guard so T.ext (fun a ha => ⟨T.new _ _ _ T.st a ha, T.here 0 _ _ T.st a ha⟩)
  obtain ⟨Inv, hI⟩ : ∃ Inv : Nat → Shared → Prop, ∀ k s', Inv k s' ↔ ∃ z : Nat × List Addr × (Nat → Addr) × List Addr × Ev, FL W Γ sc env s₀ s₁ M₀ M xs St (fun xs ρ => loopF take (fun ρ => cexs Φ fu cb ρ) xs ρ = some (ρ', f)) k s' z.1 z.2.1 z.2.2.1 z.2.2.2.1 z.2.2.2.2 := ⟨_, fun _ _ => Iff.rfl⟩
  refine codeAny_forLoop_any Inv ?_ xs.length ((hI _ _).mpr ⟨⟨0, N₀, own, N₀ ++ M, ρ⟩, rfl, Nat.zero_le _, fi2, st2, T.st, e⟩)
  clear fi2 st2 e
  intro k s' hh
  obtain ⟨⟨i, N, own', M', ρ₁⟩, z⟩ := (hI _ _).mp hh
  clear hh
  by_cases hlt : i < xs.length
  · have hd : xs[i]? = some xs[i] := List.getElem?_eq_getElem hlt
    have e' := z.e
    rw [List.drop_eq_getElem_cons hlt] at e'
    obtain ⟨ρ₂, e1, e'⟩ := b_inv e'
    obtain ⟨⟨ρ₃, f₃⟩, e2, e'⟩ := b_inv e'
    refine T.item i N s' xs[i] _ _ hd z.fi.x.good z.St fun v s₃ Nn St3 hNn sd3 rep3 => ?_
    have here3 := T.here _ _ _ St3
    have fi3 := z.fi.side (Nn := Nn) so sd3 kz (fun a ha => ⟨List.mem_append_left _ ha, fr0 z.St a ha, here3 a (List.mem_append_right _ ha)⟩) (fun a ha => ⟨hNn a ha, here3 a (List.mem_append_left _ ha)⟩)
    rw [← List.append_assoc] at fi3
    have st3 : Stp M₀ M s₁ (Nn ++ M') s₃ := z.st.side sd3 (Nat.le_refl _) (T.new _ _ _ z.St) hNn
    refine hlet (i + 1) _ s₃ v _ _ St3 (ht A env s₀ s₃ ((Nn ++ N) ++ M₀) (Nn ++ M') own' ρ₁ ρ₂ v xs[i] _ _ rm.handled so fi3 (rep3 M' z.fi.mok fun b o hb e => ⟨z.st.out b o hb e, fun n => z.st.keep b o (.inl hb) e n⟩).2 e1 fun s₄ fi4 st4 => ?_)
    have St4 : St (i + 1) (Nn ++ N) s₄ := T.frame _ _ _ _ St3 (fpk st3 st4 St3) st4.gens st4.occ
    have st14 := st3.trans (st4.weak hw)
    clear rep3 here3 fi3 St3 e1 sd3 hNn st3
    refine hb n Φ fu A env s₀ s₄ ((Nn ++ N) ++ M₀) (Nn ++ M') own' ρ₂ ρ₃ f₃ _ _ ctr rm so fi4 e2 fun own5 M5 s₅ fl fi5 st5 fr => ?_
    have St5 : St (i + 1) (Nn ++ N) s₅ := T.frame _ _ _ _ St4 (fpk st14 st5 St4) st5.gens st5.occ
    have st15 := st14.trans (st5.weak hw)
    clear St4 st14 e2 fi4 st5
    have fin : ∀ {f₁ fl}, some (ρ₃, f₁) = some (ρ', f) → FlR s₅.heap ((Nn ++ N) ++ M₀) f₁ fl → Q fl s₅ := fun q r => ct_of h q (fi5.unguard (hw (N := Nn ++ N))) st15 (r.weak hw)
    have nxt : loopF take (fun ρ => cexs Φ fu cb ρ) (xs.drop (i + 1)) ρ₃ = some (ρ', f) → ∃ k', k' < k ∧ Inv k' s₅ :=
      fun e' => ⟨xs.length - (i + 1), by rw [z.hk]; exact Nat.sub_succ_lt_self _ _ hlt, (hI _ _).mpr ⟨⟨i + 1, Nn ++ N, own5, M5, ρ₃⟩, rfl, hlt, fi5, st15, St5, e'⟩⟩
    cases f₃ with
    | nx => cases fl <;> first | exact fr.elim | exact nxt e'
    | ct => cases fl <;> first | exact fr.elim | exact nxt e'
    | bk => cases fl <;> first | exact fr.elim | exact fin e' trivial
    | rt v => cases fl <;> first | exact fr.elim | exact fin e' fr
  · have hin : i = xs.length := Nat.le_antisymm z.hi (Nat.le_of_not_lt hlt)
    have e' := z.e
    rw [hin, List.drop_length] at e'
    exact T.done N s' _ _ z.fi.x.good (hin ▸ z.St) fun s₃ sd3 => wpAny_execs_nil (ct_of h e' (z.fi.sideEnd sd3 kz (fr0 z.St) (m0 z.St))
      ((z.st.side (Nn := []) sd3 (Nat.le_refl _) (T.new _ _ _ z.St) (fun a ha => by cases ha)).sub fun a ha => (List.mem_filter.mp ha).1) trivial)

theorem s_for1 {y : Str} {i : Nat} {p q : Pos} {it : Expr} {cit : CE} {b : List Stmt} {cb : List CS} (hy : NmOk Γ sc y i) (hs : isSet it = false) (hit : SndE W Γ sc it cit) (hb : SndBl W Γ sc b cb) :
    SndS W Γ sc (.For (.Name y p) it b [] q) (.for1 i cit cb) := fun n Φ fu A env s₀ s M₀ M own ρ ρ' f E Q ctr rm so fi e h => by
  obtain ⟨v, e1, e⟩ := b_inv e
  obtain ⟨xs, e2, e⟩ := b_inv e
  refine wpAny_For (hit n Φ A s env M ρ v E _ (fi.cx so ctr rm) e1 fun xv s₁ x1 r1 => ?_) (fold_no hs)
  refine (iter_snd (M := M) rm.w x1.good r1 e2 fun I s₂ fp P St T => ?_).2
  exact for_loop hb (take_one hy) ctr rm so (fi.ext x1) (T.toS x1.good) (fun _ _ _ _ _ _ _ hq => wpAny_pure hq) e fun own' M' s' fl fi' st' fr => h _ _ _ _ fi' ((Stp.of_SX x1).trans st') fr

theorem s_forT {es : List Expr} {is : List Nat} {k : Nat} {p q : Pos} {it : Expr} {cit : CE} {b : List Stmt} {cb : List CS} (H : Nms Γ sc es is) (hs : isSet it = false) (hl : ∀ (Φ : Fns) (ρ : Ev) v, ceval Φ cit ρ = some v → ∃ xs, v = .d (.list xs)) (hit : SndE W Γ sc it cit) (hb : SndBl W Γ sc b cb) :
    SndS W Γ sc (.For (.Tuple es k p) it b [] q) (.forT is cit cb) := fun n Φ fu A env s₀ s M₀ M own ρ ρ' f E Q ctr rm so fi e h => by
  obtain ⟨v, e1, e⟩ := b_inv e
  obtain ⟨xs, e2, e⟩ := b_inv e
  refine wpAny_For (hit n Φ A s env M ρ v E _ (fi.cx so ctr rm) e1 fun xv s₁ x1 r1 => ?_) (fold_no hs)
  obtain ⟨ys, hv⟩ := hl _ _ _ e1
  rw [hv] at e2 r1
  obtain ⟨ez, e2⟩ := if_inv e2
  rw [e2] at r1
  refine vls r1 fun l vs k2 h1 h2 h3 => ?_
  have hne : l ≠ s₁.heap.objs.size := fun q => by rw [q, fresh_none] at h2; cases h2
  have hln := h3.length
  rw [Array.length_toList] at hln
  have W0 := Walks.list (prog := W.prog) (w := W.w) rm.handled s₁.heap.objs.size l hne vs
  rw [hln] at W0
  refine wpAny_pyIter_list ⟨_, h2, rfl, _, rfl⟩ ?_
  have T : Itr W A M s₁ { s₁ with heap := s₁.heap.push { cls := .type "list_iterator", data := .fields #[.ref l, .int 0 0] } } s₁.heap.objs.size xs [s₁.heap.objs.size, l] (fun i v => vs[i]? = some v) (fun i h => h.IsListIter s₁.heap.objs.size l i ∧ h.IsList l vs) :=
    ⟨W0, ⟨⟨_, Heap.get?_push_size _ rfl, rfl, rfl⟩, ⟨_, Heap.get?_push_of_some _ h2, rfl, _, rfl⟩⟩, fresh_none _, SX.push (tk := s₁.toks) x1.good, old2 h1 h2 notTab_L, fun _ _ _ => h3.pair,
      fun i h o st e => st.1.elim fun o' q => soft_of q.1 (soft_it q.2.1 q.2.2 fun _ _ z => nomatch z) o e, fun i h st => st.1.elim fun o q => ⟨o, q.1⟩⟩
  refine for_loop hb (take_T H) ctr rm so (fi.ext x1) (T.toS x1.good) (fun i N s v Q E st hq => ?_) e fun own' M' s' fl fi' st' fr => h _ _ _ _ fi' ((Stp.of_SX x1).trans st') fr
  cases v with
  | ref a => exact wpAny_letOwnedTupleGo_listiter st.2.1 hq
  | _ => exact wpAny_pure hq

noncomputable def noComp (e : Expr) : Bool := !(e.ctorIdx == 8 || e.ctorIdx == 9 || e.ctorIdx == 10)
theorem swaps_no {e : Expr} (h : noComp e = true) (t : Option Expr) (line : Nat) (env : Env) : swapsWith e t line env = pure false := by
  cases e <;> first | rfl | cases h

theorem s_asg {y : Str} {i : Nat} {p q : Pos} {x : Expr} {c : CE} (hy : NmOk Γ sc y i) (hn : noComp x = true) (hx : SndE W Γ sc x c) : SndS W Γ sc (.Assign [.Name y p] x q) (.asg i c) := fun n Φ fu A env s₀ s M₀ M own ρ ρ' f E Q ctr rm so fi e h => by
  obtain ⟨v, e1, e⟩ := b_inv e
  obtain ⟨ho, e⟩ := ib_inv e
  rw [Bool.not_eq_true'] at ho
  exact wpAny_Assign_Name (hx n Φ A s env M ρ v E _ (fi.cx so ctr rm) e1 fun xv s₁ x1 r1 => FI.store so (fi.ext x1) hy.1 hy.2 (.inl ⟨v, rfl, ho, r1⟩) fun s' fi' st' => ct_of h e fi' ((Stp.of_SX x1).trans st') trivial) (swaps_no hn _ _ _)

theorem s_asg_comp {y : Str} {i : Nat} {p q : Pos} {x : Str} {px : Pos} {elt iter : Expr} {ifs : List Expr} {celt cit : CE} {cifs : List CE} {pos : Pos} {scope : Scope} (hy : NmOk Γ sc y i) (co : CompOk sc scope)
    (hx : scope.names.lookup x = some .local ∨ scope.names.lookup x = some .cell) (hs : isSet iter = false) (hit : SndE W Γ sc iter cit) (helt : SndE W (gamIn Γ scope x) (relab scope sc) elt celt) (hifs : SndI W (gamIn Γ scope x) (relab scope sc) ifs cifs) :
    SndS W Γ sc (.Assign [.Name y p] (.ListComp elt [⟨.Name x px, iter, ifs, 0⟩] scope pos) q) (.asg i (.comp 0 celt cit cifs)) := fun n Φ fu A env s₀ s M₀ M own ρ ρ' f E Q ctr rm so fi e h => by
  obtain ⟨v, e1, e⟩ := b_inv e
  obtain ⟨ho, e⟩ := ib_inv e
  rw [Bool.not_eq_true'] at ho
  obtain ⟨b, hb⟩ : ∃ b, swapsWith (.ListComp elt [⟨.Name x px, iter, ifs, 0⟩] scope pos) (some (.Name y p)) q.line env = pure b := ⟨_, rfl⟩
  cases b with
  | false =>
    exact wpAny_Assign_Name (snd_comp co hx hs hit helt hifs n Φ A s env M ρ v E _ (fi.cx so ctr rm) e1 fun xv s₁ x1 r1 => FI.store so (fi.ext x1) hy.1 hy.2 (.inl ⟨v, rfl, ho, r1⟩) fun s' fi' st' => ct_of h e fi' ((Stp.of_SX x1).trans st') trivial) hb
  | true =>
    rw [exec_Assign_Name_used y p _ q hb]
    refine wpAny_bind (wpAny_standAt (wpAny_bind ?_))
    show wpAny _ A (do let _ ← comprehension (.ListComp elt [⟨.Name x px, iter, ifs, 0⟩] scope pos) scope env _ (newList []) (firstAsync _) (firstIter [⟨.Name x px, iter, ifs, 0⟩] env) (some (assign (.Name y p) env))) _ E s
    refine wpAny_bind ?_
    obtain ⟨u, eu, e9⟩ := b_inv e1
    obtain ⟨xs, e2, e9⟩ := b_inv e9
    obtain ⟨total, e3, e9⟩ := Option.map_eq_some_iff.mp e9
    rw [← e9] at e
    have c := fi.cx (A := A) so ctr rm
    have hclos : closureFor scope env = pure (cloOf env.cells scope.names []) := closure_pure fun p hp hf => c.env.cells p.1 (co.free p.1 (hf ▸ hp))
    refine wpAny_comprehension_free (use := some (assign (.Name y p) env)) rfl (fold_no hs) hclos co.kind (fun p hp hl => nodup_lookup co.nd (hl ▸ hp)) ?_
    refine hit n Φ A s env M ρ u E _ c eu fun xv s₁ x1 r1 => ?_
    refine (iter_snd (M := M) c.room x1.good r1 e2 fun I s₂ fp P St T => ?_).2
    rw [relabel_eq c.env]
    have sz := (iter_snd (M := M) (E := E) (Q := fun _ _ => True) c.room x1.good r1 e2 fun _ _ _ _ _ _ => trivial).1
    refine comp_core (RR := fun acc C => compPost (model W.prog W.w) A E (some (assign (.Name y p) env)) _ acc C) co hx helt hifs (c.ext x1) T sz e3 fun s' D C m x2 hC hm hD hr => ?_
    have fi1 := fi.ext x1
    clear hclos c T sz e1 eu e2 e3 e9
    obtain ⟨o0, ho0⟩ := ns_notTab hm
    have new : ∀ a ∈ [C], s₁.heap.get? a = none := fun a ha => by rw [List.mem_singleton.mp ha]; exact hC
    obtain ⟨gf, gs⟩ := fi1.guard (N := [C]) so x2 (fun a ha => ⟨new a ha, by rw [List.mem_singleton.mp ha]; exact ⟨o0, ho0⟩⟩)
    refine wpAny_assign_Name (FI.store so gf hy.1 hy.2 (.inl ⟨.d (.list total), rfl, rfl, hr⟩) fun s₃ fi3 st3 => ?_)
    have hm3 : s₃.heap.Ns C m := by
      obtain ⟨o, es, ep, e, hd, r⟩ := hm
      exact ⟨o, es, ep, st3.keep C o (.inr (List.mem_append_left _ (List.mem_singleton.mpr rfl))) e (fun t => t.2.elim fun fs q => by rw [hd] at q; cases q.1), hd, r⟩
    refine ⟨m, hm3, fun h' hsb => wpAny_pure (wpAny_pure ?_)⟩
    have xg := SX.upd (tk := s₃.toks) fi3.x hsb.extBut (fi1.x.fresh hC) (soft_ns hm3) fi.g₀
    have sd : Sd W [C] s₁.gens.size s₃ { s₃ with heap := h' } := Sd.of (fun b o hb e => hsb.extBut b o (fun q => hb (by rw [q]; exact List.mem_singleton.mpr rfl)) e) xg.good
    exact ct_of h e (fi3.sideEnd sd (gens_le fi1.x) (fun a ha => fi1.x.fresh (new a ha)) fun a ha q => (fi1.mok a (fi1.sub a ha)).elim fun o e => Option.some_ne_none o (e.1.symm.trans (new a q)))
      ((Stp.of_SX x1).trans (((gs.trans (st3.weak fun a ha => List.mem_append_right _ ha)).side (Nn := []) sd (Nat.le_refl _) new (fun a ha => by cases ha)).sub (M'' := (([C] ++ M).filter fun a => decide (a ∉ [C]))) fun a ha => (List.mem_filter.mp ha).1)) trivial
end
end Mine
end
section
open PySem PySem.W PyProof.Rows
set_option maxRecDepth 4000
namespace Mine

section
variable {W : Wd} {Γ : Gam} {sc : Scope}

theorem loadName_of {M : Model} {A : Around} {E : Value → Shared → Prop} {s : Shared} {env : Env} {x : Str} {v : Value} {Q : Value → Shared → Prop} (ho : okName x = true) (hk : env.scope.kind = .function)
    (hv : VarAt s.heap env x v) (h : Q v s) : wpAny M A (loadName env x) Q E s := by
  rcases hv with ⟨k, m, n, e⟩ | ⟨k | k, c, e, n⟩
  · exact wpAny_loadName_local hk k n e h
  · exact wpAny_loadName_cell hk k e n h
  · exact wpAny_loadName_free hk k e n h (okName_2 ho)

theorem rd_inv {ρ : Ev} {i : Nat} {x : PyData} (e : rd ρ i = some (.d x)) : ρ[i]? = some (.sh (.d x)) := by
  obtain ⟨sl, h1, h2⟩ := b_inv e
  rw [h1]
  cases sl with
  | sh v => rw [Option.some.inj h2]
  | _ => cases h2
theorem s_aug {y : Str} {i : Nat} {p q : Pos} {neg : Bool} {x : Expr} {c : CE} (ho : okName y = true) (hy : NmOk Γ sc y i) (hx : SndE W Γ sc x c) : SndS W Γ sc (.AugAssign (.Name y p) (if neg then .Sub else .Add) x q) (.aug neg i c) := fun n Φ fu A env s₀ s M₀ M own ρ ρ' f E Q ctr rm so fi e h => by
  obtain ⟨v, e1, e⟩ := b_inv e
  obtain ⟨b, e2, e⟩ := b_inv e
  obtain ⟨u, e3, e⟩ := b_inv e
  obtain ⟨a, e4, e⟩ := b_inv e
  rw [asInt_eq e2] at e1
  rw [asInt_eq e4] at e3
  clear e2 e4
  obtain ⟨_, val, hv, hr⟩ := fi.vis y i hy.1 _ (rd_inv e3)
  have fin : ∀ {s₁ : Shared}, SX W s s₁ → ∀ {r t}, r = (if neg then a - b else a + b) → wpAny (model W.prog W.w) A (storeName env y (.int r t)) (fun _ => Q .next) E { s₁ with toks := s₁.toks + 1 } := fun {s₁} x1 {r t} q =>
    FI.store so ((fi.ext x1).ext (SX.toks x1.good)) hy.1 hy.2 (.inl ⟨.d (.int _), rfl, rfl, q ▸ .int _ _⟩) fun s' fi' st' => ct_of h e fi' (((Stp.of_SX x1).trans (Stp.of_SX (SX.toks x1.good))).trans st') trivial
  refine vint (G := fun val => VarAt s.heap env y val → wpAny (model W.prog W.w) A (exec (.AugAssign (.Name y p) (if neg then .Sub else .Add) x q) env) Q E s) hr (fun t hv => ?_) hv
  refine wpAny_AugAssign_Name (loadName_of ho (scope_fn so.ek) hv (hx n Φ A s env M ρ _ E _ (fi.cx so ctr rm) e1 fun xv s₁ x1 r1 => vint r1 fun u => ?_))
  cases neg with
  | true => exact isub_int (fin x1 rfl)
  | false => exact iadd_int (fin x1 rfl)

/-- an expression that makes a new list -/
noncomputable def SndF (W : Wd) (Γ : Gam) (scope : Scope) (e : Expr) (c : CE) : Prop :=
  ∀ (n : Nat) (Φ : Fns) (A : Around) (s : Shared) (env : Env) (M : List Addr) (ρ : Ev) (xs : List PyData) (E : Value → Shared → Prop) (Q : Value → Shared → Prop),
    Cx W Γ scope n Φ A s env M ρ → ceval Φ c ρ = some (.d (.list xs)) → (∀ a vs k s', SX W s s' → s.heap.get? a = none → s'.heap.get? a = some (plainL vs k) → Reps s'.heap (a :: M) vs.toList xs → Q (.ref a) s') → wpAny (model W.prog W.w) A (eval e env) Q E s

theorem sf_list {es : List Expr} {cs : List CE} {p : Pos} (H : SndL W Γ sc es cs) : SndF W Γ sc (.List es p) (.list cs) := fun n Φ A s env M ρ xs E Q c e h => by
  obtain ⟨ys, e1, e⟩ := b_inv e
  obtain ⟨q, e⟩ := if_inv e
  cases e
  refine wpAny_List (snd_argsD H c e1 fun vals s₁ x1 r1 => ⟨by rw [r1.length]; exact Nat.le_trans (szOk_le q) (by decide), ?_⟩)
  have x2 : SX W s₁ { s₁ with heap := s₁.heap.push (plainL vals.toArray 0) } := SX.push (tk := s₁.toks) x1.good
  exact h _ _ _ _ (x1.trans x2) (x1.fresh (fresh_none _)) (Heap.get?_push_size _ rfl) (r1.mono (fun b o _ e n => x2.keep b o e n) fun a ha => (List.mem_cons.mp ha).elim (fun q => .inr (q ▸ fresh_none _)) .inl)

theorem reps_strs {h : Heap} {M M' : List Addr} : ∀ {ts : List Str} {vs : List Value}, Reps h M vs (ts.map .str) → Reps h M' vs (ts.map .str) := by
  intro ts
  induction ts with
  | nil => intro vs r; rw [List.length_eq_zero_iff.mp r.length]; exact .nil
  | cons t ts ih =>
    intro vs r
    cases vs with
    | nil => cases r.length
    | cons v vs =>
      cases r with
      | cons r1 r2 =>
        obtain ⟨u, rfl⟩ := str_self r1
        exact .cons (.str _ _) (ih r2)

theorem sf_split {o : Expr} {co ce : CE} {es : Expr} {apos pos : Pos} (hb : notSuper o = true) (hl : (apos.endLine == pos.line) = true) (hs : isStar es = false) (hobj : SndE W Γ sc o co) (H : SndE W Γ sc es ce) :
    SndF W Γ sc (.Call (.Attribute o (Str.ofString "split") apos) [es] [] pos) (.meth .split co [ce]) := fun n Φ A s env M ρ xs E Q c e h => by
  obtain ⟨x, e0, e⟩ := b_inv e
  obtain ⟨ys, e1, e⟩ := b_inv e
  obtain ⟨z, w, hx, hy, q1, q2, ev⟩ := split_inv0 e
  rw [hx] at e0
  rw [hy] at e1
  clear hx hy e
  have ev := PyData.list.inj (vd_inj ev)
  have H' : SndL W Γ sc [es] [ce] := .cons hs H .nil
  refine wpAny_Call_method_lateS (base_plain hb) ?_ hl (hobj n Φ A s env M ρ _ E _ c e0 fun ov s₁ x1 r1 => ?_)
  · rw [H'.allPlain]
    simp [backToKw, kw_nil]
  · refine ⟨"str", "str.split", PySem.F.plainAttrs_str, PySem.F.slot_str_split, PySem.F.type_str_split, (str_type r1).1, (str_type r1).2, ?_⟩
    refine Calls.callWith_builtin (H'.plain _ _) (snd_evalArgs H' (c.ext x1) e1 fun vals s₂ x2 r2 => ?_)
    obtain ⟨w1, hw, r2⟩ := vr1 r2
    rw [hw]
    refine vstr (r1.ext x2) fun t => vstr r2 fun u => split_snd x2.good ((c.ext x1).ext x2).mok q1 q2 fun r s' sx hf hp hr => ?_
    obtain ⟨vs, k, hp⟩ := hp
    obtain ⟨l, ws, k2, el, _, g2, g3⟩ := list_self (show VRep s'.heap M (.ref r) (.d _) from hr)
    cases el
    rw [hp] at g2
    cases g2
    exact h _ _ _ _ ((x1.trans x2).trans sx) ((x1.trans x2).fresh hf) hp (ev ▸ reps_strs g3)

theorem FI.drop {s₀ s : Shared} {env : Env} {M₀ M : List Addr} {own : Nat → Addr} {ρ : Ev} (fi : FI W Γ sc s₀ env M₀ own M ρ s) (i : Nat) (a : Addr) :
    FI W Γ sc s₀ env M₀ (fun j => if j = i then a else own j) M (ρ.set i .un) s := by
  have ne : ∀ {j : Nat} {xs : List PyData}, (ρ.set i Mine.Slot.un)[j]? = some (Mine.Slot.ow xs) → j ≠ i ∧ ρ[j]? = some (Mine.Slot.ow xs) := fun {j xs} hj => by
    by_cases q : i = j
    · subst q; cases get_set_eq hj
    · exact ⟨fun e => q e.symm, get_set_ne hj q⟩
  refine ⟨fi.g₀, fi.x, fi.lay, fi.mok, fi.sub, fi.apart, fi.loc, fun j xs hj => ?_, fun j k xs ys hj hk hne => ?_, fun y j hy sl hs => ?_, by rw [List.length_set]; exact fi.len⟩
  · obtain ⟨h1, h2⟩ := ne hj
    simp only [h1, if_false]
    exact fi.ownM j xs h2
  · refine Classical.byContradiction fun hQ => ?_
    obtain ⟨h1, h2⟩ := ne hj
    obtain ⟨h3, h4⟩ := ne hk
    (refine hQ ?_; clear hQ)
    simp only [h1, h3, if_false]
    exact fi.inj j k xs ys h2 h4 hne
  · by_cases q : i = j
    · subst q; have := get_set_eq hs; subst this; trivial
    · have := fi.vis y j hy sl (get_set_ne hs q)
      simp only [show j ≠ i from fun e => q e.symm, if_false]
      exact this

theorem s_own {y : Str} {i : Nat} {p q : Pos} {x : Expr} {c : CE} (hy : NmOk Γ sc y i) (hn : noComp x = true) (hx : SndF W Γ sc x c) : SndS W Γ sc (.Assign [.Name y p] x q) (.own i c) := fun n Φ fu A env s₀ s M₀ M own ρ ρ' f E Q ctr rm so fi e h => by
  obtain ⟨v, e1, e⟩ := b_inv e
  obtain ⟨xs, e2, e⟩ := b_inv e
  rw [asLst_eq e2] at e1
  refine wpAny_Assign_Name (hx n Φ A s env M ρ xs E _ (fi.cx so ctr rm) e1 fun a vs k s₁ x1 hf hp r1 => ?_) (swaps_no hn _ _ _)
  obtain ⟨gf, gs⟩ := fi.guard (N := [a]) so x1 (fun b hb => by rw [List.mem_singleton.mp hb]; exact ⟨hf, _, hp, notTab_L⟩)
  have fi2 := (gf.unguard fun b hb => List.mem_append_right _ hb).drop i a
  have nM : ∀ b ∈ M, b ≠ a := fun b hb q => (fi.mok b hb).elim fun o e => Option.some_ne_none o (e.1.symm.trans (q ▸ hf))
  refine FI.store so fi2 hy.1 hy.2 (.inr ⟨xs, rfl, ?_⟩) fun s' fi' st' => ?_
  · rw [if_pos rfl]
    refine ⟨rfl, ⟨vs, k, hp, r1⟩, List.mem_append_left _ (List.mem_singleton.mpr rfl), fun q => nM a (fi.sub a q) rfl, fi.x.fresh hf, fun j ys hne hj => ?_⟩
    rw [if_neg hne]
    exact Ne.symm (nM _ (fi.ownM j ys (get_set_ne hj (Ne.symm hne))).1)
  · rw [List.set_set] at fi'
    exact ct_of h e fi' (gs.trans st') trivial

/-- a statement that calls a method of an owned list -/
theorem mstmt {x nm : Str} {id : String} {i : Nat} {px apos pos q : Pos} {es : List Expr} {cs : List CE} (ho : okName x = true) (hl : (apos.endLine == pos.line) = true) (hn : es.length < 30) (H : SndL W Γ sc es cs)
    (hs : PySem.Slot "list" nm id) (ht : typeOf (.builtin id) = pure (.type "method_descriptor")) (hy : NmOk Γ sc x i) {n : Nat} {Φ : Fns} {A : Around} {env : Env} {s₀ s : Shared} {M₀ M : List Addr} {own : Nat → Addr} {ρ : Ev} {us : List V} {xs : List PyData} {E : Value → Shared → Prop} {Q : Flow → Shared → Prop}
    (ctr : Ctrs W n Φ) (rm : RoomN A n) (so : SOk Γ sc env) (fi : FI W Γ sc s₀ env M₀ own M ρ s) (e1 : cevals Φ cs ρ = some us) (e2 : ρ[i]? = some (.ow xs))
    (h : ∀ vals s', SX W s s' → VReps s'.heap M vals us → wpAny (model W.prog W.w) A (call (.builtin id) (.ref (own i) :: vals) []) (fun v s' => v = .none ∧ Q .next s') E s') :
    wpAny (model W.prog W.w) A (exec (.Expr (.Call (.Attribute (.Name x px) nm apos) es [] pos) q) env) Q E s := by
  refine Classical.byContradiction fun hQ => ?_
  obtain ⟨hv, vs, k, hp, hr⟩ := fi.vis x i hy.1 _ e2
  (refine hQ ?_; clear hQ)
  have hk := scope_fn so.ek
  refine wpAny_Expr ?_ (by unfold interactive; rw [hk]; rfl) rfl
  refine wpAny_Call_method_lateS rfl ?_ hl (load_var ho hk hv ?_)
  · rw [H.allPlain]
    simp [hn, backToKw, kw_nil]
  · refine ⟨"list", id, PySem.F.plainAttrs_list, hs, ht, ⟨_, hp, rfl⟩, fun _ e => by cases e; exact ⟨_, hp, rfl⟩, ?_⟩
    refine Calls.callWith_builtin (H.plain _ _) (snd_evalArgs H (fi.cx so ctr rm) e1 fun vals s₂ x2 r2 => ?_)
    refine wpAny_mono (h vals s₂ x2 r2) (fun v s' hv => ?_) fun _ _ x => x
    obtain ⟨rfl, hq⟩ := hv
    exact hq

theorem s_app {x : Str} {i : Nat} {px apos pos q : Pos} {a : Expr} {c : CE} (ho : okName x = true) (hl : (apos.endLine == pos.line) = true) (hst : isStar a = false) (ha : SndE W Γ sc a c) (hy : NmOk Γ sc x i) :
    SndS W Γ sc (.Expr (.Call (.Attribute (.Name x px) (Str.ofString "append") apos) [a] [] pos) q) (.app i c) := fun n Φ fu A env s₀ s M₀ M own ρ ρ' f E Q ctr rm so fi e h => by
  obtain ⟨v, e1, e⟩ := b_inv e
  obtain ⟨d, e2, e⟩ := b_inv e
  obtain ⟨xs, hx, e⟩ := b_inv e
  obtain ⟨sz, e⟩ := if_inv e
  rw [toD_eq e2] at e1
  have hx := ow_eq hx
  refine mstmt ho hl (by show 1 < 30; decide) (.cons hst ha .nil) PySem.slot_list_append PySem.type_list_append hy ctr rm so fi (us := [.d d]) (b_of e1 rfl) hx fun vals s₁ x1 r1 => ?_
  obtain ⟨w, hw, ra⟩ := vr1 r1
  rw [hw]
  have fi1 := fi.ext x1
  obtain ⟨_, vs, k, hp, hr⟩ := fi1.vis x i hy.1 _ hx
  refine list_append hp (by rw [← Array.length_toList, hr.length]; exact Nat.le_trans (szOk_le sz) (by decide)) fun h' hp' hk' => ⟨rfl, ?_⟩
  obtain ⟨fi2, st2⟩ := fi1.mut (tk := s₁.toks) so hy.1 hx hk' hp' (ys := xs ++ [d]) (by rw [Array.toList_push]; exact hr.append (.cons ra .nil))
  exact ct_of h (congrArg some e) fi2 ((Stp.of_SX x1).trans st2) trivial

theorem s_ext {x : Str} {i : Nat} {px apos pos q : Pos} {a : Expr} {c : CE} (ho : okName x = true) (hl : (apos.endLine == pos.line) = true) (hst : isStar a = false) (ha : SndE W Γ sc a c) (hy : NmOk Γ sc x i) :
    SndS W Γ sc (.Expr (.Call (.Attribute (.Name x px) (Str.ofString "extend") apos) [a] [] pos) q) (.ext i c) := fun n Φ fu A env s₀ s M₀ M own ρ ρ' f E Q ctr rm so fi e h => by
  obtain ⟨v, e1, e⟩ := b_inv e
  obtain ⟨ys, e2, e⟩ := b_inv e
  obtain ⟨xs, hx, e⟩ := b_inv e
  obtain ⟨sz, e⟩ := if_inv e
  rw [asLst_eq e2] at e1
  have hx := ow_eq hx
  refine mstmt ho hl (by show 1 < 30; decide) (.cons hst ha .nil) PySem.F.slot_list_extend PySem.F.type_list_extend hy ctr rm so fi (us := [.d (.list ys)]) (b_of e1 rfl) hx fun vals s₁ x1 r1 => ?_
  obtain ⟨w, hw, ra⟩ := vr1 r1
  rw [hw]
  have fi1 := fi.ext x1
  refine vls ra fun l ws m _ hb hrb => ?_
  obtain ⟨_, vs, k, hp, hr⟩ := fi1.vis x i hy.1 _ hx
  have hln := hr.length
  have hln2 := hrb.length
  rw [Array.length_toList] at hln hln2
  have szl := szOk_le sz
  have hs1 : vs.size + ws.size ≤ sizeLine := by rw [hln, hln2]; exact Nat.le_trans szl (by decide)
  refine call_meets PySem.F.slot_list_extend ⟨_, hp, rfl⟩ PySem.F.entry_list_extend (PySem.F.args_list_extend_2 _ _) (AutoSeq1.list_extend_list_list_0 _ vs k l ws m (extend_door hs1) (by omega)) ⟨hp, hb, rfl, ?_⟩
  have hp' : (s₁.heap.update (own i) (Obj.mapSeq fun x => x ++ ws)).get? (own i) = some (plainL (vs ++ ws) (if (vs ++ ws).size == vs.size then k else k + 1)) := by
    rw [Heap.get?_update_self _ hp (by rw [mapSeq_app]; rfl), mapSeq_app]
  obtain ⟨fi2, st2⟩ := fi1.mut (tk := s₁.toks) so hy.1 hx (Heap.SameBut.update ..).extBut hp' (ys := xs ++ ys) (by rw [Array.toList_append]; exact hr.append hrb)
  exact ct_of h (congrArg some e) fi2 ((Stp.of_SX x1).trans st2) trivial

theorem s_rev {x : Str} {i : Nat} {px apos pos q : Pos} (ho : okName x = true) (hl : (apos.endLine == pos.line) = true) (hy : NmOk Γ sc x i) :
    SndS W Γ sc (.Expr (.Call (.Attribute (.Name x px) (Str.ofString "reverse") apos) [] [] pos) q) (.rev i) := fun n Φ fu A env s₀ s M₀ M own ρ ρ' f E Q ctr rm so fi e h => by
  obtain ⟨xs, hx, e⟩ := b_inv e
  obtain ⟨sz, e⟩ := if_inv e
  have hx := ow_eq hx
  refine mstmt ho hl (by show 0 < 30; decide) .nil PySem.F.slot_list_reverse PySem.F.type_list_reverse hy ctr rm so fi (us := []) rfl hx fun vals s₁ x1 r1 => ?_
  cases r1
  have fi1 := fi.ext x1
  obtain ⟨_, vs, k, hp, hr⟩ := fi1.vis x i hy.1 _ hx
  have hs1 : vs.size ≤ sizeLine := by rw [← Array.length_toList, hr.length]; exact Nat.le_trans (szOk_le sz) (by decide)
  refine call_meets PySem.F.slot_list_reverse ⟨_, hp, rfl⟩ PySem.F.entry_list_reverse (PySem.F.args_list_reverse_1 _) (AutoSeq1.list_reverse_list_0 _ vs k hs1) ⟨hp, rfl, ?_⟩
  have em : Obj.mapSeq (fun x => x.reverse) (plainL vs k) = plainL vs.reverse (if vs.reverse.size == vs.size then k else k + 1) := rfl
  have hp' : (s₁.heap.update (own i) (Obj.mapSeq fun x => x.reverse)).get? (own i) = some (plainL vs.reverse (if vs.reverse.size == vs.size then k else k + 1)) := by
    rw [Heap.get?_update_self _ hp (by rw [em]; rfl), em]
  obtain ⟨fi2, st2⟩ := fi1.mut (tk := s₁.toks) so hy.1 hx (Heap.SameBut.update ..).extBut hp' (ys := xs.reverse) (by rw [Array.toList_reverse]; exact hr.reverse)
  exact ct_of h (congrArg some e) fi2 ((Stp.of_SX x1).trans st2) trivial

theorem Reps.eraseIdx {h : Heap} {M : List Addr} {vs : List Value} {ds : List PyData} (r : Reps h M vs ds) : ∀ k : Nat, Reps h M (vs.eraseIdx k) (ds.eraseIdx k) :=
  Reps.ind (P := fun vs ds => ∀ k : Nat, Reps h M (vs.eraseIdx k) (ds.eraseIdx k)) (fun _ => .nil)
    (fun _ _ _ _ b t ih i => by
      cases i with
      | zero => exact t
      | succ i => exact .cons b (ih i)) r

theorem s_del {x : Str} {i : Nat} {last : Bool} {px p q : Pos} {a : Expr} {c : CE} (ho : okName x = true) (ha : SndE W Γ sc a c) (hc : ∀ (Φ : Fns) (ρ : Ev), ceval Φ c ρ = some (.d (.int (if last then -1 else 0)))) (hy : NmOk Γ sc x i) :
    SndS W Γ sc (.Delete [.Subscript (.Name x px) a p] q) (.delAt i last) := fun n Φ fu A env s₀ s M₀ M own ρ ρ' f E Q ctr rm so fi e h => by
  obtain ⟨xs, hx, e⟩ := b_inv e
  obtain ⟨sz, e⟩ := if_inv e
  rw [Bool.and_eq_true, Bool.not_eq_true'] at sz
  have hx := ow_eq hx
  obtain ⟨hv, _⟩ := fi.vis x i hy.1 _ hx
  refine wpAny_Delete (wpAny_deleteEach_cons (wpAny_delete_Subscript (load_var ho (scope_fn so.ek) hv (ha n Φ A s env M ρ _ E _ (fi.cx so ctr rm) (hc Φ ρ) fun xv s₁ x1 r1 => vint r1 fun t => ?_))))
  have fi1 := fi.ext x1
  obtain ⟨_, vs, k, hp, hr⟩ := fi1.vis x i hy.1 _ hx
  have hln := hr.length
  rw [Array.length_toList] at hln
  have hpos : 0 < xs.length := List.length_pos_iff.mpr fun z => by rw [z] at sz; cases sz.1
  have hs1 : vs.size ≤ sizeLine := by rw [hln]; exact Nat.le_trans (szOk_le sz.2) (by decide)
  have key : ∀ j : Nat, seqIndex? (if last then -1 else 0) vs.size = some j → xs.eraseIdx j = (if last then xs.dropLast else xs.tail) → j < vs.size →
      wpAny (model W.prog W.w) A (delItem (.ref (own i)) (.int (if last then -1 else 0) t)) (fun _ s₁ => wpAny (model W.prog W.w) A (deleteEach [] env) (fun _ s₁ => Q .next s₁) E s₁) E s₁ := fun j hj hx' hlt => by
    refine wpAny_delItem_plain ⟨k, hp⟩ (by cases last <;> rfl) hj (fun h' hp' hsb => ?_) hs1
    obtain ⟨k', hp'⟩ := hp'
    refine wpAny_deleteEach_nil ?_
    obtain ⟨fi2, st2⟩ := fi1.mut (tk := s₁.toks) so hy.1 hx hsb.extBut hp' (ys := xs.eraseIdx j) (by
      rw [Array.eraseIdxIfInBounds, dif_pos hlt, Array.toList_eraseIdx]
      exact hr.eraseIdx j)
    rw [hx'] at fi2
    exact ct_of h (congrArg some e) fi2 ((Stp.of_SX x1).trans st2) trivial
  clear h hp hr fi1 hx hv
  cases last with
  | false =>
    refine key 0 ?_ List.eraseIdx_zero (hln ▸ hpos)
    show (if (decide ((0 : Int) ≤ 0) && decide ((0 : Int) < (vs.size : Int))) = true then some (0 : Int).toNat else none) = some 0
    rw [if_pos (by rw [Bool.and_eq_true, decide_eq_true_eq, decide_eq_true_eq]; lia)]; rfl
  | true =>
    refine key (vs.size - 1) ?_ ?_ (Nat.sub_lt (hln ▸ hpos) Nat.one_pos)
    · have e1 : (if (-1 : Int) < 0 then (-1 : Int) + (vs.size : Int) else -1) = ((vs.size - 1 : Nat) : Int) := by rw [if_pos (by decide)]; lia
      show (if (decide (0 ≤ (if (-1 : Int) < 0 then (-1 : Int) + (vs.size : Int) else -1)) && decide ((if (-1 : Int) < 0 then (-1 : Int) + (vs.size : Int) else -1) < (vs.size : Int))) = true then some (if (-1 : Int) < 0 then (-1 : Int) + (vs.size : Int) else -1).toNat else none) = _
      rw [e1, if_pos (by rw [Bool.and_eq_true, decide_eq_true_eq, decide_eq_true_eq]; lia)]; rfl
    · rw [hln]; exact List.eraseIdx_length_sub_one
end
end Mine
end
section
open PySem PySem.W PyProof.Rows
set_option maxRecDepth 4000
namespace Mine

section
variable {W : Wd} {Γ : Gam} {sc : Scope}

theorem s_stuck {st : Stmt} : SndS W Γ sc st .stuck := fun n Φ fu A env s₀ s M₀ M own ρ ρ' f E Q ctr rm so fi e h => by
  cases e

noncomputable def isTup (e : Expr) : Bool := e.ctorIdx == 25
theorem swapped_no {es : List Expr} {k : Nat} {p : Pos} {x : Expr} {env : Env} (h : isTup x = false) : swappedStores [.Tuple es k p] x env = pure none := by
  cases x <;> first | rfl | cases h

theorem sole_no {es : List Expr} {k : Nat} {p : Pos} {x : Expr} {env : Env} {line : Nat} : swapsWithSole [.Tuple es k p] x line env = pure false := by
  cases x <;> rfl

theorem s_asgT {es : List Expr} {is : List Nat} {k : Nat} {p q : Pos} {x : Expr} {c : CE} (H : Nms Γ sc es is) (ht : isTup x = false) (hx : SndE W Γ sc x c) : SndS W Γ sc (.Assign [.Tuple es k p] x q) (.asgT is c) := fun n Φ fu A env s₀ s M₀ M own ρ ρ' f E Q ctr rm so fi e h => by
  obtain ⟨v, e1, e⟩ := b_inv e
  obtain ⟨d, e2, e⟩ := b_inv e
  obtain ⟨ρ₁, e3, e⟩ := b_inv e
  rw [toD_eq e2] at e1
  refine Assign_Tuple (hx n Φ A s env M ρ _ E _ (fi.cx so ctr rm) e1 fun xv s₁ x1 r1 => ?_) sole_no (swapped_no ht)
  exact take_T H A env s₀ s₁ M₀ M own ρ ρ₁ xv d E _ rm.handled so (fi.ext x1) r1 e3 fun s' fi' st' => ct_of h e fi' ((Stp.of_SX x1).trans st') trivial

noncomputable def swN (kind : Str → Option NameKind) (ts : List Expr) : List Str :=
  let line := (ts.head?.map (·.pos.line)).getD 0
  ts.filterMap fun
    | .Name id pos => if kind id == some .local && pos.line == line then some id else none
    | _ => none
noncomputable def swNames (sc : Scope) (ts : List Expr) : List Str := swN (fun id => sc.names.lookup id) ts

noncomputable def swOk (sc : Scope) (ts vs : List Expr) : Bool :=
  (ts.length == 2 || ts.length == 3) && vs.length == ts.length && !(vs.any fun | .Starred .. => true | _ => false) && (swNames sc ts).length == ts.length && (swNames sc ts).eraseDups.length == (swNames sc ts).length &&
    !(vs.all (foldedForSure 8)) && !(vs.all (constantsAlone 8))

theorem swapped_yes {ts vs : List Expr} {k k' : Nat} {p p' : Pos} {env : Env} (ek : EnvOk env sc) (h : swOk sc ts vs = true) : swappedStores [.Tuple ts k p] (.Tuple vs k' p') env = pure (some (swNames sc ts)) := by
  have hk : env.blockKind = .function := by unfold Env.blockKind; rw [scope_fn ek]; rfl
  have hsc := ek.scope
  have an : ∀ {a b : Bool}, (a && b) = true → a = true ∧ b = true := fun h => Bool.and_eq_true_iff.mp h
  have nt : ∀ {a : Bool}, (!a) = true → a = false := fun h => by rw [← Bool.not_eq_true']; exact h
  obtain ⟨h, h7⟩ := an h
  obtain ⟨h, h6⟩ := an h
  obtain ⟨h, h5⟩ := an h
  obtain ⟨h, h4⟩ := an h
  obtain ⟨h, h3⟩ := an h
  obtain ⟨h1, h2⟩ := an h
  have h7 := nt h7
  have h6 := nt h6
  have h3 := nt h3
  have h2 := eq_of_beq h2
  have h4 := eq_of_beq h4
  have h5 := eq_of_beq h5
  have hn : swN env.kindOf ts = swNames sc ts := congrArg (swN · ts) (funext fun id => kindOf_eq ek id)
  have e1 : (!(ts.length == 2 || ts.length == 3) || vs.length != ts.length || env.blockKind != .function) = false := by
    rw [h1, hk, h2]; simp
  refine (if_neg (c := (!(ts.length == 2 || ts.length == 3) || vs.length != ts.length || env.blockKind != .function) = true) (fun z => Bool.false_ne_true (e1.symm.trans z))).trans ?_
  refine (if_neg (fun z => Bool.false_ne_true (h3.symm.trans z))).trans ?_
  show (if ((swN env.kindOf ts).length != ts.length || (swN env.kindOf ts).eraseDups.length != (swN env.kindOf ts).length) = true then _ else _) = _
  rw [hn]
  refine (if_neg (by rw [h5]; simp [h4])).trans ?_
  refine (if_neg (by rw [h6]; exact Bool.false_ne_true)).trans ?_
  refine (if_neg (by rw [h7]; exact Bool.false_ne_true)).trans ?_
  exact congrArg (fun z => pure (some z)) hn

inductive Nms2 (Γ : Gam) (sc : Scope) : List Str → List Nat → Prop
  | nil : Nms2 Γ sc [] []
  | cons {y : Str} {i : Nat} {ys : List Str} {is : List Nat} : NmOk Γ sc y i → Nms2 Γ sc ys is → Nms2 Γ sc (y :: ys) (i :: is)
theorem Nms2.length {ys : List Str} {is : List Nat} (H : Nms2 Γ sc ys is) : ys.length = is.length := by
  induction H with
  | nil => rfl
  | cons _ _ ih => simp [ih]

theorem put_all2 {ys : List Str} {is : List Nat} (H : Nms2 Γ sc ys is) : ∀ {A : Around} {env : Env} {s₀ s : Shared} {M₀ M : List Addr} {own : Nat → Addr} {ρ ρ' : Ev} {vs : List Value} {ds : List PyData} {E : Value → Shared → Prop} {Q : Unit → Shared → Prop},
    SOk Γ sc env → FI W Γ sc s₀ env M₀ own M ρ s → Reps s.heap M vs ds → putAll is ds ρ = some ρ' →
    (∀ s', FI W Γ sc s₀ env M₀ own M ρ' s' → Stp M₀ M s M s' → Q () s') → wpAny (model W.prog W.w) A (assignInOrder (ys.map fun n => bindName env n) vs) Q E s := by
  induction H with
  | nil =>
    intro A env s₀ s M₀ M own ρ ρ' vs ds E Q so fi r e h
    obtain ⟨q, e⟩ := if_inv e
    rw [← e] at h
    rw [List.isEmpty_iff.mp q] at r
    have r := r.length
    rw [List.length_eq_zero_iff.mp r]
    exact wpAny_pure (h _ fi Stp.refl)
  | @cons y i ys is hy _ ih =>
    intro A env s₀ s M₀ M own ρ ρ' vs ds E Q so fi r e h
    cases ds with
    | nil => cases e
    | cons d ds =>
      cases r with
      | @cons v vs _ _ r1 r2 =>
        refine wpAny_bind (wpAny_holding (wpAny_bindName (FI.store so fi hy.1 hy.2 (.inl ⟨.d d, rfl, rfl, r1⟩) fun s' fi' st' => ?_)))
        exact ih so fi' (r2.mono (fun b o hb e n => st'.keep b o (.inl hb) e n) fun a ha => .inl ha) e fun s'' fi'' st'' => h _ fi'' (st'.trans st'')

theorem s_asgS {ts vs : List Expr} {is : List Nat} {k k' : Nat} {p p' q : Pos} {c : CE} (hs : swOk sc ts vs = true) (H : Nms2 Γ sc (swNames sc ts).reverse is) (hx : SndE W Γ sc (.Tuple vs k' p') c) : SndS W Γ sc (.Assign [.Tuple ts k p] (.Tuple vs k' p') q) (.asgS is c) := fun n Φ fu A env s₀ s M₀ M own ρ ρ' f E Q ctr rm so fi e h => by
  obtain ⟨v, e1, e⟩ := b_inv e
  obtain ⟨d, e2, e⟩ := b_inv e
  obtain ⟨xs, e3, e⟩ := b_inv e
  obtain ⟨ρ₁, e4, e⟩ := b_inv e
  obtain ⟨e3, hl⟩ := parts_inv e3
  rw [toD_eq e2, e3] at e1
  clear e2 e3
  refine Assign_Tuple_swapped (names := swNames sc ts) (hx n Φ A s env M ρ _ E _ (fi.cx so ctr rm) e1 fun xv s₁ x1 r1 => ?_) sole_no (swapped_yes so.ek hs)
  refine vtup r1 fun l ws m _ h2 h3 => ?_
  have hsz : (swNames sc ts).length = ws.size := by rw [← List.length_reverse, H.length, ← hl, ← h3.length, Array.length_toList]
  rw [hsz]
  refine unpackItems_tuple rm.handled ⟨_, h2, rfl, _, rfl⟩ fun h' hb => ?_
  have x2 : SX W s₁ { s₁ with heap := h' } := SX.heap x1.good fun b o e => hb b o (fun q => by rw [q, fresh_none] at e; cases e) e
  exact put_all2 H so ((fi.ext x1).ext x2) (h3.ext x2).reverse e4 fun s' fi' st' => ct_of h e fi' ((Stp.of_SX (x1.trans x2)).trans st') trivial

theorem s_forR {y x : Str} {i : Nat} {p p2 pos q : Pos} {a : Expr} {c : CE} {b : List Stmt} {cb : List CS} (hy : NmOk Γ sc y i) (ho : okName x = true) (hk : sc.names.lookup x = some .globalImplicit) (hf : (x, Value.type "reversed") ∈ W.blts)
    (hst : isStar a = false) (ha : SndE W Γ sc a c) (hb : SndBl W Γ sc b cb) : SndS W Γ sc (.For (.Name y p) (.Call (.Name x p2) [a] [] pos) b [] q) (.forR i c cb) := fun n Φ fu A env s₀ s M₀ M own ρ ρ' f E Q ctr rm so fi e h => by
  obtain ⟨v, e1, e⟩ := b_inv e
  obtain ⟨xs, e2, e⟩ := b_inv e
  obtain ⟨sz, e⟩ := ib_inv e
  rw [asLst_eq e2] at e1
  have H' : SndL W Γ sc [a] [c] := .cons hst ha .nil
  refine wpAny_For (callee_in fi.x.good so.ek ho hk (.inr (W.bltG _ hf)) (callWith_prim (first := []) H' (.inr ⟨_, rfl⟩) (snd_evalArgs H' (fi.cx so ctr rm) (xs := [.d (.list xs)]) (b_of e1 rfl) fun vals s₁ x1 r1 => ?_)))
  obtain ⟨w, hw, ra⟩ := vr1 r1
  rw [hw]
  refine vls ra fun l vs k hm h2 h3 => ?_
  have hne : l ≠ s₁.heap.objs.size := fun q => by rw [q, fresh_none] at h2; cases h2
  have hln := h3.length
  rw [Array.length_toList] at hln
  have W0 := Walks.listRev (prog := W.prog) (w := W.w) rm.handled s₁.heap.objs.size l hne vs
  rw [hln] at W0
  refine call_reversed_list ⟨_, h2, rfl, _, rfl⟩ ?_
  have hI : (s₁.heap.push (revObj l ((vs.size : Int) - 1))).IsRevIter s₁.heap.objs.size l ((vs.size : Int) - 1) := ⟨_, Heap.get?_push_size _ rfl, rfl, rfl⟩
  refine wpAny_pyIter_revIter hI ?_
  have T : Itr W A M s₁ { s₁ with heap := s₁.heap.push (revObj l ((vs.size : Int) - 1)) } s₁.heap.objs.size xs.reverse [s₁.heap.objs.size, l] (fun i v => vs[xs.length - 1 - i]? = some v)
      (fun i h => i ≤ xs.length ∧ h.IsRevIter s₁.heap.objs.size l ((xs.length : Int) - 1 - (i : Int)) ∧ h.IsList l vs) := by
    refine ⟨by rw [List.length_reverse]; exact W0, ⟨Nat.zero_le _, by rw [← hln]; simpa using hI, ⟨_, Heap.get?_push_of_some _ h2, rfl, _, rfl⟩⟩, fresh_none _, SX.push (tk := s₁.toks) x1.good, old2 hm h2 notTab_L, fun i v d hv hd => h3.pair hv ?_,
      fun i h o st e => st.2.1.elim fun o' q => soft_of q.1 (soft_it q.2.1 q.2.2 fun _ _ z => nomatch z) o e, fun i h st => st.2.1.elim fun o q => ⟨o, q.1⟩⟩
    have hlt := (List.getElem?_eq_some_iff.mp hd).1
    rw [List.length_reverse] at hlt
    rwa [List.getElem?_reverse hlt] at hd
  exact for_loop hb (take_one hy) ctr rm so (fi.ext x1) (T.toS x1.good) (fun _ _ _ _ _ _ _ hq => wpAny_pure hq) e fun own' M' s' fl fi' st' fr => h _ _ _ _ fi' ((Stp.of_SX x1).trans st') fr

/-- the generator function of the text, told by what its generator yields -/
noncomputable def GenSnd (W : Wd) (g : Str) : Prop :=
  ∃ a, W.mg g = some (.ref a) ∧ (∀ {h}, W.ok h → ∃ o fd, h.get? a = some o ∧ o.data = .func fd) ∧
    ∀ (n : Nat) (A : Around) (s : Shared) (M : List Addr) (x : Str) (t : Tok) (E : Value → Shared → Prop) (Q : Value → Shared → Prop), RoomN A n → Good W s → MOk s.heap M → (szOk x.length && PyData.strOk x) = true →
      (∀ I s' N fp St, ItS W A M s s' I (escG 0 false x.cps.toList) N fp St → (∀ i N s, St i N s → ∃ o, s.heap.get? I = some o ∧ o.cls = .type "generator") → Q (.ref I) s') →
      wpAny (model W.prog W.w) A (call (.ref a) [.str x t] []) (fun v s' => wpAny (model W.prog W.w) A (pyIter v) Q E s') E s

theorem go_gen {es : List Expr} {k : Nat} {p : Pos} {A : Around} {s : Shared} {I T : Addr} {Q : Unit → Shared → Prop} {E : Value → Shared → Prop} (hc : ∃ o, s.heap.get? I = some o ∧ o.cls = .type "generator") (h : Q () s) :
    wpAny (model W.prog W.w) A (letOwnedTupleGo (.Tuple es k p) (.ref I) (.ref T)) Q E s := by
  refine Classical.byContradiction fun hQ => ?_
  obtain ⟨o, ho, hcl⟩ := hc
  obtain ⟨cls, dict, data, slots⟩ := o
  (refine hQ ?_; clear hQ)
  cases hcl
  unfold letOwnedTupleGo
  refine wpAny_bind (wpAny_load ho ?_)
  cases data
  case fields vs =>
    dsimp only
    have e : (["enumerate", "zip", "dict_itemiterator", "dict_reverseitemiterator", "odict_iterator", "itertools.zip_longest", "itertools.pairwise"].contains "generator" && vs[0]? == some (rawInt T)) = false := by
      rw [show (["enumerate", "zip", "dict_itemiterator", "dict_reverseitemiterator", "odict_iterator", "itertools.zip_longest", "itertools.pairwise"].contains "generator") = false by decide]; rfl
    rw [if_neg (by rw [e]; exact Bool.false_ne_true)]
    exact wpAny_pure h
  all_goals exact wpAny_pure h

theorem s_forG {g : Str} {es : List Expr} {i j : Nat} {k : Nat} {p p2 pos q : Pos} {a : Expr} {c : CE} {b : List Stmt} {cb : List CS} (G : GenSnd W g) (H : Nms Γ sc es [i, j]) (ho : okName g = true) (hk : sc.names.lookup g = some .globalImplicit)
    (hst : isStar a = false) (ha : SndE W Γ sc a c) (hb : SndBl W Γ sc b cb) : SndS W Γ sc (.For (.Tuple es k p) (.Call (.Name g p2) [a] [] pos) b [] q) (.forG i j c cb) := fun n Φ fu A env s₀ s M₀ M own ρ ρ' f E Q ctr rm so fi e h => by
  obtain ⟨v, e1, e⟩ := b_inv e
  obtain ⟨x, e2, e⟩ := b_inv e
  obtain ⟨sz, e⟩ := ib_inv e
  rw [asStr_eq e2] at e1
  have H' : SndL W Γ sc [a] [c] := .cons hst ha .nil
  obtain ⟨ad, g1, g2, g3⟩ := G
  refine wpAny_For (callee_in fi.x.good so.ek ho hk (.inl g1) ?_)
  refine callWith_of (P := FnAt ad) (by rw [H'.plain]; rfl) keeps_F (snd_evalArgs H' (fi.cx so ctr rm) (xs := [.d (.str x)]) (b_of e1 rfl) fun vals s₁ x1 r1 => ⟨?_, ?_⟩)
  · exact (g2 x1.good.ok).elim fun o q => q.elim fun fd q => ⟨o.cls, o.dict, fd, o.slots, by rw [← q.2]; exact q.1⟩
  · obtain ⟨w, hw, ra⟩ := vr1 r1
    rw [hw]
    refine vstr ra fun t => ?_
    refine g3 n A s₁ M x t E (fun v s₂ => codeAny (model W.prog W.w) A (.forLoop (.Tuple es k p) v b [] env) (fun r s' => match r with | .ok f => Q f s' | .error e => cameBackBy (model W.prog W.w) A env E e s') s₂) rm x1.good (fi.mok.ext x1) sz fun I s₂ N fp St T hcl => ?_
    refine for_loop hb (take_T H) ctr rm so (fi.ext x1) T (fun i N s v Q E st hq => ?_) e fun own' M' s' fl fi' st' fr => h _ _ _ _ fi' ((Stp.of_SX x1).trans st') fr
    cases v with
    | ref T => exact go_gen (hcl i N s st) hq
    | _ => exact wpAny_pure hq
end
end Mine
end
section
open PySem PySem.W PyProof.Rows
set_option maxRecDepth 4000
namespace Mine

structure Cs where
  K : Cc
  own : List Str
  gen : Option Str

/-- the places that an expression uses whole -/
noncomputable def escE : Nat → CE → List Nat
  | 0, _ => []
  | n + 1, c => match c with
    | .lit _ => []
    | .var i => [i]
    | .bin _ a b => escE n a ++ escE n b
    | .un _ a => escE n a
    | .cmp _ a b => escE n a ++ escE n b
    | .cmp2 _ _ a b d => escE n a ++ escE n b ++ escE n d
    | .boolop _ a b => escE n a ++ escE n b
    | .ite t a b => escE n t ++ escE n a ++ escE n b
    | .list es => es.flatMap (escE n)
    | .tup es => es.flatMap (escE n)
    | .item (.var _) k => escE n k
    | .item a k => escE n a ++ escE n k
    | .slice (.var _) lo hi st => (lo.toList ++ hi.toList ++ st.toList).flatMap (escE n)
    | .slice a lo hi st => (a :: lo.toList ++ hi.toList ++ st.toList).flatMap (escE n)
    | .call _ es => es.flatMap (escE n)
    | .prim .len [.var _] => []
    | .prim _ es => es.flatMap (escE n)
    | .meth _ o es => (o :: es).flatMap (escE n)
    | .comp _ elt it ifs => (elt :: it :: ifs).flatMap (escE n)

noncomputable def escS : CS → List Nat
  | .asg _ e => escE 20 e
  | .own _ e => escE 20 e
  | .asgT _ e => escE 20 e
  | .asgS _ e => escE 20 e
  | .aug _ _ e => escE 20 e
  | .app _ e => escE 20 e
  | .ext _ e => escE 20 e
  | .put _ k e => escE 20 k ++ escE 20 e
  | .ret e => escE 20 e
  | .assert e => escE 20 e
  | .ite e _ _ => escE 20 e
  | .for1 _ e _ => escE 20 e
  | .forT _ e _ => escE 20 e
  | .forG _ _ e _ => escE 20 e
  | .forR _ e _ => escE 20 e
  | _ => []

noncomputable def ownIx (Γ : Gam) : List Str → List Nat
  | [] => []
  | y :: r => match Γ.vars.lookup y with
    | some i => i :: ownIx Γ r
    | none => ownIx Γ r

noncomputable def frzs (is : List Nat) (c : CS) (r : List CS) : List CS := (is.filter fun i => (escS c).contains i).foldr (fun i l => .frz i :: l) (c :: r)

noncomputable def nmIx (Γ : Gam) (sc : Scope) (y : Str) : Option Nat := if kindLC sc y then Γ.vars.lookup y else none
noncomputable def nmsIx (Γ : Gam) (sc : Scope) : List Expr → Option (List Nat)
  | [] => some []
  | e :: r => (nameOf e).bind fun y => (nmIx Γ sc y.1.1).bind fun i => (nmsIx Γ sc r).map (i :: ·)
noncomputable def nms2Ix (Γ : Gam) (sc : Scope) : List Str → Option (List Nat)
  | [] => some []
  | y :: r => (nmIx Γ sc y).bind fun i => (nms2Ix Γ sc r).map (i :: ·)

noncomputable def orStuck (c : Option CS) : CS := c.getD .stuck

/-! views: the forms that are compiled, each with its parts -/
inductive XV where
  | list (es : List Expr) (p : Pos)
  | tup (es : List Expr) (k : Nat) (p : Pos)
  | meth (o : Expr) (nm : Str) (apos : Pos) (a : Expr) (pos : Pos)
  | comp (elt : Expr) (z : Str) (pz : Pos) (iter : Expr) (ifs : List Expr) (asy : Int) (scope : Scope) (p : Pos)
  | fn1 (g : Str) (pg : Pos) (a : Expr) (pos : Pos)
  | other (e : Expr)
noncomputable def XV.e : XV → Expr
  | .list es p => .List es p
  | .tup es k p => .Tuple es k p
  | .meth o nm apos a pos => .Call (.Attribute o nm apos) [a] [] pos
  | .comp elt z pz iter ifs asy scope p => .ListComp elt [⟨.Name z pz, iter, ifs, asy⟩] scope p
  | .fn1 g pg a pos => .Call (.Name g pg) [a] [] pos
  | .other e => e
noncomputable def xview (e : Expr) : { v : XV // v.e = e } := match e with
  | .List es p => ⟨.list es p, rfl⟩
  | .Tuple es k p => ⟨.tup es k p, rfl⟩
  | .Call (.Attribute o nm apos) [a] [] pos => ⟨.meth o nm apos a pos, rfl⟩
  | .Call (.Name g pg) [a] [] pos => ⟨.fn1 g pg a pos, rfl⟩
  | .ListComp elt [⟨.Name z pz, iter, ifs, asy⟩] scope p => ⟨.comp elt z pz iter ifs asy scope p, rfl⟩
  | e => ⟨.other e, rfl⟩
inductive SV where
  | if_ (t : Expr) (a b : List Stmt) (p : Pos)
  | wh (t : Expr) (b : List Stmt) (p : Pos)
  | ret (x : Expr) (p : Pos)
  | asrt (t : Expr) (m : Option Expr) (p : Pos)
  | asgN (y : Str) (py : Pos) (x : Expr) (p : Pos)
  | asgT (ts : List Expr) (k : Nat) (pt : Pos) (x : Expr) (p : Pos)
  | aug (y : Str) (py : Pos) (op : Operator) (x : Expr) (p : Pos)
  | call (x : Str) (px : Pos) (nm : Str) (apos : Pos) (es : List Expr) (pos p : Pos)
  | del (x : Str) (px : Pos) (a : Expr) (ps p : Pos)
  | for1 (y : Str) (py : Pos) (it : Expr) (b : List Stmt) (p : Pos)
  | forT (es : List Expr) (k : Nat) (pt : Pos) (it : Expr) (b : List Stmt) (p : Pos)
  | other (st : Stmt)
noncomputable def SV.s : SV → Stmt
  | .if_ t a b p => .If t a b p
  | .wh t b p => .While t b [] p
  | .ret x p => .Return (some x) p
  | .asrt t m p => .Assert t m p
  | .asgN y py x p => .Assign [.Name y py] x p
  | .asgT ts k pt x p => .Assign [.Tuple ts k pt] x p
  | .aug y py op x p => .AugAssign (.Name y py) op x p
  | .call x px nm apos es pos p => .Expr (.Call (.Attribute (.Name x px) nm apos) es [] pos) p
  | .del x px a ps p => .Delete [.Subscript (.Name x px) a ps] p
  | .for1 y py it b p => .For (.Name y py) it b [] p
  | .forT es k pt it b p => .For (.Tuple es k pt) it b [] p
  | .other st => st
noncomputable def sview (st : Stmt) : { v : SV // v.s = st } := match st with
  | .If t a b p => ⟨.if_ t a b p, rfl⟩
  | .While t b [] p => ⟨.wh t b p, rfl⟩
  | .Return (some x) p => ⟨.ret x p, rfl⟩
  | .Assert t m p => ⟨.asrt t m p, rfl⟩
  | .Assign [.Name y py] x p => ⟨.asgN y py x p, rfl⟩
  | .Assign [.Tuple ts k pt] x p => ⟨.asgT ts k pt x p, rfl⟩
  | .AugAssign (.Name y py) op x p => ⟨.aug y py op x p, rfl⟩
  | .Expr (.Call (.Attribute (.Name x px) nm apos) es [] pos) p => ⟨.call x px nm apos es pos p, rfl⟩
  | .Delete [.Subscript (.Name x px) a ps] p => ⟨.del x px a ps p, rfl⟩
  | .For (.Name y py) it b [] p => ⟨.for1 y py it b p, rfl⟩
  | .For (.Tuple es k pt) it b [] p => ⟨.forT es k pt it b p, rfl⟩
  | st => ⟨.other st, rfl⟩

/-- an expression of which a new list is made -/
noncomputable def cFresh (K : Cc) (Γ : Gam) (sc : Scope) (x : Expr) : Option CE := match (xview x).1 with
  | .list es _ => (cL K 40 Γ sc es).map .list
  | .meth o nm apos a pos => if nm = Str.ofString "split" ∧ notSuper o = true ∧ (apos.endLine == pos.line) = true ∧ isStar a = false then
      (cE K 40 Γ sc o).bind fun co => (cE K 40 Γ sc a).map fun ca => .meth .split co [ca] else none
  | _ => none
noncomputable def asgPlain (C : Cs) (Γ : Gam) (sc : Scope) (i : Nat) (x : Expr) : Option CS := if noComp x = true then (cE C.K 40 Γ sc x).map fun c => .asg i c else none
noncomputable def asgName (C : Cs) (Γ : Gam) (sc : Scope) (i : Nat) (own : Bool) (x : Expr) : Option CS :=
  if own = true then (if noComp x = true then (cFresh C.K Γ sc x).map fun c => .own i c else none)
  else match (xview x).1 with
    | .comp elt z _ iter ifs asy scope _ => if asy = 0 ∧ compOk sc scope = true ∧ kindLC scope z = true ∧ isSet iter = false then
        (cE C.K 40 Γ sc iter).bind fun ci => (cE C.K 40 (gamIn Γ scope z) (relab scope sc) elt).bind fun ce => (cF C.K 40 (gamIn Γ scope z) (relab scope sc) ifs).map fun cf => .asg i (.comp 0 ce ci cf)
      else none
    | _ => asgPlain C Γ sc i x
noncomputable def asgTup (C : Cs) (Γ : Gam) (sc : Scope) (ts : List Expr) (x : Expr) : Option CS := match (xview x).1 with
  | .tup vs _ _ => if swOk sc ts vs = true then (nms2Ix Γ sc (swNames sc ts).reverse).bind fun is => (cE C.K 40 Γ sc x).map fun c => .asgS is c else none
  | _ => if isTup x = false then (nmsIx Γ sc ts).bind fun is => (cE C.K 40 Γ sc x).map fun c => .asgT is c else none
noncomputable def mcall1 (C : Cs) (Γ : Gam) (sc : Scope) (i : Nat) (nm : Str) (a : Expr) : Option CS :=
  if isStar a = true then none else if nm = Str.ofString "append" then (cE C.K 40 Γ sc a).map fun c => .app i c else if nm = Str.ofString "extend" then (cE C.K 40 Γ sc a).map fun c => .ext i c else none
noncomputable def mcall (C : Cs) (Γ : Gam) (sc : Scope) (x nm : Str) (ok : Bool) (es : List Expr) : Option CS :=
  if (ok && okName x) = true then (nmIx Γ sc x).bind fun i =>
    match es with
    | [] => if nm = Str.ofString "reverse" then some (.rev i) else none
    | a :: r => if r.isEmpty = true then mcall1 C Γ sc i nm a else none
  else none
noncomputable def isLit : CE → Option PyData
  | .lit x => some x
  | _ => none
noncomputable def isNeg : CE → Option CE
  | .un op a => if op.ctorIdx == 3 then some a else none
  | _ => none
noncomputable def litIs (c : CE) (k : Int) : Bool := ((isLit c).bind dInt) == some k
noncomputable def delLit (c : CE) : Option Bool := if litIs c 0 then some false else (isNeg c).bind fun a => if litIs a 1 then some true else none
noncomputable def delOf (C : Cs) (Γ : Gam) (sc : Scope) (x : Str) (a : Expr) : Option CS :=
  if okName x = true then (nmIx Γ sc x).bind fun i => (cE C.K 40 Γ sc a).bind fun c => (delLit c).map fun l => .delAt i l
  else none
noncomputable def augOf (C : Cs) (Γ : Gam) (sc : Scope) (y : Str) (op : Operator) (x : Expr) : Option CS :=
  if okName y = true then (nmIx Γ sc y).bind fun i => (cE C.K 40 Γ sc x).bind fun c => match op with
    | .Add => some (.aug false i c)
    | .Sub => some (.aug true i c)
    | _ => none
  else none
noncomputable def for1P (C : Cs) (Γ : Gam) (sc : Scope) (y : Str) (it : Expr) (b : List CS) : Option CS :=
  if isSet it = true then none else (nmIx Γ sc y).bind fun i => (cE C.K 40 Γ sc it).map fun c => .for1 i c b
noncomputable def for1Of (C : Cs) (Γ : Gam) (sc : Scope) (y : Str) (it : Expr) (b : List CS) : Option CS := match (xview it).1 with
  | .fn1 g _ a _ => if g = Str.ofString "reversed" ∧ isGlob sc g = true ∧ isStar a = false then (nmIx Γ sc y).bind fun i => (cE C.K 40 Γ sc a).map fun c => .forR i c b
      else for1P C Γ sc y it b
  | _ => for1P C Γ sc y it b
noncomputable def forTOf (C : Cs) (Γ : Gam) (sc : Scope) (es : List Expr) (it : Expr) (b : List CS) : Option CS := match (xview it).1 with
  | .fn1 g _ a _ => if C.gen = some g ∧ isGlob sc g = true ∧ isStar a = false then
        (nmsIx Γ sc es).bind fun is => (match is with
          | [i, j] => (cE C.K 40 Γ sc a).map fun c => .forG i j c b
          | _ => none) else none
  | .list xs _ => (nmsIx Γ sc es).bind fun is => (cL C.K 40 Γ sc xs).map fun c => .forT is (.list c) b
  | _ => none

structure Rs where
  S : Stmt → CS
  B : List Stmt → List CS
noncomputable def stS (C : Cs) (Γ : Gam) (sc : Scope) (r : Rs) (st : Stmt) : CS := match (sview st).1 with
  | .if_ t a b _ => orStuck ((cE C.K 40 Γ sc t).map fun ct => .ite ct (r.B a) (r.B b))
  | .wh t b _ => orStuck ((cE C.K 40 Γ sc t).map fun ct => .wh ct (r.B b))
  | .ret x _ => orStuck ((cE C.K 40 Γ sc x).map .ret)
  | .asrt t _ _ => orStuck ((cE C.K 40 Γ sc t).map .assert)
  | .asgN y _ x _ => orStuck ((nmIx Γ sc y).bind fun i => asgName C Γ sc i (C.own.contains y) x)
  | .asgT ts _ _ x _ => orStuck (asgTup C Γ sc ts x)
  | .aug y _ op x _ => orStuck (augOf C Γ sc y op x)
  | .call x _ nm apos es pos _ => orStuck (mcall C Γ sc x nm (apos.endLine == pos.line) es)
  | .del x _ a _ _ => orStuck (delOf C Γ sc x a)
  | .for1 y _ it b _ => orStuck (for1Of C Γ sc y it (r.B b))
  | .forT es _ _ it b _ => orStuck (forTOf C Γ sc es it (r.B b))
  | .other _ => .stuck
noncomputable def stBl (C : Cs) (Γ : Gam) (r : Rs) : List Stmt → List CS
  | [] => []
  | st :: rest => frzs (ownIx Γ C.own) (r.S st) (r.B rest)
noncomputable def rsN (C : Cs) (Γ : Gam) (sc : Scope) : Nat → Rs
  | 0 => ⟨fun _ => .stuck, fun _ => [.stuck]⟩
  | n + 1 => ⟨stS C Γ sc (rsN C Γ sc n), stBl C Γ (rsN C Γ sc n)⟩
noncomputable def cSt (C : Cs) (Γ : Gam) (sc : Scope) (n : Nat) (st : Stmt) : CS := (rsN C Γ sc n).S st
noncomputable def cBl (C : Cs) (Γ : Gam) (sc : Scope) (n : Nat) (sts : List Stmt) : List CS := (rsN C Γ sc n).B sts

structure COk (C : Cs) (W : Wd) : Prop where
  k : KOk C.K W
  gen : ∀ g, C.gen = some g → GenSnd W g

section
variable {W : Wd} {Γ : Gam} {sc : Scope} {C : Cs}

theorem nmIx_ok {y : Str} {i : Nat} (h : nmIx Γ sc y = some i) : NmOk Γ sc y i := by
  unfold nmIx at h
  split at h
  · rename_i q; exact ⟨h, kindLC_of q⟩
  · cases h
theorem nmsIx_ok : ∀ {es : List Expr} {is : List Nat}, nmsIx Γ sc es = some is → Nms Γ sc es is
  | [], is, h => by cases h; exact .nil
  | e :: r, is, h => by
    refine Classical.byContradiction fun hQ => ?_
    obtain ⟨⟨y, rfl⟩, _, h⟩ := b_inv h
    obtain ⟨i, h1, h2⟩ := b_inv h
    obtain ⟨js, h3, rfl⟩ := m_inv h2
    (refine hQ ?_; clear hQ)
    exact .cons (nmIx_ok h1) (nmsIx_ok h3)
theorem nms2Ix_ok : ∀ {es : List Str} {is : List Nat}, nms2Ix Γ sc es = some is → Nms2 Γ sc es is
  | [], is, h => by unfold nms2Ix at h; cases h; exact .nil
  | e :: r, is, h => by
    unfold nms2Ix at h
    obtain ⟨i, h1, h2⟩ := b_inv h
    obtain ⟨js, h3, rfl⟩ := Option.map_eq_some_iff.mp h2
    exact .cons (nmIx_ok h1) (nms2Ix_ok h3)

theorem ownIx_mem : ∀ {l : List Str} {i : Nat}, i ∈ ownIx Γ l → ∃ y, Γ.vars.lookup y = some i
  | [], i, h => by cases h
  | y :: r, i, h => by
    unfold ownIx at h
    split at h
    · rename_i j hj
      rcases List.mem_cons.mp h with e | h
      · subst e; exact ⟨y, hj⟩
      · exact ownIx_mem h
    · exact ownIx_mem h

theorem frzs_ok {is : List Nat} {c : CS} {st : Stmt} {sts : List Stmt} {cs : List CS} (hi : ∀ i ∈ is, ∃ y, Γ.vars.lookup y = some i) (h1 : SndS W Γ sc st c) (h2 : SndBl W Γ sc sts cs) : SndBl W Γ sc (st :: sts) (frzs is c cs) := by
  unfold frzs
  have hf : ∀ i ∈ is.filter fun i => (escS c).contains i, ∃ y, Γ.vars.lookup y = some i := fun i h => hi i (List.mem_filter.mp h).1
  generalize is.filter (fun i => (escS c).contains i) = l at hf ⊢
  induction l with
  | nil => exact bl_cons h1 h2
  | cons i r ih =>
    obtain ⟨y, hy⟩ := hf i List.mem_cons_self
    exact bl_frz hy (ih fun j hj => hf j (List.mem_cons_of_mem _ hj))

theorem orStuck_ok {st : Stmt} {o : Option CS} (h : ∀ c, o = some c → SndS W Γ sc st c) : SndS W Γ sc st (orStuck o) := by
  cases o with
  | none => exact s_stuck
  | some c => exact h c rfl

theorem if2_inv {α : Type} {c : Prop} [Decidable c] {o p : Option α} {b : α} (h : (if c then o else p) = some b) : (c ∧ o = some b) ∨ (¬ c ∧ p = some b) := by
  by_cases q : c
  · rw [if_pos q] at h; exact .inl ⟨q, h⟩
  · rw [if_neg q] at h; exact .inr ⟨q, h⟩
theorem litIs_eq {c : CE} {k : Int} (h : litIs c k = true) : c = .lit (.int k) := by
  have h := eq_of_beq h
  obtain ⟨d, h1, h2⟩ := b_inv h
  rw [← dInt_eq h2]
  cases c <;> first | exact congrArg CE.lit (Option.some.inj h1) | cases h1
theorem isNeg_eq {c a : CE} (h : isNeg c = some a) : c = .un .USub a := by
  cases c with
  | un op b =>
    obtain ⟨q, h⟩ := if_inv h
    rw [h]
    cases op <;> first | rfl | cases q
  | _ => cases h
theorem delLit_ok {c : CE} {l : Bool} (h : delLit c = some l) (Φ : Fns) (ρ : Ev) : ceval Φ c ρ = some (.d (.int (if l then -1 else 0))) := by
  rcases if2_inv h with ⟨q, h⟩ | ⟨_, h⟩
  · rw [← Option.some.inj h, litIs_eq q]; rfl
  · obtain ⟨a, h1, h⟩ := b_inv h
    obtain ⟨q, h⟩ := if_inv h
    rw [← h, isNeg_eq h1, litIs_eq q]; rfl
section
variable (ok : COk C W)
include ok
theorem RK : RcOk C.K W (rcN C.K 40) := rcN_ok ok.k 40
theorem cFresh_ok {x : Expr} {c : CE} (h : cFresh C.K Γ sc x = some c) : SndF W Γ sc x c := by
  unfold cFresh at h
  generalize xview x = v at h
  obtain ⟨v, rfl⟩ := v
  cases v
  case list =>
    obtain ⟨cs, h1, rfl⟩ := m_inv h
    exact sf_list ((RK ok).L h1)
  case meth =>
    refine Classical.byContradiction fun hQ => ?_
    obtain ⟨⟨q1, q2, q3, q4⟩, g⟩ := ib_inv h
    clear h
    subst q1
    obtain ⟨co, h1, h2⟩ := b_inv g
    obtain ⟨ca, h3, rfl⟩ := m_inv h2
    (refine hQ ?_; clear hQ)
    exact sf_split q2 q3 q4 ((RK ok).E h1) ((RK ok).E h3)
  all_goals cases h
theorem asgPlain_ok {y : Str} {i : Nat} {x : Expr} {c : CS} {p q : Pos} (hy : NmOk Γ sc y i) (h : asgPlain C Γ sc i x = some c) : SndS W Γ sc (.Assign [.Name y p] x q) c := by
  obtain ⟨hn, h⟩ := ib_inv h
  obtain ⟨c', h1, rfl⟩ := m_inv h
  exact s_asg hy hn ((RK ok).E h1)
theorem asgName_ok {y : Str} {i : Nat} {b : Bool} {x : Expr} {c : CS} {p q : Pos} (hy : NmOk Γ sc y i) (h : asgName C Γ sc i b x = some c) : SndS W Γ sc (.Assign [.Name y p] x q) c := by
  rcases if2_inv h with ⟨_, h⟩ | ⟨_, h⟩
  · obtain ⟨hn, h⟩ := ib_inv h
    obtain ⟨c', h1, rfl⟩ := m_inv h
    exact s_own hy hn (cFresh_ok ok h1)
  · generalize xview x = v at h
    obtain ⟨v, rfl⟩ := v
    cases v
    case comp =>
      refine Classical.byContradiction fun hQ => ?_
      obtain ⟨⟨q1, q2, q3, q4⟩, g⟩ := ib_inv h
      clear h
      subst q1
      obtain ⟨ci, h1, h⟩ := b_inv g
      obtain ⟨ce, h2, h⟩ := b_inv h
      obtain ⟨cf, h3, rfl⟩ := m_inv h
      (refine hQ ?_; clear hQ)
      exact s_asg_comp hy (CompOk.of q2) (kindLC_of q3) q4 ((RK ok).E h1) ((RK ok).E h2) ((RK ok).F h3)
    all_goals exact asgPlain_ok ok hy h
theorem asgTupP_ok {ts : List Expr} {k : Nat} {x : Expr} {c : CS} {p q : Pos} (h : (if isTup x = false then (nmsIx Γ sc ts).bind fun is => (cE C.K 40 Γ sc x).map fun c => CS.asgT is c else none) = some c) : SndS W Γ sc (.Assign [.Tuple ts k p] x q) c := by
  refine Classical.byContradiction fun hQ => ?_
  obtain ⟨hn, h⟩ := ib_inv h
  obtain ⟨is, h1, h⟩ := b_inv h
  obtain ⟨c', h2, rfl⟩ := m_inv h
  (refine hQ ?_; clear hQ)
  exact s_asgT (nmsIx_ok h1) hn ((RK ok).E h2)
theorem asgTup_ok {ts : List Expr} {k : Nat} {x : Expr} {c : CS} {p q : Pos} (h : asgTup C Γ sc ts x = some c) : SndS W Γ sc (.Assign [.Tuple ts k p] x q) c := by
  unfold asgTup at h
  generalize xview x = v at h
  obtain ⟨v, rfl⟩ := v
  cases v
  case tup =>
    refine Classical.byContradiction fun hQ => ?_
    obtain ⟨hs, h⟩ := ib_inv h
    obtain ⟨is, h1, h⟩ := b_inv h
    obtain ⟨c', h2, rfl⟩ := m_inv h
    (refine hQ ?_; clear hQ)
    exact s_asgS hs (nms2Ix_ok h1) ((RK ok).E h2)
  all_goals exact asgTupP_ok ok h
theorem mcall_ok {x nm : Str} {px apos pos q : Pos} {es : List Expr} {c : CS} (h : mcall C Γ sc x nm (apos.endLine == pos.line) es = some c) : SndS W Γ sc (.Expr (.Call (.Attribute (.Name x px) nm apos) es [] pos) q) c := by
  refine Classical.byContradiction fun hQ => ?_
  obtain ⟨hn, g⟩ := ib_inv h
  clear h
  rw [Bool.and_eq_true] at hn
  obtain ⟨i, h1, g2⟩ := b_inv g
  (refine hQ ?_; clear hQ)
  clear g
  have hy := nmIx_ok h1
  cases es with
  | nil =>
    obtain ⟨q, g3⟩ := if_inv g2
    clear g2
    subst q
    subst g3
    exact s_rev hn.2 hn.1 hy
  | cons a r =>
    obtain ⟨q, g3⟩ := ib_inv g2
    clear g2
    obtain rfl := List.isEmpty_iff.mp q
    obtain ⟨hst, g4⟩ := ni_inv g3
    clear g3
    rcases if2_inv g4 with ⟨q, g5⟩ | ⟨_, g5⟩
    · clear g4
      subst q
      obtain ⟨c', h2, rfl⟩ := m_inv g5
      exact s_app hn.2 hn.1 hst ((RK ok).E h2) hy
    · clear g4
      obtain ⟨q, g6⟩ := ib_inv g5
      clear g5
      subst q
      obtain ⟨c', h2, rfl⟩ := m_inv g6
      exact s_ext hn.2 hn.1 hst ((RK ok).E h2) hy
theorem delOf_ok {x : Str} {px p q : Pos} {a : Expr} {c : CS} (h : delOf C Γ sc x a = some c) : SndS W Γ sc (.Delete [.Subscript (.Name x px) a p] q) c := by
  refine Classical.byContradiction fun hQ => ?_
  obtain ⟨ho, h⟩ := ib_inv h
  obtain ⟨i, h1, h⟩ := b_inv h
  obtain ⟨c', h2, h⟩ := b_inv h
  obtain ⟨l, h3, rfl⟩ := m_inv h
  (refine hQ ?_; clear hQ)
  exact s_del (last := l) ho ((RK ok).E h2) (fun Φ ρ => delLit_ok h3 Φ ρ) (nmIx_ok h1)
theorem augOf_ok {y : Str} {op : Operator} {x : Expr} {c : CS} {py p : Pos} (h : augOf C Γ sc y op x = some c) : SndS W Γ sc (.AugAssign (.Name y py) op x p) c := by
  refine Classical.byContradiction fun hQ => ?_
  obtain ⟨ho, h⟩ := ib_inv h
  obtain ⟨i, h1, h⟩ := b_inv h
  obtain ⟨c', h2, h⟩ := b_inv h
  (refine hQ ?_; clear hQ)
  cases op <;> try (cases h; done)
  · cases h; exact s_aug (neg := false) ho (nmIx_ok h1) ((RK ok).E h2)
  · cases h; exact s_aug (neg := true) ho (nmIx_ok h1) ((RK ok).E h2)
section
variable {b : List Stmt} {cb : List CS} (hb : SndBl W Γ sc b cb)
include hb
theorem for1P_ok {y : Str} {it : Expr} {c : CS} {py p : Pos} (h : for1P C Γ sc y it cb = some c) : SndS W Γ sc (.For (.Name y py) it b [] p) c := by
  refine Classical.byContradiction fun hQ => ?_
  obtain ⟨hs, h⟩ := ni_inv h
  obtain ⟨i, h1, h⟩ := b_inv h
  obtain ⟨c', h2, rfl⟩ := m_inv h
  (refine hQ ?_; clear hQ)
  exact s_for1 (nmIx_ok h1) hs ((RK ok).E h2) hb
theorem for1Of_ok {y : Str} {it : Expr} {c : CS} {py p : Pos} (h : for1Of C Γ sc y it cb = some c) : SndS W Γ sc (.For (.Name y py) it b [] p) c := by
  unfold for1Of at h
  generalize xview it = v at h
  obtain ⟨v, rfl⟩ := v
  cases v
  case fn1 =>
    rcases if2_inv h with ⟨⟨q1, q2, q3⟩, h⟩ | ⟨_, h⟩
    · refine Classical.byContradiction fun hQ => ?_
      obtain ⟨i, h1, h⟩ := b_inv h
      obtain ⟨c', h2, rfl⟩ := m_inv h
      (refine hQ ?_; clear hQ)
      clear h
      subst q1
      exact s_forR (nmIx_ok h1) (isGlob_of q2).1 (isGlob_of q2).2 (by rw [ok.k.blts]; exact List.mem_of_getElem? (i := 8) rfl) q3 ((RK ok).E h2) hb
    · exact for1P_ok ok hb h
  all_goals exact for1P_ok ok hb h
theorem forTOf_ok {es : List Expr} {k : Nat} {it : Expr} {c : CS} {pt p : Pos} (h : forTOf C Γ sc es it cb = some c) : SndS W Γ sc (.For (.Tuple es k pt) it b [] p) c := by
  unfold forTOf at h
  generalize xview it = v at h
  obtain ⟨v, rfl⟩ := v
  cases v
  case fn1 =>
    refine Classical.byContradiction fun hQ => ?_
    obtain ⟨⟨q1, q2, q3⟩, h⟩ := ib_inv h
    obtain ⟨is, h1, h⟩ := b_inv h
    (refine hQ ?_; clear hQ)
    rcases is with _ | ⟨i, _ | ⟨j, _ | ⟨_, _⟩⟩⟩ <;> try (cases h; done)
    obtain ⟨c', h2, rfl⟩ := m_inv h
    exact s_forG (ok.gen _ q1) (nmsIx_ok h1) (isGlob_of q2).1 (isGlob_of q2).2 q3 ((RK ok).E h2) hb
  case list =>
    refine Classical.byContradiction fun hQ => ?_
    obtain ⟨is, h1, h⟩ := b_inv h
    obtain ⟨c', h2, rfl⟩ := m_inv h
    (refine hQ ?_; clear hQ)
    refine s_forT (nmsIx_ok h1) rfl (fun Φ ρ v e => ?_) (snd_list ((RK ok).L h2)) hb
    obtain ⟨xs, _, e⟩ := b_inv e
    exact ⟨xs, (if_inv e).2.symm⟩
  all_goals cases h
end
structure RsOk (W : Wd) (Γ : Gam) (sc : Scope) (r : Rs) : Prop where
  S : ∀ st, SndS W Γ sc st (r.S st)
  B : ∀ sts, SndBl W Γ sc sts (r.B sts)
theorem stS_ok {r : Rs} (R : RsOk W Γ sc r) (st : Stmt) : SndS W Γ sc st (stS C Γ sc r st) := by
  unfold stS
  generalize sview st = v
  obtain ⟨v, rfl⟩ := v
  cases v
  case if_ => exact orStuck_ok fun c h => by obtain ⟨c', h1, rfl⟩ := m_inv h; exact s_if ((RK ok).T h1) (R.B _) (R.B _)
  case wh => exact orStuck_ok fun c h => by obtain ⟨c', h1, rfl⟩ := m_inv h; exact s_while ((RK ok).T h1) (R.B _)
  case ret => exact orStuck_ok fun c h => by obtain ⟨c', h1, rfl⟩ := m_inv h; exact s_ret ((RK ok).E h1)
  case asrt => exact orStuck_ok fun c h => by obtain ⟨c', h1, rfl⟩ := m_inv h; exact s_assert ((RK ok).T h1)
  case asgN => exact orStuck_ok fun c h => by obtain ⟨i, h1, h2⟩ := b_inv h; exact asgName_ok ok (nmIx_ok h1) h2
  case asgT => exact orStuck_ok fun c h => asgTup_ok ok h
  case aug => exact orStuck_ok fun c h => augOf_ok ok h
  case call => exact orStuck_ok fun c h => mcall_ok ok h
  case del => exact orStuck_ok fun c h => delOf_ok ok h
  case for1 => exact orStuck_ok fun c h => for1Of_ok ok (R.B _) h
  case forT => exact orStuck_ok fun c h => forTOf_ok ok (R.B _) h
  case other => exact s_stuck
theorem rsN_ok : ∀ n, RsOk W Γ sc (rsN C Γ sc n)
  | 0 => ⟨fun _ => s_stuck, fun _ n Φ fu A env s₀ s M₀ M own ρ ρ' f E Q ctr rm so fi e h => nomatch (show (none : Option (Ev × Fl)) = some _ from e)⟩
  | n + 1 => ⟨stS_ok ok (rsN_ok n), fun sts => by
    cases sts with
    | nil => exact bl_nil
    | cons st r => exact frzs_ok (fun i h => ownIx_mem h) ((rsN_ok n).S _) ((rsN_ok n).B _)⟩
theorem cSt_sound (n : Nat) : (∀ st, SndS W Γ sc st (cSt C Γ sc n st)) ∧ (∀ sts, SndBl W Γ sc sts (cBl C Γ sc n sts)) := ⟨(rsN_ok ok n).S, (rsN_ok ok n).B⟩
end
end
end Mine
end
section
open PySem PySem.W PyProof.Rows
set_option maxRecDepth 4000
namespace Mine

theorem bindL_out {k : Str → Option NameKind} {y : Str} : ∀ (b : List (Str × Value)) (m : Str → Option Value), (∀ p ∈ b, p.1 ≠ y) → bindL k b m y = m y
  | [], _, _ => rfl
  | (n, v) :: r, m, h => by
    unfold bindL
    rw [bindL_out r _ fun p hp => h p (List.mem_cons_of_mem _ hp)]
    by_cases q : k n = some .local
    · rw [if_pos q]
      exact if_neg fun e => h (n, v) List.mem_cons_self e.symm
    · rw [if_neg q]
theorem bindC_out {k : Str → Option NameKind} {y : Str} : ∀ (b : List (Str × Value)) (m : Str → Option Value), (∀ p ∈ b, p.1 ≠ y) → bindC k b m y = m y
  | [], _, _ => rfl
  | (n, v) :: r, m, h => by
    unfold bindC
    rw [bindC_out r _ fun p hp => h p (List.mem_cons_of_mem _ hp)]
    by_cases q : k n = some .local
    · rw [if_pos q]
    · rw [if_neg q]
      exact if_neg fun e => h (n, v) List.mem_cons_self e.symm

theorem zip_out {y : Str} : ∀ {ps : List Str} {vs : List Value}, y ∉ ps → ∀ p ∈ ps.zip vs, p.1 ≠ y
  | [], _, _, p, hp => by simp at hp
  | x :: ps, [], _, p, hp => by simp at hp
  | x :: ps, v :: vs, h, p, hp => by
    rcases List.mem_cons.mp hp with e | hp
    · subst e; intro e; exact h (by rw [← e]; exact List.mem_cons_self)
    · exact zip_out (fun q => h (List.mem_cons_of_mem _ q)) p hp

theorem bind_at {k : Str → Option NameKind} : ∀ {ps : List Str} {vs : List Value} {m : Str → Option Value} {i : Nat} {y : Str} {v : Value}, ps.Nodup → ps[i]? = some y → vs[i]? = some v →
    (k y = some .local → bindL k (ps.zip vs) m y = some v) ∧ (k y ≠ some .local → bindC k (ps.zip vs) m y = some v)
  | [], _, _, i, y, v, _, h, _ => by simp at h
  | _ :: _, [], _, i, y, v, _, _, h => by simp at h
  | x :: ps, w :: vs, m, 0, y, v, nd, h1, h2 => by
    simp at h1 h2
    subst h1 h2
    have hn := (List.nodup_cons.mp nd).1
    refine ⟨fun hk => ?_, fun hk => ?_⟩
    · show bindL k (ps.zip vs) (if k x = some .local then fun y => if y = x then some w else m y else m) x = some w
      rw [bindL_out _ _ (zip_out hn), if_pos hk]; simp
    · show bindC k (ps.zip vs) (if k x = some .local then m else fun y => if y = x then some w else m y) x = some w
      rw [bindC_out _ _ (zip_out hn), if_neg hk]; simp
  | x :: ps, w :: vs, m, i + 1, y, v, nd, h1, h2 => by
    simp at h1 h2
    exact ⟨fun hk => (bind_at (List.nodup_cons.mp nd).2 h1 h2).1 hk, fun hk => (bind_at (List.nodup_cons.mp nd).2 h1 h2).2 hk⟩

noncomputable def numbered : List Str → Nat → List (Str × Nat)
  | [], _ => []
  | x :: r, n => (x, n) :: numbered r (n + 1)
theorem numbered_get {y : Str} {i : Nat} : ∀ {l : List Str} {n : Nat}, (numbered l n).lookup y = some i → n ≤ i ∧ l[i - n]? = some y
  | [], _, h => by simp [numbered] at h
  | x :: r, n, h => by
    unfold numbered at h
    rw [List.lookup_cons] at h
    cases q : y == x with
    | true => rw [q] at h; cases h; have := eq_of_beq q; subst this; simp
    | false =>
      rw [q] at h
      obtain ⟨h1, h2⟩ := numbered_get h
      refine ⟨by lia, ?_⟩
      have : i - n = (i - (n + 1)) + 1 := by lia
      rw [this]
      simpa using h2

noncomputable def gamOf (ns : List Str) : Gam := { vars := numbered ns 0, size := ns.length }

/-- what a function of the text must be, by its scope: ps its parameters, ns all its own names -/
structure FnOk (sc : Scope) (ps ns : List Str) : Prop where
  kind : sc.kind = .function
  co : sc.isCoroutine = false
  gen : sc.isGenerator = false
  nd : ps.Nodup
  pre : ps = ns.take ps.length
  loc : ∀ y ∈ ps, sc.names.lookup y = some .local ∨ sc.names.lookup y = some .cell
  free : ∀ p ∈ sc.names, p.2 ≠ .free

section
variable {W : Wd} {C : Cs}

theorem lookup_mem_kind {sc : Scope} {y : Str} {k : NameKind} (h : sc.names.lookup y = some k) : (y, k) ∈ sc.names := mem_of_lookup h

theorem ctr_of (ok : COk C W) {a : Addr} {fd : FuncData} {body : List Stmt} {ps ns : List Str} {fu m : Nat} (fo : FnOk fd.scope ps ns)
    (hF : ∀ {h}, W.ok h → ∃ o, h.get? a = some o ∧ o.data = .func fd) (hcd : ∀ {h}, W.ok h → h.CodeRec fd.code fd.qualname) (hbody : fd.body = .stmts body)
    (hbind : ∀ vals : List Value, vals.length = ps.length → bindArgs fd ⟨vals, []⟩ = pure (ps.zip vals)) (hclo : fd.closure = []) (hg : fd.globals = mainGlobals) (hb : fd.builtins = builtinsNs)
    {n : Nat} {Φ : Fns} (ct : Ctrs W n Φ) : Ctr W (n + 1) a (runF Φ fu { par := ps.length, size := ns.length, body := cBl C (gamOf ns) fd.scope m body }) := by
  intro A s M vals vs r E Q rm g mok hv hown e h
  unfold runF at e
  split at e
  case isFalse => cases e
  rename_i hlen0
  have hlen : vs.length = ps.length := hlen0
  refine Classical.byContradiction fun hQ => ?_
  obtain ⟨⟨ρ', f⟩, e1, e2⟩ := b_inv e
  have hvl : vals.length = ps.length := by rw [hv.length, hlen]
  obtain ⟨o, ho, hd⟩ := hF g.ok
  (refine hQ ?_; clear hQ)
  refine wpAny_call ?_
  have hdep : A.depth < recursionLimit := by have := rm.depth; show A.depth < 1000; lia
  have psns : ∀ {y : Str}, y ∈ ps → ∃ k, fd.scope.names.lookup y = some k := fun hy => (fo.loc _ hy).elim (fun h => ⟨_, h⟩) fun h => ⟨_, h⟩
  refine codeAny_call_cells hdep ho hd (W.lim g.ok) (hcd g.ok) hbody (hbind vals hvl) hclo (fun p hp => ?_) (fun s₁ ic => ?_) fo.co fo.gen fo.kind
  · have hm : p.1 ∈ ps := (List.of_mem_zip hp).1
    rcases fo.loc _ hm with q | q
    · exact .inl q
    · refine .inr ⟨q, ?_⟩
      refine Classical.byContradiction fun hQ => ?_
      obtain ⟨c, hc, _⟩ := cellsFrom_new (y := p.1) fd.scope.names (s.heap.objs.size + 1) [] ⟨_, lookup_mem_kind q, rfl⟩
      (refine hQ ?_; clear hQ)
      rw [hc]; rfl
  generalize hev : callEnvC fd s.heap.objs.size a = env at ic ⊢
  have ek : EnvOk env fd.scope := by
    subst hev
    refine ⟨rfl, fo.kind, hg, hb, fun x hx => ?_, fun x y c hx hy => ?_, fun x c hx => ?_⟩
    · rcases hx with hx | hx
      · obtain ⟨c, hc, _⟩ := cellsFrom_new (y := x) fd.scope.names (s.heap.objs.size + 1) [] ⟨_, lookup_mem_kind hx, rfl⟩
        exact ⟨c, hc⟩
      · exact absurd rfl (fo.free _ (lookup_mem_kind hx))
    · exact name_of_addr ic.apart (mem_of_lookup hx) (mem_of_lookup hy)
    · exact Nat.ne_of_gt (ic.above x c (mem_of_lookup hx))
  have hL : env.locals = s.heap.objs.size := by subst hev; rfl
  have x1 : SX W s s₁ := SX.of_inCall g ic.toInCall
  have hLf : s.heap.get? env.locals = none := by rw [hL]; exact fresh_none _
  have hcf : ∀ y c, env.cells.lookup y = some c → s.heap.get? c = none := fun y c hc => Heap.get?_none_of_le (by have := ic.above y c (mem_of_lookup hc); rw [hL] at this; exact Nat.le_of_lt this)
  have m0 : ∀ b ∈ M, ∃ o, s.heap.get? b = some o := fun b hb => let ⟨o, e, _⟩ := mok b hb; ⟨o, e⟩
  have so : SOk (gamOf ns) fd.scope env := by
    refine ⟨ek, fun y i hy => ?_, fun x y i hx hy => ?_⟩
    · obtain ⟨_, h2⟩ := numbered_get (n := 0) hy
      have := (List.getElem?_eq_some_iff.mp h2).1
      simpa [gamOf] using this
    · obtain ⟨_, h1⟩ := numbered_get (n := 0) hx
      obtain ⟨_, h2⟩ := numbered_get (n := 0) hy
      rw [h1] at h2; exact Option.some.inj h2
  have lay : Lay env s₁.heap := ⟨⟨_, ic.toInCall.ns⟩, fun y c hc => ⟨_, ic.cell y c hc⟩⟩
  have hle : ps.length ≤ ns.length := by
    have := congrArg List.length fo.pre
    rw [List.length_take] at this
    lia
  have hget : ∀ {i : Nat} {sl : Mine.Slot}, (vs.map Mine.Slot.sh ++ List.replicate (ns.length - ps.length) Mine.Slot.un)[i]? = some sl → (∃ v, vs[i]? = some v ∧ sl = .sh v) ∨ sl = .un := fun {i sl} hi => by
    by_cases q : i < vs.length
    · rw [List.getElem?_append_left (by simpa using q), List.getElem?_map] at hi
      obtain ⟨v, h1, h2⟩ := Option.map_eq_some_iff.mp hi
      exact .inl ⟨v, h1, h2.symm⟩
    · rw [List.getElem?_append_right (by simpa using q)] at hi
      have := List.getElem?_eq_some_iff.mp hi
      obtain ⟨hh, e⟩ := this
      rw [List.getElem_replicate] at e
      exact .inr e.symm
  have hvg : ∀ {h : Heap} {M : List Addr} {vals : List Value} {vs : List V}, VReps h M vals vs → ∀ {i : Nat} {v : V}, vs[i]? = some v → ∃ x, vals[i]? = some x ∧ VRep h M x v := by
    intro h M vals vs hv
    induction hv with
    | nil => intro i v hi; simp at hi
    | cons r _ ih =>
      intro i v hi
      cases i with
      | zero => simp at hi; subst hi; exact ⟨_, rfl, r⟩
      | succ i => simp at hi; simpa using ih hi
  have fi : FI W (gamOf ns) fd.scope s env M (fun _ => 0) (env.locals :: (fd.scope.names.filterMap (fun p => env.cells.lookup p.1) ++ M)) (vs.map Mine.Slot.sh ++ List.replicate (ns.length - ps.length) Mine.Slot.un) s₁ := by
    refine ⟨g, x1, lay, ?_, ?_, ?_, ?_, ?_, ?_, ?_, ?_⟩
    · intro b hb
      rcases List.mem_cons.mp hb with rfl | hb
      · exact ns_notTab ic.toInCall.ns
      rcases List.mem_append.mp hb with hb | hb
      · obtain ⟨p, hp, hc⟩ := List.mem_filterMap.mp hb
        obtain ⟨o, e, hd⟩ := ic.cell p.1 b hc
        exact ⟨o, e, fun t => by obtain ⟨fs, q, _⟩ := t.2; rw [hd] at q; cases q⟩
      · exact (mok.ext x1) b hb
    · exact fun b hb => List.mem_cons_of_mem _ (List.mem_append_right _ hb)
    · intro b hb
      obtain ⟨o, e⟩ := m0 b hb
      exact ⟨fun q => (by rw [q, hLf] at e; cases e), fun y c hc q => (by rw [q, hcf y c hc] at e; cases e)⟩
    · intro y hy
      have : locOf env y = env.locals ∨ ∃ c, fd.scope.names.lookup y = some .cell ∧ env.cells.lookup y = some c ∧ locOf env y = c := by
        unfold locOf
        rcases hy with hy | hy
        · left; rw [if_pos (by rw [kindOf_eq ek]; exact hy)]
        · right
          obtain ⟨c, hc⟩ := ek.cells y (.inl hy)
          exact ⟨c, hy, hc, by rw [if_neg (by rw [kindOf_eq ek, hy]; decide), hc]; rfl⟩
      rcases this with q | ⟨c, hyc, hc, q⟩
      · rw [q]; exact ⟨List.mem_cons_self, fun hb => (by obtain ⟨o, e⟩ := m0 _ hb; rw [hLf] at e; cases e), hLf⟩
      · rw [q]
        exact ⟨List.mem_cons_of_mem _ (List.mem_append_left _ (List.mem_filterMap.mpr ⟨(y, .cell), lookup_mem_kind hyc, hc⟩)), fun hb => (by obtain ⟨o, e⟩ := m0 _ hb; rw [hcf y c hc] at e; cases e), hcf y c hc⟩
    · intro i xs hi
      rcases hget hi with ⟨v, _, q⟩ | q <;> cases q
    · intro i j xs ys hi
      rcases hget hi with ⟨v, _, q⟩ | q <;> cases q
    · intro y i hy sl hi
      rcases hget hi with ⟨v, h1, rfl⟩ | rfl
      · have hov : v.own = false := by
          have := List.all_eq_true.mp hown v (List.mem_of_getElem? h1)
          simpa using this
        obtain ⟨x, h2, h3⟩ := hvg hv h1
        obtain ⟨_, hn⟩ := numbered_get (n := 0) hy
        have hi' : i < ps.length := by rw [← hlen]; exact (List.getElem?_eq_some_iff.mp h1).1
        have hp : ps[i]? = some y := by
          rw [fo.pre, List.getElem?_take_of_lt hi']
          simpa using hn
        obtain ⟨b1, b2⟩ := bind_at (k := env.kindOf) (m := fun _ => none) fo.nd hp h2
        refine ⟨hov, x, ?_, ?_⟩
        · rcases fo.loc y (List.mem_of_getElem? hp) with q | q
          · have hk : env.kindOf y = some .local := by rw [kindOf_eq ek]; exact q
            exact .inl ⟨hk, _, ic.toInCall.ns, b1 hk⟩
          · have hk : env.kindOf y = some .cell := by rw [kindOf_eq ek]; exact q
            obtain ⟨c, hc⟩ := ek.cells y (.inl q)
            have := ic.cell y c hc
            rw [b2 (by rw [hk]; decide)] at this
            exact .inr ⟨.inl hk, c, hc, this⟩
        · refine VRep.mono (fun b o _ e n => x1.keep b o e n) (fun b hb => ?_) hov h3
          rcases List.mem_cons.mp hb with rfl | hb
          · exact .inr hLf
          rcases List.mem_append.mp hb with hb | hb
          · obtain ⟨p, hp, hc⟩ := List.mem_filterMap.mp hb
            exact .inr (hcf _ _ hc)
          · exact .inl hb
      · trivial
    · show _ = ns.length
      simp [hlen]; lia
  have rm' : RoomN (A.deeper env) n := ⟨rm.handled, by have := rm.depth; show A.depth + 1 + n ≤ 900; lia, by have := rm.units; show A.units + 3 + 4 * n + 200 ≤ cLine; lia⟩
  refine (cSt_sound ok m).2 body n Φ fu (A.deeper env) env s s₁ M _ _ _ ρ' f _ _ ct rm' so fi e1 fun own' M' s' fl fi' _ fr => ?_
  cases f with
  | nx =>
    cases e2
    cases fl <;> first | exact fr.elim | exact h _ _ fi'.x rfl .none
  | bk => cases e2
  | ct => cases e2
  | rt v =>
    cases e2
    cases fl <;> first | exact fr.elim | exact h _ _ fi'.x fr.1 fr.2
end
end Mine
end
section
open PySem PySem.W PyProof.Rows
set_option maxRecDepth 4000
namespace Mine

section
variable {M : Model} {A : Around} {R : GenEnd} {Y : Protocol} {n : Nat} {s₀ : Shared} {c : Code} {fs : List Frame} {s : Shared} {env : Env}
  {K : Flow → Sem Fin} {H : Value → Sem Fin} {gd : Bool → Bool} {lv : List Value → List Value}

theorem seg_If {test : Expr} {body orelse : List Stmt} {pos : Pos}
    (h : wpAny M (A.over c fs) (isTrue test env (eval test env)) (fun b s' => Seg M A R Y n s₀ c ((execs (if b = true then body else orelse) env).wrap K H gd lv) fs s') (fun x s' => Seg M A R Y n s₀ c (H x) fs s') s) :
    Seg M A R Y n s₀ c ((exec (.If test body orelse pos) env).wrap K H gd lv) fs s := by
  rw [arm_exec_If]
  refine seg_bind_wrap (wpAny_standAt ?_)
  refine seg_bind_wrap (wpAny_mono h (fun b s' hb => ?_) fun _ _ x => x)
  cases b <;> exact hb

noncomputable def loopFrame (K : Flow → Sem Fin) (H : Value → Sem Fin) (gd : Bool → Bool) (lv : List Value → List Value) (env : Env) (c : Code) (p : Pos) : Frame :=
  .ret (fun r => ((match r with | .ok f => (.pure f : Sem Flow) | .error e => .raise e).onRaise fun (x : Value) => do
        if (← field x 1) == Value.none then unsupported "frame.own-activation:exception-without-traceback"
        setFlight x env.frame).wrap K H gd lv) none (gd false) (lv []) c p []

theorem seg_For {target iter : Expr} {body orelse : List Stmt} {pos : Pos} (hs : ∀ x, foldedSetIterable iter env x = pure x)
    (h : wpAny M (A.over c fs) (eval iter env) (fun x s₁ => wpAny M (A.over c fs) (pyIter x) (fun it s₂ => ∀ p, Seg M A R Y n s₀ (.forLoop target it body orelse env) (M.den (.forLoop target it body orelse env)) (loopFrame K H gd lv env c p :: fs) s₂)
      (fun x s' => Seg M A R Y n s₀ c (H x) fs s') s₁) (fun x s' => Seg M A R Y n s₀ c (H x) fs s') s) :
    Seg M A R Y n s₀ c ((exec (.For target iter body orelse pos) env).wrap K H gd lv) fs s := by
  rw [exec_For]
  refine seg_bind_wrap (wpAny_standAt ?_)
  refine seg_bind_wrap (wpAny_mono h (fun x s₁ h₁ => ?_) fun _ _ x => x)
  refine seg_bind_wrap (wpAny_of_eq (hs x) ?_)
  refine seg_bind_wrap (wpAny_standAt ?_)
  refine seg_bind_wrap (wpAny_holding (wpAny_mono h₁ (fun it s₂ h₂ => ?_) fun _ _ x => x))
  exact seg_call h₂
end

section
variable {prog : Program} {w : World} {A : Around} {R : GenEnd} {Y : Protocol} {n : Nat} {s₀ : Shared} {fs : List Frame} {s : Shared} {env : Env}

noncomputable abbrev noteH (env : Env) : Value → Sem Fin := fun e => (do noteFrame e env; theTreesLotGoes e : Sem Unit).wrap (fun _ => .raise e) .raise id id
noncomputable abbrev turnK (target : Expr) (it : Value) (body : List Stmt) (env : Env) : Flow → Sem Fin := fun f => match f with
  | .next | .cont => .pure (.again (.forLoop target it body [] env))
  | .brk => .pure (.done .next)
  | .ret v => .pure (.done (.ret v))

theorem seg_forLoop {target : Expr} {it : Value} {body : List Stmt}
    (h : ∀ E : Value → Shared → Prop, wpAny (model prog w) (A.over (.forLoop target it body [] env) fs) (pyNext it) (fun r s' => match r with
      | none => ∀ c, Seg (model prog w) A R Y n s₀ c (leafOf (.ok .next)) fs s'
      | some v => ∀ E : Value → Shared → Prop, wpAny (model prog w) (A.over (.forLoop target it body [] env) fs) (letOwnedTupleGo target it v) (fun _ s₁ => ∀ E : Value → Shared → Prop, wpAny (model prog w) (A.over (.forLoop target it body [] env) fs) (assign target env v) (fun _ s₂ =>
          Seg (model prog w) A R Y n s₀ (.forLoop target it body [] env) ((execs body env).wrap (turnK target it body env) (noteH env) id id) fs s₂) E s₁) E s') E s) :
    Seg (model prog w) A R Y n s₀ (.forLoop target it body [] env) ((model prog w).den (.forLoop target it body [] env)) fs s := by
  show Seg _ A R Y n s₀ _ ((forTurn target it body [] env).onRaise (fun x => do noteFrame x env; theTreesLotGoes x)) fs s
  unfold forTurn
  rw [Sem.onRaise_eq_wrap]
  refine seg_bind_wrap (wpAny_standAt ?_)
  refine seg_bind_wrap (wpAny_onRaise (wpAny_mono (h _) (fun r s' hr => ?_) fun _ _ x => wpAny_standAt x))
  cases r with
  | none =>
    refine seg_again rfl ?_
    exact hr (.block [] env)
  | some v =>
    refine seg_bind_wrap (wpAny_mono (hr _) (fun _ s₁ h₁ => ?_) fun _ _ x => x)
    refine seg_bind_wrap (wpAny_mono (h₁ _) (fun _ s₂ h₂ => ?_) fun _ _ x => x)
    rw [Sem.bind_eq_wrap', Sem.wrap_wrap]
    rw [Sem.wrap_congr (execs body env) _ _ (K' := turnK target it body env) (H' := noteH env) (fun f => by cases f <;> rfl)
        (fun e => by first | exact Sem.bind_eq_wrap _ _ | (show (do noteFrame e env; theTreesLotGoes e : Sem Unit).bind (fun _ => .raise e) = _; rw [Sem.bind_eq_wrap]))]
    exact h₂
end
end Mine
end
section
open PySem PySem.W PyProof.Rows
set_option maxRecDepth 4000
namespace Mine

noncomputable def flatD : PyData → Bool
  | .none => true
  | .bool _ => true
  | .int _ => true
  | .str _ => true
  | _ => false
theorem Rep.flat {h h' : Heap} {M M' : List Addr} : ∀ {v : Value} {d : PyData}, flatD d = true → Rep h M v d → Rep h' M' v d
  | _, _, _, .none => .none
  | _, _, _, .bool b => .bool b
  | _, _, _, .int i t => .int i t
  | _, _, _, .str x t => .str x t
  | _, _, h, .list .. => by cases h
  | _, _, h, .tuple .. => by cases h

noncomputable def flatSlot : Slot → Bool
  | .un => true
  | .sh (.d d) => flatD d
  | _ => false

section
variable {W : Wd} {Γ : Gam} {sc : Scope} {env : Env} {s s' : Shared} {ρ : Ev}

/-- what holds of a frame with plain values only, whoever else moves -/
structure GI (W : Wd) (Γ : Gam) (env : Env) (s : Shared) (ρ : Ev) : Prop where
  good : Good W s
  ns : ∃ m, s.heap.Ns env.locals m
  vis : Vis Γ env [] s.heap ρ
  flat : ∀ sl ∈ ρ, flatSlot sl = true
  len : ρ.length = Γ.size

/-- the frame's fixed facts -/
structure GE (W : Wd) (Γ : Gam) (sc : Scope) (env : Env) : Prop where
  so : SOk Γ sc env
  cells : env.cells = []
  ns : ¬ W.stat env.locals

theorem GI.cx (gi : GI W Γ env s ρ) (ge : GE W Γ sc env) {A : Around} (rm : Room A 0) : Cx W Γ sc 0 (fun _ _ => none) A s env [] ρ :=
  ⟨fun _ _ _ _ _ e => (by cases e), rm, gi.good, ge.so.ek, fun _ h => (by cases h), gi.vis, ⟨gi.ns, fun y c e => (by rw [ge.cells] at e; cases e)⟩, gi.len, ge.so.wf⟩

theorem VarAt.local (ge : GE W Γ sc env) {h : Heap} {y : Str} {v : Value} (x : VarAt h env y v) : env.kindOf y = some .local ∧ ∃ m, h.Ns env.locals m ∧ m y = some v := by
  rcases x with x | ⟨_, c, e, _⟩
  · exact x
  · rw [ge.cells] at e; cases e

theorem GI.move (ge : GE W Γ sc env) (gi : GI W Γ env s ρ) (g : Good W s') (k : ∀ o, s.heap.get? env.locals = some o → s'.heap.get? env.locals = some o) : GI W Γ env s' ρ := by
  have kn : ∀ {m}, s.heap.Ns env.locals m → s'.heap.Ns env.locals m := fun n => let ⟨o, es, ep, e, r⟩ := n; ⟨o, es, ep, k o e, r⟩
  refine ⟨g, let ⟨m, n⟩ := gi.ns; ⟨m, kn n⟩, fun y i hy sl hs => ?_, gi.flat, gi.len⟩
  have hv := gi.vis y i hy sl hs
  have hf := gi.flat sl (List.mem_of_getElem? hs)
  cases sl with
  | un => trivial
  | sh u =>
    refine Classical.byContradiction fun hQ => ?_
    obtain ⟨h1, v, h2, h3⟩ := hv
    obtain ⟨k1, m, k2, k3⟩ := VarAt.local ge h2
    (refine hQ ?_; clear hQ)
    refine ⟨h1, v, .inl ⟨k1, m, kn k2, k3⟩, ?_⟩
    cases u with
    | d d => exact Rep.flat hf h3
    | _ => cases hf
  | ow _ => cases hf

theorem GI.ext (ge : GE W Γ sc env) (gi : GI W Γ env s ρ) (x : SX W s s') : GI W Γ env s' ρ := gi.move ge x.good fun o e => by
  obtain ⟨m, n⟩ := gi.ns
  exact x.keep _ _ e (by obtain ⟨o', e', n'⟩ := ns_notTab n; rw [e] at e'; cases e'; exact n')

theorem GI.goodC (gi : GI W Γ env s ρ) (ge : GE W Γ sc env) {h' : Heap} {tk : Nat} (hk : ∀ b o, b ≠ env.locals → s.heap.get? b = some o → h'.get? b = some o) : Good W { s with heap := h', toks := tk } :=
  ⟨W.mono gi.good.ok fun b o q e => hk b o (fun z => by
    subst z
    rcases q with q | q
    · exact ge.ns q
    · obtain ⟨m, n⟩ := gi.ns
      exact q (soft_ns n o e)) e, gi.good.bare⟩

theorem GI.store {A : Around} {E : Value → Shared → Prop} {Q : Unit → Shared → Prop} {Md : Model} {y : Str} {i : Nat} {v : Value} {d : PyData} (ge : GE W Γ sc env) (gi : GI W Γ env s ρ) (hy : Γ.vars.lookup y = some i)
    (hk : sc.names.lookup y = some .local) (hd : flatD d = true) (r : Rep s.heap [] v d)
    (h : ∀ h' tk, GI W Γ env { s with heap := h', toks := tk } (ρ.set i (.sh (.d d))) → h'.objs.size = s.heap.objs.size → (∀ b o, b ≠ env.locals → s.heap.get? b = some o → h'.get? b = some o) → Q () { s with heap := h', toks := tk }) : wpAny Md A (storeName env y v) Q E s := by
  have hkl : env.kindOf y = some .local := by rw [kindOf_eq ge.so.ek]; exact hk
  obtain ⟨m, n⟩ := gi.ns
  refine wpAny_storeName_local hkl n (fun h' n' sb => ?_) (by rw [scope_fn ge.so.ek]; rfl)
  refine h h' _ ⟨gi.goodC ge sb.extBut, ⟨_, n'⟩, fun z j hz sl hs => ?_, fun sl hs => ?_, by rw [List.length_set]; exact gi.len⟩ sb.1 sb.extBut
  · by_cases q : i = j
    · subst q
      have ez := ge.so.inj z y i hz hy
      subst ez
      have := get_set_eq hs
      subst this
      exact ⟨rfl, v, .inl ⟨hkl, _, n', by simp⟩, Rep.flat hd r⟩
    · have hs' := get_set_ne hs q
      have zy : z ≠ y := fun e => by subst e; rw [hy] at hz; cases hz; exact q rfl
      have hv := gi.vis z j hz sl hs'
      have hf := gi.flat sl (List.mem_of_getElem? hs')
      cases sl with
      | un => trivial
      | sh u =>
        refine Classical.byContradiction fun hQ => ?_
        obtain ⟨h1, w, h2, h3⟩ := hv
        obtain ⟨k1, m2, k2, k3⟩ := VarAt.local ge h2
        (refine hQ ?_; clear hQ)
        refine ⟨h1, w, .inl ⟨k1, _, n', ?_⟩, ?_⟩
        · rw [if_neg zy]
          refine Classical.byContradiction fun hQ => ?_
          obtain ⟨o, es, ep, e1, e2, _, e4⟩ := n
          obtain ⟨o', es', ep', f1, f2, _, f4⟩ := k2
          (refine hQ ?_; clear hQ)
          rw [e1] at f1; cases f1; rw [e2] at f2; cases f2
          rw [← e4, f4]; exact k3
        · cases u with
          | d d => exact Rep.flat hf h3
          | _ => cases hf
      | ow _ => cases hf
  · rcases List.mem_or_eq_of_mem_set hs with q | q
    · exact gi.flat sl q
    · subst q; exact hd
end

/-! the text of the generator -/

noncomputable def sPos : Str := Str.ofString "pos"
noncomputable def sEsc : Str := Str.ofString "escape"
noncomputable def sCh : Str := Str.ofString "ch"
noncomputable def sAddr : Str := Str.ofString "addr"
noncomputable def sEnum : Str := Str.ofString "enumerate"
noncomputable def bs : Str := Str.ofString "\\"

noncomputable def yBody (q : Nat → Pos) (k : Nat → Nat) : List Stmt :=
  [.If (.Name sEsc (q 13))
    [.Expr (.Yield (some (.Tuple [.Name sPos (q 14), .BinOp (.Constant (.str bs) (k 4) (q 15)) .Add (.Name sCh (q 16)) (q 17)] (k 5) (q 18))) (q 19)) (q 20),
     .Assign [.Name sEsc (q 21)] (.Constant (.bool false) (k 6) (q 22)) (q 23)]
    [.If (.Compare (.Name sCh (q 24)) [.Eq] [.Constant (.str bs) (k 7) (q 25)] (q 26))
      [.Assign [.Name sEsc (q 27)] (.Constant (.bool true) (k 8) (q 28)) (q 29)]
      [.Expr (.Yield (some (.Tuple [.Name sPos (q 30), .Name sCh (q 31)] (k 9) (q 32))) (q 33)) (q 34)] (q 35)] (q 36)]

noncomputable def yTgt (q : Nat → Pos) (k : Nat → Nat) : Expr := .Tuple [.Name sPos (q 7), .Name sCh (q 8)] (k 3) (q 9)

noncomputable def yEnd (q : Nat → Pos) (k : Nat → Nat) : List Stmt :=
  [.If (.Name sEsc (q 38)) [.Expr (.Yield (some (.Tuple [.Name sPos (q 39), .Constant (.str bs) (k 10) (q 40)] (k 11) (q 41))) (q 42)) (q 43)] [] (q 44)]

noncomputable def yAll (q : Nat → Pos) (k : Nat → Nat) : List Stmt :=
  [.Assign [.Name sPos (q 1)] (.Constant (.int 0) (k 1) (q 2)) (q 3),
   .Assign [.Name sEsc (q 4)] (.Constant (.bool false) (k 2) (q 5)) (q 6),
   .For (yTgt q k) (.Call (.Name sEnum (q 10)) [.Name sAddr (q 11)] [] (q 12)) (yBody q k) [] (q 37)] ++ yEnd q k

noncomputable def gamY : Gam := gamOf [sAddr, sPos, sEsc, sCh]

structure ScY (sc : Scope) : Prop where
  kind : sc.kind = .function
  co : sc.isCoroutine = false
  gen : sc.isGenerator = true
  addr : sc.names.lookup sAddr = some .local
  pos : sc.names.lookup sPos = some .local
  esc : sc.names.lookup sEsc = some .local
  ch : sc.names.lookup sCh = some .local
  enum : sc.names.lookup sEnum = some .globalImplicit
  noc : ∀ p ∈ sc.names, p.2 ≠ .cell
  nof : ∀ p ∈ sc.names, p.2 ≠ .free

/-- a run that changes the objects N only -/
structure Snc (N : List Addr) (s s' : Shared) : Prop where
  keep : ∀ b o, b ∉ N → s.heap.get? b = some o → ¬ TabLike o → s'.heap.get? b = some o
  occ : ∀ b o, b ∉ N → s.heap.get? b = some o → ∃ o', s'.heap.get? b = some o'
  os : s'.os = s.os
  gens : ∀ (i : Nat) g, s.gens[i]? = some g → s'.gens[i]? = some g
theorem Snc.refl {N : List Addr} {s : Shared} : Snc N s s := ⟨fun _ _ _ e _ => e, fun _ o _ e => ⟨o, e⟩, rfl, fun _ _ e => e⟩
theorem Snc.step {N : List Addr} {s s' : Shared} (x : Snc N s s') {h' : Heap} {tk : Nat} (hk : ∀ b o, b ∉ N → s'.heap.get? b = some o → h'.get? b = some o) : Snc N s { s' with heap := h', toks := tk } :=
  ⟨fun b o hb e n => hk b o hb (x.keep b o hb e n), fun b o hb e => (let ⟨o', e'⟩ := x.occ b o hb e; ⟨o', hk b o' hb e'⟩), x.os, x.gens⟩
theorem Snc.ext {W : Wd} {N : List Addr} {s s' s'' : Shared} (x : Snc N s s') (y : SX W s' s'') : Snc N s s'' :=
  ⟨fun b o hb e n => y.keep b o (x.keep b o hb e n) n, fun b o hb e => (let ⟨o', e'⟩ := x.occ b o hb e; y.occ b o' e'), y.os.trans x.os, fun i g e => y.gens i g (x.gens i g e)⟩

/-- what is told at a yield -/
noncomputable def escY (W : Wd) (C e it : Addr) (ys : List PyData) : Protocol := fun m s₀ v s kap =>
  (∃ d, ys[ys.length - 1 - m]? = some d ∧ (e ≠ it ∧ (∃ o, s.heap.get? e = some o ∧ Soft o) ∧ ∃ o, s.heap.get? it = some o ∧ Soft o) ∧ ∀ M', MOk s₀.heap M' → Rep s.heap M' v d ∧ Rep s.heap (e :: it :: M') v d) ∧ Snc [C, e, it] s₀ s ∧ (Good W s ∧ ∃ m, s.heap.Ns C m) ∧
    ∀ s'' : Shared, Good W s'' → (∀ b ∈ [C, e, it], ∀ o, s.heap.get? b = some o → s''.heap.get? b = some o) → kap (.send .none) s''

noncomputable def escR (W : Wd) (C e it : Addr) : GenEnd := fun n s₀ r s => r = .ok (.ret .none) ∧ (n = 0 ∧ Snc [C, e, it] s₀ s ∧ Good W s)

end Mine
end
section
open PySem PySem.W PyProof.Rows
set_option maxRecDepth 4000
namespace Mine

theorem drawsStr {prog : Program} {w : World} {A : Around} (hh : A.handled = none) (it : Addr) (x : Str) (t : Tok) :
    Draws prog w A it [it] x.cps.size (fun i v => ∃ c u, x.cps[i]? = some c ∧ v = .str ⟨#[c]⟩ u) (fun i h => h.IsStrIter it (strIterType x) x t i) := by
  unfold strIterType
  cases ha : x.cps.all (· < 128)
  · exact Draws.strWide hh it x t
  · exact Draws.strAscii hh it x t

noncomputable def R4 (x : Str) (po : Int) (es : Bool) (ch : Slot) : Ev := [.sh (.d (.str x)), .sh (.d (.int po)), .sh (.d (.bool es)), ch]

theorem soft_enum {e it : Addr} {i : Int} {old : Value} {h : Heap} (x : IsEnum h e it i old) : ∃ o, h.get? e = some o ∧ Soft o :=
  ⟨_, x, fun t => (by cases t.1), fun vs q t hd => (by cases hd; intro z; cases z)⟩
theorem soft_strit {it : Addr} {T : String} {x : Str} {t : Tok} {i : Nat} {h : Heap} (z : h.IsStrIter it T x t i) : ∃ o, h.get? it = some o ∧ Soft o := by
  refine Classical.byContradiction fun hQ => ?_
  obtain ⟨o, h1, h2, h3⟩ := z
  (refine hQ ?_; clear hQ)
  exact ⟨o, h1, fun t => (by have := t.1; rw [h2] at this; cases this), fun vs q t hd => (by rw [h3] at hd; cases hd; intro z; cases z)⟩

section
variable {W : Wd} {sc : Scope} {env : Env}

variable {q : Nat → Pos} {k : Nat → Nat} {x : Str} {xt : Tok} {e it : Addr} {A : Around} {K : Flow → Sem Fin} {H : Value → Sem Fin} {gd : Bool → Bool} {lv : List Value → List Value} {fb : List Stmt} {p : Pos}

theorem ty_ok : okName sPos = true ∧ okName sEsc = true ∧ okName sCh = true ∧ okName sAddr = true ∧ okName sEnum = true := by decide +kernel
theorem gy : gamY.vars.lookup sAddr = some 0 ∧ gamY.vars.lookup sPos = some 1 ∧ gamY.vars.lookup sEsc = some 2 ∧ gamY.vars.lookup sCh = some 3 := by decide +kernel

theorem eqv_bs {c : Nat} (hc : c < 0x110000) : dcmp .Eq (.str ⟨#[c]⟩) (.str bs) = some (decide (c = 92)) := by
  by_cases h : c = 92
  · subst h; decide +kernel
  · rw [decide_eq_false h]
    have : PyData.eqv (.str ⟨#[c]⟩) (.str bs) = false := by
      cases hq : PyData.eqv (.str ⟨#[c]⟩) (.str bs) with
      | false => rfl
      | true =>
        exfalso
        apply h
        have hb : bs = ⟨#[92]⟩ := by decide +kernel
        rw [hb] at hq
        simpa [PyData.eqv] using hq
    show (if shp (.str ⟨#[c]⟩) && shp (.str bs) then some (PyData.eqv (.str ⟨#[c]⟩) (.str bs)) else none) = some false
    have s1 : shp (.str ⟨#[c]⟩) = true := by simp [shp, SeqAt.shaped, PyData.canLay0, PyData.depth, PyData.strOk, hc]
    have s2 : shp (.str bs) = true := by decide +kernel
    rw [this, s1, s2]; rfl
end
end Mine
end
section
open PySem PySem.W PyProof.Rows
set_option maxRecDepth 4000
namespace Mine
section
variable {prog : Program} {w : World} {A : Around} {E : Value → Shared → Prop} {s : Shared}

theorem soft_after {h : Heap} {it : Addr} {o : Obj} {x : Str} {t : Tok} {i : Nat} {T : String} {oc : Addr} {ob ob' : Obj} (ho : h.get? it = some o) (hc : o.cls = .type T) (hd : o.data = .fields #[.str x t, .int i 0]) :
    ∃ o', (((h.update it fun ob => Obj.mapFields (fun vs => vs.setIfInBounds 0 .none) ob).push ob).push ob').get? it = some o' ∧ Soft o' := by
  have hnew : (Obj.mapFields (fun vs => vs.setIfInBounds 0 .none) o).data = .fields #[.none, .int i 0] := by rw [Obj.data_mapFields hd]; rfl
  refine ⟨_, Heap.get?_push_of_some _ (Heap.get?_push_of_some _ (Heap.get?_update_self (h := h) (fun ob => Obj.mapFields (fun vs => vs.setIfInBounds 0 .none) ob) ho (Obj.isFreed_of_fields hnew))), ?_, fun vs q t' hq => ?_⟩
  · intro tb
    have h1 := tb.1
    have : (Obj.mapFields (fun vs => vs.setIfInBounds 0 .none) o).cls = o.cls := by unfold Obj.mapFields; split <;> rfl
    rw [this, hc] at h1; cases h1
  · rw [hnew] at hq; cases hq; intro z; cases z

theorem nextOf_ascii_end {it : Addr} {x : Str} {t : Tok} {i : Nat} {Q : Value → Shared → Prop} (hh : A.handled = none)
    (hit : s.heap.IsStrIter it "str_ascii_iterator" x t i) (hx : x.cps[i]? = none)
    (hE : ∀ h' e, Heap.ExtBut it s.heap h' → (∃ o, h'.get? it = some o ∧ Soft o) → (∃ o, h'.get? e = some o ∧ o.cls = .type "StopIteration") → E (.ref e) { s with heap := h' }) :
    wpAny (model prog w) A (Builtin.SmallTypes.nextOf (.ref it)) Q E s := by
  refine Classical.byContradiction fun hQ => ?_
  obtain ⟨o, ho, hc, hd⟩ := id hit
  (refine hQ ?_; clear hQ)
  unfold Builtin.SmallTypes.nextOf
  refine wpAny_bind (wpAny_callSpecial?_slot (name := Str.ofString "__next__") hit.typeIs F.slot_str_ascii_iterator_next
    (wpAny_call_entry F.slot_str_ascii_iterator_next hit.typeIs F.entry_str_ascii_iterator_next ?_ (F.args_str_ascii_iterator_next_1 _)))
  show wpAny _ _ (field (.ref it) 0 >>= _) _ _ s
  refine wpAny_bind (wpAny_field ho hd (x := .str x t) rfl ?_)
  show wpAny _ _ (field (.ref it) 1 >>= _) _ _ s
  refine wpAny_bind (wpAny_field ho hd (x := .int i 0) rfl ?_)
  simp only [Int.toNat_natCast, hx]
  refine wpAny_bind (wpAny_rule (wpAny_bind (wpAny_setField ho hd (by simp) (wpAny_bind (wpAny_letGo ?_)))))
  show wpAny _ _ (newExc (.type "StopIteration") [] >>= _) _ _ _
  refine wpAny_bind ?_
  simp only [newExc, newTuple]
  refine wpAny_bind (wpAny_newObj_type ?_ (by size_fits))
  refine wpAny_bind (m := firstArgMember _ _) (wpAny_of_eq (a := Value.none) (by first | rfl | (simp only [firstArgMember]; rfl)) ?_)
  refine wpAny_newObj_type ?_ (by size_fits)
  simp only [raiseNew]
  refine wpAny_bind (wpAny_handled ?_)
  first | rw [show A.in1.handled = none from hh] | rw [hh]
  refine wpAny_bind (wpAny_pure (wpAny_throw ?_))
  exact hE _ _ (((Heap.SameBut.update ..).extBut.push _).push _) (soft_after (oc := it) ho hc hd) ⟨_, Heap.get?_push_size _ rfl, rfl⟩

theorem nextOf_wide_end {it : Addr} {x : Str} {t : Tok} {i : Nat} {Q : Value → Shared → Prop} (hh : A.handled = none)
    (hit : s.heap.IsStrIter it "str_iterator" x t i) (hx : x.cps[i]? = none)
    (hE : ∀ h' e, Heap.ExtBut it s.heap h' → (∃ o, h'.get? it = some o ∧ Soft o) → (∃ o, h'.get? e = some o ∧ o.cls = .type "StopIteration") → E (.ref e) { s with heap := h' }) :
    wpAny (model prog w) A (Builtin.SmallTypes.nextOf (.ref it)) Q E s := by
  refine Classical.byContradiction fun hQ => ?_
  obtain ⟨o, ho, hc, hd⟩ := id hit
  (refine hQ ?_; clear hQ)
  unfold Builtin.SmallTypes.nextOf
  refine wpAny_bind (wpAny_callSpecial?_slot (name := Str.ofString "__next__") hit.typeIs F.slot_str_iterator_next
    (wpAny_call_entry F.slot_str_iterator_next hit.typeIs F.entry_str_iterator_next ?_ (F.args_str_iterator_next_1 _)))
  show wpAny _ _ (field (.ref it) 0 >>= _) _ _ s
  refine wpAny_bind (wpAny_field ho hd (x := .str x t) rfl ?_)
  show wpAny _ _ (field (.ref it) 1 >>= _) _ _ s
  refine wpAny_bind (wpAny_field ho hd (x := .int i 0) rfl ?_)
  simp only [Int.toNat_natCast, hx]
  refine wpAny_bind (wpAny_rule (wpAny_bind (wpAny_setField ho hd (by simp) (wpAny_bind (wpAny_letGo ?_)))))
  show wpAny _ _ (newExc (.type "StopIteration") [] >>= _) _ _ _
  refine wpAny_bind ?_
  simp only [newExc, newTuple]
  refine wpAny_bind (wpAny_newObj_type ?_ (by size_fits))
  refine wpAny_bind (m := firstArgMember _ _) (wpAny_of_eq (a := Value.none) (by first | rfl | (simp only [firstArgMember]; rfl)) ?_)
  refine wpAny_newObj_type ?_ (by size_fits)
  simp only [raiseNew]
  refine wpAny_bind (wpAny_handled ?_)
  first | rw [show A.in1.handled = none from hh] | rw [hh]
  refine wpAny_bind (wpAny_pure (wpAny_throw ?_))
  exact hE _ _ (((Heap.SameBut.update ..).extBut.push _).push _) (soft_after (oc := it) ho hc hd) ⟨_, Heap.get?_push_size _ rfl, rfl⟩

theorem enum_end {e it : Addr} {x : Str} {t : Tok} {i : Int} {old : Value} {Q : Option Value → Shared → Prop} (hh : A.handled = none)
    (he : IsEnum s.heap e it i old) (hst : s.heap.IsStrIter it (strIterType x) x t x.cps.size) (hne : e ≠ it)
    (hQ : ∀ h', Heap.ExtBut it s.heap h' → (∃ o, h'.get? it = some o ∧ Soft o) → Q none { s with heap := h' }) : wpAny (model prog w) A (pyNext (.ref e)) Q E s := by
  have hT : s.TypeIs (.ref e) "enumerate" := ⟨_, he, rfl⟩
  unfold pyNext
  refine wpAny_bind (wpAny_attempt (wpAny_callSpecial?_slot (name := Str.ofString "__next__") hT F.slot_enumerate_next
    (wpAny_call_entry F.slot_enumerate_next hT F.entry_enumerate_next ?_ (F.args_enumerate_next_1 _))))
  show wpAny _ _ (field (.ref e) 2 >>= _) _ _ _
  refine wpAny_bind (wpAny_field he rfl (x := .ref it) rfl ?_)
  have key : ∀ {Q' : Value → Shared → Prop} {E' : Value → Shared → Prop}, (∀ h' e, Heap.ExtBut it s.heap h' → (∃ o, h'.get? it = some o ∧ Soft o) → (∃ o, h'.get? e = some o ∧ o.cls = .type "StopIteration") → E' (.ref e) { s with heap := h' }) →
      wpAny (model prog w) A.in1 (Builtin.SmallTypes.nextOf (.ref it)) Q' E' s := fun {Q' E'} hE => by
    unfold strIterType at hst
    cases ha : x.cps.all (· < 128)
    · rw [ha] at hst; exact nextOf_wide_end (A := A.in1) hh hst (by simp) hE
    · rw [ha] at hst; exact nextOf_ascii_end (A := A.in1) hh hst (by simp) hE
  refine wpAny_bind (key fun h' x he' hsf hx' => ?_)
  refine Classical.byContradiction fun hQ => ?_
  obtain ⟨o, ho, hc⟩ := hx'
  (refine hQ ?_; clear hQ)
  refine wpAny_bind (wpAny_isInstance (T := "StopIteration") (b := true) ⟨o, ho, hc⟩ isSubtype_stop ?_)
  exact wpAny_pure (hQ _ he' hsf)
end
end Mine
end
section
open PySem PySem.W PyProof.Rows
set_option maxRecDepth 4000
namespace Mine

section
variable {W : Wd} {sc : Scope} {env : Env} {q : Nat → Pos} {k : Nat → Nat} {x : Str} {xt : Tok} {e it : Addr} {A : Around} {K : Flow → Sem Fin} {H : Value → Sem Fin} {gd : Bool → Bool} {lv : List Value → List Value} {fb : List Stmt} {p : Pos}

theorem GI.off (ge : GE W gamY sc env) {s : Shared} {ρ : Ev} (gi : GI W gamY env s ρ) {h' : Heap} {tk : Nat} (g : Good W { s with heap := h', toks := tk }) (hk : ∀ b o, b ∉ [e, it] → s.heap.get? b = some o → h'.get? b = some o) (h1 : env.locals ∉ [e, it]) :
    GI W gamY env { s with heap := h', toks := tk } ρ := gi.move ge g fun o e => hk _ o h1 e

theorem off_good {s : Shared} (g : Good W s) {h' : Heap} {tk : Nat} (hk : ∀ b o, b ∉ [e, it] → s.heap.get? b = some o → h'.get? b = some o) (hs : ∀ b ∈ [e, it], ¬ W.stat b ∧ ∀ o, s.heap.get? b = some o → Soft o) : Good W { s with heap := h', toks := tk } :=
  ⟨W.mono g.ok fun b o q e' => hk b o (fun z => q.elim (hs b z).1 fun q => q ((hs b z).2 o e')) e', g.bare⟩

/-- the facts that stay while the generator runs -/
structure YF (W : Wd) (sc : Scope) (env : Env) (A : Around) (x : Str) (e it : Addr) : Prop where
  ge : GE W gamY sc env
  sy : ScY sc
  hh : A.handled = none
  depth : A.depth ≤ 910
  units : A.units + 170 ≤ cLine
  ne : e ≠ it
  el : e ≠ env.locals
  il : it ≠ env.locals
  se : ¬ W.stat e
  si : ¬ W.stat it
  xok : PyData.strOk x = true
  xsz : szOk x.length = true

theorem yield_two {d : PyData} {ys pre rem : List PyData} (h : ys = pre ++ d :: rem) : ys[ys.length - 1 - rem.length]? = some d := by
  subst h
  simp

theorem reps_flat {h h' : Heap} {M M' : List Addr} : ∀ {vs : List Value} {ds : List PyData}, ds.all flatD = true → Reps h M vs ds → Reps h' M' vs ds
  | _, _, _, .nil => .nil
  | _, _, hf, .cons a b => by
    rw [List.all_cons, Bool.and_eq_true] at hf
    exact .cons (Rep.flat hf.1 a) (reps_flat hf.2 b)
theorem tup_rep {s : Shared} {vals : List Value} {ds : List PyData} (r : Reps s.heap [] vals ds) (hf : ds.all flatD = true) {M : List Addr} (hM : ∀ a ∈ M, ∃ o, s.heap.get? a = some o) :
    Rep (s.heap.push (plainT vals.toArray 0)) M (.ref s.heap.objs.size) (.tuple ds) := by
  refine .tuple (fun z => ?_) (Heap.get?_push_size _ rfl) ?_
  · obtain ⟨o, e⟩ := hM _ z; rw [fresh_none] at e; cases e
  · exact reps_flat hf r

theorem seg_yield_tup (F : YF W sc env A x e it) {c : Code} {fs : List Frame} {ys : List PyData} {elts : List Expr} {kk : Nat} {p1 p2 p3 : Pos} {cs : List CE} {ds rem : List PyData} {ρ : Ev} {s₀ s : Shared} {K : Flow → Sem Fin} {H : Value → Sem Fin} {gd : Bool → Bool} {lv : List Value → List Value}
    (P : Heap → Prop) (hP : ∀ h h', P h → (∀ b ∈ [e, it], ∀ o, h.get? b = some o → h'.get? b = some o) → P h') (hPs : ∀ h, P h → (∃ o, h.get? e = some o ∧ Soft o) ∧ ∃ o, h.get? it = some o ∧ Soft o)
    (rm : Room (A.over c fs) 0) (hfs : splitAtGen fs = none) (hgd : gd false = false) (hfg : fs.any Frame.guarded = false)
    (gi : GI W gamY env s ρ) (hp : P s.heap) (since : Snc [env.locals, e, it] s₀ s) (HL : SndL W gamY sc elts cs) (he : cevalsD (fun _ _ => none) cs ρ = some ds) (hf : ds.all flatD = true) (hl : ds.length ≤ 2) (hy : ∃ pre, ys = pre ++ .tuple ds :: rem)
    (hk : ∀ s'', GI W gamY env s'' ρ → P s''.heap → Seg (model W.prog W.w) A (escR W env.locals e it) (escY W env.locals e it ys) rem.length s'' c (K .next) fs s'') :
    Seg (model W.prog W.w) A (escR W env.locals e it) (escY W env.locals e it ys) (rem.length + 1) s₀ c ((exec (.Expr (.Yield (some (.Tuple elts kk p1)) p2) p3) env).wrap K H gd lv) fs s := by
  have ge := F.ge
  refine seg_Expr_Yield hfs hgd hfg ?_ (by rw [ge.so.ek.scope]; exact F.sy.co) (by unfold interactive; rw [scope_fn ge.so.ek]; rfl)
  refine wpAny_Tuple (snd_argsD HL (gi.cx ge rm) he fun vals s₁ x1 r1 => ⟨?_, ?_⟩)
  · rw [r1.length]; unfold sizeLine; lia
  · have x2 : SX W s₁ { s₁ with heap := s₁.heap.push (plainT vals.toArray 0) } := SX.push (tk := s₁.toks) x1.good
    have x12 := x1.trans x2
    have sf := hPs _ hp
    have hp2 : P (s₁.heap.push (plainT vals.toArray 0)) := hP _ _ hp fun b hb o e' => x12.keep b o e' (by
      rcases List.mem_cons.mp hb with rfl | hb
      · obtain ⟨o2, e2, e3⟩ := sf.1; rw [e'] at e2; cases e2; exact e3.1
      · obtain rfl := List.mem_singleton.mp hb
        obtain ⟨o2, e2, e3⟩ := sf.2; rw [e'] at e2; cases e2; exact e3.1)
    have gi2 := gi.ext ge x12
    have since2 := since.ext x12
    intro kap hkap
    obtain ⟨pre, hy⟩ := hy
    have occN : ∀ a, (∃ o, s₀.heap.get? a = some o) ∨ a ∈ [e, it] → ∃ o, s₁.heap.get? a = some o := fun a ha => by
      by_cases q : a ∈ [env.locals, e, it]
      · rcases List.mem_cons.mp q with rfl | q
        · obtain ⟨m, o, es, ep, e', _⟩ := gi.ns; exact x1.occ _ o e'
        rcases List.mem_cons.mp q with rfl | q
        · obtain ⟨o, e', _⟩ := sf.1; exact x1.occ _ o e'
        · obtain rfl := List.mem_singleton.mp q
          obtain ⟨o, e', _⟩ := sf.2; exact x1.occ _ o e'
      · rcases ha with ⟨o, e'⟩ | ha
        · obtain ⟨o', e''⟩ := since.occ a o q e'; exact x1.occ _ o' e''
        · exact absurd (List.mem_cons_of_mem _ ha) q
    refine ⟨⟨.tuple ds, yield_two hy, ⟨F.ne, hPs _ hp2⟩, fun M' hM' => ⟨?_, ?_⟩⟩, since2, ⟨x12.good, gi2.ns⟩, fun s'' g'' k'' => ?_⟩
    · exact tup_rep r1 hf fun a ha => occN a (.inl (let ⟨o, e', _⟩ := hM' a ha; ⟨o, e'⟩))
    · refine tup_rep r1 hf fun a ha => ?_
      rcases List.mem_cons.mp ha with rfl | ha
      · exact occN _ (.inr (by simp))
      rcases List.mem_cons.mp ha with rfl | ha
      · exact occN _ (.inr (by simp))
      · exact occN a (.inl (let ⟨o, e', _⟩ := hM' a ha; ⟨o, e'⟩))
    · exact hkap .none s'' (hk s'' (gi2.move ge g'' fun o e' => k'' _ (by simp) o e') (hP _ _ hp2 fun b hb o e' => k'' b (List.mem_cons_of_mem _ hb) o e'))

/-- the iterators at place i -/
noncomputable def EI (e it : Addr) (x : Str) (xt : Tok) (i : Nat) (h : Heap) : Prop := (∃ old, IsEnum h e it (i : Int) old) ∧ h.IsStrIter it (strIterType x) x xt i
theorem EI.keep {i : Nat} (h h' : Heap) (z : EI e it x xt i h) (hk : ∀ b ∈ [e, it], ∀ o, h.get? b = some o → h'.get? b = some o) : EI e it x xt i h' := by
  refine Classical.byContradiction fun hQ => ?_
  obtain ⟨⟨old, a⟩, o, b, r⟩ := z
  (refine hQ ?_; clear hQ)
  exact ⟨⟨old, hk e (by simp) _ a⟩, o, hk it (by simp) _ b, r⟩
theorem EI.soft {i : Nat} (h : Heap) (z : EI e it x xt i h) : (∃ o, h.get? e = some o ∧ Soft o) ∧ ∃ o, h.get? it = some o ∧ Soft o := by
  refine Classical.byContradiction fun hQ => ?_
  obtain ⟨⟨old, a⟩, b⟩ := z
  (refine hQ ?_; clear hQ)
  exact ⟨soft_enum a, soft_strit b⟩
theorem EI.ext {i : Nat} {s s' : Shared} (z : EI e it x xt i s.heap) (y : SX W s s') : EI e it x xt i s'.heap := z.keep _ _ fun b hb o e' => y.keep b o e' (by
  have sf := z.soft
  rcases List.mem_cons.mp hb with rfl | hb
  · obtain ⟨o2, e2, e3⟩ := sf.1; rw [e'] at e2; cases e2; exact e3.1
  · obtain rfl := List.mem_singleton.mp hb
    obtain ⟨o2, e2, e3⟩ := sf.2; rw [e'] at e2; cases e2; exact e3.1)

theorem esc_loop (F : YF W sc env A x e it) (hgd : gd false = false) (ys : List PyData)
    (hend : ∀ (es : Bool) (po : Int) (ch : Slot) (s₀ s : Shared) c, GI W gamY env s (R4 x po es ch) → (es = true → po = ((x.cps.size - 1 : Nat) : Int)) → Snc [env.locals, e, it] s₀ s → (∃ pre, ys = pre ++ escG x.cps.size es []) → ((∃ old i, IsEnum s.heap e it i old) ∧ ∃ o, s.heap.get? it = some o ∧ Soft o) →
      Seg (model W.prog W.w) A (escR W env.locals e it) (escY W env.locals e it ys) (escG x.cps.size es []).length s₀ c (leafOf (.ok .next)) [loopFrame K H gd lv env (.func fb env) p] s) :
    ∀ (m i : Nat) (es : Bool) (po : Int) (ch : Slot) (s₀ s : Shared), i + m = x.cps.size → GI W gamY env s (R4 x po es ch) → (es = true → po = ((i - 1 : Nat) : Int)) → Snc [env.locals, e, it] s₀ s → ((∃ old, IsEnum s.heap e it i old) ∧ s.heap.IsStrIter it (strIterType x) x xt i) →
      (∃ pre, ys = pre ++ escG i es (x.cps.toList.drop i)) →
      Seg (model W.prog W.w) A (escR W env.locals e it) (escY W env.locals e it ys) (escG i es (x.cps.toList.drop i)).length s₀
        (.forLoop (yTgt q k) (.ref e) (yBody q k) [] env) ((model W.prog W.w).den (.forLoop (yTgt q k) (.ref e) (yBody q k) [] env)) [loopFrame K H gd lv env (.func fb env) p] s := by
  have hA : (A.over (.forLoop (yTgt q k) (.ref e) (yBody q k) [] env) [loopFrame K H gd lv env (.func fb env) p]).handled = none := F.hh
  have rm : Room (A.over (.forLoop (yTgt q k) (.ref e) (yBody q k) [] env) [loopFrame K H gd lv env (.func fb env) p]) 0 := ⟨hA, by show A.depth + 1 ≤ 960; have := F.depth; lia, by show A.units + 3 + 150 ≤ cLine; have := F.units; lia⟩
  have ge := F.ge
  refine Classical.byContradiction fun hQ => ?_
  obtain ⟨n1, n2, n3, n4, n5⟩ := ty_ok
  obtain ⟨g0, g1, g2, g3⟩ := gy
  (refine hQ ?_; clear hQ)
  have g2x := g2
  have hCn : env.locals ∉ [e, it] := fun z => by
    rcases List.mem_cons.mp z with z | z
    · exact F.el z.symm
    · exact F.il (List.mem_singleton.mp z).symm
  have D := drawsStr (prog := W.prog) (w := W.w) (A := (A.over (.forLoop (yTgt q k) (.ref e) (yBody q k) [] env) [loopFrame K H gd lv env (.func fb env) p]).in1) hA it x xt
  have WT := WalksT.enumerateD D e F.ne (by simpa using F.ne) (by simp)
  intro m
  induction m with
  | zero =>
    intro i es po ch s₀ s him gi hpo since hst hpre
    have hi : i = x.cps.size := by lia
    subst hi
    have hdrop : x.cps.toList.drop x.cps.size = [] := List.drop_of_length_le (by simp)
    rw [hdrop] at hpre ⊢
    refine Classical.byContradiction fun hQ => ?_
    obtain ⟨⟨old, he⟩, hit⟩ := hst
    (refine hQ ?_; clear hQ)
    refine seg_forLoop (fun E => enum_end hA he hit F.ne fun h' hx hsf => ?_)
    intro c
    have hk : ∀ b o, b ∉ [e, it] → s.heap.get? b = some o → h'.get? b = some o := fun b o hb e' => hx b o (fun z => hb (by rw [z]; simp)) e'
    have hs : ∀ b ∈ [e, it], ¬ W.stat b ∧ ∀ o, s.heap.get? b = some o → Soft o := fun b hb => by
      rcases List.mem_cons.mp hb with rfl | hb
      · obtain ⟨o, e1, e2⟩ := soft_enum he
        exact ⟨F.se, fun o' e' => by rw [e1] at e'; cases e'; exact e2⟩
      · rw [List.mem_singleton.mp hb]
        obtain ⟨o, e1, e2⟩ := soft_strit hit
        exact ⟨F.si, fun o' e' => by rw [e1] at e'; cases e'; exact e2⟩
    exact hend es po ch s₀ { s with heap := h' } c (gi.off ge (tk := s.toks) (off_good gi.good hk hs) hk hCn) hpo (since.step fun b o hb e' => hk b o (fun z => hb (List.mem_cons_of_mem _ z)) e') hpre ⟨⟨old, _, hx _ _ F.ne he⟩, hsf⟩
  | succ m ih =>
    intro i es po ch s₀ s him gi hpo since hst hpre
    have hlt : i < x.cps.size := by lia
    have hd : x.cps.toList.drop i = x.cps[i] :: x.cps.toList.drop (i + 1) := by
      rw [List.drop_eq_getElem_cons (by simpa using hlt)]; simp
    rw [hd] at hpre ⊢
    refine Classical.byContradiction fun hQ => ?_
    obtain ⟨⟨old, he⟩, hit⟩ := hst
    (refine hQ ?_; clear hQ)
    have hcok : x.cps[i] < 0x110000 := by
      have := F.xok
      unfold PyData.strOk at this
      rw [Array.all_eq_true] at this
      simpa using this i hlt
    have hs : ∀ b ∈ [e, it], ¬ W.stat b ∧ ∀ o, s.heap.get? b = some o → Soft o := fun b hb => by
      rcases List.mem_cons.mp hb with rfl | hb
      · obtain ⟨o, e1, e2⟩ := soft_enum he
        exact ⟨F.se, fun o' e' => by rw [e1] at e'; cases e'; exact e2⟩
      · rw [List.mem_singleton.mp hb]
        obtain ⟨o, e1, e2⟩ := soft_strit hit
        exact ⟨F.si, fun o' e' => by rw [e1] at e'; cases e'; exact e2⟩
    refine seg_forLoop (fun E => WT.item i s _ _ hlt ⟨⟨old, he⟩, hit⟩ fun T vals h1 tk1 hP hsz hT hMid hk1 => ?_)
    intro E1
    have gd1 := off_good (tk := tk1) gi.good hk1 hs
    have gi1 := gi.off ge (tk := tk1) gd1 hk1 hCn
    have hs1 : ∀ b ∈ [e, it], ¬ W.stat b ∧ ∀ o, h1.get? b = some o → Soft o := fun b hb => by
      obtain ⟨⟨x', ho⟩, hit', _⟩ := hMid
      rcases List.mem_cons.mp hb with rfl | hb
      · exact ⟨F.se, fun o' e' => by
          have ho : h1.get? b = some _ := ho
          rw [ho] at e'; cases e'
          exact ⟨fun t => (by cases t.1), fun vs q t hd => (by cases hd; intro z; cases z)⟩⟩
      · rw [List.mem_singleton.mp hb]
        obtain ⟨o, e1, e2⟩ := soft_strit hit'
        exact ⟨F.si, fun o' e' => by rw [e1] at e'; cases e'; exact e2⟩
    refine WT.go _ _ _ i T _ _ _ hMid fun h2 hst2 hk2 => ?_
    intro E2
    have gd2 := off_good (tk := tk1) gd1 hk2 hs1
    have gi2 := gi1.off ge (tk := tk1) gd2 hk2 hCn
    have hT2 : h2.IsTuple T vals := by
      obtain ⟨o, e1, r⟩ := hT
      exact ⟨o, hk2 T o (WT.apart _ _ _ hMid) e1, r⟩
    refine Classical.byContradiction fun hQ => ?_
    obtain ⟨tt, xv, ⟨c, u, hc, rfl⟩, rfl⟩ := hP
    (refine hQ ?_; clear hQ)
    have hcx : c = x.cps[i] := by rw [Array.getElem?_eq_getElem hlt] at hc; exact (Option.some.inj hc).symm
    subst hcx
    refine wpAny_assign_Tuple hA hT2 rfl rfl fun h3 hx3 => ?_
    have x3 : SX W { s with heap := h2, toks := tk1 } { s with heap := h3, toks := tk1 } := SX.heap gd2 fun b o e' => hx3 b o (fun z => by rw [z, fresh_none] at e'; cases e') e'
    have gi3 := gi2.ext ge x3
    show wpAny _ _ (do holding [Value.str ⟨#[x.cps[i]]⟩ u] (assign (.Name sPos (q 7)) env (.int (i : Int) tt)); assignInOrder [assign (.Name sCh (q 8)) env] [Value.str ⟨#[x.cps[i]]⟩ u]) _ _ _
    refine wpAny_bind (wpAny_holding (wpAny_assign_Name (GI.store ge gi3 g1 F.sy.pos (d := .int (i : Int)) rfl (.int _ _) fun h4 tk4 gi4 _ hk4 => ?_)))
    show wpAny _ _ (do holding [] (assign (.Name sCh (q 8)) env (.str ⟨#[x.cps[i]]⟩ u)); assignInOrder [] []) _ _ _
    refine wpAny_bind (wpAny_holding (wpAny_assign_Name (GI.store ge gi4 g3 F.sy.ch (d := .str ⟨#[x.cps[i]]⟩) rfl (.str _ _) fun h5 tk5 gi5 _ hk5 => wpAny_pure ?_)))
    have gi5 : GI W gamY env { s with heap := h5, toks := tk5 } (R4 x (i : Int) es (.sh (.d (.str ⟨#[x.cps[i]]⟩)))) := gi5
    have e5 : (∃ old, IsEnum h5 e it ((i + 1 : Nat) : Int) old) ∧ h5.IsStrIter it (strIterType x) x xt (i + 1) := by
      obtain ⟨⟨old', he'⟩, hit'⟩ := hst2
      have hx3' : ∀ b o, h2.get? b = some o → h3.get? b = some o := fun b o e' => hx3 b o (fun z => by rw [z, fresh_none] at e'; cases e') e'
      refine ⟨⟨old', hk5 _ _ F.el (hk4 _ _ F.el (hx3' _ _ he'))⟩, ?_⟩
      obtain ⟨o, e1, r⟩ := hit'
      exact ⟨o, hk5 _ _ F.il (hk4 _ _ F.il (hx3' _ _ e1)), r⟩
    have since5 : Snc [env.locals, e, it] s₀ { s with heap := h5, toks := tk5 } := since.step fun b o hN e' => by
      have hC : b ≠ env.locals := fun z => hN (by rw [z]; exact List.mem_cons_self)
      have hb : b ∉ [e, it] := fun z => hN (List.mem_cons_of_mem _ z)
      have := hk2 b o hb (hk1 b o hb e')
      exact hk5 b o hC (hk4 b o hC (hx3 b o (fun z => by rw [z, fresh_none] at this; cases this) this))
    clear gi4 gi3 gi2 gi1 gi hk4 hk5 hk1 hk2 hx3 x3 hT2 hT hMid gd1 gd2 hs hs1 hst2 since he hit
    have cx5 := gi5.cx ge rm
    -- the body
    refine seg_execs_cons (seg_If ?_)
    have tst : SndT W gamY sc (.Name sEsc (q 13)) (.var 2) := sndT_of (snd_var n2 g2) (plainTest_eq rfl)
    refine tst 0 _ _ _ env [] _ (.d (.bool es)) es _ _ cx5 rfl rfl fun s6 x6 => ?_
    have gi6 := gi5.ext ge x6
    have e6 : EI e it x xt (i + 1) s6.heap := EI.ext (s := { s with heap := h5, toks := tk5 }) e5 x6
    have since6 := since5.ext x6
    have loop : ∀ (es : Bool) s₀ s'', GI W gamY env s'' (R4 x (i : Int) es (.sh (.d (.str ⟨#[x.cps[i]]⟩)))) → EI e it x xt (i + 1) s''.heap → Snc [env.locals, e, it] s₀ s'' → (∃ pre, ys = pre ++ escG (i + 1) es (x.cps.toList.drop (i + 1))) →
        Seg (model W.prog W.w) A (escR W env.locals e it) (escY W env.locals e it ys) (escG (i + 1) es (x.cps.toList.drop (i + 1))).length s₀
          (.forLoop (yTgt q k) (.ref e) (yBody q k) [] env) (.pure (.again (.forLoop (yTgt q k) (.ref e) (yBody q k) [] env))) [loopFrame K H gd lv env (.func fb env) p] s'' :=
      fun es s₀ s'' g1 g2 g3 g4 => seg_again rfl (ih (i + 1) es (i : Int) _ s₀ s'' (by lia) g1 (fun _ => by simp) g3 g2 g4)
    have setEsc : ∀ (b : Bool) (kk : Nat) (p1 p2 p3 : Pos) (es : Bool) s₀ s'' (K' : Flow → Sem Fin) (H' : Value → Sem Fin) gd' lv' n, GI W gamY env s'' (R4 x (i : Int) es (.sh (.d (.str ⟨#[x.cps[i]]⟩)))) → EI e it x xt (i + 1) s''.heap → Snc [env.locals, e, it] s₀ s'' →
        (∀ s3, GI W gamY env s3 (R4 x (i : Int) b (.sh (.d (.str ⟨#[x.cps[i]]⟩)))) → EI e it x xt (i + 1) s3.heap → Snc [env.locals, e, it] s₀ s3 → Seg (model W.prog W.w) A (escR W env.locals e it) (escY W env.locals e it ys) n s₀ (.forLoop (yTgt q k) (.ref e) (yBody q k) [] env) (K' .next) [loopFrame K H gd lv env (.func fb env) p] s3) →
        Seg (model W.prog W.w) A (escR W env.locals e it) (escY W env.locals e it ys) n s₀ (.forLoop (yTgt q k) (.ref e) (yBody q k) [] env) ((exec (.Assign [.Name sEsc p1] (.Constant (.bool b) kk p2) p3) env).wrap K' H' gd' lv') [loopFrame K H gd lv env (.func fb env) p] s'' :=
      fun b kk p1 p2 p3 es s₀ s'' K' H' gd' lv' n g1 g2 g3 hk => seg_wrap (wpAny_Assign_Name (wpAny_Constant_bool (GI.store ge g1 g2x F.sy.esc (d := .bool b) rfl (.bool _) fun h' tk gi' _ hk' =>
        hk { s'' with heap := h', toks := tk } gi' (g2.keep _ _ fun b' hb' o e' => hk' b' o (fun z => hCn (by rw [← z]; exact hb')) e') (g3.step fun b' o hb' e' => hk' b' o (fun z => hb' (by rw [z]; exact List.mem_cons_self)) e'))))
    cases es with
    | true =>
      have hrem : escG i true (x.cps[i] :: x.cps.toList.drop (i + 1)) = .tuple [.int (i : Int), .str ⟨#[92, x.cps[i]]⟩] :: escG (i + 1) false (x.cps.toList.drop (i + 1)) := rfl
      rw [hrem] at hpre ⊢
      rw [if_pos rfl]
      refine seg_execs_cons ?_
      refine seg_yield_tup F (EI e it x xt (i + 1)) EI.keep EI.soft rm rfl rfl (by simp [loopFrame, Frame.guarded, hgd]) gi6 e6 since6
        (.cons rfl (snd_var n1 g1) (.cons rfl (snd_bin snd_str (snd_var n3 g3)) .nil)) ?_ rfl (by simp) hpre fun s'' gi'' e'' => ?_
      · have hb : bs = ⟨#[92]⟩ := by decide +kernel
        have e1 : vbin .Add (.d (.str bs)) (.d (.str ⟨#[x.cps[i]]⟩)) = some (.d (.str ⟨#[92, x.cps[i]]⟩)) := by
          rw [hb]; rfl
        show (Option.bind (some (V.d (.int (i : Int)))) fun x0 => (toD x0).bind fun y => Option.map (y :: ·) (Option.bind ((vbin .Add (.d (.str bs)) (.d (.str ⟨#[x.cps[i]]⟩)))) fun x1 => (toD x1).bind fun y => some [y])) = _
        rw [e1]; rfl
      · obtain ⟨pre, hpre⟩ := hpre
        exact seg_execs_cons (setEsc false _ _ _ _ true s'' s'' _ _ _ _ _ gi'' e'' Snc.refl fun s3 g3 e3 since3 => loop false s'' s3 g3 e3 since3 ⟨pre ++ [.tuple [.int (i : Int), .str ⟨#[92, x.cps[i]]⟩]], by rw [hpre]; simp⟩)
    | false =>
      rw [if_neg Bool.false_ne_true]
      refine seg_execs_cons (seg_If ?_)
      have tst2 : SndT W gamY sc (.Compare (.Name sCh (q 24)) [.Eq] [.Constant (.str bs) (k 7) (q 25)] (q 26)) (.cmp .Eq (.var 3) (.lit (.str bs))) := sndT_cmp (snd_var n3 g3) snd_str rfl
      refine tst2 0 _ _ s6 env [] _ (.d (.bool (decide (x.cps[i] = 92)))) (decide (x.cps[i] = 92)) _ _ (gi6.cx ge rm) ?_ rfl fun s7 x7 => ?_
      · exact b_of rfl (b_of rfl (b_of rfl (b_of rfl (b_of (eqv_bs hcok) rfl))))
      · have gi7 := gi6.ext ge x7
        have e7 := EI.ext e6 x7
        have since7 := since6.ext x7
        by_cases h92 : x.cps[i] = 92
        · have hrem : escG i false (x.cps[i] :: x.cps.toList.drop (i + 1)) = escG (i + 1) true (x.cps.toList.drop (i + 1)) := by
            conv => lhs; unfold escG
            rw [if_pos h92]
          rw [hrem] at hpre ⊢
          rw [if_pos (decide_eq_true h92)]
          exact seg_execs_cons (setEsc true _ _ _ _ false s₀ s7 _ _ _ _ _ gi7 e7 since7 fun s3 g3 e3 since3 => loop true s₀ s3 g3 e3 since3 hpre)
        · have hrem : escG i false (x.cps[i] :: x.cps.toList.drop (i + 1)) = .tuple [.int (i : Int), .str ⟨#[x.cps[i]]⟩] :: escG (i + 1) false (x.cps.toList.drop (i + 1)) := by
            conv => lhs; unfold escG
            rw [if_neg h92]
          rw [hrem] at hpre ⊢
          rw [if_neg (by simpa using h92)]
          refine seg_execs_cons ?_
          refine seg_yield_tup F (EI e it x xt (i + 1)) EI.keep EI.soft rm rfl rfl (by simp [loopFrame, Frame.guarded, hgd]) gi7 e7 since7
            (.cons rfl (snd_var n1 g1) (.cons rfl (snd_var n3 g3) .nil)) rfl rfl (by simp) hpre fun s'' gi'' e'' => ?_
          obtain ⟨pre, hpre⟩ := hpre
          exact loop false s'' s'' gi'' e'' Snc.refl ⟨pre ++ [.tuple [.int (i : Int), .str ⟨#[x.cps[i]]⟩]], by rw [hpre]; simp⟩
end
end Mine
end
section
open PySem PySem.W PyProof.Rows
set_option maxRecDepth 4000
namespace Mine

section
variable {W : Wd} {sc : Scope} {env : Env} {q : Nat → Pos} {k : Nat → Nat} {x : Str} {A : Around}

noncomputable def R0 (x : Str) : Ev := [.sh (.d (.str x)), .un, .un, .un]

theorem esc_func (ge : GE W gamY sc env) (sy : ScY sc) (hh : A.handled = none) (depth : A.depth ≤ 910) (units : A.units + 170 ≤ cLine) (xok : PyData.strOk x = true) (xsz : szOk x.length = true) (hb : (sEnum, Value.type "enumerate") ∈ W.blts)
    {s : Shared} (gi : GI W gamY env s (R0 x)) :
    Seg (model W.prog W.w) A (escR W env.locals (s.heap.objs.size + 1) s.heap.objs.size) (escY W env.locals (s.heap.objs.size + 1) s.heap.objs.size (escG 0 false x.cps.toList)) (escG 0 false x.cps.toList).length s
      (.func (yAll q k) env) ((model W.prog W.w).den (.func (yAll q k) env)) [] s := by
  refine Classical.byContradiction fun hQ => ?_
  obtain ⟨n1, n2, n3, n4, n5⟩ := ty_ok
  obtain ⟨g0, g1, g2, g3⟩ := gy
  (refine hQ ?_; clear hQ)
  have rm : Room (A.over (.func (yAll q k) env) []) 0 := ⟨hh, by show A.depth + 1 ≤ 960; lia, by show A.units + 3 + 150 ≤ cLine; lia⟩
  have hCs : env.locals < s.heap.objs.size := by obtain ⟨m, n⟩ := gi.ns; exact n.lt
  generalize hit : s.heap.objs.size = it
  rw [hit] at hCs
  have fr : ∀ a, it ≤ a → s.heap.get? a = none := fun a ha => Heap.get?_none_of_le (by rw [hit]; exact ha)
  have F : YF W sc env A x (it + 1) it := ⟨ge, sy, hh, depth, units, Nat.succ_ne_self _, Nat.ne_of_gt (Nat.lt_succ_of_lt hCs), Nat.ne_of_gt hCs,
    fun z => (by obtain ⟨o, e⟩ := W.occ gi.good.ok z; rw [fr _ (Nat.le_succ _)] at e; cases e), fun z => (by obtain ⟨o, e⟩ := W.occ gi.good.ok z; rw [fr _ (Nat.le_refl _)] at e; cases e), xok, xsz⟩
  refine seg_func ?_
  show Seg _ _ _ _ _ _ _ ((execs (_ :: _ :: _ :: yEnd q k) env).wrap _ _ _ _) _ _
  refine seg_execs_cons (seg_wrap (wpAny_Assign_Name (wpAny_Constant_int (GI.store ge (gi.ext ge (SX.toks gi.good)) g1 sy.pos (d := .int 0) rfl (.int _ _) fun h1 tk1 gi1 z1 k1 => ?_))))
  refine seg_execs_cons (seg_wrap (wpAny_Assign_Name (wpAny_Constant_bool (GI.store ge gi1 g2 sy.esc (d := .bool false) rfl (.bool _) fun h2 tk2 gi2 z2 k2 => ?_))))
  have gi2 : GI W gamY env { s with heap := h2, toks := tk2 } (R4 x 0 false .un) := gi2
  have hz : h2.objs.size = it := by rw [z2]; exact z1.trans hit
  refine seg_execs_cons (seg_For (fun _ => rfl) ?_)
  have hv := gi2.vis sAddr 0 g0 _ rfl
  refine Classical.byContradiction fun hQ => ?_
  obtain ⟨_, val, hv1, hv2⟩ := hv
  obtain ⟨xt, rfl⟩ := str_self hv2
  (refine hQ ?_; clear hQ)
  refine callee_in gi2.good ge.so.ek n5 sy.enum (.inr (W.bltG _ hb)) ?_
  refine callWith_type1 (Calls.spliced_cons (load_var n4 (scope_fn ge.so.ek) hv1 (Calls.spliced_nil ?_)))
  refine call_enumerate_str fun h3 he3 hs3 z3 k3 => ?_
  rw [show ({ s with heap := h2, toks := tk2 } : Shared).heap.objs.size = it from hz] at he3 hs3 z3 ⊢
  refine wpAny_pyIter_enum he3 fun p => ?_
  have x3 : SX W { s with heap := h2, toks := tk2 } { s with heap := h3, toks := tk2 } := SX.heap gi2.good k3
  have gi3 := gi2.ext ge x3
  have since3 : Snc [env.locals, it + 1, it] s { s with heap := h3, toks := tk2 } := Snc.refl.step fun b o hb' e' => k3 b o (k2 b o (fun z => hb' (by rw [z]; simp)) (k1 b o (fun z => hb' (by rw [z]; simp)) e'))
  refine esc_loop F rfl _ ?_ x.cps.size 0 false 0 .un s _ (by lia) gi3 (fun z => by cases z) since3 ⟨⟨.none, he3⟩, hs3⟩ ⟨[], rfl⟩
  intro es po ch s₀ s' c gi' hpo since' hpre hP
  refine seg_leaf (.ok .next) ?_
  show Seg _ _ _ _ _ _ _ ((execs (yEnd q k) env).wrap _ _ _ _) _ _
  refine seg_execs_cons (seg_If ?_)
  have tst : SndT W gamY sc (.Name sEsc (q 38)) (.var 2) := sndT_of (snd_var n2 g2) (plainTest_eq rfl)
  refine tst 0 _ _ s' env [] _ (.d (.bool es)) es _ _ (gi'.cx ge rm) rfl rfl fun s6 x6 => ?_
  have gi6 := gi'.ext ge x6
  have since6 := since'.ext x6
  let P : Heap → Prop := fun h => (∃ old i, IsEnum h (it + 1) it i old) ∧ ∃ o, h.get? it = some o ∧ Soft o
  have hPs : ∀ h, P h → (∃ o, h.get? (it + 1) = some o ∧ Soft o) ∧ ∃ o, h.get? it = some o ∧ Soft o := fun h z => ⟨(by obtain ⟨⟨old, i, a⟩, _⟩ := z; exact soft_enum a), z.2⟩
  have hPk : ∀ h h', P h → (∀ b ∈ [it + 1, it], ∀ o, h.get? b = some o → h'.get? b = some o) → P h' := fun h h' z hk => by
    obtain ⟨⟨old, i, a⟩, o, b, r⟩ := z
    exact ⟨⟨old, i, hk _ (by simp) _ a⟩, o, hk _ (by simp) _ b, r⟩
  have hP6 : P s6.heap := hPk _ _ hP fun b hb o e' => x6.keep b o e' (by
    have sf := hPs _ hP
    rcases List.mem_cons.mp hb with rfl | hb
    · obtain ⟨o2, e2, e3⟩ := sf.1; rw [e'] at e2; cases e2; exact e3.1
    · obtain rfl := List.mem_singleton.mp hb
      obtain ⟨o2, e2, e3⟩ := sf.2; rw [e'] at e2; cases e2; exact e3.1)
  cases es with
  | false =>
    rw [if_neg Bool.false_ne_true]
    exact seg_end (.ok (.ret .none)) ⟨rfl, rfl, since6, gi6.good⟩
  | true =>
    rw [if_pos rfl]
    have hrem : escG x.cps.size true [] = [.tuple [.int ((x.cps.size - 1 : Nat) : Int), .str ⟨#[92]⟩]] := rfl
    rw [hrem] at hpre ⊢
    have hb' : bs = ⟨#[92]⟩ := by decide +kernel
    refine seg_execs_cons ?_
    refine seg_yield_tup (rem := []) F P hPk hPs rm rfl rfl rfl gi6 hP6 since6 (.cons rfl (snd_var n1 g1) (.cons rfl snd_str .nil)) ?_ rfl (by simp) hpre fun s'' gi'' e'' => ?_
    · rw [← hpo rfl, ← hb']; rfl
    · exact seg_end (.ok (.ret .none)) ⟨rfl, rfl, Snc.refl, gi''.good⟩
end
end Mine
end
section
open PySem PySem.W PyProof.Rows
set_option maxRecDepth 4000
namespace Mine

section
variable {prog : Program} {w : World} {A : Around} {E : Value → Shared → Prop} {s : Shared}

theorem pyNext_esc {a : Addr} {g n : Nat} {gs : GenState} {P : Nat → Shared → Shared → Prop} {Y : Protocol} {Q : Option Value → Shared → Prop} (hh : A.handled = none)
    (hl : s.heap.NoLimit) (hroom : A.depth < recursionLimit)
    (hg : s.heap.IsGen a g) (hgs : s.gens[g]? = some gs)
    (hgo : gs.Goes (model prog w) A.in1 (fun n s₀ r s₁ => r = .ok (.ret .none) ∧ P n s₀ s₁) Y n (.send .none) (s.setGen g .running))
    (hY : ∀ v s₁ gs', gs'.bare = true → Y (n - 1) (s.setGen g .running) v s₁ (fun r' s'' => match n with
        | 0 => False
        | m + 1 => gs'.Goes (model prog w) A.in1 (fun n s₀ r s₁ => r = .ok (.ret .none) ∧ P n s₀ s₁) Y m r' s'') → Q (some v) (s₁.setGen g gs'))
    (hP : ∀ s₁, P n (s.setGen g .running) s₁ → ∀ h', (∀ b o, s₁.heap.get? b = some o → h'.get? b = some o) → Q none { s₁.setGen g .finished with heap := h' }) :
    wpAny (model prog w) A (pyNext (.ref a)) Q E s := by
  unfold pyNext
  refine wpAny_bind (wpAny_attempt (wpAny_callSpecial?_slot (name := Str.ofString "__next__") hg.typeIs slot_gen_next
    (wpAny_call_entry slot_gen_next hg.typeIs entry_gen_next ?_ (args_gen_next _))))
  show wpAny _ A.in1 (Builtin.Generator.genWake (.ref a) (.send .none)) _ _ s
  unfold Builtin.Generator.genWake
  refine wpAny_bind (wpAny_holding (wpAny_genNumber hg (wpAny_bind (wpAny_genState hgs ?_))))
  cases gs with
  | running => exact hgo.elim
  | finished => exact hgo.elim
  | _ =>
    refine wpAny_bind (wpAny_roomToWake hl hroom ?_)
    show wpAny _ A.in1 (.resume g (.send .none) [] _) _ _ s
    refine wpAny_resumeQ hgs hgo (fun x s₁ hx => ?_) (fun v s₁ gs' hb hv => ?_)
    · obtain ⟨rfl, hp⟩ := hx
      show wpAny _ A.in1 (newExc (.type "StopIteration") [] >>= _) _ _ _
      refine wpAny_bind ?_
      simp only [newExc, newTuple]
      refine wpAny_bind (wpAny_newObj_type ?_ (by size_fits))
      refine wpAny_bind (m := firstArgMember _ _) (wpAny_of_eq (a := Value.none) (by first | rfl | (simp only [firstArgMember]; rfl)) ?_)
      refine wpAny_newObj_type ?_ (by size_fits)
      simp only [raiseNew]
      refine wpAny_bind (wpAny_bind (wpAny_handled ?_))
      first | rw [show A.in1.handled = none from hh] | rw [hh]
      refine wpAny_throw ?_
      refine wpAny_bind (wpAny_isInstance (T := "StopIteration") (b := true) ⟨_, Heap.get?_push_size _ rfl, rfl⟩ isSubtype_stop ?_)
      exact wpAny_pure (hP s₁ hp _ fun b o hb => Heap.get?_push_of_some _ (Heap.get?_push_of_some _ hb))
    · exact wpAny_pure ⟨v, rfl, wpAny_pure (hY v s₁ gs' hb hv)⟩
end

theorem cells_nil : ∀ (names : List (Str × NameKind)) (n : Nat), (∀ p ∈ names, p.2 ≠ .cell) → cellsFrom n names [] = []
  | [], _, _ => rfl
  | (x, k) :: r, n, h => by
    unfold cellsFrom
    have : ¬ (k == NameKind.cell) = true := fun q => h (x, k) List.mem_cons_self (eq_of_beq q)
    rw [if_neg this]
    exact cells_nil r n fun p hp => h p (List.mem_cons_of_mem _ hp)

structure GenFn (W : Wd) (a : Addr) (fd : FuncData) (q : Nat → Pos) (k : Nat → Nat) : Prop where
  at_ : ∀ {h}, W.ok h → ∃ o, h.get? a = some o ∧ o.data = .func fd
  cd : ∀ {h}, W.ok h → h.CodeRec fd.code fd.qualname
  body : fd.body = .stmts (yAll q k)
  sc : ScY fd.scope
  clo : fd.closure = []
  glob : fd.globals = mainGlobals
  blt : fd.builtins = builtinsNs
  bind : ∀ v : Value, bindArgs fd ⟨[v], []⟩ = pure [(sAddr, v)]

section
variable {W : Wd} {fd : FuncData} {a : Addr} {q : Nat → Pos} {k : Nat → Nat}

theorem gamY_inj {x y : Str} {i : Nat} (h1 : gamY.vars.lookup x = some i) (h2 : gamY.vars.lookup y = some i) : x = y := by
  obtain ⟨_, h1⟩ := numbered_get (n := 0) h1
  obtain ⟨_, h2⟩ := numbered_get (n := 0) h2
  rw [h1] at h2; exact Option.some.inj h2

theorem gi_of {env : Env} {s : Shared} {x : Str} {t : Tok} {m : Str → Option Value} (g : Good W s) (n : s.heap.Ns env.locals m) (e : m sAddr = some (.str x t)) (hk : env.kindOf sAddr = some .local) : GI W gamY env s (R0 x) := by
  refine ⟨g, ⟨m, n⟩, fun y i hy sl hs => ?_, fun sl hs => ?_, rfl⟩
  · have hlt : i < 4 := (List.getElem?_eq_some_iff.mp hs).1
    rcases i with _ | _ | _ | _ | i
    · cases hs
      have := gamY_inj hy gy.1
      subst this
      exact ⟨rfl, _, .inl ⟨hk, m, n, e⟩, .str _ _⟩
    · cases hs; trivial
    · cases hs; trivial
    · cases hs; trivial
    · lia
  · simp only [R0, List.mem_cons, List.not_mem_nil, or_false] at hs
    rcases hs with rfl | rfl | rfl | rfl <;> rfl
end
end Mine
end
section
open PySem PySem.W PyProof.Rows
set_option maxRecDepth 4000
namespace Mine

section
variable {W : Wd} {fd : FuncData} {a : Addr} {q : Nat → Pos} {k : Nat → Nat}

theorem setGen_other {s : Shared} {g i : Nat} {x : GenState} (h : i ≠ g) : (s.setGen g x).gens[i]? = s.gens[i]? := by
  simp [Shared.setGen, Ne.symm h]
theorem setGen_good {s : Shared} {g : Nat} {x : GenState} (h : Good W s) (hx : x.bare = true) : Good W (s.setGen g x) := by
  refine ⟨h.ok, fun y hy => ?_⟩
  rcases Array.mem_or_eq_of_mem_setIfInBounds hy with q | rfl
  · exact h.bare y q
  · exact hx

/-- the generator under way -/
structure GSt (W : Wd) (env : Env) (x : Str) (ys : List PyData) (s₁ : Shared) (A : Around) (body : List Stmt) (I : Addr) (γ : Nat) (i : Nat) (N : List Addr) (s : Shared) : Prop where
  gen : s.heap.IsGen I γ
  ns : ∃ m t, s.heap.Ns env.locals m ∧ (N = [env.locals, I] → m sAddr = some (.str x t))
  old : ∀ b ∈ N, s₁.heap.get? b = none ∧ ∃ o, s.heap.get? b = some o ∧ ¬ TabLike o
  occ : ∀ b o, s₁.heap.get? b = some o → ∃ o', s.heap.get? b = some o'
  le : s₁.gens.size ≤ γ
  run : ∃ gs, s.gens[γ]? = some gs ∧ ((i = 0 ∧ N = [env.locals, I] ∧ gs = .fresh (.func body env)) ∨
     ∃ e it, N = [e, it, env.locals, I] ∧ I ≠ e ∧ I ≠ it ∧ ∀ s'' : Shared, Good W s'' → (∀ b ∈ [env.locals, e, it], ∀ o, s.heap.get? b = some o → s''.heap.get? b = some o) →
        gs.Goes (model W.prog W.w) A.in1 (escR W env.locals e it) (escY W env.locals e it ys) (ys.length - i) (.send .none) s'')

/-- where the three objects of a run lie, told against N -/
structure Off (C e it I : Addr) (N : List Addr) (s : Shared) : Prop where
  ne : I ≠ e
  nit : I ≠ it
  or : (N = [C, I] ∧ s.heap.get? e = none ∧ s.heap.get? it = none) ∨ N = [e, it, C, I]

theorem mem3 {C e it b : Addr} (h : b ∈ [C, e, it]) : b = C ∨ b = e ∨ b = it := by
  rcases List.mem_cons.mp h with z | z
  · exact .inl z
  · rcases List.mem_cons.mp z with z | z
    · exact .inr (.inl z)
    · exact .inr (.inr (List.mem_singleton.mp z))
theorem Off.off {C e it I : Addr} {N : List Addr} {s : Shared} (h : Off C e it I N s) {b : Addr} {o : Obj} (hb : b ∉ N) (e' : s.heap.get? b = some o) : b ∉ [C, e, it] := fun z => by
  rcases h.or with ⟨hn, f1, f2⟩ | hn <;> rw [hn] at hb <;> rcases mem3 z with z | z | z
  · exact hb (z ▸ List.mem_cons_self ..)
  · rw [z, f1] at e'; cases e'
  · rw [z, f2] at e'; cases e'
  · exact hb (z ▸ .tail _ (.tail _ (.head _)))
  · exact hb (z ▸ .head _)
  · exact hb (z ▸ .tail _ (.head _))
theorem Off.offI {C e it I : Addr} {N : List Addr} {s : Shared} (h : Off C e it I N s) (hCI : C ≠ I) : I ∉ [C, e, it] := fun z =>
  (mem3 z).elim (fun z => hCI z.symm) fun z => z.elim h.ne h.nit
theorem Off.new {C e it I : Addr} {N : List Addr} {s s₁ : Shared} (h : Off C e it I N s) (old : ∀ b ∈ N, s₁.heap.get? b = none ∧ ∃ o, s.heap.get? b = some o ∧ ¬ TabLike o) (occ : ∀ b o, s₁.heap.get? b = some o → ∃ o', s.heap.get? b = some o')
    {b : Addr} (hb : b ∈ [e, it, C, I]) : s₁.heap.get? b = none := by
  have none1 : ∀ b, s.heap.get? b = none → s₁.heap.get? b = none := fun b hb => by
    cases z : s₁.heap.get? b with
    | none => rfl
    | some o => obtain ⟨o', e'⟩ := occ b o z; rw [hb] at e'; cases e'
  rcases h.or with ⟨hn, f1, f2⟩ | hn
  · rw [hn] at old
    rcases List.mem_cons.mp hb with z | z
    · rw [z]; exact none1 _ f1
    · rcases List.mem_cons.mp z with z | z
      · rw [z]; exact none1 _ f2
      · exact (old b z).1
  · rw [hn] at old; exact (old b hb).1

section
variable {sc : Scope} {env : Env} {x : Str} {ys : List PyData} {s₁ s₂ : Shared} {A : Around} {I : Addr} {γ : Nat} {M : List Addr}

theorem gst_start (ge : GE W gamY sc env) (sy : ScY sc) (hh : A.handled = none) (depth : A.depth ≤ 900) (units : A.units + 200 ≤ cLine) (xok : PyData.strOk x = true) (xsz : szOk x.length = true)
    (hb : (sEnum, Value.type "enumerate") ∈ W.blts) (hys : escG 0 false x.cps.toList = ys) {i : Nat} {N : List Addr} {s : Shared} (g : Good W s) (st : GSt W env x ys s₁ A (yAll q k) I γ i N s) :
    ∃ gs e it, s.gens[γ]? = some gs ∧ gs.Goes (model W.prog W.w) A.in1 (escR W env.locals e it) (escY W env.locals e it ys) (ys.length - i) (.send .none) (s.setGen γ .running) ∧ Off env.locals e it I N s := by
  obtain ⟨gs, h4, h5⟩ := st.run
  have gr : Good W (s.setGen γ .running) := setGen_good g rfl
  rcases h5 with ⟨hi, hn, hgs⟩ | ⟨e, it, hn, hIe, hIt, hgo⟩
  · obtain ⟨m, t, n, hm⟩ := st.ns
    have hI : I < s.heap.objs.size := by obtain ⟨o, _, _, e', _⟩ := st.gen; exact Heap.lt_size e'
    refine ⟨gs, s.heap.objs.size + 1, s.heap.objs.size, h4, ?_, Nat.ne_of_lt (Nat.lt_succ_of_lt hI), Nat.ne_of_lt hI, .inl ⟨hn, Heap.get?_none_of_le (Nat.le_succ _), fresh_none _⟩⟩
    rw [hgs, hi]
    refine ⟨rfl, ?_⟩
    have hkl : env.kindOf sAddr = some .local := by rw [kindOf_eq ge.so.ek]; exact sy.addr
    have := esc_func (q := q) (k := k) (A := A.in1) (s := s.setGen γ .running) ge sy hh (Nat.le_trans depth (by decide)) (by show A.units + 1 + 170 ≤ cLine; lia) xok xsz hb (gi_of gr n (hm hn) hkl)
    rw [hys] at this
    exact this
  · exact ⟨gs, e, it, h4, hgo _ gr (fun _ _ _ e' => e'), hIe, hIt, .inr hn⟩

/-- what a turn leaves of the heap -/
theorem gst_sd {C e it : Addr} {N : List Addr} {s s₃ : Shared} {gs : GenState} (le : s₁.gens.size ≤ γ) (off : Off C e it I N s) (hsn : Snc [C, e, it] (s.setGen γ .running) s₃) (occ3 : ∀ b o, b ∉ N → s.heap.get? b = some o → ∃ o', s₃.heap.get? b = some o')
    (hg3 : Good W s₃) (hbare : gs.bare = true) : Sd W N s₁.gens.size s (s₃.setGen γ gs) :=
  ⟨fun b o hb e' nt => hsn.keep b o (off.off hb e') e' nt, occ3, hsn.os, fun j g' hj e' => by
    have hjg : j ≠ γ := Nat.ne_of_lt (Nat.lt_of_lt_of_le hj le)
    rw [setGen_other hjg]
    exact hsn.gens j g' (by rw [setGen_other hjg]; exact e'), setGen_good hg3 hbare⟩

theorem gst_frame {i : Nat} {N : List Addr} {s s' : Shared} (st : GSt W env x ys s₁ A (yAll q k) I γ i N s) (hk : ∀ b ∈ N, ∀ o, s.heap.get? b = some o → s'.heap.get? b = some o) (hgens : ∀ (k : Nat) g, s.gens[k]? = some g → s'.gens[k]? = some g)
    (hoc : ∀ b o, s.heap.get? b = some o → ∃ o', s'.heap.get? b = some o') : GSt W env x ys s₁ A (yAll q k) I γ i N s' := by
  obtain ⟨gs, h4, h5⟩ := st.run
  have hI : I ∈ N := by rcases h5 with ⟨_, h, _⟩ | ⟨e, it, h, _⟩ <;> rw [h] <;> simp
  have hC : env.locals ∈ N := by rcases h5 with ⟨_, h, _⟩ | ⟨e, it, h, _⟩ <;> rw [h] <;> simp
  refine ⟨?_, ?_, fun b hb => (st.old b hb).imp id fun h => h.imp fun o h => ⟨hk _ hb _ h.1, h.2⟩, fun b o e' => (st.occ b o e').elim fun o' => hoc b o', st.le, gs, hgens _ _ h4, h5.imp id ?_⟩
  · obtain ⟨o, nm, qn, e', r⟩ := st.gen; exact ⟨o, nm, qn, hk _ hI _ e', r⟩
  · obtain ⟨m, t, ⟨o, es, ep, e', r⟩, hm⟩ := st.ns; exact ⟨m, t, ⟨o, es, ep, hk _ hC _ e', r⟩, hm⟩
  · rintro ⟨e, it, hn, a1, a2, hgo⟩
    refine ⟨e, it, hn, a1, a2, fun s'' g'' k'' => hgo s'' g'' fun b hb o e' => k'' b hb o (hk b ?_ o e')⟩
    rw [hn]
    rcases mem3 hb with z | z | z
    · exact z ▸ .tail _ (.tail _ (.head _))
    · exact z ▸ .head _
    · exact z ▸ .tail _ (.head _)

theorem gen_its (ge : GE W gamY sc env) (sy : ScY sc) (hh : A.handled = none) (depth : A.depth ≤ 900) (units : A.units + 200 ≤ cLine) (xok : PyData.strOk x = true) (xsz : szOk x.length = true)
    (hb : (sEnum, Value.type "enumerate") ∈ W.blts) (hCI : env.locals ≠ I) (x12 : SX W s₁ s₂) (hys : escG 0 false x.cps.toList = ys) (st0 : GSt W env x ys s₁ A (yAll q k) I γ 0 [env.locals, I] s₂) :
    ItS W A M s₁ s₂ I ys [env.locals, I] [] (GSt W env x ys s₁ A (yAll q k) I γ) := by
  refine ⟨fun i N s d Q E hd g st h => ?_, fun N s Q E g st h => ?_, fun i N s s' st hk hgens hoc => gst_frame st (fun b hb => hk b (List.mem_append_left _ hb)) hgens hoc, st0, fun i N s st b hb => (st.old b hb).1, fun i N s st b hb => (st.old b hb).2, x12, fun b hb => by cases hb⟩
  · obtain ⟨gs, e, it, hgs, hgo, off⟩ := gst_start ge sy hh depth units xok xsz hb hys g st
    clear ge sy xok xsz hb hys st0 units
    have hlt : i < ys.length := (List.getElem?_eq_some_iff.mp hd).1
    refine pyNext_esc hh (W.lim g.ok) (Nat.lt_of_le_of_lt depth (by decide)) st.gen hgs hgo (fun v s₃ gs' hbare hY => ?_) (fun s₃ hP => absurd hP.1 (Nat.sub_ne_zero_of_lt hlt))
    obtain ⟨⟨d', hd', ⟨hne, he, hit⟩, hrep⟩, hsn, ⟨hg3, m3, hns3⟩, hcont⟩ := hY
    rw [show ys.length - 1 - (ys.length - i - 1) = i by lia] at hd'
    have hdd : d' = d := Option.some.inj (hd'.symm.trans hd)
    rw [hdd] at hrep
    clear hd' hdd hd
    have occ3 : ∀ b o, s.heap.get? b = some o → ∃ o', s₃.heap.get? b = some o' := fun b o e' => by
      by_cases z : b ∈ [env.locals, e, it]
      · rcases mem3 z with z | z | z
        · rw [z]; obtain ⟨o, es, ep, e', _⟩ := hns3; exact ⟨o, e'⟩
        · rw [z]; exact he.imp fun _ h => h.1
        · rw [z]; exact hit.imp fun _ h => h.1
      · exact hsn.occ b o z e'
    have sd : Sd W N s₁.gens.size s (s₃.setGen γ gs') := gst_sd st.le off hsn (fun b o _ => occ3 b o) hg3 hbare
    have hgenI : s₃.heap.IsGen I γ := by
      obtain ⟨o, nm, qn, e', hc, r⟩ := st.gen
      exact ⟨o, nm, qn, hsn.keep I o (off.offI hCI) e' (fun t => by have := t.1; rw [hc] at this; cases this), hc, r⟩
    have st' : GSt W env x ys s₁ A (yAll q k) I γ (i + 1) [e, it, env.locals, I] (s₃.setGen γ gs') := by
      refine ⟨hgenI, ⟨m3, 0, hns3, fun z => by cases z⟩, fun b hb => ⟨off.new st.old st.occ hb, ?_⟩, fun b o e' => (st.occ b o e').elim fun o' => occ3 b o', st.le, gs', setGen_self (hsn.gens γ _ (setGen_self hgs)), .inr ⟨e, it, rfl, off.ne, off.nit, fun s'' g'' k'' => ?_⟩⟩
      · rcases List.mem_cons.mp hb with z | hb
        · rw [z]; exact he.imp fun o h => ⟨h.1, h.2.1⟩
        rcases List.mem_cons.mp hb with z | hb
        · rw [z]; exact hit.imp fun o h => ⟨h.1, h.2.1⟩
        rcases List.mem_cons.mp hb with z | hb
        · rw [z]; exact ns_notTab hns3
        · rw [List.mem_singleton.mp hb]
          obtain ⟨o, nm, qn, e', hc, r⟩ := hgenI
          exact ⟨o, e', fun t => by have := t.1; rw [hc] at this; cases this⟩
      · have := hcont s'' g'' k''
        rw [show ys.length - i = ys.length - (i + 1) + 1 by lia] at this
        exact this
    clear hcont hns3 hgenI occ3 hsn hg3
    rcases off.or with ⟨hn, f1, f2⟩ | hn
    · refine h v _ [e, it] (hn ▸ st') (fun b hb => ?_) sd fun M' hM' _ => hrep M' hM'
      rcases List.mem_cons.mp hb with z | hb
      · rw [z]; exact f1
      · rw [List.mem_singleton.mp hb]; exact f2
    · exact h v _ [] (hn ▸ st') (fun b hb => by cases hb) sd fun M' hM' _ => ⟨(hrep M' hM').1, (hrep M' hM').1⟩
  · obtain ⟨gs, e, it, hgs, hgo, off⟩ := gst_start ge sy hh depth units xok xsz hb hys g st
    clear ge sy xok xsz hb hys st0 units
    rw [Nat.sub_self] at hgo
    refine pyNext_esc hh (W.lim g.ok) (Nat.lt_of_le_of_lt depth (by decide)) st.gen hgs hgo (fun v s₃ gs' hbare hY => (hY.2.2.2 s₃ hY.2.2.1.1 fun _ _ _ e' => e').elim) (fun s₃ hP h' hk => ?_)
    have sd : Sd W N s₁.gens.size s (s₃.setGen γ .finished) := gst_sd st.le off hP.2.1 (fun b o hb e' => hP.2.1.occ b o (off.off hb e') e') hP.2.2 rfl
    exact h _ ⟨fun b o hb e' nt => hk b o (sd.keep b o hb e' nt), fun b o hb e' => (sd.occ b o hb e').imp fun o' => hk b o', sd.os, sd.gens, ⟨W.keep hP.2.2.ok hk, sd.good.bare⟩⟩
end

theorem gen_snd {g : Str} (G : GenFn W a fd q k) (hm : W.mg g = some (.ref a)) (hb : (sEnum, Value.type "enumerate") ∈ W.blts) : GenSnd W g := by
  refine ⟨a, hm, fun ok => (let ⟨o, e, d⟩ := G.at_ ok; ⟨o, fd, e, d⟩), ?_⟩
  intro n A s M x t E Q rm g mok hsz h
  rw [Bool.and_eq_true] at hsz
  refine Classical.byContradiction fun hQ => ?_
  obtain ⟨o, ho, hd⟩ := G.at_ g.ok
  (refine hQ ?_; clear hQ)
  refine wpAny_call (codeAny_of_tree ?_)
  show wpAny _ A.in1 (callAny (.ref a) ⟨[.str x t], []⟩) _ _ s
  simp only [callAny]
  refine wpAny_bind (wpAny_load ho ?_)
  refine Classical.byContradiction fun hQ => ?_
  obtain ⟨c, oc, vs, tq, hc, hoc, hdc, hq⟩ := G.cd g.ok
  (refine hQ ?_; clear hQ)
  simp only [hd, callFunction, G.sc.co, G.sc.gen, G.body, hc]
  refine wpAny_bind (m := field (.ref c) 1) (wpAny_field hoc hdc hq (wpAny_bind (wpAny_pure ?_)))
  rw [G.bind, G.clo]
  refine wpAny_bind (wpAny_pure (wpAny_bind (wpAny_newFunctionEnv_cells G.sc.kind ?_ fun env he s' ic => ?_)))
  · intro p hp
    rw [List.mem_singleton.mp hp]
    exact .inl G.sc.addr
  have hL : env.locals = s.heap.objs.size := by subst he; rfl
  have hcells : env.cells = [] := by subst he; exact cells_nil _ _ G.sc.noc
  have ek : EnvOk env fd.scope := by
    refine ⟨by subst he; rfl, G.sc.kind, by subst he; exact G.glob, by subst he; exact G.blt, fun y hy => ?_, fun y z c h1 => ?_, fun y c h1 => ?_⟩
    · rcases hy with hy | hy
      · exact absurd rfl (G.sc.noc _ (mem_of_lookup hy))
      · exact absurd rfl (G.sc.nof _ (mem_of_lookup hy))
    · rw [hcells] at h1; cases h1
    · rw [hcells] at h1; cases h1
  have ge : GE W gamY fd.scope env := ⟨⟨ek, fun y i hy => (by
      obtain ⟨_, h2⟩ := numbered_get (n := 0) hy
      have := (List.getElem?_eq_some_iff.mp h2).1
      simpa [gamY, gamOf] using this), fun y z i h1 h2 => gamY_inj h1 h2⟩, hcells, fun z => by obtain ⟨o, e⟩ := W.occ g.ok z; rw [hL, fresh_none] at e; cases e⟩
  have x1 : SX W s s' := SX.of_inCall g ic.toInCall
  have hkl : env.kindOf sAddr = some .local := by rw [kindOf_eq ek]; exact G.sc.addr
  have hm0 : bindL env.kindOf [(sAddr, Value.str x t)] (fun _ => none) sAddr = some (.str x t) := by
    show (if env.kindOf sAddr = some .local then fun y => if y = sAddr then some (Value.str x t) else none else fun _ => none) sAddr = _
    rw [if_pos hkl]; simp
  refine wpAny_bind (wpAny_enterFrame (W.lim x1.good.ok) (by show A.depth < 1000; have := rm.depth; lia) ?_)
  simp only [newGenerator, newFields]
  refine wpAny_bind (wpAny_bind (wpAny_newGen (wpAny_bind (wpAny_mkText (wpAny_bind (wpAny_mkText (wpAny_newObj_type ?_ (by size_fits))))))))
  refine wpAny_pure ?_
  have hCs : env.locals < s'.heap.objs.size := ic.toInCall.ns.lt
  have hI1 : s.heap.get? s'.heap.objs.size = none := x1.fresh (fresh_none _)
  have keepP : ∀ b o, s'.heap.get? b = some o → (s'.heap.push { cls := .type "generator", data := .fields #[.int s'.gens.size 0, .str fd.name s'.toks, .str fd.qualname (s'.toks + 1)] }).get? b = some o := fun b o e => Heap.get?_push_of_some _ e
  have x2 : SX W s' { s' with gens := s'.gens.push (.fresh (.func (yAll q k) env)), toks := s'.toks + 1 + 1, heap := s'.heap.push { cls := .type "generator", data := .fields #[.int s'.gens.size 0, .str fd.name s'.toks, .str fd.qualname (s'.toks + 1)] } } :=
    ⟨fun b o e _ => keepP b o e, fun b o e => ⟨o, keepP b o e⟩, rfl, fun i g' e => by
      obtain ⟨hl, e'⟩ := Array.getElem?_eq_some_iff.mp e
      show (s'.gens.push _)[i]? = some g'
      rw [Array.getElem?_push_lt hl, e'], ⟨W.keep x1.good.ok keepP, x1.good.bare.push rfl⟩⟩
  have hgen : (s'.heap.push { cls := .type "generator", data := .fields #[.int s'.gens.size 0, .str fd.name s'.toks, .str fd.qualname (s'.toks + 1)] }).IsGen s'.heap.objs.size s'.gens.size := ⟨_, _, _, Heap.get?_push_size _ rfl, rfl, rfl, rfl⟩
  refine wpAny_pyIter_gen hgen ?_
  have hCI : env.locals ≠ s'.heap.objs.size := Nat.ne_of_lt hCs
  have hle : s.gens.size ≤ s'.gens.size := by
    apply Nat.le_of_not_lt
    intro z
    have := x1.gens s'.gens.size _ (Array.getElem?_eq_getElem z)
    simp at this
  refine h _ _ _ _ _ (gen_its (q := q) (k := k) (γ := s'.gens.size) ge G.sc rm.handled (by have := rm.depth; lia) (by have := rm.units; lia) hsz.2 hsz.1 hb hCI (x1.trans x2) rfl ?_) fun i N s st => ?_
  · refine ⟨hgen, ⟨_, t, ic.toInCall.ns.push _, fun _ => hm0⟩, fun b hb => ?_, fun b o e => ?_, hle, .fresh (.func (yAll q k) env), Array.getElem?_push_size .., .inl ⟨rfl, rfl, rfl⟩⟩
    · rcases List.mem_cons.mp hb with rfl | hb
      · exact ⟨by rw [hL]; exact fresh_none _, ns_notTab (ic.toInCall.ns.push _)⟩
      · rw [List.mem_singleton.mp hb]
        exact ⟨hI1, _, Heap.get?_push_size _ rfl, fun z => by cases z.1⟩
    · exact (x1.trans x2).occ b o e
  · obtain ⟨o, _, _, e1, e2, _⟩ := st.gen
    exact ⟨o, e1, e2⟩
end
end Mine
end
section
open PySem PySem.W PyProof.Rows
set_option maxRecDepth 4000
namespace Mine

/-- a code object of the text that makes one function, and its table -/
structure Tb where
  c : Addr
  P : Addr
  pos : Pos
  qual : Str

noncomputable def noStr (ps : Array Value) : Prop := ∀ q t, ps[1]? ≠ some (.str q t)
noncomputable def TbOk (h : Heap) (t : Tb) : Prop := ∃ ps, h.get? t.P = some (tabObj ps) ∧ TriplesOk ps.toList ∧ noStr ps ∧
  ((ps = #[] ∧ codeAmong t.pos ps.toList = none) ∨ ∃ c', codeAmong t.pos ps.toList = some (.ref c') ∧ h.CodeRec (.ref c') t.qual)

theorem tab_like {ps : Array Value} (h : noStr ps) : TabLike (tabObj ps) := ⟨rfl, ps, rfl, h⟩
theorem noStr_nil : noStr #[] := fun q t e => by simp at e

structure Base where
  prog : Program
  w : World
  mg : Str → Option Value
  mb : Str → Option Value
  h₁ : Heap
  tabs : List Tb
  g : h₁.Ns mainGlobals mg
  b : h₁.Ns builtinsNs mb
  lim : h₁.NoLimit
  bm : ∃ bm ob, mg "__builtins__" = some (.ref bm) ∧ bm ≠ builtinsNs ∧ h₁.get? bm = some ob ∧ ob.cls = .type "module" ∧ ob.dict = some builtinsNs ∧ ob.data = .plain
  tab : ∀ t ∈ tabs, CodeHd h₁ t.c t.P ∧ h₁.get? t.P = some (tabObj #[])
  nd : ∀ t ∈ tabs, ∀ t' ∈ tabs, t.P = t'.P → t = t'
  csts : List (Str × PyData)
  cstG : ∀ p ∈ csts, ∃ v, mg p.1 = some v ∧ ∀ d, p.2 = d → ((∃ i t, v = .int i t ∧ d = .int i) ∨ (∃ x t, v = .str x t ∧ d = .str x))
  blts : List (Str × Value)
  bltG : ∀ p ∈ blts, mg p.1 = none ∧ mb p.1 = some p.2
  fns : List (Str × Addr)
  fnG : ∀ p ∈ fns, mg p.1 = some (.ref p.2)
  fnO : ∀ p ∈ fns, ∃ o fd, h₁.get? p.2 = some o ∧ o.data = .func fd

noncomputable def Base.ok (B : Base) (h : Heap) : Prop := (∀ b o, B.h₁.get? b = some o → b ∉ B.tabs.map (·.P) → h.get? b = some o) ∧ ∀ t ∈ B.tabs, TbOk h t

theorem Base.keep {B : Base} {h : Heap} (k : B.ok h) {b : Addr} {o : Obj} (e : B.h₁.get? b = some o) (n : ¬ TabLike o) : h.get? b = some o := k.1 b o e fun z => by
  obtain ⟨t, ht, rfl⟩ := List.mem_map.mp z
  have := (B.tab t ht).2
  rw [e] at this
  cases this
  exact n (tab_like noStr_nil)

theorem data_not {o : Obj} (h : ∀ fs, o.data ≠ .fields fs) : ¬ TabLike o := fun z => by obtain ⟨fs, q, _⟩ := z.2; exact h fs q
theorem Base.ns {B : Base} {h : Heap} (k : B.ok h) {a : Addr} {m : Str → Option Value} (n : B.h₁.Ns a m) : h.Ns a m :=
  let ⟨o, es, ep, e, hd, r⟩ := n; ⟨o, es, ep, Base.keep k e (data_not fun fs q => by rw [hd] at q; cases q), hd, r⟩

noncomputable def Base.W (B : Base) : Wd where
  prog := B.prog
  w := B.w
  mg := B.mg
  mb := B.mb
  stat := fun a => ∃ o, B.h₁.get? a = some o
  ok := B.ok
  g := fun k => Base.ns k B.g
  b := fun k => Base.ns k B.b
  lim := fun k => let ⟨mc, n, e⟩ := B.lim; ⟨mc, Base.ns k n, e⟩
  mono := fun {h h'} k hk => by
    refine ⟨fun b o e hb => hk b o (.inl ⟨o, e⟩) (k.1 b o e hb), fun t ht => ?_⟩
    obtain ⟨ps, e1, e2, e3, e4⟩ := k.2 t ht
    refine ⟨ps, hk _ _ (.inl ⟨_, (B.tab t ht).2⟩) e1, e2, e3, e4.imp id fun ⟨c', f1, f2⟩ => ⟨c', f1, ?_⟩⟩
    obtain ⟨c, o, vs, tq, g1, g2, g3, g4⟩ := f2
    exact ⟨c, o, vs, tq, g1, hk _ _ (.inr fun z => z.2 vs _ tq g3 g4) g2, g3, g4⟩
  occ := fun {h a} k ⟨o, e⟩ => by
    by_cases z : a ∈ B.tabs.map (·.P)
    · obtain ⟨t, ht, rfl⟩ := List.mem_map.mp z
      obtain ⟨ps, e1, _⟩ := k.2 t ht
      exact ⟨_, e1⟩
    · exact ⟨o, k.1 a o e z⟩
  csts := B.csts
  cstG := B.cstG
  blts := B.blts
  bltG := B.bltG
  fns := B.fns
  fnG := B.fnG
  fnO := fun k p hp => let ⟨o, fd, e, hd⟩ := B.fnO p hp; ⟨o, fd, Base.keep k e (data_not fun fs q => by rw [hd] at q; cases q), hd⟩

theorem CodeHd.ok {B : Base} {h : Heap} (k : B.ok h) {t : Tb} (ht : t ∈ B.tabs) : CodeHd h t.c t.P := by
  refine Classical.byContradiction fun hQ => ?_
  obtain ⟨o, vs, file, tf, flags, tg, inF, text, tt, e, hc, r⟩ := (B.tab t ht).1
  (refine hQ ?_; clear hQ)
  exact ⟨o, vs, file, tf, flags, tg, inF, text, tt, Base.keep k e (fun z => by have := z.1; rw [hc] at this; cases this), hc, r⟩

/-- the nested def makes its function -/
theorem def_step {B : Base} {M : Model} {A : Around} {E : Value → Shared → Prop} {Q : Value → Shared → Prop} {s : Shared} {env : Env} {t : Tb} {name : Str} {params : Arguments} {body : List Stmt} {scope : Scope} {clos : List (Str × Addr)} {fl : Nat}
    (g : Good B.W s) (ht : t ∈ B.tabs) (hc : env.code = .ref t.c) (hg0 : env.globals = mainGlobals) (hcl : closureFor scope env = pure clos)
    (h : ∀ f s' c' doc pm ctv, SX B.W s s' → s.heap.get? f = none → s'.heap.get? f = some { cls := .type "function", data := .func (fnX name t.qual params body scope clos .none .none doc pm none (.ref c') ctv) } → s'.heap.CodeRec (.ref c') t.qual → Q (.ref f) s') :
    wpAny M A (makeFunction name t.qual params (.stmts body) scope env [] [] [] t.pos fl) Q E s := by
  have ok : B.ok s.heap := g.ok
  refine Classical.byContradiction fun hQ => ?_
  obtain ⟨ps, hP, h3, h4, h5⟩ := ok.2 t ht
  obtain ⟨bm, ob, b1, b2, b3, b4, b5, b6⟩ := B.bm
  (refine hQ ?_; clear hQ)
  have gP : mainGlobals ≠ t.P := fun z => by
    obtain ⟨o, es, ep, e, hd, _⟩ := B.g
    rw [z, (B.tab t ht).2] at e; cases e; cases hd
  have bP : bm ≠ t.P := fun z => by rw [z, (B.tab t ht).2] at b3; cases b3; cases b4
  have bG : bm ≠ mainGlobals := fun z => by
    obtain ⟨o, es, ep, e, hd, _⟩ := B.g
    rw [z, e] at b3; cases b3; rw [hd] at b6; cases b6
  have hbs : s.heap.get? bm = some ob := Base.keep ok b3 (fun z => by have := z.1; rw [b4] at this; cases this)
  have hba : s.heap.BuiltinsAt B.mg t.P := ⟨bm, ob, b1, b2, bG, bP, hbs, b4, b5, b6⟩
  rcases h5 with ⟨rfl, hnf⟩ | ⟨c', hf, hcr⟩
  · refine makeFunction_K (mg := B.mg) hcl hg0 (Base.ns ok B.g) hc (CodeHd.ok ok ht) hP h3 hnf gP hba fun c' ctv doc h' tk hx hge hlt hrec htb => ?_
    have hkeep : ∀ b o, b ≠ t.P → s.heap.get? b = some o → (h'.push (fnMade name t.qual params body scope clos doc ((B.mg "__name__").getD .none) c' ctv)).get? b = some o := fun b o hb e => Heap.get?_push_of_some _ (hx b o hb e)
    have htl : TabLike (tabObj #[]) := tab_like noStr_nil
    have hP' : (h'.push (fnMade name t.qual params body scope clos doc ((B.mg "__name__").getD .none) c' ctv)).get? t.P = some (tabObj (#[] ++ #[rawInt t.pos.line, rawInt t.pos.col, .ref c'])) := Heap.get?_push_of_some _ htb
    have sx : SX B.W s { s with heap := h'.push (fnMade name t.qual params body scope clos doc ((B.mg "__name__").getD .none) c' ctv), toks := tk } := by
      refine ⟨fun b o e n => hkeep b o (fun z => by subst z; rw [hP] at e; cases e; exact n htl) e, fun b o e => ?_, rfl, fun _ _ e => e, ⟨⟨fun b o e hb => ?_, fun t' ht' => ?_⟩, g.bare⟩⟩
      · by_cases z : b = t.P
        · subst z; exact ⟨_, hP'⟩
        · exact ⟨o, hkeep b o z e⟩
      · exact hkeep b o (fun z => hb (by rw [z]; exact List.mem_map_of_mem (f := (·.P)) ht)) (ok.1 b o e hb)
      · by_cases z : t' = t
        · subst z
          refine ⟨_, hP', ?_, ?_, .inr ⟨c', ?_, hrec.push _⟩⟩
          · exact trivial
          · intro q u e; cases e
          · show codeAmong t'.pos [rawInt t'.pos.line, rawInt t'.pos.col, .ref c'] = _
            simp [codeAmong, rawInt]
        · obtain ⟨ps', e1, e2, e3, e4⟩ := ok.2 t' ht'
          refine ⟨ps', hkeep _ _ (fun y => z (B.nd _ ht' _ ht y)) e1, e2, e3, e4.imp id fun ⟨c₂, f1, f2⟩ => ⟨c₂, f1, ?_⟩⟩
          obtain ⟨c₃, o, vs, tq, g1, g2, g3, g4⟩ := f2
          refine ⟨c₃, o, vs, tq, g1, hkeep _ _ (fun y => ?_) g2, g3, g4⟩
          rw [y, hP] at g2; cases g2; cases g3; simp at g4
    refine h _ _ c' doc _ ctv sx ?_ (Heap.get?_push_size _ rfl) (hrec.push _)
    exact Heap.get?_none_of_le (Nat.le_trans hge (Nat.le_of_lt hlt))
  · refine makeFunction_hit (mg := B.mg) hcl hg0 (Base.ns ok B.g) hc (CodeHd.ok ok ht) hP h3 hf hba fun ctv doc h' tk hk hsz => ?_
    have hkeep : ∀ b o, s.heap.get? b = some o → (h'.push { cls := .type "function", data := .func (fnX name t.qual params body scope clos .none .none doc ((B.mg "__name__").getD .none) none (.ref c') ctv) }).get? b = some o := fun b o e => Heap.get?_push_of_some _ (hk b o e)
    have sx := SX.of_keep (tk := tk) g hkeep
    exact h _ _ c' doc _ ctv sx (Heap.get?_none_of_le hsz) (Heap.get?_push_size _ rfl) (CodeRec.ext sx hcr)
end Mine
end
section
open PySem PySem.W PyProof.Rows
set_option maxRecDepth 4000
namespace Mine

section
variable {W : Wd}

theorem reverse_lookup {ps : List Str} {vals : List Value} (nd : ps.Nodup) : ∀ {i : Nat} {y : Str} {v : Value}, ps[i]? = some y → vals[i]? = some v → (ps.zip vals).reverse.lookup y = some v := by
  intro i y v h1 h2
  have hm : (y, v) ∈ (ps.zip vals).reverse := by
    rw [List.mem_reverse]
    exact List.mem_of_getElem? (i := i) (by rw [List.getElem?_zip_eq_some]; exact ⟨h1, h2⟩)
  cases q : (ps.zip vals).reverse.lookup y with
  | none =>
    have := List.lookup_eq_none_iff.mp q (y, v) hm
    simp at this
  | some w =>
    have hw := mem_of_lookup q
    rw [List.mem_reverse] at hw
    obtain ⟨j, hj⟩ := List.mem_iff_getElem?.mp hw
    rw [List.getElem?_zip_eq_some] at hj
    have : i = j := by
      obtain ⟨hi, e1⟩ := List.getElem?_eq_some_iff.mp h1
      obtain ⟨hj', e2⟩ := List.getElem?_eq_some_iff.mp hj.1
      exact (List.getElem_inj nd).mp (e1.trans e2.symm)
    subst this
    have hj2 := hj.2
    simp only at hj2
    rw [h2] at hj2
    rw [Option.some.inj hj2]

/-- the call of a function that closes over cells -/
theorem clo_call {n : Nat} {A : Around} {E : Value → Shared → Prop} {Q : Value → Shared → Prop} {s : Shared} {f : Addr} {o : Obj} {fd : FuncData} {body : List Stmt} {ps ns : List Str} {vals : List Value} {ds : List PyData} {fs : List (Option PyData)}
    (g : Good W s) (rm : RoomN A (n + 1)) (ho : s.heap.get? f = some o) (hd : o.data = .func fd) (hcd : s.heap.CodeRec fd.code fd.qualname) (hbody : fd.body = .stmts body) (hbind : bindArgs fd ⟨vals, []⟩ = pure (ps.zip vals))
    (hgl : fd.globals = mainGlobals) (hbl : fd.builtins = builtinsNs) (kind : fd.scope.kind = .function) (co : fd.scope.isCoroutine = false) (gen : fd.scope.isGenerator = false) (noc : ∀ p ∈ fd.scope.names, p.2 ≠ .cell)
    (loc : ∀ y ∈ ps, fd.scope.names.lookup y = some .local) (nd : ps.Nodup) (hns : ns.Nodup) (pre : ps = ns.take ps.length) (hlen : ns.length = ps.length + fs.length)
    (free : ∀ x, fd.scope.names.lookup x = some .free → ∃ c, fd.closure.lookup x = some c) (cinj : ∀ x y c, fd.closure.lookup x = some c → fd.closure.lookup y = some c → x = y) (hcl : ∀ x c, fd.closure.lookup x = some c → ∃ v, s.heap.IsCell c v)
    (hv : Reps s.heap [] vals ds) (hvl : vals.length = ps.length) (hf : ds.all flatD = true)
    (hfs : ∀ i y d, ns[ps.length + i]? = some y → fs[i]? = some (some d) → fd.scope.names.lookup y = some .free ∧ ∃ c v, fd.closure.lookup y = some c ∧ s.heap.IsCell c (some v) ∧ Rep s.heap [] v d)
    (h : ∀ env s₁, env.cells = fd.closure → (∀ y, env.kindOf y = fd.scope.names.lookup y) → SOk (gamOf ns) fd.scope env → SX W s s₁ → FI W (gamOf ns) fd.scope s env [] (fun _ => 0) [env.locals] (ds.map (fun d => Mine.Slot.sh (.d d)) ++ fs.map fun x => match x with | some d => .sh (.d d) | none => .un) s₁ → RoomN (A.deeper env) n →
      wpAny (model W.prog W.w) (A.deeper env) (execs body env) (fun fl s' => Q (match fl with | .ret v => v | _ => .none) s') (fun e s' => wpAny (model W.prog W.w) (A.deeper env) (leaving env e) (fun _ s'' => E e s'') (fun e' s'' => E e' s'') s') s₁) :
    wpAny (model W.prog W.w) A (call (.ref f) vals []) Q E s := by
  refine wpAny_call ?_
  have hdep : A.depth < recursionLimit := by have := rm.depth; show A.depth < 1000; lia
  refine codeAny_call_function hdep ho hd co gen hbody hcd ?_
  rw [hbind]
  refine wpAny_pure (wpAny_newFunctionEnv noc (fun p hp => loc _ (List.of_mem_zip hp).1) (fun h' hn hsb => ?_) kind)
  have hkeep : ∀ b o, s.heap.get? b = some o → h'.get? b = some o := fun b o e => hsb.extBut b o (Nat.ne_of_lt (Heap.lt_size e)) (Heap.get?_push_of_some _ e)
  have x1 : SX W s { s with heap := h', toks := s.toks + (ps.zip vals).length } := SX.of_keep g hkeep
  refine ⟨W.lim x1.good.ok, codeAny_func ?_⟩
  generalize hev : newEnv fd.scope s.heap.objs.size fd.globals fd.closure (fd.qualname ++ Str.ofString ".<locals>.") (some f) fd.code none fd.builtins = env
  have hL : env.locals = s.heap.objs.size := by subst hev; rfl
  have hc : env.cells = fd.closure := by subst hev; rfl
  have ek : EnvOk env fd.scope := by
    refine ⟨by subst hev; rfl, kind, by subst hev; exact hgl, by subst hev; exact hbl, fun x hx => ?_, fun x y c h1 h2 => cinj x y c (by rw [← hc]; exact h1) (by rw [← hc]; exact h2), fun x c h1 => ?_⟩
    · rw [hc]
      rcases hx with hx | hx
      · exact absurd rfl (noc _ (mem_of_lookup hx))
      · exact free x hx
    · obtain ⟨v, o', e, _⟩ := hcl x c (by rw [← hc]; exact h1)
      intro z
      rw [z, hL, fresh_none] at e; cases e
  have so : SOk (gamOf ns) fd.scope env := by
    refine ⟨ek, fun y i hy => ?_, fun x y i hx hy => ?_⟩
    · obtain ⟨_, h2⟩ := numbered_get (n := 0) hy
      have := (List.getElem?_eq_some_iff.mp h2).1
      simpa [gamOf] using this
    · obtain ⟨_, h1⟩ := numbered_get (n := 0) hx
      obtain ⟨_, h2⟩ := numbered_get (n := 0) hy
      rw [h1] at h2; exact Option.some.inj h2
  have hn' : h'.Ns env.locals (fun x => (ps.zip vals).reverse.lookup x) := by rw [hL]; exact hn
  have hLf : s.heap.get? env.locals = none := by rw [hL]; exact fresh_none _
  have hdl : ds.length = ps.length := by rw [← hv.length, hvl]
  refine h env _ hc (kindOf_eq ek) so x1 ⟨g, x1, ⟨⟨_, hn'⟩, fun y c hy => ?_⟩, ?_, fun a ha => (by cases ha), fun a ha => (by cases ha), fun y hy => ?_, fun i xs hi => ?_, fun i j xs ys hi => ?_, fun y i hy sl hi => ?_, ?_⟩ ⟨rm.handled, by have := rm.depth; show A.depth + 1 + n ≤ 900; lia, by have := rm.units; show A.units + 3 + 4 * n + 200 ≤ cLine; lia⟩
  · rw [hc] at hy
    obtain ⟨v, hv⟩ := hcl y c hy
    exact ⟨v, Cell.ext x1 hv⟩
  · intro a ha
    rw [List.mem_singleton.mp ha]; exact ns_notTab hn'
  · rcases hy with hy | hy
    · have : locOf env y = env.locals := by unfold locOf; rw [if_pos (by rw [kindOf_eq ek]; exact hy)]
      rw [this]; exact ⟨List.mem_singleton.mpr rfl, fun z => (by cases z), hLf⟩
    · exact absurd rfl (noc _ (mem_of_lookup hy))
  · rcases Nat.lt_or_ge i ds.length with q | q
    · rw [List.getElem?_append_left (by simpa using q), List.getElem?_map] at hi
      obtain ⟨d, _, e⟩ := Option.map_eq_some_iff.mp hi; cases e
    · rw [List.getElem?_append_right (by simpa using q), List.getElem?_map] at hi
      obtain ⟨d, _, e⟩ := Option.map_eq_some_iff.mp hi; cases d <;> cases e
  · rcases Nat.lt_or_ge i ds.length with q | q
    · rw [List.getElem?_append_left (by simpa using q), List.getElem?_map] at hi
      obtain ⟨d, _, e⟩ := Option.map_eq_some_iff.mp hi; cases e
    · rw [List.getElem?_append_right (by simpa using q), List.getElem?_map] at hi
      obtain ⟨d, _, e⟩ := Option.map_eq_some_iff.mp hi; cases d <;> cases e
  · obtain ⟨_, hy'⟩ := numbered_get (n := 0) hy
    simp only [Nat.sub_zero] at hy'
    rcases Nat.lt_or_ge i ds.length with q | q
    · rw [List.getElem?_append_left (by simpa using q), List.getElem?_map] at hi
      refine Classical.byContradiction fun hQ => ?_
      obtain ⟨d, hd', e⟩ := Option.map_eq_some_iff.mp hi
      subst e
      have hp : ps[i]? = some y := by rw [pre, List.getElem?_take_of_lt (by lia)]; exact hy'
      obtain ⟨v, hv1, hv2⟩ := hv.get i d hd'
      (refine hQ ?_; clear hQ)
      have hfd : flatD d = true := List.all_eq_true.mp hf d (List.mem_of_getElem? hd')
      exact ⟨rfl, v, .inl ⟨by rw [kindOf_eq ek]; exact loc y (List.mem_of_getElem? hp), _, hn', reverse_lookup nd hp hv1⟩, Rep.flat hfd hv2⟩
    · rw [List.getElem?_append_right (by simpa using q), List.getElem?_map] at hi
      refine Classical.byContradiction fun hQ => ?_
      obtain ⟨d, hd', e⟩ := Option.map_eq_some_iff.mp hi
      (refine hQ ?_; clear hQ)
      cases d with
      | none => subst e; trivial
      | some d =>
        subst e
        have hidx : ps.length + (i - ds.length) = i := by lia
        simp only [List.length_map] at hd'
        obtain ⟨k1, c, v, k2, k3, k4⟩ := hfs (i - ds.length) y d (by rw [hidx]; exact hy') hd'
        refine ⟨rfl, v, .inr ⟨.inr (by rw [kindOf_eq ek]; exact k1), c, by rw [hc]; exact k2, Cell.ext x1 k3⟩, k4.mono (fun b o _ e n => x1.keep b o e n) fun a ha => ?_⟩
        rw [List.mem_singleton.mp ha]; exact .inr hLf
  · show _ = ns.length
    simp [hlen, hdl]

theorem call_in {Γ : Gam} {sc : Scope} {n : Nat} {Φ : Fns} {A : Around} {s : Shared} {env : Env} {M : List Addr} {ρ : Ev} {x : Str} {p pos : Pos} {f : Addr} {es : List Expr} {cs : List CE} {us : List V} {E : Value → Shared → Prop} {Q : Value → Shared → Prop}
    (ho : okName x = true) (c : Cx W Γ sc n Φ A s env M ρ) (hv : VarAt s.heap env x (.ref f)) (hf : ∃ o fd, s.heap.get? f = some o ∧ o.data = .func fd) (H : SndL W Γ sc es cs) (e : cevals Φ cs ρ = some us)
    (h : ∀ vals s', SX W s s' → VReps s'.heap M vals us → wpAny (model W.prog W.w) A (call (.ref f) vals []) Q E s') : wpAny (model W.prog W.w) A (eval (.Call (.Name x p) es [] pos) env) Q E s := by
  refine wpAny_Call_NameR (load_var ho (by rw [c.env.scope]; exact c.env.kind) hv ?_)
  refine callWith_of (P := FnAt f) (by rw [H.plain]; rfl) keeps_F (snd_evalArgs H c e fun vals s₁ x1 r1 => ⟨?_, h _ _ x1 r1⟩)
  refine Classical.byContradiction fun hQ => ?_
  obtain ⟨o, fd, h1, h2⟩ := hf
  obtain ⟨oc, od, dt, sl⟩ := o
  (refine hQ ?_; clear hQ)
  simp only at h2
  subst h2
  exact ⟨oc, od, fd, sl, x1.keep _ _ h1 (data_not fun _ q => by cases q)⟩
end
end Mine
end
section
open PySem PySem.W PyProof.Rows
set_option maxRecDepth 4000
namespace Mine

noncomputable def dval (n : Nat) : List Int → Int
  | [] => 0
  | d :: r => d + dval n r * 2 ^ n

theorem dval_append (n : Nat) : ∀ a b : List Int, dval n (a ++ b) = dval n a + dval n b * 2 ^ (n * a.length)
  | [], b => by simp [dval]
  | d :: r, b => by
    simp only [List.cons_append, dval, dval_append n r b, List.length_cons]
    rw [Nat.mul_add, Nat.mul_one, Int.pow_add, Int.add_mul, Int.mul_assoc, Int.add_assoc]

noncomputable def digOk (n : Nat) (ds : List Int) : Bool := ds.all fun d => decide (0 ≤ d) && decide (d < 2 ^ n)
theorem dval_bound (n : Nat) : ∀ ds : List Int, digOk n ds = true → 0 ≤ dval n ds ∧ dval n ds < 2 ^ (n * ds.length)
  | [], _ => by simp [dval]
  | d :: r, h => by
    unfold digOk at h
    rw [List.all_cons, Bool.and_eq_true, Bool.and_eq_true, decide_eq_true_eq, decide_eq_true_eq] at h
    obtain ⟨h1, h2⟩ := dval_bound n r h.2
    have hp : (0 : Int) < 2 ^ n := Int.pow_pos (by decide)
    simp only [dval, List.length_cons]
    refine ⟨Int.add_nonneg h.1.1 (Int.mul_nonneg h1 (Int.le_of_lt hp)), ?_⟩
    rw [Nat.mul_add, Nat.mul_one, Int.pow_add]
    have h3 : dval n r + 1 ≤ 2 ^ (n * r.length) := h2
    have h4 := Int.mul_le_mul_of_nonneg_right h3 (Int.le_of_lt hp)
    rw [Int.add_mul] at h4
    have := h.1.2
    omega

noncomputable def sL : Str := Str.ofString "L"
noncomputable def sR : Str := Str.ofString "R"
noncomputable def sMid : Str := Str.ofString "mid"
noncomputable def sShift : Str := Str.ofString "shift"
noncomputable def sDigits : Str := Str.ofString "digits"
noncomputable def sN : Str := Str.ofString "n"
noncomputable def sInner : Str := Str.ofString "inner"

noncomputable def d2If (q : Nat → Pos) (k : Nat → Nat) : Stmt := .If (.Compare (.BinOp (.Name sL (q 1)) .Add (.Constant (.int 1) (k 1) (q 2)) (q 3)) [.Eq] [.Name sR (q 4)] (q 5)) [.Return (some (.Subscript (.Name sDigits (q 6)) (.Name sL (q 7)) (q 8))) (q 9)] [] (q 10)
noncomputable def d2Mid (q : Nat → Pos) (k : Nat → Nat) : Stmt := .Assign [.Name sMid (q 11)] (.BinOp (.BinOp (.Name sL (q 12)) .Add (.Name sR (q 13)) (q 14)) .RShift (.Constant (.int 1) (k 2) (q 15)) (q 16)) (q 17)
noncomputable def d2Shift (q : Nat → Pos) : Stmt := .Assign [.Name sShift (q 18)] (.BinOp (.BinOp (.Name sMid (q 19)) .Sub (.Name sL (q 20)) (q 21)) .Mult (.Name sN (q 22)) (q 23)) (q 24)
noncomputable def d2Ret (q : Nat → Pos) : Stmt := .Return (some (.BinOp (.BinOp (.Call (.Name sInner (q 25)) [.Name sMid (q 26), .Name sR (q 27)] [] (q 28)) .LShift (.Name sShift (q 29)) (q 30)) .Add (.Call (.Name sInner (q 31)) [.Name sL (q 32), .Name sMid (q 33)] [] (q 34)) (q 35))) (q 36)
noncomputable def d2Body (q : Nat → Pos) (k : Nat → Nat) : List Stmt := [d2If q k, d2Mid q k, d2Shift q, d2Ret q]

noncomputable def d2Ns : List Str := [sL, sR, sMid, sShift, sDigits, sN]
noncomputable def gamD : Gam := gamOf d2Ns
theorem gd : gamD.vars.lookup sL = some 0 ∧ gamD.vars.lookup sR = some 1 ∧ gamD.vars.lookup sMid = some 2 ∧ gamD.vars.lookup sShift = some 3 ∧ gamD.vars.lookup sDigits = some 4 ∧ gamD.vars.lookup sN = some 5 := by decide +kernel
theorem okd : okName sL = true ∧ okName sR = true ∧ okName sMid = true ∧ okName sShift = true ∧ okName sDigits = true ∧ okName sN = true ∧ okName sInner = true := by decide +kernel

structure ScD (sc : Scope) : Prop where
  kind : sc.kind = .function
  co : sc.isCoroutine = false
  gen : sc.isGenerator = false
  l : sc.names.lookup sL = some .local
  r : sc.names.lookup sR = some .local
  mid : sc.names.lookup sMid = some .local
  shift : sc.names.lookup sShift = some .local
  dig : sc.names.lookup sDigits = some .free
  n : sc.names.lookup sN = some .free
  inner : sc.names.lookup sInner = some .free
  noc : ∀ p ∈ sc.names, p.2 ≠ .cell
  frees : ∀ x, sc.names.lookup x = some .free → x = sDigits ∨ x = sN ∨ x = sInner

theorem dcmp_int {a b : Int} : dcmp .Eq (.int a) (.int b) = some (decide (a = b)) := by
  have s1 : ∀ z : Int, shp (.int z) = true := fun z => by simp [shp, SeqAt.shaped, PyData.canLay0, PyData.depth]
  show (if shp (.int a) && shp (.int b) then some (PyData.eqv (.int a) (.int b)) else none) = _
  rw [s1, s1]
  have : (a == b) = decide (a = b) := rfl
  simp [PyData.eqv, this]

/-- the closed-over cells of the reader of digits -/
structure D2 (W : Wd) (f : Addr) (fd : FuncData) (cD cI cN : Addr) (ds : List Int) (n : Nat) (s : Shared) : Prop where
  good : Good W s
  ho : ∃ o, s.heap.get? f = some o ∧ o.data = .func fd
  hcd : s.heap.CodeRec fd.code fd.qualname
  cellD : ∃ v, s.heap.IsCell cD (some v) ∧ Rep s.heap [] v (.list (ds.map .int))
  cellI : s.heap.IsCell cI (some (.ref f))
  cellN : ∃ t, s.heap.IsCell cN (some (.int (n : Int) t))
theorem D2.ext {W : Wd} {f : Addr} {fd : FuncData} {cD cI cN : Addr} {ds : List Int} {n : Nat} {s s' : Shared} (d : D2 W f fd cD cI cN ds n s) (x : SX W s s') : D2 W f fd cD cI cN ds n s' :=
  ⟨x.good, (let ⟨o, e, h⟩ := d.ho; ⟨o, x.keep _ _ e (data_not fun fs q => by rw [h] at q; cases q), h⟩), CodeRec.ext x d.hcd, (let ⟨v, a, b⟩ := d.cellD; ⟨v, Cell.ext x a, b.ext x⟩), Cell.ext x d.cellI, (let ⟨t, a⟩ := d.cellN; ⟨t, Cell.ext x a⟩)⟩

structure D2F (fd : FuncData) (cD cI cN : Addr) (q : Nat → Pos) (k : Nat → Nat) : Prop where
  body : fd.body = .stmts (d2Body q k)
  sc : ScD fd.scope
  glob : fd.globals = mainGlobals
  blt : fd.builtins = builtinsNs
  bind : ∀ u v : Value, bindArgs fd ⟨[u, v], []⟩ = pure [(sL, u), (sR, v)]
  c1 : fd.closure.lookup sDigits = some cD
  c2 : fd.closure.lookup sInner = some cI
  c3 : fd.closure.lookup sN = some cN
  only : ∀ x c, fd.closure.lookup x = some c → x = sDigits ∨ x = sN ∨ x = sInner
  n1 : cD ≠ cI
  n2 : cD ≠ cN
  n3 : cI ≠ cN

noncomputable def Φ0 : Fns := fun _ _ => none
theorem ctrs0 {W : Wd} {n : Nat} : Ctrs W n Φ0 := fun f p _ A s M vals vs r E Q _ _ _ _ _ e => by cases e

theorem half {L m : Nat} : ((L : Int) + ((L : Int) + (m : Int))).fdiv (2 ^ (1 : Int).toNat) = ((L + m / 2 : Nat) : Int) := by
  have h : ((L : Int) + ((L : Int) + (m : Int))) = ((2 * L + m : Nat) : Int) := by push_cast; lia
  rw [h]
  show ((2 * L + m : Nat) : Int).fdiv 2 = _
  rw [Int.fdiv_eq_ediv_of_nonneg _ (by decide)]
  lia

theorem fit_of {a : Int} {k : Nat} (h0 : 0 ≤ a) (h : a < 2 ^ k) (hk : k ≤ 3000) : fit a = true := by
  unfold fit
  rw [decide_eq_true_eq]
  have h1 : (a.natAbs : Int) < ((2 ^ k : Nat) : Int) := by push_cast; lia
  have h2 : a.natAbs < 2 ^ k := by exact_mod_cast h1
  exact Nat.lt_of_lt_of_le h2 (Nat.pow_le_pow_right (by decide) hk)
theorem fit_nat {a : Nat} (h : a < 2 ^ 60) : fit (a : Int) = true := fit_of (k := 60) (by lia) (by exact_mod_cast h) (by decide)
end Mine
end
section
open PySem PySem.W PyProof.Rows
set_option maxRecDepth 4000
namespace Mine

section
variable {W : Wd} {f : Addr} {fd : FuncData} {cD cI cN : Addr} {ds : List Int} {n : Nat} {q : Nat → Pos} {k : Nat → Nat}

noncomputable def dTest : CE := .cmp .Eq (.bin .Add (.var 0) (.lit (.int 1))) (.var 1)
noncomputable def dIf : CS := .ite dTest [.ret (.item (.var 4) (.var 0))] []
noncomputable def dMid : CS := .asg 2 (.bin .RShift (.bin .Add (.var 0) (.var 1)) (.lit (.int 1)))
noncomputable def dShift : CS := .asg 3 (.bin .Mult (.bin .Sub (.var 2) (.var 0)) (.var 5))

noncomputable def rD (L R : Int) (mid shift : Mine.Slot) (ds : List Int) (n : Nat) : Ev := [.sh (.d (.int L)), .sh (.d (.int R)), mid, shift, .sh (.d (.list (ds.map .int))), .sh (.d (.int (n : Int)))]

theorem d2_stmts (sc : Scope) (S : ScD sc) : SndS W gamD sc (d2If q k) dIf ∧ SndS W gamD sc (d2Mid q k) dMid ∧ SndS W gamD sc (d2Shift q) dShift := by
  refine Classical.byContradiction fun hQ => ?_
  obtain ⟨g0, g1, g2, g3, g4, g5⟩ := gd
  obtain ⟨o0, o1, o2, o3, o4, o5, o6⟩ := okd
  (refine hQ ?_; clear hQ)
  refine ⟨s_if (sndT_cmp (snd_bin (snd_var o0 g0) snd_int) (snd_var o1 g1) rfl) (bl_cons (s_ret (snd_item (snd_var o4 g4) (snd_var o0 g0))) bl_nil) bl_nil,
    s_asg ⟨g2, .inl S.mid⟩ rfl (snd_bin (snd_bin (snd_var o0 g0) (snd_var o1 g1)) snd_int), s_asg ⟨g3, .inl S.shift⟩ rfl (snd_bin (snd_bin (snd_var o2 g2) (snd_var o0 g0)) (snd_var o5 g5))⟩

theorem getIx_nat {xs : List PyData} {L : Nat} {d : PyData} (hL : xs[L]? = some d) (hlen : (L : Int) < 2 ^ 62) : getIx xs (L : Int) = some d := by
  unfold getIx
  rw [if_pos (And.intro (Int.natCast_nonneg L) hlen), Int.toNat_natCast, hL]

theorem dTest_eq {L m : Nat} : ceval Φ0 dTest (rD L ((L + m : Nat) : Int) .un .un ds n) = some (.d (.bool (decide (m = 1)))) := by
  have h1 : decide (((L : Int) + 1) = ((L + m : Nat) : Int)) = decide (m = 1) := by
    by_cases h : m = 1
    · subst h; rw [decide_eq_true rfl, decide_eq_true (by push_cast; rfl)]
    · rw [decide_eq_false h, decide_eq_false (by push_cast; lia)]
  exact (ev_cmp (ev_ib (rv0 rfl) ev_c rfl) (rv0 rfl) (dcmp_int)).trans (by rw [h1])

theorem dItem_eq {L : Nat} {R : Int} {d : Int} (hL : ds[L]? = some d) (hlen : (L : Int) < 2 ^ 62) : ceval Φ0 (.item (.var 4) (.var 0)) (rD L R .un .un ds n) = some (.d (.int d)) :=
  ev_item (rv0 rfl) (rv0 rfl) (getIx_nat (by rw [List.getElem?_map, hL]; rfl) hlen)

theorem dIf_one {L : Nat} {d : Int} (h : ceval Φ0 (.item (.var 4) (.var 0)) (rD L ((L + 1 : Nat) : Int) .un .un ds n) = some (.d (.int d))) : cex Φ0 0 dIf (rD L ((L + 1 : Nat) : Int) .un .un ds n) = some (rD L ((L + 1 : Nat) : Int) .un .un ds n, .rt (.d (.int d))) :=
  (cx_if1 (dTest_eq (m := 1)) rfl).trans (cexs_rt (ev_ret h rfl))

theorem dIf_more {L m : Nat} (hm : m ≠ 1) : cex Φ0 0 dIf (rD L ((L + m : Nat) : Int) .un .un ds n) = some (rD L ((L + m : Nat) : Int) .un .un ds n, .nx) :=
  cx_no (dTest_eq (m := m)) (by rw [decide_eq_false hm]; rfl)

theorem dMid_eq {L m : Nat} : cex Φ0 0 dMid (rD L ((L + m : Nat) : Int) .un .un ds n) = some (rD L ((L + m : Nat) : Int) (.sh (.d (.int ((L + m / 2 : Nat) : Int)))) .un ds n, .nx) := by
  refine (ev_asg (v := .d (.int ((L + m / 2 : Nat) : Int))) (ev_ib (ev_ib (rv0 rfl) (rv0 rfl) rfl) ev_c ?_) rfl)
  show some (((L : Int) + ((L + m : Nat) : Int)).fdiv (2 ^ (1 : Int).toNat)) = _
  rw [← half (L := L) (m := m)]
  push_cast
  rfl

theorem dShift_eq {L m : Nat} {R : Int} (hm : m < 2 ^ 60) (hn : n < 2 ^ 60) : cex Φ0 0 dShift (rD L R (.sh (.d (.int ((L + m : Nat) : Int)))) .un ds n) = some (rD L R (.sh (.d (.int ((L + m : Nat) : Int)))) (.sh (.d (.int ((m * n : Nat) : Int)))) ds n, .nx) := by
  have h1 : ((L + m : Nat) : Int) - (L : Int) = (m : Int) := by push_cast; lia
  refine (ev_asg (v := .d (.int ((m * n : Nat) : Int))) (ev_ib (ev_ib (rv0 rfl) (rv0 rfl) rfl) (rv0 rfl) ?_) rfl)
  rw [h1, ib_mul, fit_nat hm, fit_nat hn, Int.natCast_mul]
  rfl
end
end Mine
end
section
open PySem PySem.W PyProof.Rows
set_option maxRecDepth 4000
namespace Mine

theorem ibin_shl {a : Int} {k : Nat} (h : fit a = true) (hk : (k : Int) ≤ 8000) : ibin .LShift a (k : Int) = some (a * 2 ^ k) := by
  show (if fit a && decide (0 ≤ (k : Int)) && decide ((k : Int) ≤ 8000) then some (a * 2 ^ (k : Int).toNat) else none) = _
  rw [h, decide_eq_true (Int.natCast_nonneg k), decide_eq_true hk, Int.toNat_natCast]
  rfl

section
variable {W : Wd} {f : Addr} {fd : FuncData} {cD cI cN : Addr} {ds : List Int} {n : Nat} {q : Nat → Pos} {k : Nat → Nat}

theorem D2.cells (F : D2F fd cD cI cN q k) {s : Shared} (d : D2 W f fd cD cI cN ds n s) : (∀ x c, fd.closure.lookup x = some c → ∃ v, s.heap.IsCell c v) ∧ (∀ x y c, fd.closure.lookup x = some c → fd.closure.lookup y = some c → x = y) := by
  have key : ∀ x c, fd.closure.lookup x = some c → (x = sDigits ∧ c = cD) ∨ (x = sInner ∧ c = cI) ∨ (x = sN ∧ c = cN) := fun x c e => by
    rcases F.only x c e with rfl | rfl | rfl
    · rw [F.c1] at e; cases e; exact .inl ⟨rfl, rfl⟩
    · rw [F.c3] at e; cases e; exact .inr (.inr ⟨rfl, rfl⟩)
    · rw [F.c2] at e; cases e; exact .inr (.inl ⟨rfl, rfl⟩)
  refine ⟨fun x c e => ?_, fun x y c e1 e2 => ?_⟩
  · rcases key x c e with ⟨_, rfl⟩ | ⟨_, rfl⟩ | ⟨_, rfl⟩
    · obtain ⟨v, a, _⟩ := d.cellD; exact ⟨_, a⟩
    · exact ⟨_, d.cellI⟩
    · obtain ⟨t, a⟩ := d.cellN; exact ⟨_, a⟩
  · have n1 := F.n1; have n2 := F.n2; have n3 := F.n3
    rcases key x c e1 with ⟨rfl, rfl⟩ | ⟨rfl, rfl⟩ | ⟨rfl, rfl⟩ <;> rcases key y _ e2 with ⟨rfl, h⟩ | ⟨rfl, h⟩ | ⟨rfl, h⟩ <;> first | rfl | exact absurd h ‹_› | exact absurd h.symm ‹_›

theorem d2_enter (F : D2F fd cD cI cN q k) {lv : Nat} {R L : Int} {A : Around} {s : Shared} {tl tr : Tok} {E Q : Value → Shared → Prop} (rm : RoomN A (lv + 1)) (d : D2 W f fd cD cI cN ds n s)
    (h : ∀ env s₁, SOk gamD fd.scope env → SX W s s₁ → FI W gamD fd.scope s env [] (fun _ => 0) [env.locals] (rD L R .un .un ds n) s₁ → (∀ s', SX W s s' → VarAt s'.heap env sInner (.ref f)) → RoomN (A.deeper env) lv →
      ∀ E' : Value → Shared → Prop, wpAny (model W.prog W.w) (A.deeper env) (execs (d2Body q k) env) (fun fl s' => Q (match fl with | .ret v => v | _ => .none) s') E' s₁) :
    wpAny (model W.prog W.w) A (call (.ref f) [.int L tl, .int R tr] []) Q E s := by
  refine Classical.byContradiction fun hQ => ?_
  obtain ⟨o, ho, hd⟩ := d.ho
  obtain ⟨hcl, cinj⟩ := d.cells F
  (refine hQ ?_; clear hQ)
  refine clo_call (ps := [sL, sR]) (ns := d2Ns) (ds := [.int L, .int R]) (fs := [none, none, some (.list (ds.map .int)), some (.int (n : Int))]) d.good rm ho hd d.hcd F.body (F.bind _ _) F.glob F.blt F.sc.kind F.sc.co F.sc.gen F.sc.noc
    ?_ (by decide +kernel) (by decide +kernel) rfl rfl ?_ cinj hcl (.cons (.int _ _) (.cons (.int _ _) .nil)) rfl rfl ?_ fun env s₁ hcells hkind so x1 fi rm' => ?_
  · intro y hy
    simp only [List.mem_cons, List.not_mem_nil, or_false] at hy
    rcases hy with rfl | rfl
    · exact F.sc.l
    · exact F.sc.r
  · intro x hx
    rcases F.sc.frees x hx with rfl | rfl | rfl
    · exact ⟨_, F.c1⟩
    · exact ⟨_, F.c3⟩
    · exact ⟨_, F.c2⟩
  · intro i y dd hy hi
    rcases i with _ | _ | _ | _ | i
    · simp at hi
    · simp at hi
    · simp at hi; subst hi
      have : y = sDigits := by simp [d2Ns] at hy; exact hy.symm
      subst this
      refine Classical.byContradiction fun hQ => ?_
      obtain ⟨v, a, b⟩ := d.cellD
      (refine hQ ?_; clear hQ)
      exact ⟨F.sc.dig, _, v, F.c1, a, b⟩
    · simp at hi; subst hi
      have : y = sN := by simp [d2Ns] at hy; exact hy.symm
      subst this
      obtain ⟨t, a⟩ := d.cellN
      exact ⟨F.sc.n, _, _, F.c3, a, .int _ _⟩
    · simp at hi
  · exact h env s₁ so x1 fi (fun s' x' => .inr ⟨.inr (by rw [hkind]; exact F.sc.inner), cI, by rw [hcells]; exact F.c2, Cell.ext x' d.cellI⟩) rm' _

theorem d2_inner (F : D2F fd cD cI cN q k) (hdig : digOk n ds = true) (hsz : n * ds.length ≤ 2900) (hn : 1 ≤ n) : ∀ (lv : Nat) (L m : Nat) (A : Around) (s : Shared) (tl tr : Tok) (E Q : Value → Shared → Prop), 1 ≤ m → m ≤ 2 ^ lv → L + m ≤ ds.length →
    RoomN A (lv + 1) → D2 W f fd cD cI cN ds n s → (∀ s' t, SX W s s' → Q (.int (dval n ((ds.drop L).take m)) t) s') → wpAny (model W.prog W.w) A (call (.ref f) [.int (L : Int) tl, .int ((L + m : Nat) : Int) tr] []) Q E s := by
  have hlen : ds.length ≤ 2900 := Nat.le_trans (Nat.le_mul_of_pos_left _ hn) hsz
  refine Classical.byContradiction fun hQ => ?_
  obtain ⟨g0, g1, g2, g3, g4, g5⟩ := gd
  obtain ⟨o0, o1, o2, o3, o4, o5, o6⟩ := okd
  (refine hQ ?_; clear hQ)
  have one : ∀ (lv : Nat) (L : Nat) (A : Around) (s : Shared) (tl tr : Tok) (E Q : Value → Shared → Prop), L + 1 ≤ ds.length →
    RoomN A (lv + 1) → D2 W f fd cD cI cN ds n s → (∀ s' t, SX W s s' → Q (.int (dval n ((ds.drop L).take 1)) t) s') → wpAny (model W.prog W.w) A (call (.ref f) [.int (L : Int) tl, .int ((L + 1 : Nat) : Int) tr] []) Q E s := by
    intro lv L A s tl tr E Q h3 rm d h
    refine d2_enter F rm d fun env s₁ so x1 fi hv rm' E' => ?_
    have hL : ds[L]? = some ds[L] := List.getElem?_eq_getElem (by lia)
    have hb : (L : Int) < 2 ^ 62 := Int.lt_of_lt_of_le (b := 4000) (by lia) (by decide)
    refine wpAny_execs_cons ((d2_stmts (W := W) (q := q) (k := k) fd.scope F.sc).1 lv Φ0 0 _ env s s₁ [] _ _ _ _ _ _ _ ctrs0 rm' so fi (dIf_one (dItem_eq hL hb)) fun own' M' s' fl fi' st' fr => ?_)
    cases fl with
    | ret v =>
      obtain ⟨_, hr⟩ := fr
      obtain ⟨t, rfl⟩ := int_self hr
      have : dval n ((ds.drop L).take 1) = ds[L] := by
        rw [List.drop_eq_getElem_cons (by lia), List.take_succ_cons, List.take_zero]
        show ds[L] + 0 * 2 ^ n = ds[L]
        rw [Int.zero_mul, Int.add_zero]
      rw [this] at h
      exact h s' t fi'.x
    | _ => exact fr.elim
  intro lv
  induction lv with
  | zero =>
    intro L m A s tl tr E Q h1 h2 h3 rm d h
    have : m = 1 := by have : (2 : Nat) ^ 0 = 1 := rfl; lia
    subst this
    exact one 0 L A s tl tr E Q h3 rm d h
  | succ lv ih =>
    intro L m A s tl tr E Q h1 h2 h3 rm d h
    by_cases hm : m = 1
    · subst hm; exact one _ L A s tl tr E Q h3 rm d h
    refine d2_enter F rm d fun env s₁ so x1 fi hv rm' E' => ?_
    refine Classical.byContradiction fun hQ => ?_
    obtain ⟨S1, S2, S3⟩ := d2_stmts (W := W) (q := q) (k := k) fd.scope F.sc
    (refine hQ ?_; clear hQ)
    refine wpAny_execs_cons (S1 (lv + 1) Φ0 0 _ env s s₁ [] _ _ _ _ _ _ _ ctrs0 rm' so fi (dIf_more hm) fun own2 M2 s2 fl2 fi2 st2 fr2 => ?_)
    rw [fr2.next]
    refine wpAny_execs_cons (S2 (lv + 1) Φ0 0 _ env s s2 [] _ _ _ _ _ _ _ ctrs0 rm' so fi2 dMid_eq fun own3 M3 s3 fl3 fi3 st3 fr3 => ?_)
    rw [fr3.next]
    have hn60 : n < 2 ^ 60 := by
      have h1 : n ≤ n * ds.length := Nat.le_mul_of_pos_right _ (by lia)
      exact Nat.lt_of_lt_of_le (m := 3000) (by lia) (by decide)
    refine wpAny_execs_cons (S3 (lv + 1) Φ0 0 _ env s s3 [] _ _ _ _ _ _ _ ctrs0 rm' so fi3 (dShift_eq (Nat.lt_of_lt_of_le (m := 3000) (by lia) (by decide)) hn60) fun own4 M4 s4 fl4 fi4 st4 fr4 => ?_)
    rw [fr4.next]
    have hpow : 2 ^ (lv + 1) = 2 * 2 ^ lv := by rw [Nat.pow_succ]; lia
    refine wpAny_execs_cons (wpAny_Return_some (wpAny_BinOp (wpAny_BinOp ?_)))
    -- the first call
    have d4 := d.ext fi4.x
    have hf4 : ∃ o fd, s4.heap.get? f = some o ∧ o.data = .func fd := let ⟨o, a, b⟩ := d4.ho; ⟨o, _, a, b⟩
    have dsub : ∀ a b : Nat, digOk n ((ds.drop a).take b) = true := fun a b => by
      unfold digOk at hdig ⊢
      rw [List.all_eq_true] at hdig ⊢
      exact fun x hx => hdig x (List.mem_of_mem_drop (List.mem_of_mem_take hx))
    have bnd : ∀ a b : Nat, fit (dval n ((ds.drop a).take b)) = true := fun a b => by
      obtain ⟨b1, b2⟩ := dval_bound n _ (dsub a b)
      refine fit_of b1 b2 ?_
      have : ((ds.drop a).take b).length ≤ ds.length := by rw [List.length_take, List.length_drop]; lia
      have := Nat.mul_le_mul_left n this
      lia
    have hsplit : dval n ((ds.drop L).take m) = dval n ((ds.drop (L + m / 2)).take (m - m / 2)) * 2 ^ (m / 2 * n) + dval n ((ds.drop L).take (m / 2)) := by
      have e : (ds.drop L).take m = (ds.drop L).take (m / 2) ++ (ds.drop (L + m / 2)).take (m - m / 2) := by
        rw [← List.drop_drop, ← List.take_add]
        congr 1; lia
      rw [e, dval_append, List.length_take, List.length_drop, Nat.min_eq_left (by lia), Nat.mul_comm n, Int.add_comm]
    refine call_in o6 (fi4.cx so ctrs0 rm') (hv s4 fi4.x) hf4 (.cons rfl (snd_var o2 g2) (.cons rfl (snd_var o1 g1) .nil)) rfl fun vals s5 x5 r5 => ?_
    cases r5 with
    | cons ra rb =>
    cases rb with
    | cons rb rc =>
    cases rc
    obtain ⟨t1, rfl⟩ := int_self ra
    obtain ⟨t2, rfl⟩ := int_self rb
    have hR : L + m = (L + m / 2) + (m - m / 2) := by lia
    have x05 := fi4.x.trans x5
    have ih1 : ∀ (A : Around) (s : Shared) (tl tr : Tok) (E Q : Value → Shared → Prop), RoomN A (lv + 1) → D2 W f fd cD cI cN ds n s → (∀ s' t, SX W s s' → Q (.int (dval n ((ds.drop (L + m / 2)).take (m - m / 2))) t) s') →
        wpAny (model W.prog W.w) A (call (.ref f) [.int ((L + m / 2 : Nat) : Int) tl, .int ((L + m : Nat) : Int) tr] []) Q E s := fun A s tl tr E Q a b c => by
      have := ih (L + m / 2) (m - m / 2) A s tl tr E Q (by lia) (by lia) (by lia) a b c
      rw [← hR] at this
      exact this
    refine ih1 _ s5 t1 t2 _ _ rm' (d.ext x05) fun s6 t6 x6 => ?_
    have fi6 := fi4.ext (x5.trans x6)
    refine (snd_var o3 g3) (lv + 1) Φ0 _ s6 env _ _ _ _ _ (fi6.cx so ctrs0 rm') rfl fun xv s7 x7 r7 => ?_
    obtain ⟨t7, rfl⟩ := int_self r7
    have hsh : ibin .LShift (dval n ((ds.drop (L + m / 2)).take (m - m / 2))) ((m / 2 * n : Nat) : Int) = some (dval n ((ds.drop (L + m / 2)).take (m - m / 2)) * 2 ^ (m / 2 * n)) := by
      have h8 : m / 2 * n ≤ 8000 := by
        have : m / 2 * n ≤ ds.length * n := Nat.mul_le_mul_right n (by lia)
        rw [Nat.mul_comm ds.length] at this
        lia
      refine ibin_shl (bnd _ _) ?_
      generalize m / 2 * n = z at h8 ⊢
      lia
    refine ibin_snd rm'.handled hsh fun tk8 tk8' => ?_
    have x78 : SX W s7 { s7 with toks := tk8' } := SX.toks x7.good
    have x48 := ((x5.trans x6).trans x7).trans x78
    have fi8 := fi4.ext x48
    have d8 := d.ext fi8.x
    have hf8 : ∃ o fd, s7.heap.get? f = some o ∧ o.data = .func fd := let ⟨o, a, b⟩ := d8.ho; ⟨o, _, a, b⟩
    refine call_in o6 (fi8.cx so ctrs0 rm') (hv _ fi8.x) hf8 (.cons rfl (snd_var o0 g0) (.cons rfl (snd_var o2 g2) .nil)) rfl fun vals s9 x9 r9 => ?_
    cases r9 with
    | cons ra9 rb9 =>
    cases rb9 with
    | cons rb9 rc9 =>
    cases rc9
    obtain ⟨t3, rfl⟩ := int_self ra9
    obtain ⟨t4, rfl⟩ := int_self rb9
    refine ih L (m / 2) _ s9 t3 t4 _ _ (by lia) (by lia) (by lia) rm' (d.ext (fi8.x.trans x9)) fun s10 t10 x10 => ?_
    refine ibin_snd (op := .Add) rm'.handled rfl fun tk11 tk11' => ?_
    rw [← hsplit]
    exact h _ _ (((fi8.x.trans x9).trans x10).trans (SX.toks x10.good))
end
end Mine
end
section
open PySem PySem.W PyProof.Rows
set_option maxRecDepth 4000
namespace Mine

section
variable {W : Wd}

theorem fn_enter {a : Addr} {fd : FuncData} {body : List Stmt} {ps ns : List Str} (fo : FnOk fd.scope ps ns)
    (hF : ∀ {h}, W.ok h → ∃ o, h.get? a = some o ∧ o.data = .func fd) (hcd : ∀ {h}, W.ok h → h.CodeRec fd.code fd.qualname) (hbody : fd.body = .stmts body)
    (hbind : ∀ vals : List Value, vals.length = ps.length → bindArgs fd ⟨vals, []⟩ = pure (ps.zip vals)) (hclo : fd.closure = []) (hg : fd.globals = mainGlobals) (hb : fd.builtins = builtinsNs)
    {n : Nat} {A : Around} {s : Shared} {M : List Addr} {vals : List Value} {vs : List V} {E Q : Value → Shared → Prop} (rm : RoomN A (n + 1)) (g : Good W s) (mok : MOk s.heap M) (hv : VReps s.heap M vals vs) (hown : (vs.all fun v => !v.own) = true) (hlen : vs.length = ps.length)
    (h : ∀ env s₁ M', env.code = fd.code → env.qual = fd.qualname ++ Str.ofString ".<locals>." → SOk (gamOf ns) fd.scope env → SX W s s₁ → FI W (gamOf ns) fd.scope s env M (fun _ => 0) M' (vs.map Mine.Slot.sh ++ List.replicate (ns.length - ps.length) Mine.Slot.un) s₁ → RoomN (A.deeper env) n →
      ∀ E' : Value → Shared → Prop, wpAny (model W.prog W.w) (A.deeper env) (execs body env) (fun fl s' => Q (match fl with | .ret v => v | _ => .none) s') E' s₁) :
    wpAny (model W.prog W.w) A (call (.ref a) vals []) Q E s := by
  have hvl : vals.length = ps.length := by rw [hv.length, hlen]
  refine Classical.byContradiction fun hQ => ?_
  obtain ⟨o, ho, hd⟩ := hF g.ok
  (refine hQ ?_; clear hQ)
  refine wpAny_call ?_
  have hdep : A.depth < recursionLimit := by have := rm.depth; show A.depth < 1000; lia
  have psns : ∀ {y : Str}, y ∈ ps → ∃ k, fd.scope.names.lookup y = some k := fun hy => (fo.loc _ hy).elim (fun h => ⟨_, h⟩) fun h => ⟨_, h⟩
  refine codeAny_call_cells hdep ho hd (W.lim g.ok) (hcd g.ok) hbody (hbind vals hvl) hclo (fun p hp => ?_) (fun s₁ ic => ?_) fo.co fo.gen fo.kind
  · have hm : p.1 ∈ ps := (List.of_mem_zip hp).1
    rcases fo.loc _ hm with q | q
    · exact .inl q
    · refine .inr ⟨q, ?_⟩
      refine Classical.byContradiction fun hQ => ?_
      obtain ⟨c, hc, _⟩ := cellsFrom_new (y := p.1) fd.scope.names (s.heap.objs.size + 1) [] ⟨_, lookup_mem_kind q, rfl⟩
      (refine hQ ?_; clear hQ)
      rw [hc]; rfl
  generalize hev : callEnvC fd s.heap.objs.size a = env at ic ⊢
  have hcode : env.code = fd.code := by subst hev; rfl
  have hqual : env.qual = fd.qualname ++ Str.ofString ".<locals>." := by subst hev; rfl
  have ek : EnvOk env fd.scope := by
    subst hev
    refine ⟨rfl, fo.kind, hg, hb, fun x hx => ?_, fun x y c hx hy => ?_, fun x c hx => ?_⟩
    · rcases hx with hx | hx
      · obtain ⟨c, hc, _⟩ := cellsFrom_new (y := x) fd.scope.names (s.heap.objs.size + 1) [] ⟨_, lookup_mem_kind hx, rfl⟩
        exact ⟨c, hc⟩
      · exact absurd rfl (fo.free _ (lookup_mem_kind hx))
    · exact name_of_addr ic.apart (mem_of_lookup hx) (mem_of_lookup hy)
    · exact Nat.ne_of_gt (ic.above x c (mem_of_lookup hx))
  have hL : env.locals = s.heap.objs.size := by subst hev; rfl
  have x1 : SX W s s₁ := SX.of_inCall g ic.toInCall
  have hLf : s.heap.get? env.locals = none := by rw [hL]; exact fresh_none _
  have hcf : ∀ y c, env.cells.lookup y = some c → s.heap.get? c = none := fun y c hc => Heap.get?_none_of_le (by have := ic.above y c (mem_of_lookup hc); rw [hL] at this; exact Nat.le_of_lt this)
  have m0 : ∀ b ∈ M, ∃ o, s.heap.get? b = some o := fun b hb => let ⟨o, e, _⟩ := mok b hb; ⟨o, e⟩
  have so : SOk (gamOf ns) fd.scope env := by
    refine ⟨ek, fun y i hy => ?_, fun x y i hx hy => ?_⟩
    · obtain ⟨_, h2⟩ := numbered_get (n := 0) hy
      have := (List.getElem?_eq_some_iff.mp h2).1
      simpa [gamOf] using this
    · obtain ⟨_, h1⟩ := numbered_get (n := 0) hx
      obtain ⟨_, h2⟩ := numbered_get (n := 0) hy
      rw [h1] at h2; exact Option.some.inj h2
  have lay : Lay env s₁.heap := ⟨⟨_, ic.toInCall.ns⟩, fun y c hc => ⟨_, ic.cell y c hc⟩⟩
  have hle : ps.length ≤ ns.length := by
    have := congrArg List.length fo.pre
    rw [List.length_take] at this
    lia
  have hget : ∀ {i : Nat} {sl : Mine.Slot}, (vs.map Mine.Slot.sh ++ List.replicate (ns.length - ps.length) Mine.Slot.un)[i]? = some sl → (∃ v, vs[i]? = some v ∧ sl = .sh v) ∨ sl = .un := fun {i sl} hi => by
    by_cases q : i < vs.length
    · rw [List.getElem?_append_left (by simpa using q), List.getElem?_map] at hi
      obtain ⟨v, h1, h2⟩ := Option.map_eq_some_iff.mp hi
      exact .inl ⟨v, h1, h2.symm⟩
    · rw [List.getElem?_append_right (by simpa using q)] at hi
      have := List.getElem?_eq_some_iff.mp hi
      obtain ⟨hh, e⟩ := this
      rw [List.getElem_replicate] at e
      exact .inr e.symm
  have hvg : ∀ {h : Heap} {M : List Addr} {vals : List Value} {vs : List V}, VReps h M vals vs → ∀ {i : Nat} {v : V}, vs[i]? = some v → ∃ x, vals[i]? = some x ∧ VRep h M x v := by
    intro h M vals vs hv
    induction hv with
    | nil => intro i v hi; simp at hi
    | cons r _ ih =>
      intro i v hi
      cases i with
      | zero => simp at hi; subst hi; exact ⟨_, rfl, r⟩
      | succ i => simp at hi; simpa using ih hi
  have fi : FI W (gamOf ns) fd.scope s env M (fun _ => 0) (env.locals :: (fd.scope.names.filterMap (fun p => env.cells.lookup p.1) ++ M)) (vs.map Mine.Slot.sh ++ List.replicate (ns.length - ps.length) Mine.Slot.un) s₁ := by
    refine ⟨g, x1, lay, ?_, ?_, ?_, ?_, ?_, ?_, ?_, ?_⟩
    · intro b hb
      rcases List.mem_cons.mp hb with rfl | hb
      · exact ns_notTab ic.toInCall.ns
      rcases List.mem_append.mp hb with hb | hb
      · obtain ⟨p, hp, hc⟩ := List.mem_filterMap.mp hb
        obtain ⟨o, e, hd⟩ := ic.cell p.1 b hc
        exact ⟨o, e, fun t => by obtain ⟨fs, q, _⟩ := t.2; rw [hd] at q; cases q⟩
      · exact (mok.ext x1) b hb
    · exact fun b hb => List.mem_cons_of_mem _ (List.mem_append_right _ hb)
    · intro b hb
      obtain ⟨o, e⟩ := m0 b hb
      exact ⟨fun q => (by rw [q, hLf] at e; cases e), fun y c hc q => (by rw [q, hcf y c hc] at e; cases e)⟩
    · intro y hy
      have : locOf env y = env.locals ∨ ∃ c, fd.scope.names.lookup y = some .cell ∧ env.cells.lookup y = some c ∧ locOf env y = c := by
        unfold locOf
        rcases hy with hy | hy
        · left; rw [if_pos (by rw [kindOf_eq ek]; exact hy)]
        · right
          obtain ⟨c, hc⟩ := ek.cells y (.inl hy)
          exact ⟨c, hy, hc, by rw [if_neg (by rw [kindOf_eq ek, hy]; decide), hc]; rfl⟩
      rcases this with q | ⟨c, hyc, hc, q⟩
      · rw [q]; exact ⟨List.mem_cons_self, fun hb => (by obtain ⟨o, e⟩ := m0 _ hb; rw [hLf] at e; cases e), hLf⟩
      · rw [q]
        exact ⟨List.mem_cons_of_mem _ (List.mem_append_left _ (List.mem_filterMap.mpr ⟨(y, .cell), lookup_mem_kind hyc, hc⟩)), fun hb => (by obtain ⟨o, e⟩ := m0 _ hb; rw [hcf y c hc] at e; cases e), hcf y c hc⟩
    · intro i xs hi
      rcases hget hi with ⟨v, _, q⟩ | q <;> cases q
    · intro i j xs ys hi
      rcases hget hi with ⟨v, _, q⟩ | q <;> cases q
    · intro y i hy sl hi
      rcases hget hi with ⟨v, h1, rfl⟩ | rfl
      · have hov : v.own = false := by
          have := List.all_eq_true.mp hown v (List.mem_of_getElem? h1)
          simpa using this
        obtain ⟨x, h2, h3⟩ := hvg hv h1
        obtain ⟨_, hn⟩ := numbered_get (n := 0) hy
        have hi' : i < ps.length := by rw [← hlen]; exact (List.getElem?_eq_some_iff.mp h1).1
        have hp : ps[i]? = some y := by
          rw [fo.pre, List.getElem?_take_of_lt hi']
          simpa using hn
        obtain ⟨b1, b2⟩ := bind_at (k := env.kindOf) (m := fun _ => none) fo.nd hp h2
        refine ⟨hov, x, ?_, ?_⟩
        · rcases fo.loc y (List.mem_of_getElem? hp) with q | q
          · have hk : env.kindOf y = some .local := by rw [kindOf_eq ek]; exact q
            exact .inl ⟨hk, _, ic.toInCall.ns, b1 hk⟩
          · have hk : env.kindOf y = some .cell := by rw [kindOf_eq ek]; exact q
            obtain ⟨c, hc⟩ := ek.cells y (.inl q)
            have := ic.cell y c hc
            rw [b2 (by rw [hk]; decide)] at this
            exact .inr ⟨.inl hk, c, hc, this⟩
        · refine VRep.mono (fun b o _ e n => x1.keep b o e n) (fun b hb => ?_) hov h3
          rcases List.mem_cons.mp hb with rfl | hb
          · exact .inr hLf
          rcases List.mem_append.mp hb with hb | hb
          · obtain ⟨p, hp, hc⟩ := List.mem_filterMap.mp hb
            exact .inr (hcf _ _ hc)
          · exact .inl hb
      · trivial
    · show _ = ns.length
      simp [hlen]; lia
  have rm' : RoomN (A.deeper env) n := ⟨rm.handled, by have := rm.depth; show A.depth + 1 + n ≤ 900; lia, by have := rm.units; show A.units + 3 + 4 * n + 200 ≤ cLine; lia⟩
  exact h env s₁ _ hcode hqual so x1 fi rm' _
end
end Mine
end
section
open PySem PySem.W PyProof.Rows
set_option maxRecDepth 4000
namespace Mine

section
variable {W : Wd} {Γ : Gam} {sc : Scope} {s₀ s : Shared} {env : Env} {M₀ M : List Addr} {own : Nat → Addr} {ρ : Ev}

/-- a name that holds something else than data is stored -/
theorem FI.storeAny {A : Around} {E : Value → Shared → Prop} {Q : Unit → Shared → Prop} {Md : Model} {y : Str} {i : Nat} {v : Value} (so : SOk Γ sc env) (fi : FI W Γ sc s₀ env M₀ own M ρ s) (hy : Γ.vars.lookup y = some i)
    (hk : sc.names.lookup y = some .local ∨ sc.names.lookup y = some .cell) (hu : ρ[i]? = some .un)
    (h : ∀ s', FI W Γ sc s₀ env M₀ own M ρ s' → VarAt s'.heap env y v → (∀ b o, b ≠ locOf env y → s.heap.get? b = some o → s'.heap.get? b = some o) → Q () s') : wpAny Md A (storeName env y v) Q E s := by
  have sl0 := locOf_soft fi.lay so.ek hk
  obtain ⟨lM, lM0, lf⟩ := fi.loc y hk
  refine store_snd so.ek fi.lay hk fun h' tk hkp lay' hv' hoth => ?_
  have hn : ∃ o, h'.get? (locOf env y) = some o ∧ ¬ TabLike o := (locOf_soft (s := { s with heap := h' }) lay' so.ek hk).2.1
  refine Classical.byContradiction fun hQ => ?_
  obtain ⟨x', mok', vr, ow, rs⟩ := fi.chg (tk := tk) hkp lM lf sl0.1 hn
  (refine hQ ?_; clear hQ)
  refine h _ ⟨fi.g₀, x', lay', mok', fi.sub, fi.apart, fi.loc, fi.ownM, fi.inj, fun z j hz sz hs => ?_, fi.len⟩ hv' hkp
  have hf := fi.vis z j hz sz hs
  by_cases q : i = j
  · subst q
    rw [hu] at hs; cases hs; trivial
  · have zy : z ≠ y := fun e => by subst e; rw [hy] at hz; cases hz; exact q rfl
    refine FS.mono_chg vr ow (fun w hw => hoth z w zy hw) (fun xs e => ?_) hf
    subst e
    intro e
    obtain ⟨vs, n, e', _⟩ := hf.2
    exact sl0.2.2 vs n (by rw [← e]; exact e')

theorem CodeRec.chg {h h' : Heap} {b : Addr} (hk : ∀ a o, a ≠ b → h.get? a = some o → h'.get? a = some o) (hs : ∀ o, h.get? b = some o → Soft o) {cd : Value} {q : Str} (x : h.CodeRec cd q) : h'.CodeRec cd q := by
  refine Classical.byContradiction fun hQ => ?_
  obtain ⟨c, o, vs, t, e1, e2, e3, e4⟩ := x
  (refine hQ ?_; clear hQ)
  exact ⟨c, o, vs, t, e1, hk c o (fun z => by subst z; exact (hs o e2).2 vs q t e3 e4) e2, e3, e4⟩

theorem intsOf_map : ∀ {xs : List PyData} {ds : List Int}, intsOf xs = some ds → xs = ds.map .int
  | [], ds, h => by cases h; rfl
  | x :: r, ds, h => by
    cases x <;> simp only [intsOf] at h <;> try (cases h; done)
    obtain ⟨es, h1, rfl⟩ := Option.map_eq_some_iff.mp h
    rw [intsOf_map h1]; rfl
end

/-- what _digits2int answers -/
noncomputable def phiD2I : List V → Option V
  | [.d (.list xs), .d (.int n)] => (intsOf xs).bind fun ds => if decide (1 ≤ n) && decide (n.toNat * ds.length ≤ 2900) && digOk n.toNat ds then some (.d (.int (dval n.toNat ds))) else none
  | _ => none

noncomputable def dOutNs : List Str := [sDigits, sN, sInner]
noncomputable def sLen : Str := Str.ofString "len"

structure D2O (B : Base) (a : Addr) (fd : FuncData) (t : Tb) (params : Arguments) (isc : Scope) (q q' : Nat → Pos) (k k' : Nat → Nat) : Prop where
  at_ : ∀ {h}, B.W.ok h → ∃ o, h.get? a = some o ∧ o.data = .func fd
  cd : ∀ {h}, B.W.ok h → h.CodeRec fd.code fd.qualname
  body : fd.body = .stmts [.FunctionDef sInner params (d2Body q k) [] none [] isc none sInner t.pos,
    .Return (some (.IfExp (.Name sDigits (q' 1)) (.Call (.Name sInner (q' 2)) [.Constant (.int 0) (k' 1) (q' 3), .Call (.Name sLen (q' 4)) [.Name sDigits (q' 5)] [] (q' 6)] [] (q' 7)) (.Constant (.int 0) (k' 2) (q' 8)) (q' 9))) (q' 10)]
  fo : FnOk fd.scope [sDigits, sN] dOutNs
  cdig : fd.scope.names.lookup sDigits = some .cell
  cn : fd.scope.names.lookup sN = some .cell
  cin : fd.scope.names.lookup sInner = some .cell
  len : fd.scope.names.lookup sLen = some .globalImplicit
  bind : ∀ vals : List Value, vals.length = 2 → bindArgs fd ⟨vals, []⟩ = pure ([sDigits, sN].zip vals)
  clo : fd.closure = []
  glob : fd.globals = mainGlobals
  blt : fd.builtins = builtinsNs
  code : fd.code = .ref t.c
  qual : fd.qualname ++ Str.ofString ".<locals>." ++ sInner = t.qual
  tab : t ∈ B.tabs
  isok : ScD isc
  ifree : ∀ p ∈ isc.names, p.2 = .free → p.1 = sDigits ∨ p.1 = sN ∨ p.1 = sInner
  pd : params.defaults = []
  pk : params.kw_defaults = []
  pa : ∀ env, annTrees params none env = []
  ibind : ∀ (fd' : FuncData) (u v : Value), fd'.params = params → fd'.defaults = .none → fd'.kwdefaults = .none → bindArgs fd' ⟨[u, v], []⟩ = pure [(sL, u), (sR, v)]

theorem d2i_ctr {B : Base} {a : Addr} {fd : FuncData} {t : Tb} {params : Arguments} {isc : Scope} {q q' : Nat → Pos} {k k' : Nat → Nat} (F : D2O B a fd t params isc q q' k k') (hb : B.blts = bltAll) (n : Nat) : Ctr B.W (n + 16) a phiD2I := by
  intro A s M vals vs r E Q rm g mok hv hown e h
  unfold phiD2I at e
  split at e
  case h_2 => cases e
  rename_i xs ni
  refine Classical.byContradiction fun hQ => ?_
  obtain ⟨ds, e1, e2⟩ := b_inv e
  (refine hQ ?_; clear hQ)
  split at e2
  case isFalse => cases e2
  rename_i hc
  cases e2
  rw [Bool.and_eq_true, Bool.and_eq_true, decide_eq_true_eq, decide_eq_true_eq] at hc
  obtain ⟨⟨hn1, hsz⟩, hdig⟩ := hc
  have hxs := intsOf_map e1
  subst hxs
  have hni : ((ni.toNat : Nat) : Int) = ni := Int.toNat_of_nonneg (by lia)
  have hn1' : 1 ≤ ni.toNat := by lia
  have hlen : ds.length ≤ 2900 := Nat.le_trans (Nat.le_mul_of_pos_left _ hn1') hsz
  refine fn_enter (n := n + 15) F.fo F.at_ F.cd F.body F.bind F.clo F.glob F.blt rm g mok hv hown rfl fun env s₁ M' hcode hqual so x1 fi rm' E' => ?_
  have gm : (gamOf dOutNs).vars.lookup sDigits = some 0 ∧ (gamOf dOutNs).vars.lookup sN = some 1 ∧ (gamOf dOutNs).vars.lookup sInner = some 2 := by decide +kernel
  refine Classical.byContradiction fun hQ => ?_
  obtain ⟨g0, g1, g2⟩ := gm
  obtain ⟨o0, o1, o2, o3, o4, o5, o6⟩ := okd
  (refine hQ ?_; clear hQ)
  have kin : env.kindOf sInner = some .cell := by rw [kindOf_eq so.ek]; exact F.cin
  have hq : qualnameIn env sInner sInner = t.qual := by
    unfold qualnameIn
    rw [kin, hqual]
    exact F.qual
  have hcl : closureFor isc env = pure (cloOf env.cells isc.names []) := closure_pure fun p hp hf => by
    rcases F.ifree p hp hf with h1 | h1 | h1
    · rw [h1]; exact so.ek.cells _ (.inl F.cdig)
    · rw [h1]; exact so.ek.cells _ (.inl F.cn)
    · rw [h1]; exact so.ek.cells _ (.inl F.cin)
  refine wpAny_execs_cons (nestDef_K F.pd F.pk (F.pa env) ?_)
  rw [hq]
  refine def_step (B := B) fi.x.good F.tab (by rw [hcode]; exact F.code) so.ek.globals hcl fun f s₂ c' doc pm ctv x2 hf0 hfo hcr => ?_
  have fi2 := fi.ext x2
  refine FI.storeAny so fi2 g2 (.inr F.cin) rfl fun s₃ fi3 hvi hk3 => ?_
  have x13 : ∀ b o, b ≠ locOf env sInner → s₂.heap.get? b = some o → s₃.heap.get? b = some o := hk3
  refine Classical.byContradiction fun hQ => ?_
  obtain ⟨slS, slN, slL⟩ := locOf_soft fi2.lay so.ek (.inr F.cin)
  (refine hQ ?_; clear hQ)
  -- the cells
  have cellOf : ∀ y v, fd.scope.names.lookup y = some .cell → VarAt s₃.heap env y v → ∃ c, env.cells.lookup y = some c ∧ s₃.heap.IsCell c (some v) := fun y v hy hv => by
    rcases hv with ⟨k1, _⟩ | ⟨_, c, e, hc⟩
    · rw [kindOf_eq so.ek, hy] at k1; cases k1
    · exact ⟨c, e, hc⟩
  refine Classical.byContradiction fun hQ => ?_
  obtain ⟨_, dv, hdv, hdr⟩ := fi3.vis sDigits 0 g0 _ rfl
  obtain ⟨_, nv, hnv, hnr⟩ := fi3.vis sN 1 g1 _ rfl
  obtain ⟨nt, rfl⟩ := int_self hnr
  obtain ⟨cD, eD, hcD⟩ := cellOf _ _ F.cdig hdv
  obtain ⟨cN, eN, hcN⟩ := cellOf _ _ F.cn hnv
  obtain ⟨cI, eI, hcI⟩ := cellOf _ _ F.cin hvi
  (refine hQ ?_; clear hQ)
  have memF : ∀ y, isc.names.lookup y = some .free → (cloOf env.cells isc.names []).lookup y = some ((env.cells.lookup y).getD 0) := fun y hy => cloOf_lookup (mem_of_lookup hy)
  have ne12 : sDigits ≠ sInner ∧ sDigits ≠ sN ∧ sInner ≠ sN := by decide +kernel
  generalize hfd : (fnX sInner t.qual params (d2Body q k) isc (cloOf env.cells isc.names []) .none .none doc pm none (.ref c') ctv) = fd' at hfo
  have FD : D2F fd' cD cI cN q k := by
    subst hfd
    exact ⟨rfl, F.isok, rfl, rfl, fun u v => F.ibind _ u v rfl rfl rfl, by rw [memF _ F.isok.dig, eD]; rfl, by rw [memF _ F.isok.inner, eI]; rfl, by rw [memF _ F.isok.n, eN]; rfl,
      fun x c hx => (by
        rcases cloOf_mem _ _ (mem_of_lookup hx) with z | ⟨z, _⟩
        · cases z
        · exact F.ifree _ z rfl),
      fun z => ne12.1 (so.ek.inj _ _ cD eD (by rw [z]; exact eI)), fun z => ne12.2.1 (so.ek.inj _ _ cD eD (by rw [z]; exact eN)), fun z => ne12.2.2 (so.ek.inj _ _ cI eI (by rw [z]; exact eN))⟩
  have hf3 : s₃.heap.get? f = some { cls := .type "function", data := .func fd' } := x13 f _ (fun z => by
    obtain ⟨o, e, _⟩ := (locOf_soft fi.lay so.ek (.inr F.cin)).2.1
    rw [← z, hf0] at e; cases e) hfo
  have D3 : D2 B.W f fd' cD cI cN ds ni.toNat s₃ := by
    refine ⟨fi3.x.good, ⟨_, hf3, rfl⟩, ?_, ⟨dv, hcD, Rep.sub (fun a ha => by cases ha) hdr⟩, hcI, ⟨nt, by rw [hni]; exact hcN⟩⟩
    subst hfd
    exact CodeRec.chg x13 slS hcr
  clear hk3
  refine wpAny_execs_cons (wpAny_Return_some ?_)
  have cx := fi3.cx (A := A.deeper env) so (ctrs0 (n := n + 15)) rm'
  have tst : SndT B.W (gamOf dOutNs) fd.scope (.Name sDigits (q' 1)) (.var 0) := sndT_of (snd_var o4 g0) (plainTest_eq rfl)
  have hsl : szOk (ds.map PyData.int).length = true := by
    unfold szOk
    rw [decide_eq_true_eq, List.length_map]
    exact Nat.le_trans hlen (by decide)
  refine wpAny_IfExp (tst (n + 15) _ _ s₃ env _ _ _ (!(ds.map PyData.int).isEmpty) _ _ cx rfl (by show (if szOk (ds.map PyData.int).length then some (!(ds.map PyData.int).isEmpty) else none) = _; rw [hsl]; rfl) fun s₄ x4 => ?_)
  have fin : ∀ (s' : Shared) tk, SX B.W s s' → Q (.int (dval ni.toNat ds) tk) s' := fun s' tk z => h _ _ z rfl (.int _ _)
  cases hemp : (ds.map PyData.int).isEmpty with
  | true =>
    have : ds = [] := by simpa using hemp
    subst this
    refine wpAny_Constant_int ?_
    exact fin _ _ ((fi3.x.trans x4).trans (SX.toks x4.good))
  | false =>
    have hpos : 1 ≤ ds.length := by
      cases ds with
      | nil => simp at hemp
      | cons => simp
    have fi4 := fi3.ext x4
    have cx4 := fi4.cx (A := A.deeper env) so (ctrs0 (n := n + 15)) rm'
    have hvi4 : VarAt s₄.heap env sInner (.ref f) := hvi.ext x4
    have okLen : okName sLen = true := by decide +kernel
    refine call_in o6 cx4 hvi4 ⟨_, fd', x4.keep _ _ hf3 (data_not fun _ z => by cases z), rfl⟩ (.cons rfl snd_int (.cons rfl (snd_prim (f := .len) okLen F.len (by show (sLen, _) ∈ B.blts; rw [hb]; simp [bltAll, pval, sLen]) rfl (.cons rfl (snd_var o4 g0) .nil)) .nil)) (us := [.d (.int 0), .d (.int (ds.length : Int))]) ?_ fun vals s₅ x5 r5 => ?_
    · have hl62 : (ds.map PyData.int).length < 2 ^ 62 := by rw [List.length_map]; exact Nat.lt_of_le_of_lt hlen (by decide)
      have hp : vprim .len [.d (.list (ds.map PyData.int))] = some (.d (.int (ds.length : Int))) := by
        show (if (ds.map PyData.int).length < 2 ^ 62 then some (V.d (.int ((ds.map PyData.int).length : Int))) else none) = _
        rw [if_pos hl62, List.length_map]
      show (Option.bind (some (V.d (.int 0))) fun x => Option.map (x :: ·) (Option.bind (Option.bind (some [V.d (.list (ds.map PyData.int))]) fun xs => vprim .len xs) fun x => some [x])) = _
      simp only [Option.bind_some, hp, Option.map_some]
    · cases r5 with
      | cons ra rb =>
      cases rb with
      | cons rb rc =>
      cases rc
      obtain ⟨t1, rfl⟩ := int_self ra
      obtain ⟨t2, rfl⟩ := int_self rb
      have D5 := D3.ext (x4.trans x5)
      have := d2_inner FD hdig hsz hn1' 12 0 ds.length (A.deeper env) s₅ t1 t2 E' (fun v s' => Q v s') hpos (Nat.le_trans hlen (by decide)) (by lia) ⟨rm'.handled, by have := rm'.depth; lia, by have := rm'.units; lia⟩ D5 fun s' tk x6 => by
        rw [List.drop_zero, List.take_length]
        exact fin _ _ (((fi3.x.trans x4).trans x5).trans x6)
      rw [Nat.zero_add] at this
      exact this
end Mine
end
section
open PySem PySem.W PyProof.Rows
set_option maxRecDepth 4000
namespace Mine

/-- m digits of x to the base 2^n, the lowest first -/
noncomputable def dig (n : Nat) : Nat → Nat → List Int
  | 0, _ => []
  | m + 1, x => ((x % 2 ^ n : Nat) : Int) :: dig n m (x / 2 ^ n)
theorem dig_length (n : Nat) : ∀ m x, (dig n m x).length = m
  | 0, _ => rfl
  | m + 1, x => by simp [dig, dig_length n m]
theorem dig_split (n r : Nat) : ∀ p x, dig n (p + r) x = dig n p (x % 2 ^ (n * p)) ++ dig n r (x / 2 ^ (n * p))
  | 0, x => by simp [dig]
  | p + 1, x => by
    rw [show p + 1 + r = (p + r) + 1 by lia]
    simp only [dig, List.cons_append]
    rw [dig_split n r p (x / 2 ^ n)]
    have e : 2 ^ (n * (p + 1)) = 2 ^ n * 2 ^ (n * p) := by rw [Nat.mul_add, Nat.mul_one, Nat.pow_add, Nat.mul_comm]
    rw [e, Nat.mod_mul_right_div_self, Nat.mod_mod_of_dvd _ (Nat.dvd_mul_right _ _), Nat.div_div_eq_div_mul]
theorem and_high (x s : Nat) : x &&& (x / 2 ^ s * 2 ^ s) = x / 2 ^ s * 2 ^ s := by
  apply Nat.eq_of_testBit_eq
  intro i
  have e : x / 2 ^ s * 2 ^ s = (x >>> s) <<< s := by rw [Nat.shiftRight_eq_div_pow, Nat.shiftLeft_eq]
  rw [e, Nat.testBit_and, Nat.testBit_shiftLeft, Nat.testBit_shiftRight]
  by_cases h : s ≤ i
  · have : s + (i - s) = i := by lia
    simp [h, this]
  · simp [h]
theorem bitXor_low (x s : Nat) : Builtin.bitXor (x : Int) ((x / 2 ^ s * 2 ^ s : Nat) : Int) = ((x % 2 ^ s : Nat) : Int) := by
  rw [bitXor_and]
  have e : Builtin.bitAnd (x : Int) ((x / 2 ^ s * 2 ^ s : Nat) : Int) = ((x / 2 ^ s * 2 ^ s : Nat) : Int) := by
    unfold Builtin.bitAnd
    rw [decide_eq_true (Int.natCast_nonneg _), decide_eq_true (Int.natCast_nonneg _)]
    show ((((x : Int).toNat &&& ((x / 2 ^ s * 2 ^ s : Nat) : Int).toNat : Nat)) : Int) = _
    rw [Int.toNat_natCast, Int.toNat_natCast, and_high]
  rw [e]
  have := Nat.mod_add_div x (2 ^ s)
  rw [Nat.mul_comm] at this
  lia
theorem dig_val (n : Nat) : ∀ m x, x < 2 ^ (n * m) → dval n (dig n m x) = (x : Int)
  | 0, x, h => by
    have : x = 0 := by simpa using h
    subst this; rfl
  | m + 1, x, h => by
    have e : 2 ^ (n * (m + 1)) = 2 ^ n * 2 ^ (n * m) := by rw [Nat.mul_add, Nat.mul_one, Nat.pow_add, Nat.mul_comm]
    rw [e] at h
    simp only [dig, dval]
    rw [dig_val n m (x / 2 ^ n) (Nat.div_lt_of_lt_mul h)]
    have := Nat.mod_add_div x (2 ^ n)
    rw [Nat.mul_comm] at this
    exact_mod_cast this
theorem dig_ok (n : Nat) : ∀ m x, digOk n (dig n m x) = true
  | 0, _ => rfl
  | m + 1, x => by
    unfold digOk dig
    rw [List.all_cons, Bool.and_eq_true, Bool.and_eq_true, decide_eq_true_eq, decide_eq_true_eq]
    refine ⟨⟨Int.natCast_nonneg _, ?_⟩, dig_ok n m _⟩
    exact_mod_cast Nat.mod_lt _ (Nat.pow_pos (by decide))
theorem dig_one {n x : Nat} (h : x < 2 ^ n) : dig n 1 x = [(x : Int)] := by
  simp [dig, Nat.mod_eq_of_lt h]

section
variable {prog : Program} {w : World} {A : Around} {E : Value → Shared → Prop} {s : Shared}
theorem setItem_plain {l : Addr} {items : Array Value} {n : Nat} {k : Int} {t : Tok} {v : Value} {Q : Unit → Shared → Prop} (ho : s.heap.get? l = some (plainL items n))
    (h0 : 0 ≤ k) (hfit : k < 2 ^ 63) (hn : k < items.size)
    (hQ : ∀ h' n', h'.get? l = some (plainL (items.setIfInBounds k.toNat v) n') → Heap.SameBut l s.heap h' → Q () { s with heap := h' }) :
    wpAny (model prog w) A (setItem (.ref l) (.int k t) v) Q E s := by
  have hl : s.heap.IsList l items := ⟨_, ho, rfl, n, rfl⟩
  have hd : (plainL items n).data = .seq items n := rfl
  unfold setItem
  try with_reducible refine wpAny_holding ?_
  first | refine wpAny_bind (wpAny_pure ?_) | skip
  refine wpAny_bind (wpAny_sequenceKey hl.typeIs (by decide) ?_)
  refine wpAny_bind (wpAny_callSpecial?_slot (name := Str.ofString "__setitem__") hl.typeIs slot_list_setitem
    (wpAny_call_entry slot_list_setitem hl.typeIs entry_list_setitem ?_ (args_list_setitem _ _ _)))
  show wpAny _ _ (Builtin.List.listSubscript? (.int k t) >>= _) _ _ s
  refine wpAny_bind (wpAny_listSubscript_int (fitsIndex_of h0 hfit) ?_)
  clear hfit
  obtain ⟨j, rfl⟩ := Int.eq_ofNat_of_zero_le h0
  have hj : j < items.size := by omega
  have hx' : items[j]? = some items[j] := Array.getElem?_eq_getElem hj
  show wpAny _ _ ((seqItemAt l j >>= fun r => pure (r.map (j, ·))) >>= _) _ _ s
  refine wpAny_bind (wpAny_bind (wpAny_seqItemAt ho hd (wpAny_pure ?_)))
  rw [hx']
  show wpAny _ _ (setSeqItemAt l j v >>= _) _ _ s
  have em : Obj.mapSeq (fun x => x.setIfInBounds j v) (plainL items n) = plainL (items.setIfInBounds j v) (if (items.setIfInBounds j v).size == items.size then n else n + 1) := rfl
  have hfin : (s.heap.update l (Obj.mapSeq (·.setIfInBounds j v))).get? l = some (plainL (items.setIfInBounds j v) (if (items.setIfInBounds j v).size == items.size then n else n + 1)) := by
    rw [Heap.get?_update_self _ ho (by rw [em]; rfl), em]
  refine wpAny_bind (wpAny_setSeqItemAt ho hd ?_)
  first
    | exact wpAny_bind (wpAny_pure (wpAny_pure ⟨.none, rfl, wpAny_pure (hQ _ _ hfin (Heap.SameBut.update ..))⟩))
    | exact wpAny_pure ⟨.none, rfl, wpAny_pure (hQ _ _ hfin (Heap.SameBut.update ..))⟩
end
end Mine
end
section
open PySem PySem.W PyProof.Rows
set_option maxRecDepth 4000
namespace Mine

/-- one list changes, nothing else -/
structure Cg (ad : Addr) (s s' : Shared) : Prop where
  keep : ∀ b o, b ≠ ad → s.heap.get? b = some o → ¬ TabLike o → s'.heap.get? b = some o
  occ : ∀ b o, s.heap.get? b = some o → ∃ o', s'.heap.get? b = some o'
  os : s'.os = s.os
  gens : ∀ (i : Nat) g, s.gens[i]? = some g → s'.gens[i]? = some g
theorem Cg.of_SX {W : Wd} {ad : Addr} {s s' : Shared} (x : SX W s s') : Cg ad s s' := ⟨fun b o _ e n => x.keep b o e n, x.occ, x.os, x.gens⟩
theorem Cg.trans {ad : Addr} {s s' s'' : Shared} (x : Cg ad s s') (y : Cg ad s' s'') : Cg ad s s'' :=
  ⟨fun b o h e n => y.keep b o h (x.keep b o h e n) n, fun b o e => let ⟨o', e'⟩ := x.occ b o e; y.occ b o' e', y.os.trans x.os, fun i g e => y.gens i g (x.gens i g e)⟩

noncomputable def ListAt (h : Heap) (a : Addr) (xs : List Int) : Prop := ∃ vs k, h.get? a = some (plainL vs k) ∧ Reps h [] vs.toList (xs.map .int)
theorem flat_ints : ∀ xs : List Int, (xs.map PyData.int).all flatD = true
  | [] => rfl
  | _ :: r => by rw [List.map_cons, List.all_cons, flat_ints r]; rfl
theorem ListAt.ext {W : Wd} {s s' : Shared} {a : Addr} {xs : List Int} (l : ListAt s.heap a xs) (x : SX W s s') : ListAt s'.heap a xs :=
  let ⟨vs, k, e, r⟩ := l; ⟨vs, k, x.keep _ _ e notTab_L, reps_flat (flat_ints _) r⟩

/-- the closed-over cells of the writer of digits -/
structure I2 (W : Wd) (f : Addr) (fd : FuncData) (cA cI cN ad : Addr) (n : Nat) (s : Shared) : Prop where
  good : Good W s
  ho : ∃ o, s.heap.get? f = some o ∧ o.data = .func fd
  hcd : s.heap.CodeRec fd.code fd.qualname
  cellA : s.heap.IsCell cA (some (.ref ad))
  cellI : s.heap.IsCell cI (some (.ref f))
  cellN : ∃ t, s.heap.IsCell cN (some (.int (n : Int) t))

section
variable {W : Wd} {f : Addr} {fd : FuncData} {cA cI cN ad : Addr} {n : Nat} {s s' : Shared}

theorem Cell.chg (x : Cg ad s s') {xs : List Int} (l : ListAt s.heap ad xs) {c : Addr} {v : Option Value} (h : s.heap.IsCell c v) : s'.heap.IsCell c v := by
  refine Classical.byContradiction fun hQ => ?_
  obtain ⟨o, e, hd⟩ := h
  obtain ⟨vs, k, e2, _⟩ := l
  (refine hQ ?_; clear hQ)
  exact ⟨o, x.keep c o (fun z => by rw [z, e2] at e; cases e; cases hd) e (data_not fun fs q => by rw [hd] at q; cases q), hd⟩
theorem Ns.chg (x : Cg ad s s') {xs : List Int} (l : ListAt s.heap ad xs) {a : Addr} {m : Str → Option Value} (h : s.heap.Ns a m) : s'.heap.Ns a m := by
  refine Classical.byContradiction fun hQ => ?_
  obtain ⟨o, es, ep, e, hd, r⟩ := h
  obtain ⟨vs, k, e2, _⟩ := l
  (refine hQ ?_; clear hQ)
  exact ⟨o, es, ep, x.keep a o (fun z => by rw [z, e2] at e; cases e; cases hd) e (data_not fun fs q => by rw [hd] at q; cases q), hd, r⟩
theorem I2.chg (d : I2 W f fd cA cI cN ad n s) (g : Good W s') (x : Cg ad s s') {xs : List Int} (l : ListAt s.heap ad xs) : I2 W f fd cA cI cN ad n s' := by
  refine Classical.byContradiction fun hQ => ?_
  obtain ⟨vs, k, e2, _⟩ := l
  (refine hQ ?_; clear hQ)
  have l : ListAt s.heap ad xs := ⟨vs, k, e2, by assumption⟩
  refine ⟨g, ?_, ?_, Cell.chg x l d.cellA, Cell.chg x l d.cellI, (let ⟨t, c⟩ := d.cellN; ⟨t, Cell.chg x l c⟩)⟩
  · obtain ⟨o, e, h⟩ := d.ho
    exact ⟨o, x.keep f o (fun z => by rw [z, e2] at e; cases e; cases h) e (data_not fun fs q => by rw [h] at q; cases q), h⟩
  · refine Classical.byContradiction fun hQ => ?_
    obtain ⟨c, o, v, t, e1, e3, e4, e5⟩ := d.hcd
    (refine hQ ?_; clear hQ)
    exact ⟨c, o, v, t, e1, x.keep c o (fun z => by rw [z, e2] at e3; cases e3; cases e4) e3 (fun z => by (obtain ⟨fs, f1, f2⟩ := z.2; rw [e4] at f1; cases f1; exact f2 _ _ e5)), e4, e5⟩
theorem I2.ext (d : I2 W f fd cA cI cN ad n s) (x : SX W s s') : I2 W f fd cA cI cN ad n s' :=
  ⟨x.good, (let ⟨o, e, h⟩ := d.ho; ⟨o, x.keep _ _ e (data_not fun fs q => by rw [h] at q; cases q), h⟩), CodeRec.ext x d.hcd, Cell.ext x d.cellA, Cell.ext x d.cellI, (let ⟨t, a⟩ := d.cellN; ⟨t, Cell.ext x a⟩)⟩

theorem FI.cxMove {Γ : Gam} {sc : Scope} {s₀ : Shared} {env : Env} {M₀ M : List Addr} {own : Nat → Addr} {ρ : Ev} (fi : FI W Γ sc s₀ env M₀ own M ρ s) (so : SOk Γ sc env) (hf : ∀ sl ∈ ρ, flatSlot sl = true) (g : Good W s') (x : Cg ad s s') {xs : List Int} (l : ListAt s.heap ad xs) {A : Around} {m : Nat} (rm : RoomN A m) :
    Cx W Γ sc m Φ0 A s' env [] ρ := by
  refine ⟨fun _ _ _ _ _ e => (by cases e), rm.w, g, so.ek, fun _ h => (by cases h), fun y i hy sl hs => ?_, ⟨let ⟨m, n⟩ := fi.lay.ns; ⟨m, Ns.chg x l n⟩, fun y c e => let ⟨v, h⟩ := fi.lay.cell y c e; ⟨v, Cell.chg x l h⟩⟩, fi.len, so.wf⟩
  have hv := fi.vis y i hy sl hs
  have hfl := hf sl (List.mem_of_getElem? hs)
  cases sl with
  | un => trivial
  | sh u =>
    refine Classical.byContradiction fun hQ => ?_
    obtain ⟨h1, v, h2, h3⟩ := hv
    (refine hQ ?_; clear hQ)
    refine ⟨h1, v, ?_, ?_⟩
    · rcases h2 with ⟨k1, m, ns, e⟩ | ⟨k1, c, e, hc⟩
      · exact .inl ⟨k1, m, Ns.chg x l ns, e⟩
      · exact .inr ⟨k1, c, e, Cell.chg x l hc⟩
    · cases u with
      | d d => exact Rep.flat hfl h3
      | _ => cases hfl
  | ow _ => cases hfl
end

noncomputable def sX : Str := Str.ofString "x"
noncomputable def sUp : Str := Str.ofString "upper"
noncomputable def sLo : Str := Str.ofString "lower"
noncomputable def sAD : Str := Str.ofString "a_digits"

noncomputable def i2If (q : Nat → Pos) (k : Nat → Nat) : Stmt := .If (.Compare (.BinOp (.Name sL (q 1)) .Add (.Constant (.int 1) (k 1) (q 2)) (q 3)) [.Eq] [.Name sR (q 4)] (q 5)) [.Assign [.Subscript (.Name sAD (q 6)) (.Name sL (q 7)) (q 8)] (.Name sX (q 9)) (q 10), .Return none (q 11)] [] (q 12)
noncomputable def i2Mid (q : Nat → Pos) (k : Nat → Nat) : Stmt := .Assign [.Name sMid (q 13)] (.BinOp (.BinOp (.Name sL (q 14)) .Add (.Name sR (q 15)) (q 16)) .RShift (.Constant (.int 1) (k 2) (q 17)) (q 18)) (q 19)
noncomputable def i2Shift (q : Nat → Pos) : Stmt := .Assign [.Name sShift (q 20)] (.BinOp (.BinOp (.Name sMid (q 21)) .Sub (.Name sL (q 22)) (q 23)) .Mult (.Name sN (q 24)) (q 25)) (q 26)
noncomputable def i2Up (q : Nat → Pos) : Stmt := .Assign [.Name sUp (q 27)] (.BinOp (.Name sX (q 28)) .RShift (.Name sShift (q 29)) (q 30)) (q 31)
noncomputable def i2Lo (q : Nat → Pos) : Stmt := .Assign [.Name sLo (q 32)] (.BinOp (.Name sX (q 33)) .BitXor (.BinOp (.Name sUp (q 34)) .LShift (.Name sShift (q 35)) (q 36)) (q 37)) (q 38)
noncomputable def i2C1 (q : Nat → Pos) : Stmt := .Expr (.Call (.Name sInner (q 39)) [.Name sLo (q 40), .Name sL (q 41), .Name sMid (q 42)] [] (q 43)) (q 44)
noncomputable def i2C2 (q : Nat → Pos) : Stmt := .Expr (.Call (.Name sInner (q 45)) [.Name sUp (q 46), .Name sMid (q 47), .Name sR (q 48)] [] (q 49)) (q 50)
noncomputable def i2Body (q : Nat → Pos) (k : Nat → Nat) : List Stmt := [i2If q k, i2Mid q k, i2Shift q, i2Up q, i2Lo q, i2C1 q, i2C2 q]

noncomputable def i2Ns : List Str := [sX, sL, sR, sMid, sShift, sUp, sLo, sN]
noncomputable def gamI : Gam := gamOf i2Ns
theorem gi2 : gamI.vars.lookup sX = some 0 ∧ gamI.vars.lookup sL = some 1 ∧ gamI.vars.lookup sR = some 2 ∧ gamI.vars.lookup sMid = some 3 ∧ gamI.vars.lookup sShift = some 4 ∧ gamI.vars.lookup sUp = some 5 ∧ gamI.vars.lookup sLo = some 6 ∧ gamI.vars.lookup sN = some 7 := by decide +kernel
theorem oki : okName sX = true ∧ okName sUp = true ∧ okName sLo = true ∧ okName sAD = true := by decide +kernel

structure ScI (sc : Scope) : Prop where
  kind : sc.kind = .function
  co : sc.isCoroutine = false
  gen : sc.isGenerator = false
  x : sc.names.lookup sX = some .local
  l : sc.names.lookup sL = some .local
  r : sc.names.lookup sR = some .local
  mid : sc.names.lookup sMid = some .local
  shift : sc.names.lookup sShift = some .local
  up : sc.names.lookup sUp = some .local
  lo : sc.names.lookup sLo = some .local
  ad : sc.names.lookup sAD = some .free
  n : sc.names.lookup sN = some .free
  inner : sc.names.lookup sInner = some .free
  noc : ∀ p ∈ sc.names, p.2 ≠ .cell
  frees : ∀ x, sc.names.lookup x = some .free → x = sAD ∨ x = sN ∨ x = sInner

structure I2F (fd : FuncData) (cA cI cN : Addr) (q : Nat → Pos) (k : Nat → Nat) : Prop where
  body : fd.body = .stmts (i2Body q k)
  sc : ScI fd.scope
  glob : fd.globals = mainGlobals
  blt : fd.builtins = builtinsNs
  bind : ∀ u v w : Value, bindArgs fd ⟨[u, v, w], []⟩ = pure [(sX, u), (sL, v), (sR, w)]
  c1 : fd.closure.lookup sAD = some cA
  c2 : fd.closure.lookup sInner = some cI
  c3 : fd.closure.lookup sN = some cN
  only : ∀ x c, fd.closure.lookup x = some c → x = sAD ∨ x = sN ∨ x = sInner
  n1 : cA ≠ cI
  n2 : cA ≠ cN
  n3 : cI ≠ cN

noncomputable def rI (x L R : Int) (mid shift up lo : Mine.Slot) (n : Nat) : Ev := [.sh (.d (.int x)), .sh (.d (.int L)), .sh (.d (.int R)), mid, shift, up, lo, .sh (.d (.int (n : Int)))]

section
variable {W : Wd} {f : Addr} {fd : FuncData} {cA cI cN ad : Addr} {n : Nat} {q : Nat → Pos} {k : Nat → Nat}

theorem I2.cells (F : I2F fd cA cI cN q k) {s : Shared} (d : I2 W f fd cA cI cN ad n s) : (∀ x c, fd.closure.lookup x = some c → ∃ v, s.heap.IsCell c v) ∧ (∀ x y c, fd.closure.lookup x = some c → fd.closure.lookup y = some c → x = y) := by
  have key : ∀ x c, fd.closure.lookup x = some c → (x = sAD ∧ c = cA) ∨ (x = sInner ∧ c = cI) ∨ (x = sN ∧ c = cN) := fun x c e => by
    rcases F.only x c e with rfl | rfl | rfl
    · rw [F.c1] at e; cases e; exact .inl ⟨rfl, rfl⟩
    · rw [F.c3] at e; cases e; exact .inr (.inr ⟨rfl, rfl⟩)
    · rw [F.c2] at e; cases e; exact .inr (.inl ⟨rfl, rfl⟩)
  refine ⟨fun x c e => ?_, fun x y c e1 e2 => ?_⟩
  · rcases key x c e with ⟨_, rfl⟩ | ⟨_, rfl⟩ | ⟨_, rfl⟩
    · exact ⟨_, d.cellA⟩
    · exact ⟨_, d.cellI⟩
    · obtain ⟨t, a⟩ := d.cellN; exact ⟨_, a⟩
  · have n1 := F.n1; have n2 := F.n2; have n3 := F.n3
    rcases key x c e1 with ⟨rfl, rfl⟩ | ⟨rfl, rfl⟩ | ⟨rfl, rfl⟩ <;> rcases key y _ e2 with ⟨rfl, h⟩ | ⟨rfl, h⟩ | ⟨rfl, h⟩ <;> first | rfl | exact absurd h ‹_› | exact absurd h.symm ‹_›

theorem i2_enter (F : I2F fd cA cI cN q k) {lv : Nat} {x L R : Int} {A : Around} {s : Shared} {tx tl tr : Tok} {E Q : Value → Shared → Prop} (rm : RoomN A (lv + 1)) (d : I2 W f fd cA cI cN ad n s)
    (h : ∀ env s₁, SOk gamI fd.scope env → SX W s s₁ → FI W gamI fd.scope s env [] (fun _ => 0) [env.locals] (rI x L R .un .un .un .un n) s₁ → (∀ s', I2 W f fd cA cI cN ad n s' → VarAt s'.heap env sInner (.ref f) ∧ VarAt s'.heap env sAD (.ref ad)) → RoomN (A.deeper env) lv →
      ∀ E' : Value → Shared → Prop, wpAny (model W.prog W.w) (A.deeper env) (execs (i2Body q k) env) (fun fl s' => Q (match fl with | .ret v => v | _ => .none) s') E' s₁) :
    wpAny (model W.prog W.w) A (call (.ref f) [.int x tx, .int L tl, .int R tr] []) Q E s := by
  refine Classical.byContradiction fun hQ => ?_
  obtain ⟨o, ho, hd⟩ := d.ho
  obtain ⟨hcl, cinj⟩ := d.cells F
  (refine hQ ?_; clear hQ)
  refine clo_call (ps := [sX, sL, sR]) (ns := i2Ns) (ds := [.int x, .int L, .int R]) (fs := [none, none, none, none, some (.int (n : Int))]) d.good rm ho hd d.hcd F.body (F.bind _ _ _) F.glob F.blt F.sc.kind F.sc.co F.sc.gen F.sc.noc
    ?_ (by decide +kernel) (by decide +kernel) rfl rfl ?_ cinj hcl (.cons (.int _ _) (.cons (.int _ _) (.cons (.int _ _) .nil))) rfl rfl ?_ fun env s₁ hcells hkind so x1 fi rm' => ?_
  · intro y hy
    simp only [List.mem_cons, List.not_mem_nil, or_false] at hy
    rcases hy with rfl | rfl | rfl
    · exact F.sc.x
    · exact F.sc.l
    · exact F.sc.r
  · intro x hx
    rcases F.sc.frees x hx with rfl | rfl | rfl
    · exact ⟨_, F.c1⟩
    · exact ⟨_, F.c3⟩
    · exact ⟨_, F.c2⟩
  · intro i y dd hy hi
    rcases i with _ | _ | _ | _ | _ | i
    · simp at hi
    · simp at hi
    · simp at hi
    · simp at hi
    · simp at hi; subst hi
      have : y = sN := by simp [i2Ns] at hy; exact hy.symm
      subst this
      obtain ⟨t, a⟩ := d.cellN
      exact ⟨F.sc.n, _, _, F.c3, a, .int _ _⟩
    · simp at hi
  · exact h env s₁ so x1 fi (fun s' d' => ⟨.inr ⟨.inr (by rw [hkind]; exact F.sc.inner), cI, by rw [hcells]; exact F.c2, d'.cellI⟩, .inr ⟨.inr (by rw [hkind]; exact F.sc.ad), cA, by rw [hcells]; exact F.c1, d'.cellA⟩⟩) rm' _
end
end Mine
end
section
open PySem PySem.W PyProof.Rows
set_option maxRecDepth 4000
namespace Mine

noncomputable def iTest : CE := .cmp .Eq (.bin .Add (.var 1) (.lit (.int 1))) (.var 2)
noncomputable def iMid : CS := .asg 3 (.bin .RShift (.bin .Add (.var 1) (.var 2)) (.lit (.int 1)))
noncomputable def iShift : CS := .asg 4 (.bin .Mult (.bin .Sub (.var 3) (.var 1)) (.var 7))
noncomputable def iUp : CS := .asg 5 (.bin .RShift (.var 0) (.var 4))
noncomputable def iLo : CS := .asg 6 (.bin .BitXor (.var 0) (.bin .LShift (.var 5) (.var 4)))

section
variable {W : Wd} {n : Nat} {q : Nat → Pos} {k : Nat → Nat}

theorem i2_test (sc : Scope) : SndT W gamI sc (.Compare (.BinOp (.Name sL (q 1)) .Add (.Constant (.int 1) (k 1) (q 2)) (q 3)) [.Eq] [.Name sR (q 4)] (q 5)) iTest := by
  refine Classical.byContradiction fun hQ => ?_
  obtain ⟨g0, g1, g2, g3, g4, g5, g6, g7⟩ := gi2
  obtain ⟨o0, o1, o2, o3, o4, o5, o6⟩ := okd
  (refine hQ ?_; clear hQ)
  exact sndT_cmp (snd_bin (snd_var o0 g1) snd_int) (snd_var o1 g2) rfl

theorem i2_stmts (sc : Scope) (S : ScI sc) : SndS W gamI sc (i2Mid q k) iMid ∧ SndS W gamI sc (i2Shift q) iShift ∧ SndS W gamI sc (i2Up q) iUp ∧ SndS W gamI sc (i2Lo q) iLo := by
  refine Classical.byContradiction fun hQ => ?_
  obtain ⟨g0, g1, g2, g3, g4, g5, g6, g7⟩ := gi2
  obtain ⟨o0, o1, o2, o3, o4, o5, o6⟩ := okd
  obtain ⟨p0, p1, p2, p3⟩ := oki
  (refine hQ ?_; clear hQ)
  exact ⟨s_asg ⟨g3, .inl S.mid⟩ rfl (snd_bin (snd_bin (snd_var o0 g1) (snd_var o1 g2)) snd_int), s_asg ⟨g4, .inl S.shift⟩ rfl (snd_bin (snd_bin (snd_var o2 g3) (snd_var o0 g1)) (snd_var o5 g7)),
    s_asg ⟨g5, .inl S.up⟩ rfl (snd_bin (snd_var p0 g0) (snd_var o3 g4)), s_asg ⟨g6, .inl S.lo⟩ rfl (snd_bin (snd_var p0 g0) (snd_bin (snd_var p1 g5) (snd_var o3 g4)))⟩

theorem iTest_eq {x : Int} {L m : Nat} {a b c d : Mine.Slot} : ceval Φ0 iTest (rI x L ((L + m : Nat) : Int) a b c d n) = some (.d (.bool (decide (m = 1)))) := by
  have h1 : decide (((L : Int) + 1) = ((L + m : Nat) : Int)) = decide (m = 1) := by
    by_cases h : m = 1
    · subst h; rw [decide_eq_true rfl, decide_eq_true (by push_cast; rfl)]
    · rw [decide_eq_false h, decide_eq_false (by push_cast; lia)]
  exact (ev_cmp (ev_ib (rv0 rfl) ev_c rfl) (rv0 rfl) (dcmp_int)).trans (by rw [h1])

theorem iMid_eq {x : Int} {L m : Nat} {b c d : Mine.Slot} : cex Φ0 0 iMid (rI x L ((L + m : Nat) : Int) .un b c d n) = some (rI x L ((L + m : Nat) : Int) (.sh (.d (.int ((L + m / 2 : Nat) : Int)))) b c d n, .nx) := by
  refine (ev_asg (v := .d (.int ((L + m / 2 : Nat) : Int))) (ev_ib (ev_ib (rv0 rfl) (rv0 rfl) rfl) ev_c ?_) rfl)
  show some (((L : Int) + ((L + m : Nat) : Int)).fdiv (2 ^ (1 : Int).toNat)) = _
  rw [← half (L := L) (m := m)]
  push_cast
  rfl

theorem iShift_eq {x : Int} {L m : Nat} {R : Int} {c d : Mine.Slot} (hm : m < 2 ^ 60) (hn : n < 2 ^ 60) : cex Φ0 0 iShift (rI x L R (.sh (.d (.int ((L + m : Nat) : Int)))) .un c d n) = some (rI x L R (.sh (.d (.int ((L + m : Nat) : Int)))) (.sh (.d (.int ((m * n : Nat) : Int)))) c d n, .nx) := by
  have h1 : ((L + m : Nat) : Int) - (L : Int) = (m : Int) := by push_cast; lia
  refine (ev_asg (v := .d (.int ((m * n : Nat) : Int))) (ev_ib (ev_ib (rv0 rfl) (rv0 rfl) rfl) (rv0 rfl) ?_) rfl)
  rw [h1, ib_mul, fit_nat hm, fit_nat hn, Int.natCast_mul]
  rfl

theorem ibin_shr {x s : Nat} : ibin .RShift (x : Int) (s : Int) = some ((x / 2 ^ s : Nat) : Int) := by
  rw [ib_shr, decide_eq_true (Int.natCast_nonneg s), Int.toNat_natCast, Int.fdiv_eq_ediv_of_nonneg _ (Int.le_of_lt (Int.pow_pos (by decide)))]
  rfl

theorem iUp_eq {x s : Nat} {L R : Int} {a d : Mine.Slot} : cex Φ0 0 iUp (rI x L R a (.sh (.d (.int (s : Int)))) .un d n) = some (rI x L R a (.sh (.d (.int (s : Int)))) (.sh (.d (.int ((x / 2 ^ s : Nat) : Int)))) d n, .nx) :=
  ev_asg (v := .d (.int ((x / 2 ^ s : Nat) : Int))) (ev_ib (rv0 rfl) (rv0 rfl) ibin_shr) rfl

theorem iLo_eq {x s : Nat} {L R : Int} {a : Mine.Slot} (hx : fit ((x / 2 ^ s : Nat) : Int) = true) (hs : (s : Int) ≤ 8000) : cex Φ0 0 iLo (rI x L R a (.sh (.d (.int (s : Int)))) (.sh (.d (.int ((x / 2 ^ s : Nat) : Int)))) .un n) =
    some (rI x L R a (.sh (.d (.int (s : Int)))) (.sh (.d (.int ((x / 2 ^ s : Nat) : Int)))) (.sh (.d (.int ((x % 2 ^ s : Nat) : Int)))) n, .nx) := by
  have hb : ibin .BitXor (x : Int) (((x / 2 ^ s : Nat) : Int) * 2 ^ s) = some ((x % 2 ^ s : Nat) : Int) := by
    have : (((x / 2 ^ s : Nat) : Int) * 2 ^ s) = ((x / 2 ^ s * 2 ^ s : Nat) : Int) := by push_cast; rfl
    rw [this, ← bitXor_low]; rfl
  exact ev_asg (v := .d (.int ((x % 2 ^ s : Nat) : Int))) (ev_ib (rv0 rfl) (ev_ib (rv0 rfl) (rv0 rfl) (ibin_shl hx hs)) hb) rfl
end
end Mine
end
section
open PySem PySem.W PyProof.Rows
set_option maxRecDepth 4000
namespace Mine

theorem set_eq {α : Type} {xs : List α} {L : Nat} {v : α} (h : L < xs.length) : xs.set L v = xs.take L ++ [v] ++ xs.drop (L + 1) := by
  rw [List.set_eq_take_append_cons_drop, if_pos h]; simp

section
variable {W : Wd} {f : Addr} {fd : FuncData} {cA cI cN ad : Addr} {n : Nat} {q : Nat → Pos} {k : Nat → Nat}

theorem rI_flat {x L R : Int} {a b c d : Mine.Slot} (ha : flatSlot a = true) (hb : flatSlot b = true) (hc : flatSlot c = true) (hd : flatSlot d = true) : ∀ sl ∈ rI x L R a b c d n, flatSlot sl = true := by
  intro sl h
  simp only [rI, List.mem_cons, List.not_mem_nil, or_false] at h
  rcases h with rfl | rfl | rfl | rfl | rfl | rfl | rfl | rfl <;> first | rfl | assumption

theorem i2_inner (F : I2F fd cA cI cN q k) (hst : ¬ W.stat ad) (hn : 1 ≤ n) (N : Nat) (hsz : n * N ≤ 2900) : ∀ (lv : Nat) (L m x : Nat) (xs : List Int) (A : Around) (s : Shared) (tx tl tr : Tok) (E Q : Value → Shared → Prop), 1 ≤ m → m ≤ 2 ^ lv → L + m ≤ N → xs.length = N → x < 2 ^ (n * m) →
    RoomN A (lv + 1) → I2 W f fd cA cI cN ad n s → ListAt s.heap ad xs →
    (∀ s', Good W s' → Cg ad s s' → ListAt s'.heap ad (xs.take L ++ dig n m x ++ xs.drop (L + m)) → Q .none s') → wpAny (model W.prog W.w) A (call (.ref f) [.int (x : Int) tx, .int (L : Int) tl, .int ((L + m : Nat) : Int) tr] []) Q E s := by
  have hN : N ≤ 2900 := Nat.le_trans (Nat.le_mul_of_pos_left _ hn) hsz
  refine Classical.byContradiction fun hQ => ?_
  obtain ⟨g0, g1, g2, g3, g4, g5, g6, g7⟩ := gi2
  obtain ⟨o0, o1, o2, o3, o4, o5, o6⟩ := okd
  obtain ⟨p0, p1, p2, p3⟩ := oki
  (refine hQ ?_; clear hQ)
  have one : ∀ (lv : Nat) (L x : Nat) (xs : List Int) (A : Around) (s : Shared) (tx tl tr : Tok) (E Q : Value → Shared → Prop), L + 1 ≤ N → xs.length = N → x < 2 ^ (n * 1) →
      RoomN A (lv + 1) → I2 W f fd cA cI cN ad n s → ListAt s.heap ad xs →
      (∀ s', Good W s' → Cg ad s s' → ListAt s'.heap ad (xs.take L ++ dig n 1 x ++ xs.drop (L + 1)) → Q .none s') → wpAny (model W.prog W.w) A (call (.ref f) [.int (x : Int) tx, .int (L : Int) tl, .int ((L + 1 : Nat) : Int) tr] []) Q E s := by
    intro lv L x xs A s tx tl tr E Q h3 hl hx rm d ha h
    refine i2_enter F rm d fun env s₁ so x1 fi hv rm' E' => ?_
    refine wpAny_execs_cons (wpAny_If (i2_test fd.scope lv Φ0 _ s₁ env _ _ _ true _ _ (fi.cx so ctrs0 rm') iTest_eq rfl fun s₂ x2 => ?_))
    rw [if_pos rfl]
    have fi2 := fi.ext x2
    have d2 := d.ext (x1.trans x2)
    refine wpAny_execs_cons (wpAny_Assign_Subscript ((snd_var p0 g0) lv Φ0 _ s₂ env _ _ _ _ _ (fi2.cx so ctrs0 rm') rfl fun xv s₃ x3 r3 => ?_))
    have fi3 := fi2.ext x3
    have d3 := d2.ext x3
    refine load_var p3 (scope_fn so.ek) (hv s₃ d3).2 ((snd_var o0 g1) lv Φ0 _ s₃ env _ _ _ _ _ (fi3.cx so ctrs0 rm') rfl fun lv' s₄ x4 r4 => ?_)
    obtain ⟨t3, rfl⟩ := int_self r3
    obtain ⟨t4, rfl⟩ := int_self r4
    have x04 := ((x1.trans x2).trans x3).trans x4
    obtain ⟨vs, kk, e4, r4'⟩ := ha.ext x04
    have hvl := r4'.length
    rw [Array.length_toList, List.length_map] at hvl
    refine setItem_plain e4 (Int.natCast_nonneg L) (Int.lt_of_lt_of_le (b := 4000) (by lia) (by decide)) (by rw [hvl]; lia) fun h' k' e' hsb => ?_
    refine wpAny_execs_cons (wpAny_Return_none ?_)
    rw [Int.toNat_natCast] at e'
    have gd : Good W { s₄ with heap := h' } := ⟨W.mono x4.good.ok fun b o z e => hsb.extBut b o (fun y => by
      subst y
      rcases z with z | z
      · exact hst z
      · rw [e4] at e; cases e; exact z soft_L) e, x4.good.bare⟩
    refine h _ gd ((Cg.of_SX x04).trans ⟨fun b o hb e _ => hsb.extBut b o hb e, fun b o e => ?_, rfl, fun _ _ e => e⟩) ⟨_, k', e', ?_⟩
    · by_cases z : b = ad
      · subst z; exact ⟨_, e'⟩
      · exact ⟨o, hsb.extBut b o z e⟩
    · rw [dig_one (by simpa using hx), ← set_eq (by lia), Array.toList_setIfInBounds, List.map_set]
      exact reps_flat (by rw [← List.map_set]; exact flat_ints _) (Reps.set (.int _ t3) r4' L)
  intro lv
  induction lv with
  | zero =>
    intro L m x xs A s tx tl tr E Q h1 h2 h3 hl hx rm d ha h
    have : m = 1 := by have : (2 : Nat) ^ 0 = 1 := rfl; lia
    subst this
    exact one 0 L x xs A s tx tl tr E Q h3 hl hx rm d ha h
  | succ lv ih =>
    intro L m x xs A s tx tl tr E Q h1 h2 h3 hl hx rm d ha h
    by_cases hm : m = 1
    · subst hm; exact one _ L x xs A s tx tl tr E Q h3 hl hx rm d ha h
    have hpow : 2 ^ (lv + 1) = 2 * 2 ^ lv := by rw [Nat.pow_succ]; lia
    have hn60 : n < 2 ^ 60 := by
      have h1 : n ≤ n * N := Nat.le_mul_of_pos_right _ (by lia)
      exact Nat.lt_of_lt_of_le (m := 3000) (by lia) (by decide)
    have hsh : m / 2 * n ≤ n * N := by rw [Nat.mul_comm]; exact Nat.mul_le_mul_left n (by lia)
    have hsh8 : ((m / 2 * n : Nat) : Int) ≤ 8000 := by generalize m / 2 * n = z at hsh ⊢; lia
    have hpp : 2 ^ (n * m) = 2 ^ (m / 2 * n) * 2 ^ (n * (m - m / 2)) := by
      rw [← Nat.pow_add, Nat.mul_comm (m / 2), ← Nat.mul_add]; congr 2; lia
    have hup : x / 2 ^ (m / 2 * n) < 2 ^ (n * (m - m / 2)) := by rw [hpp] at hx; exact Nat.div_lt_of_lt_mul hx
    have hlo : x % 2 ^ (m / 2 * n) < 2 ^ (n * (m / 2)) := by rw [Nat.mul_comm n]; exact Nat.mod_lt _ (Nat.pow_pos (by decide))
    have hfit : fit ((x / 2 ^ (m / 2 * n) : Nat) : Int) = true := by
      refine fit_of (k := n * (m - m / 2)) (Int.natCast_nonneg _) (by exact_mod_cast hup) ?_
      have := Nat.mul_le_mul_left n (show m - m / 2 ≤ N by lia)
      lia
    refine i2_enter F rm d fun env s₁ so x1 fi hv rm' E' => ?_
    refine wpAny_execs_cons (wpAny_If (i2_test fd.scope (lv + 1) Φ0 _ s₁ env _ _ _ (decide (m = 1)) _ _ (fi.cx so ctrs0 rm') iTest_eq rfl fun s₂ x2 => ?_))
    rw [decide_eq_false hm, if_neg Bool.false_ne_true]
    refine wpAny_execs_nil ?_
    have fi2 := fi.ext x2
    refine Classical.byContradiction fun hQ => ?_
    obtain ⟨S1, S2, S3, S4⟩ := i2_stmts (W := W) (q := q) (k := k) fd.scope F.sc
    (refine hQ ?_; clear hQ)
    refine wpAny_execs_cons (S1 (lv + 1) Φ0 0 _ env s s₂ [] _ _ _ _ _ _ _ ctrs0 rm' so fi2 iMid_eq fun own3 M3 s3 fl3 fi3 st3 fr3 => ?_)
    rw [fr3.next]
    refine wpAny_execs_cons (S2 (lv + 1) Φ0 0 _ env s s3 [] _ _ _ _ _ _ _ ctrs0 rm' so fi3 (iShift_eq (Nat.lt_of_lt_of_le (m := 3000) (by lia) (by decide)) hn60) fun own4 M4 s4 fl4 fi4 st4 fr4 => ?_)
    rw [fr4.next]
    refine wpAny_execs_cons (S3 (lv + 1) Φ0 0 _ env s s4 [] _ _ _ _ _ _ _ ctrs0 rm' so fi4 iUp_eq fun own5 M5 s5 fl5 fi5 st5 fr5 => ?_)
    rw [fr5.next]
    refine wpAny_execs_cons (S4 (lv + 1) Φ0 0 _ env s s5 [] _ _ _ _ _ _ _ ctrs0 rm' so fi5 (iLo_eq hfit hsh8) fun own6 M6 s6 fl6 fi6 st6 fr6 => ?_)
    rw [fr6.next]
    have d6 := d.ext fi6.x
    have a6 := ha.ext fi6.x
    have hk := scope_fn so.ek
    have hint : interactive env = false := by unfold interactive; rw [hk]; rfl
    refine wpAny_execs_cons (wpAny_Expr ?_ hint rfl)
    refine call_in o6 (fi6.cx so ctrs0 rm') (hv s6 d6).1 (let ⟨o, a, b⟩ := d6.ho; ⟨o, _, a, b⟩) (.cons rfl (snd_var p2 g6) (.cons rfl (snd_var o0 g1) (.cons rfl (snd_var o2 g3) .nil))) rfl fun vals s7 x7 r7 => ?_
    cases r7 with
    | cons ra rb =>
    cases rb with
    | cons rb rc =>
    cases rc with
    | cons rc rd' =>
    cases rd'
    obtain ⟨t1, rfl⟩ := int_self ra
    obtain ⟨t2, rfl⟩ := int_self rb
    obtain ⟨t3, rfl⟩ := int_self rc
    refine ih L (m / 2) (x % 2 ^ (m / 2 * n)) xs _ s7 t1 t2 t3 _ _ (by lia) (by lia) (by lia) hl hlo rm' (d6.ext x7) (a6.ext x7) fun s8 gd8 cg8 a8 => ?_
    have cg68 : Cg ad s6 s8 := (Cg.of_SX x7).trans cg8
    have d8 := d6.chg gd8 cg68 a6
    have cx8 := fi6.cxMove so (rI_flat rfl rfl rfl rfl) gd8 cg68 a6 rm'
    refine wpAny_execs_cons (wpAny_Expr ?_ hint rfl)
    refine call_in o6 cx8 (hv s8 d8).1 (let ⟨o, a, b⟩ := d8.ho; ⟨o, _, a, b⟩) (.cons rfl (snd_var p1 g5) (.cons rfl (snd_var o2 g3) (.cons rfl (snd_var o1 g2) .nil))) rfl fun vals s9 x9 r9 => ?_
    cases r9 with
    | cons ra9 rb9 =>
    cases rb9 with
    | cons rb9 rc9 =>
    cases rc9 with
    | cons rc9 rd9 =>
    cases rd9
    obtain ⟨t4, rfl⟩ := int_self ra9
    obtain ⟨t5, rfl⟩ := int_self rb9
    obtain ⟨t6, rfl⟩ := int_self rc9
    have hR : L + m = (L + m / 2) + (m - m / 2) := by lia
    have fin := ih (L + m / 2) (m - m / 2) (x / 2 ^ (m / 2 * n)) (xs.take L ++ dig n (m / 2) (x % 2 ^ (m / 2 * n)) ++ xs.drop (L + m / 2)) (A.deeper env) s9 t4 t5 t6 E' (fun v s' => v = .none ∧ Q .none s') (by lia) (by lia) (by lia)
      (by simp [dig_length, hl]; lia) hup rm' (d8.ext x9) (a8.ext x9) fun s10 gd10 cg10 a10 => ⟨rfl, by
        refine h s10 gd10 (((Cg.of_SX fi6.x).trans cg68).trans ((Cg.of_SX x9).trans cg10)) ?_
        have hlen : (xs.take L ++ dig n (m / 2) (x % 2 ^ (m / 2 * n))).length = L + m / 2 := by
          rw [List.length_append, List.length_take, dig_length, Nat.min_eq_left (by lia)]
        have e1 : (xs.take L ++ dig n (m / 2) (x % 2 ^ (m / 2 * n)) ++ xs.drop (L + m / 2)).take (L + m / 2) = xs.take L ++ dig n (m / 2) (x % 2 ^ (m / 2 * n)) := List.take_left' hlen
        have e2 : (xs.take L ++ dig n (m / 2) (x % 2 ^ (m / 2 * n)) ++ xs.drop (L + m / 2)).drop (L + m / 2 + (m - m / 2)) = xs.drop (L + m) := by
          rw [← List.drop_drop, List.drop_left' hlen, List.drop_drop, ← hR]
        rw [e1, e2] at a10
        have e3 : dig n m x = dig n (m / 2) (x % 2 ^ (m / 2 * n)) ++ dig n (m - m / 2) (x / 2 ^ (m / 2 * n)) := by
          have := dig_split n (m - m / 2) (m / 2) x
          rw [show m / 2 + (m - m / 2) = m by lia, Nat.mul_comm n (m / 2)] at this
          exact this
        rw [e3, ← List.append_assoc]
        exact a10⟩
    rw [← hR] at fin
    refine wpAny_mono fin (fun v s' hv' => ?_) fun _ _ z => z
    obtain ⟨rfl, hq⟩ := hv'
    exact wpAny_execs_nil hq
end
end Mine
end
section
open PySem PySem.W PyProof.Rows
set_option maxRecDepth 4000
namespace Mine

/-- what _int2digits answers -/
noncomputable def i2N (a n : Nat) : Nat := ((bitLen (a : Int)).toNat + n - 1) / n
noncomputable def phiI2D : List V → Option V
  | [.d (.int a), .d (.int n)] => if decide (0 ≤ a) && decide (1 ≤ n) && decide (bitLen a + n ≤ 2900) then some (.d (.list ((dig n.toNat (i2N a.toNat n.toNat) a.toNat).map .int))) else none
  | _ => none

theorem bitLen_nat (a : Nat) : ∃ b : Nat, bitLen (a : Int) = (b : Int) ∧ a < 2 ^ b := by
  by_cases h : a = 0
  · subst h; exact ⟨0, rfl, by decide⟩
  · refine ⟨a.log2 + 1, ?_, Nat.lt_log2_self⟩
    unfold bitLen
    rw [if_neg (by lia), Int.natAbs_natCast]

theorem i2N_ok {a n : Nat} (hn : 1 ≤ n) (h : bitLen (a : Int) + (n : Int) ≤ 2900) : n * i2N a n ≤ 2900 ∧ a < 2 ^ (n * i2N a n) := by
  refine Classical.byContradiction fun hQ => ?_
  obtain ⟨b, hb, hl⟩ := bitLen_nat a
  (refine hQ ?_; clear hQ)
  unfold i2N
  rw [hb] at h ⊢
  rw [Int.toNat_natCast]
  have h1 : n * ((b + n - 1) / n) ≤ b + n - 1 := Nat.mul_div_le _ _
  have h2 : b ≤ n * ((b + n - 1) / n) := by
    have := Nat.div_add_mod (b + n - 1) n
    have := Nat.mod_lt (b + n - 1) (show 0 < n by lia)
    lia
  exact ⟨by lia, Nat.lt_of_lt_of_le hl (Nat.pow_le_pow_right (by decide) h2)⟩

section
variable {W : Wd} {Γ : Gam} {sc : Scope}
theorem sf_mul {es : List Expr} {cs : List CE} {b : Expr} {cb : CE} {lp p : Pos} (H : SndL W Γ sc es cs) (hb : SndE W Γ sc b cb) : SndF W Γ sc (.BinOp (.List es lp) .Mult b p) (.bin .Mult (.list cs) cb) := fun n Φ A s env M ρ xs E Q c e h => by
  obtain ⟨x, e1, e⟩ := b_inv e
  obtain ⟨y, e2, e⟩ := b_inv e
  obtain ⟨ys, e3, e1⟩ := b_inv e1
  obtain ⟨q0, e1⟩ := if_inv e1
  rw [← e1] at e
  obtain ⟨d, hd, e⟩ := b_inv (show ((toD y).bind fun b => dbin .Mult (.list ys) b) = some (V.d (.list xs)) from e)
  obtain ⟨i, hi, e⟩ := b_inv e
  obtain ⟨q, e⟩ := if_inv e
  rw [toD_eq hd, dInt_eq hi] at e2
  clear e1 hd hi
  rw [Bool.and_eq_true, Bool.and_eq_true, decide_eq_true_eq] at q
  have q1 := szOk_le q.1.2
  have q3 := q.1.1
  refine wpAny_BinOp (wpAny_List (snd_argsD H c e3 fun vals s₁ x1 r1 => ⟨by rw [r1.length]; exact Nat.le_trans (szOk_le q0) (by decide), ?_⟩))
  have x2 : SX W s₁ { s₁ with heap := s₁.heap.push (plainL vals.toArray 0) } := SX.push (tk := s₁.toks) x1.good
  refine hb n Φ A _ env M ρ _ E _ (c.ext (x1.trans x2)) e2 fun yv s₃ x3 r3 => vint r3 fun t => ?_
  refine list_mul (x3.keep _ _ (Heap.get?_push_size _ rfl) notTab_L) (by lia) (by lia) (by rw [List.size_toArray, r1.length]; exact Nat.le_trans (szOk_le q.2) (by decide)) ?_
  have x4 : SX W s₃ { s₃ with heap := s₃.heap.push (plainL (List.foldl (fun x1 x2 => x1 ++ x2) #[] (List.replicate (if vals.toArray.isEmpty = true then 0 else i.toNat) vals.toArray)) 0) } := SX.push (tk := s₃.toks) x3.good
  refine h _ _ _ _ (((x1.trans x2).trans x3).trans x4) (((x1.trans x2).trans x3).fresh (fresh_none _)) (Heap.get?_push_size _ rfl) ?_
  rw [rep_arr, ← PyData.list.inj (vd_inj e)]
  exact Reps.mono (M := M) (fun b o _ e n => x4.keep b o e n) (fun a ha => (List.mem_cons.mp ha).elim (fun q => .inr (q ▸ fresh_none _)) .inl) (Reps.replicate ((r1.ext x2).ext x3) _)
end
end Mine
end
section
open PySem PySem.W PyProof.Rows
set_option maxRecDepth 4000
namespace Mine

noncomputable def sA : Str := Str.ofString "a"
noncomputable def iOutNs : List Str := [sA, sN, sAD, sInner]
noncomputable def sBitLen : Str := Str.ofString "bit_length"

noncomputable def iFill (q : Nat → Pos) (k : Nat → Nat) : Stmt := .Assign [.Name sAD (q 1)] (.BinOp (.List [.Constant (.int 0) (k 1) (q 2)] (q 3)) .Mult
  (.BinOp (.BinOp (.BinOp (.Call (.Attribute (.Name sA (q 4)) sBitLen (q 5)) [] [] (q 6)) .Add (.Name sN (q 7)) (q 8)) .Sub (.Constant (.int 1) (k 2) (q 9)) (q 10)) .FloorDiv (.Name sN (q 11)) (q 12)) (q 13)) (q 14)
noncomputable def iCall (q : Nat → Pos) (k : Nat → Nat) : Stmt := .If (.Name sA (q 15)) [.Expr (.Call (.Name sInner (q 16)) [.Name sA (q 17), .Constant (.int 0) (k 3) (q 18), .Call (.Name sLen (q 19)) [.Name sAD (q 20)] [] (q 21)] [] (q 22)) (q 23)] [] (q 24)
noncomputable def iRet (q : Nat → Pos) : Stmt := .Return (some (.Name sAD (q 25))) (q 26)

structure I2O (B : Base) (a : Addr) (fd : FuncData) (t : Tb) (params : Arguments) (isc : Scope) (q q' : Nat → Pos) (k k' : Nat → Nat) : Prop where
  at_ : ∀ {h}, B.W.ok h → ∃ o, h.get? a = some o ∧ o.data = .func fd
  cd : ∀ {h}, B.W.ok h → h.CodeRec fd.code fd.qualname
  body : fd.body = .stmts [iFill q' k', .FunctionDef sInner params (i2Body q k) [] none [] isc none sInner t.pos, iCall q' k', iRet q']
  fo : FnOk fd.scope [sA, sN] iOutNs
  ca : fd.scope.names.lookup sA = some .local
  cn : fd.scope.names.lookup sN = some .cell
  cad : fd.scope.names.lookup sAD = some .cell
  cin : fd.scope.names.lookup sInner = some .cell
  len : fd.scope.names.lookup sLen = some .globalImplicit
  line : ((q' 5).endLine == (q' 6).line) = true
  bind : ∀ vals : List Value, vals.length = 2 → bindArgs fd ⟨vals, []⟩ = pure ([sA, sN].zip vals)
  clo : fd.closure = []
  glob : fd.globals = mainGlobals
  blt : fd.builtins = builtinsNs
  code : fd.code = .ref t.c
  qual : fd.qualname ++ Str.ofString ".<locals>." ++ sInner = t.qual
  tab : t ∈ B.tabs
  isok : ScI isc
  ifree : ∀ p ∈ isc.names, p.2 = .free → p.1 = sAD ∨ p.1 = sN ∨ p.1 = sInner
  pd : params.defaults = []
  pk : params.kw_defaults = []
  pa : ∀ env, annTrees params none env = []
  ibind : ∀ (fd' : FuncData) (u v w : Value), fd'.params = params → fd'.defaults = .none → fd'.kwdefaults = .none → bindArgs fd' ⟨[u, v, w], []⟩ = pure [(sX, u), (sL, v), (sR, w)]

noncomputable def fillC : CE := .bin .Mult (.list [.lit (.int 0)]) (.bin .FloorDiv (.bin .Sub (.bin .Add (.meth .bitLength (.var 0) []) (.var 1)) (.lit (.int 1))) (.var 1))

theorem flat_zeros (N : Nat) : (List.replicate N [PyData.int 0]).flatten = (List.replicate N (0 : Int)).map .int := by
  induction N with
  | zero => rfl
  | succ N ih => rw [List.replicate_succ, List.flatten_cons, ih, List.replicate_succ]; rfl

theorem fill_eq {a n : Nat} {u v : Mine.Slot} (hn : 1 ≤ n) (h : bitLen (a : Int) + (n : Int) ≤ 2900) :
    ceval Φ0 fillC [.sh (.d (.int (a : Int))), .sh (.d (.int (n : Int))), u, v] = some (.d (.list ((List.replicate (i2N a n) (0 : Int)).map .int))) := by
  refine Classical.byContradiction fun hQ => ?_
  obtain ⟨b, hb, hl⟩ := bitLen_nat a
  (refine hQ ?_; clear hQ)
  have hN : i2N a n = (b + n - 1) / n := by unfold i2N; rw [hb, Int.toNat_natCast]
  rw [hb] at h
  have hn60 : n < 2 ^ 60 := Nat.lt_of_lt_of_le (m := 3000) (by lia) (by decide)
  have e1 : ibin .FloorDiv ((b : Int) + (n : Int) - 1) (n : Int) = some ((i2N a n : Nat) : Int) := by
    have h1 : ((b : Int) + (n : Int) - 1) = ((b + n - 1 : Nat) : Int) := by lia
    have h2 : ((n : Int) != 0) = true := by rw [bne_iff_ne]; lia
    rw [h1]
    show (if ((n : Int) != 0) && fit (n : Int) then some (((b + n - 1 : Nat) : Int).fdiv (n : Int)) else none) = _
    rw [h2, fit_nat hn60, Int.fdiv_eq_ediv_of_nonneg _ (Int.natCast_nonneg n), hN]
    rfl
  have hNle : i2N a n ≤ 2900 := by rw [hN]; exact Nat.le_trans (Nat.div_le_self _ _) (by lia)
  have e2 : vbin .Mult (.d (.list [.int 0])) (.d (.int ((i2N a n : Nat) : Int))) = some (.d (.list ((List.replicate (i2N a n) (0 : Int)).map .int))) := by
    have s1 : szOk (i2N a n) = true := by unfold szOk; rw [decide_eq_true_eq]; exact Nat.le_trans hNle (by decide)
    show (if (decide (0 ≤ ((i2N a n : Nat) : Int)) && szOk (Int.toNat ((i2N a n : Nat) : Int)) && szOk (1 * Int.toNat ((i2N a n : Nat) : Int))) = true then some (V.d (.list (List.replicate (Int.toNat ((i2N a n : Nat) : Int)) [PyData.int 0]).flatten)) else none) = _
    rw [Int.toNat_natCast, Nat.one_mul, s1, decide_eq_true (Int.natCast_nonneg _), flat_zeros]; rfl
  have e3 : ceval Φ0 (.meth .bitLength (.var 0) []) [.sh (.d (.int (a : Int))), .sh (.d (.int (n : Int))), u, v] = some (.d (.int (b : Int))) := by
    show some (V.d (.int (bitLen (a : Int)))) = _
    rw [hb]
  exact (ev_bin (op := .Mult) (x := .d (.list [.int 0])) rfl (ev_ib (ev_ib (ev_ib e3 (rv0 rfl) rfl) ev_c rfl) (rv0 rfl) e1)).trans e2
end Mine
end
section
open PySem PySem.W PyProof.Rows
set_option maxRecDepth 4000
namespace Mine

theorem i2d_ctr {B : Base} {a : Addr} {fd : FuncData} {t : Tb} {params : Arguments} {isc : Scope} {q q' : Nat → Pos} {k k' : Nat → Nat} (F : I2O B a fd t params isc q q' k k') (hb : B.blts = bltAll) (n : Nat) : Ctr B.W (n + 16) a phiI2D := by
  intro A s M vals vs r E Q rm g mok hv hown e h
  unfold phiI2D at e
  split at e
  case h_2 => cases e
  rename_i ai ni
  split at e
  case isFalse => cases e
  rename_i hc
  cases e
  rw [Bool.and_eq_true, Bool.and_eq_true, decide_eq_true_eq, decide_eq_true_eq, decide_eq_true_eq] at hc
  refine Classical.byContradiction fun hQ => ?_
  obtain ⟨⟨ha0, hn1⟩, hbl⟩ := hc
  obtain ⟨av, rfl⟩ := Int.eq_ofNat_of_zero_le ha0
  obtain ⟨nv, rfl⟩ := Int.eq_ofNat_of_zero_le (show 0 ≤ ni by lia)
  have hn1' : 1 ≤ nv := by lia
  have hbl' : bitLen (av : Int) + (nv : Int) ≤ 2900 := hbl
  obtain ⟨hsz, hav⟩ := i2N_ok hn1' hbl'
  (refine hQ ?_; clear hQ)
  rw [show ((av : Int).toNat) = av from Int.toNat_natCast av, show ((nv : Int).toNat) = nv from Int.toNat_natCast nv] at h
  generalize hN : i2N av nv = N at hsz hav h
  have hN29 : N ≤ 2900 := Nat.le_trans (Nat.le_mul_of_pos_left _ hn1') hsz
  refine fn_enter (n := n + 15) F.fo F.at_ F.cd F.body F.bind F.clo F.glob F.blt rm g mok hv hown rfl fun env s₁ M' hcode hqual so x1 fi rm' E' => ?_
  have gm : (gamOf iOutNs).vars.lookup sA = some 0 ∧ (gamOf iOutNs).vars.lookup sN = some 1 ∧ (gamOf iOutNs).vars.lookup sAD = some 2 ∧ (gamOf iOutNs).vars.lookup sInner = some 3 := by decide +kernel
  refine Classical.byContradiction fun hQ => ?_
  obtain ⟨g0, g1, g2, g3⟩ := gm
  obtain ⟨o0, o1, o2, o3, o4, o5, o6⟩ := okd
  obtain ⟨p0, p1, p2, p3⟩ := oki
  (refine hQ ?_; clear hQ)
  have okA : okName sA = true := by decide +kernel
  have okLen : okName sLen = true := by decide +kernel
  have mnm : sBitLen = mname .bitLength := by decide +kernel
  -- the list of zeros
  have Hf : SndS B.W (gamOf iOutNs) fd.scope (iFill q' k') (.own 2 fillC) := by
    have hm : SndE B.W (gamOf iOutNs) fd.scope (.Call (.Attribute (.Name sA (q' 4)) sBitLen (q' 5)) [] [] (q' 6)) (.meth .bitLength (.var 0) []) := by
      rw [mnm]; exact snd_meth rfl F.line (by simp) (snd_var okA g0) .nil
    exact s_own ⟨g2, .inr F.cad⟩ rfl (sf_mul (.cons rfl snd_int .nil) (snd_bin (snd_bin (snd_bin hm (snd_var o5 g1)) snd_int) (snd_var o5 g1)))
  have hce : cex Φ0 0 (.own 2 fillC) [.sh (.d (.int (av : Int))), .sh (.d (.int (nv : Int))), .un, .un] = some ([.sh (.d (.int (av : Int))), .sh (.d (.int (nv : Int))), .ow ((List.replicate N (0 : Int)).map .int), .un], .nx) := by
    exact b_of (fill_eq hn1' hbl') (by rw [hN]; rfl)
  refine wpAny_execs_cons (Hf (n + 15) Φ0 0 _ env s s₁ M M' _ _ _ _ _ _ ctrs0 rm' so fi hce fun own2 M2 s2 fl2 fi2 st2 fr2 => ?_)
  rw [fr2.next]
  have kin : env.kindOf sInner = some .cell := by rw [kindOf_eq so.ek]; exact F.cin
  have hq : qualnameIn env sInner sInner = t.qual := by
    unfold qualnameIn
    rw [kin, hqual]
    exact F.qual
  have hcl : closureFor isc env = pure (cloOf env.cells isc.names []) := closure_pure fun p hp hf => by
    rcases F.ifree p hp hf with h1 | h1 | h1
    · rw [h1]; exact so.ek.cells _ (.inl F.cad)
    · rw [h1]; exact so.ek.cells _ (.inl F.cn)
    · rw [h1]; exact so.ek.cells _ (.inl F.cin)
  refine wpAny_execs_cons (nestDef_K F.pd F.pk (F.pa env) ?_)
  rw [hq]
  refine def_step (B := B) fi2.x.good F.tab (by rw [hcode]; exact F.code) so.ek.globals hcl fun f s₂ c' doc pm ctv x2 hf0 hfo hcr => ?_
  have fi2' := fi2.ext x2
  refine Classical.byContradiction fun hQ => ?_
  obtain ⟨slS, slN, slL⟩ := locOf_soft fi2'.lay so.ek (.inr F.cin)
  (refine hQ ?_; clear hQ)
  refine FI.storeAny so fi2' g3 (.inr F.cin) rfl fun s₃ fi3 hvi x13 => ?_
  have cellOf : ∀ y v, fd.scope.names.lookup y = some .cell → VarAt s₃.heap env y v → ∃ c, env.cells.lookup y = some c ∧ s₃.heap.IsCell c (some v) := fun y v hy hv => by
    rcases hv with ⟨k1, _⟩ | ⟨_, c, e, hc⟩
    · rw [kindOf_eq so.ek, hy] at k1; cases k1
    · exact ⟨c, e, hc⟩
  refine Classical.byContradiction fun hQ => ?_
  obtain ⟨_, nvv, hnv, hnr⟩ := fi3.vis sN 1 g1 _ rfl
  obtain ⟨nt, rfl⟩ := int_self hnr
  obtain ⟨hadv, vs0, kk0, hado, hadr⟩ := fi3.vis sAD 2 g2 _ rfl
  obtain ⟨_, _, hadf⟩ := fi3.ownM 2 _ rfl
  (refine hQ ?_; clear hQ)
  generalize had : own2 2 = ad at hadv hado hadf
  refine Classical.byContradiction fun hQ => ?_
  obtain ⟨cA, eA, hcA⟩ := cellOf _ _ F.cad hadv
  obtain ⟨cN, eN, hcN⟩ := cellOf _ _ F.cn hnv
  obtain ⟨cI, eI, hcI⟩ := cellOf _ _ F.cin hvi
  (refine hQ ?_; clear hQ)
  have memF : ∀ y, isc.names.lookup y = some .free → (cloOf env.cells isc.names []).lookup y = some ((env.cells.lookup y).getD 0) := fun y hy => cloOf_lookup (mem_of_lookup hy)
  have ne12 : sAD ≠ sInner ∧ sAD ≠ sN ∧ sInner ≠ sN := by decide +kernel
  generalize hfd : (fnX sInner t.qual params (i2Body q k) isc (cloOf env.cells isc.names []) .none .none doc pm none (.ref c') ctv) = fd' at hfo
  have FD : I2F fd' cA cI cN q k := by
    subst hfd
    exact ⟨rfl, F.isok, rfl, rfl, fun u v w => F.ibind _ u v w rfl rfl rfl, by rw [memF _ F.isok.ad, eA]; rfl, by rw [memF _ F.isok.inner, eI]; rfl, by rw [memF _ F.isok.n, eN]; rfl,
      fun x c hx => (by
        rcases cloOf_mem _ _ (mem_of_lookup hx) with z | ⟨z, _⟩
        · cases z
        · exact F.ifree _ z rfl),
      fun z => ne12.1 (so.ek.inj _ _ cA eA (by rw [z]; exact eI)), fun z => ne12.2.1 (so.ek.inj _ _ cA eA (by rw [z]; exact eN)), fun z => ne12.2.2 (so.ek.inj _ _ cI eI (by rw [z]; exact eN))⟩
  have hf3 : s₃.heap.get? f = some { cls := .type "function", data := .func fd' } := x13 f _ (fun z => by
    obtain ⟨o, e, _⟩ := (locOf_soft fi2.lay so.ek (.inr F.cin)).2.1
    rw [← z, hf0] at e; cases e) hfo
  have D3 : I2 B.W f fd' cA cI cN ad nv s₃ := by
    refine ⟨fi3.x.good, ⟨_, hf3, rfl⟩, ?_, hcA, hcI, ⟨nt, hcN⟩⟩
    subst hfd
    exact CodeRec.chg x13 slS hcr
  have L3 : ListAt s₃.heap ad (List.replicate N 0) := ⟨vs0, kk0, hado, reps_flat (flat_ints _) hadr⟩
  clear x13 hce Hf
  have hst : ¬ B.W.stat ad := fun z => by obtain ⟨o, e⟩ := B.W.occ g.ok z; rw [hadf] at e; cases e
  -- how it ends
  have fin : ∀ (s' : Shared), Good B.W s' → Cg ad s₃ s' → ListAt s'.heap ad (dig nv N av) → wpAny (model B.W.prog B.W.w) (A.deeper env) (execs [iRet q'] env) (fun fl s' => Q (match fl with | .ret v => v | _ => .none) s') E' s' := fun s' g' cg' l' => by
    have va : VarAt s'.heap env sAD (.ref ad) := .inr ⟨.inl (by rw [kindOf_eq so.ek]; exact F.cad), cA, eA, Cell.chg cg' L3 hcA⟩
    refine wpAny_execs_cons (wpAny_Return_some (load_var p3 (scope_fn so.ek) va ?_))
    obtain ⟨vs1, k1, e1, r1⟩ := l'
    have hadM : ad ∉ M := fun z => by obtain ⟨o, e, _⟩ := mok _ z; rw [hadf] at e; cases e
    refine h _ _ ⟨fun b o e n => cg'.keep b o (fun z => by subst z; rw [hadf] at e; cases e) (fi3.x.keep b o e n) n, fun b o e => (let ⟨o', e'⟩ := fi3.x.occ b o e; cg'.occ b o' e'), cg'.os.trans fi3.x.os, fun i g e => cg'.gens i g (fi3.x.gens i g e), g'⟩ rfl
      (.list hadM e1 (reps_flat (flat_ints _) r1))
  have tst : SndT B.W (gamOf iOutNs) fd.scope (.Name sA (q' 15)) (.var 0) := sndT_of (snd_var okA g0) (plainTest_eq rfl)
  have cx := fi3.cx (A := A.deeper env) so (ctrs0 (n := n + 15)) rm'
  refine wpAny_execs_cons (wpAny_If (tst (n + 15) _ _ s₃ env _ _ _ ((av : Int) != 0) _ _ cx rfl rfl fun s₄ x4 => ?_))
  have D4 := D3.ext x4
  have L4 := L3.ext x4
  by_cases hz : av = 0
  · subst hz
    have hN0 : N = 0 := by
      rw [← hN]
      show ((bitLen ((0 : Nat) : Int)).toNat + nv - 1) / nv = 0
      show (0 + nv - 1) / nv = 0
      rw [Nat.zero_add]; exact Nat.div_eq_of_lt (by lia)
    subst hN0
    rw [if_neg (by simp)]
    exact wpAny_execs_nil (fin s₄ x4.good (Cg.of_SX x4) L4)
  · rw [if_pos (by rw [bne_iff_ne]; lia)]
    have hNpos : 1 ≤ N := by
      rcases Nat.eq_zero_or_pos N with z | z
      · rw [z] at hav; simp at hav; exact absurd hav hz
      · exact z
    have fi4 := fi3.ext x4
    have cx4 := fi4.cx (A := A.deeper env) so (ctrs0 (n := n + 15)) rm'
    have hint : interactive env = false := by unfold interactive; rw [scope_fn so.ek]; rfl
    refine wpAny_execs_cons (wpAny_Expr ?_ hint rfl)
    refine call_in o6 cx4 (hvi.ext x4) (let ⟨o, a, b⟩ := D4.ho; ⟨o, _, a, b⟩) (.cons rfl (snd_var okA g0) (.cons rfl snd_int (.cons rfl (snd_prim (f := .len) okLen F.len (by show (sLen, _) ∈ B.blts; rw [hb]; simp [bltAll, pval, sLen]) rfl (.cons rfl (snd_var p3 g2) .nil)) .nil))) (us := [.d (.int (av : Int)), .d (.int 0), .d (.int (N : Int))]) ?_ fun vals s₅ x5 r5 => ?_
    · have hl62 : ((List.replicate N (0 : Int)).map PyData.int).length < 2 ^ 62 := by rw [List.length_map, List.length_replicate]; exact Nat.lt_of_le_of_lt hN29 (by decide)
      have hp : vprim .len [.o ((List.replicate N (0 : Int)).map PyData.int)] = some (.d (.int (N : Int))) := by
        show (if ((List.replicate N (0 : Int)).map PyData.int).length < 2 ^ 62 then some (V.d (.int (((List.replicate N (0 : Int)).map PyData.int).length : Int))) else none) = _
        rw [if_pos hl62, List.length_map, List.length_replicate]
      show (Option.bind (some (V.d (.int (av : Int)))) fun x => Option.map (x :: ·) (Option.bind (some (V.d (.int 0))) fun x => Option.map (x :: ·) (Option.bind (Option.bind (some [V.o ((List.replicate N (0 : Int)).map PyData.int)]) fun xs => vprim .len xs) fun x => some [x]))) = _
      simp only [Option.bind_some, hp, Option.map_some]
    · cases r5 with
      | cons ra rb =>
      cases rb with
      | cons rb rc =>
      cases rc with
      | cons rc rd' =>
      cases rd'
      obtain ⟨t1, rfl⟩ := int_self ra
      obtain ⟨t2, rfl⟩ := int_self rb
      obtain ⟨t3, rfl⟩ := int_self rc
      have := i2_inner FD hst hn1' N hsz 12 0 N av (List.replicate N 0) (A.deeper env) s₅ t1 t2 t3 E' (fun v s' => v = .none ∧ wpAny (model B.W.prog B.W.w) (A.deeper env) (execs [iRet q'] env) (fun fl s' => Q (match fl with | .ret v => v | _ => .none) s') E' s') hNpos (Nat.le_trans hN29 (by decide)) (by lia) (by simp) hav
        ⟨rm'.handled, by have := rm'.depth; lia, by have := rm'.units; lia⟩ (D4.ext x5) (L4.ext x5) fun s' g' cg' l' => ⟨rfl, fin s' g' ((Cg.of_SX (x4.trans x5)).trans cg') (by
          have : (List.replicate N (0 : Int)).take 0 ++ dig nv N av ++ (List.replicate N (0 : Int)).drop (0 + N) = dig nv N av := by simp
          rw [this] at l'
          exact l')⟩
      rw [Nat.zero_add] at this
      refine wpAny_mono this (fun v s' hv' => ?_) fun _ _ z => z
      obtain ⟨rfl, hq'⟩ := hv'
      exact wpAny_execs_nil hq'
end Mine
end
section
open PySem PySem.W PyProof.Rows
set_option maxRecDepth 4000
namespace Mine

inductive Ent where
  | hand (φ : List V → Option V)
  | code (F : CF)

noncomputable def phi (es : List Ent) (fu : Nat) : Nat → Fns
  | 0, f => match es[f]? with
    | some (.hand φ) => φ
    | _ => fun _ => none
  | k + 1, f => match es[f]? with
    | some (.hand φ) => φ
    | some (.code F) => runF (phi es fu k) fu F
    | none => fun _ => none

theorem ctrs_phi {W : Wd} {es : List Ent} {fu : Nat} (hh : ∀ (f : Nat) (p : Str × Addr) φ, W.fns[f]? = some p → es[f]? = some (Ent.hand φ) → ∀ n, Ctr W (n + 16) p.2 φ)
    (hc : ∀ (f : Nat) (p : Str × Addr) F, W.fns[f]? = some p → es[f]? = some (Ent.code F) → ∀ n Φ, Ctrs W n Φ → Ctr W (n + 1) p.2 (runF Φ fu F)) : ∀ k, Ctrs W (k + 16) (phi es fu k)
  | 0 => fun f p hp => by
    unfold phi
    split
    · rename_i φ h; exact hh f p φ hp h 0
    · exact fun A s M vals vs r E Q _ _ _ _ _ e => by cases e
  | k + 1 => fun f p hp => by
    unfold phi
    split
    · rename_i φ h; exact hh f p φ hp h (k + 1)
    · rename_i F h
      have := hc f p F hp h (k + 16) _ (ctrs_phi hh hc k)
      rw [show k + 1 + 16 = k + 16 + 1 by lia]
      exact this
    · exact fun A s M vals vs r E Q _ _ _ _ _ e => by cases e

noncomputable def isLC (sc : Scope) (y : Str) : Bool := sc.names.lookup y == some .local || sc.names.lookup y == some .cell
noncomputable def fnOkB (sc : Scope) (ps ns : List Str) : Bool :=
  sc.kind == .function && !sc.isCoroutine && !sc.isGenerator && decide ps.Nodup && decide (ps = ns.take ps.length) && ps.all (isLC sc) && sc.names.all fun p => p.2 != .free
theorem fnOk_of {sc : Scope} {ps ns : List Str} (h : fnOkB sc ps ns = true) : FnOk sc ps ns := by
  unfold fnOkB at h
  simp only [Bool.and_eq_true, Bool.not_eq_true', decide_eq_true_eq, beq_iff_eq, List.all_eq_true, bne_iff_ne] at h
  refine Classical.byContradiction fun hQ => ?_
  obtain ⟨⟨⟨⟨⟨⟨h1, h2⟩, h3⟩, h4⟩, h5⟩, h6⟩, h7⟩ := h
  (refine hQ ?_; clear hQ)
  refine ⟨h1, h2, h3, h4, h5, fun y hy => ?_, fun p hp => h7 p hp⟩
  have := h6 y hy
  unfold isLC at this
  rw [Bool.or_eq_true] at this
  exact this.imp eq_of_beq eq_of_beq

/-- the function of a def, as it stands in the heap -/
noncomputable abbrev fdD (d : DefRec) (pm cd doc : Value) : FuncData := Calls.docDef d.name d.params d.body d.scope pm cd doc
/-- a def of the text stands at a -/
structure FnT (B : Base) (a : Addr) (d : DefRec) (pm cd doc : Value) : Prop where
  at_ : ∀ {h}, B.W.ok h → ∃ o, h.get? a = some o ∧ o.data = .func (fdD d pm cd doc)
  code : ∀ {h}, B.W.ok h → h.CodeRec cd d.name

theorem code_ctr {B : Base} {C : Cs} {a : Addr} {d : DefRec} {pm cd doc : Value} {ps ns : List Str} {fu m : Nat} (F : FnT B a d pm cd doc) (ok : COk C B.W) (h : fnOkB d.scope ps ns = true) (hbind : ∀ vals : List Value, vals.length = ps.length → bindArgs (fdD d pm cd doc) ⟨vals, []⟩ = pure (ps.zip vals))
    {n : Nat} {Φ : Fns} (ct : Ctrs B.W n Φ) : Ctr B.W (n + 1) a (runF Φ fu { par := ps.length, size := ns.length, body := cBl C (gamOf ns) d.scope m d.body }) :=
  ctr_of (fd := fdD d pm cd doc) ok (fnOk_of h) F.at_ F.code rfl hbind rfl rfl rfl ct
end Mine
end
section
open PySem PySem.W PyProof.Rows
set_option maxRecDepth 4000
namespace Mine
noncomputable def isL (sc : Scope) (y : Str) : Bool := sc.names.lookup y == some .local
noncomputable def isFr (sc : Scope) (y : Str) : Bool := sc.names.lookup y == some .free
noncomputable def isC (sc : Scope) (y : Str) : Bool := sc.names.lookup y == some .cell
noncomputable def isG (sc : Scope) (y : Str) : Bool := sc.names.lookup y == some .globalImplicit
noncomputable def noCell (sc : Scope) : Bool := sc.names.all fun p => p.2 != .cell
noncomputable def noFree (sc : Scope) : Bool := sc.names.all fun p => p.2 != .free
noncomputable def freeIn (sc : Scope) (xs : List Str) : Bool := sc.names.all fun p => p.2 != .free || xs.contains p.1

noncomputable def scYB (sc : Scope) : Bool := sc.kind == .function && !sc.isCoroutine && sc.isGenerator && isL sc sAddr && isL sc sPos && isL sc sEsc && isL sc sCh && isG sc sEnum && noCell sc && noFree sc
theorem scY_of {sc : Scope} (h : scYB sc = true) : ScY sc := by
  unfold scYB isL isG noCell noFree at h
  simp only [Bool.and_eq_true, Bool.not_eq_true', beq_iff_eq, List.all_eq_true, bne_iff_ne] at h
  refine Classical.byContradiction fun hQ => ?_
  obtain ⟨⟨⟨⟨⟨⟨⟨⟨⟨h1, h2⟩, h3⟩, h4⟩, h5⟩, h6⟩, h7⟩, h8⟩, h9⟩, h10⟩ := h
  (refine hQ ?_; clear hQ)
  exact ⟨h1, h2, h3, h4, h5, h6, h7, h8, fun p hp => h9 p hp, fun p hp => h10 p hp⟩

theorem free_mem {sc : Scope} {xs : List Str} (h : freeIn sc xs = true) : ∀ p ∈ sc.names, p.2 = .free → p.1 ∈ xs := by
  unfold freeIn at h
  simp only [List.all_eq_true, Bool.or_eq_true, bne_iff_ne] at h
  intro p hp hf
  rcases h p hp with z | z
  · exact absurd hf z
  · exact List.contains_iff_mem.mp z

noncomputable def scDB (sc : Scope) : Bool := sc.kind == .function && !sc.isCoroutine && !sc.isGenerator && isL sc sL && isL sc sR && isL sc sMid && isL sc sShift && isFr sc sDigits && isFr sc sN && isFr sc sInner && noCell sc && freeIn sc [sDigits, sN, sInner]
theorem scD_of {sc : Scope} (h : scDB sc = true) : ScD sc ∧ ∀ p ∈ sc.names, p.2 = .free → p.1 = sDigits ∨ p.1 = sN ∨ p.1 = sInner := by
  unfold scDB isL isFr noCell at h
  simp only [Bool.and_eq_true, Bool.not_eq_true', beq_iff_eq, List.all_eq_true, bne_iff_ne] at h
  refine Classical.byContradiction fun hQ => ?_
  obtain ⟨⟨⟨⟨⟨⟨⟨⟨⟨⟨⟨h1, h2⟩, h3⟩, h4⟩, h5⟩, h6⟩, h7⟩, h8⟩, h9⟩, h10⟩, h11⟩, h12⟩ := h
  (refine hQ ?_; clear hQ)
  have hm : ∀ p ∈ sc.names, p.2 = .free → p.1 = sDigits ∨ p.1 = sN ∨ p.1 = sInner := fun p hp hf => by
    have := free_mem h12 p hp hf
    simpa using this
  exact ⟨⟨h1, h2, h3, h4, h5, h6, h7, h8, h9, h10, fun p hp => h11 p hp, fun x hx => hm _ (mem_of_lookup hx) rfl⟩, hm⟩

noncomputable def scIB (sc : Scope) : Bool := sc.kind == .function && !sc.isCoroutine && !sc.isGenerator && isL sc sX && isL sc sL && isL sc sR && isL sc sMid && isL sc sShift && isL sc sUp && isL sc sLo && isFr sc sAD && isFr sc sN && isFr sc sInner && noCell sc && freeIn sc [sAD, sN, sInner]
theorem scI_of {sc : Scope} (h : scIB sc = true) : ScI sc ∧ ∀ p ∈ sc.names, p.2 = .free → p.1 = sAD ∨ p.1 = sN ∨ p.1 = sInner := by
  unfold scIB isL isFr noCell at h
  simp only [Bool.and_eq_true, Bool.not_eq_true', beq_iff_eq, List.all_eq_true, bne_iff_ne] at h
  refine Classical.byContradiction fun hQ => ?_
  obtain ⟨⟨⟨⟨⟨⟨⟨⟨⟨⟨⟨⟨⟨⟨h1, h2⟩, h3⟩, h4⟩, h5⟩, h6⟩, h7⟩, h8⟩, h9⟩, h10⟩, h11⟩, h12⟩, h13⟩, h14⟩, h15⟩ := h
  (refine hQ ?_; clear hQ)
  have hm : ∀ p ∈ sc.names, p.2 = .free → p.1 = sAD ∨ p.1 = sN ∨ p.1 = sInner := fun p hp hf => by
    have := free_mem h15 p hp hf
    simpa using this
  exact ⟨⟨h1, h2, h3, h4, h5, h6, h7, h8, h9, h10, h11, h12, h13, fun p hp => h14 p hp, fun x hx => hm _ (mem_of_lookup hx) rfl⟩, hm⟩

theorem gen_fn {B : Base} {a : Addr} {d : DefRec} {pm cd doc : Value} {q : Nat → Pos} {k : Nat → Nat} (F : FnT B a d pm cd doc) (h : scYB d.scope = true) (hb : d.body = yAll q k) (hbind : ∀ v : Value, bindArgs (fdD d pm cd doc) ⟨[v], []⟩ = pure [(sAddr, v)]) : GenFn B.W a (fdD d pm cd doc) q k :=
  ⟨F.at_, F.code, congrArg FuncBody.stmts hb, scY_of h, rfl, rfl, rfl, hbind⟩
end Mine
end
section
open PySem PySem.W PyProof.Rows
set_option maxRecDepth 4000
namespace Mine

/-- where a def of the text stands -/
noncomputable def adr (mg : Str → Option Value) (x : Str) : Addr := match mg x with
  | some (.ref a) => a
  | _ => 0
noncomputable def noRec : DefRec := ⟨Str.ofString "", ⟨[], [], none, [], [], none, []⟩, [], ⟨.module, [], false, false, []⟩, ⟨0, 0, 0, 0⟩⟩
/-- a def of the text -/
noncomputable def rcOf (q : Program) (x : Str) : DefRec := ((recsOf q).find? fun d => d.name == x).getD noRec
noncomputable def hasRc (q : Program) (x : Str) : Bool := ((recsOf q).find? fun d => d.name == x).isSome
theorem rc_mem {q : Program} {x : Str} (h : hasRc q x = true) : rcOf q x ∈ recsOf q ∧ (rcOf q x).name = x := by
  unfold hasRc at h
  unfold rcOf
  cases e : (recsOf q).find? fun d => d.name == x with
  | none => rw [e] at h; cases h
  | some d => exact ⟨List.mem_of_find?_eq_some e, by simpa using List.find?_some e⟩

section
variable {q : Program} {loose : List Str} {mean : ExcName → Option Value} {mg mb : Str → Option Value} {h : Heap}
theorem top_fn (T : Top q loose mean mg mb h) {x : Str} (hx : hasRc q x = true) : mg x = some (.ref (adr mg x)) ∧ ∃ o pm cd doc, h.get? (adr mg x) = some o ∧ o.data = .func (fdD (rcOf q x) pm cd doc) ∧ h.CodeRec cd (rcOf q x).name := by
  refine Classical.byContradiction fun hQ => ?_
  obtain ⟨hm, hn⟩ := rc_mem hx
  obtain ⟨a, o, pm, cd, doc, h1, h2, h3, h4⟩ := T.fn _ hm
  (refine hQ ?_; clear hQ)
  rw [hn] at h1
  have e : adr mg x = a := by unfold adr; rw [h1]
  rw [e]
  exact ⟨h1, o, pm, cd, doc, h2, h3, h4⟩
/-- a def's code and its table of made code -/
theorem top_tab (T : Top q loose mean mg mb h) {x : Str} (hx : hasRc q x = true) : ∃ c P, (∀ o fd, h.get? (adr mg x) = some o → o.data = .func fd → fd.code = .ref c) ∧ CodeHd h c P ∧ h.get? P = some (tabObj #[]) := by
  refine Classical.byContradiction fun hQ => ?_
  obtain ⟨hm, hn⟩ := rc_mem hx
  obtain ⟨a, o, fd, c, P, h1, h2, h3, h4, h5, h6⟩ := T.tab _ hm
  (refine hQ ?_; clear hQ)
  rw [hn] at h1
  have e : adr mg x = a := by unfold adr; rw [h1]
  rw [e]
  refine ⟨c, P, fun o' fd' e1 e2 => ?_, CodeHd.of h5 h6, h6.2⟩
  rw [h2] at e1; cases e1
  rw [h3] at e2; cases e2
  exact h4
theorem top_cst (T : Top q loose mean mg mb h) {x : Str} {d : PyData} (hv : valOf q x = some d) (hd : (∃ i, d = .int i) ∨ ∃ y, d = .str y) : ∃ v, mg x = some v ∧ ∀ d', d = d' → ((∃ i t, v = .int i t ∧ d' = .int i) ∨ (∃ y t, v = .str y t ∧ d' = .str y)) := by
  refine Classical.byContradiction fun hQ => ?_
  obtain ⟨v, h1, h2⟩ := T.const x d hv
  (refine hQ ?_; clear hQ)
  refine ⟨v, h1, fun d' e => ?_⟩
  subst e
  have r := h2 h
  rcases hd with ⟨i, rfl⟩ | ⟨y, rfl⟩
  · cases r; exact .inl ⟨_, _, rfl, rfl⟩
  · cases r; exact .inr ⟨_, _, rfl, rfl⟩
noncomputable def freeB (q : Program) (loose : List Str) (x : Str) : Bool := !startupNames.contains x && !loose.contains x && !((recsOf q).map (·.name)).contains x && !((litsOf q).map (·.1)).contains x && !((clssOf q loose).map (·.name)).contains x
theorem top_free (T : Top q loose mean mg mb h) {x : Str} (hf : freeB q loose x = true) : mg x = none := by
  unfold freeB at hf
  simp only [Bool.and_eq_true, Bool.not_eq_true'] at hf
  refine Classical.byContradiction fun hQ => ?_
  obtain ⟨⟨⟨⟨h1, h2⟩, h3⟩, h4⟩, h5⟩ := hf
  (refine hQ ?_; clear hQ)
  have nm : ∀ {l : List Str}, l.contains x = false → x ∉ l := fun h hm => by rw [List.contains_iff_mem.mpr hm] at h; cases h
  exact T.free x (nm h1) (nm h2) (nm h3) (nm h4) (nm h5)
end
theorem boot_all_ok : ∀ p ∈ bltAll, p.1 ≠ Str.ofString "__name__" ∧ bootBuiltins p.1 = some p.2 := by
  have h : (bltAll.all fun p => (!p.1 == Str.ofString "__name__") && bootBuiltins p.1 == some p.2) = true := by decide +kernel
  intro p hp
  have := List.all_eq_true.mp h p hp
  simpa using this

/-- the base of a law's run: its defs, its constants, the two tables -/
noncomputable def mkBase (prog : Program) (w : World) {q : Program} {loose : List Str} {mean : ExcName → Option Value} {mg mb : Str → Option Value} {h : Heap} (T : Top q loose mean mg mb h) (tabs : List Tb) (ht : ∀ t ∈ tabs, CodeHd h t.c t.P ∧ h.get? t.P = some (tabObj #[]))
    (nd : ∀ t ∈ tabs, ∀ t' ∈ tabs, t.P = t'.P → t = t') (csts : List (Str × PyData)) (hc : ∀ p ∈ csts, valOf q p.1 = some p.2 ∧ ((∃ i, p.2 = .int i) ∨ ∃ y, p.2 = .str y)) (hb : (bltAll.all fun p => freeB q loose p.1) = true) (names : List Str) (hf : (names.all (hasRc q)) = true) : Base where
  prog := prog
  w := w
  mg := mg
  mb := mb
  h₁ := h
  tabs := tabs
  g := T.g
  b := T.b
  lim := T.nolimit
  bm := T.bmain
  tab := ht
  nd := nd
  csts := csts
  cstG := fun p hp => top_cst T (hc p hp).1 (hc p hp).2
  blts := bltAll
  bltG := fun p hp => ⟨top_free T (List.all_eq_true.mp hb p hp), by rw [T.builtins _ (boot_all_ok p hp).1]; exact (boot_all_ok p hp).2⟩
  fns := names.map fun x => (x, adr mg x)
  fnG := fun p hp => by
    obtain ⟨x, hx, rfl⟩ := List.mem_map.mp hp
    exact (top_fn T (List.all_eq_true.mp hf x hx)).1
  fnO := fun p hp => by
    obtain ⟨x, hx, rfl⟩ := List.mem_map.mp hp
    obtain ⟨_, o, pm, cd, doc, h1, h2, _⟩ := top_fn T (List.all_eq_true.mp hf x hx)
    exact ⟨o, _, h1, h2⟩

theorem fn_t {B : Base} {q : Program} {loose : List Str} {mean : ExcName → Option Value} {x : Str} (T : Top q loose mean B.mg B.mb B.h₁) (hx : hasRc q x = true) : ∃ pm cd doc, FnT B (adr B.mg x) (rcOf q x) pm cd doc ∧ ∃ o, B.h₁.get? (adr B.mg x) = some o ∧ o.data = .func (fdD (rcOf q x) pm cd doc) := by
  refine Classical.byContradiction fun hQ => ?_
  obtain ⟨_, o, pm, cd, doc, h2, h3, h4⟩ := top_fn T hx
  (refine hQ ?_; clear hQ)
  refine ⟨pm, cd, doc, ⟨fun {h} k => ⟨o, Base.keep k h2 (data_not fun fs q => by rw [h3] at q; cases q), h3⟩, fun {h} k => ?_⟩, o, h2, h3⟩
  refine Classical.byContradiction fun hQ => ?_
  obtain ⟨c, o', vs, t, e1, e2, e3, e4⟩ := h4
  (refine hQ ?_; clear hQ)
  exact ⟨c, o', vs, t, e1, Base.keep k e2 (fun z => by (obtain ⟨fs, f1, f2⟩ := z.2; rw [e3] at f1; cases f1; exact f2 _ _ e4)), e3, e4⟩

/-- the first heap is one that its own facts hold of -/
theorem base_ok (B : Base) : B.ok B.h₁ := ⟨fun _ _ e _ => e, fun t ht => ⟨#[], (B.tab t ht).2, trivial, noStr_nil, .inl ⟨rfl, rfl⟩⟩⟩
theorem base_good (B : Base) {s : Shared} (hs : s.heap = B.h₁) (hg : s.gens = #[]) : Good B.W s := ⟨by rw [hs]; exact base_ok B, .of_eq hg⟩

/-! a look at the first heap: where two defs keep their made code -/
noncomputable def tabOfN (h : Heap) (x : Str) : Option Addr := match h.nsMap mainGlobals x with
  | some (.ref a) => (match h.get? a with
    | some o => (match o.data with
      | .func fd => (match fd.code with
        | .ref c => (match h.get? c with
          | some o => (match o.data with
            | .fields vs => (match (vs[11]? : Option Value) with
              | some (.ref P) => some P
              | _ => none)
            | _ => none)
          | _ => none)
        | _ => none)
      | _ => none)
    | _ => none)
  | _ => none
theorem tabOfN_eq {h : Heap} {x : Str} {a c P : Addr} {o : Obj} {fd : FuncData} (h1 : h.nsMap mainGlobals x = some (.ref a)) (h2 : h.get? a = some o) (h3 : o.data = .func fd) (h4 : fd.code = .ref c) (h5 : CodeHd h c P) : tabOfN h x = some P := by
  refine Classical.byContradiction fun hQ => ?_
  obtain ⟨o', vs, _, _, _, _, _, _, _, e1, _, e3, e4, _⟩ := h5
  (refine hQ ?_; clear hQ)
  unfold tabOfN
  simp only [h1, h2, h3, h4, e1, e3, e4]
theorem nsMap_keep {h h' : Heap} {x : Str} {v : Value} (k : ∀ b o, h.get? b = some o → h'.get? b = some o) (e : h.nsMap mainGlobals x = some v) : h'.nsMap mainGlobals x = some v := by
  unfold Heap.nsMap at e ⊢
  cases q : h.get? mainGlobals with
  | none => rw [q] at e; cases e
  | some o => rw [q] at e; rw [k _ _ q]; exact e
theorem tabOfN_keep {h h' : Heap} {x : Str} {P : Addr} (k : ∀ b o, h.get? b = some o → h'.get? b = some o) (e : tabOfN h x = some P) : tabOfN h' x = some P := by
  unfold tabOfN at e
  cases q1 : h.nsMap mainGlobals x with
  | none => rw [q1] at e; cases e
  | some v =>
    rw [q1] at e
    cases v <;> try (cases e; done)
    rename_i a
    cases q2 : h.get? a with
    | none => simp only [q2] at e; cases e
    | some o =>
      simp only [q2] at e
      cases q3 : o.data <;> simp only [q3] at e <;> try (cases e; done)
      rename_i fd
      cases q4 : fd.code <;> simp only [q4] at e <;> try (cases e; done)
      rename_i c
      cases q5 : h.get? c with
      | none => simp only [q5] at e; cases e
      | some o' =>
        unfold tabOfN
        simp only [q5] at e
        simp only [nsMap_keep k q1, k _ _ q2, q3, q4, k _ _ q5]
        exact e
noncomputable def tabHook (x y : Str) (P Q : Addr) : Hook where
  α := Option Addr × Option Addr
  obs := fun s => (tabOfN s.heap x, tabOfN s.heap y)
  val := fun _ => (some P, some Q)
  says := fun _ h => tabOfN h x = some P ∧ tabOfN h y = some Q
  of := fun _ _ e => Prod.mk.inj e
  keeps := fun _ _ _ x k => ⟨tabOfN_keep k x.1, tabOfN_keep k x.2⟩
end Mine
end
section
open PySem PySem.W PyProof.Rows
set_option maxRecDepth 4000
namespace Mine

theorem reps_of_well {P : Params} {h : Heap} : ∀ {xs : List Int} {vs : List Value}, WellAll P h vs (ofPys (xs.map .int)) → Reps h [] vs (xs.map .int)
  | [], vs, r => by cases r; exact .nil
  | x :: xs, vs, r => by
    rcases r with _ | ⟨r1, r2⟩
    cases r1
    exact .cons (.int _ _) (reps_of_well r2)

theorem rep_of_well {P : Params} {h : Heap} {a : Addr} {xs : List Int} (r : WellAll P h [.ref a] [ofPy (.list (xs.map .int))]) : VReps h [] [.ref a] [.d (.list (xs.map .int))] := by
  rcases r with _ | ⟨r1, r2⟩
  rcases r1 with _ | _ | _ | _ | _ | _ | _ | ⟨e, r⟩
  exact .cons (.list (by simp) e (by simpa using reps_of_well r)) .nil

theorem oldK_of {B : Base} {s s' : Shared} (hs : s.heap = B.h₁) (x : SX B.W s s') : OldK s.heap s'.heap := by
  refine ⟨fun b o e => ?_, x.occ⟩
  by_cases hb : b ∈ B.tabs.map (·.P)
  · obtain ⟨t, ht, rfl⟩ := List.mem_map.mp hb
    obtain ⟨c1, c2⟩ := B.tab t ht
    rw [hs] at e ⊢
    have e0 := e
    rw [c2] at e; cases e
    have ok : B.ok s'.heap := x.good.ok
    refine Classical.byContradiction fun hQ => ?_
    obtain ⟨ps, hP, _⟩ := ok.2 t ht
    (refine hQ ?_; clear hQ)
    exact .inr (.inl ⟨(c1.tab c2).isCodeTable, rfl, #[], ps, rfl, by rw [Array.empty_append]; exact hP⟩)
  · have ok : B.ok s'.heap := x.good.ok
    rw [hs] at e
    exact .inl (ok.1 b o e hb)

theorem post_true (l : OpenLaw) (args : List WData) : l.row.claim.post args (.bool true) args = true :=
  postW_of (r := l.row.toRowW) (X := true) (by wrow_shape) (w_eq_bool (k := true) (l := true) (w_res rfl) w_lit) rfl

theorem join_call {B : Base} {n : Nat} {fa : Addr} {φ : List V → Option V} {s : Shared} {a : Addr} {P : Params} {xs : List Int} {cl : Str → Option Addr} {mean : ExcName → Option Value} {l : OpenLaw}
    (hc : Ctr B.W n fa φ) (hn : n ≤ 100) (hs : s.heap = B.h₁) (hg : s.gens = #[]) (hr : WellAll P s.heap [.ref a] [ofPy (.list (xs.map .int))]) (e : φ [.d (.list (xs.map .int))] = some (.d (.bool true)))
    : wpAny (model B.prog B.w) callerA (call (.ref fa) [.ref a] []) (fun v s' => GoodWG l.row.claim cl mean [ofPy (.list (xs.map .int))] s (.ok (.ret v)) s') (fun e s' => GoodWG l.row.claim cl mean [ofPy (.list (xs.map .int))] s (.error e) s') s := by
  refine hc callerA s [] _ _ _ _ _ ⟨rfl, ?_, ?_⟩ (base_good B hs hg) (fun _ h => nomatch h) (rep_of_well hr) rfl e fun x s' sx _ r => ?_
  · show (301 : Nat) + n ≤ 900; lia
  · show (4 : Nat) + 4 * n + 200 ≤ cLine
    have : cLine = 9900 := rfl
    lia
  · cases r
    exact ⟨.inl ⟨_, .bool true, [], rfl, fun _ => rfl, .bool true, post_true _ _, fun _ => ⟨.nil, fun _ h => nomatch h⟩⟩, oldK_of hs sx, sx.os, sx.good.bare⟩
end Mine
end
section
open PySem PySem.W PyProof.Rows
open PySem.StrLaws Builtin Builtin.Str
set_option maxRecDepth 4000
namespace Mine

/-! texts as lists of code points -/
noncomputable def S (l : List Nat) : Str := ⟨l.toArray⟩
theorem S_mk (a : Array Nat) : (⟨a⟩ : Str) = S a.toList := rfl
theorem S_cps (x : Str) : S x.cps.toList = x := rfl
theorem S_ex (x : Str) : ∃ l, x = S l := ⟨x.cps.toList, rfl⟩
theorem S_toList (l : List Nat) : (S l).cps.toList = l := rfl
theorem S_size (l : List Nat) : (S l).cps.size = l.length := rfl
theorem S_len (l : List Nat) : (S l).length = l.length := rfl
theorem S_app (a b : List Nat) : S a ++ S b = S (a ++ b) := by
  apply Str.ext'; rw [Str.cps_append]; simp [S]
theorem S_inj {a b : List Nat} : S a = S b ↔ a = b := ⟨fun h => by have := congrArg (fun x : Str => x.cps.toList) h; exact this, fun h => by rw [h]⟩
theorem S_beq (a b : List Nat) : (S a == S b) = (a == b) := by
  rw [Bool.eq_iff_iff, beq_iff_eq, beq_iff_eq, S_inj]
theorem S_ok (l : List Nat) : PyData.strOk (S l) = l.all (· < 0x110000) := by
  simp [PyData.strOk, S]
theorem S_strSub (l : List Nat) (i j : Nat) : strSub (S l) i j = S ((l.drop i).take (j - i)) := by
  apply Str.ext'; apply Array.toList_inj.mp
  rw [strSub_toList]; rfl

/-- the pieces with sep between them -/
noncomputable def sepJ (sep : List Nat) : List (List Nat) → List Nat
  | [] => []
  | [x] => x
  | x :: y :: r => x ++ sep ++ sepJ sep (y :: r)
theorem join_S (sep : List Nat) : ∀ ls : List (List Nat), Txt.join (S sep) (ls.map S) = S (sepJ sep ls) := by
  intro ls
  show glued _ _ = _
  rw [glued_eq_join]
  induction ls with
  | nil => rfl
  | cons x r ih =>
    cases r with
    | nil => rfl
    | cons y r =>
      show S x ++ S sep ++ Str.join (S sep) ((y :: r).map S) = _
      rw [ih, S_app, S_app]; rfl
theorem sepJ_nil_flatten : ∀ ls : List (List Nat), sepJ [] ls = ls.flatten
  | [] => rfl
  | [x] => by simp [sepJ]
  | x :: y :: r => by simp [sepJ, sepJ_nil_flatten (y :: r)]
theorem sepJ_cons {sep : List Nat} {x : List Nat} {r : List (List Nat)} (h : r ≠ []) : sepJ sep (x :: r) = x ++ sep ++ sepJ sep r := by
  cases r with
  | nil => exact absurd rfl h
  | cons y r => rfl

theorem at_iff {l w : List Nat} {hi i : Nat} (_hh : hi ≤ l.length) : At (S l) (S w) hi i ↔ i + w.length ≤ hi ∧ w <+: (l.take hi).drop i := by
  unfold At
  rw [subAt_eq, S_len]
  show (i + w.length ≤ hi ∧ ((l.drop i).take w.length == w) = true) ↔ _
  refine and_congr_right fun h1 => ?_
  rw [beq_iff_eq, List.prefix_iff_eq_take, List.drop_take, List.take_take, show min w.length (hi - i) = w.length by lia]
  exact eq_comm

/-- the place of the first w in l -/
noncomputable def idx (w : List Nat) : List Nat → Option Nat
  | [] => if w.isPrefixOf [] then some 0 else none
  | c :: r => if w.isPrefixOf (c :: r) then some 0 else (idx w r).map (· + 1)
theorem idx_some {w : List Nat} : ∀ {l : List Nat} {i : Nat}, idx w l = some i → w <+: l.drop i ∧ (∀ k, k < i → ¬ w <+: l.drop k) ∧ i ≤ l.length
  | [], i, h => by
    unfold idx at h
    split at h
    · rename_i q; cases h; exact ⟨List.isPrefixOf_iff_prefix.mp q, fun k hk => absurd hk (Nat.not_lt_zero _), Nat.le_refl _⟩
    · cases h
  | c :: r, i, h => by
    unfold idx at h
    split at h
    · rename_i q; cases h; exact ⟨List.isPrefixOf_iff_prefix.mp q, fun k hk => absurd hk (Nat.not_lt_zero _), Nat.zero_le _⟩
    · rename_i q
      refine Classical.byContradiction fun hQ => ?_
      obtain ⟨j, hj, rfl⟩ := Option.map_eq_some_iff.mp h
      obtain ⟨h1, h2, h3⟩ := idx_some hj
      (refine hQ ?_; clear hQ)
      refine ⟨by simpa using h1, fun k hk => ?_, by simpa using h3⟩
      cases k with
      | zero => exact fun z => q (List.isPrefixOf_iff_prefix.mpr (by simpa using z))
      | succ k => simpa using h2 k (by lia)
theorem idx_none {w : List Nat} : ∀ {l : List Nat}, idx w l = none → ∀ k, k ≤ l.length → ¬ w <+: l.drop k
  | [], h, k, hk => by
    unfold idx at h
    split at h
    · cases h
    · rename_i q
      have : k = 0 := by simpa using hk
      subst this
      exact fun z => q (List.isPrefixOf_iff_prefix.mpr (by simpa using z))
  | c :: r, h, k, hk => by
    unfold idx at h
    split at h
    · cases h
    · rename_i q
      cases k with
      | zero => exact fun z => q (List.isPrefixOf_iff_prefix.mpr (by simpa using z))
      | succ k => simpa using idx_none (Option.map_eq_none_iff.mp h) k (by simpa using hk)

theorem find4_S {l w : List Nat} {a b : Nat} (hab : a ≤ b) (hb : b ≤ l.length) : find4 (S l) (S w) a b = match idx w ((l.take b).drop a) with
    | some i => ((a + i : Nat) : Int)
    | none => -1 := by
  unfold find4
  rw [occ_eq]
  rcases occ_first (S l) (S w) b 1 (Nat.le_refl 1) (List.range' a (b + 1 - a)) a (fun i hi => by have := List.mem_range'_1.mp hi; lia) with ⟨h0, hn⟩ | ⟨pre, i, post, e, h0, ha, hn⟩
  · rw [h0]
    cases q : idx w ((l.take b).drop a) with
    | none => rfl
    | some i =>
      exfalso
      obtain ⟨h1, h2, h3⟩ := idx_some q
      have hl : ((l.take b).drop a).length = b - a := by simp; lia
      have h4 := h1.length_le
      rw [List.length_drop, hl] at h4
      refine hn (a + i) (by rw [List.mem_range'_1]; lia) ((at_iff hb).mpr ⟨by lia, ?_⟩)
      rw [List.drop_drop] at h1; exact h1
  · have hs := range'_split_from e
    have hi : a ≤ i := hs.1
    have hA := (at_iff hb).mp ha
    generalize (forIn (List.range' a (b + 1 - a)) ((#[] : Array Nat), a) (occBody (S l) (S w) b 1)).run.fst = arr at h0
    have h1 : arr.toList[0]? = some i := by simpa using h0
    have h2 : ∃ t, arr.toList = i :: t := by
      cases hL : arr.toList with
      | nil => rw [hL] at h1; cases h1
      | cons b t => rw [hL] at h1; simp at h1; exact ⟨t, by rw [h1]⟩
    obtain ⟨t, ht⟩ := h2
    rw [ht]
    show (i : Int) = _
    have hl : ((l.take b).drop a).length = b - a := by simp; lia
    cases q : idx w ((l.take b).drop a) with
    | none =>
      exfalso
      refine idx_none q (i - a) (by rw [hl]; lia) ?_
      rw [List.drop_drop, show a + (i - a) = i by lia]
      exact hA.2
    | some j =>
      refine Classical.byContradiction fun hQ => ?_
      obtain ⟨g1, g2, g3⟩ := idx_some q
      (refine hQ ?_; clear hQ)
      have g4 := g1.length_le
      rw [List.length_drop, hl] at g4
      rcases Nat.lt_trichotomy (a + j) i with z | z | z
      · exfalso
        refine hn (a + j) (hs.2 _ (by lia) z) ((at_iff hb).mpr ⟨by lia, ?_⟩)
        rw [List.drop_drop] at g1; exact g1
      · show (i : Int) = ((a + j : Nat) : Int); rw [z]
      · exfalso
        refine g2 (i - a) (by lia) ?_
        rw [List.drop_drop, show a + (i - a) = i by lia]
        exact hA.2

theorem strIn_S (w l : List Nat) : strIn (S w) (S l) = (idx w l).isSome := by
  unfold strIn
  rw [Bool.eq_iff_iff, found_iff, Option.isSome_iff_exists]
  constructor
  · rintro ⟨i, hi⟩
    have hA := (at_iff (l := l) (w := w) (hi := l.length) (Nat.le_refl _)).mp hi
    rw [List.take_length] at hA
    cases q : idx w l with
    | some j => exact ⟨j, rfl⟩
    | none => exact absurd hA.2 (idx_none q i (by lia))
  · rintro ⟨i, hi⟩
    obtain ⟨h1, h2, h3⟩ := idx_some hi
    have := h1.length_le
    rw [List.length_drop] at this
    refine ⟨i, (at_iff (l := l) (w := w) (hi := l.length) (Nat.le_refl _)).mpr ⟨by lia, ?_⟩⟩
    rw [List.take_length]; exact h1

theorem startswith_S (l w : List Nat) : Txt.startswith (S l) (S w) = w.isPrefixOf l := by
  unfold Txt.startswith
  rw [Bool.eq_iff_iff, Bool.and_eq_true, decide_eq_true_eq, List.isPrefixOf_iff_prefix]
  have := at_iff (l := l) (w := w) (hi := l.length) (i := 0) (Nat.le_refl _)
  unfold At at this
  rw [List.take_length, List.drop_zero] at this
  rw [show (0 + (S w).length ≤ (S l).length ∧ subAt (S l) (S w) 0 = true) ↔ _ from this]
  exact ⟨fun h => h.2, fun h => ⟨by have := h.length_le; lia, h⟩⟩
theorem endswith_S (l w : List Nat) : Txt.endswith (S l) (S w) = w.isSuffixOf l := by
  unfold Txt.endswith
  rw [Bool.eq_iff_iff, Bool.and_eq_true, decide_eq_true_eq, List.isSuffixOf_iff_suffix]
  show 0 + w.length ≤ l.length ∧ subAt (S l) (S w) (l.length - w.length) = true ↔ _
  rw [subAt_eq]
  show 0 + w.length ≤ l.length ∧ ((l.drop (l.length - w.length)).take w.length == w) = true ↔ _
  rw [beq_iff_eq]
  constructor
  · rintro ⟨h1, h2⟩
    rw [List.take_of_length_le (by rw [List.length_drop]; omega)] at h2
    have h3 := List.take_append_drop (l.length - w.length) l
    rw [h2] at h3
    exact ⟨_, h3⟩
  · rintro ⟨t, rfl⟩
    refine ⟨by simp, ?_⟩
    simp

/-- a piece is cut off at the first mark -/
theorem idx_sep {p r : List Nat} (h : 46 ∉ p) : idx [46, 46, 46] (p ++ [46, 46, 46] ++ r) = some p.length := by
  induction p with
  | nil => simp [idx, List.isPrefixOf]
  | cons c p ih =>
    have hc : c ≠ 46 := fun q => h (by rw [q]; exact List.mem_cons_self)
    have hp : 46 ∉ p := fun q => h (List.mem_cons_of_mem _ q)
    show (if [46, 46, 46].isPrefixOf (c :: (p ++ [46, 46, 46] ++ r)) then some 0 else (idx [46, 46, 46] (p ++ [46, 46, 46] ++ r)).map (· + 1)) = _
    rw [if_neg (by simp [List.isPrefixOf, Ne.symm hc]), ih hp]
    rfl
theorem idx_free {p : List Nat} (h : 46 ∉ p) : idx [46, 46, 46] p = none := by
  induction p with
  | nil => simp [idx, List.isPrefixOf]
  | cons c p ih =>
    have hc : c ≠ 46 := fun q => h (by rw [q]; exact List.mem_cons_self)
    have hp : 46 ∉ p := fun q => h (List.mem_cons_of_mem _ q)
    unfold idx
    rw [if_neg (by simp [List.isPrefixOf, Ne.symm hc]), ih hp]
    rfl
end Mine
end
section
open PySem PySem.W PyProof.Rows
open PySem.StrLaws Builtin Builtin.Str
set_option maxRecDepth 4000
namespace Mine
noncomputable abbrev dots : List Nat := [46, 46, 46]

theorem at_mem {l : List Nat} {c : Nat} (h : At (S l) (S dots) l.length c) : l[c]? = some 46 := by
  have := (at_iff (Nat.le_refl _)).mp h
  rw [List.take_length] at this
  obtain ⟨t, ht⟩ := this.2
  have e : (l.drop c)[0]? = some 46 := by rw [← ht]; rfl
  rw [List.getElem?_drop] at e
  simpa using e

theorem parts_S : ∀ (ps : List (List Nat)) (pre : List Nat) (cuts : List Nat) (f : Nat), ps ≠ [] → (∀ p ∈ ps, 46 ∉ p) →
    ChainG (S (pre ++ sepJ dots ps)) (S dots) (pre ++ sepJ dots ps).length pre.length cuts f → (∀ k, f ≤ k → ¬ At (S (pre ++ sepJ dots ps)) (S dots) (pre ++ sepJ dots ps).length k) →
    partsFrom (S (pre ++ sepJ dots ps)) 3 pre.length cuts = ps.map S
  | [], _, _, _, h, _, _, _ => absurd rfl h
  | [p], pre, cuts, f, _, hp, hc, hf => by
    cases cuts with
    | nil =>
      show [strSub (S (pre ++ p)) pre.length (S (pre ++ p)).length] = [S p]
      rw [S_strSub, S_len]
      simp
    | cons c r =>
      exfalso
      obtain ⟨h1, h2, _⟩ := hc
      have := at_mem h2
      rw [List.getElem?_append_right h1] at this
      exact hp p List.mem_cons_self (List.mem_of_getElem? this)
  | p :: q :: r, pre, cuts, f, _, hp, hc, hf => by
    have hA : At (S (pre ++ sepJ dots (p :: q :: r))) (S dots) (pre ++ sepJ dots (p :: q :: r)).length (pre.length + p.length) := by
      refine (at_iff (Nat.le_refl _)).mpr ⟨by simp [sepJ]; lia, ?_⟩
      rw [List.take_length, List.drop_append, List.drop_of_length_le (by lia), List.nil_append, show pre.length + p.length - pre.length = p.length by lia]
      simp [sepJ]
    cases cuts with
    | nil =>
      exfalso
      have e : f = pre.length := hc
      exact hf _ (by lia) hA
    | cons c cs =>
      obtain ⟨h1, h2, h3, h4⟩ := hc
      have hc : c = pre.length + p.length := by
        rcases Nat.lt_trichotomy c (pre.length + p.length) with z | z | z
        · exfalso
          have := at_mem h2
          rw [List.getElem?_append_right h1] at this
          simp only [sepJ, List.append_assoc] at this
          rw [List.getElem?_append_left (by lia)] at this
          exact hp p List.mem_cons_self (List.mem_of_getElem? this)
        · exact z
        · exact absurd hA (h3 _ (by lia) z)
      subst hc
      have hx : pre ++ sepJ dots (p :: q :: r) = (pre ++ p ++ dots) ++ sepJ dots (q :: r) := by simp [sepJ]
      have hl : pre.length + p.length + (S dots).length = (pre ++ p ++ dots).length := by simp [S_len]; lia
      rw [hl] at h4
      rw [hx] at h4 hf ⊢
      have ih := parts_S (q :: r) (pre ++ p ++ dots) cs f (by simp) (fun x hx => hp x (List.mem_cons_of_mem _ hx)) h4 hf
      show strSub _ pre.length (pre.length + p.length) :: partsFrom _ 3 (pre.length + p.length + 3) cs = _
      rw [show pre.length + p.length + 3 = (pre ++ p ++ dots).length by (simp; lia), ih, S_strSub]
      simp

theorem split_S {ps : List (List Nat)} (h2 : 2 ≤ ps.length) (hp : ∀ p ∈ ps, 46 ∉ p) : Txt.split (S (sepJ dots ps)) (S dots) = ps.map S := by
  obtain ⟨p, q, r, rfl⟩ : ∃ p q r, ps = p :: q :: r := by
    match ps, h2 with
    | p :: q :: r, _ => exact ⟨p, q, r, rfl⟩
  unfold Txt.split
  have hk : Builtin.Str.strKind (S dots) = 1 := by unfold Builtin.Str.strKind; simp [S]
  have hk2 : ¬ Builtin.Str.strKind (S (sepJ dots (p :: q :: r))) < 1 := by
    unfold Builtin.Str.strKind; split <;> (try split) <;> lia
  rw [if_neg (by
    rw [hk, Bool.or_eq_true, decide_eq_true_eq, decide_eq_true_eq]
    rintro (z | z)
    · rw [S_len, S_len] at z; simp [sepJ] at z
      lia
    · exact hk2 z)]
  refine Classical.byContradiction fun hQ => ?_
  obtain ⟨f, h1, h2⟩ := occ_tight (S (sepJ dots (p :: q :: r))) (S dots) (by decide)
  (refine hQ ?_; clear hQ)
  have key := parts_S (p :: q :: r) [] _ f (by simp) hp h1 h2
  rw [if_neg ?_]
  · rw [partsBetween_eq]; exact key
  · intro z
    have e := List.isEmpty_iff.mp z
    rw [e] at key
    have := congrArg List.length key
    simp [partsFrom] at this
end Mine
end
section
open PySem PySem.W PyProof.Rows
set_option maxRecDepth 4000
namespace Mine
noncomputable def ellC : List CS := [(.ite (.cmp .NotIn (.lit (.str (S [46, 46, 46]))) (.var 0)) [(.ret (.cmp .Eq (.var 0) (.var 1)))] []), (.own 2 (.meth .split (.var 0) [(.lit (.str (S [46, 46, 46])))])), (.assert (.cmp .GtE (.prim .len [(.var 2)]) (.lit (.int (2))))), (.asgS [4, 3] (.tup [(.lit (.int (0))), (.prim .len [(.var 1)])])), (.asg 5 (.item (.var 2) (.lit (.int (0))))), (.ite (.var 5) [(.ite (.meth .startswith (.var 1) [(.var 5)]) [(.asg 3 (.prim .len [(.var 5)])), (.delAt 2 false)] [(.ret (.lit (.bool false)))])] []), (.asg 5 (.item (.var 2) (.un .USub (.lit (.int (1)))))), (.ite (.var 5) [(.ite (.meth .endswith (.var 1) [(.var 5)]) [(.aug true 4 (.prim .len [(.var 5)])), (.delAt 2 true)] [(.ret (.lit (.bool false)))])] []), (.ite (.cmp .Gt (.var 3) (.var 4)) [(.ret (.lit (.bool false)))] []), (.frz 2), (.for1 5 (.var 2) [(.asg 3 (.meth .find (.var 1) [(.var 5), (.var 3), (.var 4)])), (.ite (.cmp .Lt (.var 3) (.lit (.int (0)))) [(.ret (.lit (.bool false)))] []), (.aug false 3 (.prim .len [(.var 5)]))]), (.ret (.lit (.bool true)))]
noncomputable def stripC : List CS := [(.ite (.cmp .NotIn (.lit (.str (S [34]))) (.var 0)) [(.ret (.var 0))] []), (.asg 1 (.lit (.int (0)))), (.asg 2 (.lit .none)), (.own 3 (.list [])), (.forG 4 5 (.var 0) [(.ite (.cmp .Eq (.var 5) (.lit (.str (S [34])))) [(.ite (.cmp .Is (.var 2) (.lit .none)) [(.asg 2 (.var 4))] [(.ite (.cmp .NotEq (.var 1) (.var 2)) [(.app 3 (.slice (.var 0) (some (.var 1)) (some (.var 2)) none))] []), (.asg 1 (.bin .Add (.var 4) (.lit (.int (1))))), (.asg 2 (.lit .none))])] [])]), (.ite (.cmp .Lt (.var 1) (.prim .len [(.var 0)])) [(.app 3 (.slice (.var 0) (some (.var 1)) none none))] []), (.frz 3), (.ret (.meth .join (.lit (.str (S []))) [(.var 3)]))]
noncomputable def checkC : List CS := [(.asg 0 (.call 1 [(.var 0)])), (.asg 1 (.lit (.int (0)))), (.forG 2 3 (.var 0) [(.ite (.cmp .Eq (.var 3) (.lit (.str (S [40])))) [(.aug false 1 (.lit (.int (1))))] [(.ite (.cmp .Eq (.var 3) (.lit (.str (S [41])))) [(.aug true 1 (.lit (.int (1)))), (.ite (.cmp .Lt (.var 1) (.lit (.int (0)))) [(.ret (.lit (.bool false)))] [])] [])])]), (.ret (.cmp .Eq (.var 1) (.lit (.int (0)))))]
noncomputable def div2C : List CS := [(.ite (.cmp .LtE (.bin .Sub (.meth .bitLength (.var 0) []) (.var 2)) (.lit (.int (4000)))) [(.ret (.prim .divmod [(.var 0), (.var 1)]))] []), (.asg 3 (.bin .BitAnd (.var 2) (.lit (.int (1))))), (.ite (.var 3) [.stuck, .stuck, (.aug false 2 (.lit (.int (1))))] []), (.asg 4 (.bin .RShift (.var 2) (.lit (.int (1))))), (.asg 5 (.bin .Sub (.bin .LShift (.lit (.int (1))) (.var 4)) (.lit (.int (1))))), (.asgS [7, 6] (.tup [(.bin .RShift (.var 1) (.var 4)), (.bin .BitAnd (.var 1) (.var 5))])), .stuck, .stuck, (.ite (.var 3) [.stuck] []), (.ret (.tup [(.bin .BitOr (.bin .LShift (.var 8) (.var 4)) (.var 10)), (.var 9)]))]
noncomputable def dposC : List CS := [(.asg 2 (.meth .bitLength (.var 1) [])), (.asg 3 (.call 4 [(.var 0), (.var 2)])), (.asg 4 (.lit (.int (0)))), (.own 5 (.list [])), (.forR 6 (.var 3) [(.asgT [7, 4] (.call 3 [(.bin .Add (.bin .LShift (.var 4) (.var 2)) (.var 6)), (.var 1), (.var 2)])), (.app 5 (.var 7))]), (.rev 5), (.frz 5), (.asg 8 (.call 5 [(.var 5), (.var 2)])), (.ret (.tup [(.var 8), (.var 4)]))]
noncomputable def idivC : List CS := [(.ite (.cmp .Eq (.var 1) (.lit (.int (0)))) [.stuck] [(.ite (.cmp .Lt (.var 1) (.lit (.int (0)))) [(.asgT [2, 3] (.call 7 [(.un .USub (.var 0)), (.un .USub (.var 1))])), (.ret (.tup [(.var 2), (.un .USub (.var 3))]))] [(.ite (.cmp .Lt (.var 0) (.lit (.int (0)))) [(.asgT [2, 3] (.call 7 [(.un .Invert (.var 0)), (.var 1)])), (.ret (.tup [(.un .Invert (.var 2)), (.bin .Add (.var 1) (.un .Invert (.var 3)))]))] [(.ret (.call 6 [(.var 0), (.var 1)]))])])])]
end Mine
end
section
open PySem PySem.W PyProof.Rows PySem.StrLaws
set_option maxRecDepth 4000
namespace Mine
/-! evaluation, step by step -/
theorem szOk_of {n : Nat} (h : n ≤ 1048576) : szOk n = true := by unfold szOk; rw [decide_eq_true_eq]; exact h
theorem vitems_l {xs : List PyData} (h : xs.length ≤ 1048576) : vitems (.d (.list xs)) = some xs := if_pos (szOk_of h)
theorem so_bool {a b : Bool} : sameOne (.bool a) (.bool b) = (a == b) := by cases a <;> cases b <;> rfl
noncomputable def Bd (i : Int) : Prop := i.natAbs < 2 ^ 400
theorem fit_abs {i : Int} (h : Bd i) : fit i = true := by
  unfold Bd at h; unfold fit; rw [decide_eq_true_eq]
  exact Nat.lt_of_lt_of_le h (Nat.pow_le_pow_right (by decide) (by decide))
theorem fit_small {i : Int} (h : i.natAbs ≤ 10 ^ 20) : fit i = true := fit_abs (Nat.lt_of_le_of_lt h (by decide))
theorem shp_str {l : List Nat} (h : l.all (· < 0x110000) = true) : shp (.str (S l)) = true := by
  simp only [shp, SeqAt.shaped, PyData.canLay0, PyData.depth, S_ok, h]; rfl
theorem shp_int {i : Int} : shp (.int i) = true := rfl
theorem eqv_S (a b : List Nat) : PyData.eqv (.str (S a)) (.str (S b)) = (a == b) := by rw [PyData.eqv, S_beq]
theorem eqv_int (a b : Int) : PyData.eqv (.int a) (.int b) = (a == b) := by rw [PyData.eqv]
theorem getIx_nat' {xs : List PyData} {i : Nat} (h : i ≤ 1048576) : getIx xs (i : Int) = xs[i]? := by
  unfold getIx; rw [if_pos ⟨Int.natCast_nonneg i, by omega⟩, Int.toNat_natCast]
theorem getIx_zero {xs : List PyData} : getIx xs 0 = xs[0]? := getIx_nat' (i := 0) (Nat.zero_le _)
theorem getIx_last {xs : List PyData} (h : xs.length ≤ 1048576) (h0 : 0 < xs.length) : getIx xs (-1) = xs.getLast? := by
  unfold getIx
  rw [if_neg (fun z => by lia), if_pos ⟨by decide, by lia, by lia⟩, List.getLast?_eq_getElem?]
  congr 1; lia
noncomputable def posOf (a : Nat) : Option Nat → Int
  | some i => ((a + i : Nat) : Int)
  | none => -1
theorem find_S {l w : List Nat} {a b : Nat} (hab : a ≤ b) (hb : b ≤ l.length) (hl : l.length ≤ 1048576) : vmeth .find (.d (.str (S l))) [.d (.str (S w)), .d (.int (a : Int)), .d (.int (b : Int))] = some (.d (.int (posOf a (idx w ((l.take b).drop a))))) := by
  have hc : 0 ≤ (a : Int) ∧ (a : Int) ≤ b ∧ (b : Int) ≤ (S l).length ∧ (S l).length < 2 ^ 62 := ⟨Int.natCast_nonneg a, Int.ofNat_le.mpr hab, Int.ofNat_le.mpr hb, Nat.lt_of_le_of_lt hl (by decide)⟩
  show (if 0 ≤ (a : Int) ∧ (a : Int) ≤ b ∧ (b : Int) ≤ (S l).length ∧ (S l).length < 2 ^ 62 then some (V.d (.int (find4 (S l) (S w) (Int.toNat a) (Int.toNat b)))) else none) = _
  rw [if_pos hc, Int.toNat_natCast, Int.toNat_natCast, find4_S hab hb]
  cases idx w ((l.take b).drop a) <;> rfl

section
variable {Φ : Fns} {fu : Nat} {ρ ρ' : Ev} {c : CS} {r : List CS} {v : V} {R : Option (Ev × Fl)}
theorem go_nx (h : cex Φ fu c ρ = some (ρ', .nx)) (k : cexs Φ fu r ρ' = R) : cexs Φ fu (c :: r) ρ = R := (cexs_nx h).trans k
theorem runF_rt {F : CF} {args : List V} (h : args.length = F.par) (h2 : cexs Φ fu F.body ((args.map .sh) ++ List.replicate (F.size - F.par) .un) = some (ρ', .rt v)) : runF Φ fu F args = some v := (if_pos h).trans (b_of h2 rfl)
theorem runF_ex {F : CF} {args : List V} (h : args.length = F.par) (h2 : ∃ ρ', cexs Φ fu F.body ((args.map .sh) ++ List.replicate (F.size - F.par) .un) = some (ρ', .rt v)) : runF Φ fu F args = some v := h2.elim fun _ h2 => runF_rt h h2
/-! expressions -/
variable {a b t i j : CE} {x y : PyData} {m : Pm} {f : Nat}
theorem d_eq (s1 : shp x = true) (s2 : shp y = true) : dcmp .Eq x y = some (PyData.eqv x y) := by
  show (if (shp x && shp y) = true then some (PyData.eqv x y) else none) = _; rw [s1, s2]; rfl
theorem d_ne (s1 : shp x = true) (s2 : shp y = true) : dcmp .NotEq x y = some (!PyData.eqv x y) := by
  show (if (shp x && shp y) = true then some (!PyData.eqv x y) else none) = _; rw [s1, s2]; rfl
theorem ev_eq (h1 : ceval Φ a ρ = some (.d x)) (h2 : ceval Φ b ρ = some (.d y)) (s1 : shp x = true) (s2 : shp y = true) : ceval Φ (.cmp .Eq a b) ρ = some (.d (.bool (PyData.eqv x y))) := ev_cmp h1 h2 (d_eq s1 s2)
theorem ev_ne (h1 : ceval Φ a ρ = some (.d x)) (h2 : ceval Φ b ρ = some (.d y)) (s1 : shp x = true) (s2 : shp y = true) : ceval Φ (.cmp .NotEq a b) ρ = some (.d (.bool (!PyData.eqv x y))) := ev_cmp h1 h2 (d_ne s1 s2)
theorem ev_ne_same (h1 : ceval Φ a ρ = some (.d x)) (h2 : ceval Φ b ρ = some (.d x)) (s : shp x = true) : ceval Φ (.cmp .NotEq a b) ρ = some (.d (.bool false)) :=
  (ev_ne h1 h2 s s).trans (by rw [SeqAt.eqv_refl x (Bool.and_eq_true_iff.mp s).1]; rfl)
theorem ev_isNot {y : Bool} (h1 : ceval Φ a ρ = some (.d x)) (h2 : ceval Φ b ρ = some (.d (.bool y))) : ceval Φ (.cmp .IsNot a b) ρ = some (.d (.bool (!sameOne x (.bool y)))) := ev_cmp h1 h2 rfl
theorem ev_is {y : Bool} (h1 : ceval Φ a ρ = some (.d x)) (h2 : ceval Φ b ρ = some (.d (.bool y))) : ceval Φ (.cmp .Is a b) ρ = some (.d (.bool (sameOne x (.bool y)))) := ev_cmp h1 h2 rfl
theorem d_notin {w l : List Nat} : dcmp .NotIn (.str (S w)) (.str (S l)) = some (!(idx w l).isSome) := by
  show some (!strIn (S w) (S l)) = _; rw [strIn_S]
theorem ev_ite {k : Bool} (h : ceval Φ t ρ = some (.d (.bool k))) : ceval Φ (.ite t a b) ρ = if k then ceval Φ a ρ else ceval Φ b ρ := b_of h (b_of rfl rfl)
theorem ev_or {k : Bool} (h : ceval Φ a ρ = some (.d (.bool false))) (h2 : ceval Φ b ρ = some (.d (.bool k))) : ceval Φ (.boolop .Or a b) ρ = some (.d (.bool k)) := b_of h (b_of rfl h2)
theorem ev_and {k : Bool} (h : ceval Φ a ρ = some (.d (.bool true))) (h2 : ceval Φ b ρ = some (.d (.bool k))) : ceval Φ (.boolop .And a b) ρ = some (.d (.bool k)) := b_of h (b_of rfl h2)
theorem ev_neg {n : Int} (h : ceval Φ a ρ = some (.d (.int n))) : ceval Φ (.un .USub a) ρ = some (.d (.int (-n))) := b_of h (b_of rfl rfl)
theorem ev_not {n : Int} (h : ceval Φ a ρ = some (.d (.int n))) : ceval Φ (.un .Invert a) ρ = some (.d (.int (Builtin.bitNot n))) := b_of h (b_of rfl rfl)
theorem ev_itemo {xs : List PyData} {j : Int} {d : PyData} (h1 : ceval Φ a ρ = some (.o xs)) (h2 : ceval Φ i ρ = some (.d (.int j))) (h3 : getIx xs j = some d) : ceval Φ (.item a i) ρ = some (.d d) := b_of h1 (b_of h2 (b_of rfl (b_of h3 rfl)))
theorem ces1 {x : V} (h : ceval Φ a ρ = some x) : cevals Φ [a] ρ = some [x] := b_of h rfl
theorem ces_c {es : List CE} {x : V} {xs : List V} (h : ceval Φ a ρ = some x) (h2 : cevals Φ es ρ = some xs) : cevals Φ (a :: es) ρ = some (x :: xs) := b_of h (by rw [h2]; rfl)
theorem ces2 {x y : V} (h : ceval Φ a ρ = some x) (h2 : ceval Φ b ρ = some y) : cevals Φ [a, b] ρ = some [x, y] := ces_c h (ces1 h2)
theorem ces3 {c : CE} {x y z : V} (h : ceval Φ a ρ = some x) (h2 : ceval Φ b ρ = some y) (h3 : ceval Φ c ρ = some z) : cevals Φ [a, b, c] ρ = some [x, y, z] := ces_c h (ces2 h2 h3)
theorem ces4 {c d : CE} {x y z u : V} (h : ceval Φ a ρ = some x) (h2 : ceval Φ b ρ = some y) (h3 : ceval Φ c ρ = some z) (h4 : ceval Φ d ρ = some u) : cevals Φ [a, b, c, d] ρ = some [x, y, z, u] := ces_c h (ces3 h2 h3 h4)
theorem b_map {α β : Type} (o : Option α) (f : α → β) : (o.bind fun x => some (f x)) = o.map f := by cases o <;> rfl
theorem ev_prim1 {f : Pf} {x : V} (h : ceval Φ a ρ = some x) : ceval Φ (.prim f [a]) ρ = vprim f [x] := b_of (b_of h rfl) rfl
theorem ev_prim2 {f : Pf} {x y : V} (h : ceval Φ a ρ = some x) (h2 : ceval Φ b ρ = some y) : ceval Φ (.prim f [a, b]) ρ = vprim f [x, y] := b_of (ces2 h h2) rfl
theorem len_v {v : V} {n : Nat} (h : lenOf v = some n) (hn : n ≤ 1048576) : vprim .len [v] = some (.d (.int n)) := by
  show (lenOf v).bind (fun n => if n < 2 ^ 62 then some (V.d (.int n)) else none) = _
  rw [h]; exact if_pos (Nat.lt_of_le_of_lt hn (by decide))
theorem ev_lenv {n : Nat} (h : ceval Φ a ρ = some v) (hv : lenOf v = some n) (hn : n ≤ 1048576) : ceval Φ (.prim .len [a]) ρ = some (.d (.int n)) := (ev_prim1 h).trans (len_v hv hn)
theorem len_l {xs : List PyData} (h : xs.length ≤ 1048576) : vprim .len [.d (.list xs)] = some (.d (.int xs.length)) := len_v rfl h
theorem ev_len {xs : List PyData} (h : ceval Φ a ρ = some (.d (.list xs))) (hl : xs.length ≤ 1048576) : ceval Φ (.prim .len [a]) ρ = some (.d (.int xs.length)) := ev_lenv h rfl hl
theorem ev_meth0 {o : CE} {x : V} (h1 : ceval Φ o ρ = some x) : ceval Φ (.meth m o []) ρ = vmeth m x [] := b_of h1 rfl
theorem ev_meth1 {o : CE} {x y : V} (h1 : ceval Φ o ρ = some x) (h2 : ceval Φ a ρ = some y) : ceval Φ (.meth m o [a]) ρ = vmeth m x [y] := b_of h1 (b_of (b_of h2 rfl) rfl)
theorem ev_meth3 {o c : CE} {x y z u : V} (h1 : ceval Φ o ρ = some x) (h2 : ceval Φ a ρ = some y) (h3 : ceval Φ b ρ = some z) (h4 : ceval Φ c ρ = some u) : ceval Φ (.meth m o [a, b, c]) ρ = vmeth m x [y, z, u] := b_of h1 (b_of (ces3 h2 h3 h4) rfl)
theorem ev_call1 {x : V} (h1 : ceval Φ a ρ = some x) (ho : x.own = false) : ceval Φ (.call f [a]) ρ = Φ f [x] := b_of (ces1 h1) (if_pos (by rw [List.all_cons, ho]; rfl))
theorem ev_call2 (h1 : ceval Φ a ρ = some (.d x)) (h2 : ceval Φ b ρ = some (.d y)) : ceval Φ (.call f [a, b]) ρ = Φ f [.d x, .d y] := b_of (ces2 h1 h2) rfl
theorem ev_call3 {c : CE} {z : PyData} (h1 : ceval Φ a ρ = some (.d x)) (h2 : ceval Φ b ρ = some (.d y)) (h3 : ceval Φ c ρ = some (.d z)) : ceval Φ (.call f [a, b, c]) ρ = Φ f [.d x, .d y, .d z] := b_of (ces3 h1 h2 h3) rfl
theorem ev_call4 {c d : CE} {z u : PyData} (h1 : ceval Φ a ρ = some (.d x)) (h2 : ceval Φ b ρ = some (.d y)) (h3 : ceval Φ c ρ = some (.d z)) (h4 : ceval Φ d ρ = some (.d u)) : ceval Φ (.call f [a, b, c, d]) ρ = Φ f [.d x, .d y, .d z, .d u] := b_of (ces4 h1 h2 h3 h4) rfl
theorem evD_nil : cevalsD Φ [] ρ = some [] := rfl
theorem evD_cons {r : List CE} {xs : List PyData} (h1 : ceval Φ a ρ = some (.d x)) (h2 : cevalsD Φ r ρ = some xs) : cevalsD Φ (a :: r) ρ = some (x :: xs) := b_of h1 (b_of rfl (by rw [h2]; rfl))
theorem ev_list {es : List CE} {xs : List PyData} (h : cevalsD Φ es ρ = some xs) (hl : xs.length ≤ 1048576) : ceval Φ (.list es) ρ = some (.d (.list xs)) := b_of h (if_pos (szOk_of hl))
theorem ev_tup {es : List CE} {xs : List PyData} (h : cevalsD Φ es ρ = some xs) (hl : xs.length ≤ 1048576) : ceval Φ (.tup es) ρ = some (.d (.tuple xs)) := b_of h (if_pos (szOk_of hl))
theorem ev_list0 : ceval Φ (.list []) ρ = some (.d (.list [])) := ev_list evD_nil (by decide)
theorem cp_some {i : CE} {m : Int} (h : ceval Φ i ρ = some (.d (.int m))) : cpart Φ (some i) ρ = some (some m) := b_of h (b_of rfl rfl)
theorem cp_none : cpart Φ none ρ = some none := rfl
/-! statements -/
variable {k : Bool} {sa sb : List CS}
theorem cx_ite (h : ceval Φ t ρ = some (.d (.bool k))) : cex Φ fu (.ite t sa sb) ρ = if k then cexs Φ fu sa ρ else cexs Φ fu sb ρ := b_of h (b_of rfl rfl)
theorem cexs_asg {i : Nat} {e : CE} (h : ceval Φ e ρ = some v) (ho : v.own = false) : cexs Φ fu (.asg i e :: r) ρ = cexs Φ fu r (ρ.set i (.sh v)) := cexs_nx (ev_asg h ho)
theorem go_asg {i : Nat} {e : CE} (h : ceval Φ e ρ = some v) (ho : v.own = false) (k : cexs Φ fu r (ρ.set i (.sh v)) = R) : cexs Φ fu (.asg i e :: r) ρ = R := (cexs_asg h ho).trans k
theorem go_ret {e : CE} (h : ceval Φ e ρ = some v) (ho : v.own = false) : cexs Φ fu (.ret e :: r) ρ = some (ρ, .rt v) := cexs_rt (ev_ret h ho)
theorem cx_own {i : Nat} {e : CE} {xs : List PyData} (h : ceval Φ e ρ = some (.d (.list xs))) : cex Φ fu (.own i e) ρ = some (ρ.set i (.ow xs), .nx) := b_of h (b_of rfl rfl)
theorem cx_assert (h : ceval Φ t ρ = some (.d (.bool true))) : cex Φ fu (.assert t) ρ = some (ρ, .nx) := b_of h (b_of rfl rfl)
theorem cx_frz {i : Nat} {xs : List PyData} (h : ρ[i]? = some (.ow xs)) : cex Φ fu (.frz i) ρ = some (ρ.set i (.sh (.d (.list xs))), .nx) := by
  show (match ow? ρ i with | some xs => some (ρ.set i (Mine.Slot.sh (.d (.list xs))), Fl.nx) | none => some (ρ, Fl.nx)) = _
  rw [ow_of h]
theorem cx_app {i : Nat} {e : CE} {xs : List PyData} (h : ceval Φ e ρ = some (.d x)) (hi : ρ[i]? = some (.ow xs)) (hl : xs.length ≤ 1048576) : cex Φ fu (.app i e) ρ = some (ρ.set i (.ow (xs ++ [x])), .nx) := b_of h (b_of rfl (b_of (ow_of hi) (if_pos (szOk_of hl))))
theorem cx_del {i : Nat} {l : Bool} {xs : List PyData} (hi : ρ[i]? = some (.ow xs)) (h0 : xs.isEmpty = false) (hl : xs.length ≤ 1048576) : cex Φ fu (.delAt i l) ρ = some (ρ.set i (.ow (if l then xs.dropLast else xs.tail)), .nx) := b_of (ow_of hi) (if_pos (by rw [h0, szOk_of hl]; rfl))
theorem cx_rev {i : Nat} {xs : List PyData} (hi : ρ[i]? = some (.ow xs)) (hl : xs.length ≤ 1048576) : cex Φ fu (.rev i) ρ = some (ρ.set i (.ow xs.reverse), .nx) := b_of (ow_of hi) (if_pos (szOk_of hl))
theorem cx_aug {i : Nat} {n : Bool} {e : CE} {p q : Int} (h : ceval Φ e ρ = some (.d (.int q))) (hi : ρ[i]? = some (.sh (.d (.int p)))) : cex Φ fu (.aug n i e) ρ = some (ρ.set i (.sh (.d (.int (if n then p - q else p + q)))), .nx) := b_of h (b_of rfl (b_of (b_of hi rfl) (b_of rfl rfl)))
theorem cx_asgS {is : List Nat} {e : CE} {xs : List PyData} (h : ceval Φ e ρ = some (.d (.tuple xs))) (hl : xs.length = is.length) : cex Φ fu (.asgS is e) ρ = (putAll is xs.reverse ρ).map fun ρ' => (ρ', .nx) := b_of h (b_of rfl (b_of (if_pos hl) (b_map _ _)))
theorem cx_asgT {is : List Nat} {e : CE} {xs : List PyData} (h : ceval Φ e ρ = some (.d (.tuple xs))) (hl : xs.length = is.length) : cex Φ fu (.asgT is e) ρ = (putAll is xs ρ).map fun ρ' => (ρ', .nx) := b_of h (b_of rfl ((congrArg (fun o => Option.bind o _) (b_of (if_pos hl) rfl)).trans (b_map _ _)))
end
theorem vt_str {l : List Nat} (h : l.length ≤ 1048576) : vtruth (.d (.str (S l))) = some (!l.isEmpty) := by
  show (if szOk l.length then some (l.length != 0) else none) = _
  rw [szOk_of h, if_pos rfl]; cases l <;> rfl
theorem vt_bool {b : Bool} : vtruth (.d (.bool b)) = some b := rfl
/-! arithmetic -/
theorem ev_add (a b : Int) : vbin .Add (.d (.int a)) (.d (.int b)) = some (.d (.int (a + b))) := rfl
theorem ev_sub (a b : Int) : vbin .Sub (.d (.int a)) (.d (.int b)) = some (.d (.int (a - b))) := rfl
theorem ibin_mul {a b : Int} (h1 : fit a = true) (h2 : fit b = true) : ibin .Mult a b = some (a * b) := by rw [ib_mul, h1, h2]; rfl
theorem ibin_mod {a b : Int} (h1 : b ≠ 0) (h2 : fit b = true) : ibin .Mod a b = some (a.fmod b) := by rw [ib_mod, h2, bne_iff_ne.mpr h1]; rfl
theorem ibin_fdiv {a b : Int} (h1 : b ≠ 0) (h2 : fit b = true) : ibin .FloorDiv a b = some (a.fdiv b) := by rw [ib_div, h2, bne_iff_ne.mpr h1]; rfl
theorem ibin_pow {a : Int} {n : Nat} (h1 : fit a = true) (h2 : n ≤ 1000) : ibin .Pow a (n : Int) = some (a ^ n) := by
  rw [ib_pow, h1, decide_eq_true (Int.natCast_nonneg n), decide_eq_true (show (n : Int) ≤ 1000 by lia), Int.toNat_natCast]; rfl
theorem ev_mul {a b : Int} (h1 : fit a = true) (h2 : fit b = true) : vbin .Mult (.d (.int a)) (.d (.int b)) = some (.d (.int (a * b))) := vbin_int (ibin_mul h1 h2)
theorem ev_mod {a b : Int} (h1 : b ≠ 0) (h2 : fit b = true) : vbin .Mod (.d (.int a)) (.d (.int b)) = some (.d (.int (a.fmod b))) := vbin_int (ibin_mod h1 h2)
theorem ev_fdiv {a b : Int} (h1 : b ≠ 0) (h2 : fit b = true) : vbin .FloorDiv (.d (.int a)) (.d (.int b)) = some (.d (.int (a.fdiv b))) := vbin_int (ibin_fdiv h1 h2)
theorem ev_pow {a : Int} {n : Nat} (h1 : fit a = true) (h2 : n ≤ 1000) : vbin .Pow (.d (.int a)) (.d (.int n)) = some (.d (.int (a ^ n))) := vbin_int (ibin_pow h1 h2)
theorem ev_cat {Φ : Fns} {ρ : Ev} {a b : CE} {x y : List Nat} (h1 : ceval Φ a ρ = some (.d (.str (S x)))) (h2 : ceval Φ b ρ = some (.d (.str (S y)))) (hl : x.length + y.length ≤ 1048576) : ceval Φ (.bin .Add a b) ρ = some (.d (.str (S (x ++ y)))) := by
  rw [ev_bin h1 h2, ← S_app]
  show (if szOk ((S x).length + (S y).length) = true then some (V.d (.str (S x ++ S y))) else none) = _
  rw [S_len, S_len, szOk_of hl]; rfl
theorem ev_catL {Φ : Fns} {ρ : Ev} {a b : CE} {x y : List PyData} (h1 : ceval Φ a ρ = some (.d (.list x))) (h2 : ceval Φ b ρ = some (.d (.list y))) (hl : x.length + y.length ≤ 1048576) : ceval Φ (.bin .Add a b) ρ = some (.d (.list (x ++ y))) := by
  rw [ev_bin h1 h2]
  show (if szOk (x.length + y.length) = true then some (V.d (.list (x ++ y))) else none) = _
  rw [szOk_of hl]; rfl
end Mine
end
section
open PySem PySem.W PyProof.Rows
set_option maxRecDepth 4000
namespace Mine
/-- the words of the text in turn -/
noncomputable def findAll : List (List Nat) → List Nat → Bool
  | [], _ => true
  | w :: r, l => match idx w l with
    | some i => findAll r (l.drop (i + w.length))
    | none => false
theorem idx_nil (l : List Nat) : idx [] l = some 0 := by cases l <;> rfl
theorem findAll_none {p : List Nat} {r : List (List Nat)} {l : List Nat} (q : idx p l = none) : findAll (p :: r) l = false := by rw [findAll, q]
theorem findAll_some {p : List Nat} {r : List (List Nat)} {l : List Nat} {i : Nat} (q : idx p l = some i) : findAll (p :: r) l = findAll r (l.drop (i + p.length)) := by rw [findAll, q]
theorem findAll_front (r : List (List Nat)) (l : List Nat) : findAll ([] :: r) l = findAll r l := findAll_some (idx_nil l)
theorem findAll_back : ∀ (r : List (List Nat)) (l : List Nat), findAll (r ++ [[]]) l = findAll r l
  | [], l => findAll_front [] l
  | w :: r, l => by
    rw [List.cons_append]
    cases h : idx w l with
    | none => rw [findAll_none h, findAll_none h]
    | some i => rw [findAll_some h, findAll_some h]; exact findAll_back r _
theorem idx_le {w l : List Nat} {i : Nat} (h : idx w l = some i) : i + w.length ≤ l.length := by
  have h1 := (idx_some h).1.length_le
  have h2 := (idx_some h).2.2
  rw [List.length_drop] at h1; omega

noncomputable def sv (l : List Nat) : Slot := .sh (.d (.str (S l)))
noncomputable def iv (i : Int) : Slot := .sh (.d (.int i))
noncomputable def ellB : List CS := [(.asg 3 (.meth .find (.var 1) [(.var 5), (.var 3), (.var 4)])), (.ite (.cmp .Lt (.var 3) (.lit (.int (0)))) [(.ret (.lit (.bool false)))] []), (.aug false 3 (.prim .len [(.var 5)]))]
section
variable {Φ : Fns} {fu : Nat} {w g p : List Nat} {sl : Slot} {a b : Nat}
theorem ell_turn0 (hg : g.length ≤ 1048576) (hb : b ≤ g.length) (h : a ≤ b) (q : idx p ((g.take b).drop a) = none) :
    cexs Φ fu ellB [sv w, sv g, sl, iv a, iv b, sv p] = some ([sv w, sv g, sl, iv (-1), iv b, sv p], .rt (.d (.bool false))) := by
  unfold ellB
  refine go_asg (v := .d (.int (-1))) ((ev_meth3 (rv0 rfl) (rv0 rfl) (rv0 rfl) (rv0 rfl)).trans ((find_S h hb hg).trans (by rw [q]; rfl))) rfl ?_
  exact cexs_rt ((cx_if1 (ev_cmp (rv0 rfl) ev_c rfl) vt_bool).trans (go_ret ev_c rfl))
theorem ell_turn1 {i : Nat} (hg : g.length ≤ 1048576) (hb : b ≤ g.length) (h : a ≤ b) (q : idx p ((g.take b).drop a) = some i) (hp : p.length ≤ 1048576) :
    cexs Φ fu ellB [sv w, sv g, sl, iv a, iv b, sv p] = some ([sv w, sv g, sl, iv ((a + (i + p.length) : Nat) : Int), iv b, sv p], .nx) := by
  unfold ellB
  refine go_asg (v := .d (.int ((a + i : Nat) : Int))) ((ev_meth3 (rv0 rfl) (rv0 rfl) (rv0 rfl) (rv0 rfl)).trans ((find_S h hb hg).trans (by rw [q]; rfl))) rfl ?_
  refine go_nx (cx_no (ev_cmp (rv0 rfl) ev_c rfl) (congrArg some (decide_eq_false (Int.not_lt.mpr (Int.natCast_nonneg _))))) ?_
  refine go_nx ((cx_aug (p := ((a + i : Nat) : Int)) (q := (p.length : Nat)) (ev_lenv (rv0 rfl) rfl hp) rfl)) ?_
  have e : ((a + i : Nat) : Int) + (p.length : Nat) = ((a + (i + p.length) : Nat) : Int) := by rw [← Nat.add_assoc]; exact (Int.natCast_add _ _).symm
  rw [← e, cexs_no]; rfl
theorem ell_loop (hg : g.length ≤ 1048576) (hb : b ≤ g.length) : ∀ (ws : List (List Nat)) (a : Nat) (u : Slot), a ≤ b →
    ∃ ρ', loopF (takeOne 5) (fun ρ => cexs Φ fu ellB ρ) (ws.map fun p => .str (S p)) [sv w, sv g, sl, iv a, iv b, u] = some (ρ', if findAll ws ((g.take b).drop a) then .nx else .rt (.d (.bool false)))
  | [], a, u, h => ⟨_, rfl⟩
  | p :: r, a, u, h => by
    have e0 : loopF (takeOne 5) (fun ρ => cexs Φ fu ellB ρ) ((p :: r).map fun p => .str (S p)) [sv w, sv g, sl, iv a, iv b, u] = (cexs Φ fu ellB [sv w, sv g, sl, iv a, iv b, sv p]).bind fun q => match q.2 with
      | .nx => loopF (takeOne 5) (fun ρ => cexs Φ fu ellB ρ) (r.map fun p => .str (S p)) q.1
      | .ct => loopF (takeOne 5) (fun ρ => cexs Φ fu ellB ρ) (r.map fun p => .str (S p)) q.1
      | .bk => some (q.1, .nx)
      | .rt v => some (q.1, .rt v) := rfl
    rw [e0]
    clear e0
    cases q : idx p ((g.take b).drop a) with
    | none => rw [ell_turn0 hg hb h q, findAll_none q]; exact ⟨_, rfl⟩
    | some i =>
      have hi := idx_le q
      rw [List.length_drop, List.length_take, Nat.min_eq_left hb] at hi
      have h2 : a + (i + p.length) ≤ b := by clear hg hb q; lia
      have h3 : p.length ≤ 1048576 := by clear h q; lia
      obtain ⟨ρ', h'⟩ := ell_loop hg hb r (a + (i + p.length)) (sv p) h2
      refine ⟨ρ', ?_⟩
      rw [ell_turn1 hg hb h q h3, findAll_some q, List.drop_drop]
      exact h'
end

/-- what _ellipsis_match answers of a want of at least two pieces: the first, those within, the last -/
noncomputable def ellG (p0 : List Nat) (mid : List (List Nat)) (pl : List Nat) (g : List Nat) : Bool :=
  p0.isPrefixOf g && pl.isSuffixOf g && decide (p0.length + pl.length ≤ g.length) && findAll mid ((g.take (g.length - pl.length)).drop p0.length)
theorem ellG_no1 {p0 pl g : List Nat} {mid : List (List Nat)} (h : ¬ p0.isPrefixOf g = true) : ellG p0 mid pl g = false := by unfold ellG; rw [Bool.eq_false_iff.mpr h]; rfl
theorem ellG_no2 {p0 pl g : List Nat} {mid : List (List Nat)} (h : ¬ pl.isSuffixOf g = true) : ellG p0 mid pl g = false := by unfold ellG; rw [Bool.eq_false_iff.mpr h, Bool.and_false]; rfl
theorem ellG_no3 {p0 pl g : List Nat} {mid : List (List Nat)} (h : ¬ p0.length + pl.length ≤ g.length) : ellG p0 mid pl g = false := by unfold ellG; rw [decide_eq_false h, Bool.and_false]; rfl

theorem sepJ_ge {sep : List Nat} : ∀ {ps : List (List Nat)}, (∀ p ∈ ps, p.length ≤ (sepJ sep ps).length) ∧ sep.length * (ps.length - 1) ≤ (sepJ sep ps).length
  | [] => ⟨fun _ h => (nomatch h), Nat.zero_le _⟩
  | [x] => ⟨fun p h => by rw [List.mem_singleton.mp h]; exact Nat.le_refl _, Nat.zero_le _⟩
  | x :: y :: r => by
    obtain ⟨h1, h2⟩ := sepJ_ge (sep := sep) (ps := y :: r)
    have e : (sepJ sep (x :: y :: r)).length = x.length + sep.length + (sepJ sep (y :: r)).length := by
      show (x ++ sep ++ sepJ sep (y :: r)).length = _
      rw [List.length_append, List.length_append]
    rw [e]
    refine ⟨fun p hp => ?_, ?_⟩
    · rcases List.mem_cons.mp hp with rfl | hp
      · rw [Nat.add_assoc]; exact Nat.le_add_right _ _
      · exact Nat.le_trans (h1 p hp) (Nat.le_add_left _ _)
    · have e2 : (x :: y :: r).length - 1 = ((y :: r).length - 1) + 1 := rfl
      rw [e2, Nat.mul_succ]
      lia
theorem startswith_m (l w : List Nat) : vmeth .startswith (.d (.str (S l))) [.d (.str (S w))] = some (.d (.bool (w.isPrefixOf l))) := by
  show some (V.d (.bool (Txt.startswith (S l) (S w)))) = _; rw [startswith_S]
theorem endswith_m (l w : List Nat) : vmeth .endswith (.d (.str (S l))) [.d (.str (S w))] = some (.d (.bool (w.isSuffixOf l))) := by
  show some (V.d (.bool (Txt.endswith (S l) (S w)))) = _; rw [endswith_S]
theorem split_m {ps : List (List Nat)} (h2 : 2 ≤ ps.length) (hp : ∀ p ∈ ps, 46 ∉ p) (hw : (sepJ dots ps).length ≤ 1048576) : vmeth .split (.d (.str (S (sepJ dots ps)))) [.d (.str (S dots))] = some (.d (.list (ps.map fun p => .str (S p)))) := by
  show (if (szOk (S (sepJ dots ps)).length && (S dots).length != 0) = true then some (V.d (.list ((Txt.split (S (sepJ dots ps)) (S dots)).map .str))) else none) = _
  rw [split_S h2 hp, S_len, szOk_of hw, List.map_map]; rfl
noncomputable def pw0 : CS := .ite (.var 5) [(.ite (.meth .startswith (.var 1) [(.var 5)]) [(.asg 3 (.prim .len [(.var 5)])), (.delAt 2 false)] [(.ret (.lit (.bool false)))])] []
noncomputable def pwl : CS := .ite (.var 5) [(.ite (.meth .endswith (.var 1) [(.var 5)]) [(.aug true 4 (.prim .len [(.var 5)])), (.delAt 2 true)] [(.ret (.lit (.bool false)))])] []
section
variable {Φ : Fns} {fu : Nat} {w g p : List Nat} {L : List PyData} {n m : Int}
theorem pw0_no (hp : p.length ≤ 1048576) (q : ¬ p.isPrefixOf g = true) : cex Φ fu pw0 [sv w, sv g, .ow L, iv n, iv m, sv p] = some ([sv w, sv g, .ow L, iv n, iv m, sv p], .rt (.d (.bool false))) := by
  have q0 : p.isEmpty = false := by cases p with | nil => exact absurd rfl q | cons => rfl
  refine (cx_if1 (rv0 rfl) ((vt_str hp).trans (by rw [q0]; rfl))).trans (cexs_rt ?_)
  exact (cx_if0 ((ev_meth1 (rv0 rfl) (rv0 rfl)).trans (startswith_m g p)) (congrArg some (Bool.eq_false_iff.mpr q))).trans (go_ret ev_c rfl)
theorem pw0_nil : cex Φ fu pw0 [sv w, sv g, .ow L, iv n, iv m, sv []] = some ([sv w, sv g, .ow L, iv n, iv m, sv []], .nx) := cx_no (rv0 rfl) (vt_str (by decide))
theorem pw0_yes (hp : p.length ≤ 1048576) (q : p.isPrefixOf g = true) (q0 : p.isEmpty = false) (hL : L.length ≤ 1048576) (h0 : L.isEmpty = false) : cex Φ fu pw0 [sv w, sv g, .ow L, iv n, iv m, sv p] = some ([sv w, sv g, .ow L.tail, iv (p.length : Nat), iv m, sv p], .nx) := by
  refine (cx_if1 (rv0 rfl) ((vt_str hp).trans (by rw [q0]; rfl))).trans (go_nx (ρ' := [sv w, sv g, .ow L.tail, iv (p.length : Nat), iv m, sv p]) ?_ rfl)
  refine (cx_if1 ((ev_meth1 (rv0 rfl) (rv0 rfl)).trans (startswith_m g p)) (congrArg some q)).trans ?_
  refine go_asg (ev_lenv (rv0 rfl) rfl hp) rfl (go_nx (cx_del rfl h0 hL) rfl)
theorem pwl_no (hp : p.length ≤ 1048576) (q : ¬ p.isSuffixOf g = true) : cex Φ fu pwl [sv w, sv g, .ow L, iv n, iv m, sv p] = some ([sv w, sv g, .ow L, iv n, iv m, sv p], .rt (.d (.bool false))) := by
  have q0 : p.isEmpty = false := by
    cases p with
    | nil => exact absurd (List.isSuffixOf_iff_suffix.mpr List.nil_suffix) q
    | cons => rfl
  refine (cx_if1 (rv0 rfl) ((vt_str hp).trans (by rw [q0]; rfl))).trans (cexs_rt ?_)
  exact (cx_if0 ((ev_meth1 (rv0 rfl) (rv0 rfl)).trans (endswith_m g p)) (congrArg some (Bool.eq_false_iff.mpr q))).trans (go_ret ev_c rfl)
theorem pwl_nil : cex Φ fu pwl [sv w, sv g, .ow L, iv n, iv m, sv []] = some ([sv w, sv g, .ow L, iv n, iv m, sv []], .nx) := cx_no (rv0 rfl) (vt_str (by decide))
theorem pwl_yes (hp : p.length ≤ 1048576) (q : p.isSuffixOf g = true) (q0 : p.isEmpty = false) (hL : L.length ≤ 1048576) (h0 : L.isEmpty = false) : cex Φ fu pwl [sv w, sv g, .ow L, iv n, iv m, sv p] = some ([sv w, sv g, .ow L.dropLast, iv n, iv (m - (p.length : Nat)), sv p], .nx) := by
  refine (cx_if1 (rv0 rfl) ((vt_str hp).trans (by rw [q0]; rfl))).trans (go_nx (ρ' := [sv w, sv g, .ow L.dropLast, iv n, iv (m - (p.length : Nat)), sv p]) ?_ rfl)
  refine (cx_if1 ((ev_meth1 (rv0 rfl) (rv0 rfl)).trans (endswith_m g p)) (congrArg some q)).trans ?_
  exact go_nx (cx_aug (p := m) (ev_lenv (rv0 rfl) rfl hp) rfl) (go_nx (cx_del rfl h0 hL) rfl)
/-- after both ends are taken -/
theorem ell_tail {ws : List (List Nat)} {p0 pl : Nat} {u : Slot} (hg : g.length ≤ 1048576) (hw : ws.length ≤ 1048576) :
    ∃ ρ', cexs Φ fu [(.ite (.cmp .Gt (.var 3) (.var 4)) [(.ret (.lit (.bool false)))] []), (.frz 2), (.for1 5 (.var 2) ellB), (.ret (.lit (.bool true)))] [sv w, sv g, .ow (ws.map fun p => .str (S p)), iv (p0 : Int), iv ((g.length : Int) - (pl : Int)), u] =
      some (ρ', .rt (.d (.bool (decide (p0 + pl ≤ g.length) && findAll ws ((g.take (g.length - pl)).drop p0))))) := by
  by_cases q3 : p0 + pl ≤ g.length
  case neg =>
    refine ⟨[sv w, sv g, .ow (ws.map fun p => .str (S p)), iv (p0 : Int), iv ((g.length : Int) - (pl : Int)), u], (cexs_rt ((cx_if1 (ev_cmp (rv0 rfl) (rv0 rfl) rfl) (congrArg some (decide_eq_true ?_))).trans (go_ret ev_c rfl))).trans ?_⟩
    · show (g.length : Int) - (pl : Int) < (p0 : Int); lia
    · rw [decide_eq_false q3]; rfl
  have q4 : ¬ (g.length : Int) - (pl : Int) < (p0 : Int) := by lia
  have eb : (g.length : Int) - (pl : Int) = ((g.length - pl : Nat) : Int) := by lia
  have q5 : p0 ≤ g.length - pl := by lia
  rw [decide_eq_true q3, Bool.true_and]
  obtain ⟨ρ', h'⟩ := ell_loop (Φ := Φ) (fu := fu) (w := w) (g := g) (sl := .sh (.d (.list (ws.map fun p => .str (S p))))) (b := g.length - pl) hg (Nat.sub_le _ _) ws p0 u q5
  have hcx : cex Φ fu (.for1 5 (.var 2) ellB) [sv w, sv g, .sh (.d (.list (ws.map fun p => .str (S p)))), iv (p0 : Int), iv ((g.length - pl : Nat) : Int), u] = some (ρ', if findAll ws ((g.take (g.length - pl)).drop p0) then .nx else .rt (.d (.bool false))) := by
    exact b_of (vitems_l (by rw [List.length_map]; exact hw)) h'
  have h1 : cex Φ fu (.ite (.cmp .Gt (.var 3) (.var 4)) [(.ret (.lit (.bool false)))] []) [sv w, sv g, .ow (ws.map fun p => .str (S p)), iv (p0 : Int), iv ((g.length - pl : Nat) : Int), u] = _ := cx_no (ev_cmp (rv0 rfl) (rv0 rfl) rfl) (congrArg some (decide_eq_false (by rw [← eb]; exact q4)))
  refine ⟨ρ', ?_⟩
  rw [eb]
  refine go_nx h1 (go_nx (cx_frz rfl) ?_)
  cases q6 : findAll ws ((g.take (g.length - pl)).drop p0) with
  | true => rw [q6] at hcx; exact go_nx hcx (go_ret ev_c rfl)
  | false => rw [q6] at hcx; exact cexs_rt hcx
end
theorem getLast_conc {x : PyData} {xs : List PyData} : (xs ++ [x]).getLast? = some x := List.getLast?_concat
theorem ell_run (Φ : Fns) (fu : Nat) (p0 pl : List Nat) (mid : List (List Nat)) (g : List Nat) (hg : g.length ≤ 1048576) (hw : (sepJ dots (p0 :: (mid ++ [pl]))).length ≤ 1000000) (hp : ∀ p ∈ p0 :: (mid ++ [pl]), 46 ∉ p) :
    runF Φ fu ⟨2, 6, ellC⟩ [.d (.str (S (sepJ dots (p0 :: (mid ++ [pl]))))), .d (.str (S g))] = some (.d (.bool (ellG p0 mid pl g))) := by
  obtain ⟨g1, g2⟩ := sepJ_ge (sep := dots) (ps := p0 :: (mid ++ [pl]))
  have h0 : p0.length ≤ 1048576 := Nat.le_trans (g1 p0 List.mem_cons_self) (Nat.le_trans hw (by decide))
  have hl : pl.length ≤ 1048576 := Nat.le_trans (g1 pl (List.mem_cons_of_mem _ (List.mem_append_right _ List.mem_cons_self))) (Nat.le_trans hw (by decide))
  have hk : mid.length ≤ 1000000 := by
    have e : (p0 :: (mid ++ [pl])).length - 1 = mid.length + 1 := List.length_append
    rw [e] at g2
    have : dots.length = 3 := rfl
    rw [this] at g2
    clear g1 hp hg h0 hl
    lia
  have hi : (idx dots (sepJ dots (p0 :: (mid ++ [pl])))).isSome = true := by
    rw [sepJ_cons (by simp), idx_sep (hp p0 List.mem_cons_self)]; rfl
  have hsp := split_m (ps := p0 :: (mid ++ [pl])) (by rw [List.length_cons, List.length_append]; exact Nat.le_add_left 2 _) hp (Nat.le_trans hw (by decide))
  clear g1 g2 hp hw
  generalize sepJ dots (p0 :: (mid ++ [pl])) = W at *
  have hc2 : ((p0 :: (mid ++ [pl])).map fun p => PyData.str (S p)) = PyData.str (S p0) :: ((mid ++ [pl]).map fun p => PyData.str (S p)) := rfl
  have hcl : ((mid ++ [pl]).map fun p => PyData.str (S p)) = (mid.map fun p => PyData.str (S p)) ++ [.str (S pl)] := List.map_append
  have hlen : (PyData.str (S p0) :: ((mid ++ [pl]).map fun p => PyData.str (S p))).length = mid.length + 2 := by rw [hcl, List.length_cons, List.length_append, List.length_map]; rfl
  rw [hc2] at hsp
  refine runF_ex rfl ?_
  show ∃ ρ', cexs Φ fu ellC [sv W, sv g, .un, .un, .un, .un] = _
  have pre : ∀ R, cexs Φ fu [pw0, (.asg 5 (.item (.var 2) (.un .USub (.lit (.int (1)))))), pwl, (.ite (.cmp .Gt (.var 3) (.var 4)) [(.ret (.lit (.bool false)))] []), (.frz 2), (.for1 5 (.var 2) ellB), (.ret (.lit (.bool true)))]
      [sv W, sv g, .ow (PyData.str (S p0) :: ((mid ++ [pl]).map fun p => PyData.str (S p))), iv 0, iv (g.length : Nat), sv p0] = R → cexs Φ fu ellC [sv W, sv g, .un, .un, .un, .un] = R := fun R h => by
    unfold ellC
    refine go_nx (cx_no (ev_cmp ev_c (rv0 rfl) d_notin) (by rw [hi]; rfl)) ?_
    refine go_nx (cx_own ((ev_meth1 (rv0 rfl) ev_c).trans hsp)) ?_
    refine go_nx (cx_assert ((ev_cmp (ev_lenv (rvo rfl) rfl (by rw [hlen]; lia)) ev_c rfl).trans (congrArg (fun b => some (V.d (.bool b))) (decide_eq_true (by rw [hlen]; show (2 : Int) ≤ _; lia))))) ?_
    refine go_nx ((cx_asgS (xs := [.int 0, .int (g.length : Nat)]) (ev_tup (evD_cons ev_c (evD_cons (ev_lenv (rv0 rfl) rfl hg) evD_nil)) (Nat.le_of_ble_eq_true rfl)) rfl)) ?_
    exact go_asg (ev_itemo (rvo rfl) ev_c getIx_zero) rfl h
  -- what is left when the first piece is taken
  have mid1 : ∀ (L : List PyData) (ws : List (List Nat)), L = (ws ++ [pl]).map (fun p => PyData.str (S p)) → ws.length ≤ 1000001 → (∀ seg, findAll ws seg = findAll mid seg) → p0.isPrefixOf g = true →
      ∃ ρ', cexs Φ fu [(.asg 5 (.item (.var 2) (.un .USub (.lit (.int (1)))))), pwl, (.ite (.cmp .Gt (.var 3) (.var 4)) [(.ret (.lit (.bool false)))] []), (.frz 2), (.for1 5 (.var 2) ellB), (.ret (.lit (.bool true)))]
        [sv W, sv g, .ow L, iv (p0.length : Nat), iv (g.length : Nat), sv p0] = some (ρ', .rt (.d (.bool (ellG p0 mid pl g)))) := fun L ws hL hws hf q1 => by
    rw [List.map_append] at hL
    have hLn : L.length = ws.length + 1 := by rw [hL, List.length_append, List.length_map]; rfl
    have hLe : L.isEmpty = false := by rw [hL]; cases ws <;> rfl
    have hLl : L.getLast? = some (.str (S pl)) := by rw [hL]; exact getLast_conc
    have hLs : L.length ≤ 1048576 := by rw [hLn]; lia
    have step : ∀ R, cexs Φ fu [pwl, (.ite (.cmp .Gt (.var 3) (.var 4)) [(.ret (.lit (.bool false)))] []), (.frz 2), (.for1 5 (.var 2) ellB), (.ret (.lit (.bool true)))] [sv W, sv g, .ow L, iv (p0.length : Nat), iv (g.length : Nat), sv pl] = R →
        cexs Φ fu [(.asg 5 (.item (.var 2) (.un .USub (.lit (.int (1)))))), pwl, (.ite (.cmp .Gt (.var 3) (.var 4)) [(.ret (.lit (.bool false)))] []), (.frz 2), (.for1 5 (.var 2) ellB), (.ret (.lit (.bool true)))] [sv W, sv g, .ow L, iv (p0.length : Nat), iv (g.length : Nat), sv p0] = R :=
      fun R h => go_asg (ev_itemo (rvo rfl) (ev_neg ev_c) ((getIx_last hLs (by rw [hLn]; exact Nat.succ_pos _)).trans hLl)) rfl h
    by_cases q2 : pl.isSuffixOf g = true
    case neg => exact ⟨_, step _ (by rw [ellG_no2 q2]; exact cexs_rt (pwl_no hl q2))⟩
    have fin : ∀ (ws' : List (List Nat)), (∀ seg, findAll ws' seg = findAll mid seg) → ws'.length ≤ 1048576 → ∃ ρ', cexs Φ fu [(.ite (.cmp .Gt (.var 3) (.var 4)) [(.ret (.lit (.bool false)))] []), (.frz 2), (.for1 5 (.var 2) ellB), (.ret (.lit (.bool true)))]
        [sv W, sv g, .ow (ws'.map fun p => .str (S p)), iv (p0.length : Nat), iv ((g.length : Nat) - (pl.length : Nat)), sv pl] = some (ρ', .rt (.d (.bool (ellG p0 mid pl g)))) := fun ws' hf' hn => by
      obtain ⟨ρ', h⟩ := ell_tail (Φ := Φ) (fu := fu) (w := W) (p0 := p0.length) (pl := pl.length) (u := sv pl) hg hn
      refine ⟨ρ', h.trans ?_⟩
      unfold ellG
      rw [q1, q2, hf']; rfl
    cases q0 : pl.isEmpty with
    | true =>
      have e := List.isEmpty_iff.mp q0
      obtain ⟨ρ', h⟩ := fin (ws ++ [[]]) (fun seg => (findAll_back _ _).trans (hf seg)) (by rw [List.length_append]; show ws.length + 1 ≤ _; lia)
      subst e
      rw [List.map_append] at h
      refine ⟨ρ', step _ (go_nx pwl_nil ?_)⟩
      rw [hL]
      exact h
    | false =>
      obtain ⟨ρ', h⟩ := fin ws hf (by lia)
      refine ⟨ρ', step _ (go_nx (pwl_yes hl q2 q0 hLs hLe) ?_)⟩
      have hL2 : L.dropLast = ws.map fun p => .str (S p) := by rw [hL]; exact List.dropLast_concat
      rw [hL2]
      exact h
  by_cases q1 : p0.isPrefixOf g = true
  case neg => exact ⟨_, pre _ (by rw [ellG_no1 q1]; exact cexs_rt (pw0_no h0 q1))⟩
  cases q0 : p0.isEmpty with
  | true =>
    have e := List.isEmpty_iff.mp q0
    obtain ⟨ρ', h⟩ := mid1 _ ([] :: mid) rfl (by rw [List.length_cons]; lia) (fun seg => findAll_front _ _) q1
    subst e
    exact ⟨ρ', pre _ (go_nx pw0_nil h)⟩
  | false =>
    obtain ⟨ρ', h⟩ := mid1 _ mid rfl (by lia) (fun _ => rfl) q1
    exact ⟨ρ', pre _ (go_nx (pw0_yes h0 q1 q0 (by rw [hlen]; lia) rfl) h)⟩
theorem ell_plain (Φ : Fns) (fu : Nat) (w g : List Nat) (hi : idx dots w = none) (hw : w.all (· < 0x110000) = true) (hg : g.all (· < 0x110000) = true) :
    runF Φ fu ⟨2, 6, ellC⟩ [.d (.str (S w)), .d (.str (S g))] = some (.d (.bool (w == g))) := by
  refine runF_ex rfl ⟨[sv w, sv g, .un, .un, .un, .un], ?_⟩
  show cexs Φ fu ellC [sv w, sv g, .un, .un, .un, .un] = _
  unfold ellC
  refine cexs_rt ((cx_if1 (ev_cmp ev_c (rv0 rfl) d_notin) (by rw [hi]; rfl)).trans ?_)
  exact go_ret ((ev_eq (rv0 rfl) (rv0 rfl) (shp_str hw) (shp_str hg)).trans (by rw [eqv_S])) rfl
end Mine
end
section
open PySem PySem.W PyProof.Rows
open PySem.StrLaws Builtin Builtin.Str
set_option maxRecDepth 4000
namespace Mine

/-- a sign that stands whole: one that is no backslash, or a backslash and what follows it -/
noncomputable def fullU (u : List Nat) : Prop := (∃ c, c ≠ 92 ∧ u = [c]) ∨ ∃ c, u = [92, c]
noncomputable def wfU : List (List Nat) → Prop
  | [] => True
  | [u] => u = [92] ∨ fullU u
  | u :: v :: r => fullU u ∧ wfU (v :: r)

/-- what the generator yields of such signs, from place n on -/
noncomputable def posU : Nat → List (List Nat) → List PyData
  | _, [] => []
  | n, u :: r => .tuple [.int ((n + u.length - 1 : Nat) : Int), .str (S u)] :: posU (n + u.length) r

theorem escG_full {n : Nat} {u l : List Nat} (h : fullU u) : escG n false (u ++ l) = .tuple [.int ((n + u.length - 1 : Nat) : Int), .str (S u)] :: escG (n + u.length) false l := by
  rcases h with ⟨c, hc, rfl⟩ | ⟨c, rfl⟩
  · show escG n false (c :: l) = _
    rw [escG, if_neg hc]; rfl
  · show escG n false (92 :: c :: l) = _
    rw [escG, if_pos rfl, escG]; rfl
theorem wfU_tail {u : List Nat} : ∀ {r : List (List Nat)}, wfU (u :: r) → wfU r
  | [], _ => trivial
  | _ :: _, h => h.2
theorem escG_wf : ∀ {us : List (List Nat)} {n : Nat}, wfU us → escG n false us.flatten = posU n us
  | [], n, _ => rfl
  | [u], n, h => by
    rcases h with rfl | h
    · rfl
    · rw [List.flatten_cons, escG_full h]; rfl
  | u :: v :: r, n, h => by
    rw [List.flatten_cons, escG_full h.1, escG_wf h.2]; rfl
theorem wfU_pos {us : List (List Nat)} (h : wfU us) : ∀ u ∈ us, 1 ≤ u.length := by
  intro u hu
  have full : ∀ {u : List Nat}, fullU u → 1 ≤ u.length := fun h => by rcases h with ⟨c, _, rfl⟩ | ⟨c, rfl⟩ <;> simp
  induction us with
  | nil => cases hu
  | cons v r ih =>
    rcases List.mem_cons.mp hu with rfl | hu
    · cases r with
      | nil => rcases h with rfl | h
               · simp
               · exact full h
      | cons w r => exact full h.1
    · exact ih (wfU_tail h) hu

/-- the signs outside quotation marks -/
noncomputable def stripU : Option (List (List Nat)) → List (List Nat) → List (List Nat)
  | none, [] => []
  | some p, [] => [34] :: p
  | none, u :: r => if u = [34] then stripU (some []) r else u :: stripU none r
  | some p, u :: r => if u = [34] then stripU none r else stripU (some (p ++ [u])) r

noncomputable def stripB : List CS := [(.ite (.cmp .Eq (.var 5) (.lit (.str (S [34])))) [(.ite (.cmp .Is (.var 2) (.lit .none)) [(.asg 2 (.var 4))] [(.ite (.cmp .NotEq (.var 1) (.var 2)) [(.app 3 (.slice (.var 0) (some (.var 1)) (some (.var 2)) none))] []), (.asg 1 (.bin .Add (.var 4) (.lit (.int (1))))), (.asg 2 (.lit .none))])] [])]

theorem slice_S {l : List Nat} {a b : Nat} (hab : a ≤ b) (hb : b ≤ l.length) : Txt.slice (S l) (some (a : Int)) (some (b : Int)) = S ((l.drop a).take (b - a)) := by
  have h := sliced_plain (S l) hab (by rw [S_len]; exact hb)
  have hl := congrArg List.length (strSliceIndices_plain hab hb)
  rw [List.length_map, List.length_range] at hl
  unfold Txt.slice
  split
  · rename_i q
    rw [S_len, hl] at q
    have e : b - a = l.length := by simpa using q
    have : a = 0 := by omega
    subst this
    rw [List.drop_zero, List.take_of_length_le (by omega)]
  · rw [h]; rfl
theorem slice_S_from {l : List Nat} {a : Nat} (ha : a ≤ l.length) : Txt.slice (S l) (some (a : Int)) none = S (l.drop a) := by
  have e : strSliceIndices (some (a : Int)) none 1 l.length = strSliceIndices (some (a : Int)) (some ((l.length : Nat) : Int)) 1 l.length := by
    unfold strSliceIndices
    have h2 : ¬ ((l.length : Int) < 0) := by lia
    have e2 : max (0 : Int) (min (l.length : Int) (l.length : Int)) = l.length := by lia
    simp only [h2, if_false, show ((1 : Int) > 0) = True from by simp, if_true, e2]
  have h := slice_S (l := l) ha (Nat.le_refl _)
  unfold Txt.slice at h ⊢
  rw [S_len] at h ⊢
  rw [e, h, List.take_of_length_le (by rw [List.length_drop]; lia)]
noncomputable def ov (o : Option Int) : Slot := .sh (.d (match o with | none => .none | some i => .int i))
noncomputable def lv (R : List (List Nat)) : Slot := .ow (R.map fun p => .str (S p))
section
variable {Φ : Fns} {fu : Nat} {l u : List Nat} {st q op : Int} {R : List (List Nat)} {a : Slot}
theorem s34 : shp (.str (S [34])) = true := shp_str (by decide)
theorem q34 {v : PyData} (h : PyData.eqv v (.str (S [34])) = true) : vtruth (.d (.bool (PyData.eqv v (.str (S [34]))))) = some true := by rw [h]; rfl
theorem strip_b1 {o : Option Int} (hu : u.all (· < 0x110000) = true) (h : u ≠ [34]) : cexs Φ fu stripB [sv l, iv st, ov o, lv R, iv q, sv u] = some ([sv l, iv st, ov o, lv R, iv q, sv u], .nx) :=
  go_nx (cx_no (ev_eq (rv0 rfl) ev_c (shp_str hu) s34) (congrArg some ((eqv_S _ _).trans (beq_eq_false_iff_ne.mpr h)))) rfl
theorem strip_q {o : Option Int} {r : Ev} (h : cex Φ fu (.ite (.cmp .Is (.var 2) (.lit .none)) [(.asg 2 (.var 4))] [(.ite (.cmp .NotEq (.var 1) (.var 2)) [(.app 3 (.slice (.var 0) (some (.var 1)) (some (.var 2)) none))] []), (.asg 1 (.bin .Add (.var 4) (.lit (.int (1))))), (.asg 2 (.lit .none))]) [sv l, iv st, ov o, lv R, iv q, sv [34]] = some (r, .nx)) :
    cexs Φ fu stripB [sv l, iv st, ov o, lv R, iv q, sv [34]] = some (r, .nx) :=
  go_nx ((cx_if1 (ev_eq (rv0 rfl) ev_c s34 s34) (q34 ((eqv_S _ _).trans (by decide)))).trans (go_nx h rfl)) rfl
theorem strip_b2 : cexs Φ fu stripB [sv l, iv st, ov none, lv R, iv q, sv [34]] = some ([sv l, iv st, ov (some q), lv R, iv q, sv [34]], .nx) :=
  strip_q ((cx_if1 (ev_cmp (rv0 rfl) ev_c rfl) rfl).trans (go_asg (rv0 rfl) rfl rfl))
theorem ev_sl {a : CE} {ρ : Ev} {v : V} {lo hi st : Option CE} {x y z : Option Int} (h : ceval Φ a ρ = some v) (h1 : cpart Φ lo ρ = some x) (h2 : cpart Φ hi ρ = some y) (h3 : cpart Φ st ρ = some z) : ceval Φ (.slice a lo hi st) ρ = vslice v x y z := by
  rw [ce_slice, h, h1, h2, h3]; rfl
theorem vsl_str {x y : Option Int} (hl : l.length ≤ 1048576) : vslice (.d (.str (S l))) x y none = some (.d (.str (Txt.slice (S l) x y))) := by
  show (if (szOk (S l).length && (none : Option Int) == none) = true then some (V.d (.str (Txt.slice (S l) x y))) else none) = _
  rw [S_len, szOk_of hl]; rfl
theorem strip_34 {n m : Int} (h : cex Φ fu (.ite (.cmp .NotEq (.var 1) (.var 2)) [(.app 3 (.slice (.var 0) (some (.var 1)) (some (.var 2)) none))] []) [sv l, iv n, ov (some m), lv R, iv q, sv [34]] = some ([sv l, iv n, ov (some m), a, iv q, sv [34]], .nx)) :
    cexs Φ fu stripB [sv l, iv n, ov (some m), lv R, iv q, sv [34]] = some ([sv l, iv (q + 1), ov none, a, iv q, sv [34]], .nx) :=
  strip_q ((cx_if0 (ev_cmp (rv0 rfl) ev_c rfl) rfl).trans (go_nx h (go_asg ((ev_bin (rv0 rfl) ev_c).trans (ev_add _ _)) rfl (go_asg ev_c rfl rfl))))
theorem strip_b3 {n m : Nat} (hl : l.length ≤ 1048576) (h1 : n ≤ m) (h2 : m ≤ l.length) (h : n ≠ m) (hR : R.length ≤ 1048576) : cexs Φ fu stripB [sv l, iv n, ov (some (m : Int)), lv R, iv q, sv [34]] = some ([sv l, iv (q + 1), ov none, lv (R ++ [(l.drop n).take (m - n)]), iv q, sv [34]], .nx) := by
  refine strip_34 ((cx_if1 (ev_ne (rv0 rfl) (rv0 rfl) shp_int shp_int) (congrArg some ?_)).trans (go_nx (cx_app ((ev_sl (rv0 rfl) (cp_some (rv0 rfl)) (cp_some (rv0 rfl)) cp_none).trans (vsl_str hl)) rfl ?_) ?_))
  · rw [eqv_int, show ((n : Int) == (m : Int)) = false from beq_eq_false_iff_ne.mpr (fun e => h (Int.ofNat.inj e))]; rfl
  · rw [List.length_map]; exact hR
  · rw [cexs_no, slice_S h1 h2]; unfold lv; rw [List.map_append]; rfl
theorem strip_b4 {n : Nat} : cexs Φ fu stripB [sv l, iv n, ov (some (n : Int)), lv R, iv q, sv [34]] = some ([sv l, iv (q + 1), ov none, lv R, iv q, sv [34]], .nx) :=
  strip_34 (cx_no (ev_ne_same (rv0 rfl) (rv0 rfl) shp_int) rfl)
theorem take_45 {a0 a1 a2 a3 x y : Slot} : takeT [4, 5] (.tuple [.int q, .str (S u)]) [a0, a1, a2, a3, x, y] = some [a0, a1, a2, a3, iv q, sv u] := rfl
end
end Mine
end
section
open PySem PySem.W PyProof.Rows
open PySem.StrLaws Builtin Builtin.Str
set_option maxRecDepth 4000
namespace Mine
noncomputable def uOk (us : List (List Nat)) : Prop := ∀ u ∈ us, 1 ≤ u.length ∧ u.all (· < 0x110000) = true

/-- the mode of the reader: None, or the place of the mark that is open with what stands behind it -/
noncomputable def Md (l : List Nat) (st n : Nat) (E : Nat) : Option (List (List Nat)) → Option Int → Prop
  | none, o => o = none ∧ E = n
  | some p, o => o = some (E : Int) ∧ st ≤ E ∧ E ≤ n ∧ (l.drop E).take (n - E) = 34 :: p.flatten

theorem take_more {l t u : List Nat} {s n : Nat} (h : s ≤ n) (hd : l.drop n = u ++ t) : (l.drop s).take (n + u.length - s) = (l.drop s).take (n - s) ++ u := by
  have e1 : n + u.length - s = (n - s) + u.length := by omega
  rw [e1, List.take_add, List.drop_drop, show s + (n - s) = n by omega, hd]
  simp

theorem strip_loop {Φ : Fns} {fu : Nat} {l : List Nat} (hl : l.length ≤ 1048576) : ∀ (us : List (List Nat)) (n E : Nat) (m : Option (List (List Nat))) (o : Option Int) (R : List (List Nat)) (st : Nat) (x4 x5 : Slot),
    n ≤ l.length → l.drop n = us.flatten → uOk us → R.length ≤ st → st ≤ n → Md l st n E m o →
    ∃ R' st' o' x4' x5', loopF (takeT [4, 5]) (fun ρ => cexs Φ fu stripB ρ) (posU n us) [sv l, iv (st : Int), ov o, lv R, x4, x5] = some ([sv l, iv ((st' : Nat) : Int), ov o', lv R', x4', x5'], .nx) ∧
      st' ≤ l.length ∧ R'.length ≤ st' ∧ R'.flatten ++ l.drop st' = R.flatten ++ (l.drop st).take (E - st) ++ (stripU m us).flatten
  | [], n, E, m, o, R, st, x4, x5, hn, hd, _, hR, hs, hm => by
    refine ⟨R, st, o, x4, x5, rfl, by lia, hR, ?_⟩
    have hle : n = l.length := by
      have := congrArg List.length hd
      simp at this; lia
    cases m with
    | none =>
      obtain ⟨_, rfl⟩ := hm
      rw [List.take_of_length_le (by rw [List.length_drop]; lia)]
      simp [stripU]
    | some p =>
      refine Classical.byContradiction fun hQ => ?_
      obtain ⟨_, h1, h2, h3⟩ := hm
      (refine hQ ?_; clear hQ)
      rw [List.take_of_length_le (by rw [List.length_drop]; lia)] at h3
      have h4 := List.take_append_drop (E - st) (l.drop st)
      rw [List.drop_drop, show st + (E - st) = E by lia, h3] at h4
      rw [List.append_assoc]
      congr 1
      refine h4.symm.trans ?_
      simp [stripU]
  | u :: r, n, E, m, o, R, st, x4, x5, hn, hd, hu, hR, hs, hm => by
    obtain ⟨u1, u2⟩ := hu u List.mem_cons_self
    have hur : uOk r := fun x hx => hu x (List.mem_cons_of_mem _ hx)
    rw [List.flatten_cons] at hd
    have hn' : n + u.length ≤ l.length := by
      have := congrArg List.length hd
      simp at this; lia
    have hd' : l.drop (n + u.length) = r.flatten := by
      rw [← List.drop_drop, hd]; simp
    simp only [posU, loopF]
    rw [take_45, Option.bind_some]
    by_cases h : u = [34]
    · subst h
      cases m with
      | none =>
        obtain ⟨rfl, rfl⟩ := hm
        rw [strip_b2]
        have hq : E + [34].length - 1 = E := rfl
        refine Classical.byContradiction fun hQ => ?_
        obtain ⟨R', st', o', x4', x5', e1, e2, e3, e4⟩ := strip_loop hl (Φ := Φ) (fu := fu) r (E + 1) E (some []) (some (E : Int)) R st (iv E) (sv [34]) hn' hd' hur hR (by lia)
          ⟨rfl, hs, by lia, by rw [show E + 1 - E = 1 by lia, hd]; rfl⟩
        (refine hQ ?_; clear hQ)
        exact ⟨R', st', o', x4', x5', e1, e2, e3, by rw [e4]; rfl⟩
      | some p =>
        obtain ⟨rfl, h1, h2, h3⟩ := hm
        have hE : E < n := by
          have := congrArg List.length h3
          simp at this; lia
        by_cases he : st = E
        · subst he
          rw [strip_b4]
          have eq : ((n + [34].length - 1 : Nat) : Int) + 1 = ((n + 1 : Nat) : Int) := by simp
          rw [eq]
          refine Classical.byContradiction fun hQ => ?_
          obtain ⟨R', st', o', x4', x5', e1, e2, e3, e4⟩ := strip_loop hl (Φ := Φ) (fu := fu) r (n + 1) (n + 1) none none R (n + 1) (iv ((n + [34].length - 1 : Nat) : Int)) (sv [34]) hn' hd' hur (by lia) (Nat.le_refl _) ⟨rfl, rfl⟩
          (refine hQ ?_; clear hQ)
          refine ⟨R', st', o', x4', x5', e1, e2, e3, ?_⟩
          rw [e4, stripU, if_pos rfl]; simp
        · rw [strip_b3 hl h1 (by lia) he (by lia)]
          have eq : ((n + [34].length - 1 : Nat) : Int) + 1 = ((n + 1 : Nat) : Int) := by simp
          rw [eq]
          obtain ⟨R', st', o', x4', x5', e1, e2, e3, e4⟩ := strip_loop hl (Φ := Φ) (fu := fu) r (n + 1) (n + 1) none none (R ++ [(l.drop st).take (E - st)]) (n + 1) (iv ((n + [34].length - 1 : Nat) : Int)) (sv [34]) hn' hd' hur (by simp; lia) (Nat.le_refl _) ⟨rfl, rfl⟩
          refine ⟨R', st', o', x4', x5', e1, e2, e3, ?_⟩
          rw [e4, stripU, if_pos rfl]; simp
    · rw [strip_b1 u2 h]
      cases m with
      | none =>
        refine Classical.byContradiction fun hQ => ?_
        obtain ⟨rfl, rfl⟩ := hm
        obtain ⟨R', st', o', x4', x5', e1, e2, e3, e4⟩ := strip_loop hl (Φ := Φ) (fu := fu) r (E + u.length) (E + u.length) none none R st (iv ((E + u.length - 1 : Nat) : Int)) (sv u) hn' hd' hur hR (by lia) ⟨rfl, rfl⟩
        (refine hQ ?_; clear hQ)
        refine ⟨R', st', o', x4', x5', e1, e2, e3, ?_⟩
        rw [e4, take_more hs hd, stripU, if_neg h]; simp
      | some p =>
        refine Classical.byContradiction fun hQ => ?_
        obtain ⟨rfl, h1, h2, h3⟩ := hm
        obtain ⟨R', st', o', x4', x5', e1, e2, e3, e4⟩ := strip_loop hl (Φ := Φ) (fu := fu) r (n + u.length) E (some (p ++ [u])) (some (E : Int)) R st (iv ((n + u.length - 1 : Nat) : Int)) (sv u) hn' hd' hur hR (by lia)
          ⟨rfl, h1, by lia, by rw [take_more h2 hd, h3]; simp⟩
        (refine hQ ?_; clear hQ)
        refine ⟨R', st', o', x4', x5', e1, e2, e3, ?_⟩
        rw [e4, stripU, if_neg h]
theorem idx_one {c : Nat} : ∀ {l : List Nat}, (idx [c] l).isSome = decide (c ∈ l)
  | [] => by simp [idx, List.isPrefixOf]
  | d :: l => by
    unfold idx
    by_cases h : c = d
    · subst h; simp [List.isPrefixOf]
    · rw [if_neg (by simp [List.isPrefixOf, h]), Option.isSome_map, idx_one]
      simp [h]
theorem stripU_free : ∀ {us : List (List Nat)}, [34] ∉ us → stripU none us = us
  | [], _ => rfl
  | u :: r, h => by
    rw [stripU, if_neg (fun e => h (by rw [e]; exact List.mem_cons_self)), stripU_free fun e => h (List.mem_cons_of_mem _ e)]
theorem sum_len : ∀ R : List (List Nat), (List.map Str.length (R.map S)).sum = R.flatten.length
  | [] => rfl
  | p :: r => by rw [List.map_cons, List.map_cons, List.sum_cons, sum_len r]; simp [S_len]
theorem strsOf_S : ∀ R : List (List Nat), strsOf (R.map fun p => .str (S p)) = some (R.map S)
  | [] => rfl
  | p :: r => by rw [List.map_cons, strsOf, strsOf_S r]; rfl
theorem join_flat {R : List (List Nat)} (h1 : R.length ≤ 1048576) (h2 : R.flatten.length ≤ 1048576) : vmeth .join (.d (.str (S []))) [.d (.list (R.map fun p => .str (S p)))] = some (.d (.str (S R.flatten))) := by
  show (strsOf _).bind _ = _
  rw [strsOf_S, Option.bind_some, List.length_map, szOk_of h1, sum_len, S_len, List.length_nil, Nat.mul_zero, Nat.zero_add, szOk_of h2, join_S, sepJ_nil_flatten]
  rfl
theorem stripU_len : ∀ (us : List (List Nat)) (m : Option (List (List Nat))), (stripU m us).flatten.length ≤ us.flatten.length + (match m with | none => 0 | some p => p.flatten.length + 1)
  | [], none => by simp [stripU]
  | [], some p => by simp [stripU]
  | u :: r, none => by
    unfold stripU
    split
    · rename_i h; subst h
      have := stripU_len r (some []); simp at this ⊢; lia
    · have := stripU_len r none; simp at this ⊢; lia
  | u :: r, some p => by
    unfold stripU
    split
    · rename_i h; subst h
      have := stripU_len r none; simp at this ⊢; lia
    · have := stripU_len r (some (p ++ [u])); simp at this ⊢; lia
theorem strip_run (Φ : Fns) (fu : Nat) {us : List (List Nat)} (hw : wfU us) (hu : uOk us) (hl : us.flatten.length ≤ 1048576) :
    runF Φ fu ⟨1, 6, stripC⟩ [.d (.str (S us.flatten))] = some (.d (.str (S (stripU none us).flatten))) := by
  refine runF_ex rfl ?_
  show ∃ ρ', cexs Φ fu stripC [sv us.flatten, .un, .un, .un, .un, .un] = some (ρ', .rt (.d (.str (S (stripU none us).flatten))))
  have hok : us.flatten.all (· < 0x110000) = true := by
    rw [List.all_eq_true]
    intro x hx
    obtain ⟨u, h1, h2⟩ := List.mem_flatten.mp hx
    exact List.all_eq_true.mp (hu u h1).2 x h2
  by_cases hq : 34 ∈ us.flatten
  case neg =>
    refine ⟨[sv us.flatten, .un, .un, .un, .un, .un], (cexs_rt ((cx_if1 (ev_cmp ev_c (rv0 rfl) d_notin) (congrArg some (by rw [idx_one, decide_eq_false hq]; rfl))).trans (go_ret (rv0 rfl) rfl))).trans ?_⟩
    rw [stripU_free fun e => hq (List.mem_flatten.mpr ⟨_, e, List.mem_singleton.mpr rfl⟩)]
  refine Classical.byContradiction fun hQ => ?_
  obtain ⟨R', st', o', x4', x5', e1, e2, e3, e4⟩ := strip_loop hl (Φ := Φ) (fu := fu) us 0 0 none none [] 0 .un .un (Nat.zero_le _) rfl hu (Nat.zero_le _) (Nat.le_refl _) ⟨rfl, rfl⟩
  (refine hQ ?_; clear hQ)
  have h5 : cex Φ fu (.forG 4 5 (.var 0) stripB) [sv us.flatten, iv 0, ov none, lv [], .un, .un] = some ([sv us.flatten, iv ((st' : Nat) : Int), ov o', lv R', x4', x5'], .nx) := by
    show (if (szOk (S us.flatten).length && PyData.strOk (S us.flatten)) = true then _ else none) = _
    rw [S_len, szOk_of hl, S_ok, hok, Bool.and_self, if_pos rfl]
    show loopF _ _ (escG 0 false (S us.flatten).cps.toList) _ = _
    rw [S_toList, escG_wf hw]
    exact e1
  clear e1
  rw [List.flatten_nil, List.nil_append, Nat.sub_self, List.take_zero, List.nil_append] at e4
  have h7 : (stripU none us).flatten.length ≤ us.flatten.length := stripU_len us none
  have hj : ∀ (RR : List (List Nat)), RR.flatten = (stripU none us).flatten → RR.length ≤ 1048576 → ∃ ρ', cexs Φ fu [.frz 3, .ret (.meth .join (.lit (.str (S []))) [(.var 3)])] [sv us.flatten, iv ((st' : Nat) : Int), ov o', lv RR, x4', x5'] = some (ρ', .rt (.d (.str (S (stripU none us).flatten)))) := fun RR h6 h8 =>
    ⟨_, go_nx (cx_frz rfl) (go_ret ((ev_meth1 ev_c (rv0 rfl)).trans ((join_flat h8 (by rw [h6]; exact Nat.le_trans h7 hl)).trans (by rw [h6]))) rfl)⟩
  have pre : ∀ {R}, cexs Φ fu [(.ite (.cmp .Lt (.var 1) (.prim .len [(.var 0)])) [(.app 3 (.slice (.var 0) (some (.var 1)) none none))] []), (.frz 3), (.ret (.meth .join (.lit (.str (S []))) [(.var 3)]))] [sv us.flatten, iv ((st' : Nat) : Int), ov o', lv R', x4', x5'] = R →
      cexs Φ fu stripC [sv us.flatten, .un, .un, .un, .un, .un] = R := fun h =>
    go_nx (cx_no (ev_cmp ev_c (rv0 rfl) d_notin) (congrArg some (by rw [idx_one, decide_eq_true hq]; rfl)))
      (go_asg ev_c rfl (go_asg ev_c rfl (go_nx (cx_own ev_list0) (go_nx h5 h))))
  by_cases hs : st' < us.flatten.length
  · obtain ⟨ρ', h⟩ := hj (R' ++ [us.flatten.drop st']) (by rw [← e4, List.flatten_append, List.flatten_singleton]) (by rw [List.length_append]; exact Nat.le_trans (Nat.succ_le_of_lt (Nat.lt_of_le_of_lt e3 hs)) hl)
    refine ⟨ρ', pre (go_nx ((cx_if1 (ev_cmp (rv0 rfl) (ev_lenv (rv0 rfl) rfl hl) rfl) (congrArg some (decide_eq_true (Int.ofNat_lt.mpr hs)))).trans
      (go_nx (cx_app ((ev_sl (rv0 rfl) (cp_some (rv0 rfl)) cp_none cp_none).trans ((vsl_str hl).trans (by rw [slice_S_from e2]))) rfl (by rw [List.length_map]; exact Nat.le_trans e3 (Nat.le_trans e2 hl))) rfl)) ?_)⟩
    unfold lv at h
    rw [List.map_append] at h
    exact h
  · obtain ⟨ρ', h⟩ := hj R' (by rw [← e4, List.drop_of_length_le (Nat.le_of_not_lt hs), List.append_nil]) (Nat.le_trans e3 (Nat.le_trans e2 hl))
    exact ⟨ρ', pre (go_nx (cx_no (ev_cmp (rv0 rfl) (ev_lenv (rv0 rfl) rfl hl) rfl) (congrArg some (decide_eq_false fun h => hs (Int.ofNat_lt.mp h)))) h)⟩
end Mine
end
section
open PySem PySem.W PyProof.Rows
open PySem.StrLaws Builtin Builtin.Str
set_option maxRecDepth 4000
namespace Mine
/-- the brackets counted -/
noncomputable def scanU : Int → List (List Nat) → Bool
  | o, [] => o == 0
  | o, u :: r => if u = [40] then scanU (o + 1) r else if u = [41] then (if o - 1 < 0 then false else scanU (o - 1) r) else scanU o r
noncomputable def checkB : List CS := [(.ite (.cmp .Eq (.var 3) (.lit (.str (S [40])))) [(.aug false 1 (.lit (.int (1))))] [(.ite (.cmp .Eq (.var 3) (.lit (.str (S [41])))) [(.aug true 1 (.lit (.int (1)))), (.ite (.cmp .Lt (.var 1) (.lit (.int (0)))) [(.ret (.lit (.bool false)))] [])] [])])]
section
variable {Φ : Fns} {fu : Nat} {l u : List Nat} {o q : Int}
theorem take_23 {a0 a1 x y : Slot} : takeT [2, 3] (.tuple [.int q, .str (S u)]) [a0, a1, x, y] = some [a0, a1, iv q, sv u] := rfl
theorem eq_t {u v : List Nat} {a b : CE} {ρ : Ev} {Φ : Fns} {k : Bool} (h1 : ceval Φ a ρ = some (.d (.str (S u)))) (h2 : ceval Φ b ρ = some (.d (.str (S v)))) (hu : u.all (· < 0x110000) = true) (hv : v.all (· < 0x110000) = true) (h : (u == v) = k) : ceval Φ (.cmp .Eq a b) ρ = some (.d (.bool k)) := (ev_eq h1 h2 (shp_str hu) (shp_str hv)).trans (by rw [eqv_S, h])
theorem check_b1 : cexs Φ fu checkB [sv l, iv o, iv q, sv [40]] = some ([sv l, iv (o + 1), iv q, sv [40]], .nx) :=
  go_nx ((cx_if1 (eq_t (rv0 rfl) ev_c (by decide) (by decide) rfl) rfl).trans (go_nx (cx_aug ev_c rfl) rfl)) rfl
theorem check_cl {R : Ev × Fl} (h : cex Φ fu (.ite (.cmp .Lt (.var 1) (.lit (.int (0)))) [(.ret (.lit (.bool false)))] []) [sv l, iv (o - 1), iv q, sv [41]] = some R) : cexs Φ fu checkB [sv l, iv o, iv q, sv [41]] = some R := by
  unfold checkB
  rw [cexs_one]
  refine (cx_if0 (eq_t (rv0 rfl) ev_c (by decide) (by decide) rfl) rfl).trans ?_
  rw [cexs_one]
  refine (cx_if1 (eq_t (rv0 rfl) ev_c (by decide) (by decide) rfl) rfl).trans (go_nx (cx_aug ev_c rfl) ?_)
  rw [cexs_one]; exact h
theorem check_b2 (h : ¬ o - 1 < 0) : cexs Φ fu checkB [sv l, iv o, iv q, sv [41]] = some ([sv l, iv (o - 1), iv q, sv [41]], .nx) :=
  check_cl (cx_no (ev_cmp (rv0 rfl) ev_c rfl) (congrArg some (decide_eq_false h)))
theorem check_b3 (h : o - 1 < 0) : cexs Φ fu checkB [sv l, iv o, iv q, sv [41]] = some ([sv l, iv (o - 1), iv q, sv [41]], .rt (.d (.bool false))) :=
  check_cl ((cx_if1 (ev_cmp (rv0 rfl) ev_c rfl) (congrArg some (decide_eq_true h))).trans (go_ret ev_c rfl))
theorem check_b4 (hu : u.all (· < 0x110000) = true) (h1 : u ≠ [40]) (h2 : u ≠ [41]) : cexs Φ fu checkB [sv l, iv o, iv q, sv u] = some ([sv l, iv o, iv q, sv u], .nx) :=
  go_nx ((cx_if0 (eq_t (rv0 rfl) ev_c hu (by decide) (beq_eq_false_iff_ne.mpr h1)) rfl).trans (go_nx (cx_no (eq_t (rv0 rfl) ev_c hu (by decide) (beq_eq_false_iff_ne.mpr h2)) rfl) rfl)) rfl
end
theorem check_loop {Φ : Fns} {fu : Nat} {l : List Nat} : ∀ (us : List (List Nat)) (n : Nat) (o : Int) (x y : Slot), uOk us →
    (∃ o' x' y', loopF (takeT [2, 3]) (fun ρ => cexs Φ fu checkB ρ) (posU n us) [sv l, iv o, x, y] = some ([sv l, iv o', x', y'], .nx) ∧ scanU o us = (o' == 0)) ∨
    (∃ ρ', loopF (takeT [2, 3]) (fun ρ => cexs Φ fu checkB ρ) (posU n us) [sv l, iv o, x, y] = some (ρ', .rt (.d (.bool false))) ∧ scanU o us = false)
  | [], n, o, x, y, _ => .inl ⟨o, x, y, rfl, rfl⟩
  | u :: r, n, o, x, y, hu => by
    obtain ⟨u1, u2⟩ := hu u List.mem_cons_self
    have hur : uOk r := fun x hx => hu x (List.mem_cons_of_mem _ hx)
    simp only [posU, loopF]
    rw [take_23, Option.bind_some]
    by_cases h1 : u = [40]
    · subst h1
      rw [check_b1, scanU, if_pos rfl]
      exact check_loop r _ _ _ _ hur
    · by_cases h2 : u = [41]
      · subst h2
        rw [scanU, if_neg h1, if_pos rfl]
        by_cases h3 : o - 1 < 0
        · rw [check_b3 h3, if_pos h3]
          exact .inr ⟨_, rfl, rfl⟩
        · rw [check_b2 h3, if_neg h3]
          exact check_loop r _ _ _ _ hur
      · rw [check_b4 u2 h1 h2, scanU, if_neg h1, if_neg h2]
        exact check_loop r _ _ _ _ hur

theorem wfU_cons {u : List Nat} {r : List (List Nat)} (h : fullU u) (hr : wfU r) : wfU (u :: r) := by
  cases r with
  | nil => exact .inr h
  | cons v r => exact ⟨h, hr⟩
theorem wfU_app {p : List (List Nat)} (hp : ∀ u ∈ p, fullU u) {r : List (List Nat)} (hr : wfU r) : wfU (p ++ r) := by
  induction p with
  | nil => exact hr
  | cons u p ih => exact wfU_cons (hp u List.mem_cons_self) (ih fun x hx => hp x (List.mem_cons_of_mem _ hx))
theorem wfU_head {u : List Nat} {r : List (List Nat)} (h : wfU (u :: r)) : (r = [] ∧ u = [92]) ∨ fullU u := by
  cases r with
  | nil => exact h.imp (fun e => ⟨rfl, e⟩) id
  | cons v r => exact .inr h.1
theorem full34 : fullU [34] := .inl ⟨34, by decide, rfl⟩
theorem stripU_wf : ∀ {us : List (List Nat)} {m : Option (List (List Nat))}, wfU us → (∀ p, m = some p → ∀ u ∈ p, fullU u) → wfU (stripU m us)
  | [], none, _, _ => trivial
  | [], some p, _, hp => by
    have := wfU_app (p := p) (r := []) (hp p rfl) trivial
    rw [List.append_nil] at this
    exact wfU_cons full34 this
  | u :: r, none, h, _ => by
    unfold stripU
    split
    · exact stripU_wf (wfU_tail h) fun p e u hu => by cases e; cases hu
    · rcases wfU_head h with ⟨rfl, rfl⟩ | hf
      · exact .inl rfl
      · exact wfU_cons hf (stripU_wf (wfU_tail h) fun p e => by cases e)
  | u :: r, some p, h, hp => by
    unfold stripU
    split
    · exact stripU_wf (wfU_tail h) fun p e => by cases e
    · rename_i hn
      rcases wfU_head h with ⟨rfl, rfl⟩ | hf
      · show wfU ([34] :: (p ++ [[92]]))
        exact wfU_cons full34 (wfU_app (hp p rfl) (.inl rfl))
      · exact stripU_wf (wfU_tail h) fun q e x hx => by
          cases e
          rcases List.mem_append.mp hx with hx | hx
          · exact hp p rfl x hx
          · rw [List.mem_singleton] at hx; subst hx; exact hf
theorem stripU_mem : ∀ {us : List (List Nat)} {m : Option (List (List Nat))} {x : List Nat}, x ∈ stripU m us → x ∈ us ∨ x = [34] ∨ ∃ p, m = some p ∧ x ∈ p
  | [], none, x, h => by cases h
  | [], some p, x, h => by
    rcases List.mem_cons.mp h with rfl | h
    · exact .inr (.inl rfl)
    · exact .inr (.inr ⟨p, rfl, h⟩)
  | u :: r, none, x, h => by
    unfold stripU at h
    split at h
    · rcases stripU_mem h with h | h | ⟨p, e, h⟩
      · exact .inl (List.mem_cons_of_mem _ h)
      · exact .inr (.inl h)
      · cases e; cases h
    · rcases List.mem_cons.mp h with rfl | h
      · exact .inl List.mem_cons_self
      · rcases stripU_mem h with h | h | ⟨p, e, h⟩
        · exact .inl (List.mem_cons_of_mem _ h)
        · exact .inr (.inl h)
        · cases e
  | u :: r, some p, x, h => by
    unfold stripU at h
    split at h
    · rcases stripU_mem h with h | h | ⟨p, e, h⟩
      · exact .inl (List.mem_cons_of_mem _ h)
      · exact .inr (.inl h)
      · cases e
    · rcases stripU_mem h with h | h | ⟨q, e, h⟩
      · exact .inl (List.mem_cons_of_mem _ h)
      · exact .inr (.inl h)
      · cases e
        rcases List.mem_append.mp h with h | h
        · exact .inr (.inr ⟨p, rfl, h⟩)
        · rw [List.mem_singleton] at h; subst h; exact .inl List.mem_cons_self
theorem stripU_ok {us : List (List Nat)} (h : uOk us) : uOk (stripU none us) := fun u hu => by
  rcases stripU_mem hu with h' | rfl | ⟨p, e, _⟩
  · exact h u h'
  · exact ⟨by decide, by decide⟩
  · cases e

theorem uOk_all {us : List (List Nat)} (hu : uOk us) : us.flatten.all (· < 0x110000) = true := by
  rw [List.all_eq_true]
  intro x hx
  obtain ⟨u, h1, h2⟩ := List.mem_flatten.mp hx
  exact List.all_eq_true.mp (hu u h1).2 x h2

theorem check_run {Φ : Fns} {fu : Nat} {us : List (List Nat)} (hs : Φ 1 [.d (.str (S us.flatten))] = some (.d (.str (S (stripU none us).flatten)))) (hw : wfU us) (hu : uOk us) (hl : us.flatten.length ≤ 1048576) :
    runF Φ fu ⟨1, 4, checkC⟩ [.d (.str (S us.flatten))] = some (.d (.bool (scanU 0 (stripU none us)))) := by
  refine runF_ex rfl ?_
  show ∃ ρ', cexs Φ fu checkC [sv us.flatten, .un, .un, .un] = _
  have hl2 : (stripU none us).flatten.length ≤ 1048576 := Nat.le_trans (show _ ≤ us.flatten.length from stripU_len us none) hl
  have ho := stripU_ok hu
  have hw2 := stripU_wf (m := none) hw fun p e => by cases e
  have ha := uOk_all ho
  have pre : ∀ {R}, cexs Φ fu [(.forG 2 3 (.var 0) checkB), (.ret (.cmp .Eq (.var 1) (.lit (.int (0)))))] [sv (stripU none us).flatten, iv 0, .un, .un] = R → cexs Φ fu checkC [sv us.flatten, .un, .un, .un] = R := fun h =>
    go_asg ((ev_call1 (rv0 rfl) rfl).trans hs) rfl (go_asg ev_c rfl h)
  suffices h : ∃ ρ', cexs Φ fu [(.forG 2 3 (.var 0) checkB), (.ret (.cmp .Eq (.var 1) (.lit (.int (0)))))] [sv (stripU none us).flatten, iv 0, .un, .un] = some (ρ', .rt (.d (.bool (scanU 0 (stripU none us))))) from h.elim fun ρ' h => ⟨ρ', pre h⟩
  clear pre hs
  generalize stripU none us = vs at *
  have hcx : cex Φ fu (.forG 2 3 (.var 0) checkB) [sv vs.flatten, iv 0, .un, .un] = loopF (takeT [2, 3]) (fun ρ => cexs Φ fu checkB ρ) (posU 0 vs) [sv vs.flatten, iv 0, .un, .un] := by
    show (if (szOk (S vs.flatten).length && PyData.strOk (S vs.flatten)) = true then _ else none) = _
    rw [S_len, szOk_of hl2, S_ok, ha, Bool.and_self, if_pos rfl]
    show loopF _ _ (escG 0 false (S vs.flatten).cps.toList) _ = _
    rw [S_toList, escG_wf hw2]
  rcases check_loop (Φ := Φ) (fu := fu) (l := vs.flatten) vs 0 0 .un .un ho with ⟨o', x', y', h1, h2⟩ | ⟨ρ', h1, h2⟩
  · refine ⟨[sv vs.flatten, iv o', x', y'], (cexs_nx (hcx.trans h1)).trans ?_⟩
    rw [h2]
    exact go_ret ((ev_eq (rv0 rfl) ev_c shp_int shp_int).trans (by rw [eqv_int])) rfl
  · exact ⟨ρ', by rw [h2]; exact cexs_rt (hcx.trans h1)⟩
end Mine
end
section
open PySem PySem.W PyProof.Rows
set_option maxRecDepth 4000
namespace Mine

theorem bitLen_le {a : Int} {k : Nat} (h0 : 0 ≤ a) (h : a < 2 ^ k) : bitLen a ≤ k := by
  unfold bitLen
  split
  · lia
  · rename_i hn
    have h1 : a.natAbs ≠ 0 := by lia
    have h2 : a.natAbs < 2 ^ k := by
      have : ((a.natAbs : Nat) : Int) < ((2 ^ k : Nat) : Int) := by rw [Int.natAbs_of_nonneg h0]; exact_mod_cast h
      exact_mod_cast this
    have := (Nat.log2_lt h1).mpr h2
    lia
theorem bitLen_pos {a : Int} (h : 0 < a) : ∃ n : Nat, bitLen a = n ∧ 1 ≤ n ∧ a < 2 ^ n := by
  refine Classical.byContradiction fun hQ => ?_
  obtain ⟨b, hb, hl⟩ := bitLen_nat a.toNat
  (refine hQ ?_; clear hQ)
  rw [Int.toNat_of_nonneg (by lia)] at hb
  refine ⟨b, hb, ?_, ?_⟩
  · unfold bitLen at hb; rw [if_neg (by lia)] at hb; lia
  · have : ((a.toNat : Nat) : Int) < ((2 ^ b : Nat) : Int) := by exact_mod_cast hl
    rw [Int.toNat_of_nonneg (by lia)] at this
    exact_mod_cast this
theorem bitLen_zero_le (a : Int) : 0 ≤ bitLen a := by unfold bitLen; split <;> lia

theorem dval_dig (n : Nat) : ∀ (m x : Nat), x < 2 ^ (n * m) → dval n (dig n m x) = x
  | 0, x, h => by simp at h; subst h; rfl
  | m + 1, x, h => by
    simp only [dig, dval]
    rw [dval_dig n m (x / 2 ^ n) (by rw [Nat.div_lt_iff_lt_mul (Nat.pow_pos (by decide)), ← Nat.pow_add, show n * m + n = n * (m + 1) by rw [Nat.mul_add, Nat.mul_one]]; exact h)]
    have := Nat.div_add_mod x (2 ^ n)
    have e : ((x % 2 ^ n : Nat) : Int) + ((x / 2 ^ n : Nat) : Int) * ((2 ^ n : Nat) : Int) = (x : Int) := by
      rw [← Int.natCast_mul, ← Int.natCast_add, Nat.mul_comm, Nat.add_comm, this]
    simpa using e
theorem digOk_dig (n : Nat) : ∀ (m x : Nat), digOk n (dig n m x) = true
  | 0, x => rfl
  | m + 1, x => by
    simp only [dig, digOk, List.all_cons, Bool.and_eq_true, decide_eq_true_eq]
    refine ⟨⟨by lia, ?_⟩, digOk_dig n m _⟩
    have h : ((x % 2 ^ n : Nat) : Int) < ((2 ^ n : Nat) : Int) := by exact_mod_cast Nat.mod_lt x (Nat.pow_pos (by decide))
    simpa using h

theorem dm_v {a b : Int} (hb : b ≠ 0) (hf : fit b = true) : vprim .divmod [.d (.int a), .d (.int b)] = some (.d (.tuple [.int (a.fdiv b), .int (a.fmod b)])) := by
  show (if (b != 0 && fit b) = true then some (V.d (.tuple [.int (a.fdiv b), .int (a.fmod b)])) else none) = _
  rw [hf, bne_iff_ne.mpr hb]; rfl
theorem ev_bl {Φ : Fns} {ρ : Ev} {e : CE} {a : Int} (h : ceval Φ e ρ = some (.d (.int a))) : ceval Φ (.meth .bitLength e []) ρ = some (.d (.int (bitLen a))) := (ev_meth0 h).trans rfl
theorem ev_shl {a : Int} {n : Nat} (hf : fit a = true) (hn : n ≤ 8000) : vbin .LShift (.d (.int a)) (.d (.int n)) = some (.d (.int (a * 2 ^ n))) := vbin_int (by
  rw [ibin, hf, decide_eq_true (Int.natCast_nonneg n), decide_eq_true (show (n : Int) ≤ 8000 by lia), Int.toNat_natCast]; rfl)
theorem cx_for1 {Φ : Fns} {fu i : Nat} {e : CE} {b : List CS} {ρ : Ev} {xs : List PyData} (h : ceval Φ e ρ = some (.d (.list xs))) (hl : xs.length ≤ 1048576) : cex Φ fu (.for1 i e b) ρ = loopF (takeOne i) (fun ρ => cexs Φ fu b ρ) xs ρ := by
  exact b_of h (b_of (vitems_l hl) rfl)
theorem cx_forR {Φ : Fns} {fu i : Nat} {e : CE} {b : List CS} {ρ : Ev} {xs : List PyData} (h : ceval Φ e ρ = some (.d (.list xs))) (hl : xs.length ≤ 1048576) : cex Φ fu (.forR i e b) ρ = loopF (takeOne i) (fun ρ => cexs Φ fu b ρ) xs.reverse ρ := by
  exact b_of h (b_of rfl (if_pos (szOk_of hl)))
theorem div2_run (Φ : Fns) (fu : Nat) {a b n : Int} (h : bitLen a - n ≤ 4000) (hb : b ≠ 0) (hf : fit b = true) :
    runF Φ fu ⟨3, 11, div2C⟩ [.d (.int a), .d (.int b), .d (.int n)] = some (.d (.tuple [.int (a.fdiv b), .int (a.fmod b)])) :=
  runF_rt (ρ' := [.sh (.d (.int a)), .sh (.d (.int b)), .sh (.d (.int n)), .un, .un, .un, .un, .un, .un, .un, .un]) rfl
    (cexs_rt ((cx_if1 (ev_cmp ((ev_bin (ev_bl (rv0 rfl)) (rv0 rfl)).trans (ev_sub _ _)) ev_c rfl) (congrArg some (decide_eq_true h))).trans (go_ret ((ev_prim2 (rv0 rfl) (rv0 rfl)).trans (dm_v hb hf)) rfl)))

noncomputable def dposB : List CS := [(.asgT [7, 4] (.call 3 [(.bin .Add (.bin .LShift (.var 4) (.var 2)) (.var 6)), (.var 1), (.var 2)])), (.app 5 (.var 7))]
noncomputable def nv (R : List Int) : Slot := .ow (R.map .int)
section
variable {Φ : Fns} {fu : Nat} {a b : Int} {n : Nat} {sl3 x7 x8 : Slot}
theorem dpos_turn {r x : Int} {R : List Int} (hr : fit r = true) (hn : n ≤ 8000) (hR : R.length ≤ 1048576)
    (h3 : Φ 3 [.d (.int (r * 2 ^ n + x)), .d (.int b), .d (.int n)] = some (.d (.tuple [.int ((r * 2 ^ n + x).fdiv b), .int ((r * 2 ^ n + x).fmod b)]))) :
    cexs Φ fu dposB [iv a, iv b, iv n, sl3, iv r, nv R, iv x, x7, x8] = some ([iv a, iv b, iv n, sl3, iv ((r * 2 ^ n + x).fmod b), nv (R ++ [(r * 2 ^ n + x).fdiv b]), iv x, iv ((r * 2 ^ n + x).fdiv b), x8], .nx) := by
  unfold dposB
  refine go_nx ((cx_asgT ((ev_call3 (x := .int (r * 2 ^ n + x)) ((ev_bin ((ev_bin (rv0 rfl) (rv0 rfl)).trans (ev_shl hr hn)) (rv0 rfl)).trans (ev_add _ _)) (rv0 rfl) (rv0 rfl)).trans h3) rfl).trans rfl) ?_
  refine go_nx (cx_app (rv0 rfl) rfl (by rw [List.length_map]; exact hR)) ?_
  rw [cexs_no]; unfold nv; rw [List.map_append]; rfl
end
theorem dpos_loop {Φ : Fns} {fu : Nat} {a b : Int} {n : Nat} {sl3 x8 : Slot} (hb : 0 < b) (hbn : b < 2 ^ n) (hn : n ≤ 1000)
    (h3 : ∀ t : Int, 0 ≤ t → t < 2 ^ (n + n) → Φ 3 [.d (.int t), .d (.int b), .d (.int n)] = some (.d (.tuple [.int (t.fdiv b), .int (t.fmod b)]))) :
    ∀ (xs R : List Int) (r : Int) (x6 x7 : Slot), 0 ≤ r → r < b → digOk n xs = true → R.length + xs.length ≤ 1048576 →
    ∃ qs r' x6' x7', loopF (takeOne 6) (fun ρ => cexs Φ fu dposB ρ) (xs.map .int) [iv a, iv b, iv n, sl3, iv r, nv R, x6, x7, x8] = some ([iv a, iv b, iv n, sl3, iv r', nv (R ++ qs), x6', x7', x8], .nx) ∧
      qs.length = xs.length ∧ digOk n qs = true ∧ 0 ≤ r' ∧ r' < b ∧ r * 2 ^ (n * xs.length) + dval n xs.reverse = dval n qs.reverse * b + r'
  | [], R, r, x6, x7, h0, h1, _, _ => ⟨[], r, x6, x7, by rw [List.append_nil]; rfl, rfl, rfl, h0, h1, by simp [dval]⟩
  | x :: xs, R, r, x6, x7, h0, h1, hd, hl => by
    unfold digOk at hd
    rw [List.all_cons, Bool.and_eq_true, Bool.and_eq_true, decide_eq_true_eq, decide_eq_true_eq] at hd
    refine Classical.byContradiction fun hQ => ?_
    obtain ⟨⟨d1, d2⟩, d3⟩ := hd
    (refine hQ ?_; clear hQ)
    have hp : (0 : Int) < 2 ^ n := Int.pow_pos (by decide)
    have hpp : (2 : Int) ^ (n + n) = 2 ^ n * 2 ^ n := Int.pow_add _ _ _
    have t0 : 0 ≤ r * 2 ^ n + x := Int.add_nonneg (Int.mul_nonneg h0 (Int.le_of_lt hp)) d1
    have t1 : r * 2 ^ n + x < b * 2 ^ n := by
      have : (r + 1) * 2 ^ n ≤ b * 2 ^ n := Int.mul_le_mul_of_nonneg_right h1 (Int.le_of_lt hp)
      rw [Int.add_mul, Int.one_mul] at this; lia
    have t2 : r * 2 ^ n + x < 2 ^ (n + n) := by
      rw [hpp]
      exact Int.lt_of_lt_of_le t1 (Int.mul_le_mul_of_nonneg_right (Int.le_of_lt hbn) (Int.le_of_lt hp))
    have hfr : fit r = true := fit_of h0 (Int.lt_trans h1 hbn) (by lia)
    simp only [List.map_cons, loopF, takeOne, Option.bind_some]
    have e0 : ([iv a, iv b, iv n, sl3, iv r, nv R, x6, x7, x8] : Ev).set 6 (.sh (.d (.int x))) = [iv a, iv b, iv n, sl3, iv r, nv R, iv x, x7, x8] := rfl
    rw [e0, dpos_turn hfr (by lia) (by lia) (h3 _ t0 t2)]
    generalize ht : r * 2 ^ n + x = t at *
    have m0 : 0 ≤ t.fmod b := Int.fmod_nonneg_of_pos _ hb
    have m1 : t.fmod b < b := Int.fmod_lt_of_pos _ hb
    have q0 : 0 ≤ t.fdiv b := by rw [Int.fdiv_eq_ediv_of_nonneg _ (by lia)]; exact Int.ediv_nonneg t0 (by lia)
    have q1 : t.fdiv b < 2 ^ n := by
      rw [Int.fdiv_eq_ediv_of_nonneg _ (by lia)]
      exact Int.ediv_lt_of_lt_mul hb (by rw [Int.mul_comm]; exact t1)
    obtain ⟨qs, r', x6', x7', e1, e2, e3, e4, e5, e6⟩ := dpos_loop hb hbn hn h3 (fu := fu) (a := a) (sl3 := sl3) (x8 := x8) xs (R ++ [t.fdiv b]) (t.fmod b) (iv x) (iv (t.fdiv b)) m0 m1 d3 (by simp at hl ⊢; lia)
    refine ⟨t.fdiv b :: qs, r', x6', x7', ?_, by simp [e2], ?_, e4, e5, ?_⟩
    · rw [List.append_assoc] at e1; exact e1
    · unfold digOk; rw [List.all_cons, Bool.and_eq_true, Bool.and_eq_true, decide_eq_true_eq, decide_eq_true_eq]; exact ⟨⟨q0, q1⟩, e3⟩
    · rw [List.reverse_cons, List.reverse_cons, dval_append, dval_append, List.length_reverse, List.length_reverse, e2, List.length_cons]
      have hdm := Int.mul_fdiv_add_fmod t b
      have hx : r * 2 ^ (n * (xs.length + 1)) + x * 2 ^ (n * xs.length) = t * 2 ^ (n * xs.length) := by
        rw [← ht, Nat.mul_add, Nat.mul_one, Nat.add_comm, Int.pow_add, ← Int.mul_assoc, Int.add_mul]
      have d1' : ∀ z : Int, dval n [z] = z := fun z => by simp [dval]
      rw [d1', d1']
      generalize (2 : Int) ^ (n * xs.length) = P at *
      generalize r * 2 ^ (n * (xs.length + 1)) = Q at *
      have h5 : t * P = (b * t.fdiv b) * P + t.fmod b * P := by rw [← Int.add_mul, hdm]
      have h6 : (dval n qs.reverse + t.fdiv b * P) * b = dval n qs.reverse * b + (b * t.fdiv b) * P := by
        rw [Int.add_mul, Int.mul_comm b, Int.mul_right_comm]
      rw [h6]; lia
end Mine
end
section
open PySem PySem.W PyProof.Rows
set_option maxRecDepth 4000
namespace Mine

theorem intsOf_ints : ∀ ds : List Int, intsOf (ds.map .int) = some ds
  | [] => rfl
  | d :: r => by rw [List.map_cons, intsOf, intsOf_ints r]; rfl

theorem lt_pow_lt {a : Int} {i j : Nat} (h : a < 2 ^ i) (hij : i ≤ j) : a < 2 ^ j := by
  refine Int.lt_of_lt_of_le h ?_
  have : ((2 ^ i : Nat) : Int) ≤ ((2 ^ j : Nat) : Int) := by exact_mod_cast Nat.pow_le_pow_right (by decide) hij
  exact_mod_cast this

theorem dpos_run {Φ : Fns} (fu : Nat) {a b : Int} (ha : 0 ≤ a) (ha2 : a < 2 ^ 1300) (hb : 0 < b) (hb2 : b < 2 ^ 1000)
    (h4 : Φ 4 = phiI2D) (h5 : Φ 5 = phiD2I) (h3 : ∀ t n : Int, bitLen t - n ≤ 4000 → Φ 3 [.d (.int t), .d (.int b), .d (.int n)] = some (.d (.tuple [.int (t.fdiv b), .int (t.fmod b)]))) :
    runF Φ fu ⟨2, 9, dposC⟩ [.d (.int a), .d (.int b)] = some (.d (.tuple [.int (a.fdiv b), .int (a.fmod b)])) := by
  suffices h : ∃ ρ', cexs Φ fu dposC [iv a, iv b, .un, .un, .un, .un, .un, .un, .un] = some (ρ', .rt (.d (.tuple [.int (a.fdiv b), .int (a.fmod b)]))) by
    obtain ⟨ρ', h⟩ := h
    exact runF_rt rfl h
  refine Classical.byContradiction fun hQ => ?_
  obtain ⟨n, n1, n2, n3⟩ := bitLen_pos hb
  have n4 : n ≤ 1000 := by have := bitLen_le (Int.le_of_lt hb) hb2; lia
  have a1 : bitLen a ≤ 1300 := bitLen_le ha ha2
  obtain ⟨an, rfl⟩ : ∃ an : Nat, a = an := ⟨a.toNat, by lia⟩
  have a2 : bitLen (an : Int) + (n : Int) ≤ 2900 := by lia
  obtain ⟨i1, i2⟩ := i2N_ok n2 a2
  (refine hQ ?_; clear hQ)
  have hi2d : Φ 4 [.d (.int an), .d (.int n)] = some (.d (.list ((dig n (i2N an n) an).map .int))) := by
    rw [h4]
    show (if _ then some (V.d (.list ((dig (Int.toNat n) (i2N (Int.toNat an) (Int.toNat n)) (Int.toNat an)).map .int))) else none) = _
    rw [Int.toNat_natCast, Int.toNat_natCast, if_pos]
    simp only [Bool.and_eq_true, decide_eq_true_eq]
    lia
  have pre : ∀ {R}, cexs Φ fu [(.forR 6 (.var 3) dposB), (.rev 5), (.frz 5), (.asg 8 (.call 5 [(.var 5), (.var 2)])), (.ret (.tup [(.var 8), (.var 4)]))] [iv an, iv b, iv n, .sh (.d (.list ((dig n (i2N an n) an).map .int))), iv 0, nv [], .un, .un, .un] = R →
      cexs Φ fu dposC [iv an, iv b, .un, .un, .un, .un, .un, .un, .un] = R := fun h =>
    go_asg ((ev_bl (rv0 rfl)).trans (by rw [n1])) rfl (go_asg ((ev_call2 (rv0 rfl) (rv0 rfl)).trans hi2d) rfl (go_asg ev_c rfl (go_nx (cx_own ev_list0) h)))
  suffices h : ∃ ρ', cexs Φ fu [(.forR 6 (.var 3) dposB), (.rev 5), (.frz 5), (.asg 8 (.call 5 [(.var 5), (.var 2)])), (.ret (.tup [(.var 8), (.var 4)]))] [iv an, iv b, iv n, .sh (.d (.list ((dig n (i2N an n) an).map .int))), iv 0, nv [], .un, .un, .un] = some (ρ', .rt (.d (.tuple [.int ((an : Int).fdiv b), .int ((an : Int).fmod b)]))) from h.elim fun ρ' h => ⟨ρ', pre h⟩
  clear pre hi2d
  have hm : i2N an n ≤ 2900 := Nat.le_trans (Nat.le_mul_of_pos_left _ n2) i1
  have hdl := dig_length n (i2N an n) an
  have hdok := dig_ok n (i2N an n) an
  have hdv := dig_val n (i2N an n) an i2
  generalize dig n (i2N an n) an = ds at *
  have hrok : digOk n ds.reverse = true := by unfold digOk at hdok ⊢; rw [List.all_reverse]; exact hdok
  refine Classical.byContradiction fun hQ => ?_
  obtain ⟨qs, r', x6', x7', e1, e2, e3, e4, e5, e6⟩ := dpos_loop (Φ := Φ) (fu := fu) (a := an) (b := b) (n := n) (sl3 := .sh (.d (.list (ds.map .int)))) (x8 := .un) hb n3 n4
    (fun t t0 t1 => h3 t n (by have := bitLen_le t0 t1; lia)) ds.reverse [] 0 .un .un (Int.le_refl _) hb hrok (by simp; lia)
  (refine hQ ?_; clear hQ)
  have hcx : cex Φ fu (.forR 6 (.var 3) dposB) [iv an, iv b, iv n, .sh (.d (.list (ds.map .int))), iv 0, nv [], .un, .un, .un] = some ([iv an, iv b, iv n, .sh (.d (.list (ds.map .int))), iv r', nv qs, x6', x7', .un], .nx) := by
    refine (cx_forR (rv0 rfl) (by rw [List.length_map, hdl]; lia)).trans ?_
    rw [← List.map_reverse]
    exact e1
  clear e1
  rw [List.length_reverse] at e2
  rw [List.reverse_reverse, hdv, Int.zero_mul, Int.zero_add] at e6
  have hq : dval n qs.reverse = (an : Int).fdiv b ∧ r' = (an : Int).fmod b := by
    rw [Int.fdiv_eq_ediv_of_nonneg _ (by lia), Int.fmod_eq_emod_of_nonneg _ (by lia)]
    have := (Int.ediv_emod_unique (a := an) (b := b) (r := r') (q := dval n qs.reverse) hb).mpr ⟨by rw [e6, Int.mul_comm, Int.add_comm], e4, e5⟩
    exact ⟨this.1.symm, this.2.symm⟩
  have hd2i : Φ 5 [.d (.list (qs.reverse.map .int)), .d (.int n)] = some (.d (.int ((an : Int).fdiv b))) := by
    rw [h5]
    show (intsOf _).bind _ = _
    rw [intsOf_ints, Option.bind_some, Int.toNat_natCast, if_pos, hq.1]
    have e3' : digOk n qs.reverse = true := by unfold digOk at e3 ⊢; rw [List.all_reverse]; exact e3
    simp only [Bool.and_eq_true, decide_eq_true_eq, e3', List.length_reverse, e2, hdl]
    exact ⟨⟨by lia, i1⟩, trivial⟩
  rw [← hq.2]
  exact ⟨_, go_nx hcx (go_nx ((cx_rev rfl (by rw [List.length_map, e2, hdl]; lia)).trans (by rw [← List.map_reverse])) (go_nx (cx_frz rfl) (go_asg ((ev_call2 (rv0 rfl) (rv0 rfl)).trans hd2i) rfl (go_ret (ev_tup (evD_cons (rv0 rfl) (evD_cons (rv0 rfl) evD_nil)) (Nat.le_of_ble_eq_true rfl)) rfl))))⟩

structure Std (es : List Ent) : Prop where
  ell : es[0]? = some (.code ⟨2, 6, ellC⟩)
  strip : es[1]? = some (.code ⟨1, 6, stripC⟩)
  check : es[2]? = some (.code ⟨1, 4, checkC⟩)
  div2 : es[3]? = some (.code ⟨3, 11, div2C⟩)
  i2d : es[4]? = some (.hand phiI2D)
  d2i : es[5]? = some (.hand phiD2I)
  dpos : es[6]? = some (.code ⟨2, 9, dposC⟩)
  idiv : es[7]? = some (.code ⟨2, 4, idivC⟩)

theorem phi_code {es : List Ent} {fu f k : Nat} {F : CF} (h : es[f]? = some (.code F)) : phi es fu (k + 1) f = runF (phi es fu k) fu F := by
  rw [phi, h]
theorem phi_hand {es : List Ent} {fu f k : Nat} {φ : List V → Option V} (h : es[f]? = some (.hand φ)) : phi es fu k f = φ := by
  cases k <;> rw [phi, h]

section
variable {es : List Ent} {fu : Nat} (H : Std es) {k : Nat}
include H
theorem ell_phi {p0 pl : List Nat} {mid : List (List Nat)} {g : List Nat} (hg : g.length ≤ 1048576) (hw : (sepJ dots (p0 :: (mid ++ [pl]))).length ≤ 1000000) (hp : ∀ p ∈ p0 :: (mid ++ [pl]), 46 ∉ p) :
    phi es fu (k + 1) 0 [.d (.str (S (sepJ dots (p0 :: (mid ++ [pl]))))), .d (.str (S g))] = some (.d (.bool (ellG p0 mid pl g))) := by
  rw [phi_code H.ell]; exact ell_run _ _ _ _ _ _ hg hw hp
theorem ell0_phi {w g : List Nat} (hi : idx dots w = none) (hw : w.all (· < 0x110000) = true) (hg : g.all (· < 0x110000) = true) :
    phi es fu (k + 1) 0 [.d (.str (S w)), .d (.str (S g))] = some (.d (.bool (w == g))) := by
  rw [phi_code H.ell]; exact ell_plain _ _ _ _ hi hw hg
theorem strip_phi {us : List (List Nat)} (hw : wfU us) (hu : uOk us) (hl : us.flatten.length ≤ 1048576) :
    phi es fu (k + 1) 1 [.d (.str (S us.flatten))] = some (.d (.str (S (stripU none us).flatten))) := by
  rw [phi_code H.strip]; exact strip_run _ _ hw hu hl
theorem check_phi {us : List (List Nat)} (hw : wfU us) (hu : uOk us) (hl : us.flatten.length ≤ 1048576) :
    phi es fu (k + 2) 2 [.d (.str (S us.flatten))] = some (.d (.bool (scanU 0 (stripU none us)))) := by
  rw [phi_code H.check]; exact check_run (strip_phi H hw hu hl) hw hu hl
theorem dpos_phi {a b : Int} (ha : 0 ≤ a) (ha2 : a < 2 ^ 1300) (hb : 0 < b) (hb2 : b < 2 ^ 1000) :
    phi es fu (k + 2) 6 [.d (.int a), .d (.int b)] = some (.d (.tuple [.int (a.fdiv b), .int (a.fmod b)])) := by
  rw [phi_code H.dpos]
  refine dpos_run fu ha ha2 hb hb2 (phi_hand H.i2d) (phi_hand H.d2i) fun t n ht => ?_
  rw [phi_code H.div2]
  exact div2_run _ _ ht (by lia) (fit_of (Int.le_of_lt hb) hb2 (by decide))
omit H in
theorem z1 {b : Int} (h : b ≠ 0) : vtruth (.d (.bool (PyData.eqv (.int b) (.int 0)))) = some false := congrArg some ((eqv_int _ _).trans (beq_eq_false_iff_ne.mpr h))
omit H in
theorem idiv_neg {Φ : Fns} {a b q r : Int} (h1 : b < 0) (h : Φ 7 [.d (.int (-a)), .d (.int (-b))] = some (.d (.tuple [.int q, .int r]))) : runF Φ fu ⟨2, 4, idivC⟩ [.d (.int a), .d (.int b)] = some (.d (.tuple [.int q, .int (-r)])) :=
  runF_rt (ρ' := [iv a, iv b, iv q, iv r]) rfl (cexs_rt ((cx_if0 (ev_eq (rv0 rfl) ev_c shp_int shp_int) (z1 (Int.ne_of_lt h1))).trans (cexs_rt ((cx_if1 (ev_cmp (rv0 rfl) ev_c rfl) (congrArg some (decide_eq_true h1))).trans
    (go_nx ((cx_asgT ((ev_call2 (ev_neg (rv0 rfl)) (ev_neg (rv0 rfl))).trans h) rfl).trans rfl) (go_ret (ev_tup (evD_cons (rv0 rfl) (evD_cons (ev_neg (rv0 rfl)) evD_nil)) (Nat.le_of_ble_eq_true rfl)) rfl))))))
omit H in
theorem idiv_pos {Φ : Fns} {a b : Int} {r : Ev} {v : V} (h1 : 0 < b) (h : cex Φ fu (.ite (.cmp .Lt (.var 0) (.lit (.int (0)))) [(.asgT [2, 3] (.call 7 [(.un .Invert (.var 0)), (.var 1)])), (.ret (.tup [(.un .Invert (.var 2)), (.bin .Add (.var 1) (.un .Invert (.var 3)))]))] [(.ret (.call 6 [(.var 0), (.var 1)]))]) [iv a, iv b, .un, .un] = some (r, .rt v)) : runF Φ fu ⟨2, 4, idivC⟩ [.d (.int a), .d (.int b)] = some v :=
  runF_rt (ρ' := r) rfl (cexs_rt ((cx_if0 (ev_eq (rv0 rfl) ev_c shp_int shp_int) (z1 (Ne.symm (Int.ne_of_lt h1)))).trans (cexs_rt ((cx_if0 (ev_cmp (rv0 rfl) ev_c rfl) (congrArg some (decide_eq_false (Int.not_lt.mpr (Int.le_of_lt h1))))).trans (cexs_rt h)))))
theorem idiv_phi1 {a b : Int} (ha : 0 ≤ a) (ha2 : a < 2 ^ 1300) (hb : 0 < b) (hb2 : b < 2 ^ 1000) :
    phi es fu (k + 3) 7 [.d (.int a), .d (.int b)] = some (.d (.tuple [.int (a.fdiv b), .int (a.fmod b)])) := by
  rw [phi_code H.idiv]
  exact idiv_pos hb ((cx_if0 (ev_cmp (rv0 rfl) ev_c rfl) (congrArg some (decide_eq_false (Int.not_lt.mpr ha)))).trans (go_ret ((ev_call2 (rv0 rfl) (rv0 rfl)).trans (dpos_phi H (k := k) ha ha2 hb hb2)) rfl))
omit H in
theorem bitNot_dm {a b : Int} (hb : 0 < b) : Builtin.bitNot ((Builtin.bitNot a).fdiv b) = a.fdiv b ∧ b + Builtin.bitNot ((Builtin.bitNot a).fmod b) = a.fmod b := by
  have e : ∀ z, Builtin.bitNot z = -z - 1 := fun z => by unfold Builtin.bitNot; omega
  have hb' := Int.le_of_lt hb
  rw [e, e, e, Int.fdiv_eq_ediv_of_nonneg _ hb', Int.fmod_eq_emod_of_nonneg _ hb', Int.fdiv_eq_ediv_of_nonneg _ hb', Int.fmod_eq_emod_of_nonneg _ hb']
  have m0 := Int.emod_nonneg (-a - 1) (Ne.symm (Int.ne_of_lt hb))
  have m1 := Int.emod_lt_of_pos (-a - 1) hb
  have m2 := Int.mul_ediv_add_emod (-a - 1) b
  have := (Int.ediv_emod_unique (a := a) (b := b) (r := b + (-((-a - 1) % b) - 1)) (q := -((-a - 1) / b) - 1) hb).mpr ⟨by
    rw [Int.mul_sub, Int.mul_neg, Int.mul_one]; omega, by omega, by omega⟩
  exact ⟨this.1.symm, this.2.symm⟩
theorem idiv_phi2 {a b : Int} (ha1 : -2 ^ 1300 ≤ a) (ha2 : a < 2 ^ 1300) (hb : 0 < b) (hb2 : b < 2 ^ 1000) :
    phi es fu (k + 4) 7 [.d (.int a), .d (.int b)] = some (.d (.tuple [.int (a.fdiv b), .int (a.fmod b)])) := by
  by_cases h3 : a < 0
  · have h := idiv_phi1 H (fu := fu) (k := k) (a := Builtin.bitNot a) (b := b) (by unfold Builtin.bitNot; lia) (by unfold Builtin.bitNot; lia) hb hb2
    rw [phi_code H.idiv]
    refine idiv_pos (r := [iv a, iv b, iv ((Builtin.bitNot a).fdiv b), iv ((Builtin.bitNot a).fmod b)]) hb ((cx_if1 (ev_cmp (rv0 rfl) ev_c rfl) (congrArg some (decide_eq_true h3))).trans (go_nx ((cx_asgT ((ev_call2 (ev_not (rv0 rfl)) (rv0 rfl)).trans h) rfl).trans rfl)
      ((go_ret (ev_tup (evD_cons (ev_not (rv0 rfl)) (evD_cons ((ev_bin (rv0 rfl) (ev_not (rv0 rfl))).trans (ev_add _ _)) evD_nil)) (Nat.le_of_ble_eq_true rfl)) rfl).trans ?_)))
    rw [(bitNot_dm hb).1, (bitNot_dm hb).2]; rfl
  · exact idiv_phi1 H (k := k + 1) (Int.not_lt.mp h3) ha2 hb hb2
theorem idiv_phi {a b : Int} (ha1 : -2 ^ 1300 < a) (ha2 : a < 2 ^ 1300) (hb : b ≠ 0) (hb1 : -2 ^ 1000 < b) (hb2 : b < 2 ^ 1000) :
    phi es fu (k + 5) 7 [.d (.int a), .d (.int b)] = some (.d (.tuple [.int (a.fdiv b), .int (a.fmod b)])) := by
  by_cases h2 : b < 0
  · have h := idiv_phi2 H (fu := fu) (k := k) (a := -a) (b := -b) (by lia) (by lia) (by lia) (by lia)
    rw [Int.neg_fdiv_neg, Int.neg_fmod_neg] at h
    rw [phi_code H.idiv, idiv_neg h2 h, Int.neg_neg]
  · exact idiv_phi2 H (k := k + 1) (Int.le_of_lt ha1) ha2 (by lia) hb2
end
end Mine
end
section
open PySem PySem.W PyProof.Rows
set_option maxRecDepth 4000
namespace Mine
/-! what less is told answers more does, too: an evaluation under a table of answers holds under the functions -/
noncomputable def LeO {α : Type} (o o' : Option α) : Prop := ∀ v, o = some v → o' = some v
noncomputable def LeF (Φ Ψ : Fns) : Prop := ∀ f xs, LeO (Φ f xs) (Ψ f xs)
section
variable {α β : Type} {o o' p p' : Option α}
theorem LeO.rf : LeO o o := fun _ h => h
theorem LeO.bd {f f' : α → Option β} (h : LeO o o') (hf : ∀ a, LeO (f a) (f' a)) : LeO (o.bind f) (o'.bind f') := fun v e => (b_inv e).elim fun a e => b_of (h _ e.1) (hf a _ e.2)
theorem LeO.br {f : α → Option β} (h : LeO o o') : LeO (o.bind f) (o'.bind f) := h.bd fun _ => LeO.rf
theorem LeO.mp {f : α → β} (h : LeO o o') : LeO (o.map f) (o'.map f) := fun v e => (Option.map_eq_some_iff.mp e).elim fun a e => by rw [h _ e.1, ← e.2]; rfl
theorem LeO.it {c : Prop} [Decidable c] (h : LeO o o') (h2 : LeO p p') : LeO (if c then o else p) (if c then o' else p') := by
  by_cases q : c
  · rw [if_pos q, if_pos q]; exact h
  · rw [if_neg q, if_neg q]; exact h2
end
theorem compM_mono {t t' : PyData → Option Bool} {e e' : PyData → Option PyData} (h1 : ∀ x, LeO (t x) (t' x)) (h2 : ∀ x, LeO (e x) (e' x)) : ∀ xs, LeO (compM t e xs) (compM t' e' xs)
  | [] => LeO.rf
  | x :: r => (h1 x).bd fun _ => ((h2 x).bd fun _ => (compM_mono h1 h2 r).mp).it (compM_mono h1 h2 r)
section
variable {Φ Ψ : Fns} (H : LeF Φ Ψ)
include H
mutual
theorem ceval_mono : ∀ (e : CE) (ρ : Ev), LeO (ceval Φ e ρ) (ceval Ψ e ρ)
  | .lit _, _ => LeO.rf
  | .var _, _ => LeO.rf
  | .bin _ a b, ρ => (ceval_mono a ρ).bd fun _ => (ceval_mono b ρ).br
  | .un _ a, ρ => (ceval_mono a ρ).br
  | .cmp _ a b, ρ => (ceval_mono a ρ).bd fun _ => (ceval_mono b ρ).br
  | .cmp2 _ _ a b c, ρ => (ceval_mono a ρ).bd fun _ => (ceval_mono b ρ).bd fun _ => LeO.rf.bd fun _ => LeO.rf.bd fun _ => (ceval_mono c ρ).br.it LeO.rf
  | .boolop .And a b, ρ => (ceval_mono a ρ).bd fun _ => LeO.rf.bd fun _ => (ceval_mono b ρ).it LeO.rf
  | .boolop .Or a b, ρ => (ceval_mono a ρ).bd fun _ => LeO.rf.bd fun _ => LeO.rf.it (ceval_mono b ρ)
  | .ite t a b, ρ => (ceval_mono t ρ).bd fun _ => LeO.rf.bd fun _ => (ceval_mono a ρ).it (ceval_mono b ρ)
  | .list es, ρ => (cevalsD_mono es ρ).br
  | .tup es, ρ => (cevalsD_mono es ρ).br
  | .item a i, ρ => (ceval_mono a ρ).bd fun _ => (ceval_mono i ρ).br
  | .slice a lo hi st, ρ => (ceval_mono a ρ).bd fun _ => (cpart_mono lo ρ).bd fun _ => (cpart_mono hi ρ).bd fun _ => (cpart_mono st ρ).br
  | .call f es, ρ => (cevals_mono es ρ).bd fun xs => (H f xs).it LeO.rf
  | .prim _ es, ρ => (cevals_mono es ρ).br
  | .meth _ o es, ρ => (ceval_mono o ρ).bd fun _ => (cevals_mono es ρ).br
  | .comp _ elt it ifs, ρ => (ceval_mono it ρ).bd fun _ => LeO.rf.bd fun xs => (compM_mono (fun _ => LeO.rf.bd fun t => ctests_mono ifs (ρ ++ t)) (fun _ => LeO.rf.bd fun t => (ceval_mono elt (ρ ++ t)).br) xs).mp
theorem cevals_mono : ∀ (es : List CE) (ρ : Ev), LeO (cevals Φ es ρ) (cevals Ψ es ρ)
  | [], _ => LeO.rf
  | e :: r, ρ => (ceval_mono e ρ).bd fun _ => (cevals_mono r ρ).mp
theorem cevalsD_mono : ∀ (es : List CE) (ρ : Ev), LeO (cevalsD Φ es ρ) (cevalsD Ψ es ρ)
  | [], _ => LeO.rf
  | e :: r, ρ => (ceval_mono e ρ).bd fun _ => LeO.rf.bd fun _ => (cevalsD_mono r ρ).mp
theorem cpart_mono : ∀ (e : Option CE) (ρ : Ev), LeO (cpart Φ e ρ) (cpart Ψ e ρ)
  | none, _ => LeO.rf
  | some e, ρ => (ceval_mono e ρ).br
theorem ctests_mono : ∀ (es : List CE) (ρ : Ev), LeO (ctests Φ es ρ) (ctests Ψ es ρ)
  | [], _ => LeO.rf
  | e :: r, ρ => (ceval_mono e ρ).bd fun _ => LeO.rf.bd fun _ => (ctests_mono r ρ).it LeO.rf
end
omit H in
theorem loopW_mono {t t' : Ev → Option Bool} {b b' : Ev → Option (Ev × Fl)} (h1 : ∀ ρ, LeO (t ρ) (t' ρ)) (h2 : ∀ ρ, LeO (b ρ) (b' ρ)) : ∀ n ρ, LeO (loopW t b n ρ) (loopW t' b' n ρ)
  | 0, _ => LeO.rf
  | n + 1, ρ => (h1 ρ).bd fun _ => ((h2 ρ).bd fun p => by
      obtain ⟨ρ, fl⟩ := p
      cases fl <;> first | exact loopW_mono h1 h2 n ρ | exact LeO.rf).it LeO.rf
omit H in
theorem loopF_mono {take : PyData → Ev → Option Ev} {b b' : Ev → Option (Ev × Fl)} (h2 : ∀ ρ, LeO (b ρ) (b' ρ)) : ∀ xs ρ, LeO (loopF take b xs ρ) (loopF take b' xs ρ)
  | [], _ => LeO.rf
  | x :: r, ρ => LeO.rf.bd fun ρ₁ => (h2 ρ₁).bd fun p => by
      obtain ⟨ρ, fl⟩ := p
      cases fl <;> first | exact loopF_mono h2 r ρ | exact LeO.rf
variable {fu : Nat}
mutual
theorem cex_mono : ∀ (c : CS) (ρ : Ev), LeO (cex Φ fu c ρ) (cex Ψ fu c ρ)
  | .asg _ e, ρ => (ceval_mono H e ρ).br
  | .own _ e, ρ => (ceval_mono H e ρ).br
  | .asgT _ e, ρ => (ceval_mono H e ρ).br
  | .asgS _ e, ρ => (ceval_mono H e ρ).br
  | .stuck, _ => LeO.rf
  | .aug _ _ e, ρ => (ceval_mono H e ρ).br
  | .app _ e, ρ => (ceval_mono H e ρ).br
  | .ext _ e, ρ => (ceval_mono H e ρ).br
  | .rev _, _ => LeO.rf
  | .delAt _ _, _ => LeO.rf
  | .put _ k e, ρ => (ceval_mono H e ρ).bd fun _ => LeO.rf.bd fun _ => (ceval_mono H k ρ).br
  | .frz _, _ => LeO.rf
  | .ret e, ρ => (ceval_mono H e ρ).br
  | .assert t, ρ => (ceval_mono H t ρ).br
  | .ite t a b, ρ => (ceval_mono H t ρ).bd fun _ => LeO.rf.bd fun _ => (cexs_mono a ρ).it (cexs_mono b ρ)
  | .wh t b, ρ => loopW_mono (fun ρ => (ceval_mono H t ρ).br) (fun ρ => cexs_mono b ρ) fu ρ
  | .for1 _ it b, ρ => (ceval_mono H it ρ).bd fun _ => LeO.rf.bd fun xs => loopF_mono (fun ρ => cexs_mono b ρ) xs ρ
  | .forT _ it b, ρ => (ceval_mono H it ρ).bd fun _ => LeO.rf.bd fun xs => loopF_mono (fun ρ => cexs_mono b ρ) xs ρ
  | .forG _ _ e b, ρ => (ceval_mono H e ρ).bd fun _ => LeO.rf.bd fun _ => (loopF_mono (fun ρ => cexs_mono b ρ) _ ρ).it LeO.rf
  | .forR _ e b, ρ => (ceval_mono H e ρ).bd fun _ => LeO.rf.bd fun _ => (loopF_mono (fun ρ => cexs_mono b ρ) _ ρ).it LeO.rf
theorem cexs_mono : ∀ (cs : List CS) (ρ : Ev), LeO (cexs Φ fu cs ρ) (cexs Ψ fu cs ρ)
  | [], _ => LeO.rf
  | s :: r, ρ => (cex_mono s ρ).bd fun p => by
      obtain ⟨ρ, fl⟩ := p
      cases fl <;> first | exact cexs_mono r ρ | exact LeO.rf
end
theorem runF_mono (F : CF) (xs : List V) : LeO (runF Φ fu F xs) (runF Ψ fu F xs) := LeO.it ((cexs_mono H _ _).br) LeO.rf
end
end Mine
end
section
open PySem PySem.W PyProof.Rows PySem.StrLaws
set_option maxRecDepth 4000
namespace Mine
theorem range_vit {a b c : Int} {xs : List PyData} (h : smallR a b c = true) (h2 : rangeL a b c = xs) : vitems (.r a b c) = some xs := by
  exact (if_pos h).trans (by rw [h2])
theorem range_items {s n : Nat} {b : Int} (hb : b = (s : Int) + n) (h : s + n ≤ 100000) : vitems (.r (s : Int) b 1) = some ((List.range' s n).map fun (k : Nat) => .int (k : Int)) := by
  subst hb
  have e : Builtin.Range.rangeSize (s : Int) ((s : Int) + n) 1 = n := by
    unfold Builtin.Range.rangeSize
    rw [if_pos (by decide)]
    by_cases h0 : n = 0
    · subst h0; rw [if_neg (by lia)]; rfl
    · rw [if_pos (by lia), Int.ediv_one]; lia
  have e2 : smallR (s : Int) ((s : Int) + n) 1 = true := by
    unfold smallR rangeSz
    rw [e, Int.toNat_natCast, szOk_of (by lia), decide_eq_true (by lia), small_one (by lia) (by lia) (by lia) (by lia)]
    rfl
  have e3 : rangeL (s : Int) ((s : Int) + n) 1 = (List.range' s n).map fun (k : Nat) => .int (k : Int) := by
    unfold rangeL rangeSz
    rw [e, Int.toNat_natCast, List.range'_eq_map_range, List.map_map]
    apply List.map_congr_left
    intro k _
    simp
  exact range_vit e2 e3
theorem vi_t {xs : List PyData} {i : Int} : vitem (.d (.tuple xs)) (.d (.int i)) = if 0 ≤ i ∧ i < 2 ^ 62 then (xs[i.toNat]?).bind (fun d => some (V.d d)) else none := rfl
section
variable {Φ : Fns}
theorem ev_itemt {a i : CE} {ρ : Ev} {xs : List PyData} {j : Nat} {d : PyData} (h1 : ceval Φ a ρ = some (.d (.tuple xs))) (h2 : ceval Φ i ρ = some (.d (.int (j : Int)))) (hj : j ≤ 1048576) (h3 : xs[j]? = some d) : ceval Φ (.item a i) ρ = some (.d d) := by
  rw [ce_item, h1, h2, Option.bind_some, Option.bind_some, vi_t, if_pos ⟨Int.natCast_nonneg j, by lia⟩, Int.toNat_natCast, h3]; rfl
end
theorem clampN (a n : Nat) : max (0 : Int) (min (a : Int) (n : Int)) = ((min a n : Nat) : Int) := by
  rw [Int.max_eq_right (Int.le_min.mpr ⟨Int.natCast_nonneg _, Int.natCast_nonneg _⟩)]
  rcases Nat.le_total a n with h | h
  · rw [Nat.min_eq_left h, Int.min_eq_left (Int.ofNat_le.mpr h)]
  · rw [Nat.min_eq_right h, Int.min_eq_right (Int.ofNat_le.mpr h)]
theorem sliceRange_up (a b : Nat) : sliceRange (a : Int) (b : Int) 1 = (List.range (b - a)).map (fun k => a + k) := by
  unfold sliceRange
  simp only [show ((1 : Int) > 0) = True from by simp, if_true]
  have e : (if (a : Int) < b then ((b : Int) - a + 1 - 1) / 1 else 0).toNat = b - a := by
    rw [Int.ediv_one, Int.add_sub_cancel]
    split
    · exact Int.toNat_sub b a
    · rename_i h; rw [Nat.sub_eq_zero_of_le (Int.ofNat_le.mp (Int.not_lt.mp h))]; rfl
  rw [e]
  apply List.map_congr_left
  intro k _
  show ((a : Int) + 1 * (k : Int)).toNat = a + k
  rw [Int.one_mul, ← Int.natCast_add, Int.toNat_natCast]
theorem pick_from {α : Type} {xs : List α} {a : Nat} (h : a ≤ xs.length) : pickL xs (some (a : Int)) none none = xs.drop a := by
  have e : sliceBounds (some (a : Int)) none none xs.length = ((a : Int), (xs.length : Int), 1) := by
    unfold sliceBounds
    have h1 : ¬ ((a : Int) < 0) := by lia
    have e1 : max (0 : Int) (min (a : Int) (xs.length : Int)) = a := by lia
    simp only [Option.getD_none, h1, if_false, show ((1 : Int) > 0) = True from by simp, if_true, e1]
  unfold pickL
  rw [e, sliceRange_up, picks _ _ _ (by lia), List.take_of_length_le (by simp)]
theorem pick_to {α : Type} {xs : List α} {b : Nat} : pickL xs none (some (b : Int)) none = xs.take b := by
  have e : sliceBounds none (some (b : Int)) none xs.length = (((0 : Nat) : Int), ((min b xs.length : Nat) : Int), 1) := by
    unfold sliceBounds
    have h1 : ¬ ((b : Int) < 0) := by lia
    simp only [Option.getD_none, h1, if_false, show ((1 : Int) > 0) = True from by simp, if_true, clampN, Int.natCast_zero]
  unfold pickL
  rw [e, sliceRange_up, picks _ _ _ (by lia), List.drop_zero, Nat.sub_zero, ← List.take_eq_take_min]
theorem pick_mid {α : Type} {xs : List α} {a b : Nat} : pickL xs (some (a : Int)) (some (b : Int)) none = (xs.take b).drop a := by
  have e : sliceBounds (some (a : Int)) (some (b : Int)) none xs.length = (((min a xs.length : Nat) : Int), ((min b xs.length : Nat) : Int), 1) := by
    unfold sliceBounds
    simp only [Option.getD_none, Int.not_lt.mpr (Int.natCast_nonneg a), Int.not_lt.mpr (Int.natCast_nonneg b), if_false, show ((1 : Int) > 0) = True from by simp, if_true, clampN]
  unfold pickL
  rw [e, sliceRange_up]
  rcases Nat.le_total a (min b xs.length) with h | h
  · rw [Nat.min_eq_left (Nat.le_trans h (Nat.min_le_right _ _)), picks _ _ _ (by rw [Nat.add_sub_cancel' h]; exact Nat.min_le_right _ _), List.drop_take, List.take_eq_take_iff, List.length_drop]
    rw [← Nat.sub_min_sub_right, Nat.min_assoc, Nat.min_self]
  · rw [Nat.sub_eq_zero_of_le (Nat.le_min.mpr ⟨h, Nat.min_le_right _ _⟩), List.drop_of_length_le (by rw [List.length_take]; exact h)]; rfl
theorem vslice_from {xs : List PyData} {a : Nat} (h : xs.length ≤ 1048576) (ha : a ≤ xs.length) : vslice (.d (.list xs)) (some (a : Int)) none none = some (.d (.list (xs.drop a))) := by
  show lSlice xs _ _ _ = _
  rw [lSlice, szOk_of h, pick_from ha]; rfl
theorem vslice_to {xs : List PyData} {b : Nat} (h : xs.length ≤ 1048576) : vslice (.d (.list xs)) none (some (b : Int)) none = some (.d (.list (xs.take b))) := by
  show lSlice xs _ _ _ = _
  rw [lSlice, szOk_of h, pick_to]; rfl
theorem vslice_mid {xs : List PyData} {a b : Nat} (h : xs.length ≤ 1048576) : vslice (.d (.list xs)) (some (a : Int)) (some (b : Int)) none = some (.d (.list ((xs.take b).drop a))) := by
  show lSlice xs _ _ _ = _
  rw [lSlice, szOk_of h, pick_mid]; rfl
theorem cx_forV {Φ : Fns} {fu i : Nat} {e : CE} {b : List CS} {ρ : Ev} {v : V} {xs : List PyData} (h : ceval Φ e ρ = some v) (hv : vitems v = some xs) : cex Φ fu (.for1 i e b) ρ = loopF (takeOne i) (fun ρ => cexs Φ fu b ρ) xs ρ := by
  exact b_of h (b_of hv rfl)
theorem shp_of {d : PyData} (h1 : d.canLay0 = true) (h2 : d.depth ≤ 60) : shp d = true := by
  unfold shp SeqAt.shaped
  rw [h1, decide_eq_true (by lia)]; rfl
theorem layAll : ∀ {xs : List PyData}, (∀ x ∈ xs, x.canLay0 = true) → PyData.canLayAll0 xs = true
  | [], _ => by rw [PyData.canLayAll0]
  | x :: r, h => by rw [PyData.canLayAll0, h x List.mem_cons_self, layAll fun y hy => h y (List.mem_cons_of_mem _ hy)]; rfl
theorem depthAll_le {n : Nat} : ∀ {xs : List PyData}, (∀ x ∈ xs, x.depth ≤ n) → PyData.depthAll xs ≤ n
  | [], _ => by rw [PyData.depthAll]; lia
  | x :: r, h => by
    rw [PyData.depthAll]
    have := h x List.mem_cons_self
    have := depthAll_le fun y hy => h y (List.mem_cons_of_mem _ hy)
    lia
theorem shp_list {n : Nat} {xs : List PyData} (h : ∀ x ∈ xs, x.canLay0 = true ∧ x.depth ≤ n) (hn : n ≤ 50) : shp (.list xs) = true := by
  refine shp_of ?_ ?_
  · rw [PyData.canLay0]; exact layAll fun x hx => (h x hx).1
  · rw [PyData.depth]; have := depthAll_le fun x hx => (h x hx).2; lia
theorem shp_ints (xs : List Int) : shp (.list (xs.map .int)) = true := shp_list (n := 0) (fun x hx => by
  obtain ⟨i, _, rfl⟩ := List.mem_map.mp hx
  exact ⟨by rw [PyData.canLay0], by rw [PyData.depth]; lia⟩) (by decide)
theorem eqv_nil : ∀ xs : List PyData, PyData.eqv (.list xs) (.list []) = xs.isEmpty
  | [] => by rw [PyData.eqv, PyData.eqvAll]; rfl
  | _ :: _ => by rw [PyData.eqv, PyData.eqvAll]; rfl

noncomputable def lst (xs : List PyData) : Slot := .sh (.d (.list xs))
/-! texts of signs that stand whole: what _check_parenthesis answers -/
noncomputable def chk (o : Int) (us : List (List Nat)) : Bool := scanU o (stripU none us)
theorem chk_nil {o : Int} : chk o [] = (o == 0) := rfl
theorem chk_open {o : Int} {r : List (List Nat)} : chk o ([40] :: r) = chk (o + 1) r := by
  unfold chk; rw [stripU, if_neg (by decide), scanU, if_pos rfl]
theorem chk_close {o : Int} {r : List (List Nat)} : chk o ([41] :: r) = if o - 1 < 0 then false else chk (o - 1) r := by
  unfold chk; rw [stripU, if_neg (by decide), scanU, if_neg (by decide), if_pos rfl]
theorem chk_skip {o : Int} {u : List Nat} {r : List (List Nat)} (h1 : u ≠ [34]) (h2 : u ≠ [40]) (h3 : u ≠ [41]) : chk o (u :: r) = chk o r := by
  unfold chk; rw [stripU, if_neg h1, scanU, if_neg h2, if_neg h3]
theorem chk_quote {o : Int} {u : List Nat} {r : List (List Nat)} (h : u ≠ [34]) : chk o ([34] :: u :: [34] :: r) = chk o r := by
  unfold chk; rw [stripU, if_pos rfl, stripU, if_neg h, stripU, if_pos rfl]
theorem chk_quote0 {o : Int} {r : List (List Nat)} : chk o ([34] :: [34] :: r) = chk o r := by
  unfold chk; rw [stripU, if_pos rfl, stripU, if_pos rfl]

/-- signs that tell the reader nothing -/
structure Hid (us : List (List Nat)) : Prop where
  neu : ∀ o r, chk o (us ++ r) = chk o r
  full : ∀ u ∈ us, fullU u
  ok : uOk us
  len : us.flatten.length ≤ 1000
theorem wfU_full {us : List (List Nat)} (h : ∀ u ∈ us, fullU u) : wfU us := by
  have := wfU_app h (r := []) trivial
  rwa [List.append_nil] at this
theorem hid_nil : Hid [] := ⟨fun _ _ => rfl, fun _ h => (nomatch h), fun _ h => (nomatch h), by simp⟩
theorem Hid.app {a b : List (List Nat)} (ha : Hid a) (hb : Hid b) (hl : a.flatten.length + b.flatten.length ≤ 1000) : Hid (a ++ b) :=
  ⟨fun o r => by rw [List.append_assoc, ha.neu, hb.neu], fun u hu => (List.mem_append.mp hu).elim (ha.full u) (hb.full u), fun u hu => (List.mem_append.mp hu).elim (ha.ok u) (hb.ok u), by rw [List.flatten_append, List.length_append]; exact hl⟩
theorem full_one {c : Nat} (h : c ≠ 92) : fullU [c] := .inl ⟨c, h, rfl⟩
theorem full_two {c : Nat} : fullU [92, c] := .inr ⟨c, rfl⟩
theorem hid_q {c : Nat} (h : c ≠ 34) (h2 : c ≠ 92) (h3 : c < 0x110000) : Hid [[34], [c], [34]] := by
  refine ⟨fun o r => chk_quote (by simpa using h), fun u hu => ?_, fun u hu => ?_, by simp⟩
  · simp only [List.mem_cons, List.not_mem_nil, or_false] at hu
    rcases hu with rfl | rfl | rfl
    · exact full_one (by decide)
    · exact full_one h2
    · exact full_one (by decide)
  · simp only [List.mem_cons, List.not_mem_nil, or_false] at hu
    rcases hu with rfl | rfl | rfl <;> simp [h3]
theorem hid_b {c : Nat} (h3 : c < 0x110000) : Hid [[92, c]] := by
  refine ⟨fun o r => chk_skip (by simp) (by simp) (by simp), fun u hu => ?_, fun u hu => ?_, by simp⟩
  · rw [List.mem_singleton] at hu; subst hu; exact full_two
  · rw [List.mem_singleton] at hu; subst hu; simp [h3]

/-- brackets alone -/
noncomputable def bal : Int → List Nat → Bool
  | o, [] => o == 0
  | o, c :: r => if c = 40 then bal (o + 1) r else if o - 1 < 0 then false else bal (o - 1) r
/-- a bracket with what hides ahead of it -/
noncomputable def piece (p : List (List Nat) × Nat) : List (List Nat) := p.1 ++ [[p.2]]
noncomputable def pOk (ps : List (List (List Nat) × Nat)) : Prop := ∀ p ∈ ps, Hid p.1 ∧ (p.2 = 40 ∨ p.2 = 41)
theorem chk_pieces : ∀ (ps : List (List (List Nat) × Nat)) (o : Int), pOk ps → chk o (ps.map piece).flatten = bal o (ps.map (·.2))
  | [], o, _ => rfl
  | p :: r, o, h => by
    obtain ⟨h1, h2⟩ := h p List.mem_cons_self
    have ih := fun o => chk_pieces r o fun x hx => h x (List.mem_cons_of_mem _ hx)
    rw [List.map_cons, List.flatten_cons, List.map_cons]
    unfold piece
    rw [List.append_assoc, h1.neu, bal]
    rcases h2 with e | e
    · rw [e, if_pos rfl]; exact chk_open.trans (ih _)
    · rw [e, if_neg (by decide)]
      refine chk_close.trans ?_
      split
      · rfl
      · exact ih _
theorem pieces_full {ps : List (List (List Nat) × Nat)} (h : pOk ps) : ∀ u ∈ (ps.map piece).flatten, fullU u := fun u hu => by
  refine Classical.byContradiction fun hQ => ?_
  obtain ⟨l, hl, hu⟩ := List.mem_flatten.mp hu
  obtain ⟨p, hp, rfl⟩ := List.mem_map.mp hl
  obtain ⟨h1, h2⟩ := h p hp
  (refine hQ ?_; clear hQ)
  rcases List.mem_append.mp hu with hu | hu
  · exact h1.full u hu
  · rw [List.mem_singleton] at hu; subst hu
    rcases h2 with e | e <;> rw [e] <;> exact full_one (by decide)
theorem pieces_ok {ps : List (List (List Nat) × Nat)} (h : pOk ps) : uOk (ps.map piece).flatten := fun u hu => by
  refine Classical.byContradiction fun hQ => ?_
  obtain ⟨l, hl, hu⟩ := List.mem_flatten.mp hu
  obtain ⟨p, hp, rfl⟩ := List.mem_map.mp hl
  obtain ⟨h1, h2⟩ := h p hp
  (refine hQ ?_; clear hQ)
  rcases List.mem_append.mp hu with hu | hu
  · exact h1.ok u hu
  · rw [List.mem_singleton] at hu; subst hu
    rcases h2 with e | e <;> rw [e] <;> decide
theorem pieces_len : ∀ {ps : List (List (List Nat) × Nat)}, pOk ps → (ps.map piece).flatten.flatten.length ≤ 1001 * ps.length
  | [], _ => by simp
  | p :: r, h => by
    have h1 := (h p List.mem_cons_self).1.len
    have h2 := pieces_len fun x hx => h x (List.mem_cons_of_mem _ hx)
    rw [List.map_cons, List.flatten_cons, List.flatten_append, List.length_append]
    have : (piece p).flatten.length = p.1.flatten.length + 1 := by unfold piece; simp
    rw [this, List.length_cons]; lia
theorem check_pieces {es : List Ent} {fu : Nat} (H : Std es) {k : Nat} {ps : List (List (List Nat) × Nat)} (h : pOk ps) (hl : ps.length ≤ 1000) :
    phi es fu (k + 2) 2 [.d (.str (S (ps.map piece).flatten.flatten))] = some (.d (.bool (bal 0 (ps.map (·.2))))) := by
  have := pieces_len h
  rw [check_phi H (wfU_full (pieces_full h)) (pieces_ok h) (by lia)]
  exact congrArg (fun b => some (V.d (.bool b))) (chk_pieces ps 0 h)

/-! ints in lists -/
noncomputable def nat (n : Nat) : PyData := .int (n : Int)
noncomputable def idxN (x : Nat) : List Nat → Option Nat
  | [] => none
  | y :: r => if y = x then some 0 else (idxN x r).map (· + 1)
theorem eqv_nat (a b : Nat) : PyData.eqv (nat a) (nat b) = decide (a = b) := by
  unfold nat; rw [eqv_int, Bool.eq_iff_iff, beq_iff_eq, decide_eq_true_eq]; lia
theorem idxOf_nat (x : Nat) : ∀ w : List Nat, idxOf? (nat x) (w.map nat) = idxN x w
  | [] => rfl
  | y :: r => by
    rw [List.map_cons, idxOf?, eqv_nat, idxN, idxOf_nat x r]
    by_cases h : y = x <;> simp [h]
theorem shp_nat (n : Nat) : shp (nat n) = true := rfl
theorem all_shp_nat (w : List Nat) : (w.map nat).all shp = true := by
  rw [List.all_map]; exact List.all_eq_true.mpr fun _ _ => rfl
theorem index_nat {w : List Nat} {x i : Nat} (hl : w.length ≤ 1000) (h : idxN x w = some i) : vmeth .index (.d (.list (w.map nat))) [.d (nat x)] = some (.d (nat i)) := by
  show (if (shp (nat x) && (w.map nat).all shp && szOk (w.map nat).length) = true then (idxOf? (nat x) (w.map nat)).bind (fun (k : Nat) => some (V.d (.int k))) else none) = _
  rw [shp_nat, all_shp_nat, List.length_map, szOk_of (by lia), idxOf_nat, h]; rfl
theorem countP_nat (x : Nat) : ∀ w : List Nat, (w.map nat).countP (fun z => PyData.eqv z (nat x)) = w.count x
  | [] => rfl
  | y :: r => by
    rw [List.map_cons, List.countP_cons, countP_nat x r, eqv_nat, List.count_cons]
    by_cases h : y = x <;> simp [h]
theorem count_nat {w : List Nat} {x : Nat} (hl : w.length ≤ 1000) : vmeth .count (.d (.list (w.map nat))) [.d (nat x)] = some (.d (nat (w.count x))) := by
  show (if (shp (nat x) && (w.map nat).all shp && szOk (w.map nat).length) = true then some (V.d (.int ((w.map nat).countP fun z => PyData.eqv z (nat x) : Nat))) else none) = _
  rw [shp_nat, all_shp_nat, List.length_map, szOk_of (by lia), countP_nat]; rfl
theorem compM_map {test : PyData → Option Bool} {elt : PyData → Option PyData} {α : Type} {g h : α → PyData} : ∀ (xs : List α), (∀ x ∈ xs, test (g x) = some true ∧ elt (g x) = some (h x)) → compM test elt (xs.map g) = some (xs.map h)
  | [], _ => rfl
  | x :: r, hx => by
    obtain ⟨h1, h2⟩ := hx x List.mem_cons_self
    rw [List.map_cons, compM, h1, Option.bind_some, if_pos rfl, h2, Option.bind_some, compM_map r fun y hy => hx y (List.mem_cons_of_mem _ hy)]
    rfl
/-- a comprehension without a test over things that are told by α -/
theorem ev_comp {Φ : Fns} {ρ : Ev} {elt it : CE} {v : V} {α : Type} {g h : α → PyData} {xs : List α} (h1 : ceval Φ it ρ = some v) (h2 : vitems v = some (xs.map g)) (h3 : ∀ x ∈ xs, ceval Φ elt (ρ ++ [.sh (.d (g x))]) = some (.d (h x))) : ceval Φ (.comp 0 elt it []) ρ = some (.d (.list (xs.map h))) := by
  rw [ce_comp, h1, Option.bind_some, h2, Option.bind_some]
  have := compM_map (test := fun x => (spread 0 x).bind fun t => ctests Φ [] (ρ ++ t)) (elt := fun x => (spread 0 x).bind fun t => (ceval Φ elt (ρ ++ t)).bind toD) (g := g) (h := h) xs (fun x hx => by
    refine ⟨?_, ?_⟩
    · show (some [Slot.sh (.d (g x))]).bind _ = _
      rw [Option.bind_some, ctests]
    · show (some [Slot.sh (.d (g x))]).bind _ = _
      rw [Option.bind_some, h3 x hx]; rfl)
  rw [this]; rfl
theorem range_nat {n : Nat} (h : n ≤ 1000) : vitems (.r 0 (n : Int) 1) = some ((List.range n).map nat) := by
  have := range_items (s := 0) (n := n) (b := n) (by lia) (by lia)
  rw [List.range_eq_range']; exact this
theorem ev_range1 {Φ : Fns} {ρ : Ev} {n : Int} : ceval Φ (.prim .range1 [.lit (.int n)]) ρ = some (.r 0 n 1) := rfl

theorem ev_slto {Φ : Fns} {ρ : Ev} {a j : CE} {xs : List PyData} {n : Nat} (h : ceval Φ a ρ = some (.d (.list xs))) (h2 : ceval Φ j ρ = some (.d (nat n))) (hl : xs.length ≤ 1048576) : ceval Φ (.slice a none (some j) none) ρ = some (.d (.list (xs.take n))) := by
  rw [ce_slice, h, cp_some h2, cp_none]; exact vslice_to hl
theorem ev_slfrom {Φ : Fns} {ρ : Ev} {a i : CE} {xs : List PyData} {m : Nat} (h : ceval Φ a ρ = some (.d (.list xs))) (h1 : ceval Φ i ρ = some (.d (nat m))) (hl : xs.length ≤ 1048576) (hm : m ≤ xs.length) : ceval Φ (.slice a (some i) none none) ρ = some (.d (.list (xs.drop m))) := by
  rw [ce_slice, h, cp_some h1, cp_none]; exact vslice_from hl hm
theorem ev_addn {Φ : Fns} {ρ : Ev} {a b : CE} {x y : Nat} (h1 : ceval Φ a ρ = some (.d (nat x))) (h2 : ceval Φ b ρ = some (.d (nat y))) : ceval Φ (.bin .Add a b) ρ = some (.d (nat (x + y))) := by
  unfold nat at *; rw [ev_bin h1 h2, ev_add, Int.natCast_add]
theorem ev_itemn {Φ : Fns} {ρ : Ev} {a i : CE} {xs : List PyData} {j : Nat} {d : PyData} (h1 : ceval Φ a ρ = some (.d (.list xs))) (h2 : ceval Φ i ρ = some (.d (nat j))) (hj : j ≤ 1048576) (h3 : xs[j]? = some d) : ceval Φ (.item a i) ρ = some (.d d) :=
  ev_item h1 h2 (by rw [getIx_nat' hj]; exact h3)
theorem drop_range_get {α : Type} {f : Nat → α} {n k : Nat} (h : k < n) : ((List.range n).map f)[k]? = some (f k) := by
  rw [List.getElem?_map, List.getElem?_range h]; rfl

/-! the head of the laws: numbers and cells -/
theorem pick_map {α β : Type} (f : α → β) (xs : List α) (lo hi st : Option Int) : pickL (xs.map f) lo hi st = (pickL xs lo hi st).map f := by
  unfold pickL
  rw [List.length_map, List.map_filterMap]
  congr 1
  funext i
  rw [List.getElem?_map]
theorem pick_mem {α : Type} {xs : List α} {lo hi st : Option Int} {x : α} (h : x ∈ pickL xs lo hi st) : x ∈ xs := by
  unfold pickL at h
  obtain ⟨i, _, h⟩ := List.mem_filterMap.mp h
  exact List.mem_of_getElem? h
theorem pick_len {α : Type} {xs : List α} {a s : Nat} (hs : 1 ≤ s) : (pickL xs (some (a : Int)) none (some (s : Int))).length ≤ xs.length := by
  unfold pickL
  refine Nat.le_trans (List.length_filterMap_le _ _) ?_
  unfold sliceBounds sliceRange
  have h1 : ¬ ((a : Int) < 0) := by omega
  have h2 : ((s : Int) > 0) = True := by simp; omega
  simp only [Option.getD_some, h1, if_false, h2, if_true, List.length_map, List.length_range]
  split
  · rename_i hlt
    have h3 : ((xs.length : Int) - max 0 (min (a : Int) xs.length) + s - 1) / s ≤ xs.length := by
      apply Int.ediv_le_of_le_mul (by omega)
      have h4 : (xs.length : Int) * 1 ≤ xs.length * s := Int.mul_le_mul_of_nonneg_left (by omega) (by omega)
      have h5 : (xs.length : Int) - 1 + s ≤ xs.length * s := by
        have : ((xs.length : Int) - 1) * ((s : Int) - 1) ≥ 0 := Int.mul_nonneg (by omega) (by omega)
        rw [Int.sub_mul, Int.mul_sub, Int.one_mul, Int.mul_one] at this
        omega
      omega
    omega
  · simp
theorem sum_ok {ns : List Int} (h1 : ns.length ≤ 1000) (h2 : ∀ n ∈ ns, 0 ≤ n ∧ n < 1000000) : vprim .sum [.d (.list (ns.map .int))] = some (.d (.int ns.sum)) := by
  have hk : sumOk ns = true := by
    unfold sumOk
    rw [szOk_of (by lia), Bool.true_and, List.all_eq_true]
    intro i hi
    have := h2 i hi
    rw [decide_eq_true_eq]; lia
  show (intsOf _).bind _ = _
  rw [intsOf_ints, Option.bind_some, if_pos hk]
theorem sum_bound {ns : List Int} (h2 : ∀ n ∈ ns, 0 ≤ n ∧ n < 1000000) : 0 ≤ ns.sum ∧ ns.sum ≤ 1000000 * ns.length := by
  induction ns with
  | nil => simp
  | cons a r ih =>
    have := h2 a List.mem_cons_self
    have := ih fun n hn => h2 n (List.mem_cons_of_mem _ hn)
    rw [List.sum_cons, List.length_cons]; omega
theorem ev_modn {Φ : Fns} {ρ : Ev} {a b : CE} {x y : Nat} (h1 : ceval Φ a ρ = some (.d (nat x))) (h2 : ceval Φ b ρ = some (.d (nat y))) (h3 : 0 < y) (h4 : y ≤ 10 ^ 20) : ceval Φ (.bin .Mod a b) ρ = some (.d (nat (x % y))) := by
  unfold nat at *
  rw [ev_bin h1 h2, ev_mod (by lia) (fit_small (by rw [Int.natAbs_natCast]; exact h4)), Int.fmod_eq_emod_of_nonneg _ (by lia), Int.natCast_emod]
theorem ev_fdivn {Φ : Fns} {ρ : Ev} {a b : CE} {x y : Nat} (h1 : ceval Φ a ρ = some (.d (nat x))) (h2 : ceval Φ b ρ = some (.d (nat y))) (h3 : 0 < y) (h4 : y ≤ 10 ^ 20) : ceval Φ (.bin .FloorDiv a b) ρ = some (.d (nat (x / y))) := by
  unfold nat at *
  rw [ev_bin h1 h2, ev_fdiv (by lia) (fit_small (by rw [Int.natAbs_natCast]; exact h4)), Int.fdiv_eq_ediv_of_nonneg _ (by lia), Int.natCast_ediv]
theorem ev_muln {Φ : Fns} {ρ : Ev} {a b : CE} {x y : Nat} (h1 : ceval Φ a ρ = some (.d (nat x))) (h2 : ceval Φ b ρ = some (.d (nat y))) (h3 : x ≤ 10 ^ 20) (h4 : y ≤ 10 ^ 20) : ceval Φ (.bin .Mult a b) ρ = some (.d (nat (x * y))) := by
  unfold nat at *
  rw [ev_bin h1 h2, ev_mul (fit_small (by rw [Int.natAbs_natCast]; exact h3)) (fit_small (by rw [Int.natAbs_natCast]; exact h4)), Int.natCast_mul]
theorem ev_lit {Φ : Fns} {ρ : Ev} {n : Nat} : ceval Φ (.lit (.int (n : Int))) ρ = some (.d (nat n)) := rfl
theorem ten6 {Φ : Fns} {ρ : Ev} : ceval Φ (.bin .Pow (.lit (.int 10)) (.lit (.int 6))) ρ = some (.d (nat 1000000)) := by
  rw [ev_bin (x := .d (.int 10)) (y := .d (.int 6)) (rfl) (rfl)]
  exact ev_pow (a := 10) (n := 6) (fit_small (by decide)) (by lia)
/-- the script's numbers -/
noncomputable def nums (xs : List Int) : List Int := (xs.take 60).map fun x => x.fmod 1000000
theorem nums_ok (xs : List Int) : ∀ n ∈ nums xs, 0 ≤ n ∧ n < 1000000 := fun n hn => by
  obtain ⟨x, _, rfl⟩ := List.mem_map.mp hn
  exact ⟨Int.fmod_nonneg_of_pos _ (by decide), Int.fmod_lt_of_pos _ (by decide)⟩
theorem nums_len (xs : List Int) : (nums xs).length ≤ 60 := by unfold nums; simp; lia
theorem ev_nums {Φ : Fns} {ρ : Ev} {i : Nat} {xs : List Int} (h0 : ρ[0]? = some (.sh (.d (.list (xs.map .int))))) (hi : ρ.length = i) (hl : xs.length ≤ 1000) :
    ceval Φ (.comp 0 (.bin .Mod (.var i) (.bin .Pow (.lit (.int (10))) (.lit (.int (6))))) (.slice (.var 0) none (some (.lit (.int (60)))) none) []) ρ = some (.d (.list ((nums xs).map .int))) := by
  unfold nums
  rw [List.map_map]
  refine ev_comp (g := PyData.int) (h := fun x => PyData.int (x.fmod 1000000)) (xs := xs.take 60) (ev_slto (n := 60) (rv0 h0) ev_lit (by simp; lia)) ?_ fun x _ => ?_
  · rw [List.map_take]; exact vitems_l (by simp; lia)
  · have hx : (ρ ++ [Slot.sh (.d (.int x))])[i]? = some (.sh (.d (.int x))) := by rw [List.getElem?_append_right (by lia), hi]; simp
    rw [ev_bin (rv0 hx) ten6]
    exact ev_mod (b := 1000000) (by decide) (fit_small (by decide))
/-- the law's cells -/
noncomputable def cellOf (base : List Nat) (st : Nat) (xs : List Int) (k : Nat) : Nat := (((base.getD k 0 : Nat) : Int) + (pickL (nums xs) (some (k : Int)) none (some (st : Int))).sum).toNat % 1000000
theorem cellOf_lt (base : List Nat) (st : Nat) (xs : List Int) (k : Nat) : cellOf base st xs k < 1000000 := Nat.mod_lt _ (by decide)
theorem ev_cells {Φ : Fns} {ρ : Ev} {i st n : Nat} {xs : List Int} {base : List Nat} (h1 : ρ[1]? = some (.sh (.d (.list (base.map nat))))) (h2 : ρ[2]? = some (.sh (.d (.list ((nums xs).map .int))))) (hi : ρ.length = i) (hi3 : 3 ≤ i) (hs : 1 ≤ st) (hb : base.length = n) (hn : n ≤ 100) :
    ceval Φ (.comp 0 (.bin .Mod (.bin .Add (.item (.var 1) (.var i)) (.prim .sum [(.slice (.var 2) (some (.var i)) none (some (.lit (.int (st : Int)))))])) (.bin .Pow (.lit (.int (10))) (.lit (.int (6))))) (.prim .range1 [(.lit (.int (n : Int)))]) []) ρ = some (.d (.list ((List.range n).map fun k => nat (cellOf base st xs k)))) := by
  refine ev_comp (g := nat) (h := fun k => nat (cellOf base st xs k)) (xs := List.range n) ev_range1 (range_nat (by lia)) fun k hk => ?_
  have hkn := List.mem_range.mp hk
  have hx : (ρ ++ [Slot.sh (.d (nat k))])[i]? = some (.sh (.d (nat k))) := by rw [List.getElem?_append_right (by lia), hi]; simp
  have g1 : (ρ ++ [Slot.sh (.d (nat k))])[1]? = some (.sh (.d (.list (base.map nat)))) := by rw [List.getElem?_append_left (by lia)]; exact h1
  have g2 : (ρ ++ [Slot.sh (.d (nat k))])[2]? = some (.sh (.d (.list ((nums xs).map .int)))) := by rw [List.getElem?_append_left (by lia)]; exact h2
  have hp : ∀ n ∈ pickL (nums xs) (some (k : Int)) none (some (st : Int)), 0 ≤ n ∧ n < 1000000 := fun n hn => nums_ok xs n (pick_mem hn)
  have hpl : (pickL (nums xs) (some (k : Int)) none (some (st : Int))).length ≤ 60 := Nat.le_trans (pick_len hs) (nums_len xs)
  have hsum := sum_bound hp
  have e1 : ceval Φ (.item (.var 1) (.var i)) (ρ ++ [Slot.sh (.d (nat k))]) = some (.d (nat (base.getD k 0))) := by
    refine ev_itemn (rv0 g1) (rv0 hx) (by lia) ?_
    rw [List.getElem?_map, List.getD_eq_getElem?_getD, List.getElem?_eq_getElem (by lia)]; rfl
  have e2 : ceval Φ (.slice (.var 2) (some (.var i)) none (some (.lit (.int (st : Int))))) (ρ ++ [Slot.sh (.d (nat k))]) = some (.d (.list ((pickL (nums xs) (some (k : Int)) none (some (st : Int))).map .int))) := by
    rw [ce_slice, rv0 g2, cp_some (rv0 hx), cp_none, cp_some (m := (st : Int)) (rfl), ← pick_map]
    simp only [Option.bind_some]
    show lSlice _ _ _ _ = _
    rw [lSlice, szOk_of (by have := nums_len xs; simp; lia)]
    have hne : (some (st : Int) != some 0) = true := by simp; lia
    rw [hne]; rfl
  have e3 : ceval Φ (.prim .sum [(.slice (.var 2) (some (.var i)) none (some (.lit (.int (st : Int)))))]) (ρ ++ [Slot.sh (.d (nat k))]) = some (.d (.int (pickL (nums xs) (some (k : Int)) none (some (st : Int))).sum)) := by
    exact (ev_prim1 e2).trans (sum_ok (by lia) hp)
  unfold nat at e1
  have e4 := (ev_bin (op := .Add) e1 e3).trans (ev_add _ _)
  have e5 : (((base.getD k 0 : Nat) : Int) + (pickL (nums xs) (some (k : Int)) none (some (st : Int))).sum) = ((((base.getD k 0 : Nat) : Int) + (pickL (nums xs) (some (k : Int)) none (some (st : Int))).sum).toNat : Nat) := by lia
  rw [e5] at e4
  exact ev_modn e4 ten6 (by decide) (by decide)

theorem any_nat (x : Nat) : ∀ w : List Nat, (w.map nat).any (fun z => PyData.eqv z (nat x)) = w.contains x
  | [] => rfl
  | y :: r => by
    rw [List.map_cons, List.any_cons, any_nat x r, eqv_nat, List.contains_cons]
    congr 1
    rw [Bool.eq_iff_iff, decide_eq_true_eq, beq_iff_eq]; exact eq_comm
end Mine
end
section
open PySem PySem.W PyProof.Rows
set_option maxRecDepth 4000
namespace Mine
namespace M03
noncomputable def grownC : List CS := [(.asg 2 (.list [(.lit (.str (S []))), (.lit (.str (S [34, 40, 34]))), (.lit (.str (S [34, 41, 34]))), (.lit (.str (S [34, 92, 34, 41, 34]))), (.lit (.str (S [34, 40, 41, 34]))), (.lit (.str (S [34, 92, 92, 34])))])), (.asg 3 (.list [])), (.asg 4 (.list [])), (.for1 5 (.prim .range1 [(.var 1)]) [(.asg 6 (.bin .Mod (.item (.var 0) (.var 5)) (.bin .Add (.bin .Mult (.lit (.int (2))) (.var 5)) (.lit (.int (1)))))), (.asg 7 (.bin .Mod (.bin .FloorDiv (.item (.var 0) (.var 5)) (.bin .Add (.bin .Mult (.lit (.int (2))) (.var 5)) (.lit (.int (1))))) (.lit (.int (12))))), (.asg 8 (.ite (.cmp .Lt (.var 7) (.lit (.int (6)))) (.item (.var 2) (.var 7)) (.lit (.str (S []))))), (.asg 9 (.ite (.cmp .Gt (.var 7) (.lit (.int (5)))) (.item (.var 2) (.bin .Sub (.var 7) (.lit (.int (6))))) (.lit (.str (S []))))), (.asg 3 (.bin .Add (.bin .Add (.slice (.var 3) none (some (.var 6)) none) (.list [(.var 5), (.var 5)])) (.slice (.var 3) (some (.var 6)) none none))), (.asg 4 (.bin .Add (.bin .Add (.slice (.var 4) none (some (.var 6)) none) (.list [(.bin .Add (.var 8) (.lit (.str (S [40])))), (.bin .Add (.var 9) (.lit (.str (S [41]))))])) (.slice (.var 4) (some (.var 6)) none none)))]), (.ret (.tup [(.var 3), (.var 4)]))]
noncomputable def bareC : List CS := [(.ret (.meth .join (.lit (.str (S []))) [(.comp 0 (.ite (.cmp .In (.item (.var 0) (.var 1)) (.slice (.var 0) none (some (.var 1)) none)) (.lit (.str (S [41]))) (.lit (.str (S [40])))) (.prim .range1 [(.prim .len [(.var 0)])]) [])]))]
noncomputable def endsC : List CS := [(.asg 3 (.prim .range2 [(.lit (.int (1))), (.bin .Add (.prim .len [(.var 0)]) (.lit (.int (1))))])), (.asg 4 (.comp 0 (.call 2 [(.bin .Add (.meth .join (.lit (.str (S []))) [(.slice (.var 1) none (some (.var 6)) none)]) (.var 2))]) (.var 3) [])), (.asg 5 (.comp 0 (.cmp .Eq (.meth .count (.comp 0 (.meth .count (.slice (.var 0) none (some (.var 6)) none) [(.var 7)]) (.var 0) []) [(.lit (.int (1)))]) (.lit (.int (0)))) (.var 3) [])), (.ite (.cmp .Gt (.meth .count (.comp 0 (.cmp .Is (.item (.var 4) (.var 6)) (.item (.var 5) (.var 6))) (.prim .range1 [(.prim .len [(.var 5)])]) []) [(.lit (.bool false))]) (.lit (.int (0)))) [(.ret (.list []))] []), (.ret (.comp 0 (.var 6) (.var 3) [(.item (.var 4) (.bin .Sub (.var 6) (.lit (.int (1)))))]))]
noncomputable def textsC : List CS := [(.own 1 (.list [])), (.for1 2 (.prim .range2 [(.lit (.int (1))), (.bin .Sub (.bin .Mult (.lit (.int (2))) (.var 0)) (.lit (.int (1))))]) [(.for1 3 (.prim .range2 [(.bin .Add (.var 2) (.lit (.int (1)))), (.bin .Sub (.bin .Mult (.lit (.int (2))) (.var 0)) (.lit (.int (1))))]) [(.ite (.cmp .Eq (.var 0) (.lit (.int (3)))) [(.app 1 (.list [(.lit (.int (0))), (.var 2), (.var 3)]))] [(.ext 1 (.comp 0 (.list [(.lit (.int (0))), (.var 2), (.var 3), (.var 4)]) (.prim .range2 [(.bin .Add (.var 3) (.lit (.int (1)))), (.lit (.int (7)))]) []))])])]), (.frz 1), (.ret (.comp 0 (.meth .join (.lit (.str (S []))) [(.comp 0 (.ite (.cmp .In (.var 5) (.var 4)) (.lit (.str (S [40]))) (.lit (.str (S [41])))) (.prim .range1 [(.bin .Mult (.lit (.int (2))) (.var 0))]) [])]) (.var 1) []))]
noncomputable def sumC : List CS := [(.asg 2 (.bin .Pow (.lit (.int (2))) (.bin .Mult (.var 1) (.bin .Sub (.prim .len [(.var 0)]) (.lit (.int (1))))))), (.asg 3 (.bin .Mult (.call 5 [(.var 0), (.var 1)]) (.call 5 [(.slice (.var 0) none none (some (.un .USub (.lit (.int (1)))))), (.var 1)]))), (.asgT [4, 5] (.call 7 [(.var 3), (.var 2)])), (.asg 6 (.call 4 [(.var 4), (.var 1)])), (.asg 7 (.ite (.cmp .Gt (.var 5) (.lit (.int (0)))) (.lit (.int (1))) (.lit (.int (0))))), (.asg 8 (.list [(.call 7 [(.un .USub (.var 3)), (.var 2)]), (.call 7 [(.var 3), (.un .USub (.var 2))]), (.call 7 [(.un .USub (.var 3)), (.un .USub (.var 2))])])), (.asg 9 (.list [(.tup [(.bin .Sub (.un .USub (.var 4)) (.var 7)), (.bin .Sub (.bin .Mult (.var 2) (.var 7)) (.var 5))]), (.tup [(.bin .Sub (.un .USub (.var 4)) (.var 7)), (.bin .Sub (.var 5) (.bin .Mult (.var 2) (.var 7)))]), (.tup [(.var 4), (.un .USub (.var 5))])])), (.ite (.boolop .Or (.cmp .NotEq (.var 8) (.var 9)) (.un .Not (.prim .isList [(.var 6)]))) [(.ret (.un .USub (.lit (.int (1)))))] []), (.asg 10 (.item (.call 7 [(.var 4), (.bin .Sub (.bin .Pow (.lit (.int (2))) (.var 1)) (.lit (.int (1))))]) (.lit (.int (1))))), (.ret (.ite (.boolop .And (.cmp .Eq (.var 5) (.call 5 [(.slice (.var 6) none (some (.lit (.int (0)))) (some (.un .USub (.lit (.int (1)))))), (.var 1)])) (.cmp .Eq (.var 10) (.prim .sum [(.var 6)]))) (.var 10) (.un .USub (.lit (.int (1))))))]
noncomputable def lawC : List CS := [(.asg 1 (.list [(.lit (.int (1))), (.lit (.int (29))), (.lit (.int (28))), (.lit (.int (61))), (.lit (.int (3))), (.lit (.int (0)))])), (.asg 2 (.comp 0 (.bin .Mod (.var 28) (.bin .Pow (.lit (.int (10))) (.lit (.int (6))))) (.slice (.var 0) none (some (.lit (.int (60)))) none) [])), (.asg 3 (.comp 0 (.bin .Mod (.bin .Add (.item (.var 1) (.var 28)) (.prim .sum [(.slice (.var 2) (some (.var 28)) none (some (.lit (.int (6)))))])) (.bin .Pow (.lit (.int (10))) (.lit (.int (6))))) (.prim .range1 [(.lit (.int (6)))]) [])), (.asg 4 (.bin .Add (.lit (.int (5))) (.bin .Mod (.item (.var 3) (.lit (.int (4)))) (.lit (.int (60)))))), (.asg 5 (.item (.list [(.lit (.str (S []))), (.lit (.str (S [46, 46, 46])))]) (.bin .Mod (.item (.var 3) (.lit (.int (5)))) (.lit (.int (2)))))), (.asg 6 (.item (.list [(.lit (.str (S [92, 40]))), (.lit (.str (S [92, 41]))), (.lit (.str (S [92, 41, 34]))), (.lit (.str (S [92, 40, 92]))), (.lit (.str (S [92, 92, 34, 41, 34, 92, 40]))), (.lit (.str (S [34, 92, 34, 92, 40])))]) (.bin .Mod (.bin .FloorDiv (.item (.var 3) (.lit (.int (5)))) (.lit (.int (2)))) (.lit (.int (6)))))), (.asgT [7, 8] (.call 8 [(.var 3), (.lit (.int (3)))])), (.asgT [9, 10] (.call 8 [(.var 3), (.lit (.int (4)))])), (.asg 11 (.bin .Add (.list [(.lit (.int (0)))]) (.call 10 [(.var 7), (.var 8), (.var 6)]))), (.asg 12 (.bin .Add (.list [(.lit (.int (0)))]) (.call 10 [(.var 9), (.var 10), (.var 6)]))), (.asg 13 (.comp 0 (.call 1 [(.bin .Add (.bin .Add (.lit (.str (S [92, 34]))) (.meth .join (.lit (.str (S []))) [(.var 28)])) (.lit (.str (S [92, 34, 34, 40]))))]) (.list [(.var 8), (.var 10)]) [])), (.ite (.boolop .Or (.cmp .NotEq (.var 13) (.comp 0 (.bin .Add (.bin .Add (.lit (.str (S [92, 34]))) (.call 9 [(.var 28)])) (.lit (.str (S [92, 34, 34, 40])))) (.list [(.var 7), (.var 9)]) [])) (.boolop .Or (.cmp .NotEq (.item (.var 11) (.un .USub (.lit (.int (1))))) (.lit (.int (6)))) (.cmp .NotEq (.item (.var 12) (.un .USub (.lit (.int (1))))) (.lit (.int (8)))))) [(.ret (.lit (.bool false)))] []), (.asgT [14, 15] (.comp 0 (.slice (.var 28) (some (.lit (.int (2)))) (some (.un .USub (.lit (.int (4))))) none) (.var 13) [])), (.asg 16 (.comp 0 (.var 28) (.call 11 [(.lit (.int (3)))]) [(.cmp .Is (.call 2 [(.var 28)]) (.lit (.bool true)))])), (.asg 17 (.comp 0 (.var 28) (.call 11 [(.lit (.int (4)))]) [(.cmp .Is (.call 2 [(.var 28)]) (.lit (.bool true)))])), (.asg 18 (.meth .join (.lit (.str (S [46, 46, 46]))) [(.prim .listOf [(.var 14)])])), (.asg 19 (.comp 0 (.call 0 [(.bin .Add (.bin .Add (.var 5) (.var 18)) (.var 5)), (.var 28)]) (.var 17) [])), (.asg 20 (.comp 0 (.call 0 [(.bin .Add (.bin .Add (.var 5) (.meth .join (.lit (.str (S [46, 46, 46]))) [(.prim .listOf [(.var 28)])])) (.var 5)), (.var 15)]) (.var 16) [])), (.asg 21 (.comp 0 (.call 0 [(.bin .Add (.bin .Add (.var 5) (.var 18)) (.var 5)), (.var 28)]) (.var 16) [])), (.asg 22 (.comp 0 (.call 0 [(.var 14), (.var 28)]) (.var 16) [])), (.asg 23 (.list [(.call 0 [(.var 18), (.bin .Add (.lit (.str (S [41, 10]))) (.var 15))]), (.call 0 [(.var 18), (.bin .Add (.var 15) (.lit (.str (S [10, 40]))))])])), (.asg 24 (.call 0 [(.bin .Add (.bin .Add (.lit (.str (S [46, 46, 46]))) (.var 18)) (.lit (.str (S [46, 46, 46])))), (.meth .join (.lit (.str (S [10]))) [(.bin .Add (.bin .Add (.list [(.lit (.str (S [41])))]) (.prim .listOf [(.var 15)])) (.list [(.lit (.str (S [40])))]))])])), (.ite (.boolop .Or (.cmp .NotEq (.prim .len [(.var 16)]) (.lit (.int (5)))) (.boolop .Or (.cmp .NotEq (.prim .len [(.var 17)]) (.lit (.int (14)))) (.cmp .Gt (.meth .count (.comp 0 (.boolop .Or (.cmp .Is (.var 28) (.lit (.bool true))) (.cmp .Is (.var 28) (.lit (.bool false)))) (.bin .Add (.bin .Add (.bin .Add (.var 19) (.var 20)) (.var 21)) (.var 22)) []) [(.lit (.bool false))]) (.lit (.int (0)))))) [(.ret (.lit (.bool false)))] []), (.ite (.boolop .Or (.cmp .NotEq (.var 21) (.comp 0 (.cmp .Eq (.var 28) (.var 14)) (.var 16) [])) (.boolop .Or (.cmp .NotEq (.var 22) (.var 21)) (.un .Not (.item (.var 19) (.meth .index (.var 17) [(.var 15)]))))) [(.ret (.lit (.bool false)))] []), (.ite (.boolop .Or (.cmp .NotEq (.comp 0 (.cmp .Is (.var 28) (.lit (.bool false))) (.var 23) []) (.list [(.lit (.bool true)), (.lit (.bool true))])) (.cmp .IsNot (.var 24) (.lit (.bool true)))) [(.ret (.lit (.bool false)))] []), (.asg 25 (.comp 0 (.bin .FloorDiv (.bin .Sub (.item (.var 11) (.bin .Add (.var 28) (.lit (.int (1))))) (.item (.var 11) (.var 28))) (.lit (.int (2)))) (.prim .range1 [(.bin .Sub (.prim .len [(.var 11)]) (.lit (.int (1))))]) [])), (.asg 26 (.comp 0 (.meth .count (.slice (.var 15) (some (.item (.var 12) (.var 28))) (some (.item (.var 12) (.bin .Add (.var 28) (.lit (.int (1)))))) none) [(.lit (.str (S [40, 41])))]) (.prim .range1 [(.bin .Sub (.prim .len [(.var 12)]) (.lit (.int (1))))]) [])), (.asg 27 (.prim .len [(.comp 0 (.var 28) (.prim .range1 [(.lit (.int (6)))]) [(.cmp .In (.slice (.var 15) (some (.var 28)) (some (.bin .Add (.var 28) (.lit (.int (3))))) none) (.list [(.lit (.str (S [40, 41, 40]))), (.lit (.str (S [41, 40, 41])))]))])])), (.ret (.cmp .Eq (.list [(.meth .count (.var 19) [(.lit (.bool true))]), (.meth .count (.var 20) [(.lit (.bool true))])]) (.list [(.bin .Add (.lit (.int (1))) (.call 12 [(.var 25), (.var 4)])), (.bin .Sub (.call 12 [(.var 26), (.var 4)]) (.var 27))])))]
end M03
end Mine
end
section
open PySem PySem.W PyProof.Rows PySem.StrLaws
set_option maxRecDepth 8000
namespace Mine
namespace M03
noncomputable abbrev Pl := Nat × Nat × Nat
noncomputable def plc (p : Pl) (k : Nat) : Nat := [0, p.1, p.2.1, p.2.2].getD k 0
noncomputable def ins {α : Type} (l : List α) (p : Nat) (x : List α) : List α := l.take p ++ x ++ l.drop p
noncomputable def nm (p : Pl) : Nat → List Nat
  | 0 => []
  | k + 1 => ins (nm p k) (plc p k) [k, k]
noncomputable def br (p : Pl) : Nat → List Nat
  | 0 => []
  | k + 1 => ins (br p k) (plc p k) [40, 41]
noncomputable def Ps : List Pl := (List.range 3).flatMap fun a => (List.range 5).flatMap fun b => (List.range 7).map fun c => (a, b, c)
noncomputable def strsV (ls : List (List Nat)) : PyData := .list (ls.map fun p => .str (S p))
noncomputable def texL (n : Nat) (ts : List (List Nat)) : List (List Nat) := ts.map fun t => (List.range n).map fun i => if t.contains i then 40 else 41
noncomputable def T3 : List (List Nat) := texL 6 [[0, 1, 2], [0, 1, 3], [0, 1, 4], [0, 2, 3], [0, 2, 4], [0, 3, 4]]
noncomputable def T4 : List (List Nat) := texL 8 ((List.range' 1 6).flatMap fun a => (List.range' (a + 1) (6 - a)).flatMap fun b => (List.range' (b + 1) (6 - b)).map fun c => [0, a, b, c])
noncomputable def okS (o : Option V) (l : List Nat) : Bool := ((o.bind asStr).map fun x => x.cps.toList) == some l
theorem okS_eq {o : Option V} {l : List Nat} (h : okS o l = true) : o = some (.d (.str (S l))) := by
  have h := eq_of_beq h
  obtain ⟨x, h1, h2⟩ := Option.map_eq_some_iff.mp h
  obtain ⟨v, h3, h4⟩ := b_inv h1
  rw [h3, asStr_eq h4, ← h2, S_cps]
section
variable (Φ : Fns) (fu : Nat)
theorem texts3 : runF Φ fu ⟨1, 4, textsC⟩ [.d (.int 3)] = some (.d (strsV T3)) := by kernel_rfl
theorem texts4 : runF Φ fu ⟨1, 4, textsC⟩ [.d (.int 4)] = some (.d (strsV T4)) := by kernel_rfl
end
end M03
end Mine
end
section
open PySem PySem.W PyProof.Rows PySem.StrLaws
set_option maxRecDepth 8000
namespace Mine
/-! tables of answers, for evaluation by the kernel -/
noncomputable def cut : Nat → List Nat → List Nat → List (List Nat)
  | _, acc, [] => [acc]
  | k + 1, acc, _ :: r => cut k acc r
  | 0, acc, c :: r => if dots.isPrefixOf (c :: r) then acc :: cut 2 [] r else cut 0 (acc ++ [c]) r
noncomputable def okL (l : List Nat) : Bool := l.all (· < 0x110000)
noncomputable def ellT2 (w g : List Nat) : List (List Nat) → Option Bool
  | [] => none
  | p0 :: r => if sepJ dots (p0 :: (r.dropLast ++ [r.getLast?.getD []])) == w && (p0 :: (r.dropLast ++ [r.getLast?.getD []])).all (fun p => !p.contains 46) && decide (g.length ≤ 1000) && decide (w.length ≤ 1000) then some (ellG p0 r.dropLast (r.getLast?.getD []) g) else none
noncomputable def ellT (w g : List Nat) : Option Bool := if (idx dots w).isNone then (if okL w && okL g then some (w == g) else none) else ellT2 w g (cut 0 [] w)
noncomputable def chkT (t : List Nat) : Option Bool := if (t.all fun c => c != 34 && c != 92 && decide (c < 0x110000)) && decide (t.length ≤ 1000) then some (scanU 0 (t.map fun c => [c])) else none
noncomputable def idivT (a b : Int) : Option PyData := if decide (a.natAbs < 2 ^ 1000) && decide (b.natAbs < 2 ^ 900) && b != 0 then some (.tuple [.int (a.fdiv b), .int (a.fmod b)]) else none
noncomputable def T1 : Fns := fun f xs => match f with
  | 0 => (arg2 xs).bind fun p => (asStr p.1).bind fun w => (asStr p.2).bind fun g => (ellT w.cps.toList g.cps.toList).map fun b => .d (.bool b)
  | 2 => (arg1 xs).bind fun v => (asStr v).bind fun t => (chkT t.cps.toList).map fun b => .d (.bool b)
  | 4 => phiI2D xs
  | 5 => phiD2I xs
  | 7 => (arg2 xs).bind fun p => (asInt p.1).bind fun a => (asInt p.2).bind fun b => (idivT a b).map .d
  | _ => none
theorem flat_one : ∀ t : List Nat, (t.map fun c => [c]).flatten = t
  | [] => rfl
  | c :: r => by rw [List.map_cons, List.flatten_cons, flat_one r]; rfl
section
variable {es : List Ent} {fu : Nat} (H : Std es) {k : Nat}
include H
theorem ell_T {w g : List Nat} {b : Bool} (h : ellT w g = some b) : phi es fu (k + 1) 0 [.d (.str (S w)), .d (.str (S g))] = some (.d (.bool b)) := by
  unfold ellT at h
  by_cases q : (idx dots w).isNone = true
  · rw [if_pos q] at h
    obtain ⟨h1, h2⟩ := if_inv h
    obtain ⟨h3, h4⟩ := Bool.and_eq_true_iff.mp h1
    rw [← h2]
    exact ell0_phi H (Option.isNone_iff_eq_none.mp q) h3 h4
  · rw [if_neg q] at h
    cases hc : cut 0 [] w with
    | nil => rw [hc] at h; cases h
    | cons p0 r =>
      rw [hc] at h
      obtain ⟨h1, h2⟩ := if_inv h
      rw [Bool.and_eq_true, Bool.and_eq_true, Bool.and_eq_true, decide_eq_true_eq, decide_eq_true_eq] at h1
      obtain ⟨⟨⟨h3, h4⟩, h5⟩, h6⟩ := h1
      have h3 := eq_of_beq h3
      rw [← h2, ← h3]
      exact ell_phi H (by lia) (by rw [h3]; lia) fun p hp q => by
        have := List.all_eq_true.mp h4 p hp
        rw [List.contains_iff_mem.mpr q] at this
        cases this
theorem chk_T {t : List Nat} {b : Bool} (h : chkT t = some b) : phi es fu (k + 2) 2 [.d (.str (S t))] = some (.d (.bool b)) := by
  obtain ⟨h1, h2⟩ := if_inv h
  obtain ⟨h3, h4⟩ := Bool.and_eq_true_iff.mp h1
  have h4 := of_decide_eq_true h4
  have hc : ∀ c ∈ t, c ≠ 34 ∧ c ≠ 92 ∧ c < 0x110000 := fun c hc => by
    have := List.all_eq_true.mp h3 c hc
    rw [Bool.and_eq_true, Bool.and_eq_true, decide_eq_true_eq, bne_iff_ne, bne_iff_ne] at this
    exact ⟨this.1.1, this.1.2, this.2⟩
  have hf := flat_one t
  have hw : wfU (t.map fun c => [c]) := wfU_full fun u hu => by
    obtain ⟨c, h, rfl⟩ := List.mem_map.mp hu
    exact full_one (hc c h).2.1
  have hu : uOk (t.map fun c => [c]) := fun u hu => by
    obtain ⟨c, h, rfl⟩ := List.mem_map.mp hu
    exact ⟨Nat.le_refl _, List.all_eq_true.mpr fun x hx => by rw [List.mem_singleton.mp hx]; exact decide_eq_true (hc c h).2.2⟩
  have := check_phi H (fu := fu) (k := k) hw hu (by rw [hf]; lia)
  rw [hf] at this
  rw [this, ← h2, stripU_free]
  intro q
  obtain ⟨c, h, e⟩ := List.mem_map.mp q
  exact (hc c h).1 (List.cons.inj e).1
theorem idiv_T {a b : Int} {d : PyData} (h : idivT a b = some d) : phi es fu (k + 5) 7 [.d (.int a), .d (.int b)] = some (.d d) := by
  obtain ⟨h1, h2⟩ := if_inv h
  rw [Bool.and_eq_true, Bool.and_eq_true, decide_eq_true_eq, decide_eq_true_eq, bne_iff_ne] at h1
  have e1 : (2 : Nat) ^ 1000 ≤ 2 ^ 1300 := Nat.pow_le_pow_right (by decide) (by decide)
  have e2 : (2 : Nat) ^ 900 ≤ 2 ^ 1000 := Nat.pow_le_pow_right (by decide) (by decide)
  obtain ⟨⟨h3, h4⟩, h5⟩ := h1
  rw [← h2]
  have b1 : a.natAbs < 2 ^ 1300 := Nat.lt_of_lt_of_le h3 e1
  have b2 : b.natAbs < 2 ^ 1000 := Nat.lt_of_lt_of_le h4 e2
  clear h3 h4 e1 e2
  exact idiv_phi H (by omega) (by omega) h5 (by omega) (by omega)
theorem T1_le : LeF T1 (phi es fu (k + 5)) := fun f xs v h => by
  rcases f with _ | _ | _ | _ | _ | _ | _ | _ | f
  · obtain ⟨p, h1, h⟩ := b_inv h
    obtain ⟨w, h2, h⟩ := b_inv h
    obtain ⟨g, h3, h⟩ := b_inv h
    obtain ⟨b, h4, h⟩ := Option.map_eq_some_iff.mp h
    rw [arg2_eq h1, asStr_eq h2, asStr_eq h3, ← h]
    exact ell_T H (k := k + 4) h4
  · cases h
  · obtain ⟨p, h1, h⟩ := b_inv h
    obtain ⟨t, h2, h⟩ := b_inv h
    obtain ⟨b, h4, h⟩ := Option.map_eq_some_iff.mp h
    rw [arg1_eq h1, asStr_eq h2, ← h]
    exact chk_T H (k := k + 3) h4
  · cases h
  · rw [phi_hand H.i2d]; exact h
  · rw [phi_hand H.d2i]; exact h
  · cases h
  · obtain ⟨p, h1, h⟩ := b_inv h
    obtain ⟨a, h2, h⟩ := b_inv h
    obtain ⟨b, h3, h⟩ := b_inv h
    obtain ⟨d, h4, h⟩ := Option.map_eq_some_iff.mp h
    rw [arg2_eq h1, asInt_eq h2, asInt_eq h3, ← h]
    exact idiv_T H h4
  · cases h
end
namespace M03
noncomputable def sumF (ps : List Nat) : Int := (((List.range ps.length).map fun i => ((List.range (i + 1)).map fun j => ps.getD i 0 * ps.getD j 0).sum).sum : Nat)
noncomputable def okI (o : Option V) (i : Int) : Bool := (o.bind asInt) == some i
theorem okI_eq {o : Option V} {l : Int} (h : okI o l = true) : o = some (.d (.int l)) := by
  have h := eq_of_beq h
  obtain ⟨v, h3, h4⟩ := b_inv h
  rw [h3, asInt_eq h4]
noncomputable def sumPs : List (List Nat) := [[1], [2], [3], [1, 1], [1, 2], [2, 1], [1, 1, 1], [1, 1, 1, 1]]
end M03
end Mine
end
section
open PySem PySem.W PyProof.Rows PySem.StrLaws
set_option maxRecDepth 8000
namespace Mine
namespace M03
/-! the rows, grown pair by pair -/
noncomputable def hU : List (List (List Nat)) := [[], [[34], [40], [34]], [[34], [41], [34]], [[34], [92, 34], [41], [34]], [[34], [40], [41], [34]], [[34], [92, 92], [34]]]
noncomputable def hu (m : Nat) : List (List Nat) := if m < 6 then hU.getD m [] else []
noncomputable def more (c : Nat → Nat) (k : Nat) : Nat := c k / (2 * k + 1) % 12
noncomputable def gp (c : Nat → Nat) (p : Pl) : Nat → List (List (List Nat) × Nat)
  | 0 => []
  | k + 1 => ins (gp c p k) (plc p k) [(hu (more c k), 40), (if 5 < more c k then hu (more c k - 6) else [], 41)]
noncomputable def pvs (ps : List (List (List Nat) × Nat)) : List PyData := ps.map fun q => .str (S (piece q).flatten)
noncomputable def hidv : Slot := lst (hU.map fun u => .str (S u.flatten))
noncomputable def grownB : List CS := [(.asg 6 (.bin .Mod (.item (.var 0) (.var 5)) (.bin .Add (.bin .Mult (.lit (.int (2))) (.var 5)) (.lit (.int (1)))))), (.asg 7 (.bin .Mod (.bin .FloorDiv (.item (.var 0) (.var 5)) (.bin .Add (.bin .Mult (.lit (.int (2))) (.var 5)) (.lit (.int (1))))) (.lit (.int (12))))), (.asg 8 (.ite (.cmp .Lt (.var 7) (.lit (.int (6)))) (.item (.var 2) (.var 7)) (.lit (.str (S []))))), (.asg 9 (.ite (.cmp .Gt (.var 7) (.lit (.int (5)))) (.item (.var 2) (.bin .Sub (.var 7) (.lit (.int (6))))) (.lit (.str (S []))))), (.asg 3 (.bin .Add (.bin .Add (.slice (.var 3) none (some (.var 6)) none) (.list [(.var 5), (.var 5)])) (.slice (.var 3) (some (.var 6)) none none))), (.asg 4 (.bin .Add (.bin .Add (.slice (.var 4) none (some (.var 6)) none) (.list [(.bin .Add (.var 8) (.lit (.str (S [40])))), (.bin .Add (.var 9) (.lit (.str (S [41]))))])) (.slice (.var 4) (some (.var 6)) none none)))]
theorem ins_len {α : Type} {l x : List α} {p : Nat} : (ins l p x).length = l.length + x.length := by
  have := congrArg List.length (List.take_append_drop p l)
  unfold ins
  rw [List.length_append] at this
  rw [List.length_append, List.length_append]; lia
theorem ins_map {α β : Type} (f : α → β) {l x : List α} {p : Nat} : (ins l p x).map f = ins (l.map f) p (x.map f) := by
  unfold ins; rw [List.map_append, List.map_append, List.map_take, List.map_drop]
theorem nm_len (p : Pl) : ∀ k, (nm p k).length = 2 * k
  | 0 => rfl
  | k + 1 => by rw [nm, ins_len, nm_len p k]; rfl
theorem gp_len (c : Nat → Nat) (p : Pl) : ∀ k, (gp c p k).length = 2 * k
  | 0 => rfl
  | k + 1 => by rw [gp, ins_len, gp_len c p k]; rfl
theorem gp_br (c : Nat → Nat) (p : Pl) : ∀ k, (gp c p k).map (·.2) = br p k
  | 0 => rfl
  | k + 1 => by rw [gp, ins_map, gp_br c p k]; rfl
theorem nm_succ {p : Pl} {s : Nat} : (nm p (s + 1)).map nat = ins ((nm p s).map nat) (plc p s) [nat s, nat s] := by rw [nm, ins_map]; rfl
theorem pvs_succ {c : Nat → Nat} {p : Pl} {s : Nat} : pvs (gp c p (s + 1)) = ins (pvs (gp c p s)) (plc p s) [.str (S ((hu (more c s)).flatten ++ [40])), .str (S ((if 5 < more c s then hu (more c s - 6) else []).flatten ++ [41]))] := by
  unfold pvs
  rw [gp, ins_map]
  unfold piece
  simp only [List.map_cons, List.map_nil, List.flatten_append, List.flatten_cons, List.flatten_nil, List.append_nil]
/-- two lists joined at a place -/
theorem ev_ins {Φ : Fns} {ρ : Ev} {a j m : CE} {xs ys : List PyData} {n : Nat} (h : ceval Φ a ρ = some (.d (.list xs))) (h2 : ceval Φ j ρ = some (.d (nat n))) (h3 : ceval Φ m ρ = some (.d (.list ys))) (hl : xs.length + ys.length ≤ 1000) (hn : n ≤ xs.length) :
    ceval Φ (.bin .Add (.bin .Add (.slice a none (some j) none) m) (.slice a (some j) none none)) ρ = some (.d (.list (ins xs n ys))) :=
  ev_catL (ev_catL (ev_slto h h2 (by lia)) h3 (by rw [List.length_take]; lia)) (ev_slfrom h h2 (by lia) hn) (by rw [List.length_append, List.length_take, List.length_drop]; lia)
theorem hid_get {m : Nat} (h : m < 6) : (hU.map fun u => PyData.str (S u.flatten))[m]? = some (.str (S (hu m).flatten)) := by
  rw [List.getElem?_map, hu, if_pos h, List.getD_eq_getElem?_getD, List.getElem?_eq_getElem (show m < hU.length from h)]; rfl
theorem hu_len (m : Nat) : (hu m).flatten.length ≤ 10 := by
  unfold hu
  split
  · rename_i h
    have : ∀ m < 6, (hU.getD m []).flatten.length ≤ 10 := by decide
    exact this m h
  · simp
theorem ev_lt {Φ : Fns} {ρ : Ev} {a b : CE} {x y : Nat} (h1 : ceval Φ a ρ = some (.d (nat x))) (h2 : ceval Φ b ρ = some (.d (nat y))) : ceval Φ (.cmp .Lt a b) ρ = some (.d (.bool (decide (x < y)))) :=
  (ev_cmp h1 h2 (k := decide ((x : Int) < y)) rfl).trans (by rw [decide_eq_decide.mpr Int.ofNat_lt])
theorem ev_gt {Φ : Fns} {ρ : Ev} {a b : CE} {x y : Nat} (h1 : ceval Φ a ρ = some (.d (nat x))) (h2 : ceval Φ b ρ = some (.d (nat y))) : ceval Φ (.cmp .Gt a b) ρ = some (.d (.bool (decide (y < x)))) :=
  (ev_cmp h1 h2 (k := decide ((x : Int) > y)) rfl).trans (by rw [decide_eq_decide.mpr (show (x : Int) > y ↔ y < x from Int.ofNat_lt)])
section
variable {Φ : Fns} {fu : Nat} {c : Nat → Nat} {p : Pl} {cs : List PyData} {pr x5 x6 x7 x8 x9 : Slot}
theorem grown_turn {s : Nat} (hcs : ∀ k, k < 4 → cs[k]? = some (nat (c k))) (hp : ∀ k, k < 4 → c k % (2 * k + 1) = plc p k) (hs : s < 4) : ∃ y6 y7 y8 y9,
    cexs Φ fu grownB [lst cs, pr, hidv, lst ((nm p s).map nat), lst (pvs (gp c p s)), .sh (.d (nat s)), x6, x7, x8, x9] = some ([lst cs, pr, hidv, lst ((nm p (s + 1)).map nat), lst (pvs (gp c p (s + 1))), .sh (.d (nat s)), y6, y7, y8, y9], .nx) := by
  have h2k : ∀ {ρ : Ev}, ρ[5]? = some (.sh (.d (nat s))) → ceval Φ (.bin .Add (.bin .Mult (.lit (.int (2))) (.var 5)) (.lit (.int (1)))) ρ = some (.d (nat (2 * s + 1))) := fun h =>
    ev_addn (ev_muln (ev_lit (n := 2)) (rv0 h) (by decide) (by lia)) (ev_lit (n := 1))
  have hle : plc p s ≤ 2 * s := by have := Nat.mod_lt (c s) (show 0 < 2 * s + 1 by lia); rw [hp s hs] at this; lia
  refine ⟨.sh (.d (nat (plc p s))), .sh (.d (nat (more c s))), sv (hu (more c s)).flatten, sv (if 5 < more c s then hu (more c s - 6) else []).flatten, ?_⟩
  unfold grownB
  refine go_asg (v := .d (nat (plc p s))) ((ev_modn (ev_itemn (rv0 rfl) (rv0 rfl) (by lia) (hcs s hs)) (h2k rfl) (by lia) (by lia)).trans (by rw [hp s hs])) rfl ?_
  refine go_asg (v := .d (nat (more c s))) (ev_modn (ev_fdivn (ev_itemn (rv0 rfl) (rv0 rfl) (by lia) (hcs s hs)) (h2k rfl) (by lia) (by lia)) (ev_lit (n := 12)) (by decide) (by decide)) rfl ?_
  have hm : more c s < 12 := Nat.mod_lt _ (by decide)
  generalize hmo : more c s = m at hm
  have hm2 : (if 5 < m then hu (m - 6) else []).flatten.length ≤ 10 := by
    split
    · exact hu_len _
    · exact Nat.zero_le _
  have e8 : ∀ {ρ : Ev}, ρ[2]? = some hidv → ρ[7]? = some (.sh (.d (nat m))) → ceval Φ (.ite (.cmp .Lt (.var 7) (.lit (.int (6)))) (.item (.var 2) (.var 7)) (.lit (.str (S [])))) ρ = some (.d (.str (S (hu m).flatten))) := fun h2 h7 => by
    refine (ev_ite (ev_lt (rv0 h7) (ev_lit (n := 6)))).trans ?_
    by_cases q : m < 6
    · rw [decide_eq_true q, if_pos rfl]; exact ev_itemn (rv0 h2) (rv0 h7) (by lia) (hid_get q)
    · rw [decide_eq_false q, if_neg (by decide), hu, if_neg q]; rfl
  have e9 : ∀ {ρ : Ev}, ρ[2]? = some hidv → ρ[7]? = some (.sh (.d (nat m))) → ceval Φ (.ite (.cmp .Gt (.var 7) (.lit (.int (5)))) (.item (.var 2) (.bin .Sub (.var 7) (.lit (.int (6))))) (.lit (.str (S [])))) ρ = some (.d (.str (S (if 5 < m then hu (m - 6) else []).flatten))) := fun h2 h7 => by
    refine (ev_ite (ev_gt (rv0 h7) (ev_lit (n := 5)))).trans ?_
    by_cases q : 5 < m
    · rw [decide_eq_true q, if_pos rfl, if_pos q]
      refine ev_itemn (j := m - 6) (rv0 h2) ((ev_bin (rv0 h7) ev_c).trans ?_) (by lia) (hid_get (by lia))
      unfold nat
      rw [ev_sub, show ((m : Int) - 6) = ((m - 6 : Nat) : Int) by lia]
    · rw [decide_eq_false q, if_neg (by decide), if_neg q]; rfl
  refine go_asg (e8 rfl rfl) rfl ?_
  refine go_asg (e9 rfl rfl) rfl ?_
  refine go_asg (ev_ins (n := plc p s) (ys := [nat s, nat s]) (rv0 rfl) (rv0 rfl) (ev_list (evD_cons (rv0 rfl) (evD_cons (rv0 rfl) evD_nil)) (show 2 ≤ 1048576 by decide)) (by rw [List.length_map, nm_len]; simp; lia) (by rw [List.length_map, nm_len]; exact hle)) rfl ?_
  refine go_asg (ev_ins (n := plc p s) (ys := [.str (S ((hu m).flatten ++ [40])), .str (S ((if 5 < m then hu (m - 6) else []).flatten ++ [41]))]) (rv0 rfl) (rv0 rfl) (ev_list (evD_cons (ev_cat (rv0 rfl) ev_c (Nat.le_trans (Nat.add_le_add_right (hu_len m) _) (show 10 + 1 ≤ 1048576 by decide))) (evD_cons (ev_cat (rv0 rfl) ev_c (Nat.le_trans (Nat.add_le_add_right hm2 _) (show 10 + 1 ≤ 1048576 by decide))) evD_nil)) (show 2 ≤ 1048576 by decide)) (by unfold pvs; rw [List.length_map, gp_len]; simp; lia) (by unfold pvs; rw [List.length_map, gp_len]; exact hle)) rfl ?_
  rw [cexs_no, pvs_succ, nm_succ, hmo]; rfl
theorem grown_loop (hcs : ∀ k, k < 4 → cs[k]? = some (nat (c k))) (hp : ∀ k, k < 4 → c k % (2 * k + 1) = plc p k) : ∀ (m s : Nat) (x5 x6 x7 x8 x9 : Slot), s + m ≤ 4 → ∃ y5 y6 y7 y8 y9,
    loopF (takeOne 5) (fun ρ => cexs Φ fu grownB ρ) ((List.range' s m).map nat) [lst cs, pr, hidv, lst ((nm p s).map nat), lst (pvs (gp c p s)), x5, x6, x7, x8, x9] = some ([lst cs, pr, hidv, lst ((nm p (s + m)).map nat), lst (pvs (gp c p (s + m))), y5, y6, y7, y8, y9], .nx)
  | 0, s, x5, x6, x7, x8, x9, _ => ⟨x5, x6, x7, x8, x9, rfl⟩
  | m + 1, s, x5, x6, x7, x8, x9, h => by
    obtain ⟨y6, y7, y8, y9, e⟩ := grown_turn (Φ := Φ) (fu := fu) (pr := pr) (x6 := x6) (x7 := x7) (x8 := x8) (x9 := x9) hcs hp (show s < 4 by lia)
    obtain ⟨z5, z6, z7, z8, z9, e'⟩ := grown_loop hcs hp m (s + 1) (.sh (.d (nat s))) y6 y7 y8 y9 (by lia)
    refine ⟨z5, z6, z7, z8, z9, ?_⟩
    rw [show s + (m + 1) = s + 1 + m by lia, ← e']
    exact b_of (show takeOne 5 (nat s) _ = some [lst cs, pr, hidv, lst ((nm p s).map nat), lst (pvs (gp c p s)), .sh (.d (nat s)), x6, x7, x8, x9] from rfl) (b_of e rfl)
theorem grown_run {n : Nat} (hcs : ∀ k, k < 4 → cs[k]? = some (nat (c k))) (hp : ∀ k, k < 4 → c k % (2 * k + 1) = plc p k) (hn : n ≤ 4) :
    runF Φ fu ⟨2, 10, grownC⟩ [.d (.list cs), .d (nat n)] = some (.d (.tuple [.list ((nm p n).map nat), .list (pvs (gp c p n))])) := by
  obtain ⟨y5, y6, y7, y8, y9, e⟩ := grown_loop (Φ := Φ) (fu := fu) (pr := .sh (.d (nat n))) hcs hp n 0 .un .un .un .un .un (by lia)
  refine runF_rt (ρ' := [lst cs, .sh (.d (nat n)), hidv, lst ((nm p n).map nat), lst (pvs (gp c p n)), y5, y6, y7, y8, y9]) rfl ?_
  show cexs Φ fu grownC [lst cs, .sh (.d (nat n)), .un, .un, .un, .un, .un, .un, .un, .un] = _
  unfold grownC
  refine go_asg (v := .d (.list (hU.map fun u => .str (S u.flatten)))) rfl rfl ?_
  refine go_asg ev_list0 rfl (go_asg ev_list0 rfl ?_)
  refine go_nx (ρ' := [lst cs, .sh (.d (nat n)), hidv, lst ((nm p n).map nat), lst (pvs (gp c p n)), y5, y6, y7, y8, y9]) ((cx_forV (v := .r 0 n 1) ((ev_prim1 (rv0 rfl)).trans rfl) (range_nat (by lia))).trans ?_) (go_ret (ev_tup (evD_cons (rv0 rfl) (evD_cons (rv0 rfl) evD_nil)) (show 2 ≤ 1048576 by decide)) rfl)
  rw [Nat.zero_add] at e
  rw [List.range_eq_range']; exact e
end
end M03
end Mine
end
section
open PySem PySem.W PyProof.Rows PySem.StrLaws
set_option maxRecDepth 8000
namespace Mine
theorem compM_filter {test : PyData → Option Bool} {elt : PyData → Option PyData} {α : Type} {g h : α → PyData} {f : α → Bool} : ∀ (xs : List α), (∀ x ∈ xs, test (g x) = some (f x) ∧ (f x = true → elt (g x) = some (h x))) → compM test elt (xs.map g) = some ((xs.filter f).map h)
  | [], _ => rfl
  | x :: r, hx => by
    obtain ⟨h1, h2⟩ := hx x List.mem_cons_self
    have ih := compM_filter r fun y hy => hx y (List.mem_cons_of_mem _ hy)
    refine b_of h1 ?_
    cases q : f x with
    | true => rw [if_pos rfl, List.filter_cons_of_pos q]; exact b_of (h2 q) (by rw [ih]; rfl)
    | false => rw [if_neg (by decide), List.filter_cons_of_neg (by rw [q]; decide)]; exact ih
/-- a comprehension with a test over things that are told by α -/
theorem ev_compF {Φ : Fns} {ρ : Ev} {elt it t : CE} {v : V} {α : Type} {g h : α → PyData} {f : α → Bool} {xs : List α} (h1 : ceval Φ it ρ = some v) (h2 : vitems v = some (xs.map g)) (h3 : ∀ x ∈ xs, ceval Φ t (ρ ++ [.sh (.d (g x))]) = some (.d (.bool (f x))))
    (h4 : ∀ x ∈ xs, f x = true → ceval Φ elt (ρ ++ [.sh (.d (g x))]) = some (.d (h x))) : ceval Φ (.comp 0 elt it [t]) ρ = some (.d (.list ((xs.filter f).map h))) := by
  refine b_of h1 (b_of h2 ?_)
  rw [compM_filter (g := g) (h := h) (f := f) xs fun x hx => ⟨?_, fun q => ?_⟩]
  · rfl
  · refine b_of (show spread 0 (g x) = some [.sh (.d (g x))] from rfl) (b_of (h3 x hx) (b_of rfl ?_))
    cases f x <;> rfl
  · exact b_of (show spread 0 (g x) = some [.sh (.d (g x))] from rfl) (b_of (h4 x hx q) rfl)
theorem ev_join0 {Φ : Fns} {ρ : Ev} {a : CE} {R : List (List Nat)} (h : ceval Φ a ρ = some (.d (.list (R.map fun p => .str (S p))))) (h1 : R.length ≤ 1048576) (h2 : R.flatten.length ≤ 1048576) : ceval Φ (.meth .join (.lit (.str (S []))) [a]) ρ = some (.d (.str (S R.flatten))) :=
  (ev_meth1 ev_c h).trans (join_flat h1 h2)
/-- what stands behind the pieces: the reader learns nothing of it -/
structure TailOk (tl : List (List Nat)) : Prop where
  neu : ∀ o, chk o tl = (o == 0)
  wf : wfU tl
  ok : uOk tl
  len : tl.flatten.length ≤ 100
theorem chk_tail {tl : List (List Nat)} (ht : TailOk tl) : ∀ (ps : List (List (List Nat) × Nat)) (o : Int), pOk ps → chk o ((ps.map piece).flatten ++ tl) = bal o (ps.map (·.2))
  | [], o, _ => ht.neu o
  | p :: r, o, h => by
    obtain ⟨h1, h2⟩ := h p List.mem_cons_self
    have ih := fun o => chk_tail ht r o fun x hx => h x (List.mem_cons_of_mem _ hx)
    rw [List.map_cons, List.flatten_cons, List.map_cons]
    unfold piece
    rw [List.append_assoc, List.append_assoc, h1.neu, bal]
    rcases h2 with e | e
    · rw [e, if_pos rfl]; exact chk_open.trans (ih _)
    · rw [e, if_neg (by decide)]
      refine chk_close.trans ?_
      split
      · rfl
      · exact ih _
theorem check_tail {es : List Ent} {fu : Nat} (H : Std es) {k : Nat} {tl : List (List Nat)} (ht : TailOk tl) {ps : List (List (List Nat) × Nat)} (h : pOk ps) (hl : ps.length ≤ 100) :
    phi es fu (k + 2) 2 [.d (.str (S ((ps.map piece).flatten ++ tl).flatten))] = some (.d (.bool (bal 0 (ps.map (·.2))))) := by
  have h1 := pieces_len h
  have h2 := ht.len
  rw [check_phi H (wfU_app (pieces_full h) ht.wf) (fun u hu => (List.mem_append.mp hu).elim (pieces_ok h u) (ht.ok u)) (by rw [List.flatten_append, List.length_append]; lia)]
  exact congrArg (fun b => some (V.d (.bool b))) (chk_tail ht ps 0 h)
theorem count_none {α : Type} {xs : List α} {Φ : Fns} {ρ : Ev} {a : CE} (h : ceval Φ a ρ = some (.d (.list (xs.map fun _ => .bool true)))) (hl : xs.length ≤ 1000) : ceval Φ (.meth .count a [(.lit (.bool false))]) ρ = some (.d (nat 0)) := by
  refine (ev_meth1 h ev_c).trans ?_
  show (if (shp (.bool false) && (xs.map fun _ => PyData.bool true).all shp && szOk (xs.map fun _ => PyData.bool true).length) = true then some (V.d (.int ((xs.map fun _ => PyData.bool true).countP fun z => PyData.eqv z (.bool false) : Nat))) else none) = _
  have e : PyData.eqv (.bool true) (.bool false) = false := by rw [PyData.eqv]; rfl
  have ha : (xs.map fun _ => PyData.bool true).all shp = true := List.all_eq_true.mpr fun x hx => by
    obtain ⟨_, _, rfl⟩ := List.mem_map.mp hx
    kernel_rfl
  rw [List.length_map, szOk_of (by lia), ha, show shp (.bool false) = true by kernel_rfl, List.countP_map]
  rw [show (fun z => PyData.eqv z (.bool false)) ∘ (fun _ : α => PyData.bool true) = fun _ => false from funext fun _ => e, List.countP_false]
  rfl
namespace M03
noncomputable def dueN (w : List Nat) (s : Nat) : Bool := decide ((w.map fun x => (w.take s).count x).count 1 = 0)
noncomputable def toldN (b : List Nat) (s : Nat) : Bool := bal 0 (b.take s)
noncomputable def endN (b : List Nat) : List Nat := (List.range' 1 b.length).filter (toldN b)
theorem ends_run {es : List Ent} {fu k : Nat} (H : Std es) {w : List Nat} {ps : List (List (List Nat) × Nat)} {tl : List (List Nat)} (ht : TailOk tl) (hp : pOk ps) (hl : ps.length = w.length) (hl2 : w.length ≤ 50) (hd : ∀ s ∈ List.range' 1 w.length, dueN w s = toldN (ps.map (·.2)) s) :
    runF (phi es fu (k + 2)) fu ⟨3, 6, endsC⟩ [.d (.list (w.map nat)), .d (.list (pvs ps)), .d (.str (S tl.flatten))] = some (.d (.list ((endN (ps.map (·.2))).map nat))) := by
  obtain ⟨told, htd⟩ : ∃ told, told = fun s => toldN (ps.map (·.2)) s := ⟨_, rfl⟩
  have bl : ∀ s, PyData.bool (dueN w s) = .bool (dueN w s) := fun _ => rfl
  have vit : vitems (.r 1 ((w.length : Int) + 1) 1) = some ((List.range' 1 w.length).map nat) := range_items (s := 1) (by lia) (by lia)
  refine runF_rt (ρ' := [lst (w.map nat), lst (pvs ps), sv tl.flatten, .sh (.r 1 ((w.length : Int) + 1) 1), lst ((List.range' 1 w.length).map fun s => .bool (told s)), lst ((List.range' 1 w.length).map fun s => .bool (told s))]) rfl ?_
  show cexs _ fu endsC [lst (w.map nat), lst (pvs ps), sv tl.flatten, .un, .un, .un] = _
  unfold endsC
  refine go_asg (v := .r 1 ((w.length : Int) + 1) 1) ((ev_prim2 ev_c (ev_ib (ev_len (rv0 rfl) (by rw [List.length_map]; lia)) ev_c (k := (w.length : Int) + 1) (by rw [List.length_map]; rfl))).trans rfl) rfl ?_
  refine go_asg (v := .d (.list ((List.range' 1 w.length).map fun s => .bool (told s)))) (ev_comp (g := nat) (h := fun s => .bool (told s)) (rv0 rfl) vit fun s hs => ?_) rfl ?_
  · have e1 : ceval (phi es fu (k + 2)) (.slice (.var 1) none (some (.var 6)) none) [lst (w.map nat), lst (pvs ps), sv tl.flatten, .sh (.r 1 ((w.length : Int) + 1) 1), .un, .un, .sh (.d (nat s))] = some (.d (.list (((ps.take s).map fun q => (piece q).flatten).map fun p => .str (S p)))) := by
      refine (ev_slto (n := s) (rv0 rfl) (rv0 rfl) (by unfold pvs; rw [List.length_map]; lia)).trans ?_
      unfold pvs
      rw [List.map_map, ← List.map_take]; rfl
    have hps : pOk (ps.take s) := fun x hx => hp x (List.mem_of_mem_take hx)
    have hfl : ((ps.take s).map fun q => (piece q).flatten).flatten = ((ps.take s).map piece).flatten.flatten := by rw [List.flatten_flatten, List.map_map]; rfl
    have hlen := pieces_len hps
    have hlt : (ps.take s).length ≤ ps.length := by rw [List.length_take]; exact Nat.min_le_right _ _
    have e2 := ev_join0 e1 (by rw [List.length_map]; lia) (by rw [hfl]; lia)
    rw [hfl] at e2
    refine (ev_call1 (ev_cat e2 (rv0 rfl) (by have := ht.len; lia)) rfl).trans ?_
    rw [← List.flatten_append, check_tail H ht hps (by lia), List.map_take, htd]; rfl
  refine go_asg (v := .d (.list ((List.range' 1 w.length).map fun s => .bool (told s)))) (ev_comp (g := nat) (h := fun s => .bool (told s)) (rv0 rfl) vit fun s hs => ?_) rfl ?_
  · have e1 : ceval (phi es fu (k + 2)) (.comp 0 (.meth .count (.slice (.var 0) none (some (.var 6)) none) [(.var 7)]) (.var 0) []) [lst (w.map nat), lst (pvs ps), sv tl.flatten, .sh (.r 1 ((w.length : Int) + 1) 1), lst ((List.range' 1 w.length).map fun s => .bool (told s)), .un, .sh (.d (nat s))] = some (.d (.list ((w.map fun x => (w.take s).count x).map nat))) := by
      rw [List.map_map]
      refine ev_comp (g := nat) (h := fun x => nat ((w.take s).count x)) (xs := w) (rv0 rfl) (vitems_l (by rw [List.length_map]; lia)) fun x hx => ?_
      have e0 : ceval (phi es fu (k + 2)) (.slice (.var 0) none (some (.var 6)) none) ([lst (w.map nat), lst (pvs ps), sv tl.flatten, .sh (.r 1 ((w.length : Int) + 1) 1), lst ((List.range' 1 w.length).map fun s => .bool (told s)), .un, .sh (.d (nat s))] ++ [.sh (.d (nat x))]) = some (.d (.list ((w.take s).map nat))) := by
        rw [List.map_take]
        exact ev_slto (n := s) (rv0 rfl) (rv0 rfl) (by rw [List.length_map]; lia)
      exact (ev_meth1 e0 (rv0 rfl)).trans (count_nat (by rw [List.length_take]; lia))
    have e2 := (ev_meth1 (m := .count) e1 (ev_lit (n := 1))).trans (count_nat (by rw [List.length_map]; lia))
    refine (ev_eq e2 (ev_lit (n := 0)) (shp_nat _) (shp_nat _)).trans ?_
    rw [eqv_nat, htd]
    exact congrArg (fun b => some (V.d (.bool b))) (hd s hs)
  refine go_nx (cx_no ((ev_gt (y := 0) (count_none (xs := List.range w.length) ?_ (by simp; lia)) (ev_lit (n := 0))).trans rfl) rfl) (go_ret (v := .d (.list ((endN (ps.map (·.2))).map nat))) ?_ rfl)
  · refine ev_comp (g := nat) (h := fun _ => .bool true) (xs := List.range w.length) (v := .r 0 (w.length : Int) 1) ?_ (range_nat (by lia)) fun x hx => ?_
    · refine (ev_prim1 (ev_len (rv0 rfl) (by simp; lia))).trans ?_
      rw [List.length_map, List.length_range']; rfl
    · have hx := List.mem_range.mp hx
      have hg : ((List.range' 1 w.length).map fun s => PyData.bool (told s))[x]? = some (.bool (told (1 + x))) := by
        rw [List.getElem?_map, List.getElem?_range' hx]
        simp
      refine (ev_is (ev_itemn (rv0 rfl) (rv0 rfl) (by lia) hg) (ev_itemn (rv0 rfl) (rv0 rfl) (by lia) hg)).trans ?_
      rw [so_bool]; simp
  · have hle : (ps.map (·.2)).length = w.length := by rw [List.length_map, hl]
    rw [endN, hle]
    refine ev_compF (g := nat) (h := nat) (f := toldN (ps.map (·.2))) (xs := List.range' 1 w.length) (v := .r 1 ((w.length : Int) + 1) 1) ?_ vit (fun s hs => ?_) (fun s _ _ => ?_)
    · exact rv0 rfl
    rotate_left
    · exact rv0 rfl
    obtain ⟨h1, h2⟩ := List.mem_range'_1.mp hs
    have e1 : ceval (phi es fu (k + 2)) (.bin .Sub (.var 6) (.lit (.int (1)))) ([lst (w.map nat), lst (pvs ps), sv tl.flatten, .sh (.r 1 ((w.length : Int) + 1) 1), lst ((List.range' 1 w.length).map fun s => .bool (told s)), lst ((List.range' 1 w.length).map fun s => .bool (told s))] ++ [.sh (.d (nat s))]) = some (.d (nat (s - 1))) := by
      refine (ev_bin (rv0 rfl) ev_c).trans ?_
      unfold nat
      rw [ev_sub, show ((s : Int) - 1) = ((s - 1 : Nat) : Int) by lia]
    refine ev_itemn (rv0 rfl) e1 (by lia) ?_
    rw [List.getElem?_map, List.getElem?_range' (by lia), htd]
    simp only [Option.map_some]
    rw [show 1 + 1 * (s - 1) = s by lia]
end M03
end Mine
end
section
open PySem PySem.W PyProof.Rows PySem.StrLaws
set_option maxRecDepth 8000
set_option maxHeartbeats 4000000
namespace Mine
namespace M03
noncomputable abbrev Q3 := List Nat × List Nat × Nat
noncomputable def prs : List (List Nat × List Nat) := [([40, 41, 40, 41, 40, 41], [40, 41, 40, 41, 40, 41, 40, 41]), ([40, 41, 40, 41, 40, 41], [40, 40, 41, 41, 40, 41, 40, 41]), ([40, 41, 40, 41, 40, 41], [40, 41, 40, 40, 41, 41, 40, 41]), ([40, 41, 40, 41, 40, 41], [40, 41, 40, 41, 40, 40, 41, 41]), ([40, 40, 41, 41, 40, 41], [40, 41, 40, 40, 41, 41, 40, 41]), ([40, 40, 41, 41, 40, 41], [40, 40, 41, 40, 41, 41, 40, 41]), ([40, 40, 41, 41, 40, 41], [40, 40, 40, 41, 41, 41, 40, 41]), ([40, 40, 41, 41, 40, 41], [40, 40, 41, 41, 40, 41, 40, 41]), ([40, 40, 41, 41, 40, 41], [40, 40, 41, 41, 40, 40, 41, 41]), ([40, 41, 40, 40, 41, 41], [40, 41, 40, 41, 40, 40, 41, 41]), ([40, 41, 40, 40, 41, 41], [40, 40, 41, 41, 40, 40, 41, 41]), ([40, 41, 40, 40, 41, 41], [40, 41, 40, 40, 41, 40, 41, 41]), ([40, 41, 40, 40, 41, 41], [40, 41, 40, 40, 40, 41, 41, 41]), ([40, 41, 40, 40, 41, 41], [40, 41, 40, 40, 41, 41, 40, 41]), ([40, 40, 41, 40, 41, 41], [40, 41, 40, 40, 41, 40, 41, 41]), ([40, 40, 41, 40, 41, 41], [40, 40, 41, 40, 41, 40, 41, 41]), ([40, 40, 41, 40, 41, 41], [40, 40, 40, 41, 41, 40, 41, 41]), ([40, 40, 41, 40, 41, 41], [40, 40, 41, 40, 40, 41, 41, 41]), ([40, 40, 41, 40, 41, 41], [40, 40, 41, 40, 41, 41, 40, 41]), ([40, 40, 40, 41, 41, 41], [40, 41, 40, 40, 40, 41, 41, 41]), ([40, 40, 40, 41, 41, 41], [40, 40, 41, 40, 40, 41, 41, 41]), ([40, 40, 40, 41, 41, 41], [40, 40, 40, 41, 40, 41, 41, 41]), ([40, 40, 40, 41, 41, 41], [40, 40, 40, 40, 41, 41, 41, 41]), ([40, 40, 40, 41, 41, 41], [40, 40, 40, 41, 41, 40, 41, 41]), ([40, 40, 40, 41, 41, 41], [40, 40, 40, 41, 41, 41, 40, 41])]
noncomputable def cases : List Q3 := prs.flatMap fun p => [(p.1, p.2, 0), (p.1, p.2, 1)]
noncomputable def rims : List Nat := [0, 1]
noncomputable def K3 : List (List Nat) := [[40, 40, 40, 41, 41, 41], [40, 40, 41, 40, 41, 41], [40, 40, 41, 41, 40, 41], [40, 41, 40, 40, 41, 41], [40, 41, 40, 41, 40, 41]]
noncomputable def K4 : List (List Nat) := [[40, 40, 40, 40, 41, 41, 41, 41], [40, 40, 40, 41, 40, 41, 41, 41], [40, 40, 40, 41, 41, 40, 41, 41], [40, 40, 40, 41, 41, 41, 40, 41], [40, 40, 41, 40, 40, 41, 41, 41], [40, 40, 41, 40, 41, 40, 41, 41], [40, 40, 41, 40, 41, 41, 40, 41], [40, 40, 41, 41, 40, 40, 41, 41], [40, 40, 41, 41, 40, 41, 40, 41], [40, 41, 40, 40, 40, 41, 41, 41], [40, 41, 40, 40, 41, 40, 41, 41], [40, 41, 40, 40, 41, 41, 40, 41], [40, 41, 40, 41, 40, 40, 41, 41], [40, 41, 40, 41, 40, 41, 40, 41]]
noncomputable def lfN (b : List Nat) : List Nat := [92, 34] ++ b ++ [92, 34, 34, 40]
noncomputable def rimN (r : Nat) : List Nat := if r = 1 then dots else []
noncomputable def wantN (l : List Nat) : List Nat := sepJ dots (l.map fun c => [c])
noncomputable def ellB (w g : List Nat) : Bool := (ellT w g).getD false
noncomputable def v19 (a : List Nat) (r : Nat) : List Bool := K4.map fun row => ellB (rimN r ++ wantN a ++ rimN r) row
noncomputable def v20 (b : List Nat) (r : Nat) : List Bool := K3.map fun row => ellB (rimN r ++ wantN row ++ rimN r) b
noncomputable def v21 (a : List Nat) : List Bool := K3.map fun row => row == a
noncomputable def stp (l : List Nat) (k : Nat) : Nat × Nat := ((0 :: endN l).getD k 0, (0 :: endN l).getD (k + 1) 0)
noncomputable def v25 (l : List Nat) : List Nat := (List.range (endN l).length).map fun k => ((stp l k).2 - (stp l k).1) / 2
noncomputable def pk (l : List Nat) : Nat := ((List.range l.length).filter fun i => l.getD i 0 == 40 && l.getD (i + 1) 0 == 41).length
noncomputable def v26 (l : List Nat) : List Nat := (List.range (endN l).length).map fun k => pk ((l.take (stp l k).2).drop (stp l k).1)
noncomputable def v27 (l : List Nat) : Nat := ((List.range 6).filter fun k => (l.take (k + 3)).drop k == [40, 41, 40] || (l.take (k + 3)).drop k == [41, 40, 41]).length
noncomputable def boolsOf : List PyData → Option (List Bool)
  | [] => some []
  | x :: r => (dBool x).bind fun i => (boolsOf r).map (i :: ·)
theorem boolsOf_map : ∀ {xs : List PyData} {bs : List Bool}, boolsOf xs = some bs → xs = bs.map .bool
  | [], bs, h => by cases h; rfl
  | x :: r, bs, h => by
    obtain ⟨i, h1, h2⟩ := b_inv h
    obtain ⟨js, h3, rfl⟩ := Option.map_eq_some_iff.mp h2
    rw [boolsOf_map h3]
    cases x <;> first | (cases h1; rfl) | cases h1
theorem strsOf_map : ∀ {xs : List PyData} {ts : List Str}, strsOf xs = some ts → xs = ts.map .str
  | [], bs, h => by cases h; rfl
  | x :: r, bs, h => by
    obtain ⟨i, h1, h2⟩ := b_inv h
    obtain ⟨js, h3, rfl⟩ := Option.map_eq_some_iff.mp h2
    rw [strsOf_map h3, dStr_eq h1]; rfl
noncomputable def okBs (o : Option V) (l : List Bool) : Bool := ((o.bind asLst).bind boolsOf) == some l
theorem okBs_eq {o : Option V} {l : List Bool} (h : okBs o l = true) : o = some (.d (.list (l.map .bool))) := by
  obtain ⟨xs, h1, h2⟩ := b_inv (eq_of_beq h)
  obtain ⟨v, h3, h4⟩ := b_inv h1
  rw [h3, asLst_eq h4, boolsOf_map h2]
noncomputable def okSs (o : Option V) (l : List (List Nat)) : Bool := (((o.bind asLst).bind strsOf).map fun ts => ts.map fun x => x.cps.toList) == some l
theorem okSs_eq {o : Option V} {l : List (List Nat)} (h : okSs o l = true) : o = some (.d (strsV l)) := by
  obtain ⟨ts, h0, h9⟩ := Option.map_eq_some_iff.mp (eq_of_beq h)
  obtain ⟨xs, h1, h2⟩ := b_inv h0
  obtain ⟨v, h3, h4⟩ := b_inv h1
  rw [h3, asLst_eq h4, strsOf_map h2, ← h9, strsV, List.map_map]
  rfl
noncomputable def okNs (o : Option V) (l : List Nat) : Bool := ((o.bind asLst).bind intsOf) == some (l.map fun (n : Nat) => (n : Int))
theorem okNs_eq {o : Option V} {l : List Nat} (h : okNs o l = true) : o = some (.d (.list (l.map nat))) := by
  obtain ⟨xs, h1, h2⟩ := b_inv (eq_of_beq h)
  obtain ⟨v, h3, h4⟩ := b_inv h1
  rw [h3, asLst_eq h4, intsOf_map h2, List.map_map]
  rfl
noncomputable def okB (o : Option V) (b : Bool) : Bool := ((o.bind toD).bind dBool) == some b
theorem okB_eq {o : Option V} {b : Bool} (h : okB o b = true) : o = some (.d (.bool b)) := by
  obtain ⟨x, h1, h2⟩ := b_inv (eq_of_beq h)
  obtain ⟨v, h3, h4⟩ := b_inv h1
  rw [h3, toD_eq h4]
  cases x <;> first | (cases h2; rfl) | cases h2
noncomputable def T2 : Fns := fun f xs => if f = 11 then (arg1 xs).bind fun v => (asInt v).bind fun n => if n = 3 then some (.d (strsV T3)) else if n = 4 then some (.d (strsV T4)) else none else T1 f xs
structure Std03 (es : List Ent) : Prop extends Std es where
  grown : es[8]? = some (.code ⟨2, 10, grownC⟩)
  bare : es[9]? = some (.code ⟨1, 1, bareC⟩)
  ends : es[10]? = some (.code ⟨3, 6, endsC⟩)
  texts : es[11]? = some (.code ⟨1, 4, textsC⟩)
  sum : es[12]? = some (.code ⟨2, 11, sumC⟩)
  law : es[13]? = some (.code ⟨1, 28, lawC⟩)
theorem T2_le {es : List Ent} (H : Std03 es) {fu k : Nat} : LeF T2 (phi es fu (k + 6)) := fun f xs v h => by
  by_cases q : f = 11
  · have h := (if_pos q).symm.trans h
    obtain ⟨u, h1, h⟩ := b_inv h
    obtain ⟨n, h2, h⟩ := b_inv h
    rw [arg1_eq h1, asInt_eq h2, q, phi_code H.texts]
    by_cases q3 : n = 3
    · rw [if_pos q3] at h; rw [q3, texts3]; exact h
    · rw [if_neg q3] at h
      obtain ⟨q4, h⟩ := ib_inv h
      rw [q4, texts4]; exact h
  · exact T1_le H.toStd (k := k + 1) f xs v ((if_neg q).symm.trans h)
theorem cx_asgTl {Φ : Fns} {fu : Nat} {ρ : Ev} {is : List Nat} {e : CE} {xs : List PyData} (h : ceval Φ e ρ = some (.d (.list xs))) (hl : xs.length = is.length) : cex Φ fu (.asgT is e) ρ = (putAll is xs ρ).map fun ρ' => (ρ', .nx) := b_of h (b_of rfl ((congrArg (fun o => Option.bind o _) (b_of (if_pos hl) rfl)).trans (b_map _ _)))
section
variable {y0 y1 y2 y3 y4 y5 y6 y7 y8 y9 y10 y11 y12 y13 y14 y15 y16 y17 y18 y19 y20 y21 y22 y23 y24 y25 y26 y27 : Slot}
theorem c12_ : (prs.all fun q => (fun a b => okSs (ceval T2 (.comp 0 (.slice (.var 28) (some (.lit (.int (2)))) (some (.un .USub (.lit (.int (4))))) none) (.var 13) []) [y0, y1, y2, y3, y4, y5, y6, y7, y8, y9, y10, y11, y12, .sh (.d (strsV [lfN a, lfN b])), y14, y15, y16, y17, y18, y19, y20, y21, y22, y23, y24, y25, y26, y27]) [a, b]) q.1 q.2) = true := by kernel_rfl
theorem c12 {a b : List Nat} (h : (a, b) ∈ prs) : ceval T2 (.comp 0 (.slice (.var 28) (some (.lit (.int (2)))) (some (.un .USub (.lit (.int (4))))) none) (.var 13) []) [y0, y1, y2, y3, y4, y5, y6, y7, y8, y9, y10, y11, y12, .sh (.d (strsV [lfN a, lfN b])), y14, y15, y16, y17, y18, y19, y20, y21, y22, y23, y24, y25, y26, y27] = some (.d (strsV [a, b])) := okSs_eq (List.all_eq_true.mp c12_ (a, b) h)
theorem c13 : ceval T2 (.comp 0 (.var 28) (.call 11 [(.lit (.int (3)))]) [(.cmp .Is (.call 2 [(.var 28)]) (.lit (.bool true)))]) [y0, y1, y2, y3, y4, y5, y6, y7, y8, y9, y10, y11, y12, y13, y14, y15, y16, y17, y18, y19, y20, y21, y22, y23, y24, y25, y26, y27] = some (.d (strsV K3)) := okSs_eq (by kernel_rfl)
theorem c14 : ceval T2 (.comp 0 (.var 28) (.call 11 [(.lit (.int (4)))]) [(.cmp .Is (.call 2 [(.var 28)]) (.lit (.bool true)))]) [y0, y1, y2, y3, y4, y5, y6, y7, y8, y9, y10, y11, y12, y13, y14, y15, y16, y17, y18, y19, y20, y21, y22, y23, y24, y25, y26, y27] = some (.d (strsV K4)) := okSs_eq (by kernel_rfl)
theorem c15_ : (K3.all fun a => okS (ceval T2 (.meth .join (.lit (.str (S [46, 46, 46]))) [(.prim .listOf [(.var 14)])]) [y0, y1, y2, y3, y4, y5, y6, y7, y8, y9, y10, y11, y12, y13, sv a, y15, y16, y17, y18, y19, y20, y21, y22, y23, y24, y25, y26, y27]) (wantN a)) = true := by kernel_rfl
theorem c15 {a : List Nat} (ha : a ∈ K3) : ceval T2 (.meth .join (.lit (.str (S [46, 46, 46]))) [(.prim .listOf [(.var 14)])]) [y0, y1, y2, y3, y4, y5, y6, y7, y8, y9, y10, y11, y12, y13, sv a, y15, y16, y17, y18, y19, y20, y21, y22, y23, y24, y25, y26, y27] = some (.d (.str (S (wantN a)))) := okS_eq (List.all_eq_true.mp c15_ a ha)
theorem c16_ : (K3.all fun a => rims.all fun r => okBs (ceval T2 (.comp 0 (.call 0 [(.bin .Add (.bin .Add (.var 5) (.var 18)) (.var 5)), (.var 28)]) (.var 17) []) [y0, y1, y2, y3, y4, sv (rimN r), y6, y7, y8, y9, y10, y11, y12, y13, y14, y15, y16, .sh (.d (strsV K4)), sv (wantN a), y19, y20, y21, y22, y23, y24, y25, y26, y27]) (v19 a r)) = true := by kernel_rfl
theorem c16 {a : List Nat} {r : Nat} (ha : a ∈ K3) (hr : r ∈ rims) : ceval T2 (.comp 0 (.call 0 [(.bin .Add (.bin .Add (.var 5) (.var 18)) (.var 5)), (.var 28)]) (.var 17) []) [y0, y1, y2, y3, y4, sv (rimN r), y6, y7, y8, y9, y10, y11, y12, y13, y14, y15, y16, .sh (.d (strsV K4)), sv (wantN a), y19, y20, y21, y22, y23, y24, y25, y26, y27] = some (.d (.list ((v19 a r).map .bool))) := okBs_eq (List.all_eq_true.mp (List.all_eq_true.mp c16_ a ha) r hr)
theorem c17_ : (K4.all fun b => rims.all fun r => okBs (ceval T2 (.comp 0 (.call 0 [(.bin .Add (.bin .Add (.var 5) (.meth .join (.lit (.str (S [46, 46, 46]))) [(.prim .listOf [(.var 28)])])) (.var 5)), (.var 15)]) (.var 16) []) [y0, y1, y2, y3, y4, sv (rimN r), y6, y7, y8, y9, y10, y11, y12, y13, y14, sv b, .sh (.d (strsV K3)), y17, y18, y19, y20, y21, y22, y23, y24, y25, y26, y27]) (v20 b r)) = true := by kernel_rfl
theorem c17 {b : List Nat} {r : Nat} (hb : b ∈ K4) (hr : r ∈ rims) : ceval T2 (.comp 0 (.call 0 [(.bin .Add (.bin .Add (.var 5) (.meth .join (.lit (.str (S [46, 46, 46]))) [(.prim .listOf [(.var 28)])])) (.var 5)), (.var 15)]) (.var 16) []) [y0, y1, y2, y3, y4, sv (rimN r), y6, y7, y8, y9, y10, y11, y12, y13, y14, sv b, .sh (.d (strsV K3)), y17, y18, y19, y20, y21, y22, y23, y24, y25, y26, y27] = some (.d (.list ((v20 b r).map .bool))) := okBs_eq (List.all_eq_true.mp (List.all_eq_true.mp c17_ b hb) r hr)
theorem c18_ : (K3.all fun a => rims.all fun r => okBs (ceval T2 (.comp 0 (.call 0 [(.bin .Add (.bin .Add (.var 5) (.var 18)) (.var 5)), (.var 28)]) (.var 16) []) [y0, y1, y2, y3, y4, sv (rimN r), y6, y7, y8, y9, y10, y11, y12, y13, y14, y15, .sh (.d (strsV K3)), y17, sv (wantN a), y19, y20, y21, y22, y23, y24, y25, y26, y27]) (v21 a)) = true := by kernel_rfl
theorem c18 {a : List Nat} {r : Nat} (ha : a ∈ K3) (hr : r ∈ rims) : ceval T2 (.comp 0 (.call 0 [(.bin .Add (.bin .Add (.var 5) (.var 18)) (.var 5)), (.var 28)]) (.var 16) []) [y0, y1, y2, y3, y4, sv (rimN r), y6, y7, y8, y9, y10, y11, y12, y13, y14, y15, .sh (.d (strsV K3)), y17, sv (wantN a), y19, y20, y21, y22, y23, y24, y25, y26, y27] = some (.d (.list ((v21 a).map .bool))) := okBs_eq (List.all_eq_true.mp (List.all_eq_true.mp c18_ a ha) r hr)
theorem c19_ : (K3.all fun a => okBs (ceval T2 (.comp 0 (.call 0 [(.var 14), (.var 28)]) (.var 16) []) [y0, y1, y2, y3, y4, y5, y6, y7, y8, y9, y10, y11, y12, y13, sv a, y15, .sh (.d (strsV K3)), y17, y18, y19, y20, y21, y22, y23, y24, y25, y26, y27]) (v21 a)) = true := by kernel_rfl
theorem c19 {a : List Nat} (ha : a ∈ K3) : ceval T2 (.comp 0 (.call 0 [(.var 14), (.var 28)]) (.var 16) []) [y0, y1, y2, y3, y4, y5, y6, y7, y8, y9, y10, y11, y12, y13, sv a, y15, .sh (.d (strsV K3)), y17, y18, y19, y20, y21, y22, y23, y24, y25, y26, y27] = some (.d (.list ((v21 a).map .bool))) := okBs_eq (List.all_eq_true.mp c19_ a ha)
theorem c20_ : (prs.all fun q => (fun a b => okBs (ceval T2 (.list [(.call 0 [(.var 18), (.bin .Add (.lit (.str (S [41, 10]))) (.var 15))]), (.call 0 [(.var 18), (.bin .Add (.var 15) (.lit (.str (S [10, 40]))))])]) [y0, y1, y2, y3, y4, y5, y6, y7, y8, y9, y10, y11, y12, y13, y14, sv b, y16, y17, sv (wantN a), y19, y20, y21, y22, y23, y24, y25, y26, y27]) [false, false]) q.1 q.2) = true := by kernel_rfl
theorem c20 {a b : List Nat} (h : (a, b) ∈ prs) : ceval T2 (.list [(.call 0 [(.var 18), (.bin .Add (.lit (.str (S [41, 10]))) (.var 15))]), (.call 0 [(.var 18), (.bin .Add (.var 15) (.lit (.str (S [10, 40]))))])]) [y0, y1, y2, y3, y4, y5, y6, y7, y8, y9, y10, y11, y12, y13, y14, sv b, y16, y17, sv (wantN a), y19, y20, y21, y22, y23, y24, y25, y26, y27] = some (.d (.list ([false, false].map .bool))) := okBs_eq (List.all_eq_true.mp c20_ (a, b) h)
theorem c21_ : (prs.all fun q => (fun a b => okB (ceval T2 (.call 0 [(.bin .Add (.bin .Add (.lit (.str (S [46, 46, 46]))) (.var 18)) (.lit (.str (S [46, 46, 46])))), (.meth .join (.lit (.str (S [10]))) [(.bin .Add (.bin .Add (.list [(.lit (.str (S [41])))]) (.prim .listOf [(.var 15)])) (.list [(.lit (.str (S [40])))]))])]) [y0, y1, y2, y3, y4, y5, y6, y7, y8, y9, y10, y11, y12, y13, y14, sv b, y16, y17, sv (wantN a), y19, y20, y21, y22, y23, y24, y25, y26, y27]) true) q.1 q.2) = true := by kernel_rfl
theorem c21 {a b : List Nat} (h : (a, b) ∈ prs) : ceval T2 (.call 0 [(.bin .Add (.bin .Add (.lit (.str (S [46, 46, 46]))) (.var 18)) (.lit (.str (S [46, 46, 46])))), (.meth .join (.lit (.str (S [10]))) [(.bin .Add (.bin .Add (.list [(.lit (.str (S [41])))]) (.prim .listOf [(.var 15)])) (.list [(.lit (.str (S [40])))]))])]) [y0, y1, y2, y3, y4, y5, y6, y7, y8, y9, y10, y11, y12, y13, y14, sv b, y16, y17, sv (wantN a), y19, y20, y21, y22, y23, y24, y25, y26, y27] = some (.d (.bool true)) := okB_eq (List.all_eq_true.mp c21_ (a, b) h)
theorem c23_ : (prs.all fun q => rims.all fun r => (fun a b => okB (ceval T2 (.un .Not (.item (.var 19) (.meth .index (.var 17) [(.var 15)]))) [y0, y1, y2, y3, y4, y5, y6, y7, y8, y9, y10, y11, y12, y13, y14, sv b, y16, .sh (.d (strsV K4)), y18, lst ((v19 a r).map .bool), y20, y21, y22, y23, y24, y25, y26, y27]) false) q.1 q.2) = true := by kernel_rfl
theorem c23 {a b : List Nat} {r : Nat} (h : (a, b) ∈ prs) (hr : r ∈ rims) : ceval T2 (.un .Not (.item (.var 19) (.meth .index (.var 17) [(.var 15)]))) [y0, y1, y2, y3, y4, y5, y6, y7, y8, y9, y10, y11, y12, y13, y14, sv b, y16, .sh (.d (strsV K4)), y18, lst ((v19 a r).map .bool), y20, y21, y22, y23, y24, y25, y26, y27] = some (.d (.bool false)) := okB_eq (List.all_eq_true.mp (List.all_eq_true.mp c23_ (a, b) h) r hr)
theorem c24 : ceval T2 (.boolop .Or (.cmp .NotEq (.comp 0 (.cmp .Is (.var 28) (.lit (.bool false))) (.var 23) []) (.list [(.lit (.bool true)), (.lit (.bool true))])) (.cmp .IsNot (.var 24) (.lit (.bool true)))) [y0, y1, y2, y3, y4, y5, y6, y7, y8, y9, y10, y11, y12, y13, y14, y15, y16, y17, y18, y19, y20, y21, y22, lst ([false, false].map .bool), .sh (.d (.bool true)), y25, y26, y27] = some (.d (.bool false)) := okB_eq (by kernel_rfl)
theorem c25_ : (K3.all fun a => okNs (ceval T2 (.comp 0 (.bin .FloorDiv (.bin .Sub (.item (.var 11) (.bin .Add (.var 28) (.lit (.int (1))))) (.item (.var 11) (.var 28))) (.lit (.int (2)))) (.prim .range1 [(.bin .Sub (.prim .len [(.var 11)]) (.lit (.int (1))))]) []) [y0, y1, y2, y3, y4, y5, y6, y7, y8, y9, y10, lst ((0 :: endN a).map nat), y12, y13, y14, y15, y16, y17, y18, y19, y20, y21, y22, y23, y24, y25, y26, y27]) (v25 a)) = true := by kernel_rfl
theorem c25 {a : List Nat} (ha : a ∈ K3) : ceval T2 (.comp 0 (.bin .FloorDiv (.bin .Sub (.item (.var 11) (.bin .Add (.var 28) (.lit (.int (1))))) (.item (.var 11) (.var 28))) (.lit (.int (2)))) (.prim .range1 [(.bin .Sub (.prim .len [(.var 11)]) (.lit (.int (1))))]) []) [y0, y1, y2, y3, y4, y5, y6, y7, y8, y9, y10, lst ((0 :: endN a).map nat), y12, y13, y14, y15, y16, y17, y18, y19, y20, y21, y22, y23, y24, y25, y26, y27] = some (.d (.list ((v25 a).map nat))) := okNs_eq (List.all_eq_true.mp c25_ a ha)
theorem c26_ : (K4.all fun b => okNs (ceval T2 (.comp 0 (.meth .count (.slice (.var 15) (some (.item (.var 12) (.var 28))) (some (.item (.var 12) (.bin .Add (.var 28) (.lit (.int (1)))))) none) [(.lit (.str (S [40, 41])))]) (.prim .range1 [(.bin .Sub (.prim .len [(.var 12)]) (.lit (.int (1))))]) []) [y0, y1, y2, y3, y4, y5, y6, y7, y8, y9, y10, y11, lst ((0 :: endN b).map nat), y13, y14, sv b, y16, y17, y18, y19, y20, y21, y22, y23, y24, y25, y26, y27]) (v26 b)) = true := by kernel_rfl
theorem c26 {b : List Nat} (hb : b ∈ K4) : ceval T2 (.comp 0 (.meth .count (.slice (.var 15) (some (.item (.var 12) (.var 28))) (some (.item (.var 12) (.bin .Add (.var 28) (.lit (.int (1)))))) none) [(.lit (.str (S [40, 41])))]) (.prim .range1 [(.bin .Sub (.prim .len [(.var 12)]) (.lit (.int (1))))]) []) [y0, y1, y2, y3, y4, y5, y6, y7, y8, y9, y10, y11, lst ((0 :: endN b).map nat), y13, y14, sv b, y16, y17, y18, y19, y20, y21, y22, y23, y24, y25, y26, y27] = some (.d (.list ((v26 b).map nat))) := okNs_eq (List.all_eq_true.mp c26_ b hb)
theorem c27_ : (K4.all fun b => okI (ceval T2 (.prim .len [(.comp 0 (.var 28) (.prim .range1 [(.lit (.int (6)))]) [(.cmp .In (.slice (.var 15) (some (.var 28)) (some (.bin .Add (.var 28) (.lit (.int (3))))) none) (.list [(.lit (.str (S [40, 41, 40]))), (.lit (.str (S [41, 40, 41])))]))])]) [y0, y1, y2, y3, y4, y5, y6, y7, y8, y9, y10, y11, y12, y13, y14, sv b, y16, y17, y18, y19, y20, y21, y22, y23, y24, y25, y26, y27]) (v27 b : Nat)) = true := by kernel_rfl
theorem c27 {b : List Nat} (hb : b ∈ K4) : ceval T2 (.prim .len [(.comp 0 (.var 28) (.prim .range1 [(.lit (.int (6)))]) [(.cmp .In (.slice (.var 15) (some (.var 28)) (some (.bin .Add (.var 28) (.lit (.int (3))))) none) (.list [(.lit (.str (S [40, 41, 40]))), (.lit (.str (S [41, 40, 41])))]))])]) [y0, y1, y2, y3, y4, y5, y6, y7, y8, y9, y10, y11, y12, y13, y14, sv b, y16, y17, y18, y19, y20, y21, y22, y23, y24, y25, y26, y27] = some (.d (nat (v27 b))) := okI_eq (List.all_eq_true.mp c27_ b hb)
end
theorem go_set {Φ : Fns} {fu i : Nat} {ρ ρ' : Ev} {e : CE} {v : V} {r : List CS} {R : Option (Ev × Fl)} (h : ceval Φ e ρ = some v) (ho : v.own = false) (hs : ρ.set i (.sh v) = ρ') (k : cexs Φ fu r ρ' = R) : cexs Φ fu (.asg i e :: r) ρ = R := go_asg h ho (hs ▸ k)
theorem shp_bools (bs : List Bool) : shp (.list (bs.map .bool)) = true := shp_list (n := 0) (fun x hx => by
  obtain ⟨b, _, rfl⟩ := List.mem_map.mp hx
  exact ⟨by rw [PyData.canLay0], by rw [PyData.depth]; exact Nat.le_refl _⟩) (by decide)
theorem c23a {Φ : Fns} {ρ : Ev} {a : List Nat} (ha : a ∈ K3) (h16 : ρ[16]? = some (.sh (.d (strsV K3)))) (h14 : ρ[14]? = some (sv a)) (hl : ρ.length = 28) : ceval Φ (.comp 0 (.cmp .Eq (.var 28) (.var 14)) (.var 16) []) ρ = some (.d (.list ((v21 a).map .bool))) := by
  have hk : ∀ l ∈ K3, l.all (· < 0x110000) = true := by decide
  unfold v21
  rw [List.map_map]
  refine ev_comp (g := fun p => .str (S p)) (h := fun l => .bool (l == a)) (xs := K3) (rv0 h16) (vitems_l (show 5 ≤ 1048576 by decide)) fun l hm => ?_
  have g1 : (ρ ++ [Slot.sh (.d (.str (S l)))])[28]? = some (sv l) := by rw [List.getElem?_append_right (by lia), hl]; rfl
  have g2 : (ρ ++ [Slot.sh (.d (.str (S l)))])[14]? = some (sv a) := by rw [List.getElem?_append_left (by lia)]; exact h14
  exact eq_t (rv0 g1) (rv0 g2) (hk l hm) (hk a ha) rfl
theorem ev_isB {Φ : Fns} {ρ : Ev} {x : Nat} {b : Bool} (h : ρ[x]? = some (.sh (.d (.bool b)))) : ceval Φ (.boolop .Or (.cmp .Is (.var x) (.lit (.bool true))) (.cmp .Is (.var x) (.lit (.bool false)))) ρ = some (.d (.bool true)) := by
  cases b with
  | true => exact b_of (ev_is (rv0 h) ev_c) (b_of rfl rfl)
  | false => exact ev_or (ev_is (rv0 h) ev_c) (ev_is (rv0 h) ev_c)
theorem c22 {Φ : Fns} {ρ : Ev} {a b c d : List Bool} (h16 : ρ[16]? = some (.sh (.d (strsV K3)))) (h17 : ρ[17]? = some (.sh (.d (strsV K4)))) (h19 : ρ[19]? = some (lst (a.map .bool))) (h20 : ρ[20]? = some (lst (b.map .bool))) (h21 : ρ[21]? = some (lst (c.map .bool))) (h22 : ρ[22]? = some (lst (d.map .bool)))
    (hl : ρ.length = 28 := by rfl) (la : a.length ≤ 100 := by exact (show _ ≤ _ by simp [v19, v20, v21, K3, K4])) (lb : b.length ≤ 100 := by exact (show _ ≤ _ by simp [v19, v20, v21, K3, K4])) (lc : c.length ≤ 100 := by exact (show _ ≤ _ by simp [v19, v20, v21, K3, K4])) (ld : d.length ≤ 100 := by exact (show _ ≤ _ by simp [v19, v20, v21, K3, K4])) :
    ceval Φ (.boolop .Or (.cmp .NotEq (.prim .len [(.var 16)]) (.lit (.int (5)))) (.boolop .Or (.cmp .NotEq (.prim .len [(.var 17)]) (.lit (.int (14)))) (.cmp .Gt (.meth .count (.comp 0 (.boolop .Or (.cmp .Is (.var 28) (.lit (.bool true))) (.cmp .Is (.var 28) (.lit (.bool false)))) (.bin .Add (.bin .Add (.bin .Add (.var 19) (.var 20)) (.var 21)) (.var 22)) []) [(.lit (.bool false))]) (.lit (.int (0)))))) ρ = some (.d (.bool false)) := by
  have e1 : ceval Φ (.bin .Add (.bin .Add (.bin .Add (.var 19) (.var 20)) (.var 21)) (.var 22)) ρ = some (.d (.list ((a ++ b ++ c ++ d).map .bool))) := by
    rw [List.map_append, List.map_append, List.map_append]
    exact ev_catL (ev_catL (ev_catL (rv0 h19) (rv0 h20) (by simp; lia)) (rv0 h21) (by simp; lia)) (rv0 h22) (by simp; lia)
  have e2 := ev_comp (elt := .boolop .Or (.cmp .Is (.var 28) (.lit (.bool true))) (.cmp .Is (.var 28) (.lit (.bool false)))) (g := PyData.bool) (h := fun _ => .bool true) (xs := a ++ b ++ c ++ d) e1 (vitems_l (by simp; lia)) fun x _ =>
    ev_isB (b := x) (by rw [List.getElem?_append_right (by lia), hl]; rfl)
  refine ev_or ((ev_ne (ev_lenv (n := 5) (rv0 h16) rfl (by decide)) ev_c shp_int shp_int).trans (by rw [eqv_int]; rfl)) (ev_or ((ev_ne (ev_lenv (n := 14) (rv0 h17) rfl (by decide)) ev_c shp_int shp_int).trans (by rw [eqv_int]; rfl)) ((ev_gt (y := 0) (count_none e2 (by simp; lia)) (ev_lit (n := 0))).trans rfl))
noncomputable def lastC : List CS := [(.ret (.cmp .Eq (.list [(.meth .count (.var 19) [(.lit (.bool true))]), (.meth .count (.var 20) [(.lit (.bool true))])]) (.list [(.bin .Add (.lit (.int (1))) (.call 12 [(.var 25), (.var 4)])), (.bin .Sub (.call 12 [(.var 26), (.var 4)]) (.var 27))])))]
section
variable {x0 x1 x2 x3 x4 x6 x7 x8 x9 x10 : Slot}
theorem tail_run {a b : List Nat} {r : Nat} (h : (a, b) ∈ prs) (ha : a ∈ K3) (hb : b ∈ K4) (hr : r ∈ rims) {Φ : Fns} {fu : Nat} (H : LeF T2 Φ) : cexs Φ fu [(.asgT [14, 15] (.comp 0 (.slice (.var 28) (some (.lit (.int (2)))) (some (.un .USub (.lit (.int (4))))) none) (.var 13) [])), (.asg 16 (.comp 0 (.var 28) (.call 11 [(.lit (.int (3)))]) [(.cmp .Is (.call 2 [(.var 28)]) (.lit (.bool true)))])), (.asg 17 (.comp 0 (.var 28) (.call 11 [(.lit (.int (4)))]) [(.cmp .Is (.call 2 [(.var 28)]) (.lit (.bool true)))])), (.asg 18 (.meth .join (.lit (.str (S [46, 46, 46]))) [(.prim .listOf [(.var 14)])])), (.asg 19 (.comp 0 (.call 0 [(.bin .Add (.bin .Add (.var 5) (.var 18)) (.var 5)), (.var 28)]) (.var 17) [])), (.asg 20 (.comp 0 (.call 0 [(.bin .Add (.bin .Add (.var 5) (.meth .join (.lit (.str (S [46, 46, 46]))) [(.prim .listOf [(.var 28)])])) (.var 5)), (.var 15)]) (.var 16) [])), (.asg 21 (.comp 0 (.call 0 [(.bin .Add (.bin .Add (.var 5) (.var 18)) (.var 5)), (.var 28)]) (.var 16) [])), (.asg 22 (.comp 0 (.call 0 [(.var 14), (.var 28)]) (.var 16) [])), (.asg 23 (.list [(.call 0 [(.var 18), (.bin .Add (.lit (.str (S [41, 10]))) (.var 15))]), (.call 0 [(.var 18), (.bin .Add (.var 15) (.lit (.str (S [10, 40]))))])])), (.asg 24 (.call 0 [(.bin .Add (.bin .Add (.lit (.str (S [46, 46, 46]))) (.var 18)) (.lit (.str (S [46, 46, 46])))), (.meth .join (.lit (.str (S [10]))) [(.bin .Add (.bin .Add (.list [(.lit (.str (S [41])))]) (.prim .listOf [(.var 15)])) (.list [(.lit (.str (S [40])))]))])])), (.ite (.boolop .Or (.cmp .NotEq (.prim .len [(.var 16)]) (.lit (.int (5)))) (.boolop .Or (.cmp .NotEq (.prim .len [(.var 17)]) (.lit (.int (14)))) (.cmp .Gt (.meth .count (.comp 0 (.boolop .Or (.cmp .Is (.var 28) (.lit (.bool true))) (.cmp .Is (.var 28) (.lit (.bool false)))) (.bin .Add (.bin .Add (.bin .Add (.var 19) (.var 20)) (.var 21)) (.var 22)) []) [(.lit (.bool false))]) (.lit (.int (0)))))) [(.ret (.lit (.bool false)))] []), (.ite (.boolop .Or (.cmp .NotEq (.var 21) (.comp 0 (.cmp .Eq (.var 28) (.var 14)) (.var 16) [])) (.boolop .Or (.cmp .NotEq (.var 22) (.var 21)) (.un .Not (.item (.var 19) (.meth .index (.var 17) [(.var 15)]))))) [(.ret (.lit (.bool false)))] []), (.ite (.boolop .Or (.cmp .NotEq (.comp 0 (.cmp .Is (.var 28) (.lit (.bool false))) (.var 23) []) (.list [(.lit (.bool true)), (.lit (.bool true))])) (.cmp .IsNot (.var 24) (.lit (.bool true)))) [(.ret (.lit (.bool false)))] []), (.asg 25 (.comp 0 (.bin .FloorDiv (.bin .Sub (.item (.var 11) (.bin .Add (.var 28) (.lit (.int (1))))) (.item (.var 11) (.var 28))) (.lit (.int (2)))) (.prim .range1 [(.bin .Sub (.prim .len [(.var 11)]) (.lit (.int (1))))]) [])), (.asg 26 (.comp 0 (.meth .count (.slice (.var 15) (some (.item (.var 12) (.var 28))) (some (.item (.var 12) (.bin .Add (.var 28) (.lit (.int (1)))))) none) [(.lit (.str (S [40, 41])))]) (.prim .range1 [(.bin .Sub (.prim .len [(.var 12)]) (.lit (.int (1))))]) [])), (.asg 27 (.prim .len [(.comp 0 (.var 28) (.prim .range1 [(.lit (.int (6)))]) [(.cmp .In (.slice (.var 15) (some (.var 28)) (some (.bin .Add (.var 28) (.lit (.int (3))))) none) (.list [(.lit (.str (S [40, 41, 40]))), (.lit (.str (S [41, 40, 41])))]))])])), (.ret (.cmp .Eq (.list [(.meth .count (.var 19) [(.lit (.bool true))]), (.meth .count (.var 20) [(.lit (.bool true))])]) (.list [(.bin .Add (.lit (.int (1))) (.call 12 [(.var 25), (.var 4)])), (.bin .Sub (.call 12 [(.var 26), (.var 4)]) (.var 27))])))] [x0, x1, x2, x3, x4, sv (rimN r), x6, x7, x8, x9, x10, lst ((0 :: endN a).map nat), lst ((0 :: endN b).map nat), .sh (.d (strsV [lfN a, lfN b])), .un, .un, .un, .un, .un, .un, .un, .un, .un, .un, .un, .un, .un, .un] = cexs Φ fu lastC [x0, x1, x2, x3, x4, sv (rimN r), x6, x7, x8, x9, x10, lst ((0 :: endN a).map nat), lst ((0 :: endN b).map nat), .sh (.d (strsV [lfN a, lfN b])), sv a, sv b, .sh (.d (strsV K3)), .sh (.d (strsV K4)), sv (wantN a), lst ((v19 a r).map .bool), lst ((v20 b r).map .bool), lst ((v21 a).map .bool), lst ((v21 a).map .bool), lst ([false, false].map .bool), .sh (.d (.bool true)), lst ((v25 a).map nat), lst ((v26 b).map nat), .sh (.d (nat (v27 b)))] := by
  refine go_nx (ρ' := [x0, x1, x2, x3, x4, sv (rimN r), x6, x7, x8, x9, x10, lst ((0 :: endN a).map nat), lst ((0 :: endN b).map nat), .sh (.d (strsV [lfN a, lfN b])), sv a, sv b, .un, .un, .un, .un, .un, .un, .un, .un, .un, .un, .un, .un]) ((cx_asgTl (ceval_mono H _ _ _ (c12 h)) rfl).trans rfl) ?_
  refine go_set (ρ' := [x0, x1, x2, x3, x4, sv (rimN r), x6, x7, x8, x9, x10, lst ((0 :: endN a).map nat), lst ((0 :: endN b).map nat), .sh (.d (strsV [lfN a, lfN b])), sv a, sv b, .sh (.d (strsV K3)), .un, .un, .un, .un, .un, .un, .un, .un, .un, .un, .un]) (ceval_mono H _ _ _ c13) rfl rfl ?_
  refine go_set (ρ' := [x0, x1, x2, x3, x4, sv (rimN r), x6, x7, x8, x9, x10, lst ((0 :: endN a).map nat), lst ((0 :: endN b).map nat), .sh (.d (strsV [lfN a, lfN b])), sv a, sv b, .sh (.d (strsV K3)), .sh (.d (strsV K4)), .un, .un, .un, .un, .un, .un, .un, .un, .un, .un]) (ceval_mono H _ _ _ c14) rfl rfl ?_
  refine go_set (ρ' := [x0, x1, x2, x3, x4, sv (rimN r), x6, x7, x8, x9, x10, lst ((0 :: endN a).map nat), lst ((0 :: endN b).map nat), .sh (.d (strsV [lfN a, lfN b])), sv a, sv b, .sh (.d (strsV K3)), .sh (.d (strsV K4)), sv (wantN a), .un, .un, .un, .un, .un, .un, .un, .un, .un]) (ceval_mono H _ _ _ (c15 ha)) rfl rfl ?_
  refine go_set (ρ' := [x0, x1, x2, x3, x4, sv (rimN r), x6, x7, x8, x9, x10, lst ((0 :: endN a).map nat), lst ((0 :: endN b).map nat), .sh (.d (strsV [lfN a, lfN b])), sv a, sv b, .sh (.d (strsV K3)), .sh (.d (strsV K4)), sv (wantN a), lst ((v19 a r).map .bool), .un, .un, .un, .un, .un, .un, .un, .un]) (ceval_mono H _ _ _ (c16 ha hr)) rfl rfl ?_
  refine go_set (ρ' := [x0, x1, x2, x3, x4, sv (rimN r), x6, x7, x8, x9, x10, lst ((0 :: endN a).map nat), lst ((0 :: endN b).map nat), .sh (.d (strsV [lfN a, lfN b])), sv a, sv b, .sh (.d (strsV K3)), .sh (.d (strsV K4)), sv (wantN a), lst ((v19 a r).map .bool), lst ((v20 b r).map .bool), .un, .un, .un, .un, .un, .un, .un]) (ceval_mono H _ _ _ (c17 hb hr)) rfl rfl ?_
  refine go_set (ρ' := [x0, x1, x2, x3, x4, sv (rimN r), x6, x7, x8, x9, x10, lst ((0 :: endN a).map nat), lst ((0 :: endN b).map nat), .sh (.d (strsV [lfN a, lfN b])), sv a, sv b, .sh (.d (strsV K3)), .sh (.d (strsV K4)), sv (wantN a), lst ((v19 a r).map .bool), lst ((v20 b r).map .bool), lst ((v21 a).map .bool), .un, .un, .un, .un, .un, .un]) (ceval_mono H _ _ _ (c18 ha hr)) rfl rfl ?_
  refine go_set (ρ' := [x0, x1, x2, x3, x4, sv (rimN r), x6, x7, x8, x9, x10, lst ((0 :: endN a).map nat), lst ((0 :: endN b).map nat), .sh (.d (strsV [lfN a, lfN b])), sv a, sv b, .sh (.d (strsV K3)), .sh (.d (strsV K4)), sv (wantN a), lst ((v19 a r).map .bool), lst ((v20 b r).map .bool), lst ((v21 a).map .bool), lst ((v21 a).map .bool), .un, .un, .un, .un, .un]) (ceval_mono H _ _ _ (c19 ha)) rfl rfl ?_
  refine go_set (ρ' := [x0, x1, x2, x3, x4, sv (rimN r), x6, x7, x8, x9, x10, lst ((0 :: endN a).map nat), lst ((0 :: endN b).map nat), .sh (.d (strsV [lfN a, lfN b])), sv a, sv b, .sh (.d (strsV K3)), .sh (.d (strsV K4)), sv (wantN a), lst ((v19 a r).map .bool), lst ((v20 b r).map .bool), lst ((v21 a).map .bool), lst ((v21 a).map .bool), lst ([false, false].map .bool), .un, .un, .un, .un]) (ceval_mono H _ _ _ (c20 h)) rfl rfl ?_
  refine go_set (ρ' := [x0, x1, x2, x3, x4, sv (rimN r), x6, x7, x8, x9, x10, lst ((0 :: endN a).map nat), lst ((0 :: endN b).map nat), .sh (.d (strsV [lfN a, lfN b])), sv a, sv b, .sh (.d (strsV K3)), .sh (.d (strsV K4)), sv (wantN a), lst ((v19 a r).map .bool), lst ((v20 b r).map .bool), lst ((v21 a).map .bool), lst ((v21 a).map .bool), lst ([false, false].map .bool), .sh (.d (.bool true)), .un, .un, .un]) (ceval_mono H _ _ _ (c21 h)) rfl rfl ?_
  refine go_nx (cx_no (c22 rfl rfl rfl rfl rfl rfl) rfl) ?_
  refine go_nx (cx_no (ev_or (ev_ne_same (rv0 rfl) (c23a ha rfl rfl rfl) (shp_bools _)) (ev_or (ev_ne_same (rv0 rfl) (rv0 rfl) (shp_bools _)) (ceval_mono H _ _ _ (c23 h hr)))) rfl) ?_
  refine go_nx (cx_no (ceval_mono H _ _ _ c24) rfl) ?_
  refine go_set (ρ' := [x0, x1, x2, x3, x4, sv (rimN r), x6, x7, x8, x9, x10, lst ((0 :: endN a).map nat), lst ((0 :: endN b).map nat), .sh (.d (strsV [lfN a, lfN b])), sv a, sv b, .sh (.d (strsV K3)), .sh (.d (strsV K4)), sv (wantN a), lst ((v19 a r).map .bool), lst ((v20 b r).map .bool), lst ((v21 a).map .bool), lst ((v21 a).map .bool), lst ([false, false].map .bool), .sh (.d (.bool true)), lst ((v25 a).map nat), .un, .un]) (ceval_mono H _ _ _ (c25 ha)) rfl rfl ?_
  refine go_set (ρ' := [x0, x1, x2, x3, x4, sv (rimN r), x6, x7, x8, x9, x10, lst ((0 :: endN a).map nat), lst ((0 :: endN b).map nat), .sh (.d (strsV [lfN a, lfN b])), sv a, sv b, .sh (.d (strsV K3)), .sh (.d (strsV K4)), sv (wantN a), lst ((v19 a r).map .bool), lst ((v20 b r).map .bool), lst ((v21 a).map .bool), lst ((v21 a).map .bool), lst ([false, false].map .bool), .sh (.d (.bool true)), lst ((v25 a).map nat), lst ((v26 b).map nat), .un]) (ceval_mono H _ _ _ (c26 hb)) rfl rfl ?_
  refine go_set (ρ' := [x0, x1, x2, x3, x4, sv (rimN r), x6, x7, x8, x9, x10, lst ((0 :: endN a).map nat), lst ((0 :: endN b).map nat), .sh (.d (strsV [lfN a, lfN b])), sv a, sv b, .sh (.d (strsV K3)), .sh (.d (strsV K4)), sv (wantN a), lst ((v19 a r).map .bool), lst ((v20 b r).map .bool), lst ((v21 a).map .bool), lst ((v21 a).map .bool), lst ([false, false].map .bool), .sh (.d (.bool true)), lst ((v25 a).map nat), lst ((v26 b).map nat), .sh (.d (nat (v27 b)))]) (ceval_mono H _ _ _ (c27 hb)) rfl rfl ?_
  rfl
end
end M03
end Mine
end
section
open PySem PySem.W PyProof.Rows PySem.StrLaws
set_option maxRecDepth 8000
set_option maxHeartbeats 4000000
namespace Mine
theorem ev_eq_same {Φ : Fns} {ρ : Ev} {a b : CE} {x : PyData} (h1 : ceval Φ a ρ = some (.d x)) (h2 : ceval Φ b ρ = some (.d x)) (s : shp x = true) : ceval Φ (.cmp .Eq a b) ρ = some (.d (.bool true)) :=
  (ev_eq h1 h2 s s).trans (by rw [SeqAt.eqv_refl x (Bool.and_eq_true_iff.mp s).1])
namespace M03
/-! the pieces: what hides is stripped whole -/
noncomputable def Neu (u : List (List Nat)) : Prop := (∀ r, stripU none (u ++ r) = stripU none r) ∧ Hid u
theorem neu_of {u : List (List Nat)} (h : ∀ r, stripU none (u ++ r) = stripU none r) (hf : ∀ x ∈ u, fullU x) (ho : uOk u) (hl : u.flatten.length ≤ 1000) : Neu u :=
  ⟨h, fun o r => by unfold chk; rw [h], hf, ho, hl⟩
theorem neu_all : ∀ u ∈ hU, Neu u := by
  refine List.forall_mem_cons.mpr ⟨⟨fun _ => rfl, hid_nil⟩, ?_⟩
  have f34 := full_one (c := 34) (by decide)
  have f40 := full_one (c := 40) (by decide)
  have f41 := full_one (c := 41) (by decide)
  have no : ∀ x ∈ ([] : List (List Nat)), fullU x := fun _ h => nomatch h
  refine List.forall_mem_cons.mpr ⟨neu_of (fun _ => rfl) (List.forall_mem_cons.mpr ⟨f34, List.forall_mem_cons.mpr ⟨f40, List.forall_mem_cons.mpr ⟨f34, no⟩⟩⟩) (by unfold uOk; decide) (by decide), ?_⟩
  refine List.forall_mem_cons.mpr ⟨neu_of (fun _ => rfl) (List.forall_mem_cons.mpr ⟨f34, List.forall_mem_cons.mpr ⟨f41, List.forall_mem_cons.mpr ⟨f34, no⟩⟩⟩) (by unfold uOk; decide) (by decide), ?_⟩
  refine List.forall_mem_cons.mpr ⟨neu_of (fun _ => rfl) (List.forall_mem_cons.mpr ⟨f34, List.forall_mem_cons.mpr ⟨full_two, List.forall_mem_cons.mpr ⟨f41, List.forall_mem_cons.mpr ⟨f34, no⟩⟩⟩⟩) (by unfold uOk; decide) (by decide), ?_⟩
  refine List.forall_mem_cons.mpr ⟨neu_of (fun _ => rfl) (List.forall_mem_cons.mpr ⟨f34, List.forall_mem_cons.mpr ⟨f40, List.forall_mem_cons.mpr ⟨f41, List.forall_mem_cons.mpr ⟨f34, no⟩⟩⟩⟩) (by unfold uOk; decide) (by decide), ?_⟩
  exact List.forall_mem_cons.mpr ⟨neu_of (fun _ => rfl) (List.forall_mem_cons.mpr ⟨f34, List.forall_mem_cons.mpr ⟨full_two, List.forall_mem_cons.mpr ⟨f34, no⟩⟩⟩) (by unfold uOk; decide) (by decide), fun _ h => nomatch h⟩
theorem neu_nil : Neu [] := ⟨fun _ => rfl, hid_nil⟩
theorem neu_hu (m : Nat) : Neu (hu m) := by
  unfold hu
  split
  · rename_i h
    rw [List.getD_eq_getElem?_getD, List.getElem?_eq_getElem (show m < hU.length from h)]
    exact neu_all _ (List.getElem_mem _)
  · exact neu_nil
theorem mem_ins {α : Type} {l x : List α} {p : Nat} {a : α} (h : a ∈ ins l p x) : a ∈ l ∨ a ∈ x := by
  unfold ins at h
  rcases List.mem_append.mp h with h | h
  · exact (List.mem_append.mp h).imp List.mem_of_mem_take id
  · exact .inl (List.mem_of_mem_drop h)
theorem gp_neu (c : Nat → Nat) (p : Pl) : ∀ k, ∀ q ∈ gp c p k, Neu q.1 ∧ (q.2 = 40 ∨ q.2 = 41)
  | 0, q, h => nomatch h
  | k + 1, q, h => by
    rcases mem_ins h with h | h
    · exact gp_neu c p k q h
    · rcases List.mem_cons.mp h with e | h
      · rw [e]; exact ⟨neu_hu _, .inl rfl⟩
      · rw [List.mem_singleton.mp h]
        refine ⟨?_, .inr rfl⟩
        show Neu (if 5 < more c k then hu (more c k - 6) else [])
        split
        · exact neu_hu _
        · exact neu_nil
theorem gp_ok (c : Nat → Nat) (p : Pl) (k : Nat) : pOk (gp c p k) := fun q h => ⟨(gp_neu c p k q h).1.2, (gp_neu c p k q h).2⟩
theorem strip_pieces : ∀ (ps : List (List (List Nat) × Nat)) (r : List (List Nat)), (∀ q ∈ ps, Neu q.1 ∧ (q.2 = 40 ∨ q.2 = 41)) → stripU none ((ps.map piece).flatten ++ r) = (ps.map fun q => [q.2]) ++ stripU none r
  | [], _, _ => rfl
  | q :: ps, r, h => by
    obtain ⟨h1, h2⟩ := h q List.mem_cons_self
    rw [List.map_cons, List.flatten_cons, List.map_cons]
    unfold piece
    rw [List.append_assoc, List.append_assoc, h1.1]
    show stripU none ([q.2] :: _) = _
    rw [stripU, if_neg (by rcases h2 with e | e <;> rw [e] <;> decide), List.cons_append]
    exact congrArg _ (strip_pieces ps r fun x hx => h x (List.mem_cons_of_mem _ hx))
theorem left_phi {es : List Ent} {fu : Nat} (H : Std es) {k : Nat} {ps : List (List (List Nat) × Nat)} (h : ∀ q ∈ ps, Neu q.1 ∧ (q.2 = 40 ∨ q.2 = 41)) (hl : ps.length ≤ 100) :
    phi es fu (k + 1) 1 [.d (.str (S ([92, 34] ++ (ps.map piece).flatten.flatten ++ [92, 34, 34, 40])))] = some (.d (.str (S (lfN (ps.map (·.2)))))) := by
  have hp : pOk ps := fun q hq => ⟨(h q hq).1.2, (h q hq).2⟩
  have e : ([[92, 34]] ++ (ps.map piece).flatten ++ [[92, 34], [34], [40]]).flatten = [92, 34] ++ (ps.map piece).flatten.flatten ++ [92, 34, 34, 40] := by
    rw [List.flatten_append, List.flatten_append]; rfl
  have hf : ∀ u ∈ [[92, 34]] ++ (ps.map piece).flatten ++ [[92, 34], [34], [40]], fullU u := fun u hu => by
    rcases List.mem_append.mp hu with hu | hu
    · rcases List.mem_append.mp hu with hu | hu
      · rw [List.mem_singleton.mp hu]; exact full_two
      · exact pieces_full hp u hu
    · rcases List.mem_cons.mp hu with e | hu
      · rw [e]; exact full_two
      · rcases List.mem_cons.mp hu with e | hu
        · rw [e]; exact full_one (by decide)
        · rw [List.mem_singleton.mp hu]; exact full_one (by decide)
  have ho : uOk ([[92, 34]] ++ (ps.map piece).flatten ++ [[92, 34], [34], [40]]) := fun u hu => by
    rcases List.mem_append.mp hu with hu | hu
    · rcases List.mem_append.mp hu with hu | hu
      · rw [List.mem_singleton.mp hu]; decide
      · exact pieces_ok hp u hu
    · exact (show ∀ u ∈ [[92, 34], [34], [40]], 1 ≤ u.length ∧ u.all (· < 0x110000) = true by decide) u hu
  have hlen := pieces_len hp
  have := strip_phi H (fu := fu) (k := k) (wfU_full hf) ho (by rw [e, List.length_append, List.length_append]; simp only [List.length_cons, List.length_nil]; lia)
  rw [e] at this
  rw [this]
  have e2 : stripU none ([[92, 34]] ++ (ps.map piece).flatten ++ [[92, 34], [34], [40]]) = [[92, 34]] ++ (ps.map fun q => [q.2]) ++ [[92, 34], [34], [40]] := by
    rw [List.append_assoc, List.append_assoc]
    show [92, 34] :: stripU none ((ps.map piece).flatten ++ [[92, 34], [34], [40]]) = _
    rw [strip_pieces ps _ h]; rfl
  rw [e2, List.flatten_append, List.flatten_append, lfN]
  have e3 : ∀ ps : List (List (List Nat) × Nat), (ps.map fun q => [q.2]).flatten = ps.map (·.2) := fun ps => by
    induction ps with
    | nil => rfl
    | cons q r ih => rw [List.map_cons, List.flatten_cons, ih]; rfl
  rw [e3]
  rfl
/-! the ends -/
noncomputable def tlU : List (List (List Nat)) := [[[92, 40]], [[92, 41]], [[92, 41], [34]], [[92, 40], [92]], [[92, 92], [34], [41], [34], [92, 40]], [[34], [92, 34], [92, 40]]]
theorem tl_all : ∀ u ∈ tlU, TailOk u := by
  have l1 : wfU [] := trivial
  have f34 := full_one (c := 34) (by decide)
  have f41 := full_one (c := 41) (by decide)
  refine List.forall_mem_cons.mpr ⟨⟨fun _ => rfl, wfU_cons full_two l1, by unfold uOk; decide, by decide⟩, ?_⟩
  refine List.forall_mem_cons.mpr ⟨⟨fun _ => rfl, wfU_cons full_two l1, by unfold uOk; decide, by decide⟩, ?_⟩
  refine List.forall_mem_cons.mpr ⟨⟨fun _ => rfl, wfU_cons full_two (wfU_cons f34 l1), by unfold uOk; decide, by decide⟩, ?_⟩
  refine List.forall_mem_cons.mpr ⟨⟨fun _ => rfl, wfU_cons full_two (.inl rfl), by unfold uOk; decide, by decide⟩, ?_⟩
  refine List.forall_mem_cons.mpr ⟨⟨fun _ => rfl, wfU_cons full_two (wfU_cons f34 (wfU_cons f41 (wfU_cons f34 (wfU_cons full_two l1)))), by unfold uOk; decide, by decide⟩, ?_⟩
  exact List.forall_mem_cons.mpr ⟨⟨fun _ => rfl, wfU_cons f34 (wfU_cons full_two (wfU_cons full_two l1)), by unfold uOk; decide, by decide⟩, fun _ h => nomatch h⟩
/-! finite facts -/
theorem prs_ok : (Ps.all fun p => prs.contains (br p 3, br p 4)) = true := by kernel_rfl
theorem due_ok : (Ps.all fun p => ((List.range' 1 6).all fun s => dueN (nm p 3) s == toldN (br p 3) s) && ((List.range' 1 8).all fun s => dueN (nm p 4) s == toldN (br p 4) s)) = true := by kernel_rfl
theorem last_ok : (prs.all fun p => (0 :: endN p.1).getLast? == some 6 && (0 :: endN p.2).getLast? == some 8 && decide (p.1.length = 6) && decide (p.2.length = 8) && okL p.1 && okL p.2) = true := by kernel_rfl
theorem mem_ok : (prs.all fun q => K3.contains q.1 && K4.contains q.2) = true := by kernel_rfl
theorem fin_a : (K3.all fun a => rims.all fun r => decide (((v19 a r).count true : Int) = 1 + sumF (v25 a)) && sumPs.contains (v25 a)) = true := by kernel_rfl
theorem fin_b : (K4.all fun b => rims.all fun r => decide (((v20 b r).count true : Int) = sumF (v26 b) - (v27 b : Int)) && sumPs.contains (v26 b)) = true := by kernel_rfl
noncomputable def sumOkP (ps : List Nat) : Bool := (List.range 60).all fun w => okI (runF T1 10 ⟨2, 11, sumC⟩ [.d (.list (ps.map nat)), .d (nat (5 + w))]) (sumF ps)
theorem sum_1 : sumOkP [1] = true := by kernel_rfl
theorem sum_2 : sumOkP [2] = true := by kernel_rfl
theorem sum_3 : sumOkP [3] = true := by kernel_rfl
theorem sum_4 : sumOkP [1, 1] = true := by kernel_rfl
theorem sum_5 : sumOkP [1, 2] = true := by kernel_rfl
theorem sum_6 : sumOkP [2, 1] = true := by kernel_rfl
theorem sum_7 : sumOkP [1, 1, 1] = true := by kernel_rfl
theorem sum_8 : sumOkP [1, 1, 1, 1] = true := by kernel_rfl
theorem sum_all : ∀ ps ∈ sumPs, sumOkP ps = true := List.forall_mem_cons.mpr ⟨sum_1, List.forall_mem_cons.mpr ⟨sum_2, List.forall_mem_cons.mpr ⟨sum_3, List.forall_mem_cons.mpr ⟨sum_4, List.forall_mem_cons.mpr ⟨sum_5, List.forall_mem_cons.mpr ⟨sum_6, List.forall_mem_cons.mpr ⟨sum_7, List.forall_mem_cons.mpr ⟨sum_8, fun _ h => nomatch h⟩⟩⟩⟩⟩⟩⟩⟩
/-! the brackets that are bare -/
noncomputable def bareN (w : List Nat) : List Nat := (List.range w.length).map fun k => if (w.take k).contains (w.getD k 0) then 41 else 40
theorem bare_ok : (Ps.all fun p => bareN (nm p 3) == br p 3 && bareN (nm p 4) == br p 4) = true := by kernel_rfl
theorem bare_run {Φ : Fns} {fu : Nat} {w : List Nat} (hl : w.length ≤ 100) : runF Φ fu ⟨1, 1, bareC⟩ [.d (.list (w.map nat))] = some (.d (.str (S (bareN w)))) := by
  refine runF_rt (ρ' := [lst (w.map nat)]) rfl ?_
  show cexs Φ fu bareC [lst (w.map nat)] = _
  have e1 : ceval Φ (.comp 0 (.ite (.cmp .In (.item (.var 0) (.var 1)) (.slice (.var 0) none (some (.var 1)) none)) (.lit (.str (S [41]))) (.lit (.str (S [40])))) (.prim .range1 [(.prim .len [(.var 0)])]) []) [lst (w.map nat)] = some (.d (.list (((bareN w).map fun c => [c]).map fun p => .str (S p)))) := by
    rw [bareN, List.map_map, List.map_map]
    refine ev_comp (g := nat) (xs := List.range w.length) (v := .r 0 (w.length : Int) 1) ((ev_prim1 (ev_len (rv0 rfl) (by rw [List.length_map]; lia))).trans (by rw [List.length_map]; rfl)) (range_nat (by lia)) fun k hk => ?_
    have hk := List.mem_range.mp hk
    have e2 : ceval Φ (.item (.var 0) (.var 1)) [lst (w.map nat), .sh (.d (nat k))] = some (.d (nat (w.getD k 0))) := ev_itemn (rv0 rfl) (rv0 rfl) (by lia) (by rw [List.getElem?_map, List.getD_eq_getElem?_getD, List.getElem?_eq_getElem hk]; rfl)
    have e3 : ceval Φ (.slice (.var 0) none (some (.var 1)) none) [lst (w.map nat), .sh (.d (nat k))] = some (.d (.list ((w.take k).map nat))) := by
      rw [List.map_take]; exact ev_slto (n := k) (rv0 rfl) (rv0 rfl) (by rw [List.length_map]; lia)
    refine (ev_ite (k := (w.take k).contains (w.getD k 0)) (ev_cmp e2 e3 ?_)).trans ?_
    · show (if (shp (nat (w.getD k 0)) && ((w.take k).map nat).all shp) = true then some (((w.take k).map nat).any fun z => PyData.eqv z (nat (w.getD k 0))) else none) = _
      rw [shp_nat, all_shp_nat, any_nat]; rfl
    · show (if (w.take k).contains (w.getD k 0) = true then _ else _) = _
      simp only [Function.comp]
      by_cases q : (w.take k).contains (w.getD k 0) = true
      · rw [if_pos q, if_pos q]; rfl
      · rw [if_neg q, if_neg q]; rfl
  have hb : (bareN w).length = w.length := by rw [bareN, List.length_map, List.length_range]
  have e4 := ev_join0 e1 (by rw [List.length_map]; lia) (by rw [flat_one]; lia)
  rw [flat_one] at e4
  exact go_ret e4 rfl
end M03
end Mine
end
section
open PySem PySem.W PyProof.Rows PySem.StrLaws
set_option maxRecDepth 8000
set_option maxHeartbeats 4000000
namespace Mine
namespace M03
theorem ev_count1 {Φ : Fns} {ρ : Ev} {a : CE} {bs : List Bool} (h : ceval Φ a ρ = some (.d (.list (bs.map .bool)))) (hl : bs.length ≤ 1000) : ceval Φ (.meth .count a [(.lit (.bool true))]) ρ = some (.d (nat (bs.count true))) := by
  refine (ev_meth1 h ev_c).trans ?_
  show (if (shp (.bool true) && (bs.map PyData.bool).all shp && szOk (bs.map PyData.bool).length) = true then some (V.d (.int ((bs.map PyData.bool).countP fun z => PyData.eqv z (.bool true) : Nat))) else none) = _
  have ha : (bs.map PyData.bool).all shp = true := List.all_eq_true.mpr fun x hx => by
    obtain ⟨b, _, rfl⟩ := List.mem_map.mp hx
    cases b <;> kernel_rfl
  rw [List.length_map, szOk_of (by lia), ha, show shp (.bool true) = true by kernel_rfl, List.countP_map, List.count]
  have e : (fun z => PyData.eqv z (.bool true)) ∘ PyData.bool = fun b => b == true := funext fun b => by
    show PyData.eqv (.bool b) (.bool true) = _
    cases b <;> kernel_rfl
  rw [e]; rfl
noncomputable def cellL (c : Nat → Nat) : Slot := lst ((List.range 6).map fun k => nat (c k))
section
variable {Φ : Fns} {ρ : Ev} {c : Nat → Nat} {fu : Nat}
theorem ev_cell {k : Nat} (h : ρ[3]? = some (cellL c)) (hk : k < 6) : ceval Φ (.item (.var 3) (.lit (.int (k : Int)))) ρ = some (.d (nat (c k))) := ev_itemn (rv0 h) ev_lit (by lia) (drop_range_get hk)
theorem e4 (h : ρ[3]? = some (cellL c)) : ceval Φ (.bin .Add (.lit (.int (5))) (.bin .Mod (.item (.var 3) (.lit (.int (4)))) (.lit (.int (60))))) ρ = some (.d (nat (5 + c 4 % 60))) :=
  ev_addn (ev_lit (n := 5)) (ev_modn (ev_cell (k := 4) h (by decide)) (ev_lit (n := 60)) (by decide) (by decide))
theorem rim_get : ∀ j < 2, ([.str (S []), .str (S [46, 46, 46])] : List PyData)[j]? = some (.str (S (rimN j)))
  | 0, _ => rfl
  | 1, _ => rfl
  | j + 2, h => absurd h (by lia)
theorem e5 (h : ρ[3]? = some (cellL c)) : ceval Φ (.item (.list [(.lit (.str (S []))), (.lit (.str (S [46, 46, 46])))]) (.bin .Mod (.item (.var 3) (.lit (.int (5)))) (.lit (.int (2))))) ρ = some (.d (.str (S (rimN (c 5 % 2))))) :=
  ev_itemn (ev_list (evD_cons ev_c (evD_cons ev_c evD_nil)) (show 2 ≤ 1048576 by decide)) (ev_modn (ev_cell (k := 5) h (by decide)) (ev_lit (n := 2)) (by decide) (by decide)) (by lia) (rim_get _ (Nat.mod_lt _ (by decide)))
noncomputable def tl (j : Nat) : List (List Nat) := tlU.getD j []
theorem tl_ok {j : Nat} (h : j < 6) : TailOk (tl j) := by
  unfold tl
  rw [List.getD_eq_getElem?_getD, List.getElem?_eq_getElem (show j < tlU.length from h)]
  exact tl_all _ (List.getElem_mem _)
theorem e6 (h : ρ[3]? = some (cellL c)) : ceval Φ (.item (.list [(.lit (.str (S [92, 40]))), (.lit (.str (S [92, 41]))), (.lit (.str (S [92, 41, 34]))), (.lit (.str (S [92, 40, 92]))), (.lit (.str (S [92, 92, 34, 41, 34, 92, 40]))), (.lit (.str (S [34, 92, 34, 92, 40])))]) (.bin .Mod (.bin .FloorDiv (.item (.var 3) (.lit (.int (5)))) (.lit (.int (2)))) (.lit (.int (6))))) ρ = some (.d (.str (S (tl (c 5 / 2 % 6)).flatten))) := by
  have hl : ceval Φ (.list [(.lit (.str (S [92, 40]))), (.lit (.str (S [92, 41]))), (.lit (.str (S [92, 41, 34]))), (.lit (.str (S [92, 40, 92]))), (.lit (.str (S [92, 92, 34, 41, 34, 92, 40]))), (.lit (.str (S [34, 92, 34, 92, 40])))]) ρ = some (.d (.list (tlU.map fun u => .str (S u.flatten)))) := rfl
  have hj := Nat.mod_lt (c 5 / 2) (show 0 < 6 by decide)
  refine ev_itemn hl (ev_modn (ev_fdivn (ev_cell (k := 5) h (by decide)) (ev_lit (n := 2)) (by decide) (by decide)) (ev_lit (n := 6)) (by decide) (by decide)) (by lia) ?_
  generalize c 5 / 2 % 6 = j at hj
  rw [List.getElem?_map, tl, List.getD_eq_getElem?_getD, List.getElem?_eq_getElem (show j < tlU.length from hj)]
  rfl
noncomputable def pOf (c : Nat → Nat) : Pl := (c 1 % 3, c 2 % 5, c 3 % 7)
theorem pOf_mem (c : Nat → Nat) : pOf c ∈ Ps := by
  unfold Ps pOf
  refine List.mem_flatMap.mpr ⟨_, List.mem_range.mpr (Nat.mod_lt _ (by decide)), List.mem_flatMap.mpr ⟨_, List.mem_range.mpr (Nat.mod_lt _ (by decide)), List.mem_map.mpr ⟨_, List.mem_range.mpr (Nat.mod_lt _ (by decide)), rfl⟩⟩⟩
theorem plc_c (c : Nat → Nat) : ∀ k, k < 4 → c k % (2 * k + 1) = plc (pOf c) k
  | 0, _ => Nat.mod_one _
  | 1, _ => rfl
  | 2, _ => rfl
  | 3, _ => rfl
  | k + 4, h => absurd h (by lia)
theorem cells_get : ∀ k, k < 4 → ((List.range 6).map fun k => nat (c k))[k]? = some (nat (c k)) := fun k h => drop_range_get (by lia)
theorem e_left {es : List Ent} (H : Std es) {k : Nat} {ps : List (List (List Nat) × Nat)} {x : Nat} {e : CE} (he : ceval (phi es fu (k + 1)) e ρ = some (.d (.list (pvs ps)))) (h : ∀ q ∈ ps, Neu q.1 ∧ (q.2 = 40 ∨ q.2 = 41)) (hl : ps.length ≤ 100) (hx : e = .var x) :
    ceval (phi es fu (k + 1)) (.call 1 [(.bin .Add (.bin .Add (.lit (.str (S [92, 34]))) (.meth .join (.lit (.str (S []))) [e])) (.lit (.str (S [92, 34, 34, 40]))))]) ρ = some (.d (.str (S (lfN (ps.map (·.2)))))) := by
  have hp : pOk ps := fun q hq => ⟨(h q hq).1.2, (h q hq).2⟩
  have hlen := pieces_len hp
  have hfl : (ps.map fun q => (piece q).flatten).flatten = (ps.map piece).flatten.flatten := by rw [List.flatten_flatten, List.map_map]; rfl
  have e1 : ceval (phi es fu (k + 1)) e ρ = some (.d (.list ((ps.map fun q => (piece q).flatten).map fun p => .str (S p)))) := by rw [he, pvs, List.map_map]; rfl
  have e2 := ev_join0 e1 (by rw [List.length_map]; lia) (by rw [hfl]; lia)
  rw [hfl] at e2
  exact (ev_call1 (ev_cat (ev_cat ev_c e2 (by simp only [List.length_cons, List.length_nil]; lia)) ev_c (by simp only [List.length_append, List.length_cons, List.length_nil]; lia)) rfl).trans (left_phi H h hl)
theorem putAll2 {i j : Nat} {a b : PyData} : putAll [i, j] [a, b] ρ = some ((ρ.set i (.sh (.d a))).set j (.sh (.d b))) := rfl
end
end M03
end Mine
end
section
open PySem PySem.W PyProof.Rows PySem.StrLaws
set_option maxRecDepth 8000
set_option maxHeartbeats 4000000
namespace Mine
namespace M03
theorem endN_len (b : List Nat) : (endN b).length ≤ b.length := by
  unfold endN
  exact Nat.le_trans (List.length_filter_le _ _) (by rw [List.length_range']; exact Nat.le_refl _)
theorem br_len (p : Pl) : ∀ k, (br p k).length = 2 * k
  | 0 => rfl
  | k + 1 => by rw [br, ins_len, br_len p k]; rfl
theorem pair_in {p : Pl} (hp : p ∈ Ps) : (br p 3, br p 4) ∈ prs := List.contains_iff_mem.mp (List.all_eq_true.mp prs_ok p hp)
theorem rim_in {r : Nat} (hr : r < 2) : r ∈ rims := by
  rcases r with _ | _ | r
  · exact List.mem_cons_self
  · exact List.mem_cons_of_mem _ List.mem_cons_self
  · lia
section
variable {es : List Ent} (H : Std03 es) {c : Nat → Nat}
include H
theorem g_ends {n j : Nat} (hn : n = 3 ∨ n = 4) (hj : j < 6) : phi es 10 11 10 [.d (.list ((nm (pOf c) n).map nat)), .d (.list (pvs (gp c (pOf c) n))), .d (.str (S (tl j).flatten))] = some (.d (.list ((endN (br (pOf c) n)).map nat))) := by
  rw [phi_code H.ends]
  have h := Bool.and_eq_true_iff.mp (List.all_eq_true.mp due_ok _ (pOf_mem c))
  have hd : ∀ s ∈ List.range' 1 (nm (pOf c) n).length, dueN (nm (pOf c) n) s = toldN ((gp c (pOf c) n).map (·.2)) s := fun s hs => by
    rw [nm_len] at hs
    rw [gp_br]
    rcases hn with e | e <;> rw [e] at hs ⊢
    · exact eq_of_beq (List.all_eq_true.mp h.1 s hs)
    · exact eq_of_beq (List.all_eq_true.mp h.2 s hs)
  have := ends_run (fu := 10) (k := 8) H.toStd (tl_ok hj) (gp_ok c (pOf c) n) (by rw [gp_len, nm_len]) (by rw [nm_len]; lia) hd
  rw [gp_br] at this
  exact this
theorem g_bare {p : Pl} (hp : p ∈ Ps) {n : Nat} (hn : n = 3 ∨ n = 4) : phi es 10 11 9 [.d (.list ((nm p n).map nat))] = some (.d (.str (S (br p n)))) := by
  rw [phi_code H.bare, bare_run (by rw [nm_len]; rcases hn with e | e <;> rw [e] <;> decide)]
  have h := Bool.and_eq_true_iff.mp (List.all_eq_true.mp bare_ok p hp)
  rcases hn with e | e <;> rw [e]
  · rw [eq_of_beq h.1]
  · rw [eq_of_beq h.2]
theorem g_sum {ps : List Nat} (h : ps ∈ sumPs) {w : Nat} (hw : w < 60) : phi es 10 11 12 [.d (.list (ps.map nat)), .d (nat (5 + w))] = some (.d (.int (sumF ps))) := by
  rw [phi_code H.sum]
  exact runF_mono (T1_le H.toStd (k := 5)) _ _ _ (okI_eq (List.all_eq_true.mp (sum_all ps h) w (List.mem_range.mpr hw)))
end
theorem shp_strs {ls : List (List Nat)} (h : ∀ l ∈ ls, okL l = true) : shp (strsV ls) = true := shp_list (n := 0) (fun x hx => by
  obtain ⟨l, hl, rfl⟩ := List.mem_map.mp hx
  exact ⟨(Bool.and_eq_true_iff.mp (shp_str (h l hl))).1, by rw [PyData.depth]; exact Nat.le_refl _⟩) (by decide)
theorem okL_lf {b : List Nat} (h : okL b = true) : okL (lfN b) = true := by
  unfold okL lfN at *
  rw [List.all_append, List.all_append, h]; rfl
theorem e_last {Φ : Fns} {ρ : Ev} {i n : Nat} {l : List Nat} (h : ρ[i]? = some (lst (l.map nat))) (hl : l.length ≤ 1000) (hn : l.getLast? = some n) : ceval Φ (.item (.var i) (.un .USub (.lit (.int (1))))) ρ = some (.d (nat n)) := by
  refine ev_item (rv0 h) (ev_neg ev_c) ?_
  have h0 : 0 < l.length := List.length_pos_iff.mpr fun e => by rw [e] at hn; cases hn
  refine (getIx_last (by rw [List.length_map]; lia) (by rw [List.length_map]; exact h0)).trans ?_
  rw [List.getLast?_map, hn]; rfl
theorem law_run {es : List Ent} (H : Std03 es) {xs : List Int} (hx : xs.length ≤ 63) : phi es 10 12 13 [.d (.list (xs.map .int))] = some (.d (.bool true)) := by
  rw [phi_code H.law]
  generalize hc0 : cellOf [1, 29, 28, 61, 3, 0] 6 xs = c
  have hP := pOf_mem c
  have hm := pair_in hP
  have hr := rim_in (Nat.mod_lt (c 5) (show 0 < 2 by decide))
  have hK := Bool.and_eq_true_iff.mp (List.all_eq_true.mp mem_ok _ hm)
  have ha := List.contains_iff_mem.mp hK.1
  have hb := List.contains_iff_mem.mp hK.2
  have hlast := List.all_eq_true.mp last_ok _ hm
  rw [Bool.and_eq_true, Bool.and_eq_true, Bool.and_eq_true, Bool.and_eq_true, Bool.and_eq_true] at hlast
  obtain ⟨⟨⟨⟨⟨l1, l2⟩, _⟩, _⟩, l5⟩, l6⟩ := hlast
  have ffa := Bool.and_eq_true_iff.mp (List.all_eq_true.mp (List.all_eq_true.mp fin_a _ ha) _ hr)
  have ffb := Bool.and_eq_true_iff.mp (List.all_eq_true.mp (List.all_eq_true.mp fin_b _ hb) _ hr)
  have f1 := of_decide_eq_true ffa.1
  have f2 := of_decide_eq_true ffb.1
  have f3 := ffa.2
  have f4 := ffb.2
  have hj := Nat.mod_lt (c 5 / 2) (show 0 < 6 by decide)
  have hsh : shp (strsV [lfN (br (pOf c) 3), lfN (br (pOf c) 4)]) = true := shp_strs (List.forall_mem_cons.mpr ⟨okL_lf l5, List.forall_mem_cons.mpr ⟨okL_lf l6, fun _ h => nomatch h⟩⟩)
  have hg : ∀ n, n ≤ 4 → phi es 10 11 8 [.d (.list ((List.range 6).map fun k => nat (c k))), .d (nat n)] = some (.d (.tuple [.list ((nm (pOf c) n).map nat), .list (pvs (gp c (pOf c) n))])) := fun n hn => by
    rw [phi_code H.grown]; exact grown_run cells_get (plc_c c) hn
  have hb3 := br_len (pOf c) 3
  have hb4 := br_len (pOf c) 4
  have he3 := endN_len (br (pOf c) 3)
  have he4 := endN_len (br (pOf c) 4)
  refine runF_rt (ρ' := [lst (xs.map .int), lst (([1, 29, 28, 61, 3, 0] : List Nat).map nat), lst ((nums xs).map .int), cellL c, .sh (.d (nat (5 + c 4 % 60))), sv (rimN (c 5 % 2)), sv (tl (c 5 / 2 % 6)).flatten, lst ((nm (pOf c) 3).map nat), lst (pvs (gp c (pOf c) 3)), lst ((nm (pOf c) 4).map nat), lst (pvs (gp c (pOf c) 4)),
    lst ((0 :: endN (br (pOf c) 3)).map nat), lst ((0 :: endN (br (pOf c) 4)).map nat), .sh (.d (strsV [lfN (br (pOf c) 3), lfN (br (pOf c) 4)])), sv (br (pOf c) 3), sv (br (pOf c) 4), .sh (.d (strsV K3)), .sh (.d (strsV K4)), sv (wantN (br (pOf c) 3)),
    lst ((v19 (br (pOf c) 3) (c 5 % 2)).map .bool), lst ((v20 (br (pOf c) 4) (c 5 % 2)).map .bool), lst ((v21 (br (pOf c) 3)).map .bool), lst ((v21 (br (pOf c) 3)).map .bool), lst (([false, false] : List Bool).map .bool), .sh (.d (.bool true)),
    lst ((v25 (br (pOf c) 3)).map nat), lst ((v26 (br (pOf c) 4)).map nat), .sh (.d (nat (v27 (br (pOf c) 4))))]) rfl ?_
  show cexs (phi es 10 11) 10 lawC [lst (xs.map .int), .un, .un, .un, .un, .un, .un, .un, .un, .un, .un, .un, .un, .un, .un, .un, .un, .un, .un, .un, .un, .un, .un, .un, .un, .un, .un, .un] = _
  unfold lawC
  refine go_asg (v := .d (.list (([1, 29, 28, 61, 3, 0] : List Nat).map nat))) rfl rfl ?_
  refine go_asg (ev_nums rfl rfl (by lia)) rfl ?_
  refine go_asg (ev_cells (base := [1, 29, 28, 61, 3, 0]) (st := 6) (n := 6) (xs := xs) rfl rfl rfl (by decide) (by decide) rfl (by decide)) rfl ?_
  rw [hc0]
  refine go_asg (e4 (c := c) rfl) rfl ?_
  refine go_asg (e5 (c := c) rfl) rfl ?_
  refine go_asg (e6 (c := c) rfl) rfl ?_
  refine go_nx ((cx_asgT ((ev_call2 (rv0 rfl) (ev_lit (n := 3))).trans (hg 3 (by decide))) rfl).trans rfl) ?_
  refine go_nx ((cx_asgT ((ev_call2 (rv0 rfl) (ev_lit (n := 4))).trans (hg 4 (by decide))) rfl).trans rfl) ?_
  refine go_asg (v := .d (.list ((0 :: endN (br (pOf c) 3)).map nat))) (ev_catL (x := [nat 0]) (ev_list (evD_cons (ev_lit (n := 0)) evD_nil) (show 1 ≤ 1048576 by decide)) ((ev_call3 (rv0 rfl) (rv0 rfl) (rv0 rfl)).trans (g_ends H (.inl rfl) hj)) (by rw [List.length_map, List.length_singleton]; lia)) rfl ?_
  refine go_asg (v := .d (.list ((0 :: endN (br (pOf c) 4)).map nat))) (ev_catL (x := [nat 0]) (ev_list (evD_cons (ev_lit (n := 0)) evD_nil) (show 1 ≤ 1048576 by decide)) ((ev_call3 (rv0 rfl) (rv0 rfl) (rv0 rfl)).trans (g_ends H (.inr rfl) hj)) (by rw [List.length_map, List.length_singleton]; lia)) rfl ?_
  refine go_asg (v := .d (strsV [lfN (br (pOf c) 3), lfN (br (pOf c) 4)])) ?_ rfl ?_
  · have hv : strsV [lfN (br (pOf c) 3), lfN (br (pOf c) 4)] = .list ([gp c (pOf c) 3, gp c (pOf c) 4].map fun z => .str (S (lfN (z.map (·.2))))) := by
      rw [← gp_br c, ← gp_br c]; rfl
    rw [hv]
    refine ev_comp (g := fun z => .list (pvs z)) (xs := [gp c (pOf c) 3, gp c (pOf c) 4]) (ev_list (evD_cons (rv0 rfl) (evD_cons (rv0 rfl) evD_nil)) (show 2 ≤ 1048576 by decide)) (vitems_l (show 2 ≤ 1048576 by decide)) fun z hz => ?_
    have hz2 : ∃ n, n ≤ 4 ∧ z = gp c (pOf c) n := by
      rcases List.mem_cons.mp hz with e | hz
      · exact ⟨3, by decide, e⟩
      · exact ⟨4, by decide, List.mem_singleton.mp hz⟩
    obtain ⟨n, hn, e⟩ := hz2
    rw [e]
    exact e_left (k := 10) (x := 28) H.toStd (rv0 rfl) (gp_neu c (pOf c) n) (by rw [gp_len]; lia) rfl
  refine go_nx (cx_no (ev_or (ev_ne_same (x := strsV [lfN (br (pOf c) 3), lfN (br (pOf c) 4)]) (rv0 rfl) ?_ hsh) (ev_or (ev_ne_same (x := nat 6) (e_last (l := 0 :: endN (br (pOf c) 3)) rfl (by rw [List.length_cons]; lia) (eq_of_beq l1)) (ev_lit (n := 6)) (shp_nat _))
    (ev_ne_same (x := nat 8) (e_last (l := 0 :: endN (br (pOf c) 4)) rfl (by rw [List.length_cons]; lia) (eq_of_beq l2)) (ev_lit (n := 8)) (shp_nat _)))) rfl) ?_
  · show _ = some (V.d (.list ([((3 : Nat)), 4].map fun n => .str (S (lfN (br (pOf c) n))))))
    refine ev_comp (g := fun n => .list ((nm (pOf c) n).map nat)) (xs := [3, 4]) (ev_list (evD_cons (rv0 rfl) (evD_cons (rv0 rfl) evD_nil)) (show 2 ≤ 1048576 by decide)) (vitems_l (show 2 ≤ 1048576 by decide)) fun n hn => ?_
    have hn2 : n = 3 ∨ n = 4 := (List.mem_cons.mp hn).imp id List.mem_singleton.mp
    have hbl := br_len (pOf c) n
    exact ev_cat (ev_cat ev_c ((ev_call1 (rv0 rfl) rfl).trans (g_bare H hP hn2)) (by simp only [List.length_cons, List.length_nil]; lia)) ev_c (by simp only [List.length_append, List.length_cons, List.length_nil]; lia)
  refine (tail_run hm ha hb hr (T2_le H (k := 5))).trans ?_
  refine go_ret ?_ rfl
  have s1 : ∀ {ρ : Ev}, ρ[25]? = some (lst ((v25 (br (pOf c) 3)).map nat)) → ρ[4]? = some (.sh (.d (nat (5 + c 4 % 60)))) → ceval (phi es 10 11) (.bin .Add (.lit (.int (1))) (.call 12 [(.var 25), (.var 4)])) ρ = some (.d (nat ((v19 (br (pOf c) 3) (c 5 % 2)).count true))) := fun h1 h2 =>
    ((ev_bin ev_c ((ev_call2 (rv0 h1) (rv0 h2)).trans (g_sum H (List.contains_iff_mem.mp f3) (Nat.mod_lt _ (by decide))))).trans (ev_add _ _)).trans (by unfold nat; rw [f1])
  have s2 : ∀ {ρ : Ev}, ρ[26]? = some (lst ((v26 (br (pOf c) 4)).map nat)) → ρ[4]? = some (.sh (.d (nat (5 + c 4 % 60)))) → ρ[27]? = some (.sh (.d (nat (v27 (br (pOf c) 4))))) → ceval (phi es 10 11) (.bin .Sub (.call 12 [(.var 26), (.var 4)]) (.var 27)) ρ = some (.d (nat ((v20 (br (pOf c) 4) (c 5 % 2)).count true))) := fun h1 h2 h3 =>
    ((ev_bin ((ev_call2 (rv0 h1) (rv0 h2)).trans (g_sum H (List.contains_iff_mem.mp f4) (Nat.mod_lt _ (by decide)))) (rv0 h3)).trans (ev_sub _ _)).trans (by unfold nat; rw [f2])
  refine ev_eq_same (ev_list (evD_cons (ev_count1 (rv0 rfl) ?_) (evD_cons (ev_count1 (rv0 rfl) ?_) evD_nil)) (show 2 ≤ 1048576 by decide)) (ev_list (evD_cons (s1 rfl rfl) (evD_cons (s2 rfl rfl rfl) evD_nil)) (show 2 ≤ 1048576 by decide)) (shp_list (n := 0) (fun x hx => ?_) (by decide))
  · unfold v19; rw [List.length_map]; decide
  · unfold v20; rw [List.length_map]; decide
  · have : ∃ n, x = nat n := by
      rcases List.mem_cons.mp hx with e | hx
      · exact ⟨_, e⟩
      · exact ⟨_, List.mem_singleton.mp hx⟩
    obtain ⟨n, rfl⟩ := this
    exact ⟨by unfold nat; rw [PyData.canLay0], by unfold nat; rw [PyData.depth]; exact Nat.le_refl _⟩
end M03
end Mine
end
section
open PySem PySem.W PyProof.Rows
set_option maxRecDepth 100000
set_option maxHeartbeats 8000000
namespace Mine
namespace L03
noncomputable section
noncomputable def qv : Program := { PySem.Challenge.pw_rw0081_03 with main := { PySem.Challenge.pw_rw0081_03.main with body := ((PySem.Challenge.pw_rw0081_03.main.body.zipIdx).filter fun p => !([0, 4, 12, 15] : List Nat).contains p.2).map (·.1) } }
noncomputable def hk : Hook := tabHook (Str.ofString "_int2digits") (Str.ofString "_digits2int") 51 58
theorem left : LeftO PySem.Challenge.pw_rw0081_03 qv [] (fun s => xlAt qv [] s && recOk [] s) hk.obs hk.val 1256 := fun w => by kernel_rfl
theorem said : PySem.Challenge.rw_rw0081_03.wellSaid = true := by kernel_rfl
noncomputable def dl : DefRec × List (Str × Expr) := (defOf qv (Str.ofString "law")).getD (noRec, [])
theorem ddef : defOf qv (Str.ofString "law") = some (dl.1, dl.2) := by kernel_rfl
theorem dthe : PySem.Challenge.pw_rw0081_03.theDef (Str.ofString "law") = some (dl.1.params, dl.1.body, dl.1.scope) := by kernel_rfl
theorem dwr : kwWritten? dl.1.params.kwonlyargs dl.1.params.kw_defaults = some dl.2 := by kernel_rfl
theorem dok : (chainsOk qv && opensWell PySem.Challenge.pw_rw0081_03 && (frees PySem.Challenge.rw_rw0081_03.row.toRowW && PySem.Challenge.rw_rw0081_03.row.within.isEmpty)) = true := by kernel_rfl
theorem dwit : PySem.Challenge.rw_rw0081_03.row.toRowW.promised := by w_witness2
theorem hd (call : WalkO qv [] (XL qv []) hk.says PySem.Challenge.rw_rw0081_03.row.toRowW dl.1 dl.2 fun f vs => PySem.call f vs) : PySem.Challenge.rw_rw0081_03.Holds :=
  holds_law said fun said => holds_open (q := qv) (loose := []) (Xt := fun s => xlAt qv [] s && recOk [] s) (XP := XL qv []) (Yf := hk.obs) (Ya := hk.val) (YP := hk.says) (N := 1256) left hk.of hk.keeps (fun s e => xl_of s (Bool.and_eq_true_iff.mp e).1) XL.keeps ddef dthe dwr
    (fun s e => recFacts_of (Bool.and_eq_true_iff.mp e).2) rfl said dok ⟨rfl, rfl, rfl, rfl, rfl, by decide +kernel⟩ dwit call
noncomputable def fnames : List Str := [Str.ofString "_ellipsis_match", Str.ofString "_strip_quoted_realnames", Str.ofString "_check_parenthesis", Str.ofString "_div2n1n", Str.ofString "_int2digits", Str.ofString "_digits2int", Str.ofString "_divmod_pos", Str.ofString "int_divmod", Str.ofString "_law_grown", Str.ofString "_law_bare", Str.ofString "_law_ends", Str.ofString "_law_texts", Str.ofString "_law_sum", Str.ofString "law"]
noncomputable def KC : Cc := { fns := fnames, csts := [(Str.ofString "ELLIPSIS_MARKER", .str (Str.ofString "...")), (Str.ofString "_DIV_LIMIT", .int 4000)] }
noncomputable def CC (own : List Str) : Cs := { K := KC, own := own, gen := some (Str.ofString "_iter_escaped_chars") }
noncomputable def nsOf (d : DefRec) (ps : List Str) : List Str := ps ++ (d.scope.names.filter fun p => (p.2 == .local || p.2 == .cell) && !ps.contains p.1).map (·.1)
noncomputable def rc (x : String) : DefRec := rcOf qv (Str.ofString x)
noncomputable def ellipsis_matchP : List Str := [Str.ofString "want", Str.ofString "got"]
theorem ellipsis_match_ok : fnOkB (rc "_ellipsis_match").scope ellipsis_matchP (nsOf (rc "_ellipsis_match") ellipsis_matchP) = true := by kernel_rfl
theorem ellipsis_match_size : (nsOf (rc "_ellipsis_match") ellipsis_matchP).length = 6 := by kernel_rfl
theorem ellipsis_match_body : cBl (CC [Str.ofString "ws"]) (gamOf (nsOf (rc "_ellipsis_match") ellipsis_matchP)) (rc "_ellipsis_match").scope 60 (rc "_ellipsis_match").body = ellC := by kernel_rfl
theorem ellipsis_match_bind (pm cd doc v0 v1 : Value) : bindArgs (fdD (rc "_ellipsis_match") pm cd doc) ⟨[v0, v1], []⟩ = pure (ellipsis_matchP.zip [v0, v1]) := by kernel_rfl
theorem ellipsis_match_ctr {B : Base} {a : Addr} {pm cd doc : Value} (F : FnT B a (rc "_ellipsis_match") pm cd doc) (ok : ∀ own, COk (CC own) B.W) {fu n : Nat} {Φ : Fns} (ct : Ctrs B.W n Φ) : Ctr B.W (n + 1) a (runF Φ fu ⟨2, 6, ellC⟩) := by
  have := code_ctr (fu := fu) (m := 60) F (ok [Str.ofString "ws"]) ellipsis_match_ok (fun vals h => by
    rcases vals with _ | ⟨v0, _ | ⟨v1, _ | ⟨_, _⟩⟩⟩ <;> first | (exfalso; simp [ellipsis_matchP] at h; done) | exact ellipsis_match_bind pm cd doc v0 v1) ct
  rw [ellipsis_match_body, ellipsis_match_size] at this
  exact this
noncomputable def strip_quoted_realnamesP : List Str := [Str.ofString "addr"]
theorem strip_quoted_realnames_ok : fnOkB (rc "_strip_quoted_realnames").scope strip_quoted_realnamesP (nsOf (rc "_strip_quoted_realnames") strip_quoted_realnamesP) = true := by kernel_rfl
theorem strip_quoted_realnames_size : (nsOf (rc "_strip_quoted_realnames") strip_quoted_realnamesP).length = 6 := by kernel_rfl
theorem strip_quoted_realnames_body : cBl (CC [Str.ofString "result"]) (gamOf (nsOf (rc "_strip_quoted_realnames") strip_quoted_realnamesP)) (rc "_strip_quoted_realnames").scope 60 (rc "_strip_quoted_realnames").body = stripC := by kernel_rfl
theorem strip_quoted_realnames_bind (pm cd doc v0 : Value) : bindArgs (fdD (rc "_strip_quoted_realnames") pm cd doc) ⟨[v0], []⟩ = pure (strip_quoted_realnamesP.zip [v0]) := by kernel_rfl
theorem strip_quoted_realnames_ctr {B : Base} {a : Addr} {pm cd doc : Value} (F : FnT B a (rc "_strip_quoted_realnames") pm cd doc) (ok : ∀ own, COk (CC own) B.W) {fu n : Nat} {Φ : Fns} (ct : Ctrs B.W n Φ) : Ctr B.W (n + 1) a (runF Φ fu ⟨1, 6, stripC⟩) := by
  have := code_ctr (fu := fu) (m := 60) F (ok [Str.ofString "result"]) strip_quoted_realnames_ok (fun vals h => by
    rcases vals with _ | ⟨v0, _ | ⟨_, _⟩⟩ <;> first | (exfalso; simp [strip_quoted_realnamesP] at h; done) | exact strip_quoted_realnames_bind pm cd doc v0) ct
  rw [strip_quoted_realnames_body, strip_quoted_realnames_size] at this
  exact this
noncomputable def check_parenthesisP : List Str := [Str.ofString "addr"]
theorem check_parenthesis_ok : fnOkB (rc "_check_parenthesis").scope check_parenthesisP (nsOf (rc "_check_parenthesis") check_parenthesisP) = true := by kernel_rfl
theorem check_parenthesis_size : (nsOf (rc "_check_parenthesis") check_parenthesisP).length = 4 := by kernel_rfl
theorem check_parenthesis_body : cBl (CC []) (gamOf (nsOf (rc "_check_parenthesis") check_parenthesisP)) (rc "_check_parenthesis").scope 60 (rc "_check_parenthesis").body = checkC := by kernel_rfl
theorem check_parenthesis_bind (pm cd doc v0 : Value) : bindArgs (fdD (rc "_check_parenthesis") pm cd doc) ⟨[v0], []⟩ = pure (check_parenthesisP.zip [v0]) := by kernel_rfl
theorem check_parenthesis_ctr {B : Base} {a : Addr} {pm cd doc : Value} (F : FnT B a (rc "_check_parenthesis") pm cd doc) (ok : ∀ own, COk (CC own) B.W) {fu n : Nat} {Φ : Fns} (ct : Ctrs B.W n Φ) : Ctr B.W (n + 1) a (runF Φ fu ⟨1, 4, checkC⟩) := by
  have := code_ctr (fu := fu) (m := 60) F (ok []) check_parenthesis_ok (fun vals h => by
    rcases vals with _ | ⟨v0, _ | ⟨_, _⟩⟩ <;> first | (exfalso; simp [check_parenthesisP] at h; done) | exact check_parenthesis_bind pm cd doc v0) ct
  rw [check_parenthesis_body, check_parenthesis_size] at this
  exact this
noncomputable def div2n1nP : List Str := [Str.ofString "a", Str.ofString "b", Str.ofString "n"]
theorem div2n1n_ok : fnOkB (rc "_div2n1n").scope div2n1nP (nsOf (rc "_div2n1n") div2n1nP) = true := by kernel_rfl
theorem div2n1n_size : (nsOf (rc "_div2n1n") div2n1nP).length = 11 := by kernel_rfl
theorem div2n1n_body : cBl (CC []) (gamOf (nsOf (rc "_div2n1n") div2n1nP)) (rc "_div2n1n").scope 60 (rc "_div2n1n").body = div2C := by kernel_rfl
theorem div2n1n_bind (pm cd doc v0 v1 v2 : Value) : bindArgs (fdD (rc "_div2n1n") pm cd doc) ⟨[v0, v1, v2], []⟩ = pure (div2n1nP.zip [v0, v1, v2]) := by kernel_rfl
theorem div2n1n_ctr {B : Base} {a : Addr} {pm cd doc : Value} (F : FnT B a (rc "_div2n1n") pm cd doc) (ok : ∀ own, COk (CC own) B.W) {fu n : Nat} {Φ : Fns} (ct : Ctrs B.W n Φ) : Ctr B.W (n + 1) a (runF Φ fu ⟨3, 11, div2C⟩) := by
  have := code_ctr (fu := fu) (m := 60) F (ok []) div2n1n_ok (fun vals h => by
    rcases vals with _ | ⟨v0, _ | ⟨v1, _ | ⟨v2, _ | ⟨_, _⟩⟩⟩⟩ <;> first | (exfalso; simp [div2n1nP] at h; done) | exact div2n1n_bind pm cd doc v0 v1 v2) ct
  rw [div2n1n_body, div2n1n_size] at this
  exact this
noncomputable def divmod_posP : List Str := [Str.ofString "a", Str.ofString "b"]
theorem divmod_pos_ok : fnOkB (rc "_divmod_pos").scope divmod_posP (nsOf (rc "_divmod_pos") divmod_posP) = true := by kernel_rfl
theorem divmod_pos_size : (nsOf (rc "_divmod_pos") divmod_posP).length = 9 := by kernel_rfl
theorem divmod_pos_body : cBl (CC [Str.ofString "q_digits"]) (gamOf (nsOf (rc "_divmod_pos") divmod_posP)) (rc "_divmod_pos").scope 60 (rc "_divmod_pos").body = dposC := by kernel_rfl
theorem divmod_pos_bind (pm cd doc v0 v1 : Value) : bindArgs (fdD (rc "_divmod_pos") pm cd doc) ⟨[v0, v1], []⟩ = pure (divmod_posP.zip [v0, v1]) := by kernel_rfl
theorem divmod_pos_ctr {B : Base} {a : Addr} {pm cd doc : Value} (F : FnT B a (rc "_divmod_pos") pm cd doc) (ok : ∀ own, COk (CC own) B.W) {fu n : Nat} {Φ : Fns} (ct : Ctrs B.W n Φ) : Ctr B.W (n + 1) a (runF Φ fu ⟨2, 9, dposC⟩) := by
  have := code_ctr (fu := fu) (m := 60) F (ok [Str.ofString "q_digits"]) divmod_pos_ok (fun vals h => by
    rcases vals with _ | ⟨v0, _ | ⟨v1, _ | ⟨_, _⟩⟩⟩ <;> first | (exfalso; simp [divmod_posP] at h; done) | exact divmod_pos_bind pm cd doc v0 v1) ct
  rw [divmod_pos_body, divmod_pos_size] at this
  exact this
noncomputable def int_divmodP : List Str := [Str.ofString "a", Str.ofString "b"]
theorem int_divmod_ok : fnOkB (rc "int_divmod").scope int_divmodP (nsOf (rc "int_divmod") int_divmodP) = true := by kernel_rfl
theorem int_divmod_size : (nsOf (rc "int_divmod") int_divmodP).length = 4 := by kernel_rfl
theorem int_divmod_body : cBl (CC []) (gamOf (nsOf (rc "int_divmod") int_divmodP)) (rc "int_divmod").scope 60 (rc "int_divmod").body = idivC := by kernel_rfl
theorem int_divmod_bind (pm cd doc v0 v1 : Value) : bindArgs (fdD (rc "int_divmod") pm cd doc) ⟨[v0, v1], []⟩ = pure (int_divmodP.zip [v0, v1]) := by kernel_rfl
theorem int_divmod_ctr {B : Base} {a : Addr} {pm cd doc : Value} (F : FnT B a (rc "int_divmod") pm cd doc) (ok : ∀ own, COk (CC own) B.W) {fu n : Nat} {Φ : Fns} (ct : Ctrs B.W n Φ) : Ctr B.W (n + 1) a (runF Φ fu ⟨2, 4, idivC⟩) := by
  have := code_ctr (fu := fu) (m := 60) F (ok []) int_divmod_ok (fun vals h => by
    rcases vals with _ | ⟨v0, _ | ⟨v1, _ | ⟨_, _⟩⟩⟩ <;> first | (exfalso; simp [int_divmodP] at h; done) | exact int_divmod_bind pm cd doc v0 v1) ct
  rw [int_divmod_body, int_divmod_size] at this
  exact this
noncomputable def law_grownP : List Str := [Str.ofString "cells", Str.ofString "pairs"]
theorem law_grown_ok : fnOkB (rc "_law_grown").scope law_grownP (nsOf (rc "_law_grown") law_grownP) = true := by kernel_rfl
theorem law_grown_size : (nsOf (rc "_law_grown") law_grownP).length = 10 := by kernel_rfl
theorem law_grown_body : cBl (CC []) (gamOf (nsOf (rc "_law_grown") law_grownP)) (rc "_law_grown").scope 60 (rc "_law_grown").body = M03.grownC := by kernel_rfl
theorem law_grown_bind (pm cd doc v0 v1 : Value) : bindArgs (fdD (rc "_law_grown") pm cd doc) ⟨[v0, v1], []⟩ = pure (law_grownP.zip [v0, v1]) := by kernel_rfl
theorem law_grown_ctr {B : Base} {a : Addr} {pm cd doc : Value} (F : FnT B a (rc "_law_grown") pm cd doc) (ok : ∀ own, COk (CC own) B.W) {fu n : Nat} {Φ : Fns} (ct : Ctrs B.W n Φ) : Ctr B.W (n + 1) a (runF Φ fu ⟨2, 10, M03.grownC⟩) := by
  have := code_ctr (fu := fu) (m := 60) F (ok []) law_grown_ok (fun vals h => by
    rcases vals with _ | ⟨v0, _ | ⟨v1, _ | ⟨_, _⟩⟩⟩ <;> first | (exfalso; simp [law_grownP] at h; done) | exact law_grown_bind pm cd doc v0 v1) ct
  rw [law_grown_body, law_grown_size] at this
  exact this
noncomputable def law_bareP : List Str := [Str.ofString "names"]
theorem law_bare_ok : fnOkB (rc "_law_bare").scope law_bareP (nsOf (rc "_law_bare") law_bareP) = true := by kernel_rfl
theorem law_bare_size : (nsOf (rc "_law_bare") law_bareP).length = 1 := by kernel_rfl
theorem law_bare_body : cBl (CC []) (gamOf (nsOf (rc "_law_bare") law_bareP)) (rc "_law_bare").scope 60 (rc "_law_bare").body = M03.bareC := by kernel_rfl
theorem law_bare_bind (pm cd doc v0 : Value) : bindArgs (fdD (rc "_law_bare") pm cd doc) ⟨[v0], []⟩ = pure (law_bareP.zip [v0]) := by kernel_rfl
theorem law_bare_ctr {B : Base} {a : Addr} {pm cd doc : Value} (F : FnT B a (rc "_law_bare") pm cd doc) (ok : ∀ own, COk (CC own) B.W) {fu n : Nat} {Φ : Fns} (ct : Ctrs B.W n Φ) : Ctr B.W (n + 1) a (runF Φ fu ⟨1, 1, M03.bareC⟩) := by
  have := code_ctr (fu := fu) (m := 60) F (ok []) law_bare_ok (fun vals h => by
    rcases vals with _ | ⟨v0, _ | ⟨_, _⟩⟩ <;> first | (exfalso; simp [law_bareP] at h; done) | exact law_bare_bind pm cd doc v0) ct
  rw [law_bare_body, law_bare_size] at this
  exact this
noncomputable def law_endsP : List Str := [Str.ofString "names", Str.ofString "pieces", Str.ofString "rest"]
theorem law_ends_ok : fnOkB (rc "_law_ends").scope law_endsP (nsOf (rc "_law_ends") law_endsP) = true := by kernel_rfl
theorem law_ends_size : (nsOf (rc "_law_ends") law_endsP).length = 6 := by kernel_rfl
theorem law_ends_body : cBl (CC []) (gamOf (nsOf (rc "_law_ends") law_endsP)) (rc "_law_ends").scope 60 (rc "_law_ends").body = M03.endsC := by kernel_rfl
theorem law_ends_bind (pm cd doc v0 v1 v2 : Value) : bindArgs (fdD (rc "_law_ends") pm cd doc) ⟨[v0, v1, v2], []⟩ = pure (law_endsP.zip [v0, v1, v2]) := by kernel_rfl
theorem law_ends_ctr {B : Base} {a : Addr} {pm cd doc : Value} (F : FnT B a (rc "_law_ends") pm cd doc) (ok : ∀ own, COk (CC own) B.W) {fu n : Nat} {Φ : Fns} (ct : Ctrs B.W n Φ) : Ctr B.W (n + 1) a (runF Φ fu ⟨3, 6, M03.endsC⟩) := by
  have := code_ctr (fu := fu) (m := 60) F (ok []) law_ends_ok (fun vals h => by
    rcases vals with _ | ⟨v0, _ | ⟨v1, _ | ⟨v2, _ | ⟨_, _⟩⟩⟩⟩ <;> first | (exfalso; simp [law_endsP] at h; done) | exact law_ends_bind pm cd doc v0 v1 v2) ct
  rw [law_ends_body, law_ends_size] at this
  exact this
noncomputable def law_textsP : List Str := [Str.ofString "pairs"]
theorem law_texts_ok : fnOkB (rc "_law_texts").scope law_textsP (nsOf (rc "_law_texts") law_textsP) = true := by kernel_rfl
theorem law_texts_size : (nsOf (rc "_law_texts") law_textsP).length = 4 := by kernel_rfl
theorem law_texts_body : cBl (CC [Str.ofString "texts"]) (gamOf (nsOf (rc "_law_texts") law_textsP)) (rc "_law_texts").scope 60 (rc "_law_texts").body = M03.textsC := by kernel_rfl
theorem law_texts_bind (pm cd doc v0 : Value) : bindArgs (fdD (rc "_law_texts") pm cd doc) ⟨[v0], []⟩ = pure (law_textsP.zip [v0]) := by kernel_rfl
theorem law_texts_ctr {B : Base} {a : Addr} {pm cd doc : Value} (F : FnT B a (rc "_law_texts") pm cd doc) (ok : ∀ own, COk (CC own) B.W) {fu n : Nat} {Φ : Fns} (ct : Ctrs B.W n Φ) : Ctr B.W (n + 1) a (runF Φ fu ⟨1, 4, M03.textsC⟩) := by
  have := code_ctr (fu := fu) (m := 60) F (ok [Str.ofString "texts"]) law_texts_ok (fun vals h => by
    rcases vals with _ | ⟨v0, _ | ⟨_, _⟩⟩ <;> first | (exfalso; simp [law_textsP] at h; done) | exact law_texts_bind pm cd doc v0) ct
  rw [law_texts_body, law_texts_size] at this
  exact this
noncomputable def law_sumP : List Str := [Str.ofString "parts", Str.ofString "width"]
theorem law_sum_ok : fnOkB (rc "_law_sum").scope law_sumP (nsOf (rc "_law_sum") law_sumP) = true := by kernel_rfl
theorem law_sum_size : (nsOf (rc "_law_sum") law_sumP).length = 11 := by kernel_rfl
theorem law_sum_body : cBl (CC []) (gamOf (nsOf (rc "_law_sum") law_sumP)) (rc "_law_sum").scope 60 (rc "_law_sum").body = M03.sumC := by kernel_rfl
theorem law_sum_bind (pm cd doc v0 v1 : Value) : bindArgs (fdD (rc "_law_sum") pm cd doc) ⟨[v0, v1], []⟩ = pure (law_sumP.zip [v0, v1]) := by kernel_rfl
theorem law_sum_ctr {B : Base} {a : Addr} {pm cd doc : Value} (F : FnT B a (rc "_law_sum") pm cd doc) (ok : ∀ own, COk (CC own) B.W) {fu n : Nat} {Φ : Fns} (ct : Ctrs B.W n Φ) : Ctr B.W (n + 1) a (runF Φ fu ⟨2, 11, M03.sumC⟩) := by
  have := code_ctr (fu := fu) (m := 60) F (ok []) law_sum_ok (fun vals h => by
    rcases vals with _ | ⟨v0, _ | ⟨v1, _ | ⟨_, _⟩⟩⟩ <;> first | (exfalso; simp [law_sumP] at h; done) | exact law_sum_bind pm cd doc v0 v1) ct
  rw [law_sum_body, law_sum_size] at this
  exact this
noncomputable def lawP : List Str := [Str.ofString "script"]
theorem law_ok : fnOkB (rc "law").scope lawP (nsOf (rc "law") lawP) = true := by kernel_rfl
theorem law_size : (nsOf (rc "law") lawP).length = 28 := by kernel_rfl
theorem law_body : cBl (CC []) (gamOf (nsOf (rc "law") lawP)) (rc "law").scope 60 (rc "law").body = M03.lawC := by kernel_rfl
theorem law_bind (pm cd doc v0 : Value) : bindArgs (fdD (rc "law") pm cd doc) ⟨[v0], []⟩ = pure (lawP.zip [v0]) := by kernel_rfl
theorem law_ctr {B : Base} {a : Addr} {pm cd doc : Value} (F : FnT B a (rc "law") pm cd doc) (ok : ∀ own, COk (CC own) B.W) {fu n : Nat} {Φ : Fns} (ct : Ctrs B.W n Φ) : Ctr B.W (n + 1) a (runF Φ fu ⟨1, 28, M03.lawC⟩) := by
  have := code_ctr (fu := fu) (m := 60) F (ok []) law_ok (fun vals h => by
    rcases vals with _ | ⟨v0, _ | ⟨_, _⟩⟩ <;> first | (exfalso; simp [lawP] at h; done) | exact law_bind pm cd doc v0) ct
  rw [law_body, law_size] at this
  exact this
noncomputable def es : List Ent := [.code ⟨2, 6, ellC⟩, .code ⟨1, 6, stripC⟩, .code ⟨1, 4, checkC⟩, .code ⟨3, 11, div2C⟩, .hand phiI2D, .hand phiD2I, .code ⟨2, 9, dposC⟩, .code ⟨2, 4, idivC⟩, .code ⟨2, 10, M03.grownC⟩, .code ⟨1, 1, M03.bareC⟩, .code ⟨3, 6, M03.endsC⟩, .code ⟨1, 4, M03.textsC⟩, .code ⟨2, 11, M03.sumC⟩, .code ⟨1, 28, M03.lawC⟩]
noncomputable def yq : Nat → Pos := fun i => ([⟨0, 0, 0, 0⟩, ⟨3, 4, 3, 7⟩, ⟨3, 10, 3, 11⟩, ⟨3, 4, 3, 11⟩, ⟨4, 4, 4, 10⟩, ⟨4, 13, 4, 18⟩, ⟨4, 4, 4, 18⟩, ⟨5, 8, 5, 11⟩, ⟨5, 13, 5, 15⟩, ⟨5, 8, 5, 15⟩, ⟨5, 19, 5, 28⟩, ⟨5, 29, 5, 33⟩, ⟨5, 19, 5, 34⟩, ⟨6, 11, 6, 17⟩, ⟨7, 19, 7, 22⟩, ⟨7, 24, 7, 28⟩, ⟨7, 31, 7, 33⟩, ⟨7, 24, 7, 33⟩, ⟨7, 18, 7, 34⟩, ⟨7, 12, 7, 34⟩, ⟨7, 12, 7, 34⟩, ⟨8, 12, 8, 18⟩, ⟨8, 21, 8, 26⟩, ⟨8, 12, 8, 26⟩, ⟨9, 13, 9, 15⟩, ⟨9, 19, 9, 23⟩, ⟨9, 13, 9, 23⟩, ⟨10, 12, 10, 18⟩, ⟨10, 21, 10, 25⟩, ⟨10, 12, 10, 25⟩, ⟨12, 19, 12, 22⟩, ⟨12, 24, 12, 26⟩, ⟨12, 18, 12, 27⟩, ⟨12, 12, 12, 27⟩, ⟨12, 12, 12, 27⟩, ⟨9, 8, 12, 27⟩, ⟨6, 8, 12, 27⟩, ⟨5, 4, 12, 27⟩, ⟨13, 7, 13, 13⟩, ⟨14, 15, 14, 18⟩, ⟨14, 20, 14, 24⟩, ⟨14, 14, 14, 25⟩, ⟨14, 8, 14, 25⟩, ⟨14, 8, 14, 25⟩, ⟨13, 4, 14, 25⟩] : List Pos).getD i ⟨0, 0, 0, 0⟩
noncomputable def iq : Nat → Pos := fun i => ([⟨0, 0, 0, 0⟩, ⟨76, 11, 76, 12⟩, ⟨76, 15, 76, 16⟩, ⟨76, 11, 76, 16⟩, ⟨76, 20, 76, 21⟩, ⟨76, 11, 76, 21⟩, ⟨77, 12, 77, 20⟩, ⟨77, 21, 77, 22⟩, ⟨77, 12, 77, 23⟩, ⟨77, 26, 77, 27⟩, ⟨77, 12, 77, 27⟩, ⟨78, 12, 78, 18⟩, ⟨76, 8, 78, 18⟩, ⟨79, 8, 79, 11⟩, ⟨79, 14, 79, 15⟩, ⟨79, 18, 79, 19⟩, ⟨79, 14, 79, 19⟩, ⟨79, 23, 79, 24⟩, ⟨79, 14, 79, 24⟩, ⟨79, 8, 79, 24⟩, ⟨80, 8, 80, 13⟩, ⟨80, 17, 80, 20⟩, ⟨80, 23, 80, 24⟩, ⟨80, 17, 80, 24⟩, ⟨80, 28, 80, 29⟩, ⟨80, 16, 80, 29⟩, ⟨80, 8, 80, 29⟩, ⟨81, 8, 81, 13⟩, ⟨81, 16, 81, 17⟩, ⟨81, 21, 81, 26⟩, ⟨81, 16, 81, 26⟩, ⟨81, 8, 81, 26⟩, ⟨82, 8, 82, 13⟩, ⟨82, 16, 82, 17⟩, ⟨82, 20, 82, 25⟩, ⟨82, 29, 82, 34⟩, ⟨82, 20, 82, 34⟩, ⟨82, 16, 82, 34⟩, ⟨82, 8, 82, 34⟩, ⟨83, 8, 83, 13⟩, ⟨83, 14, 83, 19⟩, ⟨83, 21, 83, 22⟩, ⟨83, 24, 83, 27⟩, ⟨83, 8, 83, 28⟩, ⟨83, 8, 83, 28⟩, ⟨84, 8, 84, 13⟩, ⟨84, 14, 84, 19⟩, ⟨84, 21, 84, 24⟩, ⟨84, 26, 84, 27⟩, ⟨84, 8, 84, 28⟩, ⟨84, 8, 84, 28⟩] : List Pos).getD i ⟨0, 0, 0, 0⟩
noncomputable def iq' : Nat → Pos := fun i => ([⟨0, 0, 0, 0⟩, ⟨73, 4, 73, 12⟩, ⟨73, 16, 73, 17⟩, ⟨73, 15, 73, 18⟩, ⟨73, 23, 73, 24⟩, ⟨73, 23, 73, 35⟩, ⟨73, 23, 73, 37⟩, ⟨73, 40, 73, 41⟩, ⟨73, 23, 73, 41⟩, ⟨73, 44, 73, 45⟩, ⟨73, 23, 73, 45⟩, ⟨73, 50, 73, 51⟩, ⟨73, 22, 73, 51⟩, ⟨73, 15, 73, 52⟩, ⟨73, 4, 73, 52⟩, ⟨85, 7, 85, 8⟩, ⟨86, 8, 86, 13⟩, ⟨86, 14, 86, 15⟩, ⟨86, 17, 86, 18⟩, ⟨86, 20, 86, 23⟩, ⟨86, 24, 86, 32⟩, ⟨86, 20, 86, 33⟩, ⟨86, 8, 86, 34⟩, ⟨86, 8, 86, 34⟩, ⟨85, 4, 86, 34⟩, ⟨87, 11, 87, 19⟩, ⟨87, 4, 87, 19⟩] : List Pos).getD i ⟨0, 0, 0, 0⟩
noncomputable def dq : Nat → Pos := fun i => ([⟨0, 0, 0, 0⟩, ⟨91, 11, 91, 12⟩, ⟨91, 15, 91, 16⟩, ⟨91, 11, 91, 16⟩, ⟨91, 20, 91, 21⟩, ⟨91, 11, 91, 21⟩, ⟨92, 19, 92, 25⟩, ⟨92, 26, 92, 27⟩, ⟨92, 19, 92, 28⟩, ⟨92, 12, 92, 28⟩, ⟨91, 8, 92, 28⟩, ⟨93, 8, 93, 11⟩, ⟨93, 14, 93, 15⟩, ⟨93, 18, 93, 19⟩, ⟨93, 14, 93, 19⟩, ⟨93, 23, 93, 24⟩, ⟨93, 14, 93, 24⟩, ⟨93, 8, 93, 24⟩, ⟨94, 8, 94, 13⟩, ⟨94, 17, 94, 20⟩, ⟨94, 23, 94, 24⟩, ⟨94, 17, 94, 24⟩, ⟨94, 28, 94, 29⟩, ⟨94, 16, 94, 29⟩, ⟨94, 8, 94, 29⟩, ⟨95, 16, 95, 21⟩, ⟨95, 22, 95, 25⟩, ⟨95, 27, 95, 28⟩, ⟨95, 16, 95, 29⟩, ⟨95, 33, 95, 38⟩, ⟨95, 16, 95, 38⟩, ⟨95, 42, 95, 47⟩, ⟨95, 48, 95, 49⟩, ⟨95, 51, 95, 54⟩, ⟨95, 42, 95, 55⟩, ⟨95, 15, 95, 55⟩, ⟨95, 8, 95, 55⟩] : List Pos).getD i ⟨0, 0, 0, 0⟩
noncomputable def dq' : Nat → Pos := fun i => ([⟨0, 0, 0, 0⟩, ⟨96, 36, 96, 42⟩, ⟨96, 11, 96, 16⟩, ⟨96, 17, 96, 18⟩, ⟨96, 20, 96, 23⟩, ⟨96, 24, 96, 30⟩, ⟨96, 20, 96, 31⟩, ⟨96, 11, 96, 32⟩, ⟨96, 48, 96, 49⟩, ⟨96, 11, 96, 49⟩, ⟨96, 4, 96, 49⟩] : List Pos).getD i ⟨0, 0, 0, 0⟩
noncomputable def k0 : Nat → Nat := fun _ => 0
noncomputable def iPos : Pos := ⟨75, 4, 84, 28⟩
noncomputable def dPos : Pos := ⟨90, 4, 95, 55⟩
theorem y_ok : scYB (rc "_iter_escaped_chars").scope = true := by kernel_rfl
theorem y_body : (rc "_iter_escaped_chars").body = yAll yq k0 := by kernel_rfl
theorem y_bind (pm cd doc v : Value) : bindArgs (fdD (rc "_iter_escaped_chars") pm cd doc) ⟨[v], []⟩ = pure [(sAddr, v)] := by kernel_rfl
noncomputable def innerOf : List Stmt → Arguments × Scope
  | .FunctionDef _ ps _ _ _ _ sc _ _ _ :: _ => (ps, sc)
  | _ :: r => innerOf r
  | [] => (noRec.params, noRec.scope)
noncomputable def iIn : Arguments × Scope := innerOf (rc "_int2digits").body
noncomputable def dIn : Arguments × Scope := innerOf (rc "_digits2int").body
theorem d_body : (rc "_digits2int").body = [.FunctionDef sInner dIn.1 (d2Body dq k0) [] none [] dIn.2 none sInner dPos, .Return (some (.IfExp (.Name sDigits (dq' 1)) (.Call (.Name sInner (dq' 2)) [.Constant (.int 0) (k0 1) (dq' 3), .Call (.Name sLen (dq' 4)) [.Name sDigits (dq' 5)] [] (dq' 6)] [] (dq' 7)) (.Constant (.int 0) (k0 2) (dq' 8)) (dq' 9))) (dq' 10)] := by kernel_rfl
theorem i_body : (rc "_int2digits").body = [iFill iq' k0, .FunctionDef sInner iIn.1 (i2Body iq k0) [] none [] iIn.2 none sInner iPos, iCall iq' k0, iRet iq'] := by kernel_rfl
theorem d_sc : scDB dIn.2 = true := by kernel_rfl
theorem i_sc : scIB iIn.2 = true := by kernel_rfl
theorem d2b (pm cd doc u v : Value) : bindArgs (fdD (rc "_digits2int") pm cd doc) ⟨[u, v], []⟩ = pure ([sDigits, sN].zip [u, v]) := by kernel_rfl
theorem i2b (pm cd doc u v : Value) : bindArgs (fdD (rc "_int2digits") pm cd doc) ⟨[u, v], []⟩ = pure ([sA, sN].zip [u, v]) := by kernel_rfl
noncomputable def tI (c : Addr) : Tb := ⟨c, 51, iPos, Str.ofString "_int2digits.<locals>.inner"⟩
noncomputable def tD (c : Addr) : Tb := ⟨c, 58, dPos, Str.ofString "_digits2int.<locals>.inner"⟩
theorem d2o {B : Base} {a c : Addr} {pm doc : Value} (F : FnT B a (rc "_digits2int") pm (.ref c) doc) (ht : tD c ∈ B.tabs) : D2O B a (fdD (rc "_digits2int") pm (.ref c) doc) (tD c) dIn.1 dIn.2 dq dq' k0 k0 where
  at_ := F.at_
  cd := F.code
  body := congrArg FuncBody.stmts d_body
  fo := fnOk_of (by kernel_rfl)
  cdig := by kernel_rfl
  cn := by kernel_rfl
  cin := by kernel_rfl
  len := by kernel_rfl
  bind := fun vals h => by
    rcases vals with _ | ⟨u, _ | ⟨v, _ | ⟨_, _⟩⟩⟩ <;> first | (exfalso; simp at h; done) | exact d2b pm (.ref c) doc u v
  clo := rfl
  glob := rfl
  blt := rfl
  code := rfl
  qual := by kernel_rfl
  tab := ht
  isok := (scD_of d_sc).1
  ifree := (scD_of d_sc).2
  pd := by kernel_rfl
  pk := by kernel_rfl
  pa := fun env => by kernel_rfl
  ibind := fun fd' u v h1 h2 h3 => by
    obtain ⟨a1, a2, a3, a4, a5, a6, a7, a8, a9, a10, a11, a12, a13, a14, a15⟩ := fd'
    cases h1; cases h2; cases h3
    kernel_rfl
theorem i2o {B : Base} {a c : Addr} {pm doc : Value} (F : FnT B a (rc "_int2digits") pm (.ref c) doc) (ht : tI c ∈ B.tabs) : I2O B a (fdD (rc "_int2digits") pm (.ref c) doc) (tI c) iIn.1 iIn.2 iq iq' k0 k0 where
  at_ := F.at_
  cd := F.code
  body := congrArg FuncBody.stmts i_body
  fo := fnOk_of (by kernel_rfl)
  ca := by kernel_rfl
  cn := by kernel_rfl
  cad := by kernel_rfl
  cin := by kernel_rfl
  len := by kernel_rfl
  line := by kernel_rfl
  bind := fun vals h => by
    rcases vals with _ | ⟨u, _ | ⟨v, _ | ⟨_, _⟩⟩⟩ <;> first | (exfalso; simp at h; done) | exact i2b pm (.ref c) doc u v
  clo := rfl
  glob := rfl
  blt := rfl
  code := rfl
  qual := by kernel_rfl
  tab := ht
  isok := (scI_of i_sc).1
  ifree := (scI_of i_sc).2
  pd := by kernel_rfl
  pk := by kernel_rfl
  pa := fun env => by kernel_rfl
  ibind := fun fd' u v w h1 h2 h3 => by
    obtain ⟨a1, a2, a3, a4, a5, a6, a7, a8, a9, a10, a11, a12, a13, a14, a15⟩ := fd'
    cases h1; cases h2; cases h3
    kernel_rfl
theorem all_rc : fnames.all (hasRc qv) = true := by kernel_rfl
theorem gen_rc : hasRc qv (Str.ofString "_iter_escaped_chars") = true := by kernel_rfl
theorem all_free : (bltAll.all fun p => freeB qv (looseW qv []) p.1) = true := by kernel_rfl
theorem cst1 : valOf qv (Str.ofString "ELLIPSIS_MARKER") = some (.str (Str.ofString "...")) := by kernel_rfl
theorem cst2 : valOf qv (Str.ofString "_DIV_LIMIT") = some (.int 4000) := by kernel_rfl
theorem rc_all {x : Str} (h : x ∈ fnames) : hasRc qv x = true := List.all_eq_true.mp all_rc x h
theorem ctrs {B : Base} {loose : List Str} {mean : ExcName → Option Value} (T : Top qv loose mean B.mg B.mb B.h₁) (hm : B.fns = fnames.map fun x => (x, adr B.mg x)) (hc : B.csts = KC.csts) (hb : B.blts = bltAll) {cI cD : Addr} (tD' : tD cD ∈ B.tabs) (tI' : tI cI ∈ B.tabs)
    (kD : ∀ o fd, B.h₁.get? (adr B.mg (Str.ofString "_digits2int")) = some o → o.data = .func fd → fd.code = .ref cD) (kI : ∀ o fd, B.h₁.get? (adr B.mg (Str.ofString "_int2digits")) = some o → o.data = .func fd → fd.code = .ref cI) (fu : Nat) : ∀ k, Ctrs B.W (k + 16) (phi es fu k) := by
  have hr : ∀ x ∈ fnames, hasRc qv x = true := fun x h => rc_all h
  have hW : B.W.fns = fnames.map fun x => (x, adr B.mg x) := hm
  have ok : ∀ own, COk (CC own) B.W := fun own => by
    refine ⟨⟨?_, hc.symm, hb⟩, fun g e => ?_⟩
    · show fnames = B.fns.map (·.1)
      rw [hm]; rfl
    · cases e
      obtain ⟨pm, cd, doc, F, _⟩ := fn_t (x := Str.ofString "_iter_escaped_chars") T gen_rc
      exact gen_snd (gen_fn F y_ok y_body (y_bind pm cd doc)) (top_fn T gen_rc).1 (by show _ ∈ B.blts; rw [hb]; simp [bltAll, sEnum])
  refine ctrs_phi (fun f pr φ h1 h2 n => ?_) (fun f pr F h1 h2 n Φ ct => ?_)
  · rw [hW] at h1
    have hf : f < 14 := (List.getElem?_eq_some_iff.mp h1).1
    rcases f with _ | _ | _ | _ | _ | _ | _ | _ | _ | _ | _ | _ | _ | _ | f
    all_goals first | (exfalso; omega) | (cases h2; done) | skip
    · cases h1; cases h2
      obtain ⟨pm, cd, doc, F, o, e1, e2⟩ := fn_t (x := Str.ofString "_int2digits") T (hr _ (by simp [fnames]))
      have : cd = .ref cI := kI o _ e1 e2
      subst this
      exact i2d_ctr (i2o F tI') hb n
    · cases h1; cases h2
      obtain ⟨pm, cd, doc, F, o, e1, e2⟩ := fn_t (x := Str.ofString "_digits2int") T (hr _ (by simp [fnames]))
      have : cd = .ref cD := kD o _ e1 e2
      subst this
      exact d2i_ctr (d2o F tD') hb n
  · rw [hW] at h1
    have hf : f < 14 := (List.getElem?_eq_some_iff.mp h1).1
    rcases f with _ | _ | _ | _ | _ | _ | _ | _ | _ | _ | _ | _ | _ | _ | f
    all_goals first | (exfalso; omega) | (cases h2; done) | (cases h1; cases h2)
    · obtain ⟨pm, cd, doc, F, _⟩ := fn_t (x := Str.ofString "_ellipsis_match") T (hr _ (by simp [fnames]))
      exact ellipsis_match_ctr F ok ct
    · obtain ⟨pm, cd, doc, F, _⟩ := fn_t (x := Str.ofString "_strip_quoted_realnames") T (hr _ (by simp [fnames]))
      exact strip_quoted_realnames_ctr F ok ct
    · obtain ⟨pm, cd, doc, F, _⟩ := fn_t (x := Str.ofString "_check_parenthesis") T (hr _ (by simp [fnames]))
      exact check_parenthesis_ctr F ok ct
    · obtain ⟨pm, cd, doc, F, _⟩ := fn_t (x := Str.ofString "_div2n1n") T (hr _ (by simp [fnames]))
      exact div2n1n_ctr F ok ct
    · obtain ⟨pm, cd, doc, F, _⟩ := fn_t (x := Str.ofString "_divmod_pos") T (hr _ (by simp [fnames]))
      exact divmod_pos_ctr F ok ct
    · obtain ⟨pm, cd, doc, F, _⟩ := fn_t (x := Str.ofString "int_divmod") T (hr _ (by simp [fnames]))
      exact int_divmod_ctr F ok ct
    · obtain ⟨pm, cd, doc, F, _⟩ := fn_t (x := Str.ofString "_law_grown") T (hr _ (by simp [fnames]))
      exact law_grown_ctr F ok ct
    · obtain ⟨pm, cd, doc, F, _⟩ := fn_t (x := Str.ofString "_law_bare") T (hr _ (by simp [fnames]))
      exact law_bare_ctr F ok ct
    · obtain ⟨pm, cd, doc, F, _⟩ := fn_t (x := Str.ofString "_law_ends") T (hr _ (by simp [fnames]))
      exact law_ends_ctr F ok ct
    · obtain ⟨pm, cd, doc, F, _⟩ := fn_t (x := Str.ofString "_law_texts") T (hr _ (by simp [fnames]))
      exact law_texts_ctr F ok ct
    · obtain ⟨pm, cd, doc, F, _⟩ := fn_t (x := Str.ofString "_law_sum") T (hr _ (by simp [fnames]))
      exact law_sum_ctr F ok ct
    · obtain ⟨pm, cd, doc, F, _⟩ := fn_t (x := Str.ofString "law") T (hr _ (by simp [fnames]))
      exact law_ctr F ok ct
theorem claim (hp : ∀ xs : List Int, xs.length ≤ 63 → ∃ fu, phi es fu 12 13 [.d (.list (xs.map .int))] = some (.d (.bool true))) : PySem.Challenge.rw_rw0081_03.Holds := hd (by
  intro w s₀ s₁ mg mb G Y fa o pm cd doc dV kV ho hd' hcd hD hmg hg args vals as hpre hlay hrd hwl hlo
  refine Ground.open G ?_
  intro T B D TE TW
  have hwl' := hwl
  have hmg' : mg (Str.ofString "law") = some (Value.ref fa) := hmg
  clear hmg hd' hD hcd D TE TW G B
  wrow_args hpre hlay hrd hwl hlo
  rename_i xs _ _ _ _ _ _ _ _ _ _ _ _ _ _ _ _ hlen _
  have rI : hasRc qv (Str.ofString "_int2digits") = true := rc_all (by simp [fnames])
  have rD : hasRc qv (Str.ofString "_digits2int") = true := rc_all (by simp [fnames])
  obtain ⟨cI, PI, kI, hI, tI0⟩ := top_tab T rI
  obtain ⟨cD, PD, kD, hD', tD0⟩ := top_tab T rD
  obtain ⟨mI, oI, pmI, cdI, docI, gI, dI, _⟩ := top_fn T rI
  obtain ⟨mD, oD, pmD, cdD, docD, gD, dD, _⟩ := top_fn T rD
  have eI := tabOfN_eq (by rw [← T.g.eq_nsMap]; exact mI) gI dI (kI _ _ gI dI) hI
  have eD := tabOfN_eq (by rw [← T.g.eq_nsMap]; exact mD) gD dD (kD _ _ gD dD) hD'
  obtain rfl : PI = 51 := Option.some.inj (eI.symm.trans Y.1)
  obtain rfl : PD = 58 := Option.some.inj (eD.symm.trans Y.2)
  let B := mkBase PySem.Challenge.rw_rw0081_03.row.prog w T [tD cD, tI cI]
    (List.forall_mem_cons.mpr ⟨⟨hD', tD0⟩, List.forall_mem_cons.mpr ⟨⟨hI, tI0⟩, fun _ h => nomatch h⟩⟩)
    (fun t ht t' ht' h => by
      simp only [List.mem_cons, List.not_mem_nil, or_false] at ht ht'
      rcases ht with rfl | rfl <;> rcases ht' with rfl | rfl <;> first | rfl | (exfalso; revert h; show ¬ _; simp [tD, tI]))
    KC.csts (fun p hp => by
      simp only [KC, List.mem_cons, List.not_mem_nil, or_false] at hp
      rcases hp with rfl | rfl
      · exact ⟨cst1, .inr ⟨_, rfl⟩⟩
      · exact ⟨cst2, .inl ⟨_, rfl⟩⟩) all_free fnames all_rc
  obtain ⟨fu, h⟩ := hp xs (by omega)
  have ct := ctrs (B := B) T rfl rfl rfl (List.mem_cons_self ..) (List.mem_cons_of_mem _ (List.mem_cons_self ..)) kD kI fu 12 13 (Str.ofString "law", adr mg (Str.ofString "law")) rfl
  have efa : adr mg (Str.ofString "law") = fa := by unfold adr; rw [hmg']
  rw [efa] at ct
  exact join_call (B := B) (l := PySem.Challenge.rw_rw0081_03) ct (by decide) rfl hg hwl' h)
end
end L03
end Mine
theorem Mine.L03.std : Mine.M03.Std03 Mine.L03.es := by constructor <;> first | rfl | (constructor <;> rfl)
theorem PySem.Challenge.cw_rw0081_03_holds : PySem.Challenge.rw_rw0081_03.Holds :=
  Mine.L03.claim fun _ h => ⟨10, Mine.M03.law_run Mine.L03.std h⟩
end
