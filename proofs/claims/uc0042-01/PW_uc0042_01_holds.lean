import PyProof.Rows.All
import Wide.All
import OpenK.AllK
import Wide.FinOn
import KE.KBits
import KE.KLam
import KE.KNest
import PySem.Challenge.RW_uc0042_01
set_option Elab.async false
set_option maxRecDepth 100000
set_option autoImplicit false
set_option linter.unusedSimpArgs false
set_option linter.unusedVariables false
namespace Mine
open PySem
inductive V where
  | none | bool (b : Bool) | int (i : Int) | str (s : List Nat)
  | list (xs : List V) | tup (xs : List V) | fn (k : Nat) (xs : List V)
inductive Slot where
  | unset | val (v : V) | own (xs : List V)
abbrev Rho := List Slot
noncomputable def Slot.isOwn (s : Slot) : Bool := match s with
  | .own _ => true
  | _ => false
noncomputable def Rho.at : Rho → Nat → Slot
  | [], _ => .unset
  | x :: _, 0 => x
  | _ :: r, n + 1 => Rho.at r n
inductive Tg where
  | one (i : Nat) | tup (is : List Nat)
structure Side (p : Prop) : Prop where
  h : p
structure Br (b : Bool) (P Q : Prop) : Prop where
  t : b = true → P
  f : b = false → Q
noncomputable def strMax : Nat := 16000000
noncomputable def MulFit (x y : Int) : Prop := ∃ k l : Nat, x.natAbs < 2 ^ k ∧ y.natAbs < 2 ^ l ∧ k + l ≤ 134000000
noncomputable def ShlFit (x n : Int) : Prop := 0 ≤ n ∧ ∃ k : Nat, x.natAbs < 2 ^ k ∧ (k : Int) + n ≤ 134000000
noncomputable def rep {α : Type} (s : List α) (n : Int) : List α := (List.replicate n.toNat s).flatten
abbrev VK := (V → Prop) → Prop
noncomputable def asInt (v : V) (k : Int → Prop) : Prop := match v with
  | .int i => k i
  | _ => False
noncomputable def asStr (v : V) (k : List Nat → Prop) : Prop := match v with
  | .str s => k s
  | _ => False
noncomputable def asList (v : V) (k : List V → Prop) : Prop := match v with
  | .list s => k s
  | _ => False
noncomputable def asTup (v : V) (k : List V → Prop) : Prop := match v with
  | .tup s => k s
  | _ => False
noncomputable def asFn (v : V) (k : Nat → List V → Prop) : Prop := match v with
  | .fn n s => k n s
  | _ => False
noncomputable def asSeq (v : V) (f : List Nat → Prop) (g : List V → Prop) : Prop := match v with
  | .str s => f s
  | .list s => g s
  | _ => False
noncomputable def one (vs : List V) (k : V → Prop) : Prop := match vs with
  | [v] => k v
  | _ => False
noncomputable def two (vs : List V) (k : V → V → Prop) : Prop := match vs with
  | [v, u] => k v u
  | _ => False
noncomputable def three (vs : List V) (k : V → V → V → Prop) : Prop := match vs with
  | [v, u, w] => k v u w
  | _ => False
noncomputable def int2 (a b : V) (k : Int → Int → Prop) : Prop := asInt a fun x => asInt b fun y => k x y
noncomputable def RepFit (l : Nat) (n : Int) : Prop := n < 2 ^ 62 ∧ -2 ^ 62 < n ∧ l * n.toNat ≤ strMax
noncomputable def bAdd (a b : V) (K : V → Prop) : Prop := match a with
  | .int x => asInt b fun y => K (.int (x + y))
  | .str x => asStr b fun y => Side (x.length + y.length ≤ strMax) ∧ K (.str (x ++ y))
  | .list x => asList b fun y => Side (x.length + y.length ≤ strMax) ∧ K (.list (x ++ y))
  | _ => False
noncomputable def bSub (a b : V) (K : V → Prop) : Prop := int2 a b fun x y => K (.int (x - y))
noncomputable def bMul (a b : V) (K : V → Prop) : Prop := asInt b fun n => match a with
  | .int x => Side (MulFit x n) ∧ K (.int (x * n))
  | .str s => Side (RepFit s.length n) ∧ K (.str (rep s n))
  | .list s => Side (RepFit s.length n) ∧ K (.list (rep s n))
  | _ => False
noncomputable def bDiv (a b : V) (K : V → Prop) : Prop := int2 a b fun x y => Side (y ≠ 0 ∧ Builtin.divisionGoesByPylong x y = false) ∧ K (.int (x.fdiv y))
noncomputable def bMod (a b : V) (K : V → Prop) : Prop := int2 a b fun x y => Side (y ≠ 0) ∧ K (.int (x.fmod y))
noncomputable def bPow (a b : V) (K : V → Prop) : Prop := int2 a b fun x n => Side (x = 2 ∧ 0 ≤ n ∧ n ≤ 60000000) ∧ K (.int (2 ^ n.toNat))
noncomputable def bShl (a b : V) (K : V → Prop) : Prop := int2 a b fun x n => Side (ShlFit x n) ∧ K (.int (x * 2 ^ n.toNat))
noncomputable def bShr (a b : V) (K : V → Prop) : Prop := int2 a b fun x n => Side (0 ≤ n) ∧ K (.int (x.fdiv (2 ^ n.toNat)))
noncomputable def bAnd (a b : V) (K : V → Prop) : Prop := int2 a b fun x y => K (.int (Builtin.bitAnd x y))
noncomputable def bOr (a b : V) (K : V → Prop) : Prop := int2 a b fun x y => K (.int (Builtin.bitOr x y))
noncomputable def bXor (a b : V) (K : V → Prop) : Prop := int2 a b fun x y => K (.int (Builtin.bitXor x y))
noncomputable def gAdd (a b : V) (K : V → Prop) : Prop := match a with
  | .int x => asInt b fun y => K (.int (x + y))
  | .str x => asStr b fun y => Side (x.length + y.length ≤ strMax) ∧ K (.str (x ++ y))
  | _ => False
mutual
noncomputable def V.py : V → PyData
  | .none => .none
  | .bool b => .bool b
  | .int i => .int i
  | .str s => .str ⟨s.toArray⟩
  | .list xs => .list (V.pys xs)
  | .tup xs => .tuple (V.pys xs)
  | .fn _ _ => .dict []
noncomputable def V.pys : List V → List PyData
  | [] => []
  | x :: xs => V.py x :: V.pys xs
end
noncomputable def V.lay (v : V) : Bool := v.py.canLay0 && decide (v.py.depth ≤ 60)
noncomputable def V.isNone (a : V) : Bool := match a with
  | .none => true
  | _ => false
noncomputable def sameB (y x : Bool) : Bool := match y with
  | true => x
  | false => !x
noncomputable def V.isBo (y : Bool) (a : V) : Bool := match a with
  | .bool x => sameB y x
  | _ => false
noncomputable def infixB (x : List Nat) : List Nat → Bool
  | [] => x.isEmpty
  | c :: r => x.isPrefixOf (c :: r) || infixB x r
noncomputable def vEq (a b : V) (K : Bool → Prop) : Prop := match a with
  | .int x => asInt b fun y => K (decide (x = y))
  | .str x => asStr b fun y => K (decide (x = y))
  | .list x => asList b fun y => Side ((V.list x).lay = true ∧ (V.list y).lay = true) ∧ K (PyData.eqv (V.list x).py (V.list y).py)
  | .tup x => asTup b fun y => Side ((V.tup x).lay = true ∧ (V.tup y).lay = true) ∧ K (PyData.eqv (V.tup x).py (V.tup y).py)
  | _ => False
noncomputable def cEq (a b : V) (K : V → Prop) : Prop := vEq a b fun t => K (.bool t)
noncomputable def cNe (a b : V) (K : V → Prop) : Prop := vEq a b fun t => K (.bool !t)
noncomputable def strsIn (x : List Nat) (ys : List V) (K : Bool → Prop) : Prop := ∃ ws : List (List Nat), ys = ws.map V.str ∧ Side (ws.length ≤ strMax) ∧ K (ws.contains x)
noncomputable def vIn (a b : V) (K : Bool → Prop) : Prop := match b with
  | .str y => asStr a fun x => K (infixB x y)
  | .list ys => asStr a fun x => strsIn x ys K
  | .tup ys => (match a with
    | .str x => strsIn x ys K
    | .int x => ∃ ws : List Int, ys = ws.map V.int ∧ Side (ws.length ≤ strMax) ∧ K (ws.contains x)
    | _ => False)
  | _ => False
noncomputable def cIn (a b : V) (K : V → Prop) : Prop := vIn a b fun t => K (.bool t)
noncomputable def cNin (a b : V) (K : V → Prop) : Prop := vIn a b fun t => K (.bool !t)
noncomputable def vIs (a b : V) (K : Bool → Prop) : Prop := match b with
  | .none => K a.isNone
  | .bool y => K (a.isBo y)
  | _ => False
noncomputable def cIs (a b : V) (K : V → Prop) : Prop := vIs a b fun t => K (.bool t)
noncomputable def cIsnot (a b : V) (K : V → Prop) : Prop := vIs a b fun t => K (.bool !t)
noncomputable def cLt (a b : V) (K : V → Prop) : Prop := int2 a b fun x y => K (.bool (decide (x < y)))
noncomputable def cLe (a b : V) (K : V → Prop) : Prop := int2 a b fun x y => K (.bool (decide (x ≤ y)))
noncomputable def cGt (a b : V) (K : V → Prop) : Prop := int2 a b fun x y => K (.bool (decide (y < x)))
noncomputable def cGe (a b : V) (K : V → Prop) : Prop := int2 a b fun x y => K (.bool (decide (y ≤ x)))
noncomputable def wpTruth (v : V) (K : Bool → Prop) : Prop := match v with
  | .none => K false
  | .bool b => K b
  | .int i => K (decide (i ≠ 0))
  | .str s => Side (s.length ≤ strMax) ∧ K (!s.isEmpty)
  | .list xs => Side (xs.length ≤ strMax) ∧ K (!xs.isEmpty)
  | _ => False
noncomputable def bitLen (x : Int) : Nat := if x = 0 then 0 else x.natAbs.log2 + 1
noncomputable def biLen (vs : List V) (K : V → Prop) : Prop := one vs fun v => match v with
  | .str s => Side (s.length ≤ strMax) ∧ K (.int s.length)
  | .list xs => Side (xs.length ≤ strMax) ∧ K (.int xs.length)
  | .tup xs => Side (xs.length ≤ strMax) ∧ K (.int xs.length)
  | _ => False
noncomputable def biDivmod (vs : List V) (K : V → Prop) : Prop := two vs fun a b => int2 a b fun x y => Side (y ≠ 0 ∧ Builtin.divisionGoesByPylong x y = false) ∧ K (.tup [.int (x.fdiv y), .int (x.fmod y)])
noncomputable def biAbs (vs : List V) (K : V → Prop) : Prop := one vs fun a => asInt a fun x => K (.int (if x < 0 then -x else x))
noncomputable def findFrom (x s : List Nat) : Nat → Nat → Option Nat
  | _, 0 => none
  | i, n + 1 => if x.isPrefixOf (s.drop i) then some i else findFrom x s (i + 1) n
noncomputable def findIn (x s : List Nat) (i e : Nat) : Int :=
  if i + x.length ≤ e then (match findFrom x s i (e + 1 - i - x.length) with | some j => (j : Int) | none => -1) else -1
noncomputable def splitGo (sep : List Nat) : List Nat → List Nat → Nat → List (List Nat)
  | acc, [], _ => [acc.reverse]
  | acc, c :: r, 0 => if sep.isPrefixOf (c :: r) then acc.reverse :: splitGo sep [] r (sep.length - 1) else splitGo sep (c :: acc) r 0
  | acc, _ :: r, k + 1 => splitGo sep acc r k
noncomputable def splitL (s sep : List Nat) : List (List Nat) := splitGo sep [] s 0
noncomputable def joinL (sep : List Nat) : List (List Nat) → List Nat
  | [] => []
  | [x] => x
  | x :: r => x ++ sep ++ joinL sep r
structure Mth where
  rc : V → Bool
  wp : V → List V → (V → Prop) → Prop
noncomputable def V.isStr (v : V) : Bool := match v with
  | .str _ => true
  | _ => false
noncomputable def V.isInt (v : V) : Bool := match v with
  | .int _ => true
  | _ => false
noncomputable def mStartswith : Mth := ⟨V.isStr, fun o vs K => asStr o fun s => one vs fun a => asStr a fun x => K (.bool (x.isPrefixOf s))⟩
noncomputable def mEndswith : Mth := ⟨V.isStr, fun o vs K => asStr o fun s => one vs fun a => asStr a fun x => K (.bool (x.isSuffixOf s))⟩
noncomputable def mFind : Mth := ⟨V.isStr, fun o vs K => asStr o fun s => three vs fun a i e => asStr a fun x => int2 i e fun i e => Side (0 ≤ i ∧ i ≤ s.length ∧ 0 ≤ e ∧ e ≤ s.length ∧ s.length ≤ strMax) ∧ K (.int (findIn x s i.toNat e.toNat))⟩
noncomputable def mBitlen : Mth := ⟨V.isInt, fun o vs K => asInt o fun x => vs = [] ∧ K (.int (bitLen x))⟩
noncomputable def mJoin : Mth := ⟨V.isStr, fun o vs K => asStr o fun s => one vs fun a => asSeq a (fun x => Side ((joinL s (x.map fun c => [c])).length ≤ strMax ∧ s.length ≤ 100000 ∧ x.length ≤ strMax) ∧ K (.str (joinL s (x.map fun c => [c]))))
  fun xs => ∃ ws : List (List Nat), xs = ws.map V.str ∧ Side ((joinL s ws).length ≤ strMax ∧ s.length ≤ 100000) ∧ K (.str (joinL s ws))⟩
noncomputable def place (i : Int) (n : Nat) : Option Nat := if 0 ≤ i then (if i < n then some i.toNat else none) else (if -(n : Int) ≤ i then some (i + n).toNat else none)
noncomputable def atPl {α : Type} (xs : List α) (k : Int) (f : α → Prop) : Prop := ∃ j x, place k xs.length = some j ∧ xs[j]? = some x ∧ Side (xs.length ≤ strMax) ∧ f x
noncomputable def wpItem (a i : V) (K : V → Prop) : Prop := asInt i fun k => match a with
  | .str s => atPl s k fun c => K (.str [c])
  | .list xs => atPl xs k K
  | .tup xs => atPl xs k K
  | _ => False
noncomputable def clampI (i : Int) (n : Nat) : Nat := if 0 ≤ i then min i.toNat n else (i + n).toNat
noncomputable def sliceL {α : Type} (xs : List α) (lo hi : Option Int) : List α :=
  let a := match lo with | some i => clampI i xs.length | none => 0
  let b := match hi with | some i => clampI i xs.length | none => xs.length
  (xs.take b).drop a
noncomputable def asBound (v : V) (k : Option Int → Prop) : Prop := match v with
  | .none => k none
  | .int i => k (some i)
  | _ => False
noncomputable def BoundFit (l : Option Int) : Prop := ∀ x ∈ l, x.natAbs < 2 ^ 60
noncomputable def wpSlice (a lo hi : V) (K : V → Prop) : Prop := asBound lo fun l => asBound hi fun h => asSeq a
  (fun s => Side (s.length ≤ strMax ∧ BoundFit l ∧ BoundFit h) ∧ K (.str (sliceL s l h)))
  fun xs => Side (xs.length ≤ strMax ∧ BoundFit l ∧ BoundFit h) ∧ K (.list (sliceL xs l h))
noncomputable def rangeL (a b st : Int) : List Int :=
  if st = 1 then (List.range (b - a).toNat).map (fun (i : Nat) => a + (i : Int))
  else if st = -1 then (List.range (a - b).toNat).map (fun (i : Nat) => a - (i : Int)) else []
noncomputable def itemsV (v : V) : Option (List V) := match v with
  | .list xs => some xs
  | .tup xs => some xs
  | .str s => some (s.map fun c => .str [c])
  | _ => none
noncomputable def wpItems {α : Type} (f : α → (List V → Prop) → Prop) : List α → (List V → Prop) → Prop
  | [], K => K []
  | x :: xs, K => f x fun r => wpItems f xs fun rs => K (r ++ rs)
noncomputable def bindTs : List Nat → List V → Rho → Rho
  | [], _, ρ => ρ
  | i :: is, vs, ρ => match vs with
    | [] => ρ
    | v :: vs => bindTs is vs (ρ.set i (.val v))
noncomputable def wpBind (tg : Tg) (x : V) (ρ : Rho) (K : Rho → Prop) : Prop := match tg with
  | .one i => K (ρ.set i (.val x))
  | .tup is => asTup x fun vs => is.length = vs.length ∧ K (bindTs is vs ρ)
structure Cx where
  call : Nat → List V → (V → Prop) → Prop
  gen : Nat → List V → (List V → Prop) → Prop
  clo : Nat → List V → List V → (V → Prop) → Prop
  glob : Nat → V
  dict : Nat → List Nat → Option Int
abbrev ED := Cx → Rho → (V → Prop) → Prop
abbrev TD := Cx → Rho → (Bool → Prop) → Prop
abbrev LD := Cx → Rho → (List V → Prop) → Prop
structure XD where
  E : ED
  T : TD
  B : ED
noncomputable def xP (e : ED) : XD := ⟨e, fun C ρ K => e C ρ fun v => wpTruth v K, e⟩
noncomputable def xNone : XD := xP fun _ _ K => K .none
noncomputable def xBool (b : Bool) : XD := xP fun _ _ K => K (.bool b)
noncomputable def xInt (i : Int) : XD := xP fun _ _ K => K (.int i)
noncomputable def xStr (s : List Nat) : XD := xP fun _ _ K => K (.str s)
noncomputable def atVal (ρ : Rho) (i : Nat) (k : V → Prop) : Prop := match ρ.at i with
  | .val v => k v
  | _ => False
noncomputable def atOwn (ρ : Rho) (i : Nat) (k : List V → Prop) : Prop := match ρ.at i with
  | .own v => k v
  | _ => False
noncomputable def eVar (i : Nat) : ED := fun _ ρ K => atVal ρ i K
noncomputable def xVar (i : Nat) : XD := ⟨eVar i, fun C ρ K => eVar i C ρ fun v => wpTruth v K, fun _ ρ K => match ρ.at i with
  | .val v => K v
  | .own xs => K (.list xs)
  | .unset => False⟩
noncomputable def xGlob (k : Nat) : XD := xP fun C _ K => K (C.glob k)
noncomputable def xBin (f : V → V → VK) (a b : XD) : XD := xP fun C ρ K => a.E C ρ fun x => b.E C ρ fun y => f x y K
noncomputable def xIn (f : V → V → VK) (a b : XD) : XD := xP fun C ρ K => a.E C ρ fun x => b.B C ρ fun y => f x y K
noncomputable def xNeg (a : XD) : XD := xP fun C ρ K => a.E C ρ fun x => asInt x fun i => K (.int (-i))
noncomputable def xInv (a : XD) : XD := xP fun C ρ K => a.E C ρ fun x => asInt x fun i => K (.int (Builtin.bitNot i))
noncomputable def eNot (a : XD) : ED := fun C ρ K => a.E C ρ fun x => wpTruth x fun b => K (.bool !b)
noncomputable def xNot (a : XD) : XD := ⟨eNot a, fun C ρ K => a.T C ρ fun b => K !b, eNot a⟩
noncomputable def eAnd (a b : XD) : ED := fun C ρ K => a.E C ρ fun x => wpTruth x fun t => Br t (b.E C ρ K) (K x)
noncomputable def xAnd (a b : XD) : XD := ⟨eAnd a b, fun C ρ K => a.T C ρ fun t => Br t (b.T C ρ K) (K false), eAnd a b⟩
noncomputable def eOr (a b : XD) : ED := fun C ρ K => a.E C ρ fun x => wpTruth x fun t => Br t (K x) (b.E C ρ K)
noncomputable def xOr (a b : XD) : XD := ⟨eOr a b, fun C ρ K => a.T C ρ fun t => Br t (K true) (b.T C ρ K), eOr a b⟩
noncomputable def eIte (t a b : XD) : ED := fun C ρ K => t.T C ρ fun t => Br t (a.E C ρ K) (b.E C ρ K)
noncomputable def xIte (t a b : XD) : XD := ⟨eIte t a b, fun C ρ K => t.T C ρ fun t => Br t (a.T C ρ K) (b.T C ρ K), eIte t a b⟩
noncomputable def wpL (C : Cx) : List XD → Rho → (List V → Prop) → Prop
  | [], _, K => K []
  | e :: r, ρ, K => e.E C ρ fun v => wpL C r ρ fun vs => K (v :: vs)
noncomputable def wpLB (C : Cx) (es : List XD) (ρ : Rho) (K : List V → Prop) : Prop := match es with
  | [e] => e.B C ρ fun v => K [v]
  | es => wpL C es ρ K
noncomputable def wpIfs (C : Cx) : List XD → Rho → (Bool → Prop) → Prop
  | [], _, K => K true
  | e :: r, ρ, K => e.T C ρ fun b => Br b (wpIfs C r ρ K) (K false)
noncomputable def xCall (f : Nat) (es : List XD) : XD := xP fun C ρ K => wpL C es ρ fun vs => C.call f vs K
noncomputable def xCallv (i : Nat) (es : List XD) : XD := xP fun C ρ K => atVal ρ i fun v => asFn v fun k xs => wpL C es ρ fun vs => C.clo k xs vs K
noncomputable def xBi (f : List V → VK) (es : List XD) : XD := xP fun C ρ K => wpLB C es ρ fun vs => f vs K
noncomputable def xMeth (m : Mth) (o : XD) (es : List XD) : XD := xP fun C ρ K => o.E C ρ fun x => Side (m.rc x = true) ∧ wpL C es ρ fun vs => m.wp x vs K
noncomputable def xItem (a i : XD) : XD := xP fun C ρ K => a.B C ρ fun x => i.E C ρ fun y => wpItem x y K
noncomputable def xDitem (d : Nat) (k : XD) : XD := xP fun C ρ K => k.E C ρ fun x => asStr x fun s => ∃ i, C.dict d s = some i ∧ K (.int i)
noncomputable def xSlice (a lo hi : XD) : XD := xP fun C ρ K => a.E C ρ fun x => lo.E C ρ fun l => hi.E C ρ fun h => wpSlice x l h K
noncomputable def eList (l : LD) : ED := fun C ρ K => l C ρ fun vs => Side (vs.length ≤ strMax) ∧ K (.list vs)
noncomputable def xList (es : List XD) : XD := xP (eList fun C => wpL C es)
noncomputable def xTup (es : List XD) : XD := xP fun C ρ K => wpL C es ρ fun vs => Side (vs.length ≤ strMax) ∧ K (.tup vs)
noncomputable def xToList (it : LD) : XD := xP (eList it)
noncomputable def xComp (k : Nat) (fv : List Nat) (c : LD) : XD := xP fun C ρ K => Side ((fv.all fun i => !(ρ.at i).isOwn) = true) ∧ eList c C (ρ ++ List.replicate k .unset) K
noncomputable def cDone (e : XD) : LD := fun C ρ K => e.E C ρ fun v => K [v]
noncomputable def bodyC (C : Cx) (tg : Tg) (ifs : List XD) (rest : LD) (ρ : Rho) (x : V) (K' : List V → Prop) : Prop := wpBind tg x ρ fun ρ' => wpIfs C ifs ρ' fun b => Br b (rest C ρ' K') (K' [])
noncomputable def cClause (tg : Tg) (it : LD) (ifs : List XD) (rest : LD) : LD := fun C ρ K => it C ρ fun items => Side (items.length ≤ 4000) ∧ wpItems (bodyC C tg ifs rest ρ) items K
noncomputable def BoundR (a b : Int) : Prop := -2 ^ 60 < a ∧ a < 2 ^ 60 ∧ b < 2 ^ 60 ∧ -2 ^ 60 < b
noncomputable def rangeK (vs : List V) (K : List V → Prop) : Prop := match vs with
  | [b] => asInt b fun b => Side (-2 ^ 60 < b ∧ b < 2 ^ 60) ∧ K ((rangeL 0 b 1).map V.int)
  | [a, b] => int2 a b fun a b => Side (BoundR a b) ∧ K ((rangeL a b 1).map V.int)
  | [a, b, c] => int2 a b fun a b => asInt c fun c => c = -1 ∧ Side (BoundR a b) ∧ K ((rangeL a b (-1)).map V.int)
  | _ => False
noncomputable def iRange (es : List XD) : LD := fun C ρ K => wpL C es ρ fun vs => rangeK vs K
noncomputable def iZip (a b : XD) : LD := fun C ρ K => a.E C ρ fun x => b.E C ρ fun y => asList x fun xs => asStr y fun s => K ((xs.zip s).map fun p => V.tup [p.1, .str [p.2]])
noncomputable def iRev (e : XD) : LD := fun C ρ K => e.E C ρ fun v => asList v fun xs => Side (xs.length ≤ strMax) ∧ K xs.reverse
noncomputable def iGen (g : Nat) (e : XD) : LD := fun C ρ K => e.E C ρ fun v => C.gen g [v] K
noncomputable def itemsK (v : V) (K : List V → Prop) : Prop := match itemsV v with
  | some xs => Side (xs.length ≤ strMax) ∧ K xs
  | none => False
noncomputable def iVal (e : XD) : LD := fun C ρ K => e.E C ρ fun v => itemsK v K
abbrev RD := Cx → Rho → (Slot → Prop) → Prop
noncomputable def fList (es : List XD) : LD := fun C ρ K => wpL C es ρ fun vs => Side (vs.length ≤ strMax) ∧ K vs
noncomputable def splitK (x y : V) (K : List V → Prop) : Prop := asStr x fun s => asStr y fun t => Side (t ≠ [] ∧ s.length ≤ strMax) ∧ K ((splitL s t).map V.str)
noncomputable def fSplit (o sep : XD) : LD := fun C ρ K => o.E C ρ fun x => Side (x.isStr = true) ∧ sep.E C ρ fun y => splitK x y K
noncomputable def rVal (e : XD) : RD := fun C ρ K => e.E C ρ fun v => K (.val v)
noncomputable def rOwn (f : LD) : RD := fun C ρ K => f C ρ fun xs => K (.own xs)
noncomputable def wpRs (C : Cx) : List RD → Rho → (List Slot → Prop) → Prop
  | [], _, K => K []
  | r :: rs, ρ, K => r C ρ fun s => wpRs C rs ρ fun ss => K (s :: ss)
noncomputable def setAll : List Nat → List Slot → Rho → Rho
  | [], _, ρ => ρ
  | i :: is, ss, ρ => match ss with
    | [] => ρ
    | s :: ss => setAll is ss (ρ.set i s)
noncomputable def frzS (s : Slot) : Slot := match s with
  | .own xs => .val (.list xs)
  | s => s
noncomputable def frzAll : List Nat → Rho → Rho
  | [], ρ => ρ
  | i :: is, ρ => frzAll is (ρ.set i (frzS (ρ.at i)))
abbrev SD := Cx → Rho → (Rho → Prop) → (V → Prop) → Prop
noncomputable def wpSs (C : Cx) : List SD → Rho → (Rho → Prop) → (V → Prop) → Prop
  | [], ρ, KN, _ => KN ρ
  | s :: r, ρ, KN, KR => s C ρ (fun ρ' => wpSs C r ρ' KN KR) KR
noncomputable def wpFor (body : V → Rho → (Rho → Prop) → Prop) : List V → Rho → (Rho → Prop) → Prop
  | [], ρ, K => K ρ
  | x :: xs, ρ, K => body x ρ fun ρ' => wpFor body xs ρ' K
noncomputable def wpWhile (test : Rho → (Bool → Prop) → Prop) (body : Rho → (Rho → Prop) → Prop) : Nat → Rho → (Rho → Prop) → Prop
  | 0, _, _ => False
  | n + 1, ρ, K => test ρ fun b => Br b (body ρ fun ρ' => wpWhile test body n ρ' K) (K ρ)
noncomputable def sAssign (i : Nat) (r : RD) : SD := fun C ρ KN _ => r C ρ fun s => KN (ρ.set i s)
noncomputable def sAssignT (is : List Nat) (e : XD) : SD := fun C ρ KN _ => e.E C ρ fun v => asTup v fun vs => is.length = vs.length ∧ KN (bindTs is vs ρ)
noncomputable def sAssignD (is : List Nat) (rs : List RD) : SD := fun C ρ KN _ => wpRs C rs ρ fun ss => is.length = ss.length ∧ KN (setAll is ss ρ)
noncomputable def sAug (i : Nat) (f : V → V → VK) (e : XD) : SD := fun C ρ KN _ => atVal ρ i fun x => e.E C ρ fun y => f x y fun z => KN (ρ.set i (.val z))
noncomputable def sAugItem (i : Nat) (idx e : XD) : SD := fun C ρ KN _ => atOwn ρ i fun xs => idx.E C ρ fun k => asInt k fun k => ∃ j x, place k xs.length = some j ∧ xs[j]? = some (.int x) ∧ Side (0 ≤ k ∧ xs.length ≤ strMax) ∧ e.E C ρ fun y => asInt y fun y => KN (ρ.set i (.own (xs.set j (.int (x + y)))))
noncomputable def sDel (i : Nat) (idx : XD) : SD := fun C ρ KN _ => atOwn ρ i fun xs => idx.E C ρ fun k => asInt k fun k => ∃ j, place k xs.length = some j ∧ Side (xs.length ≤ strMax) ∧ KN (ρ.set i (.own (xs.eraseIdx j)))
noncomputable def sAppend (i : Nat) (e : XD) : SD := fun C ρ KN _ => atOwn ρ i fun xs => e.E C ρ fun y => Side (xs.length < strMax) ∧ KN (ρ.set i (.own (xs ++ [y])))
noncomputable def sReverse (i : Nat) : SD := fun _ ρ KN _ => atOwn ρ i fun xs => Side (xs.length ≤ strMax) ∧ KN (ρ.set i (.own xs.reverse))
noncomputable def sIf (t : XD) (a b : List SD) : SD := fun C ρ KN KR => t.T C ρ fun t => Br t (wpSs C a ρ KN KR) (wpSs C b ρ KN KR)
noncomputable def forB (C : Cx) (tg : Tg) (b : List SD) (KR : V → Prop) (x : V) (ρ : Rho) (K : Rho → Prop) : Prop := wpBind tg x ρ fun ρ' => wpSs C b ρ' K KR
noncomputable def sFor (tg : Tg) (it : LD) (b : List SD) : SD := fun C ρ KN KR => it C ρ fun items => wpFor (forB C tg b KR) items ρ KN
noncomputable def sWhl (t : XD) (b : List SD) : SD := fun C ρ KN KR => ∃ n, wpWhile (fun ρ K => t.T C ρ K) (fun ρ K => wpSs C b ρ K KR) n ρ KN
noncomputable def sRet (e : XD) : SD := fun C ρ _ KR => e.E C ρ KR
noncomputable def sAssert (t : XD) : SD := fun C ρ KN _ => t.T C ρ fun b => b = true ∧ KN ρ
noncomputable def sDead : SD := fun _ _ _ _ => False
noncomputable def sFrz (is : List Nat) (s : SD) : SD := fun C ρ KN KR => s C (frzAll is ρ) KN KR
end Mine
namespace Mine
open PySem
structure Cfg where
  fns : List (Str × Nat) := []
  gens : List (Str × Nat) := []
  consts : List (Str × Nat) := []
  dicts : List (Str × Nat) := []
  own : List Str := []
  frz : List (Nat × List Nat) := []
  zips : Bool := false
  lgen : Bool := false
structure Tab where
  vars : List (Str × Nat)
  globs : List Str
  cel : List Str
noncomputable def badName (x : Str) : Bool := x == ("__debug__" : Str) || x == ("__classdict__" : Str)
noncomputable def Tab.out (T : Tab) (x : Str) : Bool := !badName x && T.globs.contains x && (T.vars.lookup x).isNone
noncomputable def Tab.at (T : Tab) (x : Str) : Option Nat := if badName x then none else T.vars.lookup x
abbrev Rs {α : Type} (P : α → Prop) := Option {a // P a}
noncomputable def Rs.bd {α γ : Type} {P : α → Prop} (o : Option {a // P a}) (f : (a : α) → P a → Option γ) : Option γ := match o with
  | some p => f p.1 p.2
  | none => none
noncomputable def Rs.v {α : Type} {P : α → Prop} (o : Option {a // P a}) : Option α := match o with
  | some p => some p.1
  | none => none
theorem Rs.of {α : Type} {P : α → Prop} {o : Option {a // P a}} {a : α} (h : Rs.v o = some a) : P a := match o, h with
  | some p, h => Option.some.inj h ▸ p.2
noncomputable def isq {α : Type} (o : Option α) : Rs (fun a => o = some a) := match o with
  | some a => some ⟨a, rfl⟩
  | none => none
noncomputable def ist (b : Bool) : Rs (fun _ : Unit => b = true) := match b with
  | true => some ⟨(), rfl⟩
  | false => none
noncomputable def onE {γ : Type} (e : Expr) (o : γ)
  (boo : ∀ (op : BoolOp), ∀ (vs : List Expr), ∀ (p : Pos), e = .BoolOp op vs p → γ := fun _ _ _ _ => o)
  (bin : ∀ (l : Expr), ∀ (op : Operator), ∀ (r : Expr), ∀ (p : Pos), e = .BinOp l op r p → γ := fun _ _ _ _ _ => o)
  (un : ∀ (op : UnaryOp), ∀ (x : Expr), ∀ (p : Pos), e = .UnaryOp op x p → γ := fun _ _ _ _ => o)
  (ite : ∀ (t : Expr), ∀ (a : Expr), ∀ (b : Expr), ∀ (p : Pos), e = .IfExp t a b p → γ := fun _ _ _ _ _ => o)
  (comp : ∀ (x : Expr), ∀ (g : List Comprehension), ∀ (sc : Scope), ∀ (p : Pos), e = .ListComp x g sc p → γ := fun _ _ _ _ _ => o)
  (cmp : ∀ (l : Expr), ∀ (ops : List CmpOp), ∀ (rs : List Expr), ∀ (p : Pos), e = .Compare l ops rs p → γ := fun _ _ _ _ _ => o)
  (call : ∀ (f : Expr), ∀ (as : List Expr), ∀ (ks : List Keyword), ∀ (p : Pos), e = .Call f as ks p → γ := fun _ _ _ _ _ => o)
  (const : ∀ (c : Const), ∀ (k : Nat), ∀ (p : Pos), e = .Constant c k p → γ := fun _ _ _ _ => o)
  (attr : ∀ (x : Expr), ∀ (n : Str), ∀ (p : Pos), e = .Attribute x n p → γ := fun _ _ _ _ => o)
  (sub : ∀ (x : Expr), ∀ (i : Expr), ∀ (p : Pos), e = .Subscript x i p → γ := fun _ _ _ _ => o)
  (name : ∀ (x : Str), ∀ (p : Pos), e = .Name x p → γ := fun _ _ _ => o)
  (list : ∀ (es : List Expr), ∀ (p : Pos), e = .List es p → γ := fun _ _ _ => o)
  (tup : ∀ (es : List Expr), ∀ (k : Nat), ∀ (p : Pos), e = .Tuple es k p → γ := fun _ _ _ _ => o)
  (slice : ∀ (a : Option Expr), ∀ (b : Option Expr), ∀ (c : Option Expr), ∀ (p : Pos), e = .Slice a b c p → γ := fun _ _ _ _ _ => o) : γ := match (generalizing := false) hh : e with
  | .BoolOp op vs p => boo op vs p hh
  | .BinOp l op r p => bin l op r p hh
  | .UnaryOp op x p => un op x p hh
  | .IfExp t a b p => ite t a b p hh
  | .ListComp x g sc p => comp x g sc p hh
  | .Compare l ops rs p => cmp l ops rs p hh
  | .Call f as ks p => call f as ks p hh
  | .Constant c k p => const c k p hh
  | .Attribute x n p => attr x n p hh
  | .Subscript x i p => sub x i p hh
  | .Name x p => name x p hh
  | .List es p => list es p hh
  | .Tuple es k p => tup es k p hh
  | .Slice a b c p => slice a b c p hh
  | _ => o
noncomputable def nameIs (e : Expr) : Rs (fun p : Str × Pos => e = .Name p.1 p.2) := onE e none (name := fun x p h => some ⟨(x, p), h⟩)
noncomputable def NamesAre (T : Tab) : List Expr → List Nat → Prop
  | [], is => is = []
  | e :: r, is => ∃ x p i js, e = .Name x p ∧ T.at x = some i ∧ is = i :: js ∧ NamesAre T r js
noncomputable def namesV (T : Tab) : (es : List Expr) → Rs (NamesAre T es)
  | [] => some ⟨[], rfl⟩
  | e :: r => Rs.bd (nameIs e) fun x hx => Rs.bd (isq (T.at x.1)) fun i hi => Rs.bd (namesV T r) fun is his => some ⟨i :: is, _, _, i, is, hx, hi, rfl, his⟩
inductive TgIs (T : Tab) (e : Expr) (tg : Tg) : Prop
  | one (x : Str) (p : Pos) (i : Nat) (h : T.at x = some i) (he : e = .Name x p) (ht : tg = .one i)
  | tup (es : List Expr) (k : Nat) (p : Pos) (is : List Nat) (h : NamesAre T es is) (he : e = .Tuple es k p) (ht : tg = .tup is)
noncomputable def tgV (T : Tab) (e : Expr) : Rs (TgIs T e) := onE e none (name := fun x p h => Rs.bd (isq (T.at x)) fun i hi => some ⟨_, .one x p i hi h rfl⟩)
  (tup := fun es k p h => Rs.bd (namesV T es) fun is his => some ⟨_, .tup es k p is his h rfl⟩)
noncomputable def Tg.idx (tg : Tg) : List Nat := match tg with
  | .one i => [i]
  | .tup is => is
noncomputable def Tg.from (lo : Nat) (tg : Tg) : Prop := ∀ i ∈ tg.idx, lo ≤ i
noncomputable def IsTupE (e : Expr) : Prop := ∃ es k p, e = .Tuple es k p
noncomputable def tupV (b : Bool) (e : Expr) : Rs (fun _ : Unit => b = true → IsTupE e) := match b with
  | false => some ⟨(), fun h => nomatch h⟩
  | true => onE e none (tup := fun es k p h => some ⟨(), fun _ => ⟨es, k, p, h⟩⟩)
noncomputable def compN (names : List (Str × NameKind)) : Nat := (names.filter fun p => p.2 == .local && !(p.1 == (".0" : Str))).length
noncomputable def celOf (names : List (Str × NameKind)) : List Str := (names.filter fun p => p.2 == .cell || p.2 == .free).map (·.1)
noncomputable def globsOf (names : List (Str × NameKind)) : List Str := (names.filter fun p => p.2 == .globalImplicit).map (·.1)
noncomputable def tabOf (names : List (Str × NameKind)) : Tab := ⟨((names.filter fun p => p.2 == .local || p.2 == .cell || p.2 == .free).zipIdx).map fun p => (p.1.1, p.2), globsOf names, celOf names⟩
structure CompF (T : Tab) (m : Nat) (names : List (Str × NameKind)) (l : List (Str × Nat)) : Prop where
  mem : ∀ x i, (x, i) ∈ l → ((x, .local) ∈ names ∧ m ≤ i ∧ i < m + compN names) ∨ ((x, .free) ∈ names ∧ T.vars.lookup x = some i)
  free : ∀ x, (x, .free) ∈ names → T.cel.contains x = true
  cell : ∀ x, (x, .cell) ∉ names
  inj : ∀ b, (∀ x i, T.vars.lookup x = some i → i < b) → (∀ x y i, T.vars.lookup x = some i → T.vars.lookup y = some i → x = y) → b ≤ m → ∀ x y i, (x, i) ∈ l → (y, i) ∈ l → x = y
theorem compN_loc {x : Str} {r : List (Str × NameKind)} (h : x ≠ ".0") : compN ((x, .local) :: r) = compN r + 1 := by
  unfold compN
  rw [List.filter_cons_of_pos (by simpa using h)]; rfl
theorem compN_dot {r : List (Str × NameKind)} : compN ((".0", .local) :: r) = compN r := by
  unfold compN
  rw [List.filter_cons_of_neg (by simp)]
theorem compN_oth {x : Str} {k : NameKind} {r : List (Str × NameKind)} (h : (k == NameKind.local) = false) : compN ((x, k) :: r) = compN r := by
  unfold compN
  rw [List.filter_cons_of_neg (by simp [h])]
section
variable {T : Tab} {m : Nat} {names : List (Str × NameKind)} {l : List (Str × Nat)} {x : Str}
theorem CompF.nil : CompF T m [] [] := ⟨fun _ _ h => (nomatch h), fun _ h => (nomatch h), fun _ h => (nomatch h), fun _ _ _ _ _ _ _ h => (nomatch h)⟩
theorem CompF.skip {y : Str} {k : NameKind} (h : CompF T m names l) (hk : (k == NameKind.free) = false) (hc : (k == NameKind.cell) = false) (hn : compN ((y, k) :: names) = compN names) : CompF T m ((y, k) :: names) l where
  mem := fun x i hx => (h.mem x i hx).imp (fun z => ⟨List.mem_cons_of_mem _ z.1, z.2.1, hn ▸ z.2.2⟩) fun z => ⟨List.mem_cons_of_mem _ z.1, z.2⟩
  free := fun x hx => by
    rcases List.mem_cons.mp hx with e | hx
    · cases e; cases hk
    · exact h.free x hx
  cell := fun x hx => by
    rcases List.mem_cons.mp hx with e | hx
    · cases e; cases hc
    · exact h.cell x hx
  inj := h.inj
theorem CompF.loc (hx : x ≠ ".0") (h : CompF T (m + 1) names l) : CompF T m ((x, .local) :: names) ((x, m) :: l) where
  mem := fun y i hy => by
    rw [compN_loc hx]
    rcases List.mem_cons.mp hy with e | hy
    · cases e; exact .inl ⟨List.mem_cons_self, Nat.le_refl _, by omega⟩
    · exact (h.mem y i hy).imp (fun z => ⟨List.mem_cons_of_mem _ z.1, by omega, by omega⟩) fun z => ⟨List.mem_cons_of_mem _ z.1, z.2⟩
  free := fun y hy => by
    rcases List.mem_cons.mp hy with e | hy
    · cases e
    · exact h.free y hy
  cell := fun y hy => by
    rcases List.mem_cons.mp hy with e | hy
    · cases e
    · exact h.cell y hy
  inj := fun b hT hi hb y z i hy hz => by
    have out : ∀ w, (w, m) ∉ l := fun w hw => by
      rcases h.mem w m hw with q | q
      · exact absurd q.2.1 (Nat.not_succ_le_self m)
      · exact absurd (hT w m q.2) (Nat.not_lt.mpr hb)
    rcases List.mem_cons.mp hy with e | hy
    · cases e
      rcases List.mem_cons.mp hz with e | hz
      · cases e; rfl
      · exact absurd hz (out z)
    · rcases List.mem_cons.mp hz with e | hz
      · cases e; exact absurd hy (out y)
      · exact h.inj b hT hi (Nat.le_succ_of_le hb) y z i hy hz
theorem CompF.fr {j : Nat} (hc : T.cel.contains x = true) (hj : T.vars.lookup x = some j) (h : CompF T m names l) : CompF T m ((x, .free) :: names) ((x, j) :: l) where
  mem := fun y i hy => by
    rw [compN_oth rfl]
    rcases List.mem_cons.mp hy with e | hy
    · cases e; exact .inr ⟨List.mem_cons_self, hj⟩
    · exact (h.mem y i hy).imp (fun z => ⟨List.mem_cons_of_mem _ z.1, z.2⟩) fun z => ⟨List.mem_cons_of_mem _ z.1, z.2⟩
  free := fun y hy => by
    rcases List.mem_cons.mp hy with e | hy
    · cases e; exact hc
    · exact h.free y hy
  cell := fun y hy => by
    rcases List.mem_cons.mp hy with e | hy
    · cases e
    · exact h.cell y hy
  inj := fun b hT hi hb y z i hy hz => by
    have fr : ∀ w, (w, j) ∈ l → w = x := fun w hw => by
      rcases h.mem w j hw with q | q
      · exact absurd (hT x j hj) (Nat.not_lt.mpr (Nat.le_trans hb q.2.1))
      · exact hi w x j q.2 hj
    rcases List.mem_cons.mp hy with e | hy
    · cases e
      rcases List.mem_cons.mp hz with e | hz
      · cases e; rfl
      · exact (fr z hz).symm
    · rcases List.mem_cons.mp hz with e | hz
      · cases e; exact fr y hy
      · exact h.inj b hT hi hb y z i hy hz
end
noncomputable def compV (T : Tab) : (m : Nat) → (names : List (Str × NameKind)) → Rs (CompF T m names)
  | _, [] => some ⟨[], .nil⟩
  | m, (x, k) :: r => match k with
    | .local => if h : x = ".0" then Rs.bd (compV T m r) fun l hl => some ⟨l, h ▸ hl.skip rfl rfl compN_dot⟩ else Rs.bd (compV T (m + 1) r) fun l hl => some ⟨(x, m) :: l, .loc h hl⟩
    | .free => Rs.bd (ist (T.cel.contains x)) fun _ h => Rs.bd (isq (T.vars.lookup x)) fun i hi => Rs.bd (compV T m r) fun l hl => some ⟨(x, i) :: l, .fr h hi hl⟩
    | .globalImplicit => Rs.bd (compV T m r) fun l hl => some ⟨l, hl.skip rfl rfl (compN_oth rfl)⟩
    | _ => none
end Mine
namespace Mine
open PySem PySem.W PySem.W.X PyProof.Rows
abbrev Frz := Addr → Option Obj
noncomputable def listObj (items : List Value) (n : Nat) : Obj := { cls := .type "list", data := .seq items.toArray n }
noncomputable def tupObj (items : List Value) (n : Nat) : Obj := { cls := .type "tuple", data := .seq items.toArray n }
noncomputable def FLe (F F' : Frz) : Prop := ∀ a o, F a = some o → F' a = some o
structure Wd where
  prog : Program
  w : World
  fo : Nat → List V → Frz → Addr → Prop
  fmono : ∀ k xs F F' a, FLe F F' → fo k xs F a → fo k xs F' a
  tabs : List Addr
  ti : Heap → Prop
  tiTab : ∀ h a, ti h → a ∈ tabs → ∃ vs, h.get? a = some (tableObj vs)
  tiKeep : ∀ h h', ti h → (∀ a o, h.get? a = some o → (o.cls = .none ∨ o.cls = .type "code") → (∃ vs, o.data = .fields vs) → h'.get? a = some o) → ti h'
  base : Frz
  mg : Str → Option Value
  mb : Str → Option Value
  hmg : ∀ h : Heap, (∀ a o, base a = some o → h.get? a = some o) → h.Ns mainGlobals mg
  hmb : ∀ h : Heap, (∀ a o, base a = some o → h.get? a = some o) → h.Ns builtinsNs mb
  hlim : ∀ h : Heap, (∀ a o, base a = some o → h.get? a = some o) → h.NoLimit
inductive LRef (F : Frz) (mk : List Value → Nat → Obj) (P : List Value → Prop) (v : Value) : Prop
  | mk (a : Addr) (items : List Value) (n : Nat) (e : v = .ref a) (h : F a = some (mk items n)) (r : P items)
inductive RCons (vs : List Value) (P : Value → Prop) (Q : List Value → Prop) : Prop
  | mk (v : Value) (r : List Value) (e : vs = v :: r) (p : P v) (q : Q r)
mutual
noncomputable def Rel (W : Wd) (F : Frz) : Value → V → Prop
  | v, .none => v = .none
  | v, .bool b => v = .bool b
  | v, .int i => ∃ t, v = .int i t
  | v, .str s => ∃ t, v = .str ⟨s.toArray⟩ t
  | v, .list xs => LRef F listObj (fun items => RelL W F items xs) v
  | v, .tup xs => LRef F tupObj (fun items => RelL W F items xs) v
  | v, .fn k xs => ∃ a, v = .ref a ∧ W.fo k xs F a
noncomputable def RelL (W : Wd) (F : Frz) : List Value → List V → Prop
  | vs, [] => vs = []
  | vs, x :: xs => RCons vs (fun v => Rel W F v x) fun r => RelL W F r xs
end
section
variable {W : Wd} {F F' : Frz}
theorem Rel.none : Rel W F .none .none := rfl
theorem Rel.bool (b : Bool) : Rel W F (.bool b) (.bool b) := rfl
theorem Rel.int (i : Int) (t : Tok) : Rel W F (.int i t) (.int i) := ⟨t, rfl⟩
theorem Rel.str (s : List Nat) (t : Tok) : Rel W F (.str ⟨s.toArray⟩ t) (.str s) := ⟨t, rfl⟩
theorem Rel.list {a : Addr} {items : List Value} {n : Nat} {xs : List V} (h : F a = some (listObj items n)) (r : RelL W F items xs) : Rel W F (.ref a) (.list xs) := ⟨a, items, n, rfl, h, r⟩
theorem Rel.tup {a : Addr} {items : List Value} {n : Nat} {xs : List V} (h : F a = some (tupObj items n)) (r : RelL W F items xs) : Rel W F (.ref a) (.tup xs) := ⟨a, items, n, rfl, h, r⟩
theorem Rel.fn {a : Addr} {k : Nat} {xs : List V} (h : W.fo k xs F a) : Rel W F (.ref a) (.fn k xs) := ⟨a, rfl, h⟩
theorem RelL.nil : RelL W F [] [] := rfl
theorem RelL.cons {v : Value} {vs : List Value} {x : V} {xs : List V} (h : Rel W F v x) (r : RelL W F vs xs) : RelL W F (v :: vs) (x :: xs) := ⟨v, vs, rfl, h, r⟩
end
mutual
theorem Rel.mono {W : Wd} {F F' : Frz} (h : FLe F F') {v : Value} : ∀ {x : V}, Rel W F v x → Rel W F' v x
  | .none, q => q
  | .bool _, q => q
  | .int _, q => q
  | .str _, q => q
  | .list _, ⟨a, its, n, e, q, r⟩ => ⟨a, its, n, e, h _ _ q, RelL.mono h r⟩
  | .tup _, ⟨a, its, n, e, q, r⟩ => ⟨a, its, n, e, h _ _ q, RelL.mono h r⟩
  | .fn _ _, ⟨a, e, q⟩ => ⟨a, e, W.fmono _ _ _ _ _ h q⟩
theorem RelL.mono {W : Wd} {F F' : Frz} (h : FLe F F') : ∀ {vs : List Value} {xs : List V}, RelL W F vs xs → RelL W F' vs xs
  | _, [], q => q
  | _, _ :: _, ⟨v, r, e, p, q⟩ => ⟨v, r, e, Rel.mono h p, RelL.mono h q⟩
end
section
variable {W : Wd} {F : Frz}
theorem RelL.length : ∀ {xs : List V} {vs : List Value}, RelL W F vs xs → vs.length = xs.length
  | [], _, h => congrArg List.length h
  | _ :: _, _, ⟨_, _, e, _, q⟩ => (congrArg List.length e).trans (congrArg Nat.succ (RelL.length q))
theorem RelL.get : ∀ {xs : List V} {vs : List Value}, RelL W F vs xs → ∀ {j : Nat} {x : V}, xs[j]? = some x → ∃ v, vs[j]? = some v ∧ Rel W F v x
  | [], _, _, _, _, e => nomatch e
  | _ :: _, _, ⟨v, _, rfl, p, _⟩, 0, _, e => ⟨v, rfl, Option.some.inj e ▸ p⟩
  | _ :: _, _, ⟨_, _, rfl, _, q⟩, j + 1, _, e => RelL.get (j := j) q e
theorem RelL.append : ∀ {xs ys : List V} {vs ws : List Value}, RelL W F vs xs → RelL W F ws ys → RelL W F (vs ++ ws) (xs ++ ys)
  | [], _, _, _, rfl, h => h
  | _ :: _, _, _, _, ⟨_, _, rfl, p, q⟩, h => .cons p (RelL.append q h)
theorem RelL.snoc {vs : List Value} {xs : List V} {v : Value} {x : V} (h : RelL W F vs xs) (q : Rel W F v x) : RelL W F (vs ++ [v]) (xs ++ [x]) := h.append (.cons q .nil)
theorem RelL.set : ∀ {xs : List V} {vs : List Value}, RelL W F vs xs → ∀ (j : Nat) {v : Value} {x : V}, Rel W F v x → RelL W F (vs.set j v) (xs.set j x)
  | [], _, rfl, _, _, _, _ => .nil
  | _ :: _, _, ⟨_, _, rfl, _, q⟩, 0, _, _, h => .cons h q
  | _ :: _, _, ⟨_, _, rfl, p, q⟩, j + 1, _, _, h => .cons p (RelL.set q j h)
theorem RelL.eraseIdx : ∀ {xs : List V} {vs : List Value}, RelL W F vs xs → ∀ (j : Nat), RelL W F (vs.eraseIdx j) (xs.eraseIdx j)
  | [], _, rfl, _ => .nil
  | _ :: _, _, ⟨_, _, rfl, _, q⟩, 0 => q
  | _ :: _, _, ⟨_, _, rfl, p, q⟩, j + 1 => .cons p (RelL.eraseIdx q j)
theorem RelL.reverse : ∀ {xs : List V} {vs : List Value}, RelL W F vs xs → RelL W F vs.reverse xs.reverse
  | [], _, rfl => .nil
  | _ :: _, _, ⟨_, _, rfl, p, q⟩ => by rw [List.reverse_cons, List.reverse_cons]; exact (RelL.reverse q).snoc p
theorem RelL.take : ∀ {xs : List V} {vs : List Value}, RelL W F vs xs → ∀ (j : Nat), RelL W F (vs.take j) (xs.take j)
  | _, _, _, 0 => .nil
  | [], _, rfl, _ + 1 => .nil
  | _ :: _, _, ⟨_, _, rfl, p, q⟩, j + 1 => .cons p (RelL.take q j)
theorem RelL.drop : ∀ {xs : List V} {vs : List Value}, RelL W F vs xs → ∀ (j : Nat), RelL W F (vs.drop j) (xs.drop j)
  | _, _, h, 0 => h
  | [], _, rfl, _ + 1 => .nil
  | _ :: _, _, ⟨_, _, rfl, _, q⟩, j + 1 => RelL.drop q j
end
structure FOk (W : Wd) (F : Frz) (h : Heap) : Prop where
  is : ∀ a o, F a = some o → h.get? a = some o
  tab : ∀ a ∈ W.tabs, F a = none
structure HOk (W : Wd) (h : Heap) : Prop where
  base : FOk W W.base h
  ti : W.ti h
structure Room (A : Around) (d : Nat) : Prop where
  handled : A.handled = none
  depth : A.depth + d ≤ 690
  units : A.units + 12 * d ≤ 9600
theorem Room.weak {A : Around} {d e : Nat} (h : Room A d) (q : e ≤ d) : Room A e := ⟨h.1, by have := h.2; lia, by have := h.3; lia⟩
theorem Room.in1 {A : Around} {d : Nat} (h : Room A (d + 1)) : Room A.in1 d := ⟨h.1, by have := h.2; simp only [Around.in1_depth]; lia, by have := h.3; simp only [Around.in1_units]; lia⟩
theorem Room.deeper {A : Around} {d : Nat} {env : Env} (h : Room A (d + 1)) : Room (A.deeper env) d :=
  ⟨h.1, by have := h.2; show A.depth + 1 + d ≤ 690; lia, by have := h.3; show A.units + 3 + 12 * d ≤ 9600; lia⟩
theorem Room.lt {A : Around} {d : Nat} (h : Room A d) : A.depth < recursionLimit := by have := h.2; show A.depth < 1000; lia
structure Excl where
  ad : Addr → Prop
  ge : Nat → Prop
noncomputable def noX : Excl := ⟨fun _ => False, fun _ => False⟩
structure Step (W : Wd) (X : Excl) (s : Shared) (F : Frz) (s' : Shared) (F' : Frz) : Prop where
  ok : HOk W s'.heap
  fin : FOk W F' s'.heap
  le : FLe F F'
  new : ∀ a o, F' a = some o → F a = some o ∨ s.heap.get? a = none ∨ X.ad a
  keep : ∀ a o, a ∉ W.tabs → ¬ X.ad a → s.heap.get? a = some o → s'.heap.get? a = some o
  os : s'.os = s.os
  gens : ∀ (i : Nat) (g : GenState), ¬ X.ge i → s.gens[i]? = some g → s'.gens[i]? = some g
  bare : AllBare s.gens → AllBare s'.gens
theorem Step.live {W : Wd} {X : Excl} {s s' : Shared} {F F' : Frz} (st : Step W X s F s' F') {a : Addr} (hx : ¬ X.ad a) (e : s'.heap.get? a = none) : s.heap.get? a = none := by
  cases q : s.heap.get? a with
  | none => rfl
  | some o =>
    by_cases ht : a ∈ W.tabs
    · obtain ⟨vs, h⟩ := W.tiTab _ a st.ok.ti ht
      rw [e] at h; cases h
    · have := st.keep a o ht hx q
      rw [e] at this; cases this
theorem Step.refl {W : Wd} {X : Excl} {s : Shared} {F : Frz} (ok : HOk W s.heap) (fin : FOk W F s.heap) : Step W X s F s F :=
  ⟨ok, fin, fun _ _ e => e, fun _ _ e => .inl e, fun _ _ _ _ e => e, rfl, fun _ _ _ e => e, fun e => e⟩
theorem Step.tok {W : Wd} {X : Excl} {s : Shared} {F : Frz} (ok : HOk W s.heap) (fin : FOk W F s.heap) (t : Nat) : Step W X s F { s with toks := t } F :=
  ⟨ok, fin, fun _ _ e => e, fun _ _ e => .inl e, fun _ _ _ _ e => e, rfl, fun _ _ _ e => e, fun e => e⟩
theorem Step.trans {W : Wd} {X : Excl} {s₁ s₂ s₃ : Shared} {F₁ F₂ F₃ : Frz} (a : Step W X s₁ F₁ s₂ F₂) (b : Step W X s₂ F₂ s₃ F₃) : Step W X s₁ F₁ s₃ F₃ where
  ok := b.ok
  fin := b.fin
  le := fun x o e => b.le _ _ (a.le _ _ e)
  new := fun x o e => by
    rcases b.new x o e with e | e | e
    · exact a.new x o e
    · by_cases hx : X.ad x
      · exact .inr (.inr hx)
      · exact .inr (.inl (a.live hx e))
    · exact .inr (.inr e)
  keep := fun x o h1 h2 e => b.keep x o h1 h2 (a.keep x o h1 h2 e)
  os := b.os.trans a.os
  gens := fun i g h e => b.gens i g h (a.gens i g h e)
  bare := fun e => b.bare (a.bare e)
theorem Step.sub {W : Wd} {X Y : Excl} {s s' : Shared} {F F' : Frz} (a : Step W X s F s' F') (h : ∀ x, X.ad x → Y.ad x ∨ s.heap.get? x = none) (g : ∀ i, X.ge i → Y.ge i ∨ s.gens[i]? = none) : Step W Y s F s' F' where
  ok := a.ok
  fin := a.fin
  le := a.le
  new := fun x o e => by
    rcases a.new x o e with e | e | e
    · exact .inl e
    · exact .inr (.inl e)
    · rcases h x e with e | e
      · exact .inr (.inr e)
      · exact .inr (.inl e)
  keep := fun x o h1 h2 e => a.keep x o h1 (fun q => by
    rcases h x q with q | q
    · exact h2 q
    · rw [q] at e; cases e) e
  os := a.os
  gens := fun i x h2 e => a.gens i x (fun q => by
    rcases g i q with q | q
    · exact h2 q
    · rw [q] at e; cases e) e
  bare := a.bare
theorem Step.weak {W : Wd} {X : Excl} {s s' : Shared} {F F' : Frz} (a : Step W noX s F s' F') : Step W X s F s' F' := a.sub (fun _ h => h.elim) fun _ h => h.elim
theorem ns_no_tab {W : Wd} {h : Heap} {L : Addr} {m} (t : W.ti h) (n : h.Ns L m) : L ∉ W.tabs := fun q => by
  obtain ⟨vs, e⟩ := W.tiTab h L t q
  obtain ⟨o, es, ep, e', d, _⟩ := n
  rw [e] at e'; cases e'; cases d
noncomputable def Frz.put (F : Frz) (a : Addr) (o : Obj) : Frz := fun b => if b = a then some o else F b
theorem Frz.put_self (F : Frz) (a : Addr) (o : Obj) : F.put a o a = some o := by simp [Frz.put]
theorem Frz.put_le {F : Frz} {a : Addr} {o : Obj} (h : F a = none) : FLe F (F.put a o) := fun b ob e => by
  unfold Frz.put
  by_cases q : b = a
  · subst q; rw [h] at e; cases e
  · rw [if_neg q]; exact e
theorem get_size_none (h : Heap) : h.get? h.objs.size = none := by
  cases q : h.get? h.objs.size with
  | none => rfl
  | some o => exact absurd (Heap.lt_size q) (Nat.lt_irrefl _)
theorem FOk.push {W : Wd} {F : Frz} {h : Heap} (f : FOk W F h) (o : Obj) : FOk W F (h.push o) := ⟨fun a ob e => Heap.get?_push_of_some _ (f.is a ob e), f.tab⟩
theorem HOk.of {W : Wd} {h h' : Heap} (f : HOk W h) (k : ∀ a o, h.get? a = some o → h'.get? a = some o) : HOk W h' :=
  ⟨⟨fun a o e => k a o (f.base.is a o e), f.base.tab⟩, W.tiKeep h h' f.ti fun a o e _ _ => k a o e⟩
theorem HOk.push {W : Wd} {h : Heap} (f : HOk W h) (o : Obj) : HOk W (h.push o) := f.of fun _ _ e => Heap.get?_push_of_some _ e
theorem HOk.tabLt {W : Wd} {h : Heap} (f : HOk W h) {a : Addr} (q : a ∈ W.tabs) : a < h.objs.size := by
  obtain ⟨vs, e⟩ := W.tiTab h a f.ti q
  exact Heap.lt_size e
theorem Step.alloc {W : Wd} {X : Excl} {s : Shared} {F : Frz} (ok : HOk W s.heap) (fin : FOk W F s.heap) (o : Obj) : Step W X s F { s with heap := s.heap.push o } F :=
  ⟨ok.push o, fin.push o, fun _ _ e => e, fun _ _ e => .inl e, fun _ _ _ _ e => Heap.get?_push_of_some _ e, rfl, fun _ _ _ e => e, fun e => e⟩
theorem Step.know {W : Wd} {X : Excl} {s s' : Shared} {F F' : Frz} (st : Step W X s F s' F') {a : Addr} {o : Obj} (e : s'.heap.get? a = some o) (h0 : s.heap.get? a = none) (hF : F' a = none) (ht : a ∉ W.tabs) :
    Step W X s F s' (F'.put a o) :=
  { st with
    fin := ⟨fun b ob q => by
      unfold Frz.put at q
      by_cases hb : b = a
      · subst hb; rw [if_pos rfl] at q; cases q; exact e
      · rw [if_neg hb] at q; exact st.fin.is b ob q, fun b hb => by
      have hne : b ≠ a := fun q => ht (by rw [← q]; exact hb)
      unfold Frz.put
      rw [if_neg hne]
      exact st.fin.tab b hb⟩
    le := fun b ob q => Frz.put_le hF _ _ (st.le b ob q)
    new := fun b ob q => by
      unfold Frz.put at q
      by_cases hb : b = a
      · subst hb; exact .inr (.inl h0)
      · rw [if_neg hb] at q; exact st.new b ob q }
theorem Step.allocK {W : Wd} {X : Excl} {s : Shared} {F : Frz} (ok : HOk W s.heap) (fin : FOk W F s.heap) (o : Obj) (hf : o.isFreed = false) : Step W X s F { s with heap := s.heap.push o } (F.put s.heap.objs.size o) := by
  refine (Step.alloc ok fin o).know (Heap.get?_push_size _ hf) (get_size_none _) ?_ (fun q => Nat.lt_irrefl _ (ok.tabLt q))
  cases q : F s.heap.objs.size with
  | none => rfl
  | some ob => exact absurd (Heap.lt_size (fin.is _ _ q)) (Nat.lt_irrefl _)
noncomputable def Holds (env : Env) (h : Heap) (m : Str → Option Value) (x : Str) (v : Value) : Prop :=
  (env.kindOf x = some .local ∧ m x = some v) ∨ ((env.kindOf x = some .cell ∨ env.kindOf x = some .free) ∧ ∃ c, env.cells.lookup x = some c ∧ h.IsCell c (some v))
noncomputable def SlotOk (W : Wd) (env : Env) (F G : Frz) (h : Heap) (m : Str → Option Value) (x : Str) (a : Addr) : Slot → Prop
  | .unset => True
  | .val v => ∃ val, Holds env h m x val ∧ Rel W F val v
  | .own xs => Holds env h m x (.ref a) ∧ F a = none ∧ G a = none ∧ ∃ items n, h.get? a = some (listObj items n) ∧ RelL W F items xs
structure Inv (W : Wd) (env : Env) (T : Tab) (m lo : Nat) (F G : Frz) (α : Nat → Addr) (ρ : Rho) (s : Shared) : Prop where
  fb : FLe W.base F
  ok : HOk W s.heap
  fin : FOk W F s.heap
  gin : FOk W G s.heap
  lf : F env.locals = none
  lg : G env.locals = none
  rl : ρ.length = m
  len : ∀ x i, T.vars.lookup x = some i → i < m
  inj : ∀ x y i, T.vars.lookup x = some i → T.vars.lookup y = some i → x = y
  cinj : ∀ x y c, env.cells.lookup x = some c → env.cells.lookup y = some c → x = y
  wr : ∀ x i, T.vars.lookup x = some i → lo ≤ i → env.kindOf x = some .local ∨ (env.kindOf x = some .cell ∧ ∃ c v, env.cells.lookup x = some c ∧ s.heap.IsCell c v ∧ F c = none ∧ G c = none)
  vars : ∃ (μ : Str → Option Value), s.heap.Ns env.locals μ ∧ ∀ x i, T.vars.lookup x = some i → SlotOk W env F G s.heap μ x (α i) (ρ.at i)
  apart : ∀ x y i j xs ys, T.vars.lookup x = some i → T.vars.lookup y = some j → i ≠ j → ρ.at i = .own xs → ρ.at j = .own ys → α i ≠ α j
  clive : ∀ x c, env.cells.lookup x = some c → ∃ o, s.heap.get? c = some o
structure EnvOk (env : Env) (T : Tab) : Prop where
  cel : ∀ x ∈ T.cel, (env.kindOf x = some .cell ∨ env.kindOf x = some .free) ∧ ∃ c, env.cells.lookup x = some c
  kind : env.scope.kind = .function
  globals : env.globals = mainGlobals
  builtins : env.builtins = builtinsNs
  glob : ∀ g ∈ T.globs, env.kindOf g = some .globalImplicit
theorem cell_no_tab {W : Wd} {h : Heap} {c : Addr} {v} (t : W.ti h) (n : h.IsCell c v) : c ∉ W.tabs := fun q => by
  obtain ⟨vs, e⟩ := W.tiTab h c t q
  obtain ⟨o, e', d⟩ := n
  rw [e] at e'; cases e'; cases d
theorem list_no_tab {W : Wd} {h : Heap} {a : Addr} {items n} (t : W.ti h) (e' : h.get? a = some (listObj items n)) : a ∉ W.tabs := fun q => by
  obtain ⟨vs, e⟩ := W.tiTab h a t q
  rw [e] at e'; cases e'
theorem ns_ne_cell {h : Heap} {L c : Addr} {m v} (n : h.Ns L m) (q : h.IsCell c v) : c ≠ L := fun e => by
  obtain ⟨o, es, ep, e1, d, _⟩ := n
  obtain ⟨o', e2, d'⟩ := q
  rw [e, e1] at e2; cases e2; rw [d] at d'; cases d'
theorem ns_ne_list {h : Heap} {L a : Addr} {m items k} (n : h.Ns L m) (q : h.get? a = some (listObj items k)) : a ≠ L := fun e => by
  obtain ⟨o, es, ep, e1, d, _⟩ := n
  rw [e, e1] at q; cases q; cases d
theorem cell_ne_list {h : Heap} {c a : Addr} {v items k} (n : h.IsCell c v) (q : h.get? a = some (listObj items k)) : a ≠ c := fun e => by
  obtain ⟨o, e1, d⟩ := n
  rw [e, e1] at q; cases q; cases d
theorem none_of_not {F : Frz} {a : Addr} (h : ∀ o, F a ≠ some o) : F a = none := by
  cases q : F a with
  | none => rfl
  | some o => exact absurd q (h o)
theorem Step.stays_out {W : Wd} {X : Excl} {s s' : Shared} {F F' : Frz} (st : Step W X s F s' F') {a : Addr} {o : Obj} (hx : ¬ X.ad a) (hl : s.heap.get? a = some o) (h : F a = none) : F' a = none :=
  none_of_not fun ob q => by
    rcases st.new a ob q with e | e | e
    · rw [h] at e; cases e
    · rw [hl] at e; cases e
    · exact hx e
theorem Inv.step {W : Wd} {env : Env} {T : Tab} {m lo : Nat} {F G F' : Frz} {α : Nat → Addr} {ρ : Rho} {s s' : Shared} (I : Inv W env T m lo F G α ρ s) (st : Step W noX s F s' F') : Inv W env T m lo F' G α ρ s' := by
  obtain ⟨μ, hn, hv⟩ := I.vars
  obtain ⟨oL, esL, epL, hL, _⟩ := id hn
  have kp : ∀ a o, a ∉ W.tabs → s.heap.get? a = some o → s'.heap.get? a = some o := fun a o h1 e => st.keep a o h1 (fun h => h) e
  have cellk : ∀ c v, s.heap.IsCell c v → s'.heap.IsCell c v := fun c v q => by
    obtain ⟨o, e, d⟩ := id q
    exact ⟨o, kp c o (cell_no_tab I.ok.ti q) e, d⟩
  have hold : ∀ x v, Holds env s.heap μ x v → Holds env s'.heap μ x v := fun x v q => by
    rcases q with q | ⟨k, c, e, q⟩
    · exact .inl q
    · exact .inr ⟨k, c, e, cellk c _ q⟩
  refine ⟨fun a o e => st.le a o (I.fb a o e), st.ok, st.fin, ⟨fun a o e => ?_, I.gin.tab⟩, st.stays_out (fun h => h) hL I.lf, I.lg, I.rl, I.len, I.inj, I.cinj, fun x i e h => ?_, ⟨μ, ?_, fun x i e => ?_⟩, I.apart, fun x c e => ?_⟩
  · refine kp a o (fun q => ?_) (I.gin.is a o e)
    rw [I.gin.tab a q] at e; cases e
  · rcases I.wr x i e h with q | ⟨k, c, v, e1, e2, e3, e4⟩
    · exact .inl q
    · obtain ⟨oc, hc, _⟩ := id e2
      exact .inr ⟨k, c, v, e1, cellk c v e2, st.stays_out (fun h => h) hc e3, e4⟩
  · exact hn.at fun o e => kp _ o (ns_no_tab I.ok.ti hn) e
  · have := hv x i e
    revert this
    cases ρ.at i with
    | unset => exact fun _ => trivial
    | val v => rintro ⟨val, h1, h2⟩; exact ⟨val, hold _ _ h1, h2.mono st.le⟩
    | own xs =>
      rintro ⟨h1, h2, h3, items, n, h4, h5⟩
      exact ⟨hold _ _ h1, st.stays_out (fun h => h) h4 h2, h3, items, n, kp _ _ (list_no_tab I.ok.ti h4) h4, h5.mono st.le⟩
  · obtain ⟨o, hc⟩ := I.clive x c e
    by_cases ht : c ∈ W.tabs
    · obtain ⟨vs, h⟩ := W.tiTab _ c st.ok.ti ht
      exact ⟨_, h⟩
    · exact ⟨o, kp c o ht hc⟩
end Mine
namespace Mine
open PySem PySem.W PyProof.Rows PySem.StrLaws PySem.Builtin PySem.Builtin.Str
abbrev S (l : List Nat) : Str := ⟨l.toArray⟩
theorem S_len (l : List Nat) : (S l).length = l.length := by simp [Str.length]
theorem S_cps (l : List Nat) : (S l).cps.toList = l := by simp
noncomputable def occG (x y : List Nat) (hi limit : Nat) : List Nat → Nat → Nat → List Nat
  | [], _, _ => []
  | i :: r, k, free => if ((k < limit ∧ free ≤ i) ∧ i + y.length ≤ hi) ∧ (x.drop i).take y.length = y then i :: occG x y hi limit r (k + 1) (i + y.length) else occG x y hi limit r k free
theorem subAt_S (x y : List Nat) (i : Nat) : (subAt (S x) (S y) i = true) ↔ (x.drop i).take y.length = y := by
  rw [subAt_eq, S_len, S_cps, S_cps, beq_iff_eq]
theorem occ_go (x y : List Nat) (hi limit : Nat) : ∀ (l : List Nat) (st : Array Nat × Nat), (forIn l st (occBody (S x) (S y) hi limit)).run.fst.toList = st.fst.toList ++ occG x y hi limit l st.fst.size st.snd
  | [], st => by simp [occG]
  | i :: l, st => by
    rw [List.forIn_cons]
    unfold occBody occG
    have hq : (((st.fst.size < limit ∧ st.snd ≤ i) ∧ i + (S y).length ≤ hi) ∧ subAt (S x) (S y) i = true) ↔ ((st.fst.size < limit ∧ st.snd ≤ i) ∧ i + y.length ≤ hi) ∧ (x.drop i).take y.length = y := by
      rw [S_len, subAt_S]
    by_cases h : ((st.fst.size < limit ∧ st.snd ≤ i) ∧ i + y.length ≤ hi) ∧ (x.drop i).take y.length = y
    · rw [if_pos (hq.mpr h), if_pos h]
      have := occ_go x y hi limit l (st.fst.push i, i + y.length)
      rw [Array.size_push, Array.toList_push, List.append_assoc] at this
      rw [← S_len y] at this
      exact this
    · rw [if_neg (fun q => h (hq.mp q)), if_neg h]
      exact occ_go x y hi limit l st
theorem occ_G (x y : List Nat) (lo hi limit : Nat) : occurrences (S x) (S y) lo hi limit = occG x y hi limit (List.range' lo (hi + 1 - lo)) 0 lo := by
  rw [occ_eq]
  have := occ_go x y hi limit (List.range' lo (hi + 1 - lo)) (#[], lo)
  simpa using this
theorem prefix_take {x y : List Nat} : y.isPrefixOf x = true ↔ x.take y.length = y := by
  rw [List.isPrefixOf_iff_prefix]
  constructor
  · rintro ⟨r, rfl⟩; simp
  · intro h; exact ⟨x.drop y.length, by (conv => lhs; arg 1; rw [← h]); exact List.take_append_drop ..⟩
theorem startswith_S (x y : List Nat) : Txt.startswith (S x) (S y) = y.isPrefixOf x := by
  unfold Txt.startswith
  rw [Bool.eq_iff_iff, Bool.and_eq_true, decide_eq_true_eq, subAt_S, S_len, S_len, prefix_take, List.drop_zero, Nat.zero_add]
  constructor
  · exact fun h => h.2
  · intro h
    refine ⟨?_, h⟩
    have := congrArg List.length h
    rw [List.length_take] at this
    lia
theorem endswith_S (x y : List Nat) : Txt.endswith (S x) (S y) = y.isSuffixOf x := by
  unfold Txt.endswith
  rw [Bool.eq_iff_iff, Bool.and_eq_true, decide_eq_true_eq, subAt_S, S_len, S_len, List.isSuffixOf_iff_suffix, Nat.zero_add]
  constructor
  · rintro ⟨h1, h2⟩
    refine ⟨x.take (x.length - y.length), ?_⟩
    have : (x.drop (x.length - y.length)).take y.length = x.drop (x.length - y.length) := List.take_of_length_le (by rw [List.length_drop]; lia)
    rw [this] at h2
    conv => lhs; arg 2; rw [← h2]
    exact List.take_append_drop ..
  · rintro ⟨r, rfl⟩
    simp
theorem infix_iff (y : List Nat) : ∀ x : List Nat, infixB y x = true ↔ ∃ i, i + y.length ≤ x.length ∧ (x.drop i).take y.length = y
  | [] => by
    simp only [infixB, List.isEmpty_iff, List.length_nil, List.drop_nil, List.take_nil]
    constructor
    · rintro rfl; exact ⟨0, by simp, rfl⟩
    · rintro ⟨i, _, h⟩; exact h.symm
  | c :: r => by
    rw [infixB, Bool.or_eq_true, infix_iff y r, prefix_take]
    constructor
    · rintro (h | ⟨i, h1, h2⟩)
      · refine ⟨0, ?_, by simpa using h⟩
        have := congrArg List.length h
        rw [List.length_take] at this
        lia
      · exact ⟨i + 1, by simp; lia, by simpa using h2⟩
    · rintro ⟨i, h1, h2⟩
      cases i with
      | zero => exact .inl (by simpa using h2)
      | succ i => exact .inr ⟨i, by simp at h1; lia, by simpa using h2⟩
theorem contains_S (x y : List Nat) : Txt.contains (S x) (S y) = infixB y x := by
  unfold Txt.contains
  rw [Bool.eq_iff_iff, found_iff, infix_iff, S_len, S_len]
  constructor
  · rintro ⟨i, h1, h2⟩; exact ⟨i, h1, (subAt_S x y i).mp h2⟩
  · rintro ⟨i, h1, h2⟩; exact ⟨i, h1, (subAt_S x y i).mpr h2⟩
theorem occG_first (x y : List Nat) (hi : Nat) : ∀ (n i free : Nat), free ≤ i → i + n = hi + 1 →
    (match occG x y hi 1 (List.range' i n) 0 free with | j :: _ => (j : Int) | [] => -1) =
      (if i + y.length ≤ hi then (match findFrom y x i (hi + 1 - i - y.length) with | some j => (j : Int) | none => -1) else -1)
  | 0, i, free, hf, h => by
    rw [List.range'_zero]
    show (-1 : Int) = _
    rw [if_neg (by lia)]
  | n + 1, i, free, hf, h => by
    rw [List.range'_succ]
    unfold occG
    by_cases hl : i + y.length ≤ hi
    · rw [if_pos hl]
      obtain ⟨k, hk⟩ : ∃ k, hi + 1 - i - y.length = k + 1 := ⟨hi - i - y.length, by lia⟩
      rw [hk]
      unfold findFrom
      by_cases hp : (x.drop i).take y.length = y
      · rw [if_pos ⟨⟨⟨by lia, hf⟩, hl⟩, hp⟩, if_pos (prefix_take.mpr hp)]
      · rw [if_neg (fun q => hp q.2), if_neg (fun q => hp (prefix_take.mp q))]
        rw [occG_first x y hi n (i + 1) free (by lia) (by lia)]
        by_cases hl' : i + 1 + y.length ≤ hi
        · rw [if_pos hl']
          have : hi + 1 - (i + 1) - y.length = k := by lia
          rw [this]
        · rw [if_neg hl']
          have : k = 0 := by lia
          subst this
          rfl
    · rw [if_neg hl, if_neg (fun q => hl q.1.2), occG_first x y hi n (i + 1) free (by lia) (by lia), if_neg (by lia)]
theorem find_S (x y : List Nat) (i e : Nat) (h : i ≤ e + 1) : (match occurrences (S x) (S y) i e 1 with | j :: _ => (j : Int) | [] => -1) = findIn y x i e := by
  rw [occ_G]
  unfold findIn
  have q := occG_first x y e (e + 1 - i) i i (Nat.le_refl _) (by lia)
  cases hl : occG x y e 1 (List.range' i (e + 1 - i)) 0 i <;> rw [hl] at q <;> exact q
noncomputable def occS (y : List Nat) : List Nat → Nat → Nat → List Nat
  | [], _, _ => []
  | c :: r, i, 0 => if y.isPrefixOf (c :: r) then i :: occS y r (i + 1) (y.length - 1) else occS y r (i + 1) 0
  | _ :: r, i, k + 1 => occS y r (i + 1) k
theorem occG_S (x y : List Nat) (hy : y ≠ []) (limit : Nat) : ∀ (n i k free : Nat), i + n = x.length + 1 → k + n ≤ limit →
    occG x y x.length limit (List.range' i n) k free = occS y (x.drop i) i (free - i)
  | 0, i, k, free, h, hk => by
    rw [List.range'_zero, List.drop_of_length_le (by lia)]
    rfl
  | n + 1, i, k, free, h, hk => by
    have hy' : 0 < y.length := List.length_pos_iff.mpr hy
    rw [List.range'_succ]
    unfold occG
    by_cases hi : i < x.length
    · rw [List.drop_eq_getElem_cons hi]
      by_cases hf : free ≤ i
      · have e0 : free - i = 0 := by lia
        rw [e0]
        unfold occS
        rw [← List.drop_eq_getElem_cons hi]
        by_cases hp : (x.drop i).take y.length = y
        · have hl : i + y.length ≤ x.length := by
            have := congrArg List.length hp
            rw [List.length_take, List.length_drop] at this
            lia
          rw [if_pos ⟨⟨⟨by lia, hf⟩, hl⟩, hp⟩, if_pos (prefix_take.mpr hp), occG_S x y hy limit n (i + 1) (k + 1) _ (by lia) (by lia)]
          congr 2
          lia
        · rw [if_neg (fun q => hp q.2), if_neg (fun q => hp (prefix_take.mp q)), occG_S x y hy limit n (i + 1) k _ (by lia) (by lia)]
          congr 1
          lia
      · obtain ⟨j, hj⟩ : ∃ j, free - i = j + 1 := ⟨free - i - 1, by lia⟩
        rw [hj, if_neg (fun q => hf q.1.1.2), occG_S x y hy limit n (i + 1) k _ (by lia) (by lia)]
        show _ = occS y (x.drop (i + 1)) (i + 1) j
        congr 1
        lia
    · have : n = 0 := by lia
      subst this
      rw [if_neg (fun q => by have := q.1.2; lia), List.drop_of_length_le (by lia)]
      rfl
theorem occ_S (x y : List Nat) (hy : y ≠ []) : occurrences (S x) (S y) 0 x.length (x.length + 1) = occS y x 0 0 := by
  rw [occ_G]
  have := occG_S x y hy (x.length + 1) (x.length + 1) 0 0 0 (by lia) (by lia)
  simpa using this
noncomputable def partsF (x : List Nat) (w : Nat) : Nat → List Nat → List (List Nat)
  | a, [] => [x.drop a]
  | a, c :: r => (x.drop a).take (c - a) :: partsF x w (c + w) r
theorem parts_F (x : List Nat) (w : Nat) : ∀ (cuts : List Nat) (a : Nat), a ≤ x.length → (∀ c ∈ cuts, c + w ≤ x.length) →
    (((a :: cuts.map (· + w)).zip (cuts ++ [x.length])).map fun (p : Nat × Nat) => strSub (S x) p.1 p.2) = (partsF x w a cuts).map S
  | [], a, h, _ => by
    simp only [List.map_nil, List.nil_append, List.zip_cons_cons, List.zip_nil_left, List.map_cons, partsF]
    congr 1
    apply congrArg Str.mk
    apply Array.ext'
    simp [List.take_of_length_le]
  | c :: r, a, h, hc => by
    simp only [List.map_cons, List.cons_append, List.zip_cons_cons, partsF]
    have ih := parts_F x w r (c + w) (hc c (List.mem_cons_self ..)) (fun d hd => hc d (List.mem_cons_of_mem _ hd))
    rw [← ih]
    congr 1
    apply congrArg Str.mk
    apply Array.ext'
    simp
theorem splitGo_eq (x y : List Nat) (hy : y ≠ []) : ∀ (n i a k : Nat), i + n = x.length → a ≤ i + k → (k = 0 → a ≤ i) → (0 < k → a = i + k) →
    splitGo y (((x.drop a).take (i - a)).reverse) (x.drop i) k = partsF x y.length a (occS y (x.drop i) i k)
  | 0, i, a, k, h, ha, h0, hk => by
    rw [List.drop_of_length_le (l := x) (i := i) (by lia)]
    unfold splitGo occS partsF
    rw [List.reverse_reverse]
    congr 1
    rw [List.take_of_length_le]
    rw [List.length_drop]; lia
  | n + 1, i, a, 0, h, ha, h0, hk => by
    have hi : i < x.length := by lia
    have hy' : 0 < y.length := List.length_pos_iff.mpr hy
    have ha' := h0 rfl
    rw [List.drop_eq_getElem_cons hi]
    unfold splitGo occS
    rw [← List.drop_eq_getElem_cons hi]
    by_cases hp : y.isPrefixOf (x.drop i) = true
    · have hl : i + y.length ≤ x.length := by
        have := congrArg List.length (prefix_take.mp hp)
        rw [List.length_take, List.length_drop] at this
        lia
      rw [if_pos hp, if_pos hp]
      unfold partsF
      rw [List.reverse_reverse]
      congr 1
      have e : i + y.length - (i + 1) = y.length - 1 := by lia
      have := splitGo_eq x y hy n (i + 1) (i + y.length) (y.length - 1) (by lia) (by lia) (by lia) (by lia)
      rw [← this]
      congr 1
      have : i + 1 - (i + y.length) = 0 := by lia
      rw [this]; rfl
    · rw [if_neg hp, if_neg hp]
      have := splitGo_eq x y hy n (i + 1) a 0 (by lia) (by lia) (by lia) (by lia)
      rw [← this]
      congr 1
      have e : i + 1 - a = (i - a) + 1 := by lia
      rw [e, List.take_add_one, List.reverse_append, List.getElem?_drop]
      have : a + (i - a) = i := by lia
      rw [this, List.getElem?_eq_getElem hi]
      rfl
  | n + 1, i, a, k + 1, h, ha, h0, hk => by
    have hi : i < x.length := by lia
    have ha' := hk (by lia)
    rw [List.drop_eq_getElem_cons hi]
    unfold splitGo occS
    have := splitGo_eq x y hy n (i + 1) a k (by lia) (by lia) (by lia) (by lia)
    rw [← this]
    congr 1
    have e1 : i - a = 0 := by lia
    have e2 : i + 1 - a = 0 := by lia
    rw [e1, e2]
theorem occS_le (y : List Nat) (hy : y ≠ []) : ∀ (x : List Nat) (i k : Nat), ∀ c ∈ occS y x i k, c + y.length ≤ i + x.length
  | [], i, k, c, hc => by unfold occS at hc; cases hc
  | a :: r, i, 0, c, hc => by
    unfold occS at hc
    by_cases hp : y.isPrefixOf (a :: r) = true
    · rw [if_pos hp] at hc
      have hl := congrArg List.length (prefix_take.mp hp)
      rw [List.length_take] at hl
      rcases List.mem_cons.mp hc with rfl | hc
      · simp at hl ⊢; lia
      · have := occS_le y hy r _ _ c hc
        simp; lia
    · rw [if_neg hp] at hc
      have := occS_le y hy r _ _ c hc
      simp; lia
  | a :: r, i, k + 1, c, hc => by
    unfold occS at hc
    have := occS_le y hy r _ _ c hc
    simp; lia
theorem partsBetween_S (x y : List Nat) (hy : y ≠ []) : partsBetween (S x) (occS y x 0 0) y.length = (splitL x y).map S := by
  have h := splitGo_eq x y hy x.length 0 0 0 (by lia) (by lia) (by lia) (by lia)
  have e : splitL x y = partsF x y.length 0 (occS y x 0 0) := by
    unfold splitL
    simpa using h
  rw [e]
  unfold partsBetween
  rw [S_len]
  exact parts_F x y.length (occS y x 0 0) 0 (Nat.zero_le _) fun c hc => by
    have := occS_le y hy x 0 0 c hc
    lia
theorem occS_short (y : List Nat) (hy : y ≠ []) (x : List Nat) (h : x.length < y.length) : occS y x 0 0 = [] := by
  cases q : occS y x 0 0 with
  | nil => rfl
  | cons c r =>
    have := occS_le y hy x 0 0 c (by rw [q]; exact List.mem_cons_self ..)
    lia
theorem splitL_none (x y : List Nat) (hy : y ≠ []) (h : occS y x 0 0 = []) : splitL x y = [x] := by
  have q := splitGo_eq x y hy x.length 0 0 0 (by lia) (by lia) (by lia) (by lia)
  have e : splitL x y = partsF x y.length 0 (occS y x 0 0) := by
    unfold splitL
    simpa using q
  rw [e, h]
  rfl
theorem occS_kind (y : List Nat) (hy : y ≠ []) (b : Nat) (hb : ∃ c ∈ y, b ≤ c) : ∀ (x : List Nat) (i k : Nat), (∀ c ∈ x, c < b) → occS y x i k = []
  | [], _, _, _ => rfl
  | a :: r, i, 0, hx => by
    unfold occS
    have hn : ¬ y.isPrefixOf (a :: r) = true := fun hp => by
      obtain ⟨c, hc, hbc⟩ := hb
      obtain ⟨t, ht⟩ := List.isPrefixOf_iff_prefix.mp hp
      have : c ∈ a :: r := by rw [← ht]; exact List.mem_append_left _ hc
      have := hx c this
      lia
    rw [if_neg hn]
    exact occS_kind y hy b hb r _ _ fun c hc => hx c (List.mem_cons_of_mem _ hc)
  | a :: r, i, k + 1, hx => by
    unfold occS
    exact occS_kind y hy b hb r _ _ fun c hc => hx c (List.mem_cons_of_mem _ hc)
theorem strKind_lt (x y : List Nat) (h : Builtin.Str.strKind (S x) < Builtin.Str.strKind (S y)) : ∃ b, (∃ c ∈ y, b ≤ c) ∧ ∀ c ∈ x, c < b := by
  unfold Builtin.Str.strKind at h
  have mem : ∀ (l : List Nat) (b : Nat), ((S l).cps.all (· < b)) = true ↔ ∀ c ∈ l, c < b := fun l b => by simp
  by_cases x1 : ∀ c ∈ x, c < 256
  · rw [if_pos ((mem x 256).mpr x1)] at h
    by_cases y1 : ∀ c ∈ y, c < 256
    · rw [if_pos ((mem y 256).mpr y1)] at h; lia
    · refine ⟨256, ?_, x1⟩
      refine Classical.byContradiction fun q => y1 fun c hc => Nat.lt_of_not_le fun z => q ⟨c, hc, z⟩
  · rw [if_neg (fun q => x1 ((mem x 256).mp q))] at h
    by_cases x2 : ∀ c ∈ x, c < 65536
    · rw [if_pos ((mem x 65536).mpr x2)] at h
      by_cases y1 : ∀ c ∈ y, c < 256
      · rw [if_pos ((mem y 256).mpr y1)] at h; lia
      · rw [if_neg (fun q => y1 ((mem y 256).mp q))] at h
        by_cases y2 : ∀ c ∈ y, c < 65536
        · rw [if_pos ((mem y 65536).mpr y2)] at h; lia
        · refine ⟨65536, ?_, x2⟩
          refine Classical.byContradiction fun q => y2 fun c hc => Nat.lt_of_not_le fun z => q ⟨c, hc, z⟩
    · rw [if_neg (fun q => x2 ((mem x 65536).mp q))] at h
      split at h
      · lia
      · split at h <;> lia
theorem split_S (x y : List Nat) (hy : y ≠ []) : Txt.split (S x) (S y) = (splitL x y).map S := by
  unfold Txt.split
  rw [S_len, S_len, occ_S x y hy]
  split
  · rename_i h
    rw [Bool.or_eq_true, decide_eq_true_eq, decide_eq_true_eq] at h
    have : occS y x 0 0 = [] := by
      rcases h with h | h
      · exact occS_short y hy x h
      · obtain ⟨b, hb, hx⟩ := strKind_lt x y h
        exact occS_kind y hy b hb x 0 0 hx
    rw [splitL_none x y hy this]
    rfl
  · split
    · rename_i h
      rw [List.isEmpty_iff] at h
      rw [splitL_none x y hy h]
      rfl
    · exact partsBetween_S x y hy
theorem join_S (sep : List Nat) : ∀ (ws : List (List Nat)), Txt.join (S sep) (ws.map S) = S (joinL sep ws)
  | [] => rfl
  | w :: ws => by
    have go : ∀ (ws : List (List Nat)) (acc : List Nat), (ws.map S).foldl (fun (acc : Array Nat) (p : Str) => acc ++ (S sep).cps ++ p.cps) acc.toArray = (joinL sep (acc :: ws)).toArray := by
      intro ws
      induction ws with
      | nil => intro acc; rfl
      | cons v ws ih =>
        intro acc
        rw [List.map_cons, List.foldl_cons]
        have e : acc.toArray ++ (S sep).cps ++ (S v).cps = (acc ++ sep ++ v).toArray := by simp
        rw [e, ih]
        congr 1
        cases ws with
        | nil => simp [joinL]
        | cons u us => simp [joinL]
    show Builtin.Str.glued (S sep) ((w :: ws).map S) = _
    unfold Builtin.Str.glued
    simp only [List.map_cons, List.drop_succ_cons, List.drop_zero, List.headD_cons]
    exact congrArg Str.mk (go ws w)
end Mine
namespace Mine
open PySem PySem.W PySem.W.X PyProof.Rows
abbrev noE : Value → Shared → Prop := fun _ _ => False
structure OF (W : Wd) (F : Frz) (s : Shared) : Prop where
  ok : HOk W s.heap
  fin : FOk W F s.heap
  fb : FLe W.base F
noncomputable def Kn (W : Wd) (X : Excl) (s : Shared) (F : Frz) (K : V → Prop) (Q : Value → Shared → Prop) : Prop := ∀ (v : Value) (s' : Shared) (F' : Frz) (r : V), Step W X s F s' F' → Rel W F' v r → K r → Q v s'
noncomputable def KnB (W : Wd) (X : Excl) (s : Shared) (F : Frz) (K : Bool → Prop) (Q : Bool → Shared → Prop) : Prop := ∀ (v : Bool) (s' : Shared) (F' : Frz), Step W X s F s' F' → K v → Q v s'
section
variable {W : Wd} {X : Excl} {s s₁ : Shared} {F F₁ : Frz} {K : V → Prop} {Q : Value → Shared → Prop} {A : Around} {d : Nat}
theorem OF.step (o : OF W F s) (st : Step W X s F s₁ F₁) : OF W F₁ s₁ := ⟨st.ok, st.fin, fun a b e => st.le a b (o.fb a b e)⟩
theorem OF.refl (o : OF W F s) : Step W X s F s F := Step.refl o.ok o.fin
theorem Kn.same (k : Kn W X s F K Q) (o : OF W F s) {v : Value} {r : V} (h : Rel W F v r) (q : K r) : Q v s := k v s F r o.refl h q
theorem Kn.tok (k : Kn W X s F K Q) (o : OF W F s) {v : Value} {r : V} (t : Nat) (h : Rel W F v r) (q : K r) : Q v { s with toks := t } := k v _ F r (Step.tok o.ok o.fin t) h q
theorem Kn.push (k : Kn W X s F K Q) (o : OF W F s) {items : List Value} {xs : List V} (h : RelL W F items xs) (q : K (.list xs)) : Q (.ref s.heap.objs.size) { s with heap := s.heap.push { cls := .type "list", data := .seq items.toArray } } :=
  have st := Step.allocK (X := X) o.ok o.fin (listObj items 0) rfl
  k _ _ _ _ st (.list (Frz.put_self ..) (h.mono st.le)) q
theorem Kn.pushT (k : Kn W X s F K Q) (o : OF W F s) {items : List Value} {xs : List V} (h : RelL W F items xs) (q : K (.tup xs)) : Q (.ref s.heap.objs.size) { s with heap := s.heap.push { cls := .type "tuple", data := .seq items.toArray } } :=
  have st := Step.allocK (X := X) o.ok o.fin (tupObj items 0) rfl
  k _ _ _ _ st (.tup (Frz.put_self ..) (h.mono st.le)) q
theorem Kn.after (k : Kn W X s F K Q) (st : Step W X s F s₁ F₁) : Kn W X s₁ F₁ K Q := fun v s' F' r st' => k v s' F' r (st.trans st')
theorem KnB.after {K : Bool → Prop} {Q : Bool → Shared → Prop} (k : KnB W X s F K Q) (st : Step W X s F s₁ F₁) : KnB W X s₁ F₁ K Q := fun v s' F' st' => k v s' F' (st.trans st')
theorem Step.kept (ok : HOk W s.heap) (fin : FOk W F s.heap) (h' : Heap) (tk : Nat) (k : ∀ b o, s.heap.get? b = some o → h'.get? b = some o) : Step W X s F { s with heap := h', toks := tk } F where
  ok := ok.of k
  fin := ⟨fun a o e => k a o (fin.is a o e), fin.tab⟩
  le := fun _ _ e => e
  new := fun _ _ e => .inl e
  keep := fun a o _ _ e => k a o e
  os := rfl
  gens := fun _ _ _ e => e
  bare := fun e => e
theorem Kn.kept (k : Kn W X s F K Q) (o : OF W F s) {h' : Heap} {tk : Nat} (kp : ∀ b o, s.heap.get? b = some o → h'.get? b = some o) {v : Value} {r : V} (h : Rel W F v r) (q : K r) : Q v { s with heap := h', toks := tk } :=
  k v _ F r (Step.kept o.ok o.fin h' tk kp) h q
section
variable {v u : Value} {a b : V}
theorem asInt_rel {k : Int → Prop} {G : Value → Prop} (hk : asInt a k) (r : Rel W F v a) (h : ∀ x t, k x → G (.int x t)) : G v := by
  cases a <;> first | exact hk.elim | skip
  obtain ⟨t, rfl⟩ := r
  exact h _ t hk
theorem asStr_rel {k : List Nat → Prop} {G : Value → Prop} (hk : asStr a k) (r : Rel W F v a) (h : ∀ x t, k x → G (.str ⟨x.toArray⟩ t)) : G v := by
  cases a <;> first | exact hk.elim | skip
  obtain ⟨t, rfl⟩ := r
  exact h _ t hk
theorem asList_rel {k : List V → Prop} {G : Value → Prop} (hk : asList a k) (r : Rel W F v a) (h : ∀ xs l items n, F l = some (listObj items n) → RelL W F items xs → k xs → G (.ref l)) : G v := by
  cases a <;> first | exact hk.elim | skip
  obtain ⟨l, items, n, rfl, e, q⟩ := r
  exact h _ l items n e q hk
theorem asTup_rel {k : List V → Prop} {G : Value → Prop} (hk : asTup a k) (r : Rel W F v a) (h : ∀ xs l items n, F l = some (tupObj items n) → RelL W F items xs → k xs → G (.ref l)) : G v := by
  cases a <;> first | exact hk.elim | skip
  obtain ⟨l, items, n, rfl, e, q⟩ := r
  exact h _ l items n e q hk
theorem int2_rel {k : Int → Int → Prop} {G : Value → Value → Prop} (hk : int2 a b k) (r : Rel W F v a) (r' : Rel W F u b) (h : ∀ x y t t', k x y → G (.int x t) (.int y t')) : G v u :=
  asInt_rel (G := fun v => G v u) hk r fun x t hk => asInt_rel (G := fun u => G (.int x t) u) hk r' fun y t' hk => h x y t t' hk
end
theorem strMax_le : strMax ≤ sizeLine := by decide +kernel
theorem str_append (x y : List Nat) : (⟨x.toArray⟩ : Str) ++ ⟨y.toArray⟩ = ⟨(x ++ y).toArray⟩ := by
  show Str.append _ _ = _
  simp [Str.append]
theorem str_len (x : List Nat) : (⟨x.toArray⟩ : Str).length = x.length := by simp [Str.length]
theorem intBits_le {x : Int} {k : Nat} (h : x.natAbs < 2 ^ k) : Builtin.Int.intBits x ≤ k := by
  unfold Builtin.Int.intBits
  split
  · exact Nat.zero_le _
  · rename_i hx
    exact (Nat.log2_lt (by simpa using hx)).mpr h
theorem mulFit_ok {x y : Int} (h : MulFit x y) : IntMulOk x y := by
  obtain ⟨k, l, hx, hy, hkl⟩ := h
  have a := intBits_le hx
  have b := intBits_le hy
  have e : (bitsLine : Int) = 134217728 := by decide
  unfold IntMulOk Builtin.Int.intTooBig
  rw [e]
  simp only [Bool.and_eq_true, decide_eq_true_eq]
  lia
theorem rep_foldl {α : Type} (x : List α) (n : Nat) (acc : List α) : (List.replicate n x.toArray).foldl (· ++ ·) acc.toArray = (acc ++ (List.replicate n x).flatten).toArray := by
  induction n generalizing acc with
  | zero => rw [List.replicate_zero, List.replicate_zero, List.flatten_nil, List.append_nil]; rfl
  | succ n ih =>
    rw [List.replicate_succ, List.foldl_cons, List.replicate_succ, List.flatten_cons, ← List.append_assoc, List.append_toArray]
    exact ih _
theorem txt_mul (x : List Nat) (n : Int) : Txt.mul ⟨x.toArray⟩ n = ⟨(rep x n).toArray⟩ := by
  unfold Txt.mul rep
  split
  · rw [Int.toNat_eq_zero.mpr (by lia)]; rfl
  · split
    · rename_i h1 h2
      rw [Bool.or_eq_true, beq_iff_eq, beq_iff_eq] at h2
      rcases h2 with h2 | h2
      · subst h2; simp
      · rw [str_len] at h2
        rw [List.length_eq_zero_iff.mp h2]
        simp
    · exact congrArg Str.mk (rep_foldl x n.toNat [])
theorem RelL.rep {items : List Value} {xs : List V} (h : RelL W F items xs) (n : Nat) : RelL W F (List.replicate n items).flatten (List.replicate n xs).flatten := by
  induction n with
  | zero => exact .nil
  | succ n ih => rw [List.replicate_succ, List.replicate_succ, List.flatten_cons, List.flatten_cons]; exact h.append ih
theorem mulOkS {x : List Nat} {n : Int} (hf : RepFit x.length n) : MulOk ⟨x.toArray⟩ n := by
  obtain ⟨h1, h2, h3⟩ := hf
  have h3' : x.length * n.toNat ≤ 16000000 := h3
  refine ⟨?_, fun a b => ?_, fun a b => ?_⟩
  · rw [Bool.or_eq_false_iff, decide_eq_false_iff_not, decide_eq_false_iff_not]; lia
  · rw [str_len]
    intro q
    have hn : (0 : Int) < n := by lia
    have h4 : (x.length : Int) * n ≤ 16000000 := by
      have : ((x.length * n.toNat : Nat) : Int) ≤ 16000000 := by lia
      rw [Int.natCast_mul, Int.toNat_of_nonneg (by lia)] at this
      exact this
    have h5 := Int.lt_ediv_add_one_mul_self (2 ^ 63 - 1 : Int) hn
    have h7 := Int.mul_le_mul_of_nonneg_right (show ((2 ^ 63 - 1 : Int) / n + 1) ≤ x.length by lia) (Int.le_of_lt hn)
    lia
  · rw [str_len]
    unfold Builtin.Str.tooLong
    simp [sizeLine]
    lia
theorem add_list_raw {prog : Program} {w : World} {E : Value → Shared → Prop} {l b : Addr} {vs ws : List Value} {n n2 : Nat} (hl : s.heap.get? l = some (listObj vs n)) (hb : s.heap.get? b = some (listObj ws n2))
    (hsz : vs.length + ws.length ≤ sizeLine)
    (h : Q (.ref s.heap.objs.size) { s with heap := s.heap.push { cls := .type "list", data := .seq (vs ++ ws).toArray } }) : wpAny (model prog w) A (binaryOp .Add (.ref l) (.ref b)) Q E s := by
  refine concat_meets ⟨_, hl, rfl⟩ ⟨_, hb, rfl⟩ noFill_list_add seq_list_add PySem.F.slot_list_add PySem.F.entry_list_add (PySem.F.args_list_add_2 _ _) (list_addW l b vs.toArray ws.toArray n n2 none none #[] #[] (by simpa using hsz)) ⟨hl, hb, ?_⟩
  rw [List.append_toArray]
  exact h
theorem mul_list_raw {prog : Program} {w : World} {E : Value → Shared → Prop} {l : Addr} {vs : List Value} {k : Nat} {x : Int} {u : Tok}
    (hl : s.heap.get? l = some (listObj vs k)) (hf : RepFit vs.length x)
    (h : Q (.ref s.heap.objs.size) { s with heap := s.heap.push { cls := .type "list", data := .seq (rep vs x).toArray } }) :
    wpAny (model prog w) A (binaryOp .Mult (.ref l) (.int x u)) Q E s := by
  obtain ⟨h1, h2, h3⟩ := hf
  have h3' : vs.length * x.toNat ≤ 16000000 := h3
  have e : List.foldl (fun x1 x2 => x1 ++ x2) #[] (List.replicate (if vs.toArray.isEmpty = true then 0 else x.toNat) vs.toArray) = (rep vs x).toArray := by
    by_cases q : vs = []
    · subst q; simp [rep]
    · rw [if_neg (by simp [q])]
      exact rep_foldl vs x.toNat []
  refine wpAny_binaryOp_repeat_ref (T := "list") (U := "int") (by decide) ⟨_, hl, rfl⟩ (fun s' => typeIs_int s' x u) noFill_list_mul F.fills_int_mul F.slot_int_rmul repeat_list F.slot_int_index.lookup
   (call_meets F.slot_int_rmul (typeIs_int s x u) F.entry_int_rmul (F.args_int_rmul_2 _ _) (int___rmul___int_list x u l vs.toArray k)
      ⟨hl, rfl, ⟨_, hl, rfl⟩, call_meets F.slot_list_mul ⟨_, hl, rfl⟩ F.entry_list_mul (F.args_list_mul_2 _ _)
        (AutoListH.list___mul___list_int_3 l vs.toArray k x u (by simp [Builtin.List.listFitsIndex]; lia) (by simp; lia) (by simp [Builtin.List.listTooLong, sizeLine]; lia))
        ⟨hl, ?_⟩⟩)
  rw [e]
  exact h
end
noncomputable def BinOk (op : Operator) (f : V → V → VK) : Prop := ∀ (W : Wd) (X : Excl) (s : Shared) (F : Frz) (A : Around) (va vb : Value) (a b : V) (K : V → Prop) (Q : Value → Shared → Prop), OF W F s → A.handled = none → Rel W F va a → Rel W F vb b → f a b K → Kn W X s F K Q → wpAny (model W.prog W.w) A (binaryOp op va vb) Q noE s
theorem bAdd_ok : BinOk .Add bAdd := fun W X s F A va vb a b K Q o R ra rb hk k => by
  cases a <;> first | exact hk.elim | skip
  · obtain ⟨t, rfl⟩ := ra
    exact asInt_rel (G := fun vb => wpAny (model W.prog W.w) A (binaryOp .Add (.int _ t) vb) Q noE s) hk rb fun y u hk => add_int (k.tok o _ (.int _ _) hk)
  · obtain ⟨t, rfl⟩ := ra
    refine asStr_rel (G := fun vb => wpAny (model W.prog W.w) A (binaryOp .Add (.str _ t) vb) Q noE s) hk rb fun y u ⟨⟨hs⟩, hk⟩ => add_str (fun t' tk => ?_) (by rw [str_len, str_len]; exact Nat.le_trans hs strMax_le)
    rw [str_append]
    exact k.tok o _ (.str _ _) hk
  · obtain ⟨l, items, n, rfl, e, r⟩ := ra
    exact asList_rel (G := fun vb => wpAny (model W.prog W.w) A (binaryOp .Add (.ref l) vb) Q noE s) hk rb fun ys l2 it2 n2 e2 r2 ⟨⟨hs⟩, hk⟩ =>
      add_list_raw (o.fin.is _ _ e) (o.fin.is _ _ e2) (by rw [r.length, r2.length]; exact Nat.le_trans hs strMax_le) (k.push o (r.append r2) hk)
theorem bSub_ok : BinOk .Sub bSub := fun W X s F A va vb a b K Q o R ra rb hk k =>
  int2_rel (G := fun va vb => wpAny (model W.prog W.w) A (binaryOp .Sub va vb) Q noE s) hk ra rb fun x y t u hk => sub_int (k.tok o _ (.int _ _) hk)
theorem bMul_ok : BinOk .Mult bMul := fun W X s F A va vb a b K Q o R ra rb hk k => by
  refine asInt_rel (G := fun vb => wpAny (model W.prog W.w) A (binaryOp .Mult va vb) Q noE s) hk rb fun y u hk => ?_
  cases a <;> first | exact hk.elim | skip
  · obtain ⟨t, rfl⟩ := ra
    exact mul_int (k.tok o _ (.int _ _) hk.2) (mulFit_ok hk.1.h)
  · obtain ⟨t, rfl⟩ := ra
    refine SB.mul (mulOkS hk.1.h) fun t' tk => ?_
    rw [txt_mul]
    exact k.tok o _ (.str _ _) hk.2
  · obtain ⟨l, items, n, rfl, e, r⟩ := ra
    exact mul_list_raw (o.fin.is _ _ e) (r.length ▸ hk.1.h) (k.push o (r.rep _) hk.2)
theorem bDiv_ok : BinOk .FloorDiv bDiv := fun W X s F A va vb a b K Q o R ra rb hk k =>
  int2_rel (G := fun va vb => wpAny (model W.prog W.w) A (binaryOp .FloorDiv va vb) Q noE s) hk ra rb fun x y t u hk => floordiv_int hk.1.h.1 (k.tok o _ (.int _ _) hk.2) (.inl hk.1.h.2)
theorem bMod_ok : BinOk .Mod bMod := fun W X s F A va vb a b K Q o R ra rb hk k =>
  int2_rel (G := fun va vb => wpAny (model W.prog W.w) A (binaryOp .Mod va vb) Q noE s) hk ra rb fun x y t u hk => mod_int' hk.1.h (k.tok o _ (.int _ _) hk.2)
theorem bPow_ok : BinOk .Pow bPow := fun W X s F A va vb a b K Q o R ra rb hk k =>
  int2_rel (G := fun va vb => wpAny (model W.prog W.w) A (binaryOp .Pow va vb) Q noE s) hk ra rb fun x y t u ⟨⟨h1, h2, h3⟩, hk⟩ => by
    subst h1
    refine pow_int h2 ?_ (k.tok o _ (.int _ _) hk)
    have : Builtin.Int.intBits 2 = 2 := by decide +kernel
    rw [this]; lia
theorem shl_fit {x n : Int} (h : ShlFit x n) : 0 ≤ n ∧ (Builtin.Int.intBits x : Int) + n ≤ 134000000 := by
  obtain ⟨h1, k, h2, h3⟩ := h
  have := intBits_le h2
  lia
theorem bShl_ok : BinOk .LShift bShl := fun W X s F A va vb a b K Q o R ra rb hk k =>
  int2_rel (G := fun va vb => wpAny (model W.prog W.w) A (binaryOp .LShift va vb) Q noE s) hk ra rb fun x y t u ⟨⟨hs⟩, hk⟩ => by
    obtain ⟨h1, h2⟩ := shl_fit hs
    exact lshift_int_or R (fun q => absurd h1 (by lia)) (fun _ => by lia) fun _ => k.tok o _ (.int _ _) hk
theorem bShr_ok : BinOk .RShift bShr := fun W X s F A va vb a b K Q o R ra rb hk k =>
  int2_rel (G := fun va vb => wpAny (model W.prog W.w) A (binaryOp .RShift va vb) Q noE s) hk ra rb fun x y t u hk => rshift_int hk.1.h (k.tok o _ (.int _ _) hk.2)
theorem bAnd_ok : BinOk .BitAnd bAnd := fun W X s F A va vb a b K Q o R ra rb hk k =>
  int2_rel (G := fun va vb => wpAny (model W.prog W.w) A (binaryOp .BitAnd va vb) Q noE s) hk ra rb fun x y t u hk => and_int (k.tok o _ (.int _ _) hk)
theorem bOr_ok : BinOk .BitOr bOr := fun W X s F A va vb a b K Q o R ra rb hk k =>
  int2_rel (G := fun va vb => wpAny (model W.prog W.w) A (binaryOp .BitOr va vb) Q noE s) hk ra rb fun x y t u hk => or_int (k.tok o _ (.int _ _) hk)
theorem bXor_ok : BinOk .BitXor bXor := fun W X s F A va vb a b K Q o R ra rb hk k =>
  int2_rel (G := fun va vb => wpAny (model W.prog W.w) A (binaryOp .BitXor va vb) Q noE s) hk ra rb fun x y t u hk => xor_int (k.tok o _ (.int _ _) hk)
noncomputable def AugOk (op : Operator) (f : V → V → VK) : Prop := ∀ (W : Wd) (X : Excl) (s : Shared) (F : Frz) (A : Around) (va vb : Value) (a b : V) (K : V → Prop) (Q : Value → Shared → Prop), OF W F s → Rel W F va a → Rel W F vb b → f a b K → Kn W X s F K Q → wpAny (model W.prog W.w) A (inplaceOp op va vb) Q noE s
theorem gAdd_ok : AugOk .Add gAdd := fun W X s F A va vb a b K Q o ra rb hk k => by
  cases a <;> first | exact hk.elim | skip
  · obtain ⟨t, rfl⟩ := ra
    exact asInt_rel (G := fun vb => wpAny (model W.prog W.w) A (inplaceOp .Add (.int _ t) vb) Q noE s) hk rb fun y u hk => wpAny_iadd_int (k.tok o _ (.int _ _) hk)
  · obtain ⟨t, rfl⟩ := ra
    refine asStr_rel (G := fun vb => wpAny (model W.prog W.w) A (inplaceOp .Add (.str _ t) vb) Q noE s) hk rb fun y u ⟨⟨hs⟩, hk⟩ => PyProof.Rows.iadd_str (fun t' tk => ?_) (by rw [str_len, str_len]; exact Nat.le_trans hs strMax_le)
    rw [str_append]
    exact k.tok o _ (.str _ _) hk
theorem gSub_ok : AugOk .Sub bSub := fun W X s F A va vb a b K Q o ra rb hk k =>
  int2_rel (G := fun va vb => wpAny (model W.prog W.w) A (inplaceOp .Sub va vb) Q noE s) hk ra rb fun x y t u hk => PySem.P.isub_int (k.tok o _ (.int _ _) hk)
theorem gShl_ok : AugOk .LShift bShl := fun W X s F A va vb a b K Q o ra rb hk k =>
  int2_rel (G := fun va vb => wpAny (model W.prog W.w) A (inplaceOp .LShift va vb) Q noE s) hk ra rb fun x y t u ⟨⟨hs⟩, hk⟩ => by
    obtain ⟨h1, h2⟩ := shl_fit hs
    exact PyProof.Rows.ilshift_int h1 (by lia) (k.tok o _ (.int _ _) hk)
theorem gShr_ok : AugOk .RShift bShr := fun W X s F A va vb a b K Q o ra rb hk k =>
  int2_rel (G := fun va vb => wpAny (model W.prog W.w) A (inplaceOp .RShift va vb) Q noE s) hk ra rb fun x y t u hk => PyProof.Rows.irshift_int hk.1.h (k.tok o _ (.int _ _) hk.2)
noncomputable def binV (op : Operator) : Rs (BinOk op) := match op with
  | .Add => some ⟨bAdd, bAdd_ok⟩
  | .Sub => some ⟨bSub, bSub_ok⟩
  | .Mult => some ⟨bMul, bMul_ok⟩
  | .FloorDiv => some ⟨bDiv, bDiv_ok⟩
  | .Mod => some ⟨bMod, bMod_ok⟩
  | .Pow => some ⟨bPow, bPow_ok⟩
  | .LShift => some ⟨bShl, bShl_ok⟩
  | .RShift => some ⟨bShr, bShr_ok⟩
  | .BitAnd => some ⟨bAnd, bAnd_ok⟩
  | .BitOr => some ⟨bOr, bOr_ok⟩
  | .BitXor => some ⟨bXor, bXor_ok⟩
  | _ => none
noncomputable def augV (op : Operator) : Rs (AugOk op) := match op with
  | .Add => some ⟨gAdd, gAdd_ok⟩
  | .Sub => some ⟨bSub, gSub_ok⟩
  | .LShift => some ⟨bShl, gShl_ok⟩
  | .RShift => some ⟨bShr, gShr_ok⟩
  | _ => none
end Mine
namespace Mine
open PySem PySem.W PySem.W.X PyProof.Rows
mutual
theorem Rel.reads {W : Wd} {F : Frz} {h : Heap} (fin : FOk W F h) : ∀ {x : V} {v : Value}, Rel W F v x → x.py.canLay0 = true → ∃ as, Reads h v x.py as
  | .none, _, rfl, _ => ⟨[], .none⟩
  | .bool b, _, rfl, _ => ⟨[], .bool b⟩
  | .int i, _, ⟨t, rfl⟩, _ => ⟨[], .int i t⟩
  | .str s, _, ⟨t, rfl⟩, _ => ⟨[], .str _ t⟩
  | .list _, _, ⟨_, _, _, rfl, e, r⟩, c => let ⟨_, q⟩ := RelL.reads fin r c; ⟨_, .list (fin.is _ _ e) rfl rfl q⟩
  | .tup _, _, ⟨_, _, _, rfl, e, r⟩, c => let ⟨_, q⟩ := RelL.reads fin r c; ⟨_, .tuple (fin.is _ _ e) rfl rfl q⟩
  | .fn _ _, _, _, c => nomatch c
theorem RelL.reads {W : Wd} {F : Frz} {h : Heap} (fin : FOk W F h) : ∀ {xs : List V} {vs : List Value}, RelL W F vs xs → PyData.canLayAll0 (V.pys xs) = true → ∃ as, ReadsAll h vs (V.pys xs) as
  | [], _, rfl, _ => ⟨[], .nil⟩
  | _ :: _, _, ⟨_, _, rfl, a, b⟩, c => let ⟨c1, c2⟩ := Bool.and_eq_true_iff.mp c; let ⟨_, q⟩ := Rel.reads fin a c1; let ⟨_, q'⟩ := RelL.reads fin b c2; ⟨_, .cons q q'⟩
end
theorem lay_inv {v : V} (h : v.lay = true) : v.py.canLay0 = true ∧ v.py.depth ≤ 60 := (Bool.and_eq_true_iff.mp h).imp id of_decide_eq_true
theorem str_beq (x y : List Nat) : ((⟨x.toArray⟩ : Str) == ⟨y.toArray⟩) = decide (x = y) := by
  rw [Bool.eq_iff_iff, beq_iff_eq, decide_eq_true_eq]
  exact ⟨fun e => by simpa using e, fun e => e ▸ rfl⟩
theorem int_beq (x y : Int) : (x == y) = decide (x = y) := by
  rw [Bool.eq_iff_iff, beq_iff_eq, decide_eq_true_eq]
theorem room_py {A : Around} {d : Nat} {a b : V} (R : Room A d) (h : a.py.depth ≤ 60) : A.units + min a.py.depth b.py.depth < cLine := by
  have h1 : min a.py.depth b.py.depth ≤ a.py.depth := Nat.min_le_left _ _
  have := R.units
  show _ < 9900
  lia
noncomputable def CmpOk (op : CmpOp) (f : V → V → VK) : Prop := ∀ (W : Wd) (X : Excl) (s : Shared) (F : Frz) (A : Around) (d : Nat) (va vb : Value) (a b : V) (K : V → Prop) (Q : Value → Shared → Prop), OF W F s → Room A d → Rel W F va a → Rel W F vb b → f a b K → Kn W X s F K Q → wpAny (model W.prog W.w) A (compareOp op va vb) Q noE s
theorem cEq_ok : CmpOk .Eq cEq := fun W X s F A d va vb a b K Q o R ra rb hk k => by
  cases a <;> first | exact hk.elim | skip
  · obtain ⟨t, rfl⟩ := ra
    exact asInt_rel (G := fun vb => wpAny (model W.prog W.w) A (compareOp .Eq (.int _ t) vb) Q noE s) hk rb fun y u hk => eq_int (int_beq .. ▸ k.same o (.bool _) hk)
  · obtain ⟨t, rfl⟩ := ra
    exact asStr_rel (G := fun vb => wpAny (model W.prog W.w) A (compareOp .Eq (.str _ t) vb) Q noE s) hk rb fun y u hk => eq_str (str_beq .. ▸ k.same o (.bool _) hk)
  · cases b <;> first | exact hk.elim | skip
    obtain ⟨⟨h1, h2⟩, hk⟩ := hk
    obtain ⟨as, q1⟩ := ra.reads o.fin (lay_inv h1).1
    obtain ⟨bs, q2⟩ := rb.reads o.fin (lay_inv h2).1
    exact SeqAt.compareEq_reads q1 q2 (lay_inv h1).1 (lay_inv h2).1 (room_py R (lay_inv h1).2) (k.same o (.bool _) hk)
  · cases b <;> first | exact hk.elim | skip
    obtain ⟨⟨h1, h2⟩, hk⟩ := hk
    obtain ⟨as, q1⟩ := ra.reads o.fin (lay_inv h1).1
    obtain ⟨bs, q2⟩ := rb.reads o.fin (lay_inv h2).1
    exact SeqAt.compareEq_reads q1 q2 (lay_inv h1).1 (lay_inv h2).1 (room_py R (lay_inv h1).2) (k.same o (.bool _) hk)
theorem cNe_ok : CmpOk .NotEq cNe := fun W X s F A d va vb a b K Q o R ra rb hk k => by
  cases a <;> first | exact hk.elim | skip
  · obtain ⟨t, rfl⟩ := ra
    exact asInt_rel (G := fun vb => wpAny (model W.prog W.w) A (compareOp .NotEq (.int _ t) vb) Q noE s) hk rb fun y u hk => PyProof.Rows.ne_int (k.same o (.bool _) (by rw [bne, int_beq]; exact hk))
  · obtain ⟨t, rfl⟩ := ra
    exact asStr_rel (G := fun vb => wpAny (model W.prog W.w) A (compareOp .NotEq (.str _ t) vb) Q noE s) hk rb fun y u hk => PyProof.Rows.ne_str (k.same o (.bool _) (by rw [bne, str_beq]; exact hk))
  · cases b <;> first | exact hk.elim | skip
    obtain ⟨⟨h1, h2⟩, hk⟩ := hk
    obtain ⟨as, q1⟩ := ra.reads o.fin (lay_inv h1).1
    obtain ⟨bs, q2⟩ := rb.reads o.fin (lay_inv h2).1
    exact SeqAt.compareNe_reads q1 q2 (lay_inv h1).1 (lay_inv h2).1 (room_py R (lay_inv h1).2) (k.same o (.bool _) hk)
  · cases b <;> first | exact hk.elim | skip
    obtain ⟨⟨h1, h2⟩, hk⟩ := hk
    obtain ⟨as, q1⟩ := ra.reads o.fin (lay_inv h1).1
    obtain ⟨bs, q2⟩ := rb.reads o.fin (lay_inv h2).1
    exact SeqAt.compareNe_reads q1 q2 (lay_inv h1).1 (lay_inv h2).1 (room_py R (lay_inv h1).2) (k.same o (.bool _) hk)
theorem is_none {W : Wd} {F : Frz} {va : Value} {a : V} (ra : Rel W F va a) : plainIs va .none = true ∧ (va == .none) = a.isNone := by
  cases a
  · obtain rfl := ra; exact ⟨rfl, rfl⟩
  · obtain rfl := ra; exact ⟨rfl, rfl⟩
  · obtain ⟨t, rfl⟩ := ra; exact ⟨rfl, rfl⟩
  · obtain ⟨t, rfl⟩ := ra; exact ⟨rfl, rfl⟩
  · obtain ⟨a, i, n, rfl, _⟩ := ra; exact ⟨rfl, rfl⟩
  · obtain ⟨a, i, n, rfl, _⟩ := ra; exact ⟨rfl, rfl⟩
  · obtain ⟨a, rfl, _⟩ := ra; exact ⟨rfl, rfl⟩
theorem is_bo {W : Wd} {F : Frz} {va : Value} {a : V} (y : Bool) (ra : Rel W F va a) : plainIs va (.bool y) = true ∧ (va == .bool y) = a.isBo y := by
  cases a
  · obtain rfl := ra; exact ⟨rfl, rfl⟩
  · rename_i x; obtain rfl := ra; cases x <;> cases y <;> exact ⟨rfl, rfl⟩
  · obtain ⟨t, rfl⟩ := ra; exact ⟨rfl, rfl⟩
  · obtain ⟨t, rfl⟩ := ra; exact ⟨rfl, rfl⟩
  · obtain ⟨a, i, n, rfl, _⟩ := ra; exact ⟨rfl, rfl⟩
  · obtain ⟨a, i, n, rfl, _⟩ := ra; exact ⟨rfl, rfl⟩
  · obtain ⟨a, rfl, _⟩ := ra; exact ⟨rfl, rfl⟩
theorem is_eq {W : Wd} {F : Frz} {va vb : Value} {a b : V} {K : Bool → Prop} (ra : Rel W F va a) (rb : Rel W F vb b) (h : vIs a b K) : plainIs va vb = true ∧ K (va == vb) := by
  cases b <;> first | exact h.elim | skip
  · obtain rfl := rb
    exact ⟨(is_none ra).1, (is_none ra).2 ▸ h⟩
  · obtain rfl := rb
    exact ⟨(is_bo _ ra).1, (is_bo _ ra).2 ▸ h⟩
theorem cIs_ok : CmpOk .Is cIs := fun W X s F A d va vb a b K Q o R ra rb hk k => have h := is_eq ra rb hk; wpAny_is_plain h.1 (k.same o (.bool _) h.2)
theorem cIsnot_ok : CmpOk .IsNot cIsnot := fun W X s F A d va vb a b K Q o R ra rb hk k => have h := is_eq ra rb hk; wpAny_isNot_plain h.1 (k.same o (.bool _) h.2)
theorem cLt_ok : CmpOk .Lt cLt := fun W X s F A d va vb a b K Q o R ra rb hk k =>
  int2_rel (G := fun va vb => wpAny (model W.prog W.w) A (compareOp .Lt va vb) Q noE s) hk ra rb fun x y t u hk => lt_int (k.same o (.bool _) hk)
theorem cLe_ok : CmpOk .LtE cLe := fun W X s F A d va vb a b K Q o R ra rb hk k =>
  int2_rel (G := fun va vb => wpAny (model W.prog W.w) A (compareOp .LtE va vb) Q noE s) hk ra rb fun x y t u hk => PyProof.Rows.le_int (k.same o (.bool _) hk)
theorem cGt_ok : CmpOk .Gt cGt := fun W X s F A d va vb a b K Q o R ra rb hk k =>
  int2_rel (G := fun va vb => wpAny (model W.prog W.w) A (compareOp .Gt va vb) Q noE s) hk ra rb fun x y t u hk => PyProof.Rows.gt_int (k.same o (.bool _) hk)
theorem cGe_ok : CmpOk .GtE cGe := fun W X s F A d va vb a b K Q o R ra rb hk k =>
  int2_rel (G := fun va vb => wpAny (model W.prog W.w) A (compareOp .GtE va vb) Q noE s) hk ra rb fun x y t u hk => PyProof.Rows.ge_int (k.same o (.bool _) hk)
noncomputable def cmpV (op : CmpOp) : Rs (CmpOk op) := match op with
  | .Eq => some ⟨cEq, cEq_ok⟩
  | .NotEq => some ⟨cNe, cNe_ok⟩
  | .Is => some ⟨cIs, cIs_ok⟩
  | .IsNot => some ⟨cIsnot, cIsnot_ok⟩
  | .Lt => some ⟨cLt, cLt_ok⟩
  | .LtE => some ⟨cLe, cLe_ok⟩
  | .Gt => some ⟨cGt, cGt_ok⟩
  | .GtE => some ⟨cGe, cGe_ok⟩
  | _ => none
inductive LAt (W : Wd) (F : Frz) (h : Heap) (a : Addr) (xs : List V) : Prop
  | mk (items : List Value) (n : Nat) (e : h.get? a = some (listObj items n)) (r : RelL W F items xs)
noncomputable def RelB (W : Wd) (F : Frz) (h : Heap) (v : Value) (x : V) : Prop := match x with
  | .list xs => ∃ a, v = .ref a ∧ LAt W F h a xs
  | x => Rel W F v x
theorem RelB.rel {W : Wd} {F : Frz} {h : Heap} (fin : FOk W F h) {v : Value} {x : V} (r : Rel W F v x) : RelB W F h v x := by
  cases x <;> first | exact r | skip
  obtain ⟨a, items, n, e, q, r⟩ := r
  exact ⟨a, e, ⟨items, n, fin.is _ _ q, r⟩⟩
theorem RelB.own {W : Wd} {F : Frz} {h : Heap} {a : Addr} {xs : List V} (l : LAt W F h a xs) : RelB W F h (.ref a) (.list xs) := ⟨a, rfl, l⟩
theorem isList_of {h : Heap} {a : Addr} {items : List Value} {n : Nat} (e : h.get? a = some (listObj items n)) : h.IsList a items.toArray := ⟨_, e, rfl, n, rfl⟩
theorem isTup_of {h : Heap} {a : Addr} {items : List Value} {n : Nat} (e : h.get? a = some (tupObj items n)) : h.IsTuple a items.toArray := ⟨_, e, rfl, n, rfl⟩
noncomputable def eS (x : List Nat) (v : Value) : Bool := match v with | .str y _ => decide (y = ⟨x.toArray⟩) | _ => false
noncomputable def eI (x : Int) (v : Value) : Bool := match v with | .int y _ => y == x | _ => false
theorem eS_str (x w : List Nat) (t : Tok) : eS x (.str ⟨w.toArray⟩ t) = (w == x) := by
  show decide ((⟨w.toArray⟩ : Str) = ⟨x.toArray⟩) = _
  rw [Bool.eq_iff_iff, decide_eq_true_eq, beq_iff_eq]
  exact ⟨fun e => by simpa using e, fun e => e ▸ rfl⟩
theorem RelL.map_str {W : Wd} {F : Frz} {P : List Value → List (List Nat) → Prop} (h0 : P [] []) (h1 : ∀ w t r ws, P r ws → P (.str ⟨w.toArray⟩ t :: r) (w :: ws)) : ∀ {ws : List (List Nat)} {items : List Value}, RelL W F items (ws.map V.str) → P items ws
  | [], _, rfl => h0
  | _ :: _, _, ⟨_, _, rfl, ⟨t, rfl⟩, q⟩ => h1 _ t _ _ (RelL.map_str h0 h1 q)
theorem RelL.map_int {W : Wd} {F : Frz} {P : List Value → List Int → Prop} (h0 : P [] []) (h1 : ∀ w t r ws, P r ws → P (.int w t :: r) (w :: ws)) : ∀ {ws : List Int} {items : List Value}, RelL W F items (ws.map V.int) → P items ws
  | [], _, rfl => h0
  | _ :: _, _, ⟨_, _, rfl, ⟨t, rfl⟩, q⟩ => h1 _ t _ _ (RelL.map_int h0 h1 q)
theorem any_strs {W : Wd} {F : Frz} {items : List Value} {ws : List (List Nat)} (x : List Nat) (h : RelL W F items (ws.map V.str)) : items.any (eS x) = ws.contains x :=
  RelL.map_str (P := fun items ws => items.any (eS x) = ws.contains x) rfl (fun w t r ws ih => by rw [List.any_cons, List.contains_cons, ih, eS_str, Bool.beq_comm (a := w)]) h
theorem any_ints {W : Wd} {F : Frz} {items : List Value} {ws : List Int} (x : Int) (h : RelL W F items (ws.map V.int)) : items.any (eI x) = ws.contains x :=
  RelL.map_int (P := fun items ws => items.any (eI x) = ws.contains x) rfl (fun w t r ws ih => by rw [List.any_cons, List.contains_cons, ih]; exact congrArg (· || _) Bool.beq_comm) h
theorem eqAt_strs {W : Wd} {F : Frz} {s : Shared} {A : Around} (x : List Nat) (t : Tok) {items : List Value} {ws : List (List Nat)} (h : RelL W F items (ws.map V.str)) : ∀ v ∈ items, SeqAt.EqAt A.in1 s v (.str ⟨x.toArray⟩ t) (eS x v) :=
  RelL.map_str (P := fun items _ => ∀ v ∈ items, SeqAt.EqAt A.in1 s v (.str ⟨x.toArray⟩ t) (eS x v)) (fun _ h => nomatch h) (fun w u r ws ih v hv => by
    rcases List.mem_cons.mp hv with rfl | hv
    · exact fun prog wd E Q h => wpAny_eqBool_str h
    · exact ih v hv) h
theorem eqAt_ints {W : Wd} {F : Frz} {s : Shared} {A : Around} (x : Int) (t : Tok) {items : List Value} {ws : List Int} (h : RelL W F items (ws.map V.int)) : ∀ v ∈ items, SeqAt.EqAt A.in1 s v (.int x t) (eI x v) :=
  RelL.map_int (P := fun items _ => ∀ v ∈ items, SeqAt.EqAt A.in1 s v (.int x t) (eI x v)) (fun _ h => nomatch h) (fun w u r ws ih v hv => by
    rcases List.mem_cons.mp hv with rfl | hv
    · exact fun prog wd E Q h => wpAny_eqBool_int h
    · exact ih v hv) h
noncomputable def InOk (op : CmpOp) (f : V → V → VK) : Prop := ∀ (W : Wd) (X : Excl) (s : Shared) (F : Frz) (A : Around) (va vb : Value) (a b : V) (K : V → Prop) (Q : Value → Shared → Prop), OF W F s → Rel W F va a → RelB W F s.heap vb b → f a b K → Kn W X s F K Q → wpAny (model W.prog W.w) A (compareOp op va vb) Q noE s
theorem cIn_ok : InOk .In cIn := fun W X s F A va vb a b K Q o ra rb hk k => by
  cases b <;> first | exact hk.elim | skip
  · obtain ⟨u, rfl⟩ := rb
    exact asStr_rel (G := fun va => wpAny (model W.prog W.w) A (compareOp .In va (.str _ u)) Q noE s) hk ra fun x t hk => SB.contains (k.same o (.bool _) (contains_S .. ▸ hk))
  · obtain ⟨l, rfl, ⟨items, n, e, r⟩⟩ := rb
    refine asStr_rel (G := fun va => wpAny (model W.prog W.w) A (compareOp .In va (.ref l)) Q noE s) hk ra fun x t ⟨ws, hw, _, hk'⟩ => ?_
    subst hw
    exact SeqAt.in_listAt (eS x) (isList_of e) (fun y hy => eqAt_strs x t r y (by simpa using hy)) (k.same o (.bool _) (by rw [List.any_toArray, any_strs x r]; exact hk'))
  · obtain ⟨l, items, n, rfl, e, r⟩ := rb
    cases a <;> first | exact hk.elim | skip
    · obtain ⟨t, rfl⟩ := ra
      obtain ⟨ws, rfl, _, hk⟩ := hk
      exact SeqAt.in_tupleAt (eI _) (isTup_of (o.fin.is _ _ e)) (fun y hy => eqAt_ints _ t r y (by simpa using hy)) (k.same o (.bool _) (by rw [List.any_toArray, any_ints _ r]; exact hk))
    · obtain ⟨t, rfl⟩ := ra
      obtain ⟨ws, rfl, _, hk⟩ := hk
      exact SeqAt.in_tupleAt (eS _) (isTup_of (o.fin.is _ _ e)) (fun y hy => eqAt_strs _ t r y (by simpa using hy)) (k.same o (.bool _) (by rw [List.any_toArray, any_strs _ r]; exact hk))
theorem cNin_ok : InOk .NotIn cNin := fun W X s F A va vb a b K Q o ra rb hk k => by
  cases b <;> first | exact hk.elim | skip
  · obtain ⟨u, rfl⟩ := rb
    exact asStr_rel (G := fun va => wpAny (model W.prog W.w) A (compareOp .NotIn va (.str _ u)) Q noE s) hk ra fun x t hk => SB.notContains (k.same o (.bool _) (contains_S .. ▸ hk))
  · obtain ⟨l, rfl, ⟨items, n, e, r⟩⟩ := rb
    refine asStr_rel (G := fun va => wpAny (model W.prog W.w) A (compareOp .NotIn va (.ref l)) Q noE s) hk ra fun x t ⟨ws, hw, _, hk'⟩ => ?_
    subst hw
    exact SeqAt.notIn_listAt (eS x) (isList_of e) (fun y hy => eqAt_strs x t r y (by simpa using hy)) (k.same o (.bool _) (by rw [List.any_toArray, any_strs x r]; exact hk'))
  · obtain ⟨l, items, n, rfl, e, r⟩ := rb
    cases a <;> first | exact hk.elim | skip
    · obtain ⟨t, rfl⟩ := ra
      obtain ⟨ws, rfl, _, hk⟩ := hk
      exact SeqAt.notIn_tupleAt (eI _) (isTup_of (o.fin.is _ _ e)) (fun y hy => eqAt_ints _ t r y (by simpa using hy)) (k.same o (.bool _) (by rw [List.any_toArray, any_ints _ r]; exact hk))
    · obtain ⟨t, rfl⟩ := ra
      obtain ⟨ws, rfl, _, hk⟩ := hk
      exact SeqAt.notIn_tupleAt (eS _) (isTup_of (o.fin.is _ _ e)) (fun y hy => eqAt_strs _ t r y (by simpa using hy)) (k.same o (.bool _) (by rw [List.any_toArray, any_strs _ r]; exact hk))
noncomputable def inV (op : CmpOp) : Rs (InOk op) := match op with
  | .In => some ⟨cIn, cIn_ok⟩
  | .NotIn => some ⟨cNin, cNin_ok⟩
  | _ => none
theorem truth_ok {W : Wd} {X : Excl} {s : Shared} {F : Frz} {A : Around} {KB : Bool → Prop} {Q : Bool → Shared → Prop} {v : Value} {x : V} (o : OF W F s) (r : Rel W F v x) (hk : wpTruth x KB) (k : KnB W X s F KB Q) :
    wpAny (model W.prog W.w) A (truthy v) Q noE s := by
  have h16 : strMax = 16000000 := rfl
  cases x <;> first | exact hk.elim | skip
  · obtain rfl := r
    exact truthy_none (k _ _ F o.refl hk)
  · obtain rfl := r
    exact wpAny_truthy_bool (k _ _ F o.refl hk)
  · obtain ⟨t, rfl⟩ := r
    exact PyProof.Rows.truthy_int (k _ _ F o.refl (by rw [bne, int_beq, ← decide_not]; exact hk))
  · obtain ⟨t, rfl⟩ := r
    obtain ⟨⟨h1⟩, hk⟩ := hk
    refine PySem.P.truthy_str (by rw [str_len]; lia) (k _ _ F (Step.tok o.ok o.fin _) ?_)
    rename_i l
    rw [str_len]
    cases l with
    | nil => exact hk
    | cons a l => rw [bne, beq_eq_false_iff_ne.mpr (by rw [List.length_cons]; lia)]; exact hk
  · obtain ⟨a, items, n, rfl, e, q⟩ := r
    obtain ⟨⟨h1⟩, hk⟩ := hk
    have hl := q.length
    refine wpAny_truthy_list (isList_of (o.fin.is _ _ e)) (by rw [List.size_toArray]; lia) (k _ _ F (Step.tok o.ok o.fin _) ?_)
    rename_i xs
    have : items.toArray.isEmpty = xs.isEmpty := by
      cases xs with
      | nil => rw [List.length_eq_zero_iff.mp hl]; rfl
      | cons x xs => obtain ⟨v, r, rfl, _⟩ := q; rfl
    rw [this]
    exact hk
end Mine
namespace Mine
open PySem PySem.W PySem.W.X PyProof.Rows PySem.Calls PySem.Builtin PySem.Builtin.Str
noncomputable def ArgsB (W : Wd) (F : Frz) (h : Heap) (vs : List Value) (xs : List V) : Prop := match xs with
  | [x] => ∃ v, vs = [v] ∧ RelB W F h v x
  | xs => RelL W F vs xs
section
variable {W : Wd} {F : Frz} {h : Heap} {vs : List Value} {xs : List V} {G : List Value → Prop}
theorem ArgsB.rel (fin : FOk W F h) (r : RelL W F vs xs) : ArgsB W F h vs xs := match xs, r with
  | [], r => r
  | [_], ⟨v, _, e, p, q⟩ => ⟨v, by rw [e, q], .rel fin p⟩
  | _ :: _ :: _, r => r
theorem one_args {k : V → Prop} (hk : one xs k) (ra : ArgsB W F h vs xs) (hG : ∀ v x, RelB W F h v x → k x → G [v]) : G vs := match xs, hk, ra with
  | [x], hk, ⟨v, e, r⟩ => e ▸ hG v x r hk
theorem one_rel {k : V → Prop} (hk : one xs k) (ra : RelL W F vs xs) (hG : ∀ v x, Rel W F v x → k x → G [v]) : G vs := match xs, hk, ra with
  | [x], hk, ⟨v, r, e, p, q⟩ => by rw [e, show r = [] from q]; exact hG v x p hk
theorem two_rel {k : V → V → Prop} (hk : two xs k) (ra : RelL W F vs xs) (hG : ∀ v u x y, Rel W F v x → Rel W F u y → k x y → G [v, u]) : G vs := match xs, hk, ra with
  | [x, y], hk, ⟨v, _, e, p, ⟨u, r, e', p', q⟩⟩ => by rw [e, e', show r = [] from q]; exact hG v u x y p p' hk
theorem two_args {k : V → V → Prop} (hk : two xs k) (ra : ArgsB W F h vs xs) (hG : ∀ v u x y, Rel W F v x → Rel W F u y → k x y → G [v, u]) : G vs := match xs, hk, ra with
  | [_, _], hk, ra => two_rel hk ra hG
theorem three_rel {k : V → V → V → Prop} (hk : three xs k) (ra : RelL W F vs xs) (hG : ∀ v u w x y z, Rel W F v x → Rel W F u y → Rel W F w z → k x y z → G [v, u, w]) : G vs := match xs, hk, ra with
  | [x, y, z], hk, ⟨v, _, e, p, ⟨u, _, e', p', ⟨w, r, e'', p'', q⟩⟩⟩ => by rw [e, e', e'', show r = [] from q]; exact hG v u w x y z p p' p'' hk
end
theorem strMax_lt : (strMax : Int) < 2 ^ 62 := by decide +kernel
noncomputable def BiOk (id : String) (f : List V → VK) : Prop := ∀ (W : Wd) (X : Excl) (s : Shared) (F : Frz) (A : Around) (d : Nat) (vs : List Value) (xs : List V) (K : V → Prop) (Q : Value → Shared → Prop), OF W F s → Room A d → ArgsB W F s.heap vs xs → f xs K → Kn W X s F K Q → wpAny (model W.prog W.w) A (call (.builtin id) vs) Q noE s
theorem len_lt {n : Nat} (h : n ≤ strMax) : (n : Int) < 2 ^ 62 := Int.lt_of_le_of_lt (Int.ofNat_le.mpr h) strMax_lt
theorem biLen_ok : BiOk "len" biLen := fun W X s F A d vs xs K Q o R ra hk k => one_args (G := fun vs => wpAny (model W.prog W.w) A (call (.builtin "len") vs) Q noE s) hk ra fun v x rb hk => by
  cases x <;> first | exact hk.elim | skip
  · obtain ⟨t, rfl⟩ := rb
    refine P.len_str (by rw [str_len]; have := len_lt hk.1.h; lia) ?_
    rw [str_len]
    exact k.tok o _ (.int _ _) hk.2
  · obtain ⟨a, rfl, ⟨items, n, e, r⟩⟩ := rb
    refine Calls.call_len_list (isList_of e) (by rw [List.size_toArray, r.length]; have := len_lt hk.1.h; lia) ?_
    rw [List.size_toArray, r.length]
    exact k.tok o _ (.int _ _) hk.2
  · obtain ⟨a, items, n, rfl, e, r⟩ := rb
    refine len_tuple (items := items.toArray) ⟨_, o.fin.is _ _ e, rfl, n, rfl⟩ (by rw [List.size_toArray, r.length]; have := len_lt hk.1.h; lia) ?_
    rw [List.size_toArray, r.length]
    exact k.tok o _ (.int _ _) hk.2
theorem biDivmod_ok : BiOk "divmod" biDivmod := fun W X s F A d vs xs K Q o R ra hk k => two_args (G := fun vs => wpAny (model W.prog W.w) A (call (.builtin "divmod") vs) Q noE s) hk ra fun v u x y rv ru hk =>
  int2_rel (G := fun v u => wpAny (model W.prog W.w) A (call (.builtin "divmod") [v, u]) Q noE s) hk rv ru fun x y t u hk =>
    have st := Step.tok (X := X) o.ok o.fin (s.toks + 1 + 1)
    divmod_int hk.1.h.1 (Kn.pushT (items := [.int _ s.toks, .int _ (s.toks + 1)]) (k.after st) (o.step st) (.cons (.int _ _) (.cons (.int _ _) .nil)) hk.2) (.inl hk.1.h.2)
theorem biAbs_ok : BiOk "abs" biAbs := fun W X s F A d vs xs K Q o R ra hk k => one_args (G := fun vs => wpAny (model W.prog W.w) A (call (.builtin "abs") vs) Q noE s) hk ra fun v x rb hk => by
  cases x <;> first | exact hk.elim | skip
  obtain ⟨t, rfl⟩ := rb
  exact call_abs_int fun u tk => k.tok o _ (.int _ _) hk
noncomputable def biNames : List String := ["len", "divmod", "abs"]
noncomputable def biV (g : Str) : Rs (fun p : String × (List V → VK) => g = Str.ofString p.1 ∧ p.1 ∈ biNames ∧ BiOk p.1 p.2) :=
  if h : g = Str.ofString "len" then some ⟨(_, _), h, by decide, biLen_ok⟩ else if h : g = Str.ofString "divmod" then some ⟨(_, _), h, by decide, biDivmod_ok⟩ else if h : g = Str.ofString "abs" then some ⟨(_, _), h, by decide, biAbs_ok⟩
  else none
theorem place_seq {k : Int} {n j : Nat} (h : place k n = some j) : seqIndex? k n = some j ∧ -(n : Int) ≤ k ∧ k < n := by
  unfold place at h
  unfold seqIndex?
  by_cases h0 : 0 ≤ k
  · rw [if_pos h0] at h
    by_cases h1 : k < n
    · rw [if_pos h1] at h
      refine ⟨?_, by lia, h1⟩
      rw [← Option.some.inj h]
      simp [Int.not_lt.mpr h0, h0, h1]
    · rw [if_neg h1] at h; cases h
  · rw [if_neg h0] at h
    by_cases h1 : -(n : Int) ≤ k
    · rw [if_pos h1] at h
      refine ⟨?_, h1, by lia⟩
      rw [← Option.some.inj h]
      simp [Int.not_le.mp h0]
      lia
    · rw [if_neg h1] at h; cases h
theorem clamp_clip (i : Int) (n : Nat) : clampI i n = clipAt n i := by
  unfold clampI clipAt
  by_cases h : 0 ≤ i
  · obtain ⟨k, rfl⟩ := Int.eq_ofNat_of_zero_le h
    rw [if_pos h, if_neg (Int.not_lt.mpr h), Int.max_eq_right (Int.le_min.mpr ⟨h, Int.natCast_nonneg _⟩)]
    by_cases q : k ≤ n
    · rw [Int.min_eq_left (Int.ofNat_le.mpr q)]; exact Nat.min_eq_left q
    · rw [Int.min_eq_right (Int.ofNat_le.mpr (Nat.le_of_not_le q))]; exact Nat.min_eq_right (Nat.le_of_not_le q)
  · have hn := Int.not_le.mp h
    rw [if_neg h, if_pos hn, Int.min_eq_left (show i + (n : Int) ≤ n by have := Int.add_le_add_right (Int.le_of_lt hn) (n : Int); rwa [Int.zero_add] at this)]
    by_cases h0 : 0 ≤ i + n
    · rw [Int.max_eq_right h0]
    · rw [Int.max_eq_left (Int.le_of_lt (Int.not_le.mp h0)), Int.toNat_of_nonpos (Int.le_of_lt (Int.not_le.mp h0))]; rfl
theorem sliceL_eq {α : Type} (xs : List α) (lo hi : Option Int) : sliceL xs lo hi = (xs.drop (lo.elim 0 (clipAt xs.length))).take (hi.elim xs.length (clipAt xs.length) - lo.elim 0 (clipAt xs.length)) := by
  unfold sliceL
  rw [List.drop_take]
  cases lo <;> cases hi <;> simp only [clamp_clip, Option.elim]
theorem slice_vals (items : List Value) (lo hi : Option Int) : slicePick items.toArray lo hi none = (sliceL items lo hi).toArray := by
  rw [slicePick_plain, sliceL_eq]
  simp
theorem slice_bounds (n : Nat) (lo hi : Option Int) : strSliceIndices lo hi 1 n = sliceRange (sliceBounds lo hi none n).1 (sliceBounds lo hi none n).2.1 (sliceBounds lo hi none n).2.2 := by
  cases lo <;> cases hi <;> rfl
theorem slice_str (x : List Nat) (lo hi : Option Int) : (strSliceIndices lo hi 1 x.length).filterMap (x.toArray[·]?) = sliceL x lo hi := by
  rw [slice_bounds, sliceBounds_plain, sliceL_eq]
  simp only [sliceRange_one, pick_run]
theorem RelL.slice {W : Wd} {F : Frz} {vs : List Value} {xs : List V} (h : RelL W F vs xs) (lo hi : Option Int) : RelL W F (sliceL vs lo hi) (sliceL xs lo hi) := by
  rw [sliceL_eq, sliceL_eq, h.length]
  exact (h.drop _).take _
theorem full_slice (x : List Nat) (lo hi : Option Int) (h : (strSliceIndices lo hi 1 x.length).length = x.length) : sliceL x lo hi = x := by
  have e := slice_str x lo hi
  rw [← e]
  have hs := slice_bounds x.length lo hi
  rw [sliceBounds_plain] at hs
  simp only [sliceRange_one] at hs
  rw [hs, List.length_map, List.length_range] at h
  have hb : hi.elim x.length (clipAt x.length) ≤ x.length := by
    cases hi with
    | none => exact Nat.le_refl _
    | some i => show clipAt _ _ ≤ _; unfold clipAt; lia
  rw [e, sliceL_eq]
  by_cases q : x.length = 0
  · rw [List.length_eq_zero_iff.mp q]; simp
  · rw [show lo.elim 0 (clipAt x.length) = 0 by lia, List.drop_zero, Nat.sub_zero, List.take_of_length_le (by lia)]
inductive SubOk (W : Wd) (A : Around) (va vi : Value) (Q : Value → Shared → Prop) (s : Shared) : Prop
  | mk (T id : String) (l : typeLookup (.type T) "__getitem__" = pure (some (.builtin id))) (t : s.TypeIs va T) (h : wpAny (model W.prog W.w) A (getItem va vi) Q noE s)
section
variable {W : Wd} {X : Excl} {s : Shared} {F : Frz} {K : V → Prop} {Q : Value → Shared → Prop} {A : Around} {d : Nat}
theorem item_ok {va vi : Value} {a i : V} (o : OF W F s) (ra : RelB W F s.heap va a) (ri : Rel W F vi i) (hk : wpItem a i K) (q : Kn W X s F K Q) : SubOk W A va vi Q s := by
  have h16 : strMax = 16000000 := rfl
  refine asInt_rel (G := fun vi => SubOk W A va vi Q s) hk ri fun k u hk => ?_
  cases a <;> first | exact hk.elim | skip
  · obtain ⟨j, c, h1, h2, ⟨h3⟩, hk⟩ := hk
    obtain ⟨t, rfl⟩ := ra
    obtain ⟨e1, e3, e4⟩ := place_seq h1
    refine ⟨"str", _, PySem.F.slot_str_getitem.lookup, typeIs_str _ _ _, PySem.P.getItem_str (c := c) ?_ ?_ (q.tok o _ (.str [c] _) hk)⟩
    · rw [Bool.or_eq_false_iff, decide_eq_false_iff_not, decide_eq_false_iff_not]; lia
    · rw [str_len, e1]
      simpa using h2
  · obtain ⟨j, x, h1, h2, ⟨h3⟩, hk⟩ := hk
    obtain ⟨l, rfl, ⟨items, n, e, r⟩⟩ := ra
    obtain ⟨e1, e3, e4⟩ := place_seq h1
    obtain ⟨v, hv, rv⟩ := r.get h2
    have hl := isList_of e
    have hlen := r.length
    refine ⟨"list", _, list_getitem_lookup, hl.typeIs, ?_⟩
    unfold place at h1
    by_cases h0 : 0 ≤ k
    · rw [if_pos h0, if_pos e4] at h1
      refine wpAny_getItem_list hl h0 (by lia) (x := v) ?_ (q.same o rv hk)
      rw [Option.some.inj h1]
      simpa using hv
    · rw [if_neg h0, if_pos e3] at h1
      refine wpAny_getItem_list_neg hl (by lia) (by rw [List.size_toArray]; lia) (by lia) (x := v) ?_ (q.same o rv hk)
      rw [List.size_toArray, hlen, Option.some.inj h1]
      simpa using hv
  · obtain ⟨j, x, h1, h2, ⟨h3⟩, hk⟩ := hk
    obtain ⟨l, items, n, rfl, e, r⟩ := ra
    obtain ⟨e1, e3, e4⟩ := place_seq h1
    obtain ⟨v, hv, rv⟩ := r.get h2
    have hl := o.fin.is _ _ e
    refine ⟨"tuple", _, slot_tuple_getitem.lookup, ⟨_, hl, rfl⟩, PyProof.Rows.getItem_tuple (items := items.toArray) ⟨_, hl, rfl, n, rfl⟩ (by lia) (by lia) (j := j) ?_ (x := v) (by simpa using hv) (q.same o rv hk)⟩
    rw [List.size_toArray, r.length]; exact e1
theorem bound_rel {v : Value} {x : V} {k : Option Int → Prop} {G : Value → Prop} (hk : asBound x k) (r : Rel W F v x) (h : ∀ p : Option (Int × Tok), k (p.map (·.1)) → G (partValue p)) : G v := by
  cases x <;> first | exact hk.elim | skip
  · obtain rfl := r; exact h none hk
  · obtain ⟨t, rfl⟩ := r; exact h (some (_, t)) hk
theorem part_isPart (p : Option (Int × Tok)) : IsPart (partValue p) (p.map (·.1)) := by
  cases p with
  | none => exact .none
  | some p => exact .int _ _
theorem slice_at {va : Value} {a : V} (p p' : Option (Int × Tok)) (o : OF W F s) (ra : Rel W F va a) (hk : asSeq a (fun s => Side (s.length ≤ strMax ∧ BoundFit (p.map (·.1)) ∧ BoundFit (p'.map (·.1))) ∧ K (.str (sliceL s (p.map (·.1)) (p'.map (·.1)))))
    (fun xs => Side (xs.length ≤ strMax ∧ BoundFit (p.map (·.1)) ∧ BoundFit (p'.map (·.1))) ∧ K (.list (sliceL xs (p.map (·.1)) (p'.map (·.1)))))) (q : Kn W X s F K Q) :
    SubOk W A va (.ref s.heap.objs.size) Q { s with heap := s.heap.push { cls := .type "slice", data := .fields #[partValue p, partValue p', .none] } } := by
  have st : Step W X s F { s with heap := s.heap.push { cls := .type "slice", data := .fields #[partValue p, partValue p', .none] } } F := Step.alloc o.ok o.fin _
  have q' := q.after st
  have o' := o.step st
  cases a <;> first | exact hk.elim | skip
  case str x =>
    obtain ⟨⟨h1, h2, h3⟩, hk⟩ := hk
    obtain ⟨t, rfl⟩ := ra
    refine ⟨"str", _, PySem.F.slot_str_getitem.lookup, typeIs_str _ _ _, wpAny_getItem_str_slice (l := p) (u := p') (st := none) ⟨_, Heap.get?_push_size _ rfl, rfl, rfl⟩ rfl ?_⟩
    unfold sliceMade slicePicked
    have e1 : strSliceIndices (p.map (·.1)) (p'.map (·.1)) (((none : Option (Int × Tok)).map (·.1)).getD 1) (⟨x.toArray⟩ : Str).length = strSliceIndices (p.map (·.1)) (p'.map (·.1)) 1 x.length := by rw [str_len]; rfl
    rw [e1]
    split
    · rename_i hc
      rw [Bool.and_eq_true, beq_iff_eq, beq_iff_eq, str_len] at hc
      rw [full_slice x _ _ hc.2] at hk
      exact q'.same o' (.str x t) hk
    · have e2 := slice_str x (p.map (·.1)) (p'.map (·.1))
      rw [e2]
      refine ⟨?_, q'.tok o' _ (.str _ _) hk⟩
      show (⟨(sliceL x _ _).toArray⟩ : Str).length ≤ sizeLine
      rw [str_len, ← e2]
      exact Nat.le_trans (List.length_filterMap_le _ _) (Nat.le_trans (sliceIndices_le _ _ _) (Nat.le_trans h1 strMax_le))
  case list xs =>
    obtain ⟨⟨h1, h2, h3⟩, hk⟩ := hk
    obtain ⟨l, items, n, rfl, e, r⟩ := ra
    have hl := isList_of (o.fin.is _ _ e)
    refine ⟨"list", _, list_getitem_lookup, (hl.push _).typeIs, wpAny_getItem_list_slice (hl.push _) (Heap.IsSliceOf.new ..) (part_isPart p) (part_isPart p') .none (by simp) ?_ (by rw [List.size_toArray, r.length]; exact Nat.le_trans h1 strMax_le)⟩
    rw [slice_vals]
    exact q'.push o' (r.slice _ _) hk
theorem slice_ok {va vl vu : Value} {a lo hi : V} (o : OF W F s) (ra : Rel W F va a) (rl : Rel W F vl lo) (ru : Rel W F vu hi) (hk : wpSlice a lo hi K) (q : Kn W X s F K Q) :
    SubOk W A va (.ref s.heap.objs.size) Q { s with heap := s.heap.push { cls := .type "slice", data := .fields #[vl, vu, .none] } } :=
  bound_rel (G := fun vl => SubOk W A va (.ref s.heap.objs.size) Q { s with heap := s.heap.push { cls := .type "slice", data := .fields #[vl, vu, .none] } }) hk rl fun p hk =>
  bound_rel (G := fun vu => SubOk W A va (.ref s.heap.objs.size) Q { s with heap := s.heap.push { cls := .type "slice", data := .fields #[partValue p, vu, .none] } }) hk ru fun p' hk => slice_at p p' o ra hk q
theorem sub_arm {env : Env} {value slice : Expr} {pos : Pos}
    (hs : (∀ o i, subscripted slice false o i = operate [o, i] (getItem o i)) ∨ (∀ o i, subscripted slice false o i = operate [i, o] (getItem o i)))
    (h : wpAny (model W.prog W.w) A (eval value env) (fun o s₁ => wpAny (model W.prog W.w) A (eval slice env) (fun i s₂ => SubOk W A o i Q s₂) noE s₁) noE s) :
    wpAny (model W.prog W.w) A (eval (.Subscript value slice pos) env) Q noE s := by
  rw [eval_Subscript]
  refine wpAny_bind (wpAny_mono h (fun o s₁ h₁ => wpAny_bind (wpAny_holding (wpAny_mono h₁ (fun i s₂ h₂ => wpAny_bind (wpAny_standAt ?_)) fun _ _ x => x)))
    fun _ _ x => x)
  obtain ⟨T, id, hl, hT, hg⟩ := h₂
  refine wpAny_bind ?_
  rw [getitemInPython_of_ne hT.not_modules]
  refine wpAny_bind (wpAny_specialOf hT hl (wpAny_pure (wpAny_bind ?_)))
  rcases hs with hs | hs <;> rw [hs] <;> exact wpAny_operating (wpAny_mono hg (fun r s₃ h₃ => wpAny_bind (wpAny_letTemporaryGo (wpAny_pure h₃))) fun _ _ x => x)
end
end Mine
namespace Mine
open PySem PySem.W PySem.W.X PyProof.Rows PySem.Calls PySem.Builtin PySem.Builtin.Str
theorem gives_find4 (x y : Str) (i e : Int) (t u v v' : Tok) : Gives (Builtin.«str.find» ⟨[.str x t, .str y u, .int i v, .int e v'], []⟩) (.int (match occurrences x y (fromIndex x.length i) (min (fromIndex x.length e) x.length) 1 with | k :: _ => (k : Int) | [] => -1)) := by
  show Gives (match occurrences x y (fromIndex x.length i) (min (fromIndex x.length e) x.length) 1 with | k :: _ => retInt k | [] => (do rule "str.find.not-found"; retInt (-1))) _
  cases occurrences x y (fromIndex x.length i) (min (fromIndex x.length e) x.length) 1 with
  | nil => exact .rule (.of_eq rfl)
  | cons k _ => exact .of_eq rfl
theorem from_nat (n : Nat) (i : Int) (h : 0 ≤ i) : fromIndex n i = i.toNat := by
  unfold fromIndex
  rw [if_neg (by lia)]
  congr 1
  lia
theorem strs_vals {W : Wd} {F : Frz} {items : List Value} {ws : List (List Nat)} (h : RelL W F items (ws.map V.str)) : ∃ l : List (Str × Tok), items = strValues l ∧ l.map (·.1) = ws.map Mine.S :=
  RelL.map_str (P := fun items ws => ∃ l : List (Str × Tok), items = strValues l ∧ l.map (·.1) = ws.map Mine.S) ⟨[], rfl, rfl⟩ (fun w t r ws ⟨l, e, q⟩ => ⟨(Mine.S w, t) :: l, congrArg (_ :: ·) e, congrArg (_ :: ·) q⟩) h
theorem RelL.strsFrom {W : Wd} {F : Frz} : ∀ (ws : List (List Nat)) (tk : Nat), RelL W F (strsFrom tk (ws.map Mine.S)) (ws.map V.str)
  | [], _ => .nil
  | w :: ws, tk => .cons (.str w tk) (RelL.strsFrom ws (tk + 1))
theorem splitGo_len (y : List Nat) : ∀ (x acc : List Nat) (k : Nat), (splitGo y acc x k).length ≤ x.length + 1
  | [], _, _ => Nat.le_refl _
  | a :: r, acc, 0 => by
    unfold splitGo
    split
    · exact Nat.succ_le_succ (splitGo_len y r [] (y.length - 1))
    · exact Nat.le_succ_of_le (splitGo_len y r (a :: acc) 0)
  | a :: r, acc, k + 1 => Nat.le_succ_of_le (splitGo_len y r acc k)
theorem splitL_len (x y : List Nat) : (splitL x y).length ≤ x.length + 1 := splitGo_len y x [] 0
section
variable {W : Wd} {X : Excl} {s : Shared} {F : Frz} {K : V → Prop} {A : Around} {d : Nat}
theorem split_raw {prog : Program} {w : World} {E : Value → Shared → Prop} {Q : Value → Shared → Prop} {x y : List Nat} {t u : Tok} (hy : y ≠ []) (hx : x.length ≤ strMax)
    (h : ∀ items tk, RelL W F items ((splitL x y).map V.str) → Q (.ref s.heap.objs.size) { s with heap := s.heap.push { cls := .type "list", data := .seq items.toArray }, toks := tk }) :
    wpAny (model prog w) A (call (.builtin "str.split") [.str (Mine.S x) t, .str (Mine.S y) u]) Q E s := by
  have hx' : (Mine.S x).length ≤ sizeLine := by rw [S_len]; exact Nat.le_trans hx strMax_le
  have hy' : ((Mine.S y).length == 0) = false := by rw [S_len]; simp [hy]
  have e := split_S x y hy
  have whole (q : Txt.split (Mine.S x) (Mine.S y) = [Mine.S x]) : Q (.ref s.heap.objs.size) { s with heap := s.heap.push { cls := .type "list", data := .seq [Value.str (Mine.S x) t].toArray }, toks := s.toks } := by
    have : splitL x y = [x] := (List.map_inj_right (f := Mine.S) (fun p r z => by simpa using z)).mp (e.symm.trans q)
    exact h [.str (Mine.S x) t] s.toks (by rw [this]; exact .cons (.str x t) .nil)
  unfold Txt.split at whole e
  cases h1 : (decide ((Mine.S x).length < (Mine.S y).length) || decide (Builtin.Str.strKind (Mine.S x) < Builtin.Str.strKind (Mine.S y)))
  · rw [h1, if_neg Bool.false_ne_true] at whole e
    cases hf : (occurrences (Mine.S x) (Mine.S y) 0 (Mine.S x).length ((Mine.S x).length + 1)).isEmpty
    · rw [hf, if_neg Bool.false_ne_true] at e
      have hl := splitL_len x y
      have h16 : strMax = 16000000 := rfl
      have h24 : sizeLine = 16777216 := by decide
      refine call_meets PySem.F.slot_str_split (typeIs_str _ _ _) PySem.F.entry_str_split (PySem.F.args_str_split_2 _ _) (meets_str_split_sep (Mine.S x) (Mine.S y) t u h1 hy' hf hx' (by rw [e, List.length_map]; lia)) ?_
      rw [e]
      exact h _ _ (RelL.strsFrom _ _)
    · rw [hf, if_pos rfl] at whole
      exact call_meets PySem.F.slot_str_split (typeIs_str _ _ _) PySem.F.entry_str_split (PySem.F.args_str_split_2 _ _) (meets_str_split_not_found (Mine.S x) (Mine.S y) t u h1 hy' hf) (whole rfl)
  · rw [h1, if_pos rfl] at whole
    exact call_meets PySem.F.slot_str_split (typeIs_str _ _ _) PySem.F.entry_str_split (PySem.F.args_str_split_2 _ _) (meets_str_split_cannot_occur (Mine.S x) (Mine.S y) t u h1) (whole rfl)
theorem joinL_sum (sep : List Nat) : ∀ ws : List (List Nat), (ws.map (fun w => w.length + sep.length)).sum ≤ (joinL sep ws).length + sep.length
  | [] => Nat.zero_le _
  | [w] => Nat.le_refl _
  | w :: v :: r => by
    have := joinL_sum sep (v :: r)
    rw [joinL, List.map_cons, List.sum_cons, List.length_append, List.length_append]
    · lia
    · exact fun q => nomatch q
theorem join_fold (n : Nat) : ∀ (ws : List (List Nat)) (m : Nat), (ws.map Mine.S).foldl (fun a w => a + w.length + n) m = m + (ws.map (fun w => w.length + n)).sum
  | [], m => rfl
  | w :: r, m => by rw [List.map_cons, List.foldl_cons, join_fold n r, S_len, List.map_cons, List.sum_cons, Nat.add_assoc, Nat.add_assoc, Nat.add_assoc]
theorem joinOk (sep : List Nat) (ws : List (List Nat)) (h : (joinL sep ws).length ≤ strMax) (hs : sep.length ≤ 100000) : JoinOk (Mine.S sep) (ws.map Mine.S) = true := by
  unfold JoinOk Builtin.Str.tooLong
  rw [Bool.not_eq_true', decide_eq_false_iff_not, List.foldl_toArray, S_len, join_fold, Nat.zero_add]
  have h16 : strMax = 16000000 := rfl
  have h24 : sizeLine = 16777216 := by decide
  have := joinL_sum sep ws
  lia
theorem intBits_eq (x : Int) : Builtin.Int.intBits x = bitLen x := by
  unfold Builtin.Int.intBits bitLen
  by_cases q : x = 0
  · subst q; rfl
  · simp [q]
theorem signs_S (x : List Nat) : PyProof.Rows.signs ⟨x.toArray⟩ = (x.map fun c => [c]).map Mine.S := by
  unfold PyProof.Rows.signs
  rw [List.map_map]
  rfl
end
structure RecvIs (s : Shared) (ov : Value) (name : Str) (T id : String) : Prop where
  pa : PlainAttrs T
  sl : PySem.Slot T name id
  ty : typeOf (.builtin id) = pure (.type "method_descriptor")
  is : s.TypeIs ov T
  dict : ∀ a, ov = .ref a → ∃ ob, s.heap.get? a = some ob ∧ ob.dict = none
noncomputable def MthRun (id : String) (ov : Value) (o : V) (f : V → List V → VK) : Prop := ∀ (W : Wd) (X : Excl) (s : Shared) (F : Frz) (A : Around) (vs : List Value) (xs : List V) (K : V → Prop) (Q : Value → Shared → Prop), OF W F s → Rel W F ov o → RelL W F vs xs → A.handled = none → f o xs K → Kn W X s F K Q →
  wpAny (model W.prog W.w) A (call (.builtin id) (ov :: vs)) Q noE s
inductive RecvRun (s : Shared) (ov : Value) (o : V) (name : Str) (f : V → List V → VK) : Prop
  | mk (T id : String) (r : RecvIs s ov name T id) (h : MthRun id ov o f)
noncomputable def MthOk (name : Str) (m : Mth) : Prop := ∀ (W : Wd) (s : Shared) (F : Frz) (ov : Value) (o : V), OF W F s → Rel W F ov o → m.rc o = true → RecvRun s ov o name m.wp
theorem MthOk.str {name : Str} {id : String} {f : V → List V → VK} (sl : PySem.Slot "str" name id) (ty : typeOf (.builtin id) = pure (.type "method_descriptor")) (h : ∀ x t, MthRun id (.str ⟨x.toArray⟩ t) (.str x) f) : MthOk name ⟨V.isStr, f⟩ := fun W s F ov o of r hr => by
  cases o <;> first | (cases hr; done) | skip
  obtain ⟨t, rfl⟩ := r
  exact ⟨"str", id, ⟨PySem.F.plainAttrs_str, sl, ty, typeIs_str _ _ _, fun a h => nomatch h⟩, h _ t⟩
theorem mStartswith_ok : MthOk "startswith" mStartswith := .str PySem.F.slot_str_startswith PySem.F.type_str_startswith fun x t W X s F A vs xs K Q o ro ra hh hk k =>
  one_rel (G := fun vs => wpAny (model W.prog W.w) A (call (.builtin "str.startswith") (.str ⟨x.toArray⟩ t :: vs)) Q noE s) hk ra fun v y r hk =>
  asStr_rel (G := fun v => wpAny (model W.prog W.w) A (call (.builtin "str.startswith") [.str ⟨x.toArray⟩ t, v]) Q noE s) hk r fun y u hk => SC.startswith (startswith_S .. ▸ k.same o (.bool _) hk)
theorem mEndswith_ok : MthOk "endswith" mEndswith := .str PySem.F.slot_str_endswith PySem.F.type_str_endswith fun x t W X s F A vs xs K Q o ro ra hh hk k =>
  one_rel (G := fun vs => wpAny (model W.prog W.w) A (call (.builtin "str.endswith") (.str ⟨x.toArray⟩ t :: vs)) Q noE s) hk ra fun v y r hk =>
  asStr_rel (G := fun v => wpAny (model W.prog W.w) A (call (.builtin "str.endswith") [.str ⟨x.toArray⟩ t, v]) Q noE s) hk r fun y u hk => SC.endswith (endswith_S .. ▸ k.same o (.bool _) hk)
theorem find_eq {x y : List Nat} {i e : Int} (h1 : 0 ≤ i) (h3 : 0 ≤ e) (h4 : e ≤ x.length) : (match occurrences (Mine.S x) (Mine.S y) (fromIndex (Mine.S x).length i) (min (fromIndex (Mine.S x).length e) (Mine.S x).length) 1 with | k :: _ => (k : Int) | [] => -1) = findIn y x i.toNat e.toNat := by
  rw [from_nat _ _ h1, from_nat _ _ h3, S_len, Nat.min_eq_left (by lia)]
  by_cases q : i.toNat ≤ e.toNat + 1
  · exact find_S x y _ _ q
  · rw [occ_G, show e.toNat + 1 - i.toNat = 0 by lia]
    unfold findIn
    rw [if_neg (by lia)]
    rfl
theorem mFind_ok : MthOk "find" mFind := .str PySem.F.slot_str_find PySem.F.type_str_find fun x t W X s F A vs xs K Q o ro ra hh hk k =>
  three_rel (G := fun vs => wpAny (model W.prog W.w) A (call (.builtin "str.find") (.str ⟨x.toArray⟩ t :: vs)) Q noE s) hk ra fun v u w y i e r r' r'' hk =>
  asStr_rel (G := fun v => wpAny (model W.prog W.w) A (call (.builtin "str.find") [.str ⟨x.toArray⟩ t, v, u, w]) Q noE s) hk r fun y a hk =>
  int2_rel (G := fun u w => wpAny (model W.prog W.w) A (call (.builtin "str.find") [.str ⟨x.toArray⟩ t, .str ⟨y.toArray⟩ a, u, w]) Q noE s) hk r' r'' fun i e b c ⟨⟨h1, h2, h3, h4, h5⟩, hk⟩ =>
    call_gives PySem.F.slot_str_find (typeIs_str _ _ _) PySem.F.entry_str_find (PySem.F.args_str_find_4 _ _ _ _) (gives_find4 _ _ _ _ _ _ _ _) (k.tok o _ (.int _ _) ((find_eq h1 h3 h4).symm ▸ hk))
theorem mBitlen_ok : MthOk "bit_length" mBitlen := fun W s F ov o of r hr => by
  cases o <;> first | (cases hr; done) | skip
  obtain ⟨t, rfl⟩ := r
  refine ⟨"int", "int.bit_length", ⟨PySem.F.plainAttrs_int, PySem.F.slot_int_bit_length, PySem.F.type_int_bit_length, typeIs_int _ _ _, fun a h => nomatch h⟩, fun W X s F A vs xs K Q o ro ra hh ⟨h0, hk⟩ k => ?_⟩
  subst h0
  obtain rfl := ra
  exact call_int_bit_length (intBits_eq _ ▸ k.tok o _ (.int _ _) hk)
theorem mJoin_ok : MthOk "join" mJoin := .str PySem.F.slot_str_join PySem.F.type_str_join fun x t W X s F A vs xs K Q o ro ra hh hk k =>
  one_rel (G := fun vs => wpAny (model W.prog W.w) A (call (.builtin "str.join") (.str ⟨x.toArray⟩ t :: vs)) Q noE s) hk ra fun v y r hk => by
    cases y <;> first | exact hk.elim | skip
    · obtain ⟨u, rfl⟩ := r
      rename_i y
      obtain ⟨⟨h1, h2, h3⟩, hk⟩ := hk
      refine SC.joinStr hh (by rw [signs_S y]; exact joinOk x _ h1 h2) fun h' k' t' hk' => ?_
      rw [signs_S y, show (⟨x.toArray⟩ : Str) = Mine.S x from rfl, join_S]
      exact k.kept o hk' (.str _ _) hk
    · obtain ⟨ws, rfl, ⟨h1, h2⟩, hk⟩ := hk
      obtain ⟨D, items, n, rfl, e, r⟩ := r
      obtain ⟨l, rfl, el⟩ := strs_vals r
      refine SC.join (isList_of (o.fin.is _ _ e)) el (joinOk x ws h1 h2) fun t' k' => ?_
      rw [show (⟨x.toArray⟩ : Str) = Mine.S x from rfl, join_S]
      exact k.tok o _ (.str _ _) hk
noncomputable def meV (g : Str) : Rs (MthOk g) :=
  if h : g = "startswith" then some ⟨mStartswith, h ▸ mStartswith_ok⟩ else if h : g = "endswith" then some ⟨mEndswith, h ▸ mEndswith_ok⟩ else if h : g = "find" then some ⟨mFind, h ▸ mFind_ok⟩
  else if h : g = "bit_length" then some ⟨mBitlen, h ▸ mBitlen_ok⟩ else if h : g = "join" then some ⟨mJoin, h ▸ mJoin_ok⟩ else none
end Mine
namespace Mine
open PySem PySem.W PySem.W.X PyProof.Rows PySem.Calls
abbrev GMap := Nat → Option GenState
noncomputable def GHave (g : GMap) (gens : Array GenState) : Prop := ∀ i x, g i = some x → gens[i]? = some x
noncomputable def noN : Frz := fun _ => none
noncomputable def noG : GMap := fun _ => none
noncomputable def ofN (N : Frz) (g : GMap) : Excl := ⟨fun a => N a ≠ none, fun i => g i ≠ none⟩
structure IStep (W : Wd) (N : Frz) (g : GMap) (s : Shared) (F : Frz) (s' : Shared) (F' N' : Frz) (g' : GMap) : Prop where
  step : Step W (ofN N g) s F s' F'
  nsub : ∀ a, N' a ≠ none → N a ≠ none ∨ s.heap.get? a = none
  nis : FOk W N' s'.heap
  ndis : ∀ a, N' a ≠ none → F' a = none
  gsub : ∀ i, g' i ≠ none → g i ≠ none ∨ s.gens[i]? = none
  gis : GHave g' s'.gens
structure IPre (W : Wd) (F N : Frz) (g : GMap) (s : Shared) (F' : Frz) : Prop where
  ok : HOk W s.heap
  fin : FOk W F' s.heap
  le : FLe F F'
  base : FLe W.base F'
  nis : FOk W N s.heap
  gis : GHave g s.gens
  ndis : ∀ a, N a ≠ none → F' a = none
inductive Item (W : Wd) (F N : Frz) (target : Expr) : Value → V → Prop
  | rel {v x} : Rel W F v x → Item W F N target v x
  | own {a items n xs} : IsTupE target → N a = some (tupObj items n) → RelL W F items xs → Item W F N target (.ref a) (.tup xs)
noncomputable def Ready (W : Wd) (A : Around) (target : Expr) (it : Value) : List V → Frz → Frz → GMap → Prop
  | [], F, N, g => ∀ s F', IPre W F N g s F' → wpAny (model W.prog W.w) A (pyNext it) (fun r s₁ => r = none ∧ ∃ F₁, IStep W N g s F' s₁ F₁ noN noG) noE s
  | x :: xs, F, N, g => ∀ s F', IPre W F N g s F' → wpAny (model W.prog W.w) A (pyNext it) (fun r s₁ => ∃ v, r = some v ∧ wpAny (model W.prog W.w) A (letOwnedTupleGo target it v) (fun _ s₂ =>
      ∃ F₂ N₂ g₂, IStep W N g s F' s₂ F₂ N₂ g₂ ∧ Item W F₂ N₂ target v x ∧ Ready W A target it xs F₂ N₂ g₂) noE s₁) noE s
structure Src (W : Wd) (A : Around) (target : Expr) (s : Shared) (F : Frz) (it : Value) (items : List V) (s₂ : Shared) (F₂ N : Frz) (g : GMap) : Prop where
  step : Step W noX s F s₂ F₂
  nis : FOk W N s₂.heap
  gis : GHave g s₂.gens
  nnew : ∀ a, N a ≠ none → s.heap.get? a = none
  ndis : ∀ a, N a ≠ none → F₂ a = none
  gnew : ∀ i, g i ≠ none → s.gens[i]? = none
  ready : Ready W A target it items F₂ N g
  self : ∀ (s' : Shared) (Q : Value → Shared → Prop), FOk W N s'.heap → FOk W F₂ s'.heap → Q it s' → wpAny (model W.prog W.w) A (pyIter it) Q noE s'
theorem table_cls {vs} : (tableObj vs).cls = .none := rfl
theorem no_tab_cls {W : Wd} {h : Heap} {a : Addr} {o : Obj} (t : W.ti h) (e : h.get? a = some o) (c : o.cls ≠ .none) : a ∉ W.tabs := fun q => by
  obtain ⟨vs, e'⟩ := W.tiTab h a t q
  rw [e] at e'; cases e'; exact c table_cls
noncomputable def atN (h : Heap) (wr : List Addr) : Frz := fun a => if a ∈ wr then h.get? a else none
theorem atN_some {h : Heap} {wr : List Addr} {a : Addr} {o : Obj} : atN h wr a = some o ↔ a ∈ wr ∧ h.get? a = some o := by
  unfold atN; by_cases q : a ∈ wr <;> simp [q]
theorem atN_none {h : Heap} {wr : List Addr} {a : Addr} (q : a ∉ wr) : atN h wr a = none := by unfold atN; rw [if_neg q]
theorem atN_ne {h : Heap} {wr : List Addr} {a : Addr} (q : atN h wr a ≠ none) : a ∈ wr := by
  by_cases e : a ∈ wr
  · exact e
  · exact absurd (atN_none e) q
theorem turn_step {W : Wd} {F : Frz} {h h' : Heap} {wr : List Addr} {s : Shared} {F' : Frz} {tk : Nat} (p : IPre W F (atN h wr) noG s F') (hc : ∀ b ∈ wr, ∃ o, s.heap.get? b = some o ∧ o.cls ≠ .none ∧ o.cls ≠ .type "code") (h0 : ∀ b ∈ wr, atN h wr b ≠ none) (hk : ∀ b o, b ∉ wr → s.heap.get? b = some o → h'.get? b = some o) :
    Step W (ofN (atN h wr) noG) s F' { s with heap := h', toks := tk } F' :=
  have kF : ∀ a o, F' a = some o → h'.get? a = some o := fun a o e => hk a o (fun hb => by have := p.ndis a (h0 a hb); rw [e] at this; cases this) (p.fin.is _ _ e)
  { ok := ⟨⟨fun a o e => kF a o (p.base _ _ e), p.ok.base.tab⟩, W.tiKeep _ _ p.ok.ti fun a o e c _ => hk a o (fun hb => by
        obtain ⟨o', e', c1, c2⟩ := hc a hb
        rw [e] at e'; cases e'
        exact c.elim c1 c2) e⟩
    fin := ⟨kF, p.fin.tab⟩
    le := fun _ _ e => e
    new := fun _ _ e => .inl e
    keep := fun a o _ hn e => hk a o (fun hb => hn (h0 a hb)) e
    os := rfl
    gens := fun _ _ _ e => e
    bare := fun e => e }
theorem Ready.ofWalks {W : Wd} {A : Around} {target : Expr} {I : Addr} {fp wr : List Addr} {P : Nat → Value → Prop} {St : Nat → Heap → Prop} {items : List V} {F : Frz}
    (wk : Walks W.prog W.w A I fp wr items.length P St)
    (hcls : ∀ i h b, St i h → b ∈ wr → ∃ o, h.get? b = some o ∧ o.cls ≠ .none ∧ o.cls ≠ .type "code")
    (hgo : ∀ i (s : Shared) v (Q : Unit → Shared → Prop), St i s.heap → Q () s → wpAny (model W.prog W.w) A (letOwnedTupleGo target (.ref I) v) Q noE s)
    (hP : ∀ i v, P i v → ∀ x, items[i]? = some x → ∀ F', FLe F F' → Rel W F' v x)
    (hfp : ∀ b ∈ fp, b ∈ wr ∨ ∃ o, F b = some o) :
    ∀ (k i : Nat) (F₁ : Frz) (h : Heap), items.length = i + k → FLe F F₁ → FOk W F₁ h → St i h → Ready W A target (.ref I) (items.drop i) F₁ (atN h wr) noG := by
  intro k i F₁ h hk hF hf hst
  have h0 : ∀ b ∈ wr, atN h wr b ≠ none := fun b hb q => by
    obtain ⟨o, e, _⟩ := hcls _ _ b hst hb
    rw [atN_some.mpr ⟨hb, e⟩] at q; cases q
  have now : ∀ s F', IPre W F₁ (atN h wr) noG s F' → St i s.heap := fun s F' p => wk.frame i h s.heap hst fun b hb o e => by
    rcases hfp b hb with q | ⟨o', q⟩
    · exact p.nis.is b o (atN_some.mpr ⟨q, e⟩)
    · have e1 := hf.is _ _ (hF _ _ q)
      rw [e] at e1
      exact Option.some.inj e1 ▸ p.fin.is _ _ (p.le _ _ (hF _ _ q))
  induction k generalizing i F₁ h with
  | zero =>
    rw [List.drop_of_length_le (by lia)]
    intro s F' p
    have hst' := now s F' p
    have hi : i = items.length := by lia
    subst hi
    exact wk.done s _ _ hst' fun h' tk hkeep => ⟨rfl, F', turn_step p (fun b hb => hcls _ _ b hst' hb) h0 fun b o hb e => hkeep b o hb e, fun a q => absurd rfl q, ⟨fun a o e => (nomatch e), fun _ _ => rfl⟩, fun a q => absurd rfl q, fun a q => absurd rfl q, fun a o e => (nomatch e)⟩
  | succ k ih =>
    have hi : i < items.length := by lia
    rw [List.drop_eq_getElem_cons hi]
    intro s F' p
    have hst' := now s F' p
    refine wk.item i s _ _ hi hst' fun v h' tk hv hst₁ hkeep => ⟨v, rfl, hgo (i + 1) _ v _ hst₁ ?_⟩
    have st := turn_step (tk := tk) p (fun b hb => hcls _ _ b hst' hb) h0 fun b o hb e => hkeep b o hb e
    have le : FLe F F' := fun _ _ e => p.le _ _ (hF _ _ e)
    refine ⟨F', atN h' wr, noG, ⟨st, fun a q => .inl (h0 a (atN_ne q)), ⟨fun a o e => (atN_some.mp e).2, fun a ha => ?_⟩, fun a q => p.ndis a (h0 a (atN_ne q)), fun a q => absurd rfl q, fun a o e => (nomatch e)⟩, .rel (hP i v hv _ (List.getElem?_eq_getElem hi) F' le), ?_⟩
    · by_cases hb : a ∈ wr
      · obtain ⟨o, e, c, _⟩ := hcls _ _ a hst' hb
        exact absurd ha (no_tab_cls p.ok.ti e c)
      · exact atN_none hb
    · have h1 : ∀ b ∈ wr, atN h' wr b ≠ none := fun b hb q => by
        obtain ⟨o, e, _⟩ := hcls _ _ b hst₁ hb
        rw [atN_some.mpr ⟨hb, e⟩] at q; cases q
      exact ih (i + 1) F' h' (by lia) le st.fin hst₁ h1 (fun s F'' p => wk.frame (i + 1) h' s.heap hst₁ fun b hb o e => by
        rcases hfp b hb with q | ⟨o', q⟩
        · exact p.nis.is b o (atN_some.mpr ⟨q, e⟩)
        · have e1 := st.fin.is _ _ (le _ _ q)
          rw [e] at e1
          exact Option.some.inj e1 ▸ p.fin.is _ _ (p.le _ _ (le _ _ q)))
noncomputable def tupleOwners : List String := ["enumerate", "zip", "dict_itemiterator", "dict_reverseitemiterator", "odict_iterator", "itertools.zip_longest", "itertools.pairwise"]
section
variable {W : Wd} {s : Shared} {F : Frz} {A : Around} {d : Nat} {target : Expr}
theorem go_tup {prog : Program} {w : World} {E : Value → Shared → Prop} {I : Addr} {v : Value} {Q : Unit → Shared → Prop} {T : String} (hT : s.TypeIs (.ref I) T) (hn : tupleOwners.contains T = false) (h : Q () s) (es : List Expr) (x : Nat) (p : Pos) :
    wpAny (model prog w) A (letOwnedTupleGo (.Tuple es x p) (.ref I) v) Q E s := by
  obtain ⟨o, ho, hc⟩ := hT
  cases v
  case ref a =>
    refine wpAny_bind (wpAny_load ho ?_)
    rw [hc]
    obtain ⟨c, dd, dt, sl⟩ := o
    cases dt
    case fields vs =>
      show wpAny _ A (if (tupleOwners.contains T && (vs[0]? == some (rawInt a))) = true then _ else _) Q E s
      rw [hn, Bool.false_and, if_neg Bool.false_ne_true]
      exact wpAny_pure h
    all_goals exact wpAny_pure h
  all_goals exact wpAny_pure h
theorem go_plain {prog : Program} {w : World} {E : Value → Shared → Prop} {I : Addr} {v : Value} {Q : Unit → Shared → Prop} {T : String} (hT : s.TypeIs (.ref I) T) (hn : tupleOwners.contains T = false) (h : Q () s) :
    wpAny (model prog w) A (letOwnedTupleGo target (.ref I) v) Q E s := by
  cases target
  case Tuple es x p => exact go_tup hT hn h es x p
  case List es p => exact go_tup hT hn h [] 0 p
  all_goals exact wpAny_pure h
theorem Src.ofWalks (f : OF W F s) {o : Obj} {T : String} {fp : List Addr} {P : Nat → Value → Prop} {St : Nat → Heap → Prop} {items : List V}
    (hf : o.isFreed = false)
    (wk : Walks W.prog W.w A s.heap.objs.size fp [s.heap.objs.size] items.length P St)
    (hcls : ∀ i h, St i h → ∃ o, h.get? s.heap.objs.size = some o ∧ o.cls = .type T)
    (hT : tupleOwners.contains T = false) (hT2 : (T == "code") = false)
    (hst : St 0 (s.heap.push o))
    (hP : ∀ i v, P i v → ∀ x, items[i]? = some x → ∀ F', FLe F F' → Rel W F' v x)
    (hfp : ∀ b ∈ fp, b = s.heap.objs.size ∨ ∃ o, F b = some o) :
    Src W A target s F (.ref s.heap.objs.size) items { s with heap := s.heap.push o } F (atN (s.heap.push o) [s.heap.objs.size]) noG := by
  have hc2 : ∀ i h b, St i h → b ∈ [s.heap.objs.size] → ∃ o, h.get? b = some o ∧ o.cls ≠ .none ∧ o.cls ≠ .type "code" := fun i h b st hb => by
    rw [List.mem_singleton] at hb; subst hb
    obtain ⟨o, e, c⟩ := hcls i h st
    refine ⟨o, e, ?_, ?_⟩
    · rw [c]; simp
    · rw [c]; simpa using hT2
  have hself : ∀ s' : Shared, FOk W (atN (s.heap.push o) [s.heap.objs.size]) s'.heap → FOk W F s'.heap → St 0 s'.heap := fun s' h1 h2 =>
    wk.frame 0 _ s'.heap hst fun b hb ob e => by
      rcases hfp b hb with q | ⟨o', q⟩
      · exact h1.is b ob (atN_some.mpr ⟨by simp [q], e⟩)
      · have e1 := Heap.get?_push_of_some o (f.fin.is _ _ q)
        rw [e] at e1; cases e1
        exact h2.is _ _ q
  refine ⟨Step.alloc f.ok f.fin o, ?_, fun i x e => (by cases e), ?_, ?_, fun i e => absurd rfl e, ?_, ?_⟩
  · refine ⟨fun a ob e => (atN_some.mp e).2, fun a ha => atN_none ?_⟩
    intro hm
    rw [List.mem_singleton] at hm
    exact Nat.lt_irrefl _ (hm ▸ f.ok.tabLt ha)
  · intro a e
    have := atN_ne e
    rw [List.mem_singleton] at this
    subst this
    exact get_size_none _
  · intro a e
    have := atN_ne e
    rw [List.mem_singleton] at this
    subst this
    cases q : F s.heap.objs.size with
    | none => rfl
    | some ob => exact absurd (Heap.lt_size (f.fin.is _ _ q)) (Nat.lt_irrefl _)
  · exact Ready.ofWalks wk hc2 (fun i s' v Q st h => by
      obtain ⟨o, e, c⟩ := hcls i _ st
      exact go_plain ⟨o, e, c⟩ hT h) hP (fun b hb => by
      rcases hfp b hb with q | q
      · exact .inl (by simp [q])
      · exact .inr q) items.length 0 F (s.heap.push o) (by lia) (fun _ _ e => e) (f.fin.push o) hst
  · intro s' Q h1 h2 h3
    exact wk.self 0 s' Q noE (hself s' h1 h2) h3
theorem RelL.getV {vs : List Value} {xs : List V} (h : RelL W F vs xs) {i : Nat} {v : Value} {x : V} (e : vs[i]? = some v) (e' : xs[i]? = some x) : Rel W F v x := by
  obtain ⟨v', e2, r⟩ := h.get e'
  rw [e] at e2; cases e2; exact r
noncomputable def KS (W : Wd) (A : Around) (target : Expr) (s : Shared) (F : Frz) (K : List V → Prop) (Q : Value → Shared → Prop) : Prop := ∀ (it : Value) (s₂ : Shared) (F₂ N : Frz) (g : GMap) (items : List V), Src W A target s F it items s₂ F₂ N g → K items → Q it s₂
theorem Src.after {s₁ : Shared} {F₁ : Frz} {it : Value} {items : List V} {s₂ : Shared} {F₂ N : Frz} {g : GMap} (st : Step W noX s F s₁ F₁) (h : Src W A target s₁ F₁ it items s₂ F₂ N g) : Src W A target s F it items s₂ F₂ N g where
  step := st.trans h.step
  nis := h.nis
  gis := h.gis
  nnew := fun a e => st.live (fun q => q) (h.nnew a e)
  ndis := h.ndis
  gnew := fun i e => by
    cases q : s.gens[i]? with
    | none => rfl
    | some x => have := st.gens i x (fun q => q) q; rw [h.gnew i e] at this; cases this
  ready := h.ready
  self := h.self
theorem KS.after {s₁ : Shared} {F₁ : Frz} {K : List V → Prop} {Q : Value → Shared → Prop} (k : KS W A target s F K Q) (st : Step W noX s F s₁ F₁) : KS W A target s₁ F₁ K Q := fun it s₂ F₂ N g items h => k it s₂ F₂ N g items (h.after st)
section
variable {K : List V → Prop} {Q : Value → Shared → Prop}
theorem fp_one {a b : Addr} (h : b ∈ [a]) : b = a ∨ ∃ o, F b = some o := .inl (List.mem_singleton.mp h)
theorem fp_two {a l b : Addr} {o : Obj} (e : F l = some o) (h : b ∈ [a, l]) : b = a ∨ ∃ o, F b = some o := by
  rcases List.mem_cons.mp h with h | h
  · exact .inl h
  · exact .inr ⟨o, List.mem_singleton.mp h ▸ e⟩
theorem src_list (o : OF W F s) (R : Room A d) {v : Value} {xs : List V} (r : Rel W F v (.list xs)) (hk : K xs) (k : KS W A target s F K Q) : wpAny (model W.prog W.w) A (pyIter v) Q noE s := by
  obtain ⟨l, items, n, rfl, e, r⟩ := r
  have hl := isList_of (o.fin.is _ _ e)
  have wk := Walks.list (prog := W.prog) (w := W.w) (A := A) R.handled s.heap.objs.size l (Nat.ne_of_lt (Heap.lt_size (o.fin.is _ _ e))) items.toArray
  rw [show items.toArray.size = xs.length by rw [List.size_toArray, r.length]] at wk
  refine wpAny_pyIter_list hl (k _ _ _ _ _ _ (Src.ofWalks (T := "list_iterator") o rfl
    wk
    (fun i h st => by obtain ⟨⟨o, e, c, _⟩, _⟩ := st; exact ⟨o, e, c⟩) (by decide) (by decide) ⟨⟨_, Heap.get?_push_size _ rfl, rfl, rfl⟩, hl.push _⟩ (fun i v hv x hx F' hF => (r.getV (by simpa using hv) hx).mono hF) (fun b hb => fp_two e hb)) hk)
theorem src_tup (o : OF W F s) (R : Room A d) {v : Value} {xs : List V} (r : Rel W F v (.tup xs)) (hk : K xs) (k : KS W A target s F K Q) : wpAny (model W.prog W.w) A (pyIter v) Q noE s := by
  obtain ⟨l, items, n, rfl, e, r⟩ := r
  have hl := isTup_of (o.fin.is _ _ e)
  have wk := Walks.tuple (prog := W.prog) (w := W.w) (A := A) R.handled s.heap.objs.size l (Nat.ne_of_lt (Heap.lt_size (o.fin.is _ _ e))) items.toArray
  rw [show items.toArray.size = xs.length by rw [List.size_toArray, r.length]] at wk
  refine wpAny_pyIter_tuple hl (k _ _ _ _ _ _ (Src.ofWalks (T := "tuple_iterator") o rfl
    wk
    (fun i h st => by obtain ⟨⟨o, e, c, _⟩, _⟩ := st; exact ⟨o, e, c⟩) (by decide) (by decide) ⟨⟨_, Heap.get?_push_size _ rfl, rfl, rfl⟩, hl.at fun o e => Heap.get?_push_of_some _ e⟩ (fun i v hv x hx F' hF => (r.getV (by simpa using hv) hx).mono hF) (fun b hb => fp_two e hb)) hk)
theorem src_str (o : OF W F s) (R : Room A d) {v : Value} {x : List Nat} (r : Rel W F v (.str x)) (hk : K (x.map fun c => V.str [c])) (k : KS W A target s F K Q) : wpAny (model W.prog W.w) A (pyIter v) Q noE s := by
  obtain ⟨t, rfl⟩ := r
  have hP : ∀ i v, SignAt ⟨x.toArray⟩ i v → ∀ y, (x.map fun c => V.str [c])[i]? = some y → ∀ F', FLe F F' → Rel W F' v y := by
    rintro i v ⟨c, u, e, rfl⟩ y hy F' _
    rw [List.getElem?_map, show x[i]? = some c by simpa using e] at hy
    exact Option.some.inj hy ▸ .str [c] u
  have hsz : (⟨x.toArray⟩ : Str).cps.size = (x.map fun c => V.str [c]).length := by simp
  cases ha : (⟨x.toArray⟩ : Str).cps.all (· < 128)
  · exact wpAny_pyIter_wide ha (k _ _ _ _ _ _ (Src.ofWalks (T := "str_iterator") o rfl (hsz ▸ Walks.strWide (prog := W.prog) (w := W.w) (A := A) R.handled s.heap.objs.size ⟨x.toArray⟩ t) (fun i h st => by obtain ⟨o, e, c, _⟩ := st; exact ⟨o, e, c⟩) (by decide) (by decide)
      ⟨_, Heap.get?_push_size _ rfl, rfl, rfl⟩ hP fun b hb => fp_one hb) hk)
  · exact wpAny_pyIter_ascii ha (k _ _ _ _ _ _ (Src.ofWalks (T := "str_ascii_iterator") o rfl (hsz ▸ Walks.strAscii (prog := W.prog) (w := W.w) (A := A) R.handled s.heap.objs.size ⟨x.toArray⟩ t) (fun i h st => by obtain ⟨o, e, c, _⟩ := st; exact ⟨o, e, c⟩) (by decide) (by decide)
      ⟨_, Heap.get?_push_size _ rfl, rfl, rfl⟩ hP fun b hb => fp_one hb) hk)
theorem src_items (o : OF W F s) (R : Room A d) {v : Value} {x : V} (r : Rel W F v x) (hk : itemsK x K) (k : KS W A target s F K Q) : wpAny (model W.prog W.w) A (pyIter v) Q noE s := by
  cases x <;> first | exact hk.elim | skip
  · exact src_str o R r hk.2 k
  · exact src_list o R r hk.2 k
  · exact src_tup o R r hk.2 k
theorem src_rev (o : OF W F s) (R : Room A d) {v : Value} {xs : List V} (r : Rel W F v (.list xs)) (hk : K xs.reverse) (k : KS W A target s F K Q) :
    wpAny (model W.prog W.w) A (call (.type "reversed") [v]) (fun xv s₁ => wpAny (model W.prog W.w) A (pyIter xv) Q noE s₁) noE s := by
  obtain ⟨l, items, n, rfl, e, r⟩ := r
  have hl := isList_of (o.fin.is _ _ e)
  refine call_reversed_list hl ?_
  refine wpAny_pyIter_revIter (l := l) (i := (items.toArray.size : Int) - 1) ⟨_, Heap.get?_push_size _ rfl, rfl, rfl⟩ ?_
  have wk := Walks.listRev (prog := W.prog) (w := W.w) (A := A) R.handled s.heap.objs.size l (Nat.ne_of_lt (Heap.lt_size (o.fin.is _ _ e))) items.toArray
  have hlen : items.toArray.size = xs.reverse.length := by rw [List.size_toArray, r.length, List.length_reverse]
  rw [hlen] at wk
  refine k _ _ _ _ _ _ (Src.ofWalks (T := "list_reverseiterator") o rfl wk (fun i h st => by obtain ⟨_, ⟨o, e, c, _⟩, _⟩ := st; exact ⟨o, e, c⟩) (by decide) (by decide)
    ⟨Nat.zero_le _, ⟨_, Heap.get?_push_size _ rfl, rfl, by rw [hlen]; simp [revObj]⟩, hl.push _⟩ (fun i v hv x hx F' hF => ?_) (fun b hb => fp_two e hb)) hk
  have hi : i < xs.reverse.length := (List.getElem?_eq_some_iff.mp hx).1
  rw [List.getElem?_reverse (by simpa using hi)] at hx
  refine (r.getV ?_ hx).mono hF
  rw [List.length_reverse] at hv
  simpa using hv
end
theorem rangeSize_up (a b : Int) : Builtin.Range.rangeSize a b 1 = ((b - a).toNat : Int) := by
  unfold Builtin.Range.rangeSize
  simp only [show (1 : Int) > 0 by decide, if_true]
  split <;> lia
theorem rangeSize_down (a b : Int) : Builtin.Range.rangeSize a b (-1) = ((a - b).toNat : Int) := by
  unfold Builtin.Range.rangeSize
  simp only [show ¬ (-1 : Int) > 0 by decide, if_false, Int.neg_neg, Int.ediv_one]
  split <;> lia
theorem small_up (a b : Int) (h : BoundR a b) : Builtin.Range.small a b 1 = true := by
  obtain ⟨ha, ha', hb, hb'⟩ := h
  unfold Builtin.Range.small
  rw [rangeSize_up]
  simp [Builtin.Range.rangeFitsLong]
  lia
theorem small_down (a b : Int) (h : BoundR a b) : Builtin.Range.small a b (-1) = true := by
  obtain ⟨ha, ha', hb, hb'⟩ := h
  unfold Builtin.Range.small
  rw [rangeSize_down]
  simp [Builtin.Range.rangeFitsLong]
  lia
theorem rangeL_up (a b : Int) (i : Nat) (x : Int) (h : (rangeL a b 1)[i]? = some x) : x = a + i * 1 := by
  unfold rangeL at h
  rw [if_pos rfl, List.getElem?_map] at h
  cases e : (List.range (b - a).toNat)[i]? with
  | none => rw [e] at h; cases h
  | some k =>
    rw [e] at h; cases h
    rw [List.getElem?_range (by have := (List.getElem?_eq_some_iff.mp e).1; simpa using this)] at e
    cases e
    show a + (i : Int) = _
    lia
theorem rangeL_down (a b : Int) (i : Nat) (x : Int) (h : (rangeL a b (-1))[i]? = some x) : x = a + i * (-1) := by
  unfold rangeL at h
  rw [if_neg (by decide), if_pos rfl, List.getElem?_map] at h
  cases e : (List.range (a - b).toNat)[i]? with
  | none => rw [e] at h; cases h
  | some k =>
    rw [e] at h; cases h
    rw [List.getElem?_range (by have := (List.getElem?_eq_some_iff.mp e).1; simpa using this)] at e
    cases e
    show a - (i : Int) = _
    lia
theorem len_up (a b : Int) : (rangeL a b 1).length = (b - a).toNat := by unfold rangeL; simp
theorem len_down (a b : Int) : (rangeL a b (-1)).length = (a - b).toNat := by unfold rangeL; simp
structure RangeIs (W : Wd) (s : Shared) (F : Frz) (s₁ : Shared) (r : Addr) (a b c : Int) (t u v : Tok) (n : Nat) (ys : List Int) : Prop where
  obj : IsRange s₁.heap r a b c t u v
  small : Builtin.Range.small a b c = true
  size : Builtin.Range.rangeSize a b c = n
  len : ys.length = n
  at' : ∀ (i : Nat) (x : Int), ys[i]? = some x → x = a + (i : Int) * c
  step : Step W noX s F s₁ F
section
variable {K : List V → Prop} {Q : Value → Shared → Prop}
theorem range_one {v : Value} {b : V} (o : OF W F s) (r : Rel W F v b) (hk : rangeK [b] K) (q : ∀ r a b c t u v n ys s₁, RangeIs W s F s₁ r a b c t u v n ys → K (ys.map V.int) → Q (.ref r) s₁) : wpAny (model W.prog W.w) A (call (.type "range") [v]) Q noE s :=
  asInt_rel (G := fun v => wpAny (model W.prog W.w) A (call (.type "range") [v]) Q noE s) (k := fun b => Side (-2 ^ 60 < b ∧ b < 2 ^ 60) ∧ K ((rangeL 0 b 1).map V.int)) hk r fun b t ⟨⟨h1, h2⟩, hk⟩ =>
    call_range_1 (q _ 0 b 1 _ _ _ (b - 0).toNat _ _ ⟨Heap.get?_push_size _ rfl, small_up 0 b ⟨by decide, by decide, h2, h1⟩, rangeSize_up 0 b, len_up 0 b, rangeL_up 0 b, (Step.tok o.ok o.fin (s.toks + 1 + 1)).trans (Step.alloc (s := { s with toks := s.toks + 1 + 1 }) o.ok o.fin _)⟩ hk)
theorem range_two {v u : Value} {a b : V} (o : OF W F s) (r : Rel W F v a) (r' : Rel W F u b) (hk : rangeK [a, b] K) (q : ∀ r a b c t u v n ys s₁, RangeIs W s F s₁ r a b c t u v n ys → K (ys.map V.int) → Q (.ref r) s₁) : wpAny (model W.prog W.w) A (call (.type "range") [v, u]) Q noE s :=
  int2_rel (G := fun v u => wpAny (model W.prog W.w) A (call (.type "range") [v, u]) Q noE s) (k := fun a b => Side (BoundR a b) ∧ K ((rangeL a b 1).map V.int)) hk r r' fun a b t u ⟨⟨h⟩, hk⟩ =>
    call_range_2 (q _ a b 1 _ _ _ (b - a).toNat _ _ ⟨Heap.get?_push_size _ rfl, small_up a b h, rangeSize_up a b, len_up a b, rangeL_up a b, (Step.tok o.ok o.fin (s.toks + 1)).trans (Step.alloc (s := { s with toks := s.toks + 1 }) o.ok o.fin _)⟩ hk)
theorem range_three {v u w : Value} {a b c : V} (o : OF W F s) (r : Rel W F v a) (r' : Rel W F u b) (r'' : Rel W F w c) (hk : rangeK [a, b, c] K) (q : ∀ r a b c t u v n ys s₁, RangeIs W s F s₁ r a b c t u v n ys → K (ys.map V.int) → Q (.ref r) s₁) : wpAny (model W.prog W.w) A (call (.type "range") [v, u, w]) Q noE s :=
  int2_rel (G := fun v u => wpAny (model W.prog W.w) A (call (.type "range") [v, u, w]) Q noE s) (k := fun a b => asInt c fun c => c = -1 ∧ Side (BoundR a b) ∧ K ((rangeL a b (-1)).map V.int)) hk r r' fun a b t u hk =>
    asInt_rel (G := fun w => wpAny (model W.prog W.w) A (call (.type "range") [.int a t, .int b u, w]) Q noE s) hk r'' fun c v ⟨hc, ⟨h⟩, hk⟩ => by
      subst hc
      exact call_range_3 (by decide) (q _ a b (-1) _ _ _ (a - b).toNat _ _ ⟨Heap.get?_push_size _ rfl, small_down a b h, rangeSize_down a b, len_down a b, rangeL_down a b, Step.alloc o.ok o.fin _⟩ hk) (.inl (PyProof.noPylong_small (by obtain ⟨h1, h2, h3, h4⟩ := h; lia)))
theorem range_call {vals : List Value} {vs : List V} (o : OF W F s) (ra : RelL W F vals vs) (hk : rangeK vs K)
    (q : ∀ r a b c t u v n ys s₁, RangeIs W s F s₁ r a b c t u v n ys → K (ys.map V.int) → Q (.ref r) s₁) : wpAny (model W.prog W.w) A (call (.type "range") vals) Q noE s := by
  rcases vs with _ | ⟨a, _ | ⟨b, _ | ⟨c, _ | ⟨e, l⟩⟩⟩⟩
  · exact hk.elim
  · obtain ⟨v, _, rfl, r, rfl⟩ := ra
    exact range_one o r hk q
  · obtain ⟨v, _, rfl, r, ⟨u, _, rfl, r', rfl⟩⟩ := ra
    exact range_two o r r' hk q
  · obtain ⟨v, _, rfl, r, ⟨u, _, rfl, r', ⟨w, _, rfl, r'', rfl⟩⟩⟩ := ra
    exact range_three o r r' r'' hk q
  · exact hk.elim
end
theorem src_range {s₁ : Shared} {r : Addr} {a b c : Int} {t u v : Tok} {n : Nat} {ys : List Int} {K : List V → Prop} {Q : Value → Shared → Prop} (o : OF W F s) (R : Room A d) (h : RangeIs W s F s₁ r a b c t u v n ys) (hk : K (ys.map V.int)) (k : KS W A target s F K Q) : wpAny (model W.prog W.w) A (pyIter (.ref r)) Q noE s₁ := by
  have o₁ := o.step h.step
  have hlen : n = (ys.map V.int).length := by rw [List.length_map, h.len]
  refine wpAny_pyIter_range h.obj h.small ?_
  have wk := Walks.range (prog := W.prog) (w := W.w) (A := A) R.handled s₁.heap.objs.size a c n
  rw [hlen] at wk
  have S := Src.ofWalks (target := target) (T := "range_iterator") (items := ys.map V.int) (o := { cls := .type "range_iterator", data := .fields #[rawInt a, rawInt (Builtin.Range.rangeSize a b c), rawInt c] }) o₁ rfl wk (fun i h st => ⟨_, st, rfl⟩) (by decide) (by decide) (by
    have e := Heap.get?_push_size s₁.heap (o := { cls := .type "range_iterator", data := .fields #[rawInt a, rawInt (Builtin.Range.rangeSize a b c), rawInt c] }) rfl
    rw [h.size] at e ⊢
    rw [← hlen]
    simpa using e) (fun i v hv x hx' F' hF => by
    obtain ⟨t, rfl⟩ := hv
    rw [List.getElem?_map] at hx'
    obtain ⟨y, e, rfl⟩ := Option.map_eq_some_iff.mp hx'
    rw [← h.at' i y e]
    exact .int _ _) fun b hb => fp_one hb
  exact k _ _ _ _ _ _ (S.after h.step) hk
end
end Mine
namespace Mine
open PySem PySem.W PySem.W.X PyProof.Rows PySem.Calls
noncomputable def KnL (W : Wd) (s : Shared) (F : Frz) (K : List V → Prop) (Q : List Value → Shared → Prop) : Prop := ∀ (v : List Value) (s' : Shared) (F' : Frz) (r : List V), Step W noX s F s' F' → RelL W F' v r → K r → Q v s'
noncomputable def KnR (W : Wd) (s : Shared) (F : Frz) (K : V → Prop) (Q : Value → Shared → Prop) : Prop := ∀ (v : Value) (s' : Shared) (F' : Frz) (r : V), Step W noX s F s' F' → RelB W F' s'.heap v r → K r → Q v s'
noncomputable def KnA (W : Wd) (s : Shared) (F : Frz) (K : List V → Prop) (Q : List Value → Shared → Prop) : Prop := ∀ (v : List Value) (s' : Shared) (F' : Frz) (r : List V), Step W noX s F s' F' → ArgsB W F' s'.heap v r → K r → Q v s'
inductive At (W : Wd) (d : Nat) (env : Env) (T : Tab) (m : Nat) (F : Frz) (ρ : Rho) (s : Shared) (A : Around) : Prop
  | mk (lo : Nat) (G : Frz) (α : Nat → Addr) (inv : Inv W env T m lo F G α ρ s) (env : EnvOk env T) (room : Room A d)
section
variable {W : Wd} {d : Nat} {env : Env} {T : Tab} {m : Nat} {F F' : Frz} {ρ : Rho} {s s' : Shared} {A : Around}
theorem At.step (a : At W d env T m F ρ s A) (st : Step W noX s F s' F') : At W d env T m F' ρ s' A := let ⟨lo, G, α, i, e, r⟩ := a; ⟨lo, G, α, i.step st, e, r⟩
theorem At.of (a : At W d env T m F ρ s A) : OF W F s := let ⟨_, _, _, i, _, _⟩ := a; ⟨i.ok, i.fin, i.fb⟩
theorem At.room (a : At W d env T m F ρ s A) : Room A d := let ⟨_, _, _, _, _, r⟩ := a; r
theorem At.en (a : At W d env T m F ρ s A) : EnvOk env T := let ⟨_, _, _, _, e, _⟩ := a; e
theorem At.slot (a : At W d env T m F ρ s A) {x : Str} {i : Nat} (h : T.vars.lookup x = some i) {P : Prop} (k : ∀ (μ : Str → Option Value) (G : Frz) (b : Addr), s.heap.Ns env.locals μ → SlotOk W env F G s.heap μ x b (ρ.at i) → P) : P :=
  let ⟨_, G, α, i, _, _⟩ := a; let ⟨μ, hn, hs⟩ := i.vars; k μ G (α _) hn (hs x _ h)
end
noncomputable def CallAt (W : Wd) (d : Nat) (a : Addr) (P : List V → (V → Prop) → Prop) : Prop := ∀ (A : Around) (s : Shared) (F : Frz) (vals : List Value) (vs : List V) (K : V → Prop) (Q : Value → Shared → Prop), Room A d → OF W F s → RelL W F vals vs → P vs K → Kn W noX s F K Q →
  wpAny (model W.prog W.w) A (call (.ref a) vals) Q noE s
noncomputable def CallGen (W : Wd) (lg : Bool) (d : Nat) (a : Addr) (P : List V → (List V → Prop) → Prop) : Prop := ∀ (A : Around) (s : Shared) (F : Frz) (vals : List Value) (vs : List V) (K : List V → Prop), Room A d → OF W F s → RelL W F vals vs → P vs K →
  (∀ (target : Expr) (Q : Value → Shared → Prop), KS W A target s F K Q → wpAny (model W.prog W.w) A (call (.ref a) vals) (fun gv s₁ => wpAny (model W.prog W.w) A (pyIter gv) Q noE s₁) noE s) ∧
  (lg = true → ∀ (Q : Value → Shared → Prop), Kn W noX s F (fun v => ∃ xs, v = .list xs ∧ K xs) Q → wpAny (model W.prog W.w) A (call (.ref a) vals) (fun gv s₁ => wpAny (model W.prog W.w) A (call (.type "list") [gv]) Q noE s₁) noE s)
noncomputable def ZipOk (W : Wd) (d : Nat) : Prop := ∀ (A : Around) (target : Expr) (s : Shared) (F : Frz) (va vb : Value) (xs : List V) (x : List Nat) (K : List V → Prop) (Q : Value → Shared → Prop), Room A d → OF W F s → IsTupE target → Rel W F va (.list xs) → Rel W F vb (.str x) → K ((xs.zip x).map fun p => V.tup [p.1, .str [p.2]]) → KS W A target s F K Q →
  wpAny (model W.prog W.w) A (call (.type "zip") [va, vb]) (fun xv s₁ => wpAny (model W.prog W.w) A (pyIter xv) Q noE s₁) noE s
inductive FnAt (W : Wd) (g : Str) (P : Addr → Prop) : Prop
  | mk (a : Addr) (o : Obj) (fd : FuncData) (n : W.mg g = some (.ref a)) (b : W.base a = some o) (h : o.data = .func fd) (p : P a)
structure CfgOk (c : Cfg) (W : Wd) (C : Cx) (d : Nat) : Prop where
  fns : ∀ g k, c.fns.lookup g = some k → FnAt W g fun a => CallAt W d a (C.call k)
  gens : ∀ g k, c.gens.lookup g = some k → FnAt W g fun a => CallGen W c.lgen d a (C.gen k)
  cloF : ∀ k cs F a, W.fo k cs F a → ∃ o fd, F a = some o ∧ o.data = .func fd
  clo : ∀ k cs F a, W.fo k cs F a → ∀ (A : Around) (s : Shared) (F' : Frz) (vals : List Value) (vs : List V) (K : V → Prop) (Q : Value → Shared → Prop), FLe F F' → Room A d → OF W F' s → RelL W F' vals vs → C.clo k cs vs K → Kn W noX s F' K Q → wpAny (model W.prog W.w) A (call (.ref a) vals) Q noE s
  consts : ∀ g k, c.consts.lookup g = some k → ∃ v, W.mg g = some v ∧ Rel W W.base v (C.glob k)
  dicts : ∀ g k, c.dicts.lookup g = some k → ∃ a, W.mg g = some (.ref a) ∧ ∀ (A : Around) (s : Shared) (F : Frz) (K : V → Prop) (Q : Value → Shared → Prop) (t : Tok) (x : List Nat) (i : Int), OF W F s → C.dict k x = some i → K (.int i) → Kn W noX s F K Q → SubOk W A (.ref a) (.str ⟨x.toArray⟩ t) Q s
  bi : ∀ g ∈ biNames, W.mg (Str.ofString g) = none ∧ W.mb (Str.ofString g) = some (.builtin g)
  zip : c.zips = true → ZipOk W d
  ty : ∀ g ∈ ["range", "zip", "reversed", "list"], W.mg (Str.ofString g) = none ∧ W.mb (Str.ofString g) = some (.type g)
section
variable (W : Wd) (C : Cx) (d : Nat) (T : Tab) (m : Nat)
noncomputable def OkE (e : Expr) (x : ED) : Prop := ∀ (env : Env) (F : Frz) (ρ : Rho) (s : Shared) (A : Around) (K : V → Prop) (Q : Value → Shared → Prop), At W d env T m F ρ s A → x C ρ K → Kn W noX s F K Q → wpAny (model W.prog W.w) A (eval e env) Q noE s
noncomputable def OkB (e : Expr) (x : ED) : Prop := ∀ (env : Env) (F : Frz) (ρ : Rho) (s : Shared) (A : Around) (K : V → Prop) (Q : Value → Shared → Prop), At W d env T m F ρ s A → x C ρ K → KnR W s F K Q → wpAny (model W.prog W.w) A (eval e env) Q noE s
noncomputable def OkT (e : Expr) (x : TD) : Prop := ∀ (env : Env) (F : Frz) (ρ : Rho) (s : Shared) (A : Around) (K : Bool → Prop) (Q : Bool → Shared → Prop), At W d env T m F ρ s A → x C ρ K → KnB W noX s F K Q → wpAny (model W.prog W.w) A (isTrue e env (eval e env)) Q noE s
noncomputable def OkL (es : List Expr) (x : LD) : Prop := ∀ (env : Env) (pos : Pos) (F : Frz) (ρ : Rho) (s : Shared) (A : Around) (K : List V → Prop) (Q : List Value → Shared → Prop), At W d env T m F ρ s A → x C ρ K → KnL W s F K Q → wpAny (model W.prog W.w) A (spliced (backTo pos (starEach es env))) Q noE s
noncomputable def OkLB (es : List Expr) (x : LD) : Prop := ∀ (env : Env) (pos : Pos) (F : Frz) (ρ : Rho) (s : Shared) (A : Around) (K : List V → Prop) (Q : List Value → Shared → Prop), At W d env T m F ρ s A → x C ρ K → KnA W s F K Q → wpAny (model W.prog W.w) A (spliced (backTo pos (starEach es env))) Q noE s
noncomputable def testsOf (ifs : List Expr) (env : Env) : Sem Bool := forIn ifs true fun c r => if r = true then do let ok ← isTrue c env (eval c env); pure (ForInStep.yield ok) else pure (ForInStep.yield r)
noncomputable def OkTests (es : List Expr) (x : TD) : Prop := ∀ (env : Env) (F : Frz) (ρ : Rho) (s : Shared) (A : Around) (K : Bool → Prop) (Q : Bool → Shared → Prop), At W d env T m F ρ s A → x C ρ K → KnB W noX s F K Q → wpAny (model W.prog W.w) A (testsOf es env) Q noE s
structure Shape (e : Expr) : Prop where
  star : ∀ r env, starEach (e :: r) env = (false, eval e env) :: starEach r env
  marks : ∀ op, behindInMarks op e = false
  sub : (∀ o v, subscripted e false o v = operate [o, v] (getItem o v)) ∨ (∀ o v, subscripted e false o v = operate [v, o] (getItem o v))
  fold : ∀ env x, foldedSetIterable e env x = pure x
structure SndE (e : Expr) (x : XD) : Prop where
  v : OkE W C d T m e x.E
  t : OkT W C d T m e x.T
  b : OkB W C d T m e x.B
  sh : Shape e
noncomputable def StarL : List Expr → Prop
  | [] => True
  | e :: r => (∀ env, starEach (e :: r) env = (false, eval e env) :: starEach r env) ∧ StarL r
structure SndL (es : List Expr) (xs : List XD) : Prop where
  l : OkL W C d T m es fun C => wpL C xs
  lb : OkLB W C d T m es fun C => wpLB C xs
  ts : OkTests W C d T m es fun C => wpIfs C xs
  st : StarL es
  ln : es.length = xs.length
end
abbrev PlainT (e : Expr) : Prop := ∀ env whole, isTrue e env whole = (do let v ← whole; standAt e.pos; holding [v] (truthy v))
section
variable {W : Wd} {C : Cx} {d : Nat} {T : Tab} {m : Nat} {env : Env} {F F' : Frz} {ρ : Rho} {s s' : Shared} {A : Around} {c : Cfg} {Q : Value → Shared → Prop} {K : V → Prop}
theorem at_name {x : Str} {i : Nat} (h : T.at x = some i) : T.vars.lookup x = some i ∧ (x == ("__debug__" : Str)) = false ∧ (x == ("__classdict__" : Str)) = false := by
  unfold Tab.at at h
  cases q : badName x with
  | true => rw [q] at h; cases h
  | false =>
    rw [q] at h
    exact ⟨h, Bool.or_eq_false_iff.mp q⟩
theorem out_name {x : Str} (h : T.out x = true) : x ∈ T.globs ∧ (x == ("__debug__" : Str)) = false := by
  unfold Tab.out badName at h
  simp only [Bool.and_eq_true, Bool.not_eq_true', Bool.or_eq_false_iff] at h
  exact ⟨by simpa using h.1.2, h.1.1.1⟩
theorem load_holds {x : Str} {v : Value} {μ : Str → Option Value} (e : EnvOk env T) (hn : s.heap.Ns env.locals μ) (h : Holds env s.heap μ x v) (hc : (x == ("__classdict__" : Str)) = false) (q : Q v s) :
    wpAny (model W.prog W.w) A (loadName env x) Q noE s := by
  rcases h with ⟨k, hv⟩ | ⟨k | k, c, hl, hv⟩
  · exact wpAny_loadName_local e.kind k hn hv q
  · exact wpAny_loadName_cell e.kind k hl hv q
  · exact wpAny_loadName_free e.kind k hl hv q hc
theorem load_var {x : Str} {i : Nat} {k : V → Prop} (a : At W d env T m F ρ s A) (hx : T.at x = some i) (h : atVal ρ i k) (q : ∀ val v, Rel W F val v → k v → Q val s) : wpAny (model W.prog W.w) A (loadName env x) Q noE s := by
  obtain ⟨h1, h2, h3⟩ := at_name hx
  refine a.slot h1 fun μ G b hn hs => ?_
  unfold atVal at h
  cases hv : ρ.at i <;> rw [hv] at h hs <;> first | exact h.elim | skip
  obtain ⟨val, hh, r⟩ := hs
  exact load_holds a.en hn hh h3 (q val _ r h)
theorem load_own {x : Str} {i : Nat} {xs : List V} (a : At W d env T m F ρ s A) (hx : T.at x = some i) (hv : ρ.at i = .own xs) (q : ∀ b, LAt W F s.heap b xs → Q (.ref b) s) : wpAny (model W.prog W.w) A (loadName env x) Q noE s := by
  obtain ⟨h1, h2, h3⟩ := at_name hx
  refine a.slot h1 fun μ G b hn hs => ?_
  rw [hv] at hs
  obtain ⟨hh, _, _, items, n, e, r⟩ := hs
  exact load_holds a.en hn hh h3 (q _ ⟨items, n, e, r⟩)
theorem load_glob {x : Str} {v : Value} {pos : Pos} (a : At W d env T m F ρ s A) (hx : T.out x = true) (hv : W.mg x = some v) (q : Q v s) : wpAny (model W.prog W.w) A (eval (.Name x pos) env) Q noE s := by
  obtain ⟨h1, h2⟩ := out_name hx
  refine Name_function_global a.en.kind (a.en.glob x h1) (loadGlobal_global (mg := W.mg) ?_ hv q) h2
  rw [a.en.globals]
  exact W.hmg _ a.of.ok.base.is
theorem load_built {x : Str} {v : Value} {pos : Pos} (a : At W d env T m F ρ s A) (hx : T.out x = true) (h : W.mg x = none ∧ W.mb x = some v) (q : Q v s) : wpAny (model W.prog W.w) A (eval (.Name x pos) env) Q noE s := by
  obtain ⟨h1, h2⟩ := out_name hx
  refine Name_function_global a.en.kind (a.en.glob x h1) (loadGlobal_builtin (mg := W.mg) (mb := W.mb) ?_ h.1 ?_ h.2 q) h2
  · rw [a.en.globals]; exact W.hmg _ a.of.ok.base.is
  · rw [a.en.builtins]; exact W.hmb _ a.of.ok.base.is
theorem tail_truth {s₂ : Shared} {F₂ : Frz} {K : Bool → Prop} {Q : Bool → Shared → Prop} (o : OF W F s) (st : Step W noX s F s₂ F₂) (k : KnB W noX s F K Q) : Kn W noX s₂ F₂ (fun v => wpTruth v K) fun c s₃ => wpAny (model W.prog W.w) A (truthy c) Q noE s₃ :=
  fun v s' F' r st' q h => truth_ok ((o.step st).step st') q h ((k.after st).after st')
theorem all3 {e : Expr} {x : ED} (h : OkE W C d T m e x) (sh : Shape e) (he : PlainT e) : SndE W C d T m e (xP x) where
  v := h
  t := fun env F ρ s A K Q a q k => isTrue_plain (h env F ρ s A _ _ a q (tail_truth a.of a.of.refl k)) (he _ _)
  b := fun env F ρ s A K Q a q k => h env F ρ s A K Q a q fun v s' F' r st rr kk => k v s' F' r st (.rel st.fin rr) kk
  sh := sh
theorem s_none {k pos} : SndE W C d T m (.Constant .none k pos) xNone := all3 (fun env F ρ s A K Q a h k => wpAny_Constant_none (k.same a.of .none h)) ⟨fun _ _ => rfl, fun _ => rfl, .inl fun _ _ => rfl, fun _ _ => rfl⟩ fun _ _ => rfl
theorem s_bool {b k pos} : SndE W C d T m (.Constant (.bool b) k pos) (xBool b) := all3 (fun env F ρ s A K Q a h k => wpAny_Constant_bool (k.same a.of (.bool _) h)) ⟨fun _ _ => rfl, fun _ => rfl, .inl fun _ _ => rfl, fun _ _ => rfl⟩ fun _ _ => rfl
theorem s_int {i k pos} : SndE W C d T m (.Constant (.int i) k pos) (xInt i) := all3 (fun env F ρ s A K Q a h k => wpAny_Constant_int (k.tok a.of _ (.int _ _) h)) ⟨fun _ _ => rfl, fun _ => rfl, .inl fun _ _ => rfl, fun _ _ => rfl⟩ fun _ _ => rfl
theorem s_str {x : Str} {k pos} : SndE W C d T m (.Constant (.str x) k pos) (xStr x.cps.toList) := all3 (fun env F ρ s A K Q a h k => wpAny_Constant_str (k.tok a.of _ (.str x.cps.toList _) h)) ⟨fun _ _ => rfl, fun _ => rfl, .inl fun _ _ => rfl, fun _ _ => rfl⟩ fun _ _ => rfl
theorem ok_var {x : Str} {i : Nat} {pos} (hx : T.at x = some i) : OkE W C d T m (.Name x pos) (eVar i) := fun env F ρ s A K Q a h k => wpAny_Name (load_var a hx h fun val v r h => k.same a.of r h) (at_name hx).2.1
theorem s_var {x : Str} {i : Nat} {pos} (hx : T.at x = some i) : SndE W C d T m (.Name x pos) (xVar i) where
  v := ok_var hx
  t := fun env F ρ s A K Q a q k => isTrue_plain (ok_var (C := C) hx env F ρ s A _ _ a q (tail_truth a.of a.of.refl k))
  b := fun env F ρ s A K Q a h k => by
    refine wpAny_Name ?_ (at_name hx).2.1
    cases hv : ρ.at i with
    | unset =>
      have h' : (match ρ.at i with | .val v => K v | .own xs => K (.list xs) | .unset => False) := h
      rw [hv] at h'; exact h'.elim
    | val v =>
      have h' : (match ρ.at i with | .val v => K v | .own xs => K (.list xs) | .unset => False) := h
      rw [hv] at h'
      exact load_var a hx (k := fun w => w = v) (by unfold atVal; rw [hv]) fun val v r e => k _ _ F v a.of.refl (.rel a.of.fin r) (e ▸ h')
    | own xs =>
      have h' : (match ρ.at i with | .val v => K v | .own xs => K (.list xs) | .unset => False) := h
      rw [hv] at h'
      exact load_own a hx hv fun b l => k _ _ F _ a.of.refl (.own l) h'
  sh := ⟨fun _ _ => rfl, fun _ => rfl, .inl fun _ _ => rfl, fun _ _ => rfl⟩
theorem s_glob {x : Str} {i : Nat} {pos} (cf : CfgOk c W C d) (hx : T.out x = true) (hi : c.consts.lookup x = some i) : SndE W C d T m (.Name x pos) (xGlob i) := all3 (fun env F ρ s A K Q a h k => let ⟨_, hv, r⟩ := cf.consts x i hi; load_glob a hx hv (k.same a.of (r.mono a.of.fb) h))
  ⟨fun _ _ => rfl, fun _ => rfl, .inl fun _ _ => rfl, fun _ _ => rfl⟩ fun _ _ => rfl
theorem s_bin {op f l r pos} {x y : XD} (hf : BinOk op f) (hl : SndE W C d T m l x) (hr : SndE W C d T m r y) : SndE W C d T m (.BinOp l op r pos) (xBin f x y) :=
  all3 (fun env F ρ s A K Q a h k => wpAny_BinOp (hl.v env F ρ s A _ _ a h fun v s₁ F₁ r₁ st₁ q₁ h₁ => hr.v env F₁ ρ s₁ A _ _ (a.step st₁) h₁ fun u s₂ F₂ r₂ st₂ q₂ h₂ =>
    hf W noX s₂ F₂ A v u r₁ r₂ K Q ((a.step st₁).of.step st₂) a.room.handled (q₁.mono st₂.le) q₂ h₂ ((k.after st₁).after st₂))) ⟨fun _ _ => rfl, fun _ => rfl, .inl fun _ _ => rfl, fun _ _ => rfl⟩ fun _ _ => rfl
theorem s_neg {x pos} {y : XD} (hx : SndE W C d T m x y) : SndE W C d T m (.UnaryOp .USub x pos) (xNeg y) :=
  all3 (fun env F ρ s A K Q a h k => wpAny_UnaryOp (hx.v env F ρ s A _ _ a h fun v s₁ F₁ r₁ st₁ q₁ h₁ => asInt_rel (G := fun v => wpAny (model W.prog W.w) A (unaryOp .USub v) Q noE s₁) h₁ q₁ fun i t h => PyProof.Rows.neg_int ((k.after st₁).tok (a.step st₁).of _ (.int _ _) h)))
    ⟨fun _ _ => rfl, fun _ => rfl, .inl fun _ _ => rfl, fun _ _ => rfl⟩ fun _ _ => rfl
theorem s_inv {x pos} {y : XD} (hx : SndE W C d T m x y) : SndE W C d T m (.UnaryOp .Invert x pos) (xInv y) :=
  all3 (fun env F ρ s A K Q a h k => wpAny_UnaryOp (hx.v env F ρ s A _ _ a h fun v s₁ F₁ r₁ st₁ q₁ h₁ => asInt_rel (G := fun v => wpAny (model W.prog W.w) A (unaryOp .Invert v) Q noE s₁) h₁ q₁ fun i t h => PyProof.Rows.invert_int ((k.after st₁).tok (a.step st₁).of _ (.int _ _) h)))
    ⟨fun _ _ => rfl, fun _ => rfl, .inl fun _ _ => rfl, fun _ _ => rfl⟩ fun _ _ => rfl
theorem two3 {e : Expr} {x : ED} {t : TD} (h : OkE W C d T m e x) (ht : OkT W C d T m e t) (sh : Shape e) : SndE W C d T m e ⟨x, t, x⟩ where
  v := h
  t := ht
  b := fun env F ρ s A K Q a q k => h env F ρ s A K Q a q fun v s' F' r st rr kk => k v s' F' r st (.rel st.fin rr) kk
  sh := sh
theorem s_not {x pos} {y : XD} (hx : SndE W C d T m x y) : SndE W C d T m (.UnaryOp .Not x pos) (xNot y) :=
  two3 (fun env F ρ s A K Q a h k => wpAny_UnaryOp (hx.v env F ρ s A _ _ a h fun v s₁ F₁ r₁ st₁ q₁ h₁ => not_of (truth_ok (a.step st₁).of q₁ h₁ fun b s₂ F₂ st₂ h₂ => (k.after st₁) _ _ F₂ _ st₂ (.bool _) h₂)))
    (fun env F ρ s A K Q a h k => isTrue_not (hx.t env F ρ s A _ _ a h fun b s₁ F₁ st₁ h₁ => k _ _ F₁ st₁ h₁)) ⟨fun _ _ => rfl, fun _ => rfl, .inl fun _ _ => rfl, fun _ _ => rfl⟩
theorem s_ite {t x y : Expr} {t' x' y' : XD} {pos} (ht : SndE W C d T m t t') (hx : SndE W C d T m x x') (hy : SndE W C d T m y y') : SndE W C d T m (.IfExp t x y pos) (xIte t' x' y') :=
  two3 (fun env F ρ s A K Q a h k => wpAny_IfExp (ht.t env F ρ s A _ _ a h fun b s₁ F₁ st₁ h₁ => match b, h₁ with
      | false, h₁ => hy.v env F₁ ρ s₁ A _ _ (a.step st₁) (h₁.f rfl) (k.after st₁)
      | true, h₁ => hx.v env F₁ ρ s₁ A _ _ (a.step st₁) (h₁.t rfl) (k.after st₁)))
    (fun env F ρ s A K Q a h k => by
      rw [arm_isTrue_IfExp]
      exact wpAny_bind (ht.t env F ρ s A _ _ a h fun b s₁ F₁ st₁ h₁ => match b, h₁ with
        | false, h₁ => hy.t env F₁ ρ s₁ A _ _ (a.step st₁) (h₁.f rfl) (k.after st₁)
        | true, h₁ => hx.t env F₁ ρ s₁ A _ _ (a.step st₁) (h₁.t rfl) (k.after st₁))) ⟨fun _ _ => rfl, fun _ => rfl, .inl fun _ _ => rfl, fun _ _ => rfl⟩
theorem s_cmp {l op f r pos} {x y : XD} (hf : CmpOk op f) (hl : SndE W C d T m l x) (hr : SndE W C d T m r y) : SndE W C d T m (.Compare l [op] [r] pos) (xBin f x y) :=
  two3 (fun env F ρ s A K Q a h k => wpAny_Compare1 (hl.v env F ρ s A _ _ a h fun v s₁ F₁ r₁ st₁ q₁ h₁ => hr.v env F₁ ρ s₁ A _ _ (a.step st₁) h₁ fun u s₂ F₂ r₂ st₂ q₂ h₂ =>
      hf W noX s₂ F₂ A d v u r₁ r₂ K Q ((a.step st₁).of.step st₂) a.room (q₁.mono st₂.le) q₂ h₂ ((k.after st₁).after st₂)) (hr.sh.marks _))
    (fun env F ρ s A K Q a h k => wpAny_isTrue_Compare1 (hl.v env F ρ s A _ _ a h fun v s₁ F₁ r₁ st₁ q₁ h₁ => hr.v env F₁ ρ s₁ A _ _ (a.step st₁) h₁ fun u s₂ F₂ r₂ st₂ q₂ h₂ =>
      hf W noX s₂ F₂ A d v u r₁ r₂ _ _ ((a.step st₁).of.step st₂) a.room (q₁.mono st₂.le) q₂ h₂ (tail_truth a.of (st₁.trans st₂) k)) (hr.sh.marks _)) ⟨fun _ _ => rfl, fun _ => rfl, .inl fun _ _ => rfl, fun _ _ => rfl⟩
theorem s_in {l op f r pos} {x y : XD} (hf : InOk op f) (hl : SndE W C d T m l x) (hr : SndE W C d T m r y) : SndE W C d T m (.Compare l [op] [r] pos) (xIn f x y) :=
  two3 (fun env F ρ s A K Q a h k => wpAny_Compare1 (hl.v env F ρ s A _ _ a h fun v s₁ F₁ r₁ st₁ q₁ h₁ => hr.b env F₁ ρ s₁ A _ _ (a.step st₁) h₁ fun u s₂ F₂ r₂ st₂ q₂ h₂ =>
      hf W noX s₂ F₂ A v u r₁ r₂ K Q ((a.step st₁).of.step st₂) (q₁.mono st₂.le) q₂ h₂ ((k.after st₁).after st₂)) (hr.sh.marks _))
    (fun env F ρ s A K Q a h k => wpAny_isTrue_Compare1 (hl.v env F ρ s A _ _ a h fun v s₁ F₁ r₁ st₁ q₁ h₁ => hr.b env F₁ ρ s₁ A _ _ (a.step st₁) h₁ fun u s₂ F₂ r₂ st₂ q₂ h₂ =>
      hf W noX s₂ F₂ A v u r₁ r₂ _ _ ((a.step st₁).of.step st₂) (q₁.mono st₂.le) q₂ h₂ (tail_truth a.of (st₁.trans st₂) k)) (hr.sh.marks _)) ⟨fun _ _ => rfl, fun _ => rfl, .inl fun _ _ => rfl, fun _ _ => rfl⟩
end
end Mine
namespace Mine
open PySem PySem.W PySem.W.X PyProof.Rows PySem.Calls
section
variable {W : Wd} {C : Cx} {d : Nat} {T : Tab} {m : Nat} {env : Env} {F F' : Frz} {ρ : Rho} {s s' : Shared} {A : Around} {c : Cfg} {Q : Value → Shared → Prop} {K : V → Prop}
structure SndBool (W : Wd) (C : Cx) (d : Nat) (T : Tab) (m : Nat) (op : BoolOp) (vs : List Expr) (x : XD) : Prop where
  v : ∀ (pos : Pos) (env : Env) (F : Frz) (ρ : Rho) (s : Shared) (A : Around) (K : V → Prop) (Q : Value → Shared → Prop), At W d env T m F ρ s A → x.E C ρ K → Kn W noX s F K Q → wpAny (model W.prog W.w) A (boolOp pos op (evalEach vs env)) Q noE s
  t : ∀ (env : Env) (F : Frz) (ρ : Rho) (s : Shared) (A : Around) (K : Bool → Prop) (Q : Bool → Shared → Prop), At W d env T m F ρ s A → x.T C ρ K → KnB W noX s F K Q → wpAny (model W.prog W.w) A (allTrue op vs env) Q noE s
theorem sb_one {op : BoolOp} {v : Expr} {x : XD} (h : SndE W C d T m v x) : SndBool W C d T m op [v] x where
  v := fun pos => h.v
  t := fun env F ρ s A K Q a q k => by
    rw [arm_allTrue_cons]
    refine wpAny_bind (h.t env F ρ s A K _ a q fun b s₁ F₁ st kk => ?_)
    cases op <;> cases b <;> exact wpAny_pure (k _ _ F₁ st kk)
theorem sb_and {v w : Expr} {ws : List Expr} {x y : XD} (h : SndE W C d T m v x) (hr : SndBool W C d T m .And (w :: ws) y) : SndBool W C d T m .And (v :: w :: ws) (xAnd x y) where
  v := fun pos env F ρ s A K Q a q k => wpAny_bind (h.v env F ρ s A _ _ a q fun u s₁ F₁ r₁ st₁ q₁ h₁ => wpAny_bind (wpAny_standAt (wpAny_bind (wpAny_holding (truth_ok (a.step st₁).of q₁ h₁ fun b s₂ F₂ st₂ h₂ => match b, h₂ with
    | false, h₂ => wpAny_pure (k _ _ F₂ _ (st₁.trans st₂) (q₁.mono st₂.le) (h₂.f rfl))
    | true, h₂ => hr.v pos env F₂ ρ s₂ A K Q ((a.step st₁).step st₂) (h₂.t rfl) ((k.after st₁).after st₂))))))
  t := fun env F ρ s A K Q a q k => by
    rw [arm_allTrue_cons]
    exact wpAny_bind (h.t env F ρ s A _ _ a q fun b s₁ F₁ st₁ h₁ => match b, h₁ with
      | false, h₁ => wpAny_pure (k _ _ F₁ st₁ (h₁.f rfl))
      | true, h₁ => hr.t env F₁ ρ s₁ A K Q (a.step st₁) (h₁.t rfl) (k.after st₁))
theorem sb_or {v w : Expr} {ws : List Expr} {x y : XD} (h : SndE W C d T m v x) (hr : SndBool W C d T m .Or (w :: ws) y) : SndBool W C d T m .Or (v :: w :: ws) (xOr x y) where
  v := fun pos env F ρ s A K Q a q k => wpAny_bind (h.v env F ρ s A _ _ a q fun u s₁ F₁ r₁ st₁ q₁ h₁ => wpAny_bind (wpAny_standAt (wpAny_bind (wpAny_holding (truth_ok (a.step st₁).of q₁ h₁ fun b s₂ F₂ st₂ h₂ => match b, h₂ with
    | true, h₂ => wpAny_pure (k _ _ F₂ _ (st₁.trans st₂) (q₁.mono st₂.le) (h₂.t rfl))
    | false, h₂ => hr.v pos env F₂ ρ s₂ A K Q ((a.step st₁).step st₂) (h₂.f rfl) ((k.after st₁).after st₂))))))
  t := fun env F ρ s A K Q a q k => by
    rw [arm_allTrue_cons]
    exact wpAny_bind (h.t env F ρ s A _ _ a q fun b s₁ F₁ st₁ h₁ => match b, h₁ with
      | true, h₁ => wpAny_pure (k _ _ F₁ st₁ (h₁.t rfl))
      | false, h₁ => hr.t env F₁ ρ s₁ A K Q (a.step st₁) (h₁.f rfl) (k.after st₁))
theorem s_boo {op : BoolOp} {vs : List Expr} {x : XD} {pos : Pos} (h : SndBool W C d T m op vs x) : SndE W C d T m (.BoolOp op vs pos) ⟨x.E, x.T, x.E⟩ :=
  two3 (fun env F ρ s A K Q a q k => by rw [arm_eval_BoolOp]; exact h.v pos env F ρ s A K Q a q k) (fun env F ρ s A K Q a q k => by rw [arm_isTrue_BoolOp]; exact h.t env F ρ s A K Q a q k) ⟨fun _ _ => rfl, fun _ => rfl, .inl fun _ _ => rfl, fun _ _ => rfl⟩
theorem tests_false {prog : Program} {w : World} {Q : Bool → Shared → Prop} {E : Value → Shared → Prop} (h : Q false s) : ∀ ifs : List Expr, wpAny (model prog w) A (forIn ifs false fun c r => if r = true then do let ok ← isTrue c env (eval c env); pure (ForInStep.yield ok) else pure (ForInStep.yield r)) Q E s
  | [] => wpAny_pure h
  | c :: r => by
    rw [List.forIn_cons]
    exact wpAny_bind (wpAny_pure (tests_false h r))
theorem tests_cons {prog : Program} {w : World} {c : Expr} {r : List Expr} {Q : Bool → Shared → Prop} {E : Value → Shared → Prop} (h : wpAny (model prog w) A (isTrue c env (eval c env)) (fun b s₁ => Br b (wpAny (model prog w) A (testsOf r env) Q E s₁) (Q false s₁)) E s) : wpAny (model prog w) A (testsOf (c :: r) env) Q E s := by
  unfold testsOf
  rw [List.forIn_cons, if_pos rfl]
  exact wpAny_bind (wpAny_bind (wpAny_mono h (fun b s₁ h₁ => match b, h₁ with
    | true, h₁ => wpAny_pure (h₁.t rfl)
    | false, h₁ => wpAny_pure (tests_false (h₁.f rfl) r)) fun _ _ e => e))
theorem l_nil : SndL W C d T m [] [] where
  l := fun env pos F ρ s A K Q a h k => spliced_nil (k _ _ F _ a.of.refl .nil h)
  lb := fun env pos F ρ s A K Q a h k => spliced_nil (k _ _ F [] a.of.refl (show RelL W F [] [] from .nil) h)
  ts := fun env F ρ s A K Q a h k => wpAny_pure (k _ _ F a.of.refl h)
  st := trivial
  ln := rfl
theorem l_cons {e : Expr} {r : List Expr} {x : XD} {xs : List XD} (he : SndE W C d T m e x) (hr : SndL W C d T m r xs) : SndL W C d T m (e :: r) (x :: xs) :=
  have hl : OkL W C d T m (e :: r) fun C => wpL C (x :: xs) := fun env pos F ρ s A K Q a h k => by
    rw [he.sh.star]
    exact spliced_cons (he.v env F ρ s A _ _ a h fun v s₁ F₁ r₁ st₁ q₁ h₁ => hr.l env pos F₁ ρ s₁ A _ _ (a.step st₁) h₁ fun vs s₂ F₂ rs st₂ q₂ h₂ => k _ _ F₂ _ (st₁.trans st₂) (.cons (q₁.mono st₂.le) q₂) h₂)
  { l := hl
    lb := fun env pos F ρ s A K Q a h k => match r, xs, hr, h, hl with
      | [], [], hr, h, _ => by
        rw [he.sh.star]
        exact spliced_cons (he.b env F ρ s A _ _ a h fun v s₁ F₁ r₁ st₁ q₁ h₁ => spliced_nil (k _ _ F₁ [r₁] st₁ ⟨v, rfl, q₁⟩ h₁))
      | _ :: _, _ :: _, hr, h, hl => hl env pos F ρ s A K Q a h fun vs s₁ F₁ rs st₁ q₁ h₁ => k _ _ F₁ _ st₁ (.rel st₁.fin q₁) h₁
      | [], _ :: _, hr, _, _ => nomatch hr.ln
      | _ :: _, [], hr, _, _ => nomatch hr.ln
    ts := fun env F ρ s A K Q a h k => tests_cons (he.t env F ρ s A _ _ a h fun b s₁ F₁ st₁ h₁ => ⟨fun q => hr.ts env F₁ ρ s₁ A _ _ (a.step st₁) (h₁.t q) (k.after st₁), fun q => k _ _ F₁ st₁ (h₁.f q)⟩)
    st := ⟨fun env => he.sh.star r env, hr.st⟩
    ln := congrArg Nat.succ hr.ln }
theorem s_list {es : List Expr} {xs : List XD} {pos : Pos} (h : SndL W C d T m es xs) : SndE W C d T m (.List es pos) (xList xs) :=
  all3 (fun env F ρ s A K Q a q k => by
    rw [arm_eval_List]
    exact wpAny_bind (wpAny_standAt (wpAny_bind (h.l env pos F ρ s A _ _ a q fun vs s₁ F₁ rs st₁ q₁ h₁ => wpAny_newList ((k.after st₁).push (a.of.step st₁) q₁ h₁.2) (by rw [q₁.length]; exact Nat.le_trans h₁.1.h strMax_le)))))
    ⟨fun _ _ => rfl, fun _ => rfl, .inl fun _ _ => rfl, fun _ _ => rfl⟩ fun _ _ => rfl
theorem s_tup {es : List Expr} {xs : List XD} {i} {pos : Pos} (h : SndL W C d T m es xs) : SndE W C d T m (.Tuple es i pos) (xTup xs) :=
  all3 (fun env F ρ s A K Q a q k => by
    rw [arm_eval_Tuple]
    exact wpAny_bind (wpAny_standAt (wpAny_bind (h.l env pos F ρ s A _ _ a q fun vs s₁ F₁ rs st₁ q₁ h₁ => wpAny_newTuple ((k.after st₁).pushT (a.of.step st₁) q₁ h₁.2) (by rw [q₁.length]; exact Nat.le_trans h₁.1.h strMax_le)))))
    ⟨fun _ _ => rfl, fun _ => rfl, .inl fun _ _ => rfl, fun _ _ => rfl⟩ fun _ _ => rfl
theorem RelB.stays {v : Value} {x : V} (ti : W.ti s.heap) (h : RelB W F s.heap v x) (st : Step W noX s F s' F') : RelB W F' s'.heap v x := by
  cases x <;> first | exact Rel.mono st.le h | skip
  obtain ⟨a, e, ⟨items, n, q, r⟩⟩ := h
  exact ⟨a, e, ⟨items, n, st.keep _ _ (list_no_tab ti q) (fun h => h) q, r.mono st.le⟩⟩
theorem s_item {a i : Expr} {x y : XD} {pos : Pos} (ha : SndE W C d T m a x) (hi : SndE W C d T m i y) : SndE W C d T m (.Subscript a i pos) (xItem x y) :=
  all3 (fun env F ρ s A K Q a h k => sub_arm hi.sh.sub (ha.b env F ρ s A _ _ a h fun v s₁ F₁ r₁ st₁ q₁ h₁ => hi.v env F₁ ρ s₁ A _ _ (a.step st₁) h₁ fun u s₂ F₂ r₂ st₂ q₂ h₂ =>
    item_ok ((a.step st₁).of.step st₂) (q₁.stays (a.step st₁).of.ok.ti st₂) q₂ h₂ ((k.after st₁).after st₂)))
    ⟨fun _ _ => rfl, fun _ => rfl, .inl fun _ _ => rfl, fun _ _ => rfl⟩ fun _ _ => rfl
noncomputable def OkO (W : Wd) (C : Cx) (d : Nat) (T : Tab) (m : Nat) (e : Option Expr) (x : XD) : Prop := ∀ (env : Env) (F : Frz) (ρ : Rho) (s : Shared) (A : Around) (K : V → Prop) (Q : Value → Shared → Prop), At W d env T m F ρ s A → x.E C ρ K → Kn W noX s F K Q → wpAny (model W.prog W.w) A (evalPart e env) Q noE s
theorem o_none : OkO W C d T m none xNone := fun env F ρ s A K Q a h k => by
  rw [evalPart_none]; exact wpAny_pure (k.same a.of .none h)
theorem o_some {e : Expr} {x : XD} (h : SndE W C d T m e x) : OkO W C d T m (some e) x := fun env F ρ s A K Q a q k => by
  rw [evalPart_some]; exact h.v env F ρ s A K Q a q k
theorem s_slice {a : Expr} {lo hi : Option Expr} {x l h : XD} {p pos : Pos} (ha : SndE W C d T m a x) (hl : OkO W C d T m lo l) (hh : OkO W C d T m hi h) : SndE W C d T m (.Subscript a (.Slice lo hi none p) pos) (xSlice x l h) :=
  all3 (fun env F ρ s A K Q a q k => sub_arm (.inr fun _ _ => rfl) (ha.v env F ρ s A _ _ a q fun v s₁ F₁ r₁ st₁ q₁ h₁ => wpAny_Slice (hl env F₁ ρ s₁ A _ _ (a.step st₁) h₁ fun vl s₂ F₂ r₂ st₂ q₂ h₂ =>
    hh env F₂ ρ s₂ A _ _ ((a.step st₁).step st₂) h₂ fun vu s₃ F₃ r₃ st₃ q₃ h₃ => by
      rw [evalPart_none]
      exact wpAny_pure (slice_ok (((a.step st₁).step st₂).of.step st₃) (q₁.mono (st₂.trans st₃).le) (q₂.mono st₃.le) q₃ h₃ (((k.after st₁).after st₂).after st₃)))))
    ⟨fun _ _ => rfl, fun _ => rfl, .inl fun _ _ => rfl, fun _ _ => rfl⟩ fun _ _ => rfl
theorem s_ditem {g : Str} {i : Nat} {e : Expr} {y : XD} {np pos : Pos} (cf : CfgOk c W C d) (hx : T.out g = true) (hk : c.dicts.lookup g = some i) (he : SndE W C d T m e y) : SndE W C d T m (.Subscript (.Name g np) e pos) (xDitem i y) :=
  all3 (fun env F ρ s A K Q a h k => by
    obtain ⟨b, hv, hd⟩ := cf.dicts g i hk
    refine sub_arm he.sh.sub (load_glob a hx hv (he.v env F ρ s A _ _ a h fun u s₁ F₁ r₁ st₁ q₁ h₁ => ?_))
    exact asStr_rel (G := fun u => SubOk W A (.ref b) u Q s₁) h₁ q₁ fun x t ⟨j, hj, hk'⟩ => hd A s₁ F₁ K Q t x j (a.step st₁).of hj hk' (k.after st₁))
    ⟨fun _ _ => rfl, fun _ => rfl, .inl fun _ _ => rfl, fun _ _ => rfl⟩ fun _ _ => rfl
theorem star_any {pos : Pos} : ∀ {es : List Expr}, StarL es → (backTo pos (starEach es env)).any (·.1) = false ∧ (backTo pos (starEach es env)).all (fun x => !x.1) = true
  | [], _ => ⟨rfl, rfl⟩
  | e :: r, ⟨h, hr⟩ => by rw [h]; exact star_any hr
theorem few_of {es : List Expr} {pos : Pos} (h : StarL es) (hl : es.length < 8) :
    ((backTo pos (starEach es env)).all (fun x => !x.1) && (backToKw pos (keywordEach [] env)).all (fun x => x.1.isSome)
      && decide (es.length + ([] : List Keyword).length + (if ([] : List Keyword).isEmpty then 0 else 1) < 30)) = true := by
  rw [(star_any h).2]
  exact Bool.and_eq_true_iff.mpr ⟨rfl, decide_eq_true (show es.length + 0 + 0 < 30 by lia)⟩
theorem evalArgs_any {f : Value} {es : List Expr} {pos : Pos} {Q : Args → Shared → Prop} {prog : Program} {w : World} (hp : StarL es)
    (h : wpAny (model prog w) A (spliced (backTo pos (starEach es env))) (fun vs s' => Q ⟨vs, []⟩ s') noE s) : wpAny (model prog w) A (evalArgs f true (backTo pos (starEach es env)) []) Q noE s := by
  cases es with
  | nil =>
    unfold evalArgs
    show wpAny (model prog w) A (spliced [] >>= _) Q noE s
    exact wpAny_bind (wpAny_mono h (fun vs s' h' => wpAny_bind (wpAny_pure (wpAny_holding (wpAny_bind (wpAny_pure (wpAny_bind (wpAny_pure (wpAny_pure h')))))))) fun _ _ e => e)
  | cons e r =>
    rw [hp.1] at h ⊢
    exact PySem.Calls.evalArgs_plain h
theorem fn_arm {g : Str} {P : Addr → Prop} {es : List Expr} {xs : List XD} {np pos : Pos} {K : List V → Prop} (a : At W d env T m F ρ s A) (hx : T.out g = true) (hf : FnAt W g P) (hl : SndL W C d T m es xs) (h : wpL C xs ρ K)
    (q : ∀ b, P b → ∀ vs s₁ F₁ rs, Step W noX s F s₁ F₁ → RelL W F₁ vs rs → K rs → wpAny (model W.prog W.w) A (call (.ref b) vs) Q noE s₁) : wpAny (model W.prog W.w) A (eval (.Call (.Name g np) es [] pos) env) Q noE s := by
  obtain ⟨b, o, fd, hv, hb, hd, hc⟩ := hf
  exact Call_ (load_glob a hx hv (callWith_function (o := o) (fd := fd) (evalArgs_any hl.st (hl.l env pos F ρ s A _ _ a h fun vs s₁ F₁ rs st₁ q₁ h₁ => ⟨⟨(a.step st₁).of.ok.base.is _ _ hb, hd⟩, q b hc vs s₁ F₁ rs st₁ q₁ h₁⟩)))) rfl
theorem s_call {g : Str} {i : Nat} {es : List Expr} {xs : List XD} {np pos : Pos} (cf : CfgOk c W C d) (hx : T.out g = true) (hi : c.fns.lookup g = some i) (hl : SndL W C d T m es xs) : SndE W C d T m (.Call (.Name g np) es [] pos) (xCall i xs) :=
  all3 (fun env F ρ s A K Q a h k => fn_arm a hx (cf.fns g i hi) hl h fun b hc vs s₁ F₁ rs st₁ q₁ h₁ => hc A s₁ F₁ vs rs K Q a.room (a.step st₁).of q₁ h₁ (k.after st₁))
    ⟨fun _ _ => rfl, fun _ => rfl, .inl fun _ _ => rfl, fun _ _ => rfl⟩ fun _ _ => rfl
theorem s_callv {g : Str} {i : Nat} {es : List Expr} {xs : List XD} {np pos : Pos} (cf : CfgOk c W C d) (hx : T.at g = some i) (hl : SndL W C d T m es xs) : SndE W C d T m (.Call (.Name g np) es [] pos) (xCallv i xs) :=
  all3 (fun env F ρ s A K Q a h k => by
    refine Call_ (wpAny_Name (load_var a hx h fun val v r h => ?_) (at_name hx).2.1) rfl
    cases v <;> first | exact h.elim | skip
    obtain ⟨b, rfl, hfo⟩ := r
    obtain ⟨o, fd, hb, hd⟩ := cf.cloF _ _ _ _ hfo
    exact callWith_function (o := o) (fd := fd) (evalArgs_any hl.st (hl.l env pos F ρ s A _ _ a h fun vs s₁ F₁ rs st₁ q₁ h₁ => ⟨⟨(a.step st₁).of.fin.is _ _ (st₁.le _ _ hb), hd⟩, cf.clo _ _ _ _ hfo A s₁ F₁ vs rs K Q st₁.le a.room (a.step st₁).of q₁ h₁ (k.after st₁)⟩)))
    ⟨fun _ _ => rfl, fun _ => rfl, .inl fun _ _ => rfl, fun _ _ => rfl⟩ fun _ _ => rfl
theorem s_bi {id : String} {f : List V → VK} {es : List Expr} {xs : List XD} {np pos : Pos} (cf : CfgOk c W C d) (hx : T.out (Str.ofString id) = true) (hn : id ∈ biNames) (hf : BiOk id f) (hl : SndL W C d T m es xs) : SndE W C d T m (.Call (.Name (Str.ofString id) np) es [] pos) (xBi f xs) :=
  all3 (fun env F ρ s A K Q a h k => Call_ (load_built a hx (cf.bi id hn) (callWith_builtin (star_any hl.st).1 (evalArgs_any hl.st (hl.lb env pos F ρ s A _ _ a h fun vs s₁ F₁ rs st₁ q₁ h₁ => hf W noX s₁ F₁ A d vs rs K Q (a.step st₁).of a.room q₁ h₁ (k.after st₁))))) rfl)
    ⟨fun _ _ => rfl, fun _ => rfl, .inl fun _ _ => rfl, fun _ _ => rfl⟩ fun _ _ => rfl
noncomputable def RecvE (o : Expr) : Prop := ∀ name env, attributeBase o name env (eval o env) = eval o env
noncomputable def recvV (o : Expr) : Rs (fun _ : Unit => RecvE o) := onE o none (name := fun x p h => some ⟨(), fun _ _ => h ▸ rfl⟩) (const := fun x i p h => some ⟨(), fun _ _ => h ▸ rfl⟩)
theorem method_arm {o : Expr} {name : Str} {apos pos : Pos} {es : List Expr} {xs : List XD} {x : XD} {K : V → Prop} {K' : V → List V → Prop} (a : At W d env T m F ρ s A) (ho : RecvE o) (hl : (apos.endLine == pos.line) = true) (hn : es.length < 8) (hr : SndE W C d T m o x) (ha : SndL W C d T m es xs)
    (h : x.E C ρ fun r => K r ∧ wpL C xs ρ (K' r)) (hm : ∀ ov s₁ F₁ r, OF W F₁ s₁ → Rel W F₁ ov r → K r → ∃ T id, RecvIs s₁ ov name T id ∧ ∀ s₂ F₂ vs rs, Step W noX s F s₂ F₂ → Rel W F₂ ov r → RelL W F₂ vs rs → K' r rs → wpAny (model W.prog W.w) A (call (.builtin id) (ov :: vs)) Q noE s₂) :
    wpAny (model W.prog W.w) A (eval (.Call (.Attribute o name apos) es [] pos) env) Q noE s := by
  refine wpAny_Call_method_lateS (ho name env) (few_of ha.st hn) hl (hr.v env F ρ s A _ _ a h fun ov s₁ F₁ r₁ st₁ q₁ h₁ => ?_)
  obtain ⟨Ty, id, c, run⟩ := hm ov s₁ F₁ r₁ (a.step st₁).of q₁ h₁.1
  exact ⟨Ty, id, c.pa, c.sl, c.ty, c.is, c.dict, callWith_builtin (star_any ha.st).1 (evalArgs_any ha.st (ha.l env pos F₁ ρ s₁ A _ _ (a.step st₁) h₁.2 fun vs s₂ F₂ rs st₂ q₂ h₂ => run s₂ F₂ vs rs (st₁.trans st₂) (q₁.mono st₂.le) q₂ h₂))⟩
theorem s_meth {o : Expr} {x : XD} {name : Str} {me : Mth} {apos pos : Pos} {es : List Expr} {xs : List XD} (hme : MthOk name me) (ho : RecvE o) (hl : (apos.endLine == pos.line) = true) (hn : es.length < 8)
    (hr : SndE W C d T m o x) (ha : SndL W C d T m es xs) : SndE W C d T m (.Call (.Attribute o name apos) es [] pos) (xMeth me x xs) :=
  all3 (fun env F ρ s A K Q a h k => method_arm (K := fun r => Side (me.rc r = true)) (K' := fun r vs => me.wp r vs K) a ho hl hn hr ha h fun ov s₁ F₁ r of q hok => by
    obtain ⟨T, id, c, run⟩ := hme W s₁ F₁ ov r of q hok.h
    exact ⟨T, id, c, fun s₂ F₂ vs rs st q₂ ql h₂ => run W noX s₂ F₂ A vs rs K Q (a.of.step st) q₂ ql a.room.handled h₂ (k.after st)⟩)
    ⟨fun _ _ => rfl, fun _ => rfl, .inl fun _ _ => rfl, fun _ _ => rfl⟩ fun _ _ => rfl
end
end Mine
namespace Mine
open PySem PySem.W PySem.W.X PyProof.Rows PySem.Calls
structure SndI (W : Wd) (C : Cx) (d : Nat) (T : Tab) (m : Nat) (tp : Bool) (e : Expr) (x : LD) : Prop where
  i : ∀ (target : Expr) (env : Env) (F : Frz) (ρ : Rho) (s : Shared) (A : Around) (K : List V → Prop) (Q : Value → Shared → Prop), At W d env T m F ρ s A → (tp = true → IsTupE target) → x C ρ K → KS W A target s F K Q →
    wpAny (model W.prog W.w) A (eval e env) (fun xv s₁ => wpAny (model W.prog W.w) A (pyIter xv) Q noE s₁) noE s
  fold : ∀ env x, foldedSetIterable e env x = pure x
section
variable {W : Wd} {C : Cx} {d : Nat} {T : Tab} {m : Nat} {env : Env} {F F' : Frz} {ρ : Rho} {s s' : Shared} {A : Around} {c : Cfg} {Q : Value → Shared → Prop} {K : V → Prop}
theorem i_val {e : Expr} {x : XD} (h : SndE W C d T m e x) : SndI W C d T m false e (iVal x) where
  i := fun target env F ρ s A K Q a _ q k => h.v env F ρ s A _ _ a q fun v s₁ F₁ r₁ st₁ q₁ h₁ => src_items (a.step st₁).of a.room q₁ h₁ (k.after st₁)
  fold := h.sh.fold
theorem type_arm {g : String} {es : List Expr} {xs : List XD} {np pos : Pos} {K : List V → Prop} (cf : CfgOk c W C d) (a : At W d env T m F ρ s A) (hx : T.out (Str.ofString g) = true) (hg : g ∈ ["range", "zip", "reversed", "list"]) (hl : SndL W C d T m es xs)
    (h : wpL C xs ρ K) (q : ∀ vs s₁ F₁ rs, Step W noX s F s₁ F₁ → RelL W F₁ vs rs → K rs → wpAny (model W.prog W.w) A (call (.type g) vs) Q noE s₁) : wpAny (model W.prog W.w) A (eval (.Call (.Name (Str.ofString g) np) es [] pos) env) Q noE s :=
  Call_ (load_built a hx (cf.ty g hg) (PySem.callWith_type (star_any hl.st).1 (evalArgs_any hl.st (hl.l env pos F ρ s A _ _ a h fun vs s₁ F₁ rs st₁ q₁ h₁ => q vs s₁ F₁ rs st₁ q₁ h₁)))) rfl
theorem i_range {es : List Expr} {xs : List XD} {np pos : Pos} (cf : CfgOk c W C d) (hx : T.out (Str.ofString "range") = true) (hl : SndL W C d T m es xs) : SndI W C d T m false (.Call (.Name (Str.ofString "range") np) es [] pos) (iRange xs) where
  i := fun target env F ρ s A K Q a _ q k => type_arm cf a hx (by decide) hl q fun vs s₁ F₁ rs st₁ q₁ h₁ => range_call (a.of.step st₁) q₁ h₁ fun r a' b c t u v n ys s₂ R hk => src_range (a.of.step st₁) a.room R hk (k.after st₁)
  fold := fun _ _ => rfl
theorem i_rev {e : Expr} {x : XD} {np pos : Pos} (cf : CfgOk c W C d) (hx : T.out (Str.ofString "reversed") = true) (h : SndE W C d T m e x) : SndI W C d T m false (.Call (.Name (Str.ofString "reversed") np) [e] [] pos) (iRev x) where
  i := fun target env F ρ s A K Q a _ q k => type_arm cf a hx (by decide) (l_cons h l_nil) (K := fun vs => one vs fun v => asList v fun xs => Side (xs.length ≤ strMax) ∧ K xs.reverse) q fun vs s₁ F₁ rs st₁ q₁ h₁ =>
    one_rel (G := fun vs => wpAny (model W.prog W.w) A (call (.type "reversed") vs) (fun xv s₁ => wpAny (model W.prog W.w) A (pyIter xv) Q noE s₁) noE s₁) h₁ q₁ fun v y r h₁ => by
      cases y <;> first | exact h₁.elim | skip
      exact src_rev (a.of.step st₁) a.room r h₁.2 (k.after st₁)
  fold := fun _ _ => rfl
theorem i_zip {e e' : Expr} {x x' : XD} {np pos : Pos} (cf : CfgOk c W C d) (hz : c.zips = true) (hx : T.out (Str.ofString "zip") = true) (h : SndE W C d T m e x) (h' : SndE W C d T m e' x') : SndI W C d T m true (.Call (.Name (Str.ofString "zip") np) [e, e'] [] pos) (iZip x x') where
  i := fun target env F ρ s A K Q a ht q k => type_arm cf a hx (by decide) (l_cons h (l_cons h' l_nil)) (K := fun vs => two vs fun x y => asList x fun xs => asStr y fun s => K ((xs.zip s).map fun (p : V × Nat) => V.tup [p.1, .str [p.2]])) q fun vs s₁ F₁ rs st₁ q₁ h₁ =>
    two_rel (G := fun vs => wpAny (model W.prog W.w) A (call (.type "zip") vs) (fun xv s₁ => wpAny (model W.prog W.w) A (pyIter xv) Q noE s₁) noE s₁) h₁ q₁ fun v u y z r r' h₁ => by
      cases y <;> first | exact h₁.elim | skip
      cases z <;> first | exact h₁.elim | skip
      exact cf.zip hz A target s₁ F₁ v u _ _ K Q a.room (a.of.step st₁) (ht rfl) r r' h₁ (k.after st₁)
  fold := fun _ _ => rfl
theorem i_gen {g : Str} {i : Nat} {e : Expr} {x : XD} {np pos : Pos} (cf : CfgOk c W C d) (hx : T.out g = true) (hi : c.gens.lookup g = some i) (h : SndE W C d T m e x) : SndI W C d T m false (.Call (.Name g np) [e] [] pos) (iGen i x) where
  i := fun target env F ρ s A K Q a _ q k => fn_arm a hx (cf.gens g i hi) (l_cons h l_nil) (K := fun vs => C.gen i vs K) q fun b hc vs s₁ F₁ rs st₁ q₁ h₁ => (hc A s₁ F₁ vs rs K a.room (a.of.step st₁) q₁ h₁).1 target Q (k.after st₁)
  fold := fun _ _ => rfl
theorem range_rel {a c : Int} {xs : List Int} : ∀ {i : Nat} {vs : List Value}, vs.length = xs.length → (∀ (j : Nat) (x : Int), xs[j]? = some x → x = a + ((i + j : Nat) : Int) * c) → (∀ j v, vs[j]? = some v → ∃ t, v = Value.int (a + ((i + j : Nat) : Int) * c) t) → RelL W F vs (xs.map V.int) := by
  induction xs with
  | nil => intro i vs hl hx hv; obtain rfl := List.eq_nil_of_length_eq_zero hl; exact .nil
  | cons x xs ih =>
    intro i vs hl hx hv
    cases vs with
    | nil => cases hl
    | cons v vs =>
      obtain ⟨t, rfl⟩ := hv 0 v rfl
      refine .cons (hx 0 x rfl ▸ .int _ _) (ih (i := i + 1) (Nat.succ.inj hl) (fun j y e => ?_) fun j y e => ?_)
      · rw [Nat.add_assoc, Nat.add_comm 1 j]; exact hx (j + 1) y e
      · rw [Nat.add_assoc, Nat.add_comm 1 j]; exact hv (j + 1) y e
theorem list_arm {e : Expr} {np pos : Pos} (cf : CfgOk c W C d) (a : At W d env T m F ρ s A) (hx : T.out (Str.ofString "list") = true) (hp : ∀ r env, starEach (e :: r) env = (false, eval e env) :: starEach r env)
    (h : wpAny (model W.prog W.w) A (eval e env) (fun xv s₁ => wpAny (model W.prog W.w) A (call (.type "list") [xv]) Q noE s₁) noE s) : wpAny (model W.prog W.w) A (eval (.Call (.Name (Str.ofString "list") np) [e] [] pos) env) Q noE s :=
  have hs : StarL [e] := ⟨fun env => hp [] env, trivial⟩
  Call_ (load_built a hx (cf.ty "list" (by decide)) (PySem.callWith_type (star_any hs).1 (evalArgs_any hs (by rw [hp]; exact spliced_cons (wpAny_mono h (fun v s₁ z => spliced_nil z) fun _ _ e => e))))) rfl
theorem s_list_range {es : List Expr} {xs : List XD} {np np' pos pos' : Pos} (cf : CfgOk c W C d) (hl : T.out (Str.ofString "list") = true) (hx : T.out (Str.ofString "range") = true) (h : SndL W C d T m es xs) :
    SndE W C d T m (.Call (.Name (Str.ofString "list") np') [.Call (.Name (Str.ofString "range") np) es [] pos] [] pos') (xToList (iRange xs)) :=
  all3 (fun env F ρ s A K Q a q k => list_arm cf a hl (fun _ _ => rfl) (type_arm cf a hx (by decide) h q fun vs s₁ F₁ rs st₁ q₁ h₁ => range_call (a.of.step st₁) q₁ h₁ fun r b e c t u v n ys s₂ R ⟨⟨hk1⟩, hk⟩ => by
    have o₂ := (a.of.step st₁).step R.step
    have k₂ := (k.after st₁).after R.step
    have hm : strMax = 16000000 := rfl
    rw [List.length_map, R.len] at hk1
    refine call_list_range (n := n) a.room.handled R.obj R.small R.size (by lia) fun h' tk acc' c' hkeep hS hi => ?_
    have st₃ : Step W noX s₂ F₁ { s₂ with heap := h', toks := tk } F₁ := Step.kept o₂.ok o₂.fin h' tk hkeep
    have hFn : F₁ s₂.heap.objs.size = none := none_of_not fun ob q => Nat.lt_irrefl _ (Heap.lt_size (o₂.fin.is _ _ q))
    have st₄ := st₃.know (o := listObj acc'.toList c') hS (get_size_none _) hFn fun q => Nat.lt_irrefl _ (o₂.ok.tabLt q)
    refine k₂ _ _ _ _ st₄ (.list (Frz.put_self ..) (range_rel (a := b) (c := c) (i := 0) (by rw [Array.length_toList, hi.1, R.len]) (fun j x e => ?_) fun j v e => ?_)) hk
    · rw [Nat.zero_add]; exact R.at' j x e
    · rw [Nat.zero_add]; exact hi.2 j v (by simpa using e)))
    ⟨fun _ _ => rfl, fun _ => rfl, .inl fun _ _ => rfl, fun _ _ => rfl⟩ fun _ _ => rfl
theorem s_list_gen {g : Str} {i : Nat} {e : Expr} {x : XD} {np np' pos pos' : Pos} (cf : CfgOk c W C d) (hlg : c.lgen = true) (hl : T.out (Str.ofString "list") = true) (hx : T.out g = true) (hi : c.gens.lookup g = some i) (h : SndE W C d T m e x) :
    SndE W C d T m (.Call (.Name (Str.ofString "list") np') [.Call (.Name g np) [e] [] pos] [] pos') (xToList (iGen i x)) :=
  all3 (fun env F ρ s A K Q a q k => list_arm cf a hl (fun _ _ => rfl) (fn_arm a hx (cf.gens g i hi) (l_cons h l_nil) (K := fun vs => C.gen i vs fun xs => Side (xs.length ≤ strMax) ∧ K (.list xs)) q fun b hc vs s₁ F₁ rs st₁ q₁ h₁ =>
    (hc A s₁ F₁ vs rs _ a.room (a.of.step st₁) q₁ h₁).2 hlg Q fun v s' F' r st rr ⟨xs, e, _, hk⟩ => (k.after st₁) v s' F' r st rr (e ▸ hk)))
    ⟨fun _ _ => rfl, fun _ => rfl, .inl fun _ _ => rfl, fun _ _ => rfl⟩ fun _ _ => rfl
end
end Mine
namespace Mine
open PySem PySem.W PySem.W.X PyProof.Rows PySem.Calls
structure Run (G : Frz) (s : Shared) (F : Frz) (s' : Shared) (F' : Frz) : Prop where
  le : FLe F F'
  new : ∀ a o, F' a = some o → F a = some o ∨ G a = none
  os : s'.os = s.os
  gens : ∀ (i : Nat) (g : GenState), s.gens[i]? = some g → s'.gens[i]? = some g
  bare : AllBare s.gens → AllBare s'.gens
theorem at_get : ∀ (ρ : Rho) (i : Nat), ρ.at i = (ρ[i]?).getD .unset
  | [], _ => rfl
  | _ :: _, 0 => rfl
  | _ :: r, n + 1 => at_get r n
section
variable {W : Wd} {d : Nat} {env : Env} {T : Tab} {m lo : Nat} {F F' F'' G G' : Frz} {α α' : Nat → Addr} {ρ ρ' : Rho} {s s' s'' : Shared} {A : Around} {C : Cx} {c : Cfg}
theorem Run.refl : Run G s F s F := ⟨fun _ _ e => e, fun _ _ e => .inl e, rfl, fun _ _ e => e, fun e => e⟩
theorem Run.heap {h' : Heap} {t : Nat} : Run G s F { s with heap := h', toks := t } F := ⟨fun _ _ e => e, fun _ _ e => .inl e, rfl, fun _ _ e => e, fun e => e⟩
theorem Run.trans (h : Run G s F s' F') (k : Run G s' F' s'' F'') : Run G s F s'' F'' where
  le := fun a o e => k.le a o (h.le a o e)
  new := fun a o e => (k.new a o e).elim (h.new a o) .inr
  os := k.os.trans h.os
  gens := fun i g e => k.gens i g (h.gens i g e)
  bare := fun e => k.bare (h.bare e)
theorem Run.of_step (gin : FOk W G s.heap) (st : Step W noX s F s' F') : Run G s F s' F' where
  le := st.le
  new := fun a o e => (st.new a o e).imp id fun q => q.elim (fun e => none_of_not fun ob q => by rw [gin.is _ _ q] at e; cases e) fun q => q.elim
  os := st.os
  gens := fun i g e => st.gens i g (fun h => h) e
  bare := st.bare
theorem at_set_self {i : Nat} {x : Slot} (h : i < ρ.length) : Rho.at (ρ.set i x) i = x := by
  rw [at_get, List.getElem?_set_self h]; rfl
theorem at_set_ne {i j : Nat} {x : Slot} (h : i ≠ j) : Rho.at (ρ.set i x) j = ρ.at j := by
  rw [at_get, at_get, List.getElem?_set_ne h]
noncomputable def NoRow (h : Heap) (b : Addr) : Prop := ∀ o, h.get? b = some o → ∀ vs, o.data ≠ .fields vs
theorem nr_ns {h : Heap} {b : Addr} {μ} (n : h.Ns b μ) : NoRow h b := fun o e vs q => by
  obtain ⟨o', es, ep, e', d, _⟩ := n
  rw [e] at e'; cases e'; rw [q] at d; cases d
theorem nr_cell {h : Heap} {b : Addr} {v} (n : h.IsCell b v) : NoRow h b := fun o e vs q => by
  obtain ⟨o', e', d⟩ := n
  rw [e] at e'; cases e'; rw [q] at d; cases d
theorem nr_list {h : Heap} {b : Addr} {its n} (n : h.get? b = some (listObj its n)) : NoRow h b := fun o e vs q => by
  rw [e] at n; cases n; cases q
theorem mod_ok {b : Addr} {h' : Heap} (ok : HOk W s.heap) (fb : FLe W.base F) (fin : FOk W F s.heap) (hf : F b = none) (nb : NoRow s.heap b) (hs : Heap.SameBut b s.heap h') : HOk W h' ∧ FOk W F h' :=
  have kF : ∀ a o, F a = some o → h'.get? a = some o := fun a o e => hs.extBut a o (fun q => by rw [q, hf] at e; cases e) (fin.is _ _ e)
  ⟨⟨⟨fun a o e => kF a o (fb _ _ e), ok.base.tab⟩, W.tiKeep _ _ ok.ti fun a o e _ ⟨vs, hv⟩ => hs.extBut a o (fun q => nb o (q ▸ e) vs hv) e⟩, kF, fin.tab⟩
theorem SlotOk.keep {h h' : Heap} {μ μ' : Str → Option Value} {x : Str} {a a' : Addr} {sl : Slot} (q : SlotOk W env F G h μ x a sl) (ha : a' = a) (le : FLe F F') (hold : ∀ v, Holds env h μ x v → Holds env h' μ' x v)
    (kp : ∀ xs its n, sl = .own xs → F a = none → G a = none → h.get? a = some (listObj its n) → h'.get? a = some (listObj its n) ∧ F' a = none ∧ G' a = none) : SlotOk W env F' G' h' μ' x a' sl := by
  subst ha
  match sl, q, kp with
  | .unset, _, _ => exact trivial
  | .val v, ⟨val, h1, h2⟩, _ => exact ⟨val, hold _ h1, h2.mono le⟩
  | .own xs, ⟨h1, h2, h3, its, n, h4, h5⟩, kp =>
    have h6 := kp xs its n rfl h2 h3 h4
    exact ⟨hold _ h1, h6.2.1, h6.2.2, its, n, h6.1, h5.mono le⟩
theorem Inv.mod {b : Addr} {h' : Heap} {t : Nat} {μ' : Str → Option Value} (I : Inv W env T m lo F G α ρ s) (hF : F b = none) (hG : G b = none) (nb : NoRow s.heap b) (hs : Heap.SameBut b s.heap h') (bl : ∃ o, h'.get? b = some o) (rl : ρ'.length = ρ.length)
    (wr : ∀ x c w, env.cells.lookup x = some c → s.heap.IsCell c w → ∃ w', h'.IsCell c w') (hn : h'.Ns env.locals μ') (hv : ∀ x i, T.vars.lookup x = some i → SlotOk W env F G h' μ' x (α' i) (ρ'.at i))
    (ap : ∀ x y i j xs ys, T.vars.lookup x = some i → T.vars.lookup y = some j → i ≠ j → ρ'.at i = .own xs → ρ'.at j = .own ys → α' i ≠ α' j) : Inv W env T m lo F G α' ρ' { s with heap := h', toks := t } where
  fb := I.fb
  ok := (mod_ok I.ok I.fb I.fin hF nb hs).1
  fin := (mod_ok I.ok I.fb I.fin hF nb hs).2
  gin := ⟨fun a o e => hs.extBut a o (fun q => by rw [q, hG] at e; cases e) (I.gin.is _ _ e), I.gin.tab⟩
  lf := I.lf
  lg := I.lg
  rl := rl.trans I.rl
  len := I.len
  inj := I.inj
  cinj := I.cinj
  wr := fun x i e h => (I.wr x i e h).imp id fun ⟨k, c, v, e1, e2, e3, e4⟩ => let ⟨w', hw⟩ := wr x c v e1 e2; ⟨k, c, w', e1, hw, e3, e4⟩
  vars := ⟨μ', hn, hv⟩
  apart := ap
  clive := fun x c e => by
    obtain ⟨o, ho⟩ := I.clive x c e
    by_cases hcb : c = b
    · exact hcb ▸ bl
    · exact ⟨o, hs.extBut c o hcb ho⟩
inductive SV (W : Wd) (T : Tab) (F G : Frz) (h : Heap) (α : Nat → Addr) (ρ : Rho) : Value → Slot → Addr → Prop
  | un {v b} : SV W T F G h α ρ v .unset b
  | val {v x b} : Rel W F v x → SV W T F G h α ρ v (.val x) b
  | own {a items n xs} : F a = none → G a = none → h.get? a = some (listObj items n) → RelL W F items xs → (∀ y j ys, T.vars.lookup y = some j → ρ.at j = .own ys → α j ≠ a) → SV W T F G h α ρ (.ref a) (.own xs) a
noncomputable def setA (α : Nat → Addr) (i : Nat) (b : Addr) (j : Nat) : Addr := if j = i then b else α j
theorem setA_self {i : Nat} {b : Addr} : setA α i b i = b := if_pos rfl
theorem setA_ne {i j : Nat} {b : Addr} (h : i ≠ j) : setA α i b j = α j := if_neg (Ne.symm h)
theorem apart_set {i : Nat} {sl : Slot} {b : Addr} (ap : ∀ x y i j xs ys, T.vars.lookup x = some i → T.vars.lookup y = some j → i ≠ j → ρ.at i = .own xs → ρ.at j = .own ys → α i ≠ α j)
    (hb : ∀ xs, sl = .own xs → ∀ y j ys, T.vars.lookup y = some j → i ≠ j → ρ.at j = .own ys → α j ≠ b) (hi : i < ρ.length) : ∀ x y j k xs ys, T.vars.lookup x = some j → T.vars.lookup y = some k → j ≠ k → Rho.at (ρ.set i sl) j = Slot.own xs → Rho.at (ρ.set i sl) k = Slot.own ys → setA α i b j ≠ setA α i b k := by
  intro x y j k xs ys hx hy hjk hj hk
  by_cases hji : i = j
  · subst hji
    rw [setA_self, setA_ne hjk]
    rw [at_set_self hi] at hj
    rw [at_set_ne hjk] at hk
    exact (hb xs hj y k ys hy hjk hk).symm
  · rw [setA_ne hji]
    rw [at_set_ne hji] at hj
    by_cases hki : i = k
    · subst hki
      rw [setA_self]
      rw [at_set_self hi] at hk
      exact hb ys hk x j xs hx hji hj
    · rw [setA_ne hki]
      rw [at_set_ne hki] at hk
      exact ap x y j k xs ys hx hy hjk hj hk
theorem store_inv {x : Str} {i : Nat} {v : Value} {sl : Slot} {a b : Addr} {h' : Heap} {t : Nat} {μ μ' : Str → Option Value} (I : Inv W env T m lo F G α ρ s) (hx : T.vars.lookup x = some i) (hv : ∀ x i, T.vars.lookup x = some i → SlotOk W env F G s.heap μ x (α i) (ρ.at i)) (sv : SV W T F G s.heap α ρ v sl a)
    (nb : NoRow s.heap b) (nl : ∀ a its n, s.heap.get? a = some (listObj its n) → a ≠ b) (hF : F b = none) (hG : G b = none) (hs : Heap.SameBut b s.heap h') (hn' : h'.Ns env.locals μ') (hold : Holds env h' μ' x v)
    (hother : ∀ y w, y ≠ x → Holds env s.heap μ y w → Holds env h' μ' y w) (hcell : ∀ y c w, env.cells.lookup y = some c → s.heap.IsCell c w → ∃ w', h'.IsCell c w') (hbl : ∃ o, h'.get? b = some o) :
    Inv W env T m lo F G (setA α i a) (ρ.set i sl) { s with heap := h', toks := t } :=
  have hi : i < ρ.length := I.rl ▸ I.len x i hx
  I.mod hF hG nb hs hbl List.length_set hcell hn' (fun y j hy => by
    by_cases hij : i = j
    · subst hij
      rw [at_set_self hi, setA_self]
      obtain rfl := I.inj y x i hy hx
      match sv, hold with
      | .un, _ => exact trivial
      | .val r, hold => exact ⟨v, hold, r⟩
      | .own h1 h2 h3 h4 h5, hold => exact ⟨hold, h1, h2, _, _, hs.extBut _ _ (nl _ _ _ h3) h3, h4⟩
    · rw [at_set_ne hij]
      exact (hv y j hy).keep (setA_ne hij) (fun _ _ e => e) (fun w => hother y w fun q => hij (by subst q; rw [hx] at hy; exact Option.some.inj hy)) fun xs its n _ h1 h2 h3 => ⟨hs.extBut _ _ (nl _ _ _ h3) h3, h1, h2⟩)
    (apart_set I.apart (fun xs e y j ys hy hij hj => match sl, e, sv with
      | _, rfl, .own _ _ _ _ h5 => h5 y j ys hy hj) hi)
noncomputable def AllLoc (env : Env) (T : Tab) (lo : Nat) : Prop := ∀ x i, T.vars.lookup x = some i → lo ≤ i → env.kindOf x = some .local
noncomputable def Kp (env : Env) (T : Tab) (lo : Nat) (s s' : Shared) : Prop := AllLoc env T lo → ∀ b o, b ≠ env.locals → s.heap.get? b = some o → s'.heap.get? b = some o
theorem Kp.refl : Kp env T lo s s := fun _ _ _ _ e => e
theorem Kp.trans {s₁ s₂ s₃ : Shared} (h : Kp env T lo s₁ s₂) (k : Kp env T lo s₂ s₃) : Kp env T lo s₁ s₃ := fun l b o n e => k l b o n (h l b o n e)
theorem fn_plain (e : EnvOk env T) : (env.scope.kind == .class || (env.scope.kind == .module && env.locals != env.globals)) = false := by rw [e.kind]; rfl
theorem st_loc {x : Str} {i : Nat} {v : Value} {sl : Slot} {a : Addr} (I : Inv W env T m lo F G α ρ s) (e : EnvOk env T) (hx : T.vars.lookup x = some i) (hl : env.kindOf x = some .local) (sv : SV W T F G s.heap α ρ v sl a) {Q : Unit → Shared → Prop}
    (q : ∀ s', Inv W env T m lo F G (setA α i a) (ρ.set i sl) s' → Run G s F s' F → (∀ b o, b ≠ env.locals → s.heap.get? b = some o → s'.heap.get? b = some o) → Q () s') : wpAny (model W.prog W.w) A (storeName env x v) Q noE s := by
  obtain ⟨μ, hn, hv⟩ := I.vars
  refine wpAny_storeName_local hl hn (fun h' hn' hs => ?_) (fn_plain e)
  have cellk : ∀ c w, s.heap.IsCell c w → h'.IsCell c w := fun c w q => q.sameBut hs (ns_ne_cell hn q)
  refine q _ (store_inv I hx hv sv (nr_ns hn) (fun _ _ _ => ns_ne_list hn) I.lf I.lg hs hn' (.inl ⟨hl, if_pos rfl⟩) (fun y w hy h => h.imp (fun h => ⟨h.1, (if_neg hy).trans h.2⟩) fun ⟨k, c, h1, h2⟩ => ⟨k, c, h1, cellk c _ h2⟩) (fun y c w _ h => ⟨w, cellk c w h⟩) (let ⟨o, _, _, eo, _⟩ := hn'; ⟨o, eo⟩)) Run.heap fun b o hb eb => hs.extBut b o hb eb
theorem st_cell {x : Str} {i : Nat} {v : Value} {sl : Slot} {a c : Addr} {w : Option Value} (I : Inv W env T m lo F G α ρ s) (e : EnvOk env T) (hx : T.vars.lookup x = some i) (hk : env.kindOf x = some .cell) (hc : env.cells.lookup x = some c) (hw : s.heap.IsCell c w) (hF : F c = none) (hG : G c = none) (sv : SV W T F G s.heap α ρ v sl a) {Q : Unit → Shared → Prop}
    (q : ∀ h', Inv W env T m lo F G (setA α i a) (ρ.set i sl) { s with heap := h' } → h'.IsCell c (some v) → Heap.SameBut c s.heap h' → Q () { s with heap := h' }) : wpAny (model W.prog W.w) A (storeName env x v) Q noE s := by
  obtain ⟨μ, hn, hv⟩ := I.vars
  refine wpAny_storeName_cell e.kind hk hc hw fun h' hc' hs => ?_
  have hne : env.locals ≠ c := fun q => ns_ne_cell hn hw q.symm
  refine q _ (store_inv (t := s.toks) I hx hv sv (nr_cell hw) (fun _ _ _ => cell_ne_list hw) hF hG hs (hn.sameBut hs hne) (.inr ⟨.inl hk, c, hc, hc'⟩)
    (fun y z hy h => h.imp id fun ⟨k, c', h1, h2⟩ => ⟨k, c', h1, h2.sameBut hs fun q => hy (I.cinj y x c (q ▸ h1) hc)⟩) (fun y c' z hl h => ?_) (let ⟨o, eo, _⟩ := hc'; ⟨o, eo⟩)) hc' hs
  by_cases hcc : c' = c
  · exact ⟨_, hcc ▸ hc'⟩
  · exact ⟨z, h.sameBut hs hcc⟩
theorem st_slot {x : Str} {i : Nat} {v : Value} {sl : Slot} {a : Addr} (I : Inv W env T m lo F G α ρ s) (e : EnvOk env T) (hx : T.vars.lookup x = some i) (hlo : lo ≤ i) (sv : SV W T F G s.heap α ρ v sl a) {Q : Unit → Shared → Prop}
    (q : ∀ s', Inv W env T m lo F G (setA α i a) (ρ.set i sl) s' → Run G s F s' F → Kp env T lo s s' → Q () s') : wpAny (model W.prog W.w) A (storeName env x v) Q noE s := by
  rcases I.wr x i hx hlo with hl | ⟨hk, c, w, hc, hw, hF, hG⟩
  · exact st_loc I e hx hl sv fun s' I' r k => q s' I' r fun _ => k
  · exact st_cell I e hx hk hc hw hF hG sv fun h' I' _ _ => q _ I' Run.heap fun hal => nomatch (hal x i hx hlo).symm.trans hk
noncomputable def KB (W : Wd) (env : Env) (T : Tab) (m lo : Nat) (F G : Frz) (s : Shared) (ρ : Rho) (Q : Unit → Shared → Prop) : Prop := ∀ α' s', Inv W env T m lo F G α' ρ s' → Run G s F s' F → Kp env T lo s s' → Q () s'
theorem KB.after {s' : Shared} {Q : Unit → Shared → Prop} (k : KB W env T m lo F G s ρ Q) (r : Run G s F s' F) (h : Kp env T lo s s') : KB W env T m lo F G s' ρ Q := fun α' s₂ I r' h' => k α' s₂ I (r.trans r') (h.trans h')
theorem NamesAre.ind {P : List Expr → List Nat → Prop} (h0 : P [] []) (h1 : ∀ x p i es is, T.at x = some i → P es is → P (.Name x p :: es) (i :: is)) : ∀ {es : List Expr} {is : List Nat}, NamesAre T es is → P es is
  | [], _, h => by
    obtain rfl := h; exact h0
  | _ :: _, _, h => by
    obtain ⟨x, p, i, js, rfl, hi, rfl, hj⟩ := h
    exact h1 x p i _ js hi (NamesAre.ind h0 h1 hj)
theorem bind_slots {es : List Expr} {is : List Nat} (h : NamesAre T es is) : (∀ i ∈ is, lo ≤ i) → ∀ (vals : List Value) (vs : List V), RelL W F vals vs → is.length = vs.length → ∀ (s : Shared) (α : Nat → Addr) (ρ : Rho) (Q : Unit → Shared → Prop), Inv W env T m lo F G α ρ s → EnvOk env T → KB W env T m lo F G s (bindTs is vs ρ) Q →
    wpAny (model W.prog W.w) A (assignInOrder ((assignEach es env).map (·.2)) vals) Q noE s := by
  refine NamesAre.ind (P := fun es is => (∀ i ∈ is, lo ≤ i) → ∀ (vals : List Value) (vs : List V), RelL W F vals vs → is.length = vs.length → ∀ (s : Shared) (α : Nat → Addr) (ρ : Rho) (Q : Unit → Shared → Prop), Inv W env T m lo F G α ρ s → EnvOk env T → KB W env T m lo F G s (bindTs is vs ρ) Q →
    wpAny (model W.prog W.w) A (assignInOrder ((assignEach es env).map (·.2)) vals) Q noE s) (fun hlo vals vs r hl s α ρ Q I e q => ?_) (fun x p i es is hx ih hlo vals vs r hl s α ρ Q I e q => ?_) h
  · cases vs with
    | nil => obtain rfl := r; exact wpAny_pure (q α s I Run.refl Kp.refl)
    | cons => exact nomatch hl
  · cases vs with
    | nil => exact nomatch hl
    | cons v vs =>
      obtain ⟨u, us, rfl, a, b⟩ := r
      show wpAny _ A (do holding us (assign (.Name x p) env u); assignInOrder ((assignEach es env).map (·.2)) us) _ _ s
      exact wpAny_bind (wpAny_holding (wpAny_assign_Name (st_slot I e (at_name hx).1 (hlo i List.mem_cons_self) (.val (b := 0) a) fun s' I' r k => ih (fun j hj => hlo j (List.mem_cons_of_mem _ hj)) us vs b (Nat.succ.inj hl) s' _ _ Q I' e (q.after r k))))
theorem each_len {es : List Expr} {is : List Nat} : NamesAre T es is → (assignEach es env).length = is.length ∧ (assignEach es env).findIdx? (·.1) = none :=
  NamesAre.ind (P := fun es is => (assignEach es env).length = is.length ∧ (assignEach es env).findIdx? (·.1) = none) ⟨rfl, rfl⟩ fun x p i es is hi ih => by
    refine ⟨congrArg Nat.succ ih.1, ?_⟩
    show List.findIdx? (·.1) ((false, assign (.Name x p) env) :: assignEach es env) = none
    rw [List.findIdx?_cons, ih.2]; rfl
theorem tup_assign {es : List Expr} {is : List Nat} {k} {pos : Pos} {a : Addr} {items : List Value} {n : Nat} {vs : List V} {Q : Unit → Shared → Prop} (h : NamesAre T es is) (hlo : ∀ i ∈ is, lo ≤ i) (R : Room A d) (e : EnvOk env T) (I : Inv W env T m lo F G α ρ s) (ht : s.heap.get? a = some (tupObj items n)) (r : RelL W F items vs)
    (hl : is.length = vs.length) (q : KB W env T m lo F G s (bindTs is vs ρ) Q) : wpAny (model W.prog W.w) A (assign (.Tuple es k pos) env (.ref a)) Q noE s := by
  obtain ⟨h1, h2⟩ := each_len (env := env) h
  refine wpAny_assign_Tuple R.handled (isTup_of ht) (by rw [h1, hl, List.size_toArray, r.length]) h2 fun h' hx => ?_
  have kp : ∀ b o, s.heap.get? b = some o → h'.get? b = some o := fun b o eb => hx b o (Nat.ne_of_lt (Heap.lt_size eb)) eb
  exact bind_slots h hlo items vs r hl { s with heap := h' } α ρ Q (I.step (Step.kept I.ok I.fin h' s.toks kp)) e (q.after Run.heap fun _ b o _ eb => kp b o eb)
theorem bind_item {target : Expr} {tg : Tg} {N : Frz} {v : Value} {x : V} {K : Rho → Prop} {Q : Unit → Shared → Prop} (h : TgIs T target tg) (hlo : tg.from lo) (R : Room A d) (e : EnvOk env T) (I : Inv W env T m lo F G α ρ s) (hN : FOk W N s.heap) (hi : Item W F N target v x) (hk : wpBind tg x ρ K)
    (q : ∀ ρ', K ρ' → KB W env T m lo F G s ρ' Q) : wpAny (model W.prog W.w) A (assign target env v) Q noE s := by
  cases h with
  | one y p i hi' he ht =>
    subst he ht
    have hr : Rel W F v x := by
      cases hi with
      | rel r => exact r
      | own ht _ _ => obtain ⟨es, k, p, ht⟩ := ht; cases ht
    exact wpAny_assign_Name (st_slot I e (at_name hi').1 (hlo i List.mem_cons_self) (.val (b := 0) hr) fun s' I' r k => q _ hk _ s' I' r k)
  | tup es k p is his he ht =>
    subst he ht
    cases x <;> first | exact hk.elim | skip
    cases hi with
    | rel r =>
      obtain ⟨a, items, n, rfl, ea, rr⟩ := r
      exact tup_assign his hlo R e I (I.fin.is _ _ ea) rr hk.1 (q _ hk.2)
    | own ht ea rr => exact tup_assign his hlo R e I (hN.is _ _ ea) rr hk.1 (q _ hk.2)
end
end Mine
namespace Mine
open PySem PySem.W PySem.W.X PyProof.Rows PySem.Calls
noncomputable def Frz.or (G N : Frz) : Frz := fun a => match N a with
  | some o => some o
  | none => G a
section
variable {W : Wd} {d : Nat} {env : Env} {T : Tab} {m lo : Nat} {F F' G N N' : Frz} {g g' : GMap} {α : Nat → Addr} {ρ ρ' : Rho} {s s' : Shared} {A : Around} {C : Cx} {c : Cfg}
theorem or_eq {a : Addr} (h : N a = none) : Frz.or G N a = G a := by unfold Frz.or; rw [h]
theorem or_none {a : Addr} : Frz.or G N a = none ↔ G a = none ∧ N a = none := by
  unfold Frz.or
  cases N a with
  | none => exact ⟨fun h => ⟨h, rfl⟩, fun h => h.1⟩
  | some o => exact ⟨fun h => (nomatch h), fun h => (nomatch h.2)⟩
theorem or_left {a : Addr} {o : Obj} (h : N a = some o) : Frz.or G N a = some o := by unfold Frz.or; rw [h]
theorem or_some {a : Addr} {o : Obj} (h : Frz.or G N a = some o) : N a = some o ∨ G a = some o := by
  cases e : N a with
  | some x => exact .inl (by rw [or_left e] at h; exact h)
  | none => exact .inr (by rw [or_eq e] at h; exact h)
theorem ne_none {α : Type} {o : Option α} {x : α} (h : o = some x) : o ≠ none := fun q => nomatch q.symm.trans h
theorem Inv.reG (I : Inv W env T m lo F G α ρ s) (f : FOk W F' s.heap) (h : ∀ a, G a = none → (∃ o, s.heap.get? a = some o) → F' a = none) : Inv W env T m lo F F' α ρ s := by
  obtain ⟨μ, hn, hv⟩ := I.vars
  have liveL : ∃ o, s.heap.get? env.locals = some o := let ⟨o, _, _, e, _⟩ := hn; ⟨o, e⟩
  exact { I with
    gin := f
    lg := h _ I.lg liveL
    wr := fun x i e hl => (I.wr x i e hl).imp id fun ⟨k, c, v, e1, e2, e3, e4⟩ => ⟨k, c, v, e1, e2, e3, h c e4 (let ⟨o, e, _⟩ := e2; ⟨o, e⟩)⟩
    vars := ⟨μ, hn, fun x i e => (hv x i e).keep rfl (fun _ _ e => e) (fun _ q => q) fun xs its n _ h1 h2 h3 => ⟨h3, h1, h _ h2 ⟨_, h3⟩⟩⟩ }
theorem Inv.forget (I : Inv W env T m lo F G α ρ s) (hl : ρ'.length = ρ.length) (h : ∀ i, ρ'.at i = .unset ∨ ρ'.at i = ρ.at i) : Inv W env T m lo F G α ρ' s := by
  obtain ⟨μ, hn, hv⟩ := I.vars
  have back : ∀ {i xs}, ρ'.at i = .own xs → ρ.at i = .own xs := fun {i xs} e => (h i).elim (fun q => nomatch q.symm.trans e) fun q => q ▸ e
  exact { I with
    rl := hl.trans I.rl
    vars := ⟨μ, hn, fun x i e => (h i).elim (fun q => by rw [q]; exact trivial) fun q => by rw [q]; exact hv x i e⟩
    apart := fun x y i j xs ys hx hy hij hi hj => I.apart x y i j xs ys hx hy hij (back hi) (back hj) }
structure Away (env : Env) (G N : Frz) : Prop where
  g : ∀ a, N a ≠ none → G a = none
  cells : ∀ x c, env.cells.lookup x = some c → N c = none
theorem cell_live {h : Heap} {c : Addr} {v} (n : h.IsCell c v) : ∃ o, h.get? c = some o := let ⟨o, e, _⟩ := n; ⟨o, e⟩
theorem Inv.turn (I : Inv W env T m lo F (Frz.or G N) α ρ s) (aw : Away env G N) (st : IStep W N g s F s' F' N' g') : Inv W env T m lo F' (Frz.or G N') α ρ s' ∧ Away env G N' := by
  obtain ⟨μ, hn, hv⟩ := I.vars
  have liveL : ∃ o, s.heap.get? env.locals = some o := let ⟨o, _, _, e, _⟩ := hn; ⟨o, e⟩
  have hNL : N env.locals = none := (or_none.mp I.lg).2
  have kp : ∀ a o, a ∉ W.tabs → N a = none → s.heap.get? a = some o → s'.heap.get? a = some o := fun a o h1 h2 e => st.step.keep a o h1 (fun q => q h2) e
  have nN : ∀ a, (∃ o, s.heap.get? a = some o) → N a = none → N' a = none := fun a ⟨o, e⟩ h => none_of_not fun ob q => (st.nsub a (ne_none q)).elim (fun r => r h) fun r => nomatch r.symm.trans e
  have out : ∀ a, (∃ o, s.heap.get? a = some o) → N a = none → F a = none → F' a = none := fun a ⟨o, e⟩ h hf => st.step.stays_out (fun q => q h) e hf
  have orn : ∀ a, (∃ o, s.heap.get? a = some o) → Frz.or G N a = none → Frz.or G N' a = none := fun a l h => or_none.mpr ⟨(or_none.mp h).1, nN a l (or_none.mp h).2⟩
  have cellk : ∀ x c v, env.cells.lookup x = some c → s.heap.IsCell c v → s'.heap.IsCell c v := fun x c v hx q => let ⟨o, e, d⟩ := id q; ⟨o, kp c o (cell_no_tab I.ok.ti q) (aw.cells x c hx) e, d⟩
  have hNG : ∀ a o, G a = some o → N a = none := fun a o e => none_of_not fun ob q => nomatch (aw.g a (ne_none q)).symm.trans e
  refine ⟨{ I with
    fb := fun a o e => st.step.le a o (I.fb a o e)
    ok := st.step.ok
    fin := st.step.fin
    gin := ⟨fun a o e => (or_some e).elim (st.nis.is a o) fun e => ?_, fun a ha => or_none.mpr ⟨(or_none.mp (I.gin.tab a ha)).1, st.nis.tab a ha⟩⟩
    lf := out _ liveL hNL I.lf
    lg := orn _ liveL I.lg
    wr := fun x i e h => (I.wr x i e h).imp id fun ⟨k, c, v, e1, e2, e3, e4⟩ => ⟨k, c, v, e1, cellk x c v e1 e2, out _ (cell_live e2) (or_none.mp e4).2 e3, orn _ (cell_live e2) e4⟩
    vars := ⟨μ, hn.at fun o e => kp _ o (ns_no_tab I.ok.ti hn) hNL e, fun x i e => (hv x i e).keep rfl st.step.le (fun v q => q.imp id fun ⟨k, c, e, q⟩ => ⟨k, c, e, cellk x c _ e q⟩) fun xs its n _ h1 h2 h3 => ⟨kp _ _ (list_no_tab I.ok.ti h3) (or_none.mp h2).2 h3, out _ ⟨_, h3⟩ (or_none.mp h2).2 h1, orn _ ⟨_, h3⟩ h2⟩⟩
    clive := fun x c e => ?_ }, fun a h => ?_, fun x c e => nN c (I.clive x c e) (aw.cells x c e)⟩
  · refine kp a o (fun q => ?_) (hNG a o e) (I.gin.is a o (or_eq (hNG a o e) ▸ e))
    exact nomatch (or_none.mp (I.gin.tab a q)).1.symm.trans e
  · obtain ⟨o, h⟩ := I.clive x c e
    by_cases ht : c ∈ W.tabs
    · obtain ⟨vs, h⟩ := W.tiTab _ c st.step.ok.ti ht
      exact ⟨_, h⟩
    · exact ⟨o, kp c o ht (aw.cells x c e) h⟩
  · exact (st.nsub a h).elim (aw.g a) fun q => none_of_not fun o e => nomatch q.symm.trans (I.gin.is a o (or_eq (hNG a o e) ▸ e))
theorem Inv.ipre (I : Inv W env T m lo F' (Frz.or G N) α ρ s) (le : FLe F F') (gis : GHave g s.gens) (nd : ∀ a, N a ≠ none → F' a = none) : IPre W F N g s F' where
  ok := I.ok
  fin := I.fin
  le := le
  base := I.fb
  nis := ⟨fun a o e => I.gin.is a o (or_left e), fun a ha => (or_none.mp (I.gin.tab a ha)).2⟩
  gis := gis
  ndis := nd
theorem Inv.beside {s₂ : Shared} {F₂ : Frz} (I : Inv W env T m lo F G α ρ s) (st : Step W noX s F s₂ F₂) (nis : FOk W N s₂.heap) (nnew : ∀ a, N a ≠ none → s.heap.get? a = none) : Inv W env T m lo F₂ (Frz.or G N) α ρ s₂ ∧ Away env G N := by
  have I₂ := I.step st
  have nn : ∀ a o, s.heap.get? a = some o → N a = none := fun a o e => none_of_not fun ob q => nomatch (nnew a (ne_none q)).symm.trans e
  have gN : ∀ a o, G a = some o → N a = none := fun a o e => nn a o (I.gin.is _ _ e)
  obtain ⟨μ, hn, hv⟩ := I.vars
  exact ⟨{ I₂ with
    gin := ⟨fun a o e => (or_some e).elim (nis.is _ _) (I₂.gin.is _ _), fun a ha => or_none.mpr ⟨I.gin.tab a ha, nis.tab a ha⟩⟩
    lg := or_none.mpr ⟨I.lg, let ⟨o, _, _, e, _⟩ := hn; nn _ o e⟩
    wr := fun x i e hl => (I₂.wr x i e hl).imp id fun ⟨k, c, v, e1, e2, e3, e4⟩ => ⟨k, c, v, e1, e2, e3, or_none.mpr ⟨e4, let ⟨o, ho⟩ := I.clive x c e1; nn _ o ho⟩⟩
    vars := ⟨μ, hn.at fun o e => st.keep _ o (ns_no_tab I.ok.ti hn) (fun q => q) e, fun x i e => (hv x i e).keep rfl st.le (fun v q => q.imp id fun ⟨k, c, e, q⟩ => ⟨k, c, e, let ⟨o, e, d⟩ := id q; ⟨o, st.keep c o (cell_no_tab I.ok.ti q) (fun q => q) e, d⟩⟩) fun xs its n _ h1 h2 h3 =>
      ⟨st.keep _ _ (list_no_tab I.ok.ti h3) (fun q => q) h3, st.stays_out (fun q => q) h3 h1, or_none.mpr ⟨h2, nn _ _ h3⟩⟩⟩ }, fun a ha => none_of_not fun o e => ha (gN a o e), fun x c e => let ⟨o, ho⟩ := I.clive x c e; nn _ o ho⟩
theorem Inv.src {target : Expr} {it : Value} {items : List V} {s₂ : Shared} {F₂ : Frz} (I : Inv W env T m lo F G α ρ s) (h : Src W A target s F it items s₂ F₂ N g) : Inv W env T m lo F₂ (Frz.or G N) α ρ s₂ ∧ Away env G N := I.beside h.step h.nis h.nnew
end
noncomputable def insideOf {γ : Type} (elt : Expr) (gens : List Comprehension) (scope : Scope) (pos : Pos) (depth : Nat) (acc : Value) (env : Env) (k : Sem γ) : Sem γ := do
  match gens[depth + 1]? with
  | some g' =>
    let x ← eval g'.iter env
    standAt g'.iter.pos
    let x ← if g'.is_async != 0 then foldedIterable g'.iter x else foldedSetIterable g'.iter env x
    let _ ← runOwn (.compStart (.ListComp elt gens scope pos) (depth + 1) (← holding [x] (if g'.is_async != 0 then asyncIter x else pyIter x)) acc env) env
  | none => (do let _ ← call (.builtin "list.append") [acc, ← eval elt env])
  k
theorem compTurnG (elt : Expr) (gens : List Comprehension) (scope : Scope) (pos : Pos) (depth : Nat) (gc : Comprehension) (hg : gens[depth]? = some gc) (ha : gc.is_async = 0) (it acc : Value) (env : Env) :
    compTurn (.ListComp elt gens scope pos) depth it acc env = (do
      standAt gc.iter.pos
      match ← pyNext it with
      | none => pure (.done .next)
      | some v =>
        letOwnedTupleGo gc.target it v
        assign gc.target env v
        let ok ← testsOf gc.ifs env
        if ok then insideOf elt gens scope pos depth acc env (again (.compLoop (.ListComp elt gens scope pos) depth it acc env)) else again (.compLoop (.ListComp elt gens scope pos) depth it acc env)) := by
  unfold compTurn
  simp only [hg]
  have : (gc.is_async != 0) = false := by rw [ha]; rfl
  simp only [this, Bool.false_eq_true, if_false]
  rfl
section
variable {prog : Program} {w : World} {A : Around} {s : Shared} {env : Env} {elt : Expr} {gens : List Comprehension} {scope : Scope} {pos : Pos} {depth : Nat} {gc : Comprehension} {it acc : Value}
theorem anyE {α : Type} {t : Sem α} {Q Q' : α → Shared → Prop} {E : Value → Shared → Prop} (h : wpAny (model prog w) A t Q noE s) (q : ∀ v s', Q v s' → Q' v s') : wpAny (model prog w) A t Q' E s := wpAny_mono h q fun _ _ e => e.elim
noncomputable def Turn (prog : Program) (w : World) (A : Around) (env : Env) (target : Expr) (ifs : List Expr) (it : Value) (R Nx : Shared → Prop) (EM : (Shared → Prop) → Shared → Prop) (r : Option Value) (s₁ : Shared) : Prop := match r with
  | none => R s₁
  | some v => wpAny (model prog w) A (letOwnedTupleGo target it v) (fun _ s₂ => wpAny (model prog w) A (assign target env v) (fun _ s₃ => wpAny (model prog w) A (testsOf ifs env) (fun ok s₄ => Br ok (EM Nx s₄) (Nx s₄)) noE s₃) noE s₂) noE s₁
theorem comp_loop {R : Result → Shared → Prop} {EM : (Shared → Prop) → Shared → Prop} (hg : gens[depth]? = some gc) (ha : gc.is_async = 0) (hin : ∀ (γ : Type) (k : Sem γ) (Q : Shared → Prop) (Q' : γ → Shared → Prop) (E : Value → Shared → Prop) s, EM Q s → (∀ s, Q s → wpAny (model prog w) A k Q' E s) → wpAny (model prog w) A (insideOf elt gens scope pos depth acc env k) Q' E s) (I : Nat → Shared → Prop)
    (turn : ∀ n s, I n s → wpAny (model prog w) A (pyNext it) (Turn prog w A env gc.target gc.ifs it (R (.ok .next)) (fun s => ∃ m, m < n ∧ I m s) EM) noE s)
    (n : Nat) (h : I n s) : codeAny (model prog w) A (.compLoop (.ListComp elt gens scope pos) depth it acc env) R s := by
  refine codeAny_loop rfl I (fun n s hI => ?_) n h
  show wpAny _ A ((compTurn (.ListComp elt gens scope pos) depth it acc env).onRaise (fun x => do noteFrame x env; theTreesLotGoes x)) _ _ s
  refine wpAny_noted ?_
  rw [compTurnG elt gens scope pos depth gc hg ha]
  refine wpAny_bind (wpAny_standAt (wpAny_bind (anyE (turn n s hI) fun r s₁ h₁ => ?_)))
  cases r with
  | none => exact wpAny_pure h₁
  | some v =>
    refine wpAny_bind (anyE h₁ fun _ s₂ h₂ => wpAny_bind (anyE h₂ fun _ s₃ h₃ => wpAny_bind (anyE h₃ fun ok s₄ h₄ => ?_)))
    cases ok with
    | false => exact wpAny_pure ⟨rfl, h₄.f rfl⟩
    | true => exact hin _ _ _ _ _ _ (h₄.t rfl) fun s₆ h₆ => wpAny_pure ⟨rfl, h₆⟩
theorem comp_start {R : Result → Shared → Prop} (hg : gens[depth]? = some gc) (ha : gc.is_async = 0)
    (h0 : codeAny (model prog w) A (.compLoop (.ListComp elt gens scope pos) depth it acc env) R s)
    (h : wpAny (model prog w) A (pyIter it) (fun it' s' => codeAny (model prog w) A (.compLoop (.ListComp elt gens scope pos) depth it' acc env) R s') noE s) :
    codeAny (model prog w) A (.compStart (.ListComp elt gens scope pos) depth it acc env) R s := by
  refine codeAny_of_tree ?_
  show wpAny _ _ ((compStart (.ListComp elt gens scope pos) depth it acc env).onRaise (fun x => do noteFrame x env; standAt theWindowsPlace)) _ _ s
  refine wpAny_notedAt ?_
  unfold compStart
  have e1 : ((clausesOf (.ListComp elt gens scope pos))[depth]?).elim false (fun x => x.is_async != 0) = false := by
    show (gens[depth]?).elim false (fun x => x.is_async != 0) = false
    rw [hg]
    show (gc.is_async != 0) = false
    rw [ha]; rfl
  rw [e1]
  show wpAny _ _ (ask >>= _) _ _ s
  refine wpAny_bind (wpAny_askSetting (wpAny_ite ?_))
  split
  · first
      | exact wpAny_bind (wpAny_pure (wpAny_pure (And.intro rfl h0)))
      | exact wpAny_pure (And.intro rfl h0)
  · have e2 : (clausesOf (.ListComp elt gens scope pos))[depth]? = some gc := hg
    refine wpAny_bind (wpAny_rule ?_)
    rw [e2]
    show wpAny _ _ (standAt gc.iter.pos >>= _) _ _ s
    exact wpAny_bind (wpAny_standAt (wpAny_bind (anyE h fun it' s' h' => wpAny_pure (And.intro rfl h'))))
theorem in_last (hl : gens[depth + 1]? = none) {γ : Type} {k : Sem γ} {Q : Shared → Prop} {Q' : γ → Shared → Prop} {E : Value → Shared → Prop} (hk : ∀ s, Q s → wpAny (model prog w) A k Q' E s) (h : wpAny (model prog w) A (eval elt env) (fun x s₅ => wpAny (model prog w) A (call (.builtin "list.append") [acc, x]) (fun _ => Q) noE s₅) noE s) : wpAny (model prog w) A (insideOf elt gens scope pos depth acc env k) Q' E s := by
  unfold insideOf
  rw [hl]
  exact wpAny_bind (wpAny_bind (anyE h fun x s₅ h₅ => wpAny_bind (anyE h₅ fun _ s₆ h₆ => wpAny_pure (hk _ h₆))))
theorem in_next {g' : Comprehension} (hl : gens[depth + 1]? = some g') (ha' : g'.is_async = 0) (hset : ∀ x, foldedSetIterable g'.iter env x = pure x) {γ : Type} {k : Sem γ} {Q : Shared → Prop} {Q' : γ → Shared → Prop} {E : Value → Shared → Prop} (hk : ∀ s, Q s → wpAny (model prog w) A k Q' E s)
    (h : wpAny (model prog w) A (eval g'.iter env) (fun x s₅ => wpAny (model prog w) A (pyIter x) (fun it' s₆ => codeAny (model prog w) A (.compStart (.ListComp elt gens scope pos) (depth + 1) it' acc env) (fun r s₇ => r = .ok .next ∧ Q s₇) s₆) noE s₅) noE s) : wpAny (model prog w) A (insideOf elt gens scope pos depth acc env k) Q' E s := by
  unfold insideOf
  rw [hl]
  have e0 : (g'.is_async != 0) = false := by rw [ha']; rfl
  simp only [e0, Bool.false_eq_true, if_false]
  refine wpAny_bind (anyE h fun x s₅ h₅ => wpAny_bind (wpAny_standAt (wpAny_bind (wpAny_of_eq (hset x) (wpAny_bind (wpAny_holding (anyE h₅ fun it' s₆ h₆ => ?_)))))))
  refine wpAny_bind (wpAny_runOwn (codeAny_mono h₆ fun r s₇ h₇ => ?_))
  obtain ⟨rfl, h₇⟩ := h₇
  exact hk _ h₇
end
end Mine
namespace Mine
open PySem PySem.W PySem.W.X PyProof.Rows PySem.Calls
inductive DAt (W : Wd) (F : Frz) (h : Heap) (D : Addr) (acc : List V) : Prop
  | mk (its : List Value) (n : Nat) (e : h.get? D = some (listObj its n)) (r : RelL W F its acc) (out : F D = none)
noncomputable def XX (D L : Addr) (N : Frz) (g : GMap) (s : Shared) : Excl := ⟨fun a => a = D ∨ a = L ∨ N a ≠ none ∨ s.heap.get? a = none, fun i => g i ≠ none ∨ s.gens[i]? = none⟩
structure LpAt (W : Wd) (d : Nat) (A : Around) (env : Env) (T : Tab) (m lo : Nat) (D : Addr) (G : Frz) (used : List Nat) (F N : Frz) (g : GMap) (α : Nat → Addr) (ρ : Rho) (s : Shared) (acc : List V) : Prop where
  e : EnvOk env T
  al : AllLoc env T lo
  R : Room A d
  inv : Inv W env T m lo F (Frz.or G N) α ρ s
  away : Away env G N
  gis : GHave g s.gens
  ndis : ∀ a, N a ≠ none → F a = none
  nD : N D = none
  gD : G D = none
  dL : D ≠ env.locals
  dat : DAt W F s.heap D acc
  un : ∀ i, lo ≤ i → i ∉ used → ρ.at i = .unset
  no : ∀ x i xs, T.vars.lookup x = some i → ρ.at i ≠ .own xs
noncomputable def LpOut (W : Wd) (env : Env) (T : Tab) (m lo : Nat) (D : Addr) (G : Frz) (N : Frz) (g : GMap) (ρ : Rho) (s : Shared) (F : Frz) (acc : List V) (b : Nat) (K : List V → Prop) (R : Shared → Prop) : Prop :=
  ∀ s' F' α' r, Step W (XX D env.locals N g s) s F s' F' → Inv W env T m lo F' G α' ρ s' → DAt W F' s'.heap D (acc ++ r) → r.length ≤ b → K r → R s'
noncomputable def OkLoop (W : Wd) (C : Cx) (d : Nat) (T : Tab) (m lo : Nat) (elt : Expr) (gens : List Comprehension) (scope : Scope) (pos : Pos) (depth : Nat) (gc : Comprehension) (tg : Tg) (ifs : List XD) (rest : LD) (w : Nat) (used : List Nat) : Prop :=
  ∀ (env : Env) (F G N : Frz) (g : GMap) (α : Nat → Addr) (ρ : Rho) (s : Shared) (A : Around) (D : Addr) (acc : List V) (it : Value) (items : List V) (K : List V → Prop) (R : Result → Shared → Prop), LpAt W d A env T m lo D G used F N g α ρ s acc →
    Ready W A gc.target it items F N g → items.length ≤ 4000 → acc.length + items.length * w ≤ strMax → wpItems (bodyC C tg ifs rest ρ) items K → LpOut W env T m lo D G N g ρ s F acc (items.length * w) K (R (.ok .next)) →
    codeAny (model W.prog W.w) A (.compLoop (.ListComp elt gens scope pos) depth it (.ref D) env) R s
structure Bd (tg : Tg) (ρ ρ' : Rho) : Prop where
  len : ρ'.length = ρ.length
  at' : ∀ j, j ∉ tg.idx → ρ'.at j = ρ.at j
  own : ∀ j xs, ρ'.at j = .own xs → ρ.at j = .own xs
inductive LoopSt (W : Wd) (d : Nat) (A : Around) (env : Env) (T : Tab) (m lo : Nat) (D : Addr) (G : Frz) (used : List Nat) (target : Expr) (it : Value) (ρ : Rho) (acc : List V) (w b : Nat) (f : V → (List V → Prop) → Prop) (K : List V → Prop) (s : Shared) (F N : Frz) (g : GMap) (rest : List V) (s' : Shared) : Prop
  | mk (dn : List V) (F' N' : Frz) (g' : GMap) (α' : Nat → Addr) (st : LpAt W d A env T m lo D G used F' N' g' α' ρ s' (acc ++ dn)) (ready : Ready W A target it rest F' N' g') (nsub : ∀ a, N' a ≠ none → N a ≠ none ∨ s.heap.get? a = none) (gsub : ∀ i, g' i ≠ none → g i ≠ none ∨ s.gens[i]? = none)
    (step : Step W (XX D env.locals N g s) s F s' F') (len : dn.length + rest.length * w ≤ b) (wp : wpItems f rest fun rs => K (dn ++ rs))
noncomputable def EmitOk (W : Wd) (C : Cx) (env : Env) (T : Tab) (m lo : Nat) (D : Addr) (ρ : Rho) (tg : Tg) (rest : LD) (w : Nat) (EM : (Shared → Prop) → Shared → Prop) : Prop :=
  ∀ (s : Shared) (F G : Frz) (α : Nat → Addr) (ρ' : Rho) (acc : List V) (K : List V → Prop) (Q : Shared → Prop), Inv W env T m lo F G α ρ' s → DAt W F s.heap D acc → G D = none → Bd tg ρ ρ' → acc.length + w ≤ strMax → rest C ρ' K → LpOut W env T m lo D G noN noG ρ' s F acc w K Q → EM Q s
section
variable {W : Wd} {d : Nat} {env : Env} {T : Tab} {m lo : Nat} {F F' G N N' : Frz} {g g' : GMap} {α : Nat → Addr} {ρ ρ' : Rho} {s s' : Shared} {A : Around} {C : Cx} {c : Cfg} {D : Addr} {acc : List V} {used : List Nat}
theorem set_own {i j : Nat} {v : V} {xs : List V} (h : Rho.at (ρ.set i (.val v)) j = .own xs) : ρ.at j = .own xs := by
  by_cases hij : i = j
  · subst hij
    by_cases hi : i < ρ.length
    · rw [at_set_self hi] at h; cases h
    · rw [List.set_eq_of_length_le (Nat.le_of_not_lt hi)] at h; exact h
  · rw [at_set_ne hij] at h; exact h
theorem bindTs_bd : ∀ (is : List Nat) (vs : List V) (ρ : Rho), Bd (.tup is) ρ (bindTs is vs ρ)
  | [], vs, ρ => ⟨rfl, fun _ _ => rfl, fun _ _ h => h⟩
  | i :: is, [], ρ => ⟨rfl, fun _ _ => rfl, fun _ _ h => h⟩
  | i :: is, v :: vs, ρ =>
    have b := bindTs_bd is vs (ρ.set i (.val v))
    ⟨b.len.trans List.length_set, fun j hj => (b.at' j fun q => hj (List.mem_cons_of_mem _ q)).trans (at_set_ne fun q => hj (q ▸ List.mem_cons_self)), fun j xs h => set_own (b.own j xs h)⟩
theorem wpBind_bd {tg : Tg} {x : V} {K : Rho → Prop} (h : wpBind tg x ρ K) : wpBind tg x ρ fun ρ' => K ρ' ∧ Bd tg ρ ρ' := by
  cases tg with
  | one i => exact ⟨h, List.length_set, fun j hj => at_set_ne fun q => hj (q ▸ List.mem_cons_self), fun j xs h => set_own h⟩
  | tup is =>
    cases x <;> first | exact h.elim | skip
    exact ⟨h.1, h.2, bindTs_bd is _ ρ⟩
theorem DAt.keep (dt : DAt W F s.heap D acc) (k : ∀ o, s.heap.get? D = some o → s'.heap.get? D = some o) (le : FLe F F') (out : F' D = none) : DAt W F' s'.heap D acc := let ⟨its, n, e, r, _⟩ := dt; ⟨its, n, k _ e, r.mono le, out⟩
theorem DAt.step {X : Excl} (ti : W.ti s.heap) (dt : DAt W F s.heap D acc) (st : Step W X s F s' F') (hX : ¬ X.ad D) : DAt W F' s'.heap D acc := let ⟨its, n, e, r, out⟩ := dt; ⟨its, n, st.keep _ _ (list_no_tab ti e) hX e, r.mono st.le, st.stays_out hX e out⟩
theorem DAt.live (dt : DAt W F s.heap D acc) : ∃ o, s.heap.get? D = some o := let ⟨_, _, e, _, _⟩ := dt; ⟨_, e⟩
theorem step_kp {X : Excl} (I : Inv W env T m lo F G α ρ s') (k : Kp env T lo s s') (al : AllLoc env T lo) (go : Run G s F s' F) (hX : X.ad env.locals) : Step W X s F s' F where
  ok := I.ok
  fin := I.fin
  le := fun _ _ e => e
  new := fun _ _ e => .inl e
  keep := fun a o _ h e => k al a o (fun q => h (q ▸ hX)) e
  os := go.os
  gens := fun i x _ e => go.gens i x e
  bare := go.bare
theorem dat_push {v : Value} {r : V} (I : Inv W env T m lo F G α ρ s) (dt : DAt W F s.heap D acc) (hD : D ≠ env.locals) (hG : G D = none) (rv : Rel W F v r) (hl : acc.length ≤ strMax) {X : Excl} (hX : X.ad D) (hown : ∀ x i xs, T.vars.lookup x = some i → ρ.at i ≠ .own xs) {Q : Value → Shared → Prop}
    (q : ∀ s', Inv W env T m lo F G α ρ s' → DAt W F s'.heap D (acc ++ [r]) → Step W X s F s' F → Q .none s') : wpAny (model W.prog W.w) A (call (.builtin "list.append") [.ref D, v]) Q noE s := by
  obtain ⟨its, n, e, r', out⟩ := dt
  refine wpAny_list_append_plain (items := its.toArray) ⟨n, e⟩ (fun h' ⟨n', hp⟩ hs => ?_) (by rw [List.size_toArray, r'.length]; exact Nat.le_trans hl strMax_le)
  have hD' : h'.get? D = some (listObj (its ++ [v]) n') := by rw [hp]; simp [listObj]
  obtain ⟨μ, hn, hv⟩ := I.vars
  have cellk : ∀ c w, s.heap.IsCell c w → h'.IsCell c w := fun c w q => q.sameBut hs fun q' => cell_ne_list (q' ▸ q) e rfl
  have I' := I.mod (t := s.toks) out hG (nr_list e) hs ⟨_, hD'⟩ rfl (fun x c w _ h => ⟨w, cellk c w h⟩) (hn.sameBut hs (Ne.symm hD)) (fun x i hx => (hv x i hx).keep rfl (fun _ _ e => e) (fun v q => q.imp id fun ⟨k, c, e, q⟩ => ⟨k, c, e, cellk c _ q⟩) fun xs its n ho _ _ _ => absurd ho (hown x i xs hx)) I.apart
  exact q _ I' ⟨_, _, hD', r'.snoc rv, out⟩ ⟨I'.ok, I'.fin, fun _ _ e => e, fun _ _ e => .inl e, fun a o _ h e => hs.extBut a o (fun q => h (q ▸ hX)) e, rfl, fun _ _ _ e => e, fun e => e⟩
theorem Ready.le {target : Expr} {it : Value} (le : FLe F F') : ∀ {ys : List V}, Ready W A target it ys F N g → Ready W A target it ys F' N g
  | [], h => fun s F₂ p => h s F₂ { p with le := fun a o e => p.le a o (le a o e) }
  | _ :: _, h => fun s F₂ p => h s F₂ { p with le := fun a o e => p.le a o (le a o e) }
theorem items_app {f : V → (List V → Prop) → Prop} {xs r zs : List V} {K : List V → Prop} (h : wpItems f zs fun rs => K (xs ++ (r ++ rs))) : wpItems f zs fun rs => K (xs ++ r ++ rs) := by
  have e : (fun rs => K (xs ++ r ++ rs)) = fun rs => K (xs ++ (r ++ rs)) := funext fun rs => by rw [List.append_assoc]
  rw [e]; exact h
theorem loop_turn {target : Expr} {it : Value} {b w : Nat} {tg : Tg} {ifs : List Expr} {fs : List XD} {restC : LD} {K : List V → Prop} {EM : (Shared → Prop) → Shared → Prop} {R : Shared → Prop}
    (htg : TgIs T target tg) (hok : tg.from lo) (hdis : ∀ i ∈ tg.idx, i ∉ used) (hT : OkTests W C d T m ifs fun C => wpIfs C fs) (hem : EmitOk W C env T m lo D ρ tg restC w EM) (hmax : acc.length + b ≤ strMax) (hR : LpOut W env T m lo D G N g ρ s F acc b K R)
    {rest : List V} {Nx : Shared → Prop} (hN : ∀ r s₁, r.length < rest.length → LoopSt W d A env T m lo D G used target it ρ acc w b (bodyC C tg fs restC ρ) K s F N g r s₁ → Nx s₁) (L : LoopSt W d A env T m lo D G used target it ρ acc w b (bodyC C tg fs restC ρ) K s F N g rest s') :
    wpAny (model W.prog W.w) A (pyNext it) (Turn W.prog W.w A env target ifs it R Nx EM) noE s' := by
  obtain ⟨dn, F', N', g', α', P, rd, nsub, gsub, step, len, hw⟩ := L
  have toXX : ∀ {s₁ s₂ : Shared} {F₁ F₂ N₁ : Frz} {g₁ : GMap}, (∀ a, N₁ a ≠ none → N a ≠ none ∨ s.heap.get? a = none) → (∀ i, g₁ i ≠ none → g i ≠ none ∨ s.gens[i]? = none) → Step W (ofN N₁ g₁) s₁ F₁ s₂ F₂ → Step W (XX D env.locals N g s) s₁ F₁ s₂ F₂ := fun h1 h2 st =>
    st.sub (fun a h => .inl (.inr (.inr (h1 a h)))) fun i h => .inl (h2 i h)
  have pre := P.inv.ipre (F := F') (fun _ _ e => e) P.gis P.ndis
  cases rest with
  | nil =>
    refine anyE (rd s' F' pre) fun r s₁ ⟨hr, F₁, st⟩ => ?_
    subst hr
    refine hR s₁ F₁ α' dn (step.trans (toXX nsub gsub st.step)) (P.inv.turn P.away st).1 (P.dat.step P.inv.ok.ti st.step (fun q => q P.nD)) (Nat.le_trans (Nat.le_add_right _ _) len) ?_
    have : K (dn ++ []) := hw
    rw [List.append_nil] at this; exact this
  | cons x xs =>
    refine anyE (rd s' F' pre) fun r s₁ ⟨v, hr, h₁⟩ => ?_
    subst hr
    refine anyE h₁ fun _ s₂ ⟨F₂, N₂, g₂, st, item, rdy⟩ => ?_
    obtain ⟨I₂, aw₂⟩ := P.inv.turn P.away st
    obtain ⟨oD, hDl⟩ := P.dat.live
    obtain ⟨μ, hn, _⟩ := P.inv.vars
    have n₂ : ∀ a, N₂ a ≠ none → N a ≠ none ∨ s.heap.get? a = none := fun a h => (st.nsub a h).elim (nsub a) fun q => by
      by_cases hx : (XX D env.locals N g s).ad a
      · rcases hx with rfl | rfl | hx | hx
        · rw [hDl] at q; cases q
        · obtain ⟨o, es, ep, eo, _⟩ := hn
          rw [eo] at q; cases q
        · exact .inl hx
        · exact .inr hx
      · exact .inr (step.live hx q)
    have g₂' : ∀ i, g₂ i ≠ none → g i ≠ none ∨ s.gens[i]? = none := fun i h => (st.gsub i h).elim (gsub i) fun q => by
      by_cases hx : (XX D env.locals N g s).ge i
      · exact hx
      · refine .inr ?_
        cases es : s.gens[i]? with
        | none => rfl
        | some z => exact nomatch q.symm.trans (step.gens i z hx es)
    have nD₂ : N₂ D = none := none_of_not fun o q => (st.nsub D (ne_none q)).elim (fun r => r P.nD) fun r => nomatch r.symm.trans hDl
    have st₂ := step.trans (toXX nsub gsub st.step)
    have dat₂ := P.dat.step P.inv.ok.ti st.step fun q => q P.nD
    refine bind_item htg hok P.R P.e I₂ st.nis item (wpBind_bd (show bodyC C tg fs restC ρ x _ from hw)) fun ρ₃ ⟨h₃, bd₃⟩ α₃ s₃ I₃ go₃ kp₃ => ?_
    have stk : Step W (XX D env.locals N g s) s₂ F₂ s₃ F₂ := step_kp I₃ kp₃ P.al go₃ (.inr (.inl rfl))
    have dat₃ : DAt W F₂ s₃.heap D (acc ++ dn) := dat₂.keep (fun o eo => kp₃ P.al D o P.dL eo) (fun _ _ e => e) (let ⟨_, _, _, _, o⟩ := dat₂; o)
    refine hT env F₂ ρ₃ s₃ A _ _ ⟨lo, _, α₃, I₃, P.e, P.R⟩ h₃ fun b₄ s₄ F₄ st₄ h₄ => ?_
    have I₄ := I₃.step st₄
    have dat₄ := dat₃.step I₃.ok.ti st₄ fun h => h
    have gis₄ : GHave g₂ s₄.gens := fun i z e => st₄.gens i z (fun h => h) (go₃.gens i z (st.gis i z e))
    have st₄' := (st₂.trans stk).trans st₄.weak
    have nl : ∀ {s : Shared} {F : Frz} {ρ} {α}, Inv W env T m lo F (Frz.or G N₂) α ρ s → ∀ a, N₂ a ≠ none → ∃ o, s.heap.get? a = some o := fun I a h => by
      cases q : N₂ a with
      | none => exact absurd q h
      | some o => exact ⟨o, I.gin.is a o (or_left q)⟩
    have hfor : ∀ j, ρ.at j = .unset ∨ ρ.at j = ρ₃.at j := fun j => by
      by_cases hj : j ∈ tg.idx
      · exact .inl (P.un j (hok j hj) (hdis j hj))
      · exact .inr (bd₃.at' j hj).symm
    have ndis₄ : ∀ a, N₂ a ≠ none → F₄ a = none := fun a h => let ⟨o, ho⟩ := nl I₃ a h; st₄.stays_out (fun h => h) ho (st.ndis a h)
    rw [List.length_cons, Nat.add_mul, Nat.one_mul] at len
    have next : ∀ s₆ F₆ α₆ r, Inv W env T m lo F₆ (Frz.or G N₂) α₆ ρ₃ s₆ → DAt W F₆ s₆.heap D (acc ++ dn ++ r) → FLe F₂ F₆ → GHave g₂ s₆.gens → (∀ a, N₂ a ≠ none → F₆ a = none) → Step W (XX D env.locals N g s) s F s₆ F₆ → r.length ≤ w → (wpItems (bodyC C tg fs restC ρ) xs fun rs => K (dn ++ (r ++ rs))) →
        Nx s₆ := fun s₆ F₆ α₆ r I₆ dt₆ le gis nd st₆ hr hk =>
      hN xs _ (Nat.lt_succ_self _) ⟨dn ++ r, F₆, N₂, g₂, α₆, ⟨P.e, P.al, P.R, I₆.forget bd₃.len.symm hfor, aw₂, gis, nd, nD₂, P.gD, P.dL, List.append_assoc .. ▸ dt₆, P.un, P.no⟩, rdy.le le, n₂, g₂', st₆, by rw [List.length_append]; lia, items_app hk⟩
    exact ⟨fun hb => hem s₄ F₄ _ α₃ ρ₃ (acc ++ dn) _ _ I₄ dat₄ (or_none.mpr ⟨P.gD, nD₂⟩) bd₃ (by rw [List.length_append]; lia) (h₄.t hb) fun s₆ F₆ α₆ r st₆ I₆ dt₆ hr hk =>
        next s₆ F₆ α₆ r I₆ dt₆ (fun a o e => st₆.le a o (st₄.le a o e)) (fun i z ez => st₆.gens i z (fun h => h.elim (fun h => h rfl) fun h => nomatch h.symm.trans (gis₄ i z ez)) (gis₄ i z ez))
          (fun a h => by
            obtain ⟨o, ho⟩ := nl I₄ a h
            refine st₆.stays_out (fun h' => ?_) ho (ndis₄ a h)
            rcases h' with rfl | rfl | h' | h'
            · exact h nD₂
            · exact h (or_none.mp I₄.lg).2
            · exact h' rfl
            · rw [ho] at h'; cases h')
          (st₄'.trans (st₆.sub (fun a h => by
            rcases h with rfl | rfl | h | h
            · exact .inl (.inl rfl)
            · exact .inl (.inr (.inl rfl))
            · exact absurd rfl h
            · exact .inr h) fun i h => by
            rcases h with h | h
            · exact absurd rfl h
            · exact .inr h)) hr hk,
      fun hb => next s₄ F₄ α₃ [] I₄ (List.append_nil _ ▸ dat₄) st₄.le gis₄ ndis₄ st₄' (Nat.zero_le _) (h₄.f hb)⟩
end
end Mine
namespace Mine
open PySem PySem.W PySem.W.X PyProof.Rows PySem.Calls
section
variable {W : Wd} {d : Nat} {T : Tab} {m lo : Nat} {C : Cx} {c : Cfg} {elt : Expr} {gens : List Comprehension} {scope : Scope} {pos : Pos} {depth : Nat} {gc : Comprehension} {tg : Tg} {fs : List XD} {used : List Nat}
theorem loop_of {env : Env} {F G N : Frz} {g : GMap} {α : Nat → Addr} {ρ : Rho} {s : Shared} {A : Around} {D : Addr} {acc : List V} {it : Value} {items : List V} {K : List V → Prop} {R : Result → Shared → Prop} {w : Nat} {rest : LD} {EM : (Shared → Prop) → Shared → Prop} (hg : gens[depth]? = some gc) (ha : gc.is_async = 0)
    (htg : TgIs T gc.target tg) (hok : tg.from lo) (hdis : ∀ i ∈ tg.idx, i ∉ used) (hT : OkTests W C d T m gc.ifs fun C => wpIfs C fs) (P : LpAt W d A env T m lo D G used F N g α ρ s acc) (rd : Ready W A gc.target it items F N g) (hmax : acc.length + items.length * w ≤ strMax)
    (hw : wpItems (bodyC C tg fs rest ρ) items K) (hR : LpOut W env T m lo D G N g ρ s F acc (items.length * w) K (R (.ok .next))) (hem : EmitOk W C env T m lo D ρ tg rest w EM)
    (hin : ∀ (γ : Type) (k : Sem γ) (Q : Shared → Prop) (Q' : γ → Shared → Prop) (E : Value → Shared → Prop) s, EM Q s → (∀ s, Q s → wpAny (model W.prog W.w) A k Q' E s) → wpAny (model W.prog W.w) A (insideOf elt gens scope pos depth (.ref D) env k) Q' E s) :
    codeAny (model W.prog W.w) A (.compLoop (.ListComp elt gens scope pos) depth it (.ref D) env) R s :=
  comp_loop (EM := EM) hg ha hin (fun n s' => ∃ r, r.length = n ∧ LoopSt W d A env T m lo D G used gc.target it ρ acc w (items.length * w) (bodyC C tg fs rest ρ) K s F N g r s')
    (fun n s' ⟨r, hn, L⟩ => loop_turn htg hok hdis hT hem hmax hR (fun r' s₁ hl L' => ⟨_, hn ▸ hl, r', rfl, L'⟩) L)
    items.length ⟨items, rfl, ⟨[], F, N, g, α, (List.append_nil acc).symm ▸ P, rd, fun a h => .inl h, fun i h => .inl h, Step.refl P.inv.ok P.inv.fin, Nat.le_of_eq (Nat.zero_add _), hw⟩⟩
theorem okLoop_last {x : XD} (hg : gens[depth]? = some gc) (ha : gc.is_async = 0) (hl : gens[depth + 1]? = none)
    (htg : TgIs T gc.target tg) (hok : tg.from lo) (hdis : ∀ i ∈ tg.idx, i ∉ used) (hT : OkTests W C d T m gc.ifs fun C => wpIfs C fs) (he : OkE W C d T m elt x.E) : OkLoop W C d T m lo elt gens scope pos depth gc tg fs (cDone x) 1 used := fun env F G N g α ρ s A D acc it items K R P rd _ hmax hw hR =>
  loop_of (EM := fun Q s => wpAny (model W.prog W.w) A (eval elt env) (fun x s₅ => wpAny (model W.prog W.w) A (call (.builtin "list.append") [.ref D, x]) (fun _ => Q) noE s₅) noE s) hg ha htg hok hdis hT P rd hmax hw hR
    (fun s F G α ρ' acc K Q I dt hG bd hsz hw q => he env F ρ' s A _ _ ⟨lo, _, α, I, P.e, P.R⟩ hw fun v s₅ F₅ r₅ st₅ q₅ h₅ =>
      dat_push (X := XX D env.locals noN noG s) (I.step st₅) (dt.step I.ok.ti st₅ fun h => h) P.dL hG q₅ (Nat.le_of_succ_le hsz) (.inl rfl) (fun x i xs hx h => P.no x i xs hx (bd.own i xs h)) fun s₆ I₆ dt₆ st₆ => q s₆ F₅ α [r₅] (st₅.weak.trans st₆) I₆ dt₆ (Nat.le_refl _) h₅)
    fun γ k Q Q' E s h hk => in_last hl hk h
theorem okLoop_inner {g' : Comprehension} {tg' : Tg} {fs' : List XD} {it' rest : LD} {w : Nat} {tp : Bool} (hg : gens[depth]? = some gc) (ha : gc.is_async = 0) (hl : gens[depth + 1]? = some g') (ha' : g'.is_async = 0)
    (htg : TgIs T gc.target tg) (hok : tg.from lo) (hdis : ∀ i ∈ tg.idx, i ∉ used) (hT : OkTests W C d T m gc.ifs fun C => wpIfs C fs) (hi : SndI W C d T m tp g'.iter it') (hft : tp = true → IsTupE g'.target)
    (hin : OkLoop W C d T m lo elt gens scope pos (depth + 1) g' tg' fs' rest w (tg.idx ++ used)) : OkLoop W C d T m lo elt gens scope pos depth gc tg fs (cClause tg' it' fs' rest) (4000 * w) used := fun env F G N g α ρ s A D acc it items K R P rd _ hmax hw hR =>
  loop_of (EM := fun Q s => wpAny (model W.prog W.w) A (eval g'.iter env) (fun x s₅ => wpAny (model W.prog W.w) A (pyIter x) (fun itv s₆ => codeAny (model W.prog W.w) A (.compStart (.ListComp elt gens scope pos) (depth + 1) itv (.ref D) env) (fun r s₇ => r = .ok .next ∧ Q s₇) s₆) noE s₅) noE s) hg ha htg hok hdis hT P rd hmax hw hR
    (fun s F G α ρ' acc K Q I dt hG bd hsz hw q => hi.i g'.target env F ρ' s A _ _ ⟨lo, _, α, I, P.e, P.R⟩ hft hw fun itv s₆ F₆ N₆ g₆ items' src ⟨⟨h₄⟩, hk⟩ => by
      obtain ⟨I₆, aw₆⟩ := I.src src
      obtain ⟨oD, hD⟩ := dt.live
      have le : items'.length * w ≤ 4000 * w := Nat.mul_le_mul_right _ h₄
      have run : codeAny (model W.prog W.w) A (.compLoop (.ListComp elt gens scope pos) (depth + 1) itv (.ref D) env) (fun r s₇ => r = .ok .next ∧ Q s₇) s₆ :=
        hin env F₆ G N₆ g₆ α ρ' s₆ A D acc itv items' K _ ⟨P.e, P.al, P.R, I₆, aw₆, src.gis, src.ndis, none_of_not fun o q => (nomatch (src.nnew D (ne_none q)).symm.trans hD), hG, P.dL, dt.step I.ok.ti src.step fun h => h,
          fun i hl hu => (bd.at' i fun h => hu (List.mem_append_left _ h)).trans (P.un i hl fun h => hu (List.mem_append_right _ h)), fun x i xs hx h => P.no x i xs hx (bd.own i xs h)⟩ src.ready h₄ (Nat.le_trans (Nat.add_le_add_left le _) hsz) hk
          fun s₈ F₈ α₈ r st₈ I₈ dt₈ hr hk₈ => ⟨rfl, q s₈ F₈ α₈ r (src.step.weak.trans (st₈.sub (fun a h => by
            rcases h with rfl | rfl | h | h
            · exact .inl (.inl rfl)
            · exact .inl (.inr (.inl rfl))
            · exact .inl (.inr (.inr (.inr (src.nnew a h))))
            · exact .inr h) fun i h => h.imp (fun h => .inr (src.gnew i h)) id)) I₈ dt₈ (Nat.le_trans hr le) hk₈⟩
      exact comp_start hl ha' run (src.self s₆ _ src.nis src.step.fin run))
    fun γ k Q Q' E s h hk => in_next hl ha' (fun x => hi.fold env x) hk h
end
end Mine
namespace Mine
open PySem PySem.W PySem.W.X PyProof.Rows PySem.Calls
noncomputable def closL (env : Env) : List (Str × NameKind) → List (Str × Addr) → List (Str × Addr)
  | [], acc => acc
  | (x, k) :: r, acc => if k == .free then closL env r ((x, (env.cells.lookup x).getD 0) :: acc) else closL env r acc
theorem closure_loop (env : Env) : ∀ (names : List (Str × NameKind)) (acc : List (Str × Addr)), (∀ x, (x, NameKind.free) ∈ names → ∃ c, env.cells.lookup x = some c) →
    (forIn names acc fun (p : Str × NameKind) cs => (match p with
      | (name, kind) => if (kind == .free) = true then (do let a ← cellOf env name; pure (ForInStep.yield ((name, a) :: cs))) else pure (ForInStep.yield cs) : Sem (ForInStep (List (Str × Addr))))) = pure (closL env names acc)
  | [], acc, _ => rfl
  | (x, k) :: r, acc, h => by
    rw [List.forIn_cons]
    unfold closL
    by_cases hk : (k == .free) = true
    · obtain ⟨c, hc⟩ := h x (eq_of_beq hk ▸ List.mem_cons_self)
      have e : cellOf env x = pure c := by unfold cellOf; rw [hc]
      rw [if_pos hk]
      show (if (k == .free) = true then (cellOf env x >>= fun a => pure (ForInStep.yield ((x, a) :: acc))) else _) >>= _ = _
      rw [if_pos hk, e, hc]
      exact closure_loop env r _ fun y hy => h y (List.mem_cons_of_mem _ hy)
    · rw [if_neg hk]
      show (if (k == .free) = true then _ else pure (ForInStep.yield acc)) >>= _ = _
      rw [if_neg hk]
      exact closure_loop env r _ fun y hy => h y (List.mem_cons_of_mem _ hy)
theorem closure_ok {scope : Scope} {env : Env} (h : ∀ x, (x, NameKind.free) ∈ scope.names → ∃ c, env.cells.lookup x = some c) : closureFor scope env = pure (closL env scope.names []) := by
  unfold closureFor
  have := closure_loop env scope.names [] h
  first
    | (rw [show (forIn scope.names ([] : List (Str × Addr)) _) = _ from this]; rfl)
    | (simp only [bind_pure]; exact this)
    | exact this
theorem closL_lookup (env : Env) (x : Str) : ∀ (names : List (Str × NameKind)) (acc : List (Str × Addr)), (closL env names acc).lookup x = if (x, NameKind.free) ∈ names then some ((env.cells.lookup x).getD 0) else acc.lookup x
  | [], acc => (if_neg (nomatch ·)).symm
  | (y, k) :: r, acc => by
    unfold closL
    have mr : (x, NameKind.free) ∈ (y, k) :: r ↔ (x, NameKind.free) = (y, k) ∨ (x, NameKind.free) ∈ r := List.mem_cons
    by_cases hk : (k == .free) = true
    · obtain rfl := eq_of_beq hk
      rw [if_pos hk, closL_lookup env x r, List.lookup_cons]
      by_cases hr : (x, NameKind.free) ∈ r
      · rw [if_pos hr, if_pos (mr.mpr (.inr hr))]
      · rw [if_neg hr]
        cases hxy : x == y with
        | true => obtain rfl := eq_of_beq hxy; rw [if_pos (mr.mpr (.inl rfl))]
        | false => rw [if_neg fun h => (mr.mp h).elim (fun q => by cases q; rw [beq_self_eq_true] at hxy; cases hxy) hr]
    · rw [if_neg hk, closL_lookup env x r]
      by_cases hr : (x, NameKind.free) ∈ r
      · rw [if_pos hr, if_pos (mr.mpr (.inr hr))]
      · rw [if_neg hr, if_neg fun h => (mr.mp h).elim (fun q => by cases q; exact hk rfl) hr]
theorem lookup_map {g : Str × NameKind → Str × NameKind} (hg : ∀ p, (g p).1 = p.1) (x : Str) : ∀ l : List (Str × NameKind), (l.map g).lookup x = (l.lookup x).map fun k => (g (x, k)).2
  | [] => rfl
  | (n, k) :: r => by
    have e : g (n, k) = (n, (g (n, k)).2) := Prod.ext (hg _) rfl
    rw [List.map_cons, e, List.lookup_cons, List.lookup_cons]
    cases hx : x == n with
    | true => obtain rfl := eq_of_beq hx; rfl
    | false => exact lookup_map hg x r
theorem lookup_of_nodup {x : Str} {k : NameKind} : ∀ {names : List (Str × NameKind)}, (names.map (·.1)).Nodup → (x, k) ∈ names → names.lookup x = some k
  | [], _, h => nomatch h
  | (y, j) :: r, hn, h => by
    rw [List.map_cons, List.nodup_cons] at hn
    rw [List.lookup_cons]
    rcases List.mem_cons.mp h with e | h'
    · cases e; rw [beq_self_eq_true]
    · have : (x == y) = false := beq_eq_false_iff_ne.mpr fun q => hn.1 (q ▸ List.mem_map.mpr ⟨_, h', rfl⟩)
      rw [this]
      exact lookup_of_nodup hn.2 h'
theorem mem_lookup {β : Type} {x : Str} {b : β} : ∀ {l : List (Str × β)}, l.lookup x = some b → (x, b) ∈ l
  | [], h => nomatch h
  | (y, c) :: r, h => by
    rw [List.lookup_cons] at h
    cases hx : x == y with
    | true => rw [hx] at h; cases h; obtain rfl := eq_of_beq hx; exact List.mem_cons_self
    | false => rw [hx] at h; exact List.mem_cons_of_mem _ (mem_lookup h)
noncomputable def relK (env : Env) (p : Str × NameKind) : Str × NameKind := match p with
  | (n, k) => if (k == NameKind.free && env.scope.kind == .function && env.kindOf n == some .cell) then (n, NameKind.cell) else (n, k)
theorem relK_fst (env : Env) (p : Str × NameKind) : (relK env p).1 = p.1 := by
  obtain ⟨n, k⟩ := p
  show (if _ then _ else _ : Str × NameKind).1 = n
  split <;> rfl
noncomputable def compTab (vars : List (Str × Nat)) (scope : Scope) : Tab := ⟨vars, globsOf scope.names, celOf scope.names⟩
structure Blk (T : Tab) (m : Nat) (scope : Scope) (vars : List (Str × Nat)) : Prop where
  tr : CompF T m scope.names vars
  kind : scope.kind = .function
  nodup : (scope.names.map (·.1)).Nodup
section
variable {W : Wd} {d : Nat} {env : Env} {T : Tab} {m lo : Nat} {F F' G N N' : Frz} {g g' : GMap} {α : Nat → Addr} {ρ ρ' : Rho} {s s' : Shared} {A : Around} {C : Cx} {c : Cfg} {scope : Scope} {vars : List (Str × Nat)} {Cd : Addr}
noncomputable def cenv (scope : Scope) (Cd : Addr) (env : Env) : Env := compEnvC scope (closL env scope.names []) Cd env
theorem Blk.free (b : Blk T m scope vars) (e : EnvOk env T) {x : Str} (h : (x, .free) ∈ scope.names) : (env.kindOf x = some .cell ∨ env.kindOf x = some .free) ∧ ∃ c, env.cells.lookup x = some c := e.cel x (List.contains_iff_mem.mp (b.tr.free x h))
theorem Blk.cell (b : Blk T m scope vars) (e : EnvOk env T) {x : Str} {c : Addr} (h : (cenv scope Cd env).cells.lookup x = some c) : (x, .free) ∈ scope.names ∧ env.cells.lookup x = some c := by
  have h' : (closL env scope.names []).lookup x = some c := h
  rw [closL_lookup] at h'
  split at h'
  · rename_i hx
    obtain ⟨c', hc⟩ := (b.free e hx).2
    rw [hc] at h'
    exact ⟨hx, hc.trans h'⟩
  · cases h'
theorem Blk.cell' {x : Str} {c : Addr} (hx : (x, .free) ∈ scope.names) (h : env.cells.lookup x = some c) : (cenv scope Cd env).cells.lookup x = some c := by
  show (closL env scope.names []).lookup x = some c
  rw [closL_lookup, if_pos hx, h]; rfl
theorem Blk.kindOf (b : Blk T m scope vars) {x : Str} {k : NameKind} (h : (x, k) ∈ scope.names) : (cenv scope Cd env).kindOf x = some (relK env (x, k)).2 := by
  show (scope.names.map (relK env)).lookup x = _
  rw [lookup_map (relK_fst env), lookup_of_nodup b.nodup h]; rfl
theorem Blk.kfree (b : Blk T m scope vars) {x : Str} (h : (x, .free) ∈ scope.names) : (cenv scope Cd env).kindOf x = some .cell ∨ (cenv scope Cd env).kindOf x = some .free := by
  rw [b.kindOf h]
  show some (if _ then _ else _ : Str × NameKind).2 = _ ∨ some (if _ then _ else _ : Str × NameKind).2 = _
  split
  · exact .inl rfl
  · exact .inr rfl
theorem mem_celOf {names : List (Str × NameKind)} {x : Str} (h : x ∈ celOf names) : (x, .cell) ∈ names ∨ (x, .free) ∈ names := by
  obtain ⟨⟨y, k⟩, hp, rfl⟩ := List.mem_map.mp h
  obtain ⟨hp, hk⟩ := List.mem_filter.mp hp
  rcases Bool.or_eq_true_iff.mp hk with h | h
  · exact .inl (eq_of_beq h ▸ hp)
  · exact .inr (eq_of_beq h ▸ hp)
theorem mem_globsOf {names : List (Str × NameKind)} {x : Str} (h : x ∈ globsOf names) : (x, .globalImplicit) ∈ names := by
  obtain ⟨⟨y, k⟩, hp, rfl⟩ := List.mem_map.mp h
  obtain ⟨hp, hk⟩ := List.mem_filter.mp hp
  exact eq_of_beq hk ▸ hp
theorem Blk.envOk (b : Blk T m scope vars) (e : EnvOk env T) : EnvOk (cenv scope Cd env) (compTab vars scope) where
  cel := fun x hx => (mem_celOf hx).elim (fun h => absurd h (b.tr.cell x)) fun h => let ⟨_, c, hc⟩ := b.free e h; ⟨b.kfree h, c, Blk.cell' h hc⟩
  kind := b.kind
  globals := e.globals
  builtins := e.builtins
  glob := fun x hx => b.kindOf (mem_globsOf hx)
theorem Blk.allLoc (b : Blk T m scope vars) (hT : ∀ x i, T.vars.lookup x = some i → i < m) : AllLoc (cenv scope Cd env) (compTab vars scope) m := fun x i h hl => (b.tr.mem x i (mem_lookup h)).elim (fun h => b.kindOf h.1) fun h => absurd (hT x i h.2) (Nat.not_lt.mpr hl)
theorem app_at {k i : Nat} (h : i < ρ.length) : Rho.at (ρ ++ List.replicate k Slot.unset) i = ρ.at i := by
  rw [at_get, at_get, List.getElem?_append_left h]
theorem app_at_new {k i : Nat} (h : ρ.length ≤ i) : Rho.at (ρ ++ List.replicate k Slot.unset) i = .unset := by
  rw [at_get, List.getElem?_append_right h]
  cases e : (List.replicate k Slot.unset)[i - ρ.length]? with
  | none => rfl
  | some x => exact (List.mem_replicate.mp (List.mem_of_getElem? e)).2
theorem comp_inv {h₁ : Heap} {t : Nat} {o : Obj} (b : Blk T m scope vars) (e : EnvOk env T) (I : Inv W env T m lo F G α ρ s) (hfv : ∀ x i xs, (x, i) ∈ vars → i < m → ρ.at i ≠ .own xs)
    (hs : Heap.SameBut s.heap.objs.size (s.heap.push o) h₁) {μ} (hn : h₁.Ns s.heap.objs.size μ) (kp : ∀ a o, s.heap.get? a = some o → h₁.get? a = some o) :
    Inv W (cenv scope s.heap.objs.size env) (compTab vars scope) (m + compN scope.names) m F G α (ρ ++ List.replicate (compN scope.names) .unset) { s with heap := h₁, toks := t } ∧
    ∀ x i xs, (compTab vars scope).vars.lookup x = some i → Rho.at (ρ ++ List.replicate (compN scope.names) Slot.unset) i ≠ .own xs := by
  have fresh : ∀ {F : Frz}, FOk W F s.heap → F s.heap.objs.size = none := fun f => none_of_not fun ob q => Nat.lt_irrefl _ (Heap.lt_size (f.is _ _ q))
  obtain ⟨μ₀, hn₀, hv₀⟩ := I.vars
  have hno : ∀ x i xs, (compTab vars scope).vars.lookup x = some i → Rho.at (ρ ++ List.replicate (compN scope.names) Slot.unset) i ≠ .own xs := fun x i xs hx h => by
    by_cases hi : i < m
    · rw [app_at (I.rl ▸ hi)] at h
      exact hfv x i xs (mem_lookup hx) hi h
    · rw [app_at_new (I.rl ▸ Nat.le_of_not_lt hi)] at h; cases h
  refine ⟨⟨I.fb, I.ok.of kp, ⟨fun a ob ea => kp a ob (I.fin.is _ _ ea), I.fin.tab⟩, ⟨fun a ob ea => kp a ob (I.gin.is _ _ ea), I.gin.tab⟩, fresh I.fin, fresh I.gin, by rw [List.length_append, List.length_replicate, I.rl],
    fun x i hx => (b.tr.mem x i (mem_lookup hx)).elim (fun h => h.2.2) fun h => Nat.lt_of_lt_of_le (I.len x i h.2) (Nat.le_add_right _ _), fun x y i hx hy => b.tr.inj m I.len I.inj (Nat.le_refl m) x y i (mem_lookup hx) (mem_lookup hy),
    fun x y c hx hy => I.cinj x y c (b.cell e hx).2 (b.cell e hy).2, fun x i hx hl => .inl (b.allLoc I.len x i hx hl), ⟨μ, hn, fun x i hx => ?_⟩, fun x y i j xs ys hx hy hij hi hj => absurd hi (hno x i xs hx), fun x c hx => let ⟨ob, ho⟩ := I.clive x c (b.cell e hx).2; ⟨ob, kp c ob ho⟩⟩, hno⟩
  have hno' := hno x i
  rcases b.tr.mem x i (mem_lookup hx) with ⟨_, h1, h2⟩ | ⟨hf, h⟩
  · rw [app_at_new (I.rl ▸ h1)]; exact trivial
  · have hv := hv₀ x i h
    rw [app_at (I.rl ▸ I.len x i h)] at hno' ⊢
    cases hρ : ρ.at i with
    | unset => exact trivial
    | own xs => exact absurd hρ (hno' xs hx)
    | val v =>
      rw [hρ] at hv
      obtain ⟨val, hh, r⟩ := hv
      refine ⟨val, .inr ?_, r⟩
      rcases hh with ⟨k, _⟩ | ⟨_, c, hc, hv⟩
      · rcases (b.free e hf).1 with q | q <;> rw [k] at q <;> cases q
      · exact ⟨b.kfree hf, c, Blk.cell' hf hc, hv.keeps kp⟩
theorem Inv.app (I : Inv W env T m lo F G α ρ s) (k : Nat) : Inv W env T (m + k) lo F G α (ρ ++ List.replicate k .unset) s := by
  obtain ⟨μ, hn, hv⟩ := I.vars
  have at' : ∀ x i, T.vars.lookup x = some i → Rho.at (ρ ++ List.replicate k Slot.unset) i = ρ.at i := fun x i h => app_at (I.rl ▸ I.len x i h)
  exact { I with
    rl := by rw [List.length_append, List.length_replicate, I.rl]
    len := fun x i h => Nat.lt_of_lt_of_le (I.len x i h) (Nat.le_add_right _ _)
    vars := ⟨μ, hn, fun x i h => (at' x i h).symm ▸ hv x i h⟩
    apart := fun x y i j xs ys hx hy hij hi hj => I.apart x y i j xs ys hx hy hij (at' x i hx ▸ hi) (at' y j hy ▸ hj) }
theorem step_other {b : Addr} {h' : Heap} {μ} (st : Step W noX s F s' F') (fb : FLe W.base F') (h0 : s.heap.get? b = none) (hF : F' b = none) (hn : s'.heap.Ns b μ) (hs : Heap.SameBut b s'.heap h') : Step W noX s F { s' with heap := h' } F' :=
  have m := mod_ok st.ok fb st.fin hF (nr_ns hn) hs
  have st₂ : Step W ⟨fun a => a = b, fun _ => False⟩ s' F' { s' with heap := h' } F' := ⟨m.1, m.2, fun _ _ e => e, fun _ _ e => .inl e, fun a o _ h e => hs.extBut a o h e, rfl, fun _ _ _ e => e, fun e => e⟩
  (st.weak.trans st₂).sub (fun a h => .inr ((show a = b from h) ▸ h0)) fun _ h => h.elim
end
end Mine
namespace Mine
open PySem PySem.W PySem.W.X PyProof.Rows PySem.Calls
section
variable {W : Wd} {d : Nat} {env : Env} {T : Tab} {m lo : Nat} {F F' G N N' : Frz} {g g' : GMap} {α : Nat → Addr} {ρ ρ' : Rho} {s s' : Shared} {A : Around} {C : Cx} {c : Cfg} {scope : Scope} {vars : List (Str × Nat)}
structure CompIs (W : Wd) (C : Cx) (d : Nat) (T : Tab) (m : Nat) (elt : Expr) (gc : Comprehension) (gs : List Comprehension) (scope : Scope) (pos : Pos) (vars : List (Str × Nat)) (tg : Tg) (it : LD) (fs : List XD) (rest : LD) : Prop where
  blk : Blk T m scope vars
  ha : gc.is_async = 0
  it : ∃ tp, SndI W C d T (m + compN scope.names) tp gc.iter it ∧ (tp = true → IsTupE gc.target)
  loop : ∃ w, w ≤ 4000 ∧ OkLoop W C d (compTab vars scope) (m + compN scope.names) m elt (gc :: gs) scope pos 0 gc tg fs rest w []
noncomputable def outs (vars : List (Str × Nat)) (m : Nat) : List Nat := (vars.map (·.2)).filter (· < m)
inductive CompRes (W : Wd) (s : Shared) (F : Frz) (K : List V → Prop) (D Cd : Addr) (s' : Shared) : Prop
  | mk (F' : Frz) (vs : List V) (μ : Str → Option Value) (st : Step W noX s F s' F') (r : Rel W F' (.ref D) (.list vs)) (k : K vs) (c0 : s.heap.get? Cd = none) (hF : F' Cd = none) (hn : s'.heap.Ns Cd μ)
noncomputable abbrev emptyL : Obj := { cls := .type "list", data := .seq ([] : List Value).toArray }
theorem comp_core {elt : Expr} {pos : Pos} {gc : Comprehension} {gs : List Comprehension} {tg : Tg} {it : LD} {fs : List XD} {rest : LD} {K : List V → Prop} {use : Option (Value → Sem Unit)} {Q : Value → Shared → Prop}
    (I : Inv W env T m lo F G α ρ s) (e : EnvOk env T) (R : Room A d) (c : CompIs W C d T m elt gc gs scope pos vars tg it fs rest) (hfv : ((outs vars m).all fun i => !(ρ.at i).isOwn) = true) (hk : cClause tg it fs rest C (ρ ++ List.replicate (compN scope.names) .unset) K)
    (hQ : ∀ s' D Cd, CompRes W s F K D Cd s' → compPost (model W.prog W.w) A noE use Q (.ref D) Cd (.ok .next) s') :
    wpAny (model W.prog W.w) A (comprehension (.ListComp elt (gc :: gs) scope pos) scope env (firstIterPos (gc :: gs) pos) (newList []) false (eval gc.iter env) use) Q noE s := by
  obtain ⟨b, ha, ⟨tp, hi, hft⟩, ⟨w, hw, hloop⟩⟩ := c
  refine wpAny_comprehension_free rfl (fun x => hi.fold env x) (closure_ok fun x h => (b.free e h).2) b.kind (fun x hx hl => lookup_of_nodup b.nodup (hl ▸ hx)) ?_
  refine hi.i gc.target env F _ s A _ _ ⟨lo, G, α, I.app _, e, R⟩ hft hk fun itv s₂ F₂ N g items src ⟨⟨h₄⟩, hk⟩ => ?_
  obtain ⟨I₂, aw₂⟩ := I.src src
  have I₂' : Inv W env T m lo F₂ (Frz.or noN N) α ρ s₂ := I₂.reG ⟨fun a o eo => (or_some eo).elim (src.nis.is _ _) fun q => (nomatch q), fun a hm => or_none.mpr ⟨rfl, src.nis.tab a hm⟩⟩ fun a h _ => or_none.mpr ⟨rfl, (or_none.mp h).2⟩
  refine wpAny_newList ?_ (Nat.zero_le _)
  have stD : Step W noX s₂ F₂ { s₂ with heap := s₂.heap.push emptyL } F₂ := Step.alloc src.step.ok src.step.fin _
  have hD0 : (s₂.heap.push emptyL).get? s₂.heap.objs.size = some (listObj [] 0) := Heap.get?_push_size _ rfl
  refine wpAny_newFunctionEnv (fun x hx hc => ?_) (fun x hx => nomatch hx) (fun h₁ hn hs => ?_) b.kind
  · exact b.tr.cell x.1 (by rw [← hc]; exact hx)
  have hsz : (s₂.heap.push emptyL).objs.size = s₂.heap.objs.size + 1 := Heap.size_push ..
  have kp : ∀ a o, (s₂.heap.push emptyL).get? a = some o → h₁.get? a = some o := fun a ob ea => hs.extBut a ob (Nat.ne_of_lt (Heap.lt_size ea)) (Heap.get?_push_of_some _ ea)
  obtain ⟨I₄, hno⟩ := comp_inv (s := { s₂ with heap := s₂.heap.push emptyL }) (t := s₂.toks + ([] : List (Str × Value)).length) b e (I₂'.step stD) (fun x i xs hx hl h => by
    have := List.all_eq_true.mp hfv i (List.mem_filter.mpr ⟨List.mem_map.mpr ⟨_, hx, rfl⟩, decide_eq_true hl⟩)
    rw [h] at this; cases this) hs hn kp
  have fresh : ∀ {F : Frz}, FOk W F s₂.heap → F s₂.heap.objs.size = none := fun f => none_of_not fun ob q => Nat.lt_irrefl _ (Heap.lt_size (f.is _ _ q))
  have run : codeAny (model W.prog W.w) A (.compLoop (.ListComp elt (gc :: gs) scope pos) 0 itv (.ref s₂.heap.objs.size) (cenv scope (s₂.heap.push emptyL).objs.size env))
      (compPost (model W.prog W.w) A noE use Q (.ref s₂.heap.objs.size) (s₂.heap.push emptyL).objs.size) { s₂ with heap := h₁, toks := s₂.toks + ([] : List (Str × Value)).length } := by
    refine hloop _ F₂ noN N g α _ _ A s₂.heap.objs.size [] itv items K _ ⟨b.envOk e, b.allLoc I.len, R, I₄, ⟨fun _ _ => rfl, fun x c hc => aw₂.cells x c (b.cell e hc).2⟩, src.gis, src.ndis, fresh src.nis, rfl, ?_, ⟨[], 0, kp _ _ hD0, .nil, fresh src.step.fin⟩, fun i hl _ => app_at_new (I.rl ▸ hl), hno⟩ src.ready h₄ ?_ hk ?_
    · show s₂.heap.objs.size ≠ (s₂.heap.push _).objs.size
      rw [hsz]; exact Nat.ne_of_lt (Nat.lt_succ_self _)
    · rw [List.length_nil, Nat.zero_add]
      exact Nat.mul_le_mul h₄ hw
    · intro s' F' α' r st' I' dt' hr hk'
      have hDs : s.heap.get? s₂.heap.objs.size = none := src.step.live (fun h => h) (get_size_none _)
      have hCs : s.heap.get? (s₂.heap.push emptyL).objs.size = none := src.step.live (fun h => h) (stD.live (fun h => h) (get_size_none _))
      have st₄ : Step W noX s F { s₂ with heap := h₁, toks := s₂.toks + ([] : List (Str × Value)).length } F₂ := (src.step.trans stD).trans (Step.kept stD.ok stD.fin h₁ _ kp)
      have ST : Step W noX s F s' F' := (st₄.weak.trans st').sub (fun a h => .inr (by
        rcases h with rfl | rfl | h | h
        · exact hDs
        · exact hCs
        · exact src.nnew a h
        · exact st₄.live (fun h => h) h)) fun i h => .inr (h.elim (src.gnew i) fun h => by
        cases q : s.gens[i]? with
        | none => rfl
        | some x => exact nomatch h.symm.trans (st₄.gens i x (fun h => h) q))
      obtain ⟨its, n, eD, rD, out⟩ := dt'
      obtain ⟨μ, hnC, _⟩ := I'.vars
      refine hQ s' _ _ ⟨_, r, μ, ST.know eD hDs out (list_no_tab I'.ok.ti eD), .list (Frz.put_self ..) (rD.mono (Frz.put_le out)), hk', hCs, ?_, hnC⟩
      unfold Frz.put
      rw [if_neg (by rw [hsz]; exact Nat.succ_ne_self _)]
      exact I'.lf
  exact comp_start (gc := gc) rfl ha run (src.self _ _ ⟨fun a o eo => kp a o (Heap.get?_push_of_some _ (src.nis.is _ _ eo)), src.nis.tab⟩ ⟨fun a o eo => kp a o (Heap.get?_push_of_some _ (src.step.fin.is _ _ eo)), src.step.fin.tab⟩ run)
theorem s_comp {elt : Expr} {pos : Pos} {gc : Comprehension} {gs : List Comprehension} {tg : Tg} {it : LD} {fs : List XD} {rest : LD} (c : CompIs W C d T m elt gc gs scope pos vars tg it fs rest) :
    SndE W C d T m (.ListComp elt (gc :: gs) scope pos) (xComp (compN scope.names) (outs vars m) (cClause tg it fs rest)) :=
  all3 (fun env F ρ s A K Q a ⟨⟨hfv⟩, hk⟩ k => by
    obtain ⟨lo, G, α, I, e, R⟩ := a
    rw [eval_ListComp]
    obtain ⟨gt, gi, gf, ga⟩ := gc
    have e0 : firstAsync (⟨gt, gi, gf, ga⟩ :: gs) = false := by
      show (ga != 0) = false; rw [show ga = 0 from c.ha]; rfl
    rw [e0]
    exact comp_core (use := none) I e R c hfv hk fun s' D Cd ⟨F', vs, μ, st, r, hk', h0, hF, hn⟩ => ⟨μ, hn, fun h' hs => k _ _ F' _ (step_other st (fun a o ea => st.le a o (I.fb a o ea)) h0 hF hn hs) r hk'.2⟩)
    ⟨fun _ _ => rfl, fun _ => rfl, .inl fun _ _ => rfl, fun _ _ => rfl⟩ fun _ _ => rfl
end
end Mine
namespace Mine
open PySem PySem.W PySem.W.X PyProof.Rows PySem.Calls
inductive StAt (W : Wd) (d : Nat) (env : Env) (T : Tab) (m : Nat) (F G : Frz) (ρ : Rho) (s : Shared) (A : Around) : Prop
  | mk (α : Nat → Addr) (inv : Inv W env T m 0 F G α ρ s) (env : EnvOk env T) (room : Room A d)
structure KF (W : Wd) (d : Nat) (env : Env) (T : Tab) (m : Nat) (G : Frz) (A : Around) (F : Frz) (s : Shared) (KN : Rho → Prop) (KR : V → Prop) (Q : Flow → Shared → Prop) : Prop where
  n : ∀ F' ρ' s', Run G s F s' F' → StAt W d env T m F' G ρ' s' A → KN ρ' → Q .next s'
  r : ∀ F' ρ' s' v x, Run G s F s' F' → StAt W d env T m F' G ρ' s' A → Rel W F' v x → KR x → Q (.ret v) s'
section
variable (W : Wd) (C : Cx) (d : Nat) (T : Tab) (m : Nat)
noncomputable def OkS (st : Stmt) (x : SD) : Prop := ∀ (env : Env) (F G : Frz) (ρ : Rho) (s : Shared) (A : Around) (KN : Rho → Prop) (KR : V → Prop) (Q : Flow → Shared → Prop), StAt W d env T m F G ρ s A → x C ρ KN KR → KF W d env T m G A F s KN KR Q → wpAny (model W.prog W.w) A (exec st env) Q noE s
noncomputable def OkSs (st : List Stmt) (x : List SD) : Prop := ∀ (env : Env) (F G : Frz) (ρ : Rho) (s : Shared) (A : Around) (KN : Rho → Prop) (KR : V → Prop) (Q : Flow → Shared → Prop), StAt W d env T m F G ρ s A → wpSs C x ρ KN KR → KF W d env T m G A F s KN KR Q → wpAny (model W.prog W.w) A (execs st env) Q noE s
noncomputable def KnO (F : Frz) (s : Shared) (K : List V → Prop) (Q : Value → Shared → Prop) : Prop := ∀ (a : Addr) (s' : Shared) (F' : Frz) (items : List Value) (n : Nat) (xs : List V), Step W noX s F s' F' → F' a = none → s.heap.get? a = none → s'.heap.get? a = some (listObj items n) → RelL W F' items xs → K xs → Q (.ref a) s'
noncomputable def OkFr (e : Expr) (f : LD) : Prop := ∀ (env : Env) (F : Frz) (ρ : Rho) (s : Shared) (A : Around) (K : List V → Prop) (Q : Value → Shared → Prop), At W d env T m F ρ s A → f C ρ K → KnO W F s K Q → wpAny (model W.prog W.w) A (eval e env) Q noE s
end
noncomputable def NoSwap (e : Expr) : Prop := ∀ env t line, swapsWith e t line env = pure false
noncomputable def noSwapV (e : Expr) : Rs (fun _ : Unit => NoSwap e) := onE e none (boo := fun _ _ _ h => some ⟨(), h ▸ fun _ _ _ => rfl⟩) (bin := fun _ _ _ _ h => some ⟨(), h ▸ fun _ _ _ => rfl⟩) (un := fun _ _ _ h => some ⟨(), h ▸ fun _ _ _ => rfl⟩) (ite := fun _ _ _ _ h => some ⟨(), h ▸ fun _ _ _ => rfl⟩)
  (cmp := fun _ _ _ _ h => some ⟨(), h ▸ fun _ _ _ => rfl⟩) (call := fun _ _ _ _ h => some ⟨(), h ▸ fun _ _ _ => rfl⟩) (const := fun _ _ _ h => some ⟨(), h ▸ fun _ _ _ => rfl⟩) (attr := fun _ _ _ h => some ⟨(), h ▸ fun _ _ _ => rfl⟩)
  (sub := fun _ _ _ h => some ⟨(), h ▸ fun _ _ _ => rfl⟩) (name := fun _ _ h => some ⟨(), h ▸ fun _ _ _ => rfl⟩) (list := fun _ _ h => some ⟨(), h ▸ fun _ _ _ => rfl⟩) (tup := fun _ _ _ h => some ⟨(), h ▸ fun _ _ _ => rfl⟩) (slice := fun _ _ _ _ h => some ⟨(), h ▸ fun _ _ _ => rfl⟩)
section
variable {W : Wd} {d : Nat} {env : Env} {T : Tab} {m : Nat} {F F' G : Frz} {ρ : Rho} {s s' : Shared} {A : Around} {C : Cx} {c : Cfg} {KN : Rho → Prop} {KR : V → Prop} {Q : Flow → Shared → Prop}
theorem StAt.at (a : StAt W d env T m F G ρ s A) : At W d env T m F ρ s A := let ⟨α, I, e, R⟩ := a; ⟨0, G, α, I, e, R⟩
theorem StAt.step (a : StAt W d env T m F G ρ s A) (st : Step W noX s F s' F') : StAt W d env T m F' G ρ s' A := let ⟨α, I, e, R⟩ := a; ⟨α, I.step st, e, R⟩
theorem StAt.run (a : StAt W d env T m F G ρ s A) (st : Step W noX s F s' F') : Run G s F s' F' := let ⟨_, I, _, _⟩ := a; Run.of_step I.gin st
theorem StAt.room (a : StAt W d env T m F G ρ s A) : Room A d := let ⟨_, _, _, R⟩ := a; R
theorem KF.after (k : KF W d env T m G A F s KN KR Q) (r : Run G s F s' F') : KF W d env T m G A F' s' KN KR Q := ⟨fun F₂ ρ₂ s₂ r₂ => k.n F₂ ρ₂ s₂ (r.trans r₂), fun F₂ ρ₂ s₂ v x r₂ => k.r F₂ ρ₂ s₂ v x (r.trans r₂)⟩
theorem ss_nil : OkSs W C d T m [] [] := fun env F G ρ s A KN KR Q a h k => wpAny_execs_nil (k.n F ρ s Run.refl a h)
theorem ss_cons {st : Stmt} {r : List Stmt} {x : SD} {xs : List SD} (h : OkS W C d T m st x) (hr : OkSs W C d T m r xs) : OkSs W C d T m (st :: r) (x :: xs) := fun env F G ρ s A KN KR Q a q k =>
  wpAny_execs_cons (h env F G ρ s A _ KR _ a q ⟨fun F₁ ρ₁ s₁ r₁ a₁ k₁ => hr env F₁ G ρ₁ s₁ A KN KR Q a₁ k₁ (k.after r₁), fun F₁ ρ₁ s₁ v x r₁ a₁ rr kk => k.r F₁ ρ₁ s₁ v x r₁ a₁ rr kk⟩)
theorem st_ret {ex : Expr} {x : XD} {pos : Pos} (h : SndE W C d T m ex x) : OkS W C d T m (.Return (some ex) pos) (sRet x) := fun env F G ρ s A KN KR Q a q k =>
  wpAny_Return_some (h.v env F ρ s A _ _ a.at q fun v s₁ F₁ r st rr kk => k.r F₁ ρ s₁ v r (a.run st) (a.step st) rr kk)
theorem st_if {t : Expr} {x : XD} {a b : List Stmt} {xa xb : List SD} {pos : Pos} (ht : SndE W C d T m t x) (ha : OkSs W C d T m a xa) (hb : OkSs W C d T m b xb) : OkS W C d T m (.If t a b pos) (sIf x xa xb) := fun env F G ρ s A KN KR Q p q k =>
  wpAny_If (ht.t env F ρ s A _ _ p.at q fun v s₁ F₁ st h₁ => match v, h₁ with
    | true, h₁ => ha env F₁ G ρ s₁ A KN KR Q (p.step st) (h₁.t rfl) (k.after (p.run st))
    | false, h₁ => hb env F₁ G ρ s₁ A KN KR Q (p.step st) (h₁.f rfl) (k.after (p.run st)))
theorem st_assert {t : Expr} {x : XD} {pos : Pos} (ht : SndE W C d T m t x) : OkS W C d T m (.Assert t none pos) (sAssert x) := fun env F G ρ s A KN KR Q p q k =>
  wpAny_Assert_new p.room.handled (ht.t env F ρ s A _ _ p.at q fun v s₁ F₁ st ⟨h₁, h₂⟩ => by
    subst h₁
    exact k.n F₁ ρ s₁ (p.run st) (p.step st) h₂)
theorem st_dead {st : Stmt} : OkS W C d T m st sDead := fun env F G ρ s A KN KR Q p q k => q.elim
theorem KF.store {s₁ : Shared} {F₁ : Frz} {y : Str} {i : Nat} {v : Value} {x : V} (k : KF W d env T m G A F s KN KR Q) (p : StAt W d env T m F G ρ s A) (hy : T.at y = some i) (st : Step W noX s F s₁ F₁) (r : Rel W F₁ v x) (h : KN (ρ.set i (.val x))) : wpAny (model W.prog W.w) A (storeName env y v) (fun _ s' => Q .next s') noE s₁ := by
  have rn := p.run st
  obtain ⟨α, I, e, R⟩ := p.step st
  exact st_slot I e (at_name hy).1 (Nat.zero_le _) (.val (b := 0) r) fun s₂ I₂ r₂ _ => k.n F₁ _ s₂ (rn.trans r₂) ⟨_, I₂, e, R⟩ h
theorem st_aug {y : Str} {i : Nat} {op : Operator} {f : V → V → VK} {ex : Expr} {x : XD} {np pos : Pos} (hy : T.at y = some i) (ho : AugOk op f) (h : SndE W C d T m ex x) : OkS W C d T m (.AugAssign (.Name y np) op ex pos) (sAug i f x) := fun env F G ρ s A KN KR Q p q k =>
  wpAny_AugAssign_Name (load_var p.at hy q fun val v r q => h.v env F ρ s A _ _ p.at q fun u s₁ F₁ r₁ st₁ q₁ h₁ => ho W noX s₁ F₁ A val u _ _ _ _ (p.at.of.step st₁) (r.mono st₁.le) q₁ h₁ fun w s₂ F₂ r₂ st₂ q₂ h₂ => k.store p hy (st₁.trans st₂) q₂ h₂)
theorem st_assign {y : Str} {i : Nat} {ex : Expr} {x : XD} {np pos : Pos} (hy : T.at y = some i) (hs : NoSwap ex) (h : SndE W C d T m ex x) : OkS W C d T m (.Assign [.Name y np] ex pos) (sAssign i (rVal x)) := fun env F G ρ s A KN KR Q p q k =>
  wpAny_Assign_Name (h.v env F ρ s A _ _ p.at q fun v s₁ F₁ r₁ st₁ q₁ h₁ => k.store p hy st₁ q₁ h₁) (hs _ _ _)
theorem Inv.other {lo : Nat} {α : Nat → Addr} {b : Addr} {h' : Heap} {μ'} (I : Inv W env T m lo F G α ρ s) (hF : F b = none) (hG : G b = none) (hl : b ≠ env.locals) (hc : ∀ x c, env.cells.lookup x = some c → c ≠ b) (hnb : s.heap.Ns b μ') (hs : Heap.SameBut b s.heap h') : Inv W env T m lo F G α ρ { s with heap := h' } := by
  obtain ⟨μ, hn, hv⟩ := I.vars
  have cellk : ∀ x c w, env.cells.lookup x = some c → s.heap.IsCell c w → h'.IsCell c w := fun x c w hx q => q.sameBut hs (hc x c hx)
  have nr := nr_ns hnb
  have ok := mod_ok I.ok I.fb I.fin hF nr hs
  exact { I with
    ok := ok.1
    fin := ok.2
    gin := ⟨fun a o e => hs.extBut a o (fun q => by rw [q, hG] at e; cases e) (I.gin.is _ _ e), I.gin.tab⟩
    wr := fun x i e h => (I.wr x i e h).imp id fun ⟨k, c, v, e1, e2, e3⟩ => ⟨k, c, v, e1, cellk x c v e1 e2, e3⟩
    vars := ⟨μ, hn.sameBut hs (Ne.symm hl), fun x i e => (hv x i e).keep rfl (fun _ _ e => e) (fun v q => q.imp id fun ⟨k, c, e, q⟩ => ⟨k, c, e, cellk x c _ e q⟩) fun xs its n _ h1 h2 h3 => ⟨hs.extBut _ _ (fun q => ns_ne_list hnb (q ▸ h3) rfl) h3, h1, h2⟩⟩
    clive := fun x c e => let ⟨o, ho⟩ := I.clive x c e; ⟨o, hs.extBut c o (hc x c e) ho⟩ }
theorem st_assignC {y : Str} {i : Nat} {elt : Expr} {scope : Scope} {cpos np pos : Pos} {gc : Comprehension} {gs : List Comprehension} {vars : List (Str × Nat)} {tg : Tg} {it : LD} {fs : List XD} {rest : LD} (hy : T.at y = some i) (h : CompIs W C d T m elt gc gs scope cpos vars tg it fs rest) :
    OkS W C d T m (.Assign [.Name y np] (.ListComp elt (gc :: gs) scope cpos) pos) (sAssign i (rVal (xComp (compN scope.names) (outs vars m) (cClause tg it fs rest)))) := fun env F G ρ s A KN KR Q p q k => by
  have hb0 : swapsWith (.ListComp elt (gc :: gs) scope cpos) (some (.Name y np)) pos.line env = pure (env.blockKind == .function && env.kindOf y == some .local && np.line == (Expr.ListComp elt (gc :: gs) scope cpos).pos.line && !(scope.names.any fun (n, k) => n == y && (k == .local || k == .cell))) := rfl
  cases hb' : (env.blockKind == .function && env.kindOf y == some .local && np.line == (Expr.ListComp elt (gc :: gs) scope cpos).pos.line && !(scope.names.any fun (n, k) => n == y && (k == .local || k == .cell))) with
  | false =>
    rw [hb'] at hb0
    exact wpAny_Assign_Name ((s_comp h).v env F ρ s A _ _ p.at q fun v s₁ F₁ r₁ st₁ q₁ h₁ => k.store p hy st₁ q₁ h₁) hb0
  | true =>
    rw [hb'] at hb0
    have hloc : env.kindOf y = some .local := by
      rw [Bool.and_eq_true, Bool.and_eq_true, Bool.and_eq_true] at hb'
      exact eq_of_beq hb'.1.1.2
    rw [exec_Assign_Name_used _ _ _ _ hb0]
    obtain ⟨⟨hfv⟩, hk⟩ := q
    have pr : ∀ {s' F'}, Step W noX s F s' F' → Run G s F s' F' := fun st => p.run st
    obtain ⟨α, I, e, R⟩ := p
    obtain ⟨gt, gi, gf, ga⟩ := gc
    obtain rfl : ga = 0 := h.ha
    refine wpAny_bind (wpAny_standAt (wpAny_bind ?_))
    show wpAny _ A (do let _ ← comprehension (.ListComp elt (⟨gt, gi, gf, 0⟩ :: gs) scope cpos) scope env _ (newList []) false (eval gi env) (some (assign (.Name y np) env))) _ _ s
    refine wpAny_bind (wpAny_mono (comp_core (use := some (assign (.Name y np) env)) (Q := fun _ s' => Q .next s') I e R h hfv hk fun s' D Cd ⟨F', vs, μ, st, r, hk', h0, hF, hn⟩ => ?_) (fun _ s' hq => wpAny_pure (wpAny_pure hq)) fun _ _ e => e)
    obtain ⟨μ₀, hn₀, _⟩ := I.vars
    have hne : Cd ≠ env.locals := fun q => by
      obtain ⟨o, es, ep, eo, _⟩ := hn₀
      rw [q, eo] at h0; cases h0
    refine wpAny_assign_Name (st_loc (I.step st) e (at_name hy).1 hloc (.val (b := 0) r) fun s'' I'' go kp => ?_)
    have hn'' := hn.at fun o eo => kp Cd o hne eo
    exact ⟨μ, hn'', fun h' hsb => k.n F' _ _ (((pr st).trans go).trans Run.heap) ⟨_, I''.other hF (none_of_not fun o q => nomatch h0.symm.trans (I.gin.is _ _ q)) hne (fun x c hx q => by
      obtain ⟨o, ho⟩ := I.clive x c hx
      rw [q, h0] at ho; cases ho) hn'' hsb, e, R⟩ hk'.2⟩
theorem st_assignT {xs : List Expr} {is : List Nat} {j} {tpos pos : Pos} {ex : Expr} {x : XD} (hn : NamesAre T xs is) (h : SndE W C d T m ex x) (hsw : NoSwap ex) (hst : ∀ env : Env, swappedStores [.Tuple xs j tpos] ex env = pure none) :
    OkS W C d T m (.Assign [.Tuple xs j tpos] ex pos) (sAssignT is x) := fun env F G ρ s A KN KR Q p q k =>
  wpAny_Assign_stores (h.v env F ρ s A _ _ p.at q fun v s₁ F₁ r₁ st₁ q₁ h₁ => by
    have rn := p.run st₁
    obtain ⟨α, I, e, R⟩ := p.step st₁
    exact asTup_rel (G := fun v => wpAny (model W.prog W.w) A (assign (.Tuple xs j tpos) env v) (fun _ s' => Q .next s') noE s₁) h₁ q₁ fun vs l items n el rr ⟨hl, hk⟩ =>
      tup_assign hn (fun _ _ => Nat.zero_le _) R e I (I.fin.is _ _ el) rr hl fun α' s₂ I₂ r₂ _ => k.n F₁ _ s₂ (rn.trans r₂) ⟨_, I₂, e, R⟩ hk) (hsw env (some (.Tuple xs j tpos)) pos.line) (hst env)
theorem st_own {y : Str} {i : Nat} {ex : Expr} {f : LD} {np pos : Pos} (hy : T.at y = some i) (hs : NoSwap ex) (h : OkFr W C d T m ex f) : OkS W C d T m (.Assign [.Name y np] ex pos) (sAssign i (rOwn f)) := fun env F G ρ s A KN KR Q p q k =>
  wpAny_Assign_Name (h env F ρ s A _ _ p.at q fun a s₁ F₁ items n xs st₁ hF h0 hl r kk => by
    have rn := p.run st₁
    obtain ⟨α, I, e, R⟩ := p
    obtain ⟨μ, hn, hvv⟩ := I.vars
    refine st_slot (I.step st₁) e (at_name hy).1 (Nat.zero_le _) (.own hF (none_of_not fun o q => nomatch h0.symm.trans (I.gin.is _ _ q)) hl r fun z j ys hz hj q => ?_) fun s₂ I₂ r₂ _ => k.n F₁ _ s₂ (rn.trans r₂) ⟨_, I₂, e, R⟩ kk
    have := hvv z j hz
    rw [hj] at this
    obtain ⟨_, _, _, its, n', e', _⟩ := this
    rw [q, h0] at e'; cases e') (hs _ _ _)
end
end Mine
namespace Mine
open PySem PySem.W PySem.W.X PyProof.Rows PySem.Calls
section
variable {W : Wd} {d : Nat} {env : Env} {T : Tab} {m : Nat} {F F' G N N' : Frz} {g g' : GMap} {ρ : Rho} {s s' : Shared} {A : Around} {C : Cx} {c : Cfg} {KN : Rho → Prop} {KR : V → Prop}
theorem KnO.push {s₁ : Shared} {F₁ : Frz} {K : List V → Prop} {Q : Value → Shared → Prop} {items : List Value} {xs : List V} (k : KnO W F s K Q) (o : OF W F s) (st : Step W noX s F s₁ F₁) (r : RelL W F₁ items xs) (h : K xs) (tk : Nat) :
    Q (.ref s₁.heap.objs.size) { s₁ with heap := s₁.heap.push { cls := .type "list", data := .seq items.toArray }, toks := tk } :=
  have o₁ := o.step st
  have st₂ : Step W noX s₁ F₁ { s₁ with heap := s₁.heap.push { cls := .type "list", data := .seq items.toArray }, toks := tk } F₁ := (Step.alloc o₁.ok o₁.fin _).trans (Step.tok (s := { s₁ with heap := s₁.heap.push { cls := .type "list", data := .seq items.toArray } }) (o₁.ok.push _) (o₁.fin.push _) tk)
  k _ _ F₁ items 0 xs (st.trans st₂) (none_of_not fun o q => Nat.lt_irrefl _ (Heap.lt_size (o₁.fin.is _ _ q))) (st.live (fun h => h) (get_size_none _)) (Heap.get?_push_size _ rfl) r h
theorem fr_list {es : List Expr} {xs : List XD} {pos : Pos} (h : SndL W C d T m es xs) : OkFr W C d T m (.List es pos) (fList xs) := fun env F ρ s A K Q a q k => by
  rw [arm_eval_List]
  exact wpAny_bind (wpAny_standAt (wpAny_bind (h.l env pos F ρ s A _ _ a q fun vs s₁ F₁ rs st₁ q₁ ⟨⟨h₂⟩, h₁⟩ => wpAny_newList (k.push a.of st₁ q₁ h₁ s₁.toks) (by rw [q₁.length]; exact Nat.le_trans h₂ strMax_le))))
theorem fr_split {o e : Expr} {x y : XD} {apos pos : Pos} (ho : RecvE o) (hl : (apos.endLine == pos.line) = true) (hr : SndE W C d T m o x) (he : SndE W C d T m e y) : OkFr W C d T m (.Call (.Attribute o ("split" : Str) apos) [e] [] pos) (fSplit x y) := fun env F ρ s A K Q a q k => by
  have ha := l_cons he l_nil
  refine wpAny_Call_method_lateS (ho ("split" : Str) env) (few_of ha.st (show 1 < 8 by decide)) hl (hr.v env F ρ s A _ _ a q fun ov s₁ F₁ r₁ st₁ q₁ h₁ => ?_)
  have hs := h₁.1.h
  cases r₁ <;> first | (cases hs; done) | skip
  rename_i z
  obtain ⟨t, rfl⟩ := q₁
  refine ⟨"str", "str.split", PySem.F.plainAttrs_str, PySem.F.slot_str_split, PySem.F.type_str_split, typeIs_str _ _ _, (fun a h => nomatch h), ?_⟩
  refine callWith_builtin (star_any ha.st).1 (evalArgs_any ha.st (ha.l env pos F₁ ρ s₁ A (fun vs => one vs fun y => splitK (.str z) y K) _ (a.step st₁) h₁.2 fun vs s₂ F₂ rs st₂ q₂ h₂ => ?_))
  exact one_rel (G := fun vs => wpAny (model W.prog W.w) A (call (.builtin "str.split") (_ :: vs)) Q noE s₂) h₂ q₂ fun v y r h₂ => asStr_rel (a := y) (k := fun t => Side (t ≠ [] ∧ z.length ≤ strMax) ∧ K ((splitL z t).map V.str)) (G := fun v => wpAny (model W.prog W.w) A (call (.builtin "str.split") [_, v]) Q noE s₂) h₂ r fun t u ⟨⟨ht, hs⟩, hk⟩ =>
    split_raw (F := F₂) ht hs fun items tk rl => k.push a.of (st₁.trans st₂) rl hk tk
theorem none_of_not' {α : Type} {o : Option α} (h : ∀ x, o ≠ some x) : o = none := match o, h with
  | none, _ => rfl
  | some x, h => absurd rfl (h x)
theorem offE {α : Type} {t : Sem α} {Q : α → Shared → Prop} {E : Value → Shared → Prop} (h : wpAny (model W.prog W.w) A t Q noE s) : wpAny (model W.prog W.w) A t Q E s := anyE h fun _ _ q => q
inductive ForSt (W : Wd) (d : Nat) (A : Around) (env : Env) (T : Tab) (m : Nat) (target : Expr) (it : Value) (F G : Frz) (s : Shared) (body : V → Rho → (Rho → Prop) → Prop) (KN : Rho → Prop) (rest : List V) (s' : Shared) : Prop
  | mk (F' N' : Frz) (g' : GMap) (ρ' : Rho) (ready : Ready W A target it rest F' N' g') (st : StAt W d env T m F' (Frz.or G N') ρ' s' A) (away : Away env G N') (gis : GHave g' s'.gens) (ndis : ∀ a, N' a ≠ none → F' a = none) (gnew : ∀ i, g' i ≠ none → s.gens[i]? = none) (run : Run G s F s' F') (wp : wpFor body rest ρ' KN)
theorem gor_G (away : Away env G N) {a : Addr} {o : Obj} (h : G a = some o) : Frz.or G N a = some o := by
  rw [or_eq (none_of_not fun ob q => nomatch (away.g a (ne_none q)).symm.trans h)]; exact h
theorem StAt.noN (a : StAt W d env T m F (Frz.or G N) ρ s A) (away : Away env G N) : StAt W d env T m F G ρ s A := let ⟨α, I, e, R⟩ := a
  ⟨α, I.reG ⟨fun a o e => I.gin.is _ _ (gor_G away e), fun a ha => (or_none.mp (I.gin.tab a ha)).1⟩ fun a h _ => (or_none.mp h).1, e, R⟩
theorem Run.noN (r : Run (Frz.or G N) s F s' F') : Run G s F s' F' := { r with new := fun a o e => (r.new a o e).imp id fun z => (or_none.mp z).1 }
theorem st_for {target iter : Expr} {tg : Tg} {tp : Bool} {it : LD} {b : List Stmt} {xb : List SD} {pos : Pos} (htg : TgIs T target tg) (hft : tp = true → IsTupE target) (hi : SndI W C d T m tp iter it) (hb : OkSs W C d T m b xb) :
    OkS W C d T m (.For target iter b [] pos) (sFor tg it xb) := fun env F G ρ s A KN KR Q p q k => by
  refine wpAny_For (hi.i target env F ρ s A _ _ p.at hft q fun itv s₂ F₂ N g items src hk => ?_) fun x => hi.fold env x
  have rn₂ := p.run src.step
  obtain ⟨α, I, e, R⟩ := p
  obtain ⟨I₂, aw₂⟩ := I.src src
  refine codeAny_forLoop_any (fun n s' => ∃ rest, rest.length = n ∧ ForSt W d A env T m target itv F G s (forB C tg xb KR) KN rest s') ?_ items.length ⟨items, rfl, F₂, N, g, ρ, src.ready, ⟨α, I₂, e, R⟩, aw₂, src.gis, src.ndis, src.gnew, rn₂, hk⟩
  rintro n s' ⟨rest, hn, F', N', g', ρ', rd, ⟨α', I', _, _⟩, aw, gis, nd, gnew, run, wp⟩
  have pre := I'.ipre (F := F') (fun _ _ e => e) gis nd
  have turnNew : ∀ {s₂ : Shared} {F₂ N₂ : Frz} {g₂ : GMap}, IStep W N' g' s' F' s₂ F₂ N₂ g₂ → Run G s F s₂ F₂ := fun st =>
    { le := fun a o e => st.step.le a o (run.le a o e)
      new := fun a o e => (st.step.new a o e).elim (run.new a o) fun q => .inr (q.elim (fun q => none_of_not fun ob z => nomatch q.symm.trans (I'.gin.is _ _ (gor_G aw z))) (aw.g a))
      os := st.step.os.trans run.os
      gens := fun i x e => st.step.gens i x (fun h => nomatch (gnew i h).symm.trans e) (run.gens i x e)
      bare := fun e => st.step.bare (run.bare e) }
  cases rest with
  | nil =>
    refine anyE (rd s' F' pre) fun r s₃ ⟨hr, F₃, st⟩ => ?_
    subst hr
    exact wpAny_execs_nil (k.n F₃ ρ' s₃ (turnNew st) ⟨α', (I'.turn aw st).1, e, R⟩ wp)
  | cons x xs =>
    refine anyE (rd s' F' pre) fun r s₃ ⟨v, hr, h₃⟩ => ?_
    subst hr
    refine anyE h₃ fun _ s₄ ⟨F₄, N₄, g₄, st, item, rdy⟩ => ?_
    obtain ⟨I₄, aw₄⟩ := I'.turn aw st
    have run₄ := turnNew st
    refine offE (bind_item htg (fun _ _ => Nat.zero_le _) R e I₄ st.nis item (show wpBind tg x ρ' (fun ρ₁ => wpSs C xb ρ₁ (fun ρ₂ => wpFor (forB C tg xb KR) xs ρ₂ KN) KR) from wp) fun ρ₅ h₅ α₅ s₅ I₅ r₅ _ => offE (hb env F₄ (Frz.or G N₄) ρ₅ s₅ A _ KR _ ⟨α₅, I₅, e, R⟩ h₅ ⟨fun F₆ ρ₆ s₆ r₆ a₆ k₆ => ?_, fun F₆ ρ₆ s₆ v x r₆ a₆ rr kk => ?_⟩))
    · exact ⟨xs.length, hn ▸ Nat.lt_succ_self _, xs, rfl, F₆, N₄, g₄, ρ₆, rdy.le r₆.le, a₆, aw₄, fun i z ez => r₆.gens i z (r₅.gens i z (st.gis i z ez)),
        fun a h => none_of_not fun o q => (r₆.new a o q).elim (fun z => (nomatch (st.ndis a h).symm.trans z)) fun z => h (or_none.mp z).2,
        fun i h => (st.gsub i h).elim (gnew i) fun q => none_of_not' fun z es => (nomatch q.symm.trans (run.gens i z es)), (run₄.trans r₅.noN).trans r₆.noN, k₆⟩
    · exact k.r F₆ ρ₆ s₆ v x ((run₄.trans r₅.noN).trans r₆.noN) (a₆.noN aw₄) rr kk
theorem st_while {t : Expr} {x : XD} {b : List Stmt} {xb : List SD} {pos : Pos} (ht : SndE W C d T m t x) (hb : OkSs W C d T m b xb) : OkS W C d T m (.While t b [] pos) (sWhl x xb) := fun env F G ρ s A KN KR Q p ⟨n, q⟩ k => by
  refine wpAny_While (codeAny_whileLoop (fun n s' => ∃ F' ρ', Run G s F s' F' ∧ StAt W d env T m F' G ρ' s' A ∧ wpWhile (fun ρ K => x.T C ρ K) (fun ρ K => wpSs C xb ρ K KR) n ρ' KN) ?_ n ⟨F, ρ, Run.refl, p, q⟩)
  rintro n s' ⟨F', ρ', run, p', h⟩
  cases n with
  | zero => exact h.elim
  | succ n =>
    refine offE (ht.t env F' ρ' s' A _ _ p'.at h fun v s₂ F₂ st₂ h₂ => ?_)
    have p₂ := p'.step st₂
    have run₂ := run.trans (p'.run st₂)
    cases v with
    | true => exact offE (hb env F₂ G ρ' s₂ A _ KR _ p₂ (h₂.t rfl) ⟨fun F₃ ρ₃ s₃ r₃ a₃ k₃ => ⟨n, Nat.lt_succ_self n, F₃, ρ₃, run₂.trans r₃, a₃, k₃⟩, fun F₃ ρ₃ s₃ v x r₃ a₃ rr kk => k.r F₃ ρ₃ s₃ v x (run₂.trans r₃) a₃ rr kk⟩)
    | false => exact wpAny_execs_nil (k.n F₂ ρ' s₂ run₂ p₂ (h₂.f rfl))
end
end Mine
namespace Mine
open PySem PySem.W PySem.W.X PyProof.Rows PySem.Calls
section
variable {W : Wd} {d : Nat} {env : Env} {T : Tab} {m lo : Nat} {F F' G N N' : Frz} {α : Nat → Addr} {ρ ρ' : Rho} {s s' : Shared} {A : Around} {C : Cx} {c : Cfg} {KN : Rho → Prop} {KR : V → Prop}
theorem own_slot {x : Str} {i : Nat} {xs : List V} {P : Prop} (I : Inv W env T m lo F G α ρ s) (hx : T.vars.lookup x = some i) (ho : ρ.at i = .own xs) (k : ∀ μ its n, s.heap.Ns env.locals μ → Holds env s.heap μ x (.ref (α i)) → F (α i) = none → G (α i) = none → s.heap.get? (α i) = some (listObj its n) → RelL W F its xs → P) : P := by
  obtain ⟨μ, hn, hv⟩ := I.vars
  have h0 := hv x i hx
  rw [ho] at h0
  obtain ⟨hh, hF, hG, its, n, e, r⟩ := h0
  exact k μ its n hn hh hF hG e r
theorem own_inv {x : Str} {i : Nat} {xs xs' : List V} {h' : Heap} {items' : List Value} {n' t : Nat} (I : Inv W env T m lo F G α ρ s) (hx : T.vars.lookup x = some i) (ho : ρ.at i = .own xs) (hs : Heap.SameBut (α i) s.heap h') (hl : h'.get? (α i) = some (listObj items' n')) (r : RelL W F items' xs') :
    Inv W env T m lo F G α (ρ.set i (.own xs')) { s with heap := h', toks := t } := own_slot I hx ho fun _ its n _ _ hF hG e _ => by
  obtain ⟨μ, hn, hv⟩ := I.vars
  have hi : i < ρ.length := I.rl ▸ I.len x i hx
  have cellk : ∀ c w, s.heap.IsCell c w → h'.IsCell c w := fun c w q => q.sameBut hs fun q' => cell_ne_list (q' ▸ q) e rfl
  have ownAt : ∀ j ys, Rho.at (ρ.set i (.own xs')) j = Slot.own ys → ∃ zs, ρ.at j = .own zs := fun j ys h => by
    by_cases hij : i = j
    · exact ⟨xs, hij ▸ ho⟩
    · rw [at_set_ne hij] at h; exact ⟨ys, h⟩
  refine I.mod hF hG (nr_list e) hs ⟨_, hl⟩ List.length_set (fun x c w _ h => ⟨w, cellk c w h⟩) (hn.sameBut hs (Ne.symm (ns_ne_list hn e))) (fun y j hy => ?_) fun y z j k ys zs hy hz hjk hj hk => let ⟨ys', hj'⟩ := ownAt j ys hj; let ⟨zs', hk'⟩ := ownAt k zs hk; I.apart y z j k ys' zs' hy hz hjk hj' hk'
  have hold : ∀ v, Holds env s.heap μ y v → Holds env h' μ y v := fun v q => q.imp id fun ⟨k, c, e, q⟩ => ⟨k, c, e, cellk c _ q⟩
  by_cases hij : i = j
  · subst hij
    rw [at_set_self hi]
    have h0 := hv y i hy
    rw [ho] at h0
    exact ⟨hold _ h0.1, hF, hG, items', n', hl, r⟩
  · rw [at_set_ne hij]
    exact (hv y j hy).keep rfl (fun _ _ e => e) hold fun ys its n hj h1 h2 h3 => ⟨hs.extBut _ _ (I.apart y x j i ys xs hy hx (Ne.symm hij) hj ho) h3, h1, h2⟩
theorem load_own2 {x : Str} {i : Nat} {xs : List V} (I : Inv W env T m lo F G α ρ s) (e : EnvOk env T) (hx : T.at x = some i) (hv : ρ.at i = .own xs) {Q : Value → Shared → Prop} (q : Q (.ref (α i)) s) : wpAny (model W.prog W.w) A (loadName env x) Q noE s :=
  own_slot I (at_name hx).1 hv fun _ _ _ hn hh _ _ _ _ => load_holds e hn hh (at_name hx).2.2 q
theorem atOwn_inv {i : Nat} {k : List V → Prop} (h : atOwn ρ i k) : ∃ xs, ρ.at i = .own xs ∧ k xs := by
  unfold atOwn at h
  cases hv : ρ.at i <;> rw [hv] at h <;> first | exact h.elim | exact ⟨_, rfl, h⟩
theorem upd_list {D : Addr} {items : List Value} {n : Nat} {h : Heap} (f : Array Value → Array Value) (items' : List Value) (hf : (f items.toArray).toList = items') (e : h.get? D = some (listObj items n)) : ∃ n', (h.update D (Obj.mapSeq f)).get? D = some (listObj items' n') := by
  obtain ⟨n', hd⟩ := Obj.data_mapSeq (o := listObj items n) rfl f
  refine ⟨n', ?_⟩
  subst hf
  rw [Heap.get?_update_self (Obj.mapSeq f) e (Obj.isFreed_of_seq hd), show Obj.mapSeq f (listObj items n) = { cls := .type "list", data := (Obj.mapSeq f (listObj items n)).data } from rfl, hd, listObj, Array.toArray_toList]
theorem not_inter (e : EnvOk env T) : interactive env = false := by unfold interactive; rw [e.kind]; rfl
theorem st_mth {x : Str} {i : Nat} {es : List Expr} {ys : List XD} {name : Str} {id : String} {np apos cpos pos : Pos} {xs : List V} {K : List V → Prop} {Q : Flow → Shared → Prop} (p : StAt W d env T m F G ρ s A) (hx : T.at x = some i) (ho : ρ.at i = .own xs) (hl : (apos.endLine == cpos.line) = true) (hn : es.length < 8) (ha : SndL W C d T m es ys)
    (sl : PySem.Slot "list" name id) (ty : typeOf (.builtin id) = pure (.type "method_descriptor")) (hs : ∀ line, swapsWith (.Call (.Attribute (.Name x np) name apos) es [] cpos) none line env = pure false) (h : wpL C ys ρ K)
    (run : ∀ α vs s₁ F₁ rs, Run G s F s₁ F₁ → Inv W env T m 0 F₁ G α ρ s₁ → EnvOk env T → Room A d → RelL W F₁ vs rs → K rs → wpAny (model W.prog W.w) A (call (.builtin id) (.ref (α i) :: vs)) (fun _ s' => Q .next s') noE s₁) :
    wpAny (model W.prog W.w) A (exec (.Expr (.Call (.Attribute (.Name x np) name apos) es [] cpos) pos) env) Q noE s := by
  have pr : ∀ {s' F'}, Step W noX s F s' F' → Run G s F s' F' := fun st => p.run st
  have pa := p.at
  obtain ⟨α, I, e, R⟩ := p
  refine wpAny_Expr_any ?_ (not_inter e) (hs _)
  refine wpAny_Call_method_lateS rfl (few_of ha.st hn) hl (wpAny_Name (load_own2 I e hx ho ?_) (at_name hx).2.1)
  refine own_slot I (at_name hx).1 ho fun _ its n _ _ _ _ el _ => ⟨"list", id, PySem.F.plainAttrs_list, sl, ty, ⟨_, el, rfl⟩, fun a ha => by cases ha; exact ⟨_, el, rfl⟩, ?_⟩
  exact callWith_builtin (star_any ha.st).1 (evalArgs_any ha.st (ha.l env cpos F ρ s A _ _ pa h fun vs s₁ F₁ rs st₁ q₁ h₁ => run α vs s₁ F₁ rs (pr st₁) (I.step st₁) e R q₁ h₁))
theorem st_append {x : Str} {i : Nat} {ex : Expr} {y : XD} {np apos cpos pos : Pos} (hx : T.at x = some i) (hl : (apos.endLine == cpos.line) = true) (h : SndE W C d T m ex y) :
    OkS W C d T m (.Expr (.Call (.Attribute (.Name x np) ("append" : Str) apos) [ex] [] cpos) pos) (sAppend i y) := fun env F G ρ s A KN KR Q p q k => by
  obtain ⟨xs, ho, q⟩ := atOwn_inv q
  exact st_mth (K := fun vs => one vs fun y => Side (xs.length < strMax) ∧ KN (ρ.set i (.own (xs ++ [y])))) p hx ho hl (show 1 < 8 by decide) (l_cons h l_nil) PySem.F.slot_list_append PySem.F.type_list_append (fun _ => rfl) q fun α vs s₁ F₁ rs rn I e R rl h₁ =>
    one_rel (G := fun vs => wpAny (model W.prog W.w) A (call (.builtin "list.append") (.ref (α i) :: vs)) (fun _ s' => Q .next s') noE s₁) h₁ rl fun v y r ⟨⟨hsz⟩, hk⟩ => own_slot I (at_name hx).1 ho fun _ its n _ _ _ _ el rr =>
      wpAny_list_append_plain (items := its.toArray) ⟨n, el⟩ (fun h' ⟨n', hp⟩ hs => k.n F₁ _ _ (rn.trans Run.heap) ⟨α, own_inv (t := s₁.toks) I (at_name hx).1 ho hs (items' := its ++ [v]) (n' := n') (by rw [hp, listObj, List.push_toArray]) (rr.snoc r), e, R⟩ hk) (by rw [List.size_toArray, rr.length]; exact Nat.le_trans (Nat.le_of_lt hsz) strMax_le)
theorem st_reverse {x : Str} {i : Nat} {np apos cpos pos : Pos} (hx : T.at x = some i) (hl : (apos.endLine == cpos.line) = true) : OkS W C d T m (.Expr (.Call (.Attribute (.Name x np) ("reverse" : Str) apos) [] [] cpos) pos) (sReverse i) := fun env F G ρ s A KN KR Q p q k => by
  obtain ⟨xs, ho, ⟨hsz⟩, q⟩ := atOwn_inv q
  refine st_mth (C := C) (K := fun vs => vs = []) p hx ho hl (show 0 < 8 by decide) l_nil PySem.F.slot_list_reverse PySem.F.type_list_reverse (fun _ => rfl) rfl fun α vs s₁ F₁ rs rn I e R rl h₁ => own_slot I (at_name hx).1 ho fun _ its n _ _ _ _ el rr => ?_
  subst h₁
  obtain rfl := rl
  obtain ⟨n', hu⟩ := upd_list (fun x => x.reverse) its.reverse (by rw [List.reverse_toArray]) el
  exact call_meets PySem.F.slot_list_reverse ⟨_, el, rfl⟩ PySem.F.entry_list_reverse (PySem.F.args_list_reverse_1 _) (AutoListH.list_reverse_list_0 (α i) its.toArray n (by rw [List.size_toArray, rr.length]; exact Nat.le_trans hsz strMax_le))
    ⟨el, k.n F₁ _ _ (rn.trans (Run.heap (t := s₁.toks))) ⟨α, own_inv (t := s₁.toks) I (at_name hx).1 ho (Heap.SameBut.update ..) hu rr.reverse, e, R⟩ q⟩
theorem st_del {x : Str} {i : Nat} {ix : Expr} {y : XD} {np spos pos : Pos} (hx : T.at x = some i) (h : SndE W C d T m ix y) : OkS W C d T m (.Delete [.Subscript (.Name x np) ix spos] pos) (sDel i y) := fun env F G ρ s A KN KR Q p q k => by
  obtain ⟨xs, ho, q⟩ := atOwn_inv q
  have pr : ∀ {s' F'}, Step W noX s F s' F' → Run G s F s' F' := fun st => p.run st
  have pa := p.at
  obtain ⟨α, I, e, R⟩ := p
  rw [arm_exec_Delete]
  refine wpAny_bind (wpAny_standAt (wpAny_bind ?_))
  rw [arm_deleteEach_cons]
  refine wpAny_bind (wpAny_delete_Subscript (wpAny_Name (load_own2 I e hx ho ?_) (at_name hx).2.1))
  refine h.v env F ρ s A _ _ pa q fun v s₁ F₁ r₁ st₁ q₁ h₁ => asInt_rel (G := fun v => wpAny (model W.prog W.w) A (delItem (.ref (α i)) v) _ noE s₁) h₁ q₁ fun kk t ⟨j, hj, ⟨hsz⟩, hk⟩ => ?_
  have I₁ := I.step st₁
  obtain ⟨e1, e2, e3⟩ := place_seq hj
  have h16 : strMax = 16000000 := rfl
  exact own_slot I₁ (at_name hx).1 ho fun _ its n _ _ _ _ el rr =>
    wpAny_delItem_plain (items := its.toArray) (k := j) ⟨n, el⟩ (by simp [Builtin.List.listFitsIndex]; lia) (by rw [List.size_toArray, rr.length]; exact e1)
      (fun h' ⟨n', hp⟩ hs => wpAny_pure (wpAny_pure (k.n F₁ _ _ ((pr st₁).trans Run.heap) ⟨α, own_inv (t := s₁.toks) I₁ (at_name hx).1 ho hs (items' := its.eraseIdx j) (n' := n') (by rw [hp]; simp [listObj]) (rr.eraseIdx j), e, R⟩ hk))) (by rw [List.size_toArray, rr.length]; exact Nat.le_trans hsz strMax_le)
end
end Mine
namespace Mine
open PySem PySem.W PySem.W.X PyProof.Rows PySem.Calls
section
variable {W : Wd} {d : Nat} {env : Env} {T : Tab} {m lo : Nat} {F F' G N N' : Frz} {α : Nat → Addr} {ρ ρ' : Rho} {s s' : Shared} {A : Around} {C : Cx} {c : Cfg} {KN : Rho → Prop} {KR : V → Prop}
theorem set_raw {prog : Program} {w : World} {l : Addr} {vs : List Value} {n : Nat} {k : Int} {t : Tok} {v : Value} {Q : Unit → Shared → Prop} (hl : s.heap.get? l = some (listObj vs n)) (h0 : 0 ≤ k) (hf : k < 2 ^ 63) (hn : k < vs.length)
    (h : Q () { s with heap := s.heap.update l (Obj.mapSeq fun x => x.setIfInBounds k.toNat v) }) : wpAny (model prog w) A (setItem (.ref l) (.int k t) v) Q noE s := by
  have hL := isList_of hl
  unfold setItem
  try with_reducible refine wpAny_holding ?_
  first | refine wpAny_bind (wpAny_pure ?_) | skip
  refine wpAny_bind (wpAny_sequenceKey hL.typeIs (by decide) ?_)
  refine wpAny_bind (wpAny_callSpecial?_slot (name := Str.ofString "__setitem__") hL.typeIs slot_list_setitem (wpAny_call_entry slot_list_setitem hL.typeIs entry_list_setitem ?_ (args_list_setitem _ _ _)))
  show wpAny _ _ (Builtin.List.listSubscript? (.int k t) >>= _) _ _ s
  refine wpAny_bind (wpAny_listSubscript_int (fitsIndex_of h0 hf) ?_)
  clear hf
  obtain ⟨j, rfl⟩ := Int.eq_ofNat_of_zero_le h0
  have hj : j < vs.toArray.size := by rw [List.size_toArray]; exact Int.ofNat_lt.mp hn
  have hx' : vs.toArray[j]? = some vs.toArray[j] := Array.getElem?_eq_getElem hj
  show wpAny _ _ ((seqItemAt l j >>= fun r => pure (r.map (j, ·))) >>= _) _ _ s
  refine wpAny_bind (wpAny_bind (wpAny_seqItemAt hl rfl (wpAny_pure ?_)))
  rw [hx']
  show wpAny _ _ (setSeqItemAt l j v >>= _) _ _ s
  refine wpAny_bind (wpAny_setSeqItemAt hl rfl ?_)
  first
    | exact wpAny_bind (wpAny_pure (wpAny_pure ⟨.none, rfl, wpAny_pure h⟩))
    | exact wpAny_pure ⟨.none, rfl, wpAny_pure h⟩
noncomputable def AugIx (e : Expr) : Prop := ∀ ov iv new, augStore e ov iv new = (do holding [new, ov, iv] (setItem ov iv new); release [new, ov, iv] []; pure .next)
noncomputable def augIxV (e : Expr) : Rs (fun _ : Unit => AugIx e) := onE e none (bin := fun _ _ _ _ h => some ⟨(), h ▸ fun _ _ _ => rfl⟩) (const := fun _ _ _ h => some ⟨(), h ▸ fun _ _ _ => rfl⟩) (name := fun _ _ h => some ⟨(), h ▸ fun _ _ _ => rfl⟩) (sub := fun _ _ _ h => some ⟨(), h ▸ fun _ _ _ => rfl⟩)
theorem st_augItem {x : Str} {i : Nat} {ix ex : Expr} {y z : XD} {np tpos pos : Pos} (hx : T.at x = some i) (hi : SndE W C d T m ix y) (h : SndE W C d T m ex z) (hs : AugIx ix) :
    OkS W C d T m (.AugAssign (.Subscript (.Name x np) ix tpos) .Add ex pos) (sAugItem i y z) := fun env F G ρ s A KN KR Q p q k => by
  obtain ⟨xs, ho, q⟩ := atOwn_inv q
  have pr : ∀ {s' F'}, Step W noX s F s' F' → Run G s F s' F' := fun st => p.run st
  have pa := p.at
  obtain ⟨α, I, e, R⟩ := p
  refine wpAny_AugAssign_SubscriptAny (wpAny_Name (load_own2 I e hx ho ?_) (at_name hx).2.1) hs
  refine hi.v env F ρ s A _ _ pa q fun v s₁ F₁ r₁ st₁ q₁ h₁ => asInt_rel (G := fun v => wpAny (model W.prog W.w) A (getItem (.ref (α i)) v) (fun old s₃ => wpAny (model W.prog W.w) A (eval ex env) (fun u s₄ => wpAny (model W.prog W.w) A (inplaceOp .Add old u) (fun new s₅ => wpAny (model W.prog W.w) A (setItem (.ref (α i)) v new) (fun _ => Q .next) noE s₅) noE s₄) noE s₃) noE s₁) h₁ q₁ fun kk t ⟨j, u, hj, hu, ⟨h0, hsz⟩, hk⟩ => ?_
  have I₁ := I.step st₁
  obtain ⟨e1, e2, e4⟩ := place_seq hj
  have h16 : strMax = 16000000 := rfl
  have hjk : j = kk.toNat := by
    unfold place at hj
    rw [if_pos h0, if_pos e4] at hj
    exact (Option.some.inj hj).symm
  subst hjk
  have small : kk < 2 ^ 63 := by lia
  refine own_slot I₁ (at_name hx).1 ho fun _ its₁ n₁ _ _ _ _ el₁ rl₁ => ?_
  obtain ⟨w, hw, tw, rfl⟩ := rl₁.get hu
  refine wpAny_getItem_list (isList_of el₁) h0 small (List.getElem?_toArray ▸ hw) ?_
  refine h.v env F₁ ρ s₁ A _ _ (pa.step st₁) hk fun v2 s₂ F₂ r₂ st₂ q₂ h₂ => asInt_rel (G := fun v2 => wpAny (model W.prog W.w) A (inplaceOp .Add (.int u tw) v2) (fun new s₅ => wpAny (model W.prog W.w) A (setItem (.ref (α i)) (.int kk t) new) (fun _ => Q .next) noE s₅) noE s₂) h₂ q₂ fun yi t2 hk => wpAny_iadd_int ?_
  have I₂ := I₁.step st₂
  have st₃ : Step W noX s₂ F₂ { s₂ with toks := s₂.toks + 1 } F₂ := Step.tok I₂.ok I₂.fin _
  have I₃ := I₂.step st₃
  refine own_slot I₃ (at_name hx).1 ho fun _ its₃ n₃ _ _ _ _ el₃ rl₃ => set_raw el₃ h0 small (by rw [rl₃.length]; exact e4) ?_
  obtain ⟨n', hup⟩ := upd_list (fun x => x.setIfInBounds kk.toNat (.int (u + yi) s₂.toks)) (its₃.set kk.toNat (.int (u + yi) s₂.toks)) (by rw [List.setIfInBounds_toArray]) el₃
  exact k.n F₂ _ _ ((pr ((st₁.trans st₂).trans st₃)).trans (Run.heap (t := s₂.toks + 1))) ⟨α, own_inv (t := s₂.toks + 1) I₃ (at_name hx).1 ho (Heap.SameBut.update ..) hup (rl₃.set _ (.int _ _)), e, R⟩ hk
theorem put_ne {a b : Addr} {o : Obj} (h : b ≠ a) : F.put a o b = F b := if_neg h
theorem Inv.freeze {x : Str} {i : Nat} {xs : List V} (I : Inv W env T m lo F G α ρ s) (hx : T.vars.lookup x = some i) (ho : ρ.at i = .own xs) : ∃ F', Inv W env T m lo F' G α (ρ.set i (.val (.list xs))) s ∧ Run G s F s F' := own_slot I hx ho fun _ its n _ _ hF hG e r => by
  obtain ⟨μ, hn, hv⟩ := I.vars
  have hi : i < ρ.length := I.rl ▸ I.len x i hx
  have le : FLe F (F.put (α i) (listObj its n)) := Frz.put_le hF
  have ne : ∀ {j ys}, Rho.at (ρ.set i (.val (.list xs))) j = Slot.own ys → i ≠ j := fun h q => by subst q; rw [at_set_self hi] at h; cases h
  refine ⟨_, { I with
    fb := fun a o ea => le a o (I.fb a o ea)
    fin := ⟨fun a o ea => ?_, fun a ha => (put_ne fun q : a = α i => list_no_tab I.ok.ti e (q ▸ ha)).trans (I.fin.tab a ha)⟩
    lf := (put_ne fun q => ns_ne_list hn e q.symm).trans I.lf
    rl := List.length_set.trans I.rl
    wr := fun y j ey h => (I.wr y j ey h).imp id fun ⟨k, c, v, e1, e2, e3, e4⟩ => ⟨k, c, v, e1, e2, (put_ne fun q => cell_ne_list e2 e q.symm).trans e3, e4⟩
    vars := ⟨μ, hn, fun y j ey => ?_⟩
    apart := fun y z j k ys zs hy hz hjk hj hk => I.apart y z j k ys zs hy hz hjk (at_set_ne (ne hj) ▸ hj) (at_set_ne (ne hk) ▸ hk) }, ⟨le, fun a o ea => ?_, rfl, fun _ _ e => e, fun e => e⟩⟩
  · by_cases h : a = α i
    · subst h; rw [Frz.put_self] at ea; cases ea; exact e
    · rw [put_ne h] at ea; exact I.fin.is a o ea
  · by_cases hij : i = j
    · subst hij
      have h0 := hv y i ey
      rw [ho] at h0
      rw [at_set_self hi]
      exact ⟨_, h0.1, .list (Frz.put_self ..) (r.mono le)⟩
    · rw [at_set_ne hij]
      exact (hv y j ey).keep rfl le (fun _ q => q) fun ys its' n' hj h1 h2 h3 => ⟨h3, (put_ne (I.apart y x j i ys xs ey hx (Ne.symm hij) hj ho)).trans h1, h2⟩
  · by_cases h : a = α i
    · exact .inr (h ▸ hG)
    · rw [put_ne h] at ea; exact .inl ea
theorem Inv.congr (I : Inv W env T m lo F G α ρ s) (hl : ρ'.length = ρ.length) (h : ∀ x i, T.vars.lookup x = some i → ρ'.at i = ρ.at i) : Inv W env T m lo F G α ρ' s := by
  obtain ⟨μ, hn, hv⟩ := I.vars
  exact { I with
    rl := hl.trans I.rl
    vars := ⟨μ, hn, fun x i e => by rw [h x i e]; exact hv x i e⟩
    apart := fun x y i j xs ys hx hy hij hi hj => I.apart x y i j xs ys hx hy hij (h x i hx ▸ hi) (h y j hy ▸ hj) }
theorem Inv.freezes : ∀ (is : List Nat) (F : Frz) (ρ : Rho), Inv W env T m lo F G α ρ s → ∃ F', Inv W env T m lo F' G α (frzAll is ρ) s ∧ Run G s F s F'
  | [], F, ρ, I => ⟨F, I, Run.refl⟩
  | i :: is, F, ρ, I => by
    have key : ∃ F', Inv W env T m lo F' G α (ρ.set i (frzS (ρ.at i))) s ∧ Run G s F s F' := by
      have same : (∀ x, T.vars.lookup x = some i → frzS (ρ.at i) = ρ.at i) → Inv W env T m lo F G α (ρ.set i (frzS (ρ.at i))) s := fun hsl => I.congr List.length_set fun x j hx => by
        by_cases hij : i = j
        · subst hij
          rw [at_set_self (I.rl ▸ I.len x i hx), hsl x hx]
        · exact at_set_ne hij
      by_cases hx : ∃ x xs, T.vars.lookup x = some i ∧ ρ.at i = .own xs
      · obtain ⟨x, xs, hx, ho⟩ := hx
        obtain ⟨F', I', r⟩ := I.freeze hx ho
        exact ⟨F', ho ▸ I', r⟩
      · refine ⟨F, same fun x h => ?_, Run.refl⟩
        cases ho : ρ.at i with
        | unset => rfl
        | val v => rfl
        | own xs => exact absurd ⟨x, xs, h, ho⟩ hx
    obtain ⟨F₁, I₁, f₁⟩ := key
    obtain ⟨F₂, I₂, f₂⟩ := Inv.freezes is F₁ _ I₁
    exact ⟨F₂, I₂, f₁.trans f₂⟩
theorem st_frz {st : Stmt} {x : SD} {is : List Nat} (h : OkS W C d T m st x) : OkS W C d T m st (sFrz is x) := fun env F G ρ s A KN KR Q ⟨α, I, e, R⟩ q k =>
  let ⟨F', I', r⟩ := I.freezes is
  h env F' G _ s A KN KR Q ⟨α, I', e, R⟩ q (k.after r)
end
end Mine
namespace Mine
open PySem PySem.W PySem.W.X PyProof.Rows PySem.Calls
noncomputable def ownA (p : Value × Slot) : Option Addr := match p.2 with
  | .own _ => (match p.1 with
    | .ref a => some a
    | _ => none)
  | _ => none
noncomputable def owns (L : List (Value × Slot)) : List Addr := L.flatMap fun p => (ownA p).toList
noncomputable def SlotNew (W : Wd) (F : Frz) (h : Heap) (p : Value × Slot) : Prop := match p.2 with
  | .unset => False
  | .val x => Rel W F p.1 x
  | .own xs => ∃ a, p.1 = .ref a ∧ F a = none ∧ LAt W F h a xs
structure NewL (W : Wd) (F G : Frz) (h : Heap) (L : List (Value × Slot)) : Prop where
  is : ∀ p ∈ L, SlotNew W F h p
  nd : (owns L).Nodup
  out : ∀ a ∈ owns L, G a = none
section
variable {W : Wd} {d : Nat} {env : Env} {T : Tab} {m lo : Nat} {F F' G N N' : Frz} {α : Nat → Addr} {ρ ρ' : Rho} {s s' : Shared} {A : Around} {C : Cx} {c : Cfg} {KN : Rho → Prop} {KR : V → Prop} {h : Heap} {p : Value × Slot} {L : List (Value × Slot)}
theorem NewL.tail (n : NewL W F G h (p :: L)) : NewL W F G h L := ⟨fun q hq => n.is q (List.mem_cons_of_mem _ hq), (List.nodup_append.mp n.nd).2.1, fun a ha => n.out a (List.mem_append_right _ ha)⟩
theorem frz_app {xs ys : List Addr} : Frz.or G (atN h (xs ++ ys)) = Frz.or (Frz.or G (atN h ys)) (atN h xs) := funext fun a => by
  unfold Frz.or atN
  by_cases hx : a ∈ xs
  · rw [if_pos hx, if_pos (List.mem_append_left _ hx)]
    cases h.get? a with
    | some o => rfl
    | none => by_cases hy : a ∈ ys
              · rw [if_pos hy]
              · rw [if_neg hy]
  · rw [if_neg hx]
    by_cases hy : a ∈ ys
    · rw [if_pos hy, if_pos (List.mem_append_right _ hy)]
    · rw [if_neg hy, if_neg fun q => (List.mem_append.mp q).elim hx hy]
theorem frz_app' {xs ys : List Addr} : Frz.or G (atN h (xs ++ ys)) = Frz.or (Frz.or G (atN h xs)) (atN h ys) := by
  rw [← frz_app]
  refine congrArg (Frz.or G) (funext fun a => ?_)
  unfold atN
  by_cases q : a ∈ xs ++ ys
  · rw [if_pos q, if_pos (List.mem_append.mpr (List.mem_append.mp q).symm)]
  · rw [if_neg q, if_neg fun r => q (List.mem_append.mpr (List.mem_append.mp r).symm)]
theorem Inv.drop {as : List Addr} (I : Inv W env T m lo F (Frz.or G (atN h as)) α ρ s) (hG : ∀ a ∈ as, G a = none) : Inv W env T m lo F G α ρ s :=
  I.reG ⟨fun a o e => I.gin.is a o (by rw [or_eq (atN_none fun q => nomatch (hG a q).symm.trans e)]; exact e), fun a ha => (or_none.mp (I.gin.tab a ha)).1⟩ fun a q _ => (or_none.mp q).1
theorem st_new {x : Str} {i : Nat} (hp : SlotNew W F h p) (hG : ∀ a ∈ (ownA p).toList, G a = none) (I : Inv W env T m 0 F (Frz.or G (atN h (ownA p).toList)) α ρ s) (e : EnvOk env T) (hx : T.vars.lookup x = some i) {Q : Unit → Shared → Prop}
    (q : ∀ α' s', Inv W env T m 0 F G α' (ρ.set i p.2) s' → Run G s F s' F → Q () s') : wpAny (model W.prog W.w) A (storeName env x p.1) Q noE s := by
  have I₀ := I.drop hG
  obtain ⟨v, sl⟩ := p
  cases sl with
  | unset => exact hp.elim
  | val y => exact st_slot I₀ e hx (Nat.zero_le _) (.val (b := 0) hp) fun s' I' r _ => q _ s' I' r
  | own xs =>
    obtain ⟨a, rfl, hF, its, n, e', r⟩ := hp
    have ha : atN h [a] a = some (listObj its n) := atN_some.mpr ⟨List.mem_singleton.mpr rfl, e'⟩
    exact st_slot I₀ e hx (Nat.zero_le _) (.own hF (hG a (List.mem_singleton.mpr rfl)) (I.gin.is a _ (or_left ha)) r fun y j ys hy hj z => own_slot I hy hj fun _ _ _ _ _ _ hn _ _ => by
      rw [z, show Frz.or G (atN h (ownA (.ref a, .own xs)).toList) a = _ from or_left ha] at hn; cases hn) fun s' I' r _ => q _ s' I' r
theorem seq_cons {prog : Program} {w : World} {f : Value → Sem Unit} {fs : List (Value → Sem Unit)} {v : Value} {vs : List Value} {Q : Unit → Shared → Prop} (h : wpAny (model prog w) A (f v) (fun _ s' => wpAny (model prog w) A (assignInOrder fs vs) Q noE s') noE s) : wpAny (model prog w) A (assignInOrder (f :: fs) (v :: vs)) Q noE s := by
  show wpAny _ A (do holding vs (f v); assignInOrder fs vs) _ _ s
  exact wpAny_bind (wpAny_holding h)
theorem setAll_out : ∀ (is : List Nat) (ss : List Slot) (i : Nat) (x : Slot) (ρ : Rho), i ∉ is → setAll is ss (ρ.set i x) = (setAll is ss ρ).set i x
  | [], _, i, x, ρ, _ => rfl
  | _ :: _, [], i, x, ρ, _ => rfl
  | j :: is, y :: ss, i, x, ρ, h => by
    show setAll is ss ((ρ.set i x).set j y) = (setAll is ss (ρ.set j y)).set i x
    rw [List.set_comm _ _ (fun q : i = j => h (q ▸ List.mem_cons_self)), setAll_out is ss i x _ fun q => h (List.mem_cons_of_mem _ q)]
noncomputable def nm (t : Expr) : Str := onE t default (name := fun x _ _ => x)
theorem store_dir (e : EnvOk env T) {es : List Expr} {is : List Nat} (hn : NamesAre T es is) : ∀ (G : Frz) (L : List (Value × Slot)), is.length = L.length → NewL W F G h L → ∀ (s : Shared) (α : Nat → Addr) (ρ : Rho) (Q : Unit → Shared → Prop), Inv W env T m 0 F (Frz.or G (atN h (owns L))) α ρ s →
    (∀ α' s', Inv W env T m 0 F G α' (setAll is (L.map (·.2)) ρ) s' → Run G s F s' F → Q () s') → wpAny (model W.prog W.w) A (assignInOrder ((assignEach es env).map (·.2)) (L.map (·.1))) Q noE s := by
  refine NamesAre.ind (P := fun es is => ∀ (G : Frz) (L : List (Value × Slot)), is.length = L.length → NewL W F G h L → ∀ (s : Shared) (α : Nat → Addr) (ρ : Rho) (Q : Unit → Shared → Prop), Inv W env T m 0 F (Frz.or G (atN h (owns L))) α ρ s →
    (∀ α' s', Inv W env T m 0 F G α' (setAll is (L.map (·.2)) ρ) s' → Run G s F s' F → Q () s') → wpAny (model W.prog W.w) A (assignInOrder ((assignEach es env).map (·.2)) (L.map (·.1))) Q noE s) (fun G L hl n s α ρ Q I q => ?_) (fun x p i es is hi ih G L hl n s α ρ Q I q => ?_) hn
  · cases L with
    | nil => exact wpAny_pure (q α s (I.drop n.out) Run.refl)
    | cons => exact nomatch hl
  · cases L with
    | nil => exact nomatch hl
    | cons t L =>
      have hd := List.nodup_append.mp n.nd
      refine seq_cons (f := assign (.Name x p) env) (fs := (assignEach es env).map (·.2)) (v := t.1) (vs := L.map (·.1)) (wpAny_assign_Name ?_)
      refine st_new (G := Frz.or G (atN h (owns L))) (n.is t List.mem_cons_self) (fun a ha => or_none.mpr ⟨n.out a (List.mem_append_left _ ha), atN_none fun q => hd.2.2 a ha a q rfl⟩) (frz_app ▸ I) e (at_name hi).1 fun α' s' I' r => ih G L (Nat.succ.inj hl) n.tail s' α' _ Q I' fun α₂ s₂ I₂ r₂ => q α₂ s₂ I₂ (r.noN.trans r₂)
theorem names_in {es : List Expr} {is : List Nat} : NamesAre T es is → ∀ i ∈ is, ∃ y ∈ es.map nm, T.vars.lookup y = some i :=
  NamesAre.ind (P := fun es is => ∀ i ∈ is, ∃ y ∈ es.map nm, T.vars.lookup y = some i) (fun _ h => nomatch h) fun x p i es is hi ih j hj => by
    rcases List.mem_cons.mp hj with rfl | hj
    · exact ⟨x, List.mem_cons_self, (at_name hi).1⟩
    · obtain ⟨y, hy, h⟩ := ih j hj
      exact ⟨y, List.mem_cons_of_mem _ hy, h⟩
theorem store_rev (e : EnvOk env T) (ti : ∀ x y i, T.vars.lookup x = some i → T.vars.lookup y = some i → x = y) {es : List Expr} {is : List Nat} (hn : NamesAre T es is) : NamesAre T es is ∧ ((es.map nm).Nodup → ∀ (G : Frz) (L : List (Value × Slot)), is.length = L.length → NewL W F G h L → ∀ (s : Shared) (α : Nat → Addr) (ρ : Rho) (Q : Unit → Shared → Prop) (fs : List (Value → Sem Unit)) (vs : List Value), Inv W env T m 0 F (Frz.or G (atN h (owns L))) α ρ s →
    (∀ α' s', Inv W env T m 0 F G α' (setAll is (L.map (·.2)) ρ) s' → Run G s F s' F → wpAny (model W.prog W.w) A (assignInOrder fs vs) Q noE s') → wpAny (model W.prog W.w) A (assignInOrder ((es.map nm).reverse.map (fun n => bindName env n) ++ fs) ((L.map (·.1)).reverse ++ vs)) Q noE s) := by
  refine NamesAre.ind (P := fun es is => NamesAre T es is ∧ ((es.map nm).Nodup → ∀ (G : Frz) (L : List (Value × Slot)), is.length = L.length → NewL W F G h L → ∀ (s : Shared) (α : Nat → Addr) (ρ : Rho) (Q : Unit → Shared → Prop) (fs : List (Value → Sem Unit)) (vs : List Value), Inv W env T m 0 F (Frz.or G (atN h (owns L))) α ρ s →
    (∀ α' s', Inv W env T m 0 F G α' (setAll is (L.map (·.2)) ρ) s' → Run G s F s' F → wpAny (model W.prog W.w) A (assignInOrder fs vs) Q noE s') → wpAny (model W.prog W.w) A (assignInOrder ((es.map nm).reverse.map (fun n => bindName env n) ++ fs) ((L.map (·.1)).reverse ++ vs)) Q noE s)) ⟨rfl, fun _ G L hl n s α ρ Q fs vs I q => ?_⟩ (fun x p i es is hi ih => ⟨⟨x, p, i, is, rfl, hi, rfl, ih.1⟩, fun nd G L hl n s α ρ Q fs vs I q => ?_⟩) hn
  · cases L with
    | nil => exact q α s (I.drop n.out) Run.refl
    | cons => exact nomatch hl
  · cases L with
    | nil => exact nomatch hl
    | cons t L =>
      have hd := List.nodup_append.mp n.nd
      have nd := List.nodup_cons.mp nd
      have hni : i ∉ is := fun hm => by
        obtain ⟨y, hy, h⟩ := names_in ih.1 i hm
        exact nd.1 (ti x y i (at_name hi).1 h ▸ hy)
      have e1 : ((Expr.Name x p :: es).map nm).reverse.map (fun n => bindName env n) ++ fs = (es.map nm).reverse.map (fun n => bindName env n) ++ (bindName env x :: fs) := by
        rw [List.map_cons, List.reverse_cons, List.map_append, List.append_assoc]; rfl
      have e2 : ((t :: L).map (·.1)).reverse ++ vs = (L.map (·.1)).reverse ++ (t.1 :: vs) := by
        rw [List.map_cons, List.reverse_cons, List.append_assoc]; rfl
      rw [e1, e2]
      refine ih.2 nd.2 (Frz.or G (atN h (ownA t).toList)) L (Nat.succ.inj hl) ⟨n.tail.is, n.tail.nd, fun a ha => or_none.mpr ⟨n.tail.out a ha, atN_none fun q => hd.2.2 a q a ha rfl⟩⟩ s α ρ Q _ _ (frz_app' ▸ I) fun α' s' I' r => seq_cons (bindName_ ?_)
      refine st_new (n.is t List.mem_cons_self) (fun a ha => n.out a (List.mem_append_left _ ha)) I' e (at_name hi).1 fun α₂ s₂ I₂ r₂ => q α₂ s₂ ?_ (r.noN.trans r₂)
      show Inv W env T m 0 F G α₂ (setAll is (L.map (·.2)) (ρ.set i t.2)) s₂
      rw [setAll_out _ _ _ _ _ hni]; exact I₂
end
end Mine
namespace Mine
open PySem PySem.W PySem.W.X PyProof.Rows PySem.Calls
theorem dups_len {α : Type} [BEq α] [LawfulBEq α] : ∀ (n : Nat) (l : List α), l.length ≤ n → l.eraseDups.length ≤ l.length
  | _, [], _ => Nat.le_refl _
  | 0, _ :: _, h => nomatch h
  | n + 1, a :: as, h => by
    rw [List.eraseDups_cons]
    have h1 : (as.filter fun b => !b == a).length ≤ as.length := List.length_filter_le ..
    exact Nat.succ_le_succ (Nat.le_trans (dups_len n (as.filter fun b => !b == a) (Nat.le_trans h1 (Nat.le_of_succ_le_succ h))) h1)
theorem dups_nodup {α : Type} [BEq α] [LawfulBEq α] : ∀ (l : List α), l.eraseDups.length = l.length → l.Nodup
  | [], _ => List.nodup_nil
  | a :: as, h => by
    rw [List.eraseDups_cons] at h
    have h1 : (as.filter fun b => !b == a).length ≤ as.length := List.length_filter_le ..
    have h2 := dups_len _ (as.filter fun b => !b == a) (Nat.le_refl _)
    have h5 := Nat.succ.inj h
    have h4 : as.filter (fun b => !b == a) = as := List.filter_eq_self.mpr (List.length_filter_eq_length_iff.mp (Nat.le_antisymm h1 (h5 ▸ h2)))
    rw [h4] at h5
    refine List.nodup_cons.mpr ⟨fun hm => ?_, dups_nodup as h5⟩
    have := List.filter_eq_self.mp h4 a hm
    rw [beq_self_eq_true] at this; cases this
theorem filterMap_names {T : Tab} (f : Expr → Option Str) (hf : ∀ x p y, f (.Name x p) = some y → y = x) {es : List Expr} {is : List Nat} : NamesAre T es is → (es.filterMap f).length = es.length → es.filterMap f = es.map nm :=
  NamesAre.ind (P := fun es is => (es.filterMap f).length = es.length → es.filterMap f = es.map nm) (fun _ => rfl) fun x p i es is hi ih h => by
    cases hx : f (.Name x p) with
    | none =>
      rw [List.filterMap_cons_none hx] at h
      exact absurd (List.length_filterMap_le f es) (by rw [h]; exact Nat.not_succ_le_self _)
    | some y =>
      rw [List.filterMap_cons_some hx] at h ⊢
      rw [ih (Nat.succ.inj h), hf x p y hx]; rfl
theorem names_len {T : Tab} {es : List Expr} {is : List Nat} : NamesAre T es is → is.length = es.length := NamesAre.ind (P := fun es is => is.length = es.length) rfl fun _ _ _ _ _ _ ih => congrArg Nat.succ ih
noncomputable def rowOk (es : List Expr) : Bool := es.all (foldedForSure 8) || !es.all (constantsAlone 8)
inductive Swap (env : Env) (xs : List Expr) : Option (List Str) → Prop
  | none : Swap env xs none
  | some : (xs.map nm).Nodup → Swap env xs (some (xs.map nm))
theorem swapped_cases {T : Tab} {env : Env} {xs es : List Expr} {is : List Nat} {k k'} {tpos p' : Pos} (hn : NamesAre T xs is) (hc : rowOk es = true) : ∃ o, Swap env xs o ∧ swappedStores [.Tuple xs k tpos] (.Tuple es k' p') env = pure o := by
  unfold swappedStores
  dsimp only
  split
  · exact ⟨_, .none, rfl⟩
  split
  · exact ⟨_, .none, rfl⟩
  split
  · exact ⟨_, .none, rfl⟩
  rename_i h3
  split
  · exact ⟨_, .none, rfl⟩
  rename_i h4
  split
  · rename_i h5
    unfold rowOk at hc
    rw [h5, Bool.not_true, Bool.or_false] at hc
    exact absurd hc h4
  · have h3 := Bool.or_eq_false_iff.mp (Bool.eq_false_iff.mpr h3)
    have h6 := bne_eq_false_iff_eq.mp h3.1
    have h7 := bne_eq_false_iff_eq.mp h3.2
    have e1 := filterMap_names _ (fun x p y h => by
      dsimp only at h
      split at h
      · exact (Option.some.inj h).symm
      · exact nomatch h) hn h6
    rw [e1] at h7
    exact ⟨_, .some (dups_nodup _ h7), congrArg (fun z => (pure (some z) : Sem (Option (List Str)))) e1⟩
section
variable {W : Wd} {d : Nat} {env : Env} {T : Tab} {m lo : Nat} {F F' G N N' : Frz} {α : Nat → Addr} {ρ ρ' : Rho} {s s' : Shared} {A : Around} {C : Cx} {c : Cfg} {KN : Rho → Prop} {KR : V → Prop} {h : Heap} {p : Value × Slot} {L : List (Value × Slot)}
noncomputable def KnRs (W : Wd) (s : Shared) (F : Frz) (K : List Slot → Prop) (Q : List Value → Shared → Prop) : Prop := ∀ (L : List (Value × Slot)) (s' : Shared) (F' : Frz), Step W noX s F s' F' → NewL W F' noN s'.heap L → (∀ a ∈ owns L, s.heap.get? a = none) → K (L.map (·.2)) → Q (L.map (·.1)) s'
structure OkRs (W : Wd) (C : Cx) (d : Nat) (T : Tab) (m : Nat) (es : List Expr) (rs : List RD) : Prop where
  l : ∀ (env : Env) (pos : Pos) (F : Frz) (ρ : Rho) (s : Shared) (A : Around) (K : List Slot → Prop) (Q : List Value → Shared → Prop), At W d env T m F ρ s A → wpRs C rs ρ K → KnRs W s F K Q → wpAny (model W.prog W.w) A (spliced (backTo pos (starEach es env))) Q noE s
theorem rs_nil : OkRs W C d T m [] [] := ⟨fun env pos F ρ s A K Q a h k => spliced_nil (k [] _ F a.of.refl ⟨fun _ h => (nomatch h), List.nodup_nil, fun _ h => (nomatch h)⟩ (fun _ h => nomatch h) h)⟩
theorem rs_val {e : Expr} {r : List Expr} {x : XD} {rs : List RD} (he : SndE W C d T m e x) (hr : OkRs W C d T m r rs) : OkRs W C d T m (e :: r) (rVal x :: rs) := ⟨fun env pos F ρ s A K Q a h k => by
  rw [he.sh.star]
  exact spliced_cons (he.v env F ρ s A _ _ a h fun v s₁ F₁ r₁ st₁ q₁ h₁ => hr.l env pos F₁ ρ s₁ A _ _ (a.step st₁) h₁ fun L s₂ F₂ st₂ n₂ o₂ k₂ => k ((v, .val r₁) :: L) s₂ F₂ (st₁.trans st₂)
    ⟨fun p hp => (List.mem_cons.mp hp).elim (fun q => q ▸ q₁.mono st₂.le) (n₂.is p), n₂.nd, fun _ _ => rfl⟩ (fun a ha => st₁.live (fun h => h) (o₂ a ha)) k₂)⟩
theorem rs_own {e : Expr} {r : List Expr} {f : LD} {rs : List RD} (hs : ∀ r env, starEach (e :: r) env = (false, eval e env) :: starEach r env) (he : OkFr W C d T m e f) (hr : OkRs W C d T m r rs) : OkRs W C d T m (e :: r) (rOwn f :: rs) := ⟨fun env pos F ρ s A K Q a h k => by
  rw [hs]
  exact spliced_cons (he env F ρ s A _ _ a h fun b s₁ F₁ items n xs st₁ hF h0 hl rr h₁ => hr.l env pos F₁ ρ s₁ A _ _ (a.step st₁) h₁ fun L s₂ F₂ st₂ n₂ o₂ k₂ => k ((.ref b, .own xs) :: L) s₂ F₂ (st₁.trans st₂)
    ⟨fun p hp => (List.mem_cons.mp hp).elim (fun q => q ▸ ⟨b, rfl, st₂.stays_out (fun h => h) hl hF, items, n, st₂.keep _ _ (list_no_tab (a.step st₁).of.ok.ti hl) (fun h => h) hl, rr.mono st₂.le⟩) (n₂.is p), List.nodup_cons.mpr ⟨fun q => (nomatch (o₂ b q).symm.trans hl), n₂.nd⟩, fun _ _ => rfl⟩
    (fun a ha => (List.mem_cons.mp ha).elim (fun q => q ▸ h0) fun ha => st₁.live (fun h => h) (o₂ a ha)) k₂)⟩
theorem stores_direct {elts : List Expr} {k} {tpos : Pos} {v : Value} : assignStores env v none ((assignEach [.Tuple elts k tpos] env).map (·.2)) = (do assignAll v [assign (.Tuple elts k tpos) env]; pure .next) := rfl
theorem stores_swapped {names : List Str} {v : Value} {l} : assignStores env v (some names) l = (do rule "assign.swapped-stores"; let items ← unpackItems v names.length none; assignInOrder (names.reverse.map fun n => bindName env n) items.reverse; pure .next) := rfl
theorem st_assignD {xs : List Expr} {is : List Nat} {k k'} {tpos p' pos : Pos} {es : List Expr} {rs : List RD} (hn : NamesAre T xs is) (h : OkRs W C d T m es rs) (hsz : is.length ≤ 1000) (hc : rowOk es = true) : OkS W C d T m (.Assign [.Tuple xs k tpos] (.Tuple es k' p') pos) (sAssignD is rs) := fun env F G ρ s A KN KR Q p q kf => by
  rw [exec_Assign]
  refine wpAny_bind (wpAny_standAt ?_)
  have hs : swapsWithSole [.Tuple xs k tpos] (.Tuple es k' p') pos.line env = pure false := rfl
  rw [hs]
  refine wpAny_bind (wpAny_pure ?_)
  rw [if_neg (by decide), arm_eval_Tuple]
  refine wpAny_bind (wpAny_bind (wpAny_standAt (wpAny_bind (h.l env p' F ρ s A _ _ p.at q fun L s₁ F₁ st₁ n₁ o₁ ⟨hl, hk⟩ => ?_))))
  rw [List.length_map] at hl
  have h24 : sizeLine = 16777216 := by decide
  refine wpAny_newTuple ?_ (by rw [List.length_map]; lia)
  have pr : ∀ {s' F'}, Step W noX s F s' F' → Run G s F s' F' := fun st => p.run st
  obtain ⟨α, I, e, R⟩ := p
  have st₂ : Step W noX s F { s₁ with heap := s₁.heap.push { cls := .type "tuple", data := .seq (L.map (·.1)).toArray } } F₁ := st₁.trans (Step.alloc st₁.ok st₁.fin _)
  have ht : ({ s₁ with heap := s₁.heap.push { cls := .type "tuple", data := .seq (L.map (·.1)).toArray } } : Shared).heap.get? s₁.heap.objs.size = some (tupObj (L.map (·.1)) 0) := Heap.get?_push_size _ rfl
  have kp₂ : ∀ b o, s₁.heap.get? b = some o → ({ s₁ with heap := s₁.heap.push { cls := .type "tuple", data := .seq (L.map (·.1)).toArray } } : Shared).heap.get? b = some o := fun b o q => Heap.get?_push_of_some _ q
  generalize ({ s₁ with heap := s₁.heap.push { cls := .type "tuple", data := .seq (L.map (·.1)).toArray } } : Shared) = s₂ at st₂ ht kp₂ ⊢
  generalize s₁.heap.objs.size = ta at ht ⊢
  have nG : ∀ h', (∀ b o, s₂.heap.get? b = some o → h'.get? b = some o) → Step W noX s F { s₂ with heap := h' } F₁ ∧ NewL W F₁ G h' L ∧ Inv W env T m 0 F₁ (Frz.or G (atN h' (owns L))) α ρ { s₂ with heap := h' } := fun h' kp => by
    have st₃ : Step W noX s F { s₂ with heap := h' } F₁ := st₂.trans (Step.kept st₂.ok st₂.fin h' s₂.toks kp)
    have out : ∀ a ∈ owns L, G a = none := fun a ha => none_of_not fun o q => nomatch (o₁ a ha).symm.trans (I.gin.is _ _ q)
    refine ⟨st₃, ⟨fun p hp => ?_, n₁.nd, out⟩, (I.beside st₃ ⟨fun a o e => (atN_some.mp e).2, fun a ha => atN_none fun q => ?_⟩ fun a ha => o₁ a (atN_ne ha)).1⟩
    · have := n₁.is p hp
      obtain ⟨v, sl⟩ := p
      match sl, this with
      | .val _, h => exact h
      | .own _, ⟨a, e, hF, its, n, el, r⟩ => exact ⟨a, e, hF, its, n, kp _ _ (kp₂ _ _ el), r⟩
    · obtain ⟨vs, e⟩ := W.tiTab _ a I.ok.ti ha
      exact nomatch (o₁ a q).symm.trans e
  obtain ⟨o, ho, hw⟩ := swapped_cases (env := env) (k := k) (k' := k') (tpos := tpos) (p' := p') hn hc
  rw [hw]
  refine wpAny_bind (wpAny_pure ?_)
  cases ho with
  | none =>
    rw [stores_direct]
    obtain ⟨l1, l2⟩ := each_len (env := env) hn
    refine wpAny_bind (wpAny_assign_Tuple R.handled (isTup_of ht) (by rw [l1, hl, List.size_toArray, List.length_map]) l2 fun h' hx => ?_)
    obtain ⟨st₃, n₃, I₃⟩ := nG h' fun b o eb => hx b o (Nat.ne_of_lt (Heap.lt_size eb)) eb
    exact store_dir e hn G L hl n₃ _ _ _ _ I₃ fun α' s' I' r => wpAny_pure (kf.n F₁ _ s' ((pr st₃).trans r) ⟨α', I', e, R⟩ hk)
  | some nd =>
    rw [stores_swapped, show (xs.map nm).length = (L.map (·.1)).toArray.size by rw [List.size_toArray, List.length_map, List.length_map, ← hl]; exact (names_len hn).symm]
    refine wpAny_bind (wpAny_rule (wpAny_bind (wpAny_unpackItems_tuple R.handled (isTup_of ht) fun h' hx => wpAny_bind ?_)))
    obtain ⟨st₃, n₃, I₃⟩ := nG h' fun b o eb => hx b o (Nat.ne_of_lt (Heap.lt_size eb)) eb
    have := (store_rev (A := A) (F := F₁) (h := h') e I.inj hn).2 nd G L hl n₃ _ _ _ (fun _ s' => wpAny (model W.prog W.w) A (pure Flow.next) Q noE s') [] [] I₃ fun α' s' I' r => wpAny_pure (wpAny_pure (kf.n F₁ _ s' ((pr st₃).trans r) ⟨α', I', e, R⟩ hk))
    rw [List.append_nil, List.append_nil] at this
    exact this
end
end Mine
namespace Mine
open PySem PySem.W PySem.W.X PyProof.Rows PySem.Calls
noncomputable def Rs.el {α : Type} {P : α → Prop} (a b : Option {a // P a}) : Option {a // P a} := match a with
  | some p => some p
  | none => b
noncomputable def isd (p : Prop) [Decidable p] : Rs (fun _ : Unit => p) := if h : p then some ⟨(), h⟩ else none
inductive IsComp (W : Wd) (C : Cx) (d : Nat) (T : Tab) (m : Nat) (elt : Expr) (gens : List Comprehension) (scope : Scope) (pos : Pos) (x : XD) : Prop
  | mk (gc : Comprehension) (gs : List Comprehension) (tg : Tg) (it : LD) (fs : List XD) (rest : LD) (vars : List (Str × Nat)) (hg : gens = gc :: gs) (hx : x = xComp (compN scope.names) (outs vars m) (cClause tg it fs rest)) (c : CompIs W C d T m elt gc gs scope pos vars tg it fs rest)
theorem IsComp.snd {W : Wd} {C : Cx} {d : Nat} {T : Tab} {m : Nat} {elt : Expr} {gens : List Comprehension} {scope : Scope} {pos : Pos} {x : XD} (h : IsComp W C d T m elt gens scope pos x) : SndE W C d T m (.ListComp elt gens scope pos) x := by
  obtain ⟨gc, gs, tg, it, fs, rest, vars, rfl, rfl, c⟩ := h
  exact s_comp c
structure GRes where
  tg : Tg
  it : LD
  fs : List XD
  rest : LD
  w : Nat
structure GOk (W : Wd) (C : Cx) (d : Nat) (T₀ T : Tab) (lo M : Nat) (elt : Expr) (gens : List Comprehension) (scope : Scope) (pos : Pos) (depth : Nat) (g : Comprehension) (used : List Nat) (r : GRes) : Prop where
  ha : g.is_async = 0
  it : ∃ tp, SndI W C d T₀ M tp g.iter r.it ∧ (tp = true → IsTupE g.target)
  loop : OkLoop W C d T M lo elt gens scope pos depth g r.tg r.fs r.rest r.w used
section
variable {c : Cfg} {W : Wd} {C : Cx} {d : Nat} (cf : CfgOk c W C d) (E : ∀ (T : Tab) (m : Nat) (e : Expr), Rs (SndE W C d T m e))
noncomputable def mkL (T : Tab) (m : Nat) : (es : List Expr) → Rs (SndL W C d T m es)
  | [] => some ⟨[], l_nil⟩
  | e :: r => Rs.bd (E T m e) fun x hx => Rs.bd (mkL T m r) fun xs hxs => some ⟨x :: xs, l_cons hx hxs⟩
noncomputable def mkB (T : Tab) (m : Nat) (op : BoolOp) : (vs : List Expr) → Rs (SndBool W C d T m op vs)
  | [] => none
  | v :: r => Rs.bd (E T m v) fun x hx => match r with
    | [] => some ⟨x, sb_one hx⟩
    | w :: ws => Rs.bd (mkB T m op (w :: ws)) fun y hy => match op, hy with
      | .And, hy => some ⟨xAnd x y, sb_and hx hy⟩
      | .Or, hy => some ⟨xOr x y, sb_or hx hy⟩
noncomputable def mkO (T : Tab) (m : Nat) (e : Option Expr) : Rs (OkO W C d T m e) := match e with
  | none => some ⟨xNone, o_none⟩
  | some e => Rs.bd (E T m e) fun x hx => some ⟨x, o_some hx⟩
noncomputable def mkI (T : Tab) (m : Nat) (e : Expr) : Rs (fun p : Bool × LD => SndI W C d T m p.1 e p.2) :=
  Rs.el (onE e none (call := fun f args ks pos h => match ks, h with
    | [], h => onE f none (name := fun g np hf => Rs.bd (ist (T.out g)) fun _ ho =>
      Rs.el (Rs.bd (isd (g = Str.ofString "range")) fun _ hg => Rs.bd (mkL E T m args) fun xs hxs => some ⟨(false, iRange xs), h ▸ hf ▸ hg ▸ i_range cf (hg ▸ ho) hxs⟩)
      (Rs.el (Rs.bd (isd (g = Str.ofString "reversed")) fun _ hg => match args, h with
        | [a], h => Rs.bd (E T m a) fun x hx => some ⟨(false, iRev x), h ▸ hf ▸ hg ▸ i_rev cf (hg ▸ ho) hx⟩
        | _, _ => none)
      (Rs.el (Rs.bd (isd (g = Str.ofString "zip")) fun _ hg => Rs.bd (ist c.zips) fun _ hz => match args, h with
        | [a, b], h => Rs.bd (E T m a) fun x hx => Rs.bd (E T m b) fun y hy => some ⟨(true, iZip x y), h ▸ hf ▸ hg ▸ i_zip cf hz (hg ▸ ho) hx hy⟩
        | _, _ => none)
      (Rs.bd (isq (c.gens.lookup g)) fun k hk => match args, h with
        | [a], h => Rs.bd (E T m a) fun x hx => some ⟨(false, iGen k x), h ▸ hf ▸ i_gen cf ho hk hx⟩
        | _, _ => none))))
    | _, _ => none)) (Rs.bd (E T m e) fun x hx => some ⟨(false, iVal x), i_val hx⟩)
noncomputable def fromB (lo : Nat) (tg : Tg) : Bool := tg.idx.all fun i => decide (lo ≤ i)
theorem from_of {lo : Nat} {tg : Tg} (h : fromB lo tg = true) : tg.from lo := fun i hi => of_decide_eq_true (List.all_eq_true.mp h i hi)
noncomputable def outB (tg : Tg) (used : List Nat) : Bool := tg.idx.all fun i => !used.contains i
theorem out_of {tg : Tg} {used : List Nat} (h : outB tg used = true) : ∀ i ∈ tg.idx, i ∉ used := fun i hi hu => by
  have := List.all_eq_true.mp h i hi
  rw [List.contains_iff_mem.mpr hu] at this; cases this
noncomputable def mkG (T : Tab) (lo M : Nat) (elt : Expr) (gens : List Comprehension) (scope : Scope) (pos : Pos) : (gs : List Comprehension) → (T₀ : Tab) → (depth : Nat) → (g : Comprehension) → (used : List Nat) → gens[depth]? = some g → (∀ k, gens[depth + 1 + k]? = gs[k]?) → Rs (GOk W C d T₀ T lo M elt gens scope pos depth g used)
  | gs, T₀, depth, g, used, hg, hl => Rs.bd (isd (g.is_async = 0)) fun _ ha => Rs.bd (mkI cf E T₀ M g.iter) fun it hit => Rs.bd (tupV it.1 g.target) fun _ htp => Rs.bd (tgV T g.target) fun tg htg => Rs.bd (ist (fromB lo tg)) fun _ hf => Rs.bd (ist (outB tg used)) fun _ ho => Rs.bd (mkL E T M g.ifs) fun fs hfs => match gs, hl with
    | [], hl => Rs.bd (E T M elt) fun x hx => some ⟨⟨tg, it.2, fs, cDone x, 1⟩, ha, ⟨it.1, hit, htp⟩, okLoop_last hg ha (hl 0) htg (from_of hf) (out_of ho) hfs.ts hx.v⟩
    | g' :: gs', hl => Rs.bd (mkG T lo M elt gens scope pos gs' T (depth + 1) g' (tg.idx ++ used) (hl 0) fun k => by rw [Nat.add_assoc (depth + 1), Nat.add_comm 1 k]; exact hl (k + 1)) fun r hr => some ⟨⟨tg, it.2, fs, cClause r.tg r.it r.fs r.rest, 4000 * r.w⟩, ha, ⟨it.1, hit, htp⟩, let ⟨tp', hi', ht'⟩ := hr.it; okLoop_inner hg ha (hl 0) hr.ha htg (from_of hf) (out_of ho) hfs.ts hi' ht' hr.loop⟩
noncomputable def mkC (T : Tab) (m : Nat) (elt : Expr) (gens : List Comprehension) (scope : Scope) (pos : Pos) : Rs (IsComp W C d T m elt gens scope pos) :=
  Rs.bd (isd (scope.kind = .function)) fun _ hk => Rs.bd (isd ((scope.names.map (·.1)).Nodup)) fun _ hnd => Rs.bd (compV T m scope.names) fun vars hv => match gens with
    | [] => none
    | g :: gs => Rs.bd (mkG cf E (compTab vars scope) m (m + compN scope.names) elt (g :: gs) scope pos gs T 0 g [] rfl fun k => by rw [Nat.add_comm (0 + 1) k]; rfl) fun r hr => Rs.bd (isd (r.w ≤ 4000)) fun _ hw =>
      some ⟨xComp (compN scope.names) (outs vars m) (cClause r.tg r.it r.fs r.rest), g, gs, r.tg, r.it, r.fs, r.rest, vars, rfl, rfl, ⟨hv, hk, hnd⟩, hr.ha, hr.it, ⟨r.w, hw, hr.loop⟩⟩
end
end Mine
namespace Mine
open PySem PySem.W PySem.W.X PyProof.Rows PySem.Calls
section
variable {c : Cfg} {W : Wd} {C : Cx} {d : Nat} (cf : CfgOk c W C d) (E : ∀ (T : Tab) (m : Nat) (e : Expr), Rs (SndE W C d T m e))
noncomputable def mkList (T : Tab) (m : Nat) (np pos : Pos) (e : Expr) (hl : T.out (Str.ofString "list") = true) : Rs (SndE W C d T m (.Call (.Name (Str.ofString "list") np) [e] [] pos)) :=
  onE e none (call := fun f args ks p h => match ks, h with
    | [], h => onE f none (name := fun g gp hf => Rs.bd (ist (T.out g)) fun _ ho =>
      Rs.el (Rs.bd (isd (g = Str.ofString "range")) fun _ hg => Rs.bd (mkL E T m args) fun xs hxs => some ⟨xToList (iRange xs), h ▸ hf ▸ hg ▸ s_list_range cf hl (hg ▸ ho) hxs⟩)
      (Rs.bd (isq (c.gens.lookup g)) fun k hk => Rs.bd (ist c.lgen) fun _ hlg => match args, h with
        | [a], h => Rs.bd (E T m a) fun x hx => some ⟨xToList (iGen k x), h ▸ hf ▸ s_list_gen cf hlg hl ho hk hx⟩
        | _, _ => none))
    | _, _ => none)
noncomputable def mkCall (T : Tab) (m : Nat) (g : Str) (np pos : Pos) (args : List Expr) : Rs (SndE W C d T m (.Call (.Name g np) args [] pos)) :=
  Rs.el (Rs.bd (isq (T.at g)) fun i hi => Rs.bd (mkL E T m args) fun as has => some ⟨xCallv i as, s_callv cf hi has⟩)
  (Rs.bd (ist (T.out g)) fun _ ho => Rs.el (Rs.bd (isq (c.fns.lookup g)) fun k hk => Rs.bd (mkL E T m args) fun as has => some ⟨xCall k as, s_call cf ho hk has⟩)
  (Rs.el (Rs.bd (biV g) fun p hp => Rs.bd (mkL E T m args) fun as has => some ⟨xBi p.2 as, hp.1 ▸ s_bi cf (hp.1 ▸ ho) hp.2.1 hp.2.2 has⟩)
  (Rs.bd (isd (g = Str.ofString "list")) fun _ hg => match args with
    | [e] => Rs.bd (mkList cf E T m np pos e (hg ▸ ho)) fun x hx => some ⟨x, hg ▸ hx⟩
    | _ => none)))
noncomputable def mkMeth (T : Tab) (m : Nat) (o : Expr) (name : Str) (apos pos : Pos) (args : List Expr) : Rs (SndE W C d T m (.Call (.Attribute o name apos) args [] pos)) :=
  Rs.bd (recvV o) fun _ ho => Rs.bd (ist (apos.endLine == pos.line)) fun _ hl => Rs.bd (isd (args.length < 8)) fun _ hn => Rs.bd (meV name) fun me hme => Rs.bd (E T m o) fun x hx => Rs.bd (mkL E T m args) fun as has => some ⟨xMeth me x as, s_meth hme ho hl hn hx has⟩
noncomputable def mkSub (T : Tab) (m : Nat) (a i : Expr) (pos : Pos) : Rs (SndE W C d T m (.Subscript a i pos)) :=
  onE i (Rs.el (onE a none (name := fun g np hg => Rs.bd (ist (T.out g)) fun _ ho => Rs.bd (isq (c.dicts.lookup g)) fun k hk => Rs.bd (E T m i) fun y hy => some ⟨xDitem k y, hg ▸ s_ditem cf ho hk hy⟩))
    (Rs.bd (E T m a) fun x hx => Rs.bd (E T m i) fun y hy => some ⟨xItem x y, s_item hx hy⟩))
    (slice := fun lo hi st p h => match st, h with
    | none, h => Rs.bd (E T m a) fun x hx => Rs.bd (mkO E T m lo) fun l hl => Rs.bd (mkO E T m hi) fun u hu => some ⟨xSlice x l u, h ▸ s_slice hx hl hu⟩
    | _, _ => none)
noncomputable def stepE (T : Tab) (m : Nat) (e : Expr) : Rs (SndE W C d T m e) := onE e none
  (boo := fun op vs p h => Rs.bd (mkB E T m op vs) fun x hx => some ⟨_, h ▸ s_boo hx⟩)
  (bin := fun l op r p h => Rs.bd (binV op) fun f hf => Rs.bd (E T m l) fun x hx => Rs.bd (E T m r) fun y hy => some ⟨xBin f x y, h ▸ s_bin hf hx hy⟩)
  (un := fun op a p h => Rs.bd (E T m a) fun x hx => match op, h with
    | .USub, h => some ⟨xNeg x, h ▸ s_neg hx⟩
    | .Invert, h => some ⟨xInv x, h ▸ s_inv hx⟩
    | .Not, h => some ⟨xNot x, h ▸ s_not hx⟩
    | _, _ => none)
  (ite := fun t a b p h => Rs.bd (E T m t) fun x hx => Rs.bd (E T m a) fun y hy => Rs.bd (E T m b) fun z hz => some ⟨xIte x y z, h ▸ s_ite hx hy hz⟩)
  (comp := fun x g sc p h => Rs.bd (mkC cf E T m x g sc p) fun y hy => some ⟨y, h ▸ hy.snd⟩)
  (cmp := fun l ops rs p h => match ops, rs, h with
    | [op], [r], h => Rs.bd (E T m l) fun x hx => Rs.bd (E T m r) fun y hy => Rs.el (Rs.bd (cmpV op) fun f hf => some ⟨xBin f x y, h ▸ s_cmp hf hx hy⟩) (Rs.bd (inV op) fun f hf => some ⟨xIn f x y, h ▸ s_in hf hx hy⟩)
    | _, _, _ => none)
  (call := fun f args ks p h => match ks, h with
    | [], h => onE f none (attr := fun o name ap hf => Rs.bd (mkMeth E T m o name ap p args) fun x hx => some ⟨x, h ▸ hf ▸ hx⟩) (name := fun g np hf => Rs.bd (mkCall cf E T m g np p args) fun x hx => some ⟨x, h ▸ hf ▸ hx⟩)
    | _, _ => none)
  (const := fun k j p h => match k, h with
    | .none, h => some ⟨xNone, h ▸ s_none⟩
    | .bool b, h => some ⟨xBool b, h ▸ s_bool⟩
    | .int i, h => some ⟨xInt i, h ▸ s_int⟩
    | .str s, h => some ⟨xStr s.cps.toList, h ▸ s_str⟩
    | _, _ => none)
  (sub := fun a i p h => Rs.bd (mkSub cf E T m a i p) fun x hx => some ⟨x, h ▸ hx⟩)
  (name := fun x p h => Rs.el (Rs.bd (isq (T.at x)) fun i hi => some ⟨xVar i, h ▸ s_var hi⟩) (Rs.bd (ist (T.out x)) fun _ ho => Rs.bd (isq (c.consts.lookup x)) fun k hk => some ⟨xGlob k, h ▸ s_glob cf ho hk⟩))
  (list := fun es p h => Rs.bd (mkL E T m es) fun xs hxs => some ⟨xList xs, h ▸ s_list hxs⟩)
  (tup := fun es k p h => Rs.bd (mkL E T m es) fun xs hxs => some ⟨xTup xs, h ▸ s_tup hxs⟩)
noncomputable def mkE : Nat → ∀ (T : Tab) (m : Nat) (e : Expr), Rs (SndE W C d T m e)
  | 0 => fun _ _ _ => none
  | n + 1 => stepE cf (mkE n)
end
end Mine
namespace Mine
open PySem PySem.W PySem.W.X PyProof.Rows PySem.Calls
noncomputable def onS {γ : Type} (s : Stmt)
  (ret : ∀ (e : Option Expr), ∀ (p : Pos), s = .Return e p → γ)
  (del : ∀ (ts : List Expr), ∀ (p : Pos), s = .Delete ts p → γ)
  (asg : ∀ (ts : List Expr), ∀ (e : Expr), ∀ (p : Pos), s = .Assign ts e p → γ)
  (aug : ∀ (t : Expr), ∀ (op : Operator), ∀ (e : Expr), ∀ (p : Pos), s = .AugAssign t op e p → γ)
  (for' : ∀ (t : Expr), ∀ (it : Expr), ∀ (b : List Stmt), ∀ (o : List Stmt), ∀ (p : Pos), s = .For t it b o p → γ)
  (whl : ∀ (t : Expr), ∀ (b : List Stmt), ∀ (o : List Stmt), ∀ (p : Pos), s = .While t b o p → γ)
  (if' : ∀ (t : Expr), ∀ (a : List Stmt), ∀ (b : List Stmt), ∀ (p : Pos), s = .If t a b p → γ)
  (rai : ∀ (e : Option Expr), ∀ (f : Option Expr), ∀ (p : Pos), s = .Raise e f p → γ)
  (ass : ∀ (t : Expr), ∀ (msg : Option Expr), ∀ (p : Pos), s = .Assert t msg p → γ)
  (exp : ∀ (e : Expr), ∀ (p : Pos), s = .Expr e p → γ) (o : γ) : γ := match (generalizing := false) hh : s with
  | .Return e p => ret e p hh
  | .Delete ts p => del ts p hh
  | .Assign ts e p => asg ts e p hh
  | .AugAssign t op e p => aug t op e p hh
  | .For t it b o p => for' t it b o p hh
  | .While t b o p => whl t b o p hh
  | .If t a b p => if' t a b p hh
  | .Raise e f p => rai e f p hh
  | .Assert t msg p => ass t msg p hh
  | .Expr e p => exp e p hh
  | _ => o
structure FrIs (W : Wd) (C : Cx) (d : Nat) (T : Tab) (m : Nat) (e : Expr) (f : LD) : Prop where
  fr : OkFr W C d T m e f
  st : ∀ r env, starEach (e :: r) env = (false, eval e env) :: starEach r env
section
variable {c : Cfg} {W : Wd} {C : Cx} {d : Nat} (cf : CfgOk c W C d) (E : ∀ (T : Tab) (m : Nat) (e : Expr), Rs (SndE W C d T m e)) (T : Tab) (m : Nat)
noncomputable def mkFr (e : Expr) : Rs (FrIs W C d T m e) := onE e none
  (list := fun es p h => Rs.bd (mkL E T m es) fun xs hxs => some ⟨fList xs, h ▸ ⟨fr_list hxs, fun _ _ => rfl⟩⟩)
  (call := fun f args ks p h => match args, ks, h with
    | [a], [], h => onE f none (attr := fun o name ap hf => Rs.bd (isd (name = Str.ofString "split")) fun _ hn => Rs.bd (recvV o) fun _ ho => Rs.bd (ist (ap.endLine == p.line)) fun _ hl => Rs.bd (E T m o) fun x hx => Rs.bd (E T m a) fun y hy => some ⟨fSplit x y, h ▸ hf ▸ hn ▸ ⟨fr_split ho hl hx hy, fun _ _ => rfl⟩⟩)
    | _, _, _ => none)
noncomputable def mkAsg (x : Str) (np : Pos) (e : Expr) (p : Pos) : Rs (OkS W C d T m (.Assign [.Name x np] e p)) := Rs.bd (isq (T.at x)) fun i hi =>
  Rs.el (Rs.bd (ist (c.own.contains x)) fun _ _ => Rs.bd (mkFr E T m e) fun f hf => Rs.bd (noSwapV e) fun _ hs => some ⟨sAssign i (rOwn f), st_own hi hs hf.fr⟩)
  (Rs.el (onE e none (comp := fun elt gens scope cp h => Rs.bd (mkC cf E T m elt gens scope cp) fun x hx => some ⟨sAssign i (rVal x), h ▸ (by
    obtain ⟨gc, gs, tg, it, fs, rest, vars, rfl, rfl, c⟩ := hx
    exact st_assignC hi c)⟩))
  (Rs.bd (E T m e) fun x hx => Rs.bd (noSwapV e) fun _ hs => some ⟨sAssign i (rVal x), st_assign hi hs hx⟩))
noncomputable def mkRs : (ts es : List Expr) → Rs (OkRs W C d T m es)
  | [], [] => some ⟨[], rs_nil⟩
  | t :: ts, e :: es => Rs.bd (nameIs t) fun x _ => Rs.bd (mkRs ts es) fun rs hrs =>
    Rs.el (Rs.bd (ist (c.own.contains x.1)) fun _ _ => Rs.bd (mkFr E T m e) fun f hf => some ⟨rOwn f :: rs, rs_own hf.st hf.fr hrs⟩) (Rs.bd (E T m e) fun x hx => some ⟨rVal x :: rs, rs_val hx hrs⟩)
  | _, _ => none
noncomputable def mkAsgT (xs : List Expr) (j : Nat) (tp : Pos) (e : Expr) (p : Pos) : Rs (OkS W C d T m (.Assign [.Tuple xs j tp] e p)) := Rs.bd (namesV T xs) fun is his =>
  Rs.el (onE e none (tup := fun es k p' h => Rs.bd (ist (rowOk es)) fun _ hr => Rs.bd (isd (is.length ≤ 1000)) fun _ hl => Rs.bd (mkRs E T m (c := c) xs es) fun rs hrs => some ⟨sAssignD is rs, h ▸ st_assignD his hrs hl hr⟩))
  (Rs.bd (E T m e) fun x hx => Rs.bd (noSwapV e) fun _ hs => onE e none (call := fun _ _ _ _ h => some ⟨sAssignT is x, st_assignT his hx hs fun _ => h ▸ rfl⟩) (name := fun _ _ h => some ⟨sAssignT is x, st_assignT his hx hs fun _ => h ▸ rfl⟩) (sub := fun _ _ _ h => some ⟨sAssignT is x, st_assignT his hx hs fun _ => h ▸ rfl⟩)
    (ite := fun _ _ _ _ h => some ⟨sAssignT is x, st_assignT his hx hs fun _ => h ▸ rfl⟩))
noncomputable def mkAug (t : Expr) (op : Operator) (e : Expr) (p : Pos) : Rs (OkS W C d T m (.AugAssign t op e p)) := onE t none
  (name := fun x np h => Rs.bd (isq (T.at x)) fun i hi => Rs.bd (E T m e) fun y hy => match c.own.contains x with
    | true => none
    | false => Rs.bd (augV op) fun f hf => some ⟨sAug i f y, h ▸ st_aug hi hf hy⟩)
  (sub := fun a ix sp h => onE a none (name := fun x np ha => Rs.bd (isq (T.at x)) fun i hi => Rs.bd (E T m ix) fun y hy => Rs.bd (E T m e) fun z hz => Rs.bd (augIxV ix) fun _ hix => match op with
    | .Add => some ⟨sAugItem i y z, h ▸ ha ▸ st_augItem hi hy hz hix⟩
    | _ => none))
noncomputable def mkDel (ts : List Expr) (p : Pos) : Rs (OkS W C d T m (.Delete ts p)) := match ts with
  | [t] => onE t none (sub := fun a ix sp h => onE a none (name := fun x np ha => Rs.bd (isq (T.at x)) fun i hi => Rs.bd (E T m ix) fun y hy => some ⟨sDel i y, h ▸ ha ▸ st_del hi hy⟩))
  | _ => none
noncomputable def mkExp (e : Expr) (p : Pos) : Rs (OkS W C d T m (.Expr e p)) := onE e none (call := fun f args ks cp h => match ks, h with
  | [], h => onE f none (attr := fun o name ap hf => onE o none (name := fun x np ho => Rs.bd (isq (T.at x)) fun i hi => Rs.bd (ist (ap.endLine == cp.line)) fun _ hl => match args, h with
    | [a], h => Rs.bd (isd (name = Str.ofString "append")) fun _ hn => Rs.bd (E T m a) fun y hy => some ⟨sAppend i y, h ▸ hf ▸ ho ▸ hn ▸ st_append hi hl hy⟩
    | [], h => Rs.bd (isd (name = Str.ofString "reverse")) fun _ hn => some ⟨sReverse i, h ▸ hf ▸ ho ▸ hn ▸ st_reverse hi hl⟩
    | _, _ => none))
  | _, _ => none)
noncomputable def mkSs (S : ∀ s : Stmt, Rs (OkS W C d T m s)) : (ss : List Stmt) → Rs (OkSs W C d T m ss)
  | [] => some ⟨[], ss_nil⟩
  | s :: r => Rs.bd (S s) fun x hx => Rs.bd (mkSs S r) fun xs hxs => some ⟨x :: xs, ss_cons hx hxs⟩
noncomputable def stepS (S : ∀ s : Stmt, Rs (OkS W C d T m s)) (s : Stmt) : Rs (OkS W C d T m s) := onS s
  (fun e p h => match e, h with
    | some e, h => Rs.bd (E T m e) fun x hx => some ⟨sRet x, h ▸ st_ret hx⟩
    | none, _ => none)
  (fun ts p h => Rs.bd (mkDel E T m ts p) fun x hx => some ⟨x, h ▸ hx⟩)
  (fun ts e p h => match ts, h with
    | [t], h => onE t none (name := fun x np ht => Rs.bd (mkAsg cf E T m x np e p) fun x hx => some ⟨x, h ▸ ht ▸ hx⟩) (tup := fun xs j tp ht => Rs.bd (mkAsgT (c := c) E T m xs j tp e p) fun x hx => some ⟨x, h ▸ ht ▸ hx⟩)
    | _, _ => none)
  (fun t op e p h => Rs.bd (mkAug (c := c) E T m t op e p) fun x hx => some ⟨x, h ▸ hx⟩)
  (fun t it b o p h => match o, h with
    | [], h => Rs.bd (mkI cf E T m it) fun i hi => Rs.bd (tupV i.1 t) fun _ htp => Rs.bd (tgV T t) fun tg htg => Rs.bd (mkSs T m S b) fun xs hxs => some ⟨sFor tg i.2 xs, h ▸ st_for htg htp hi hxs⟩
    | _, _ => none)
  (fun t b o p h => match o, h with
    | [], h => Rs.bd (E T m t) fun x hx => Rs.bd (mkSs T m S b) fun xs hxs => some ⟨sWhl x xs, h ▸ st_while hx hxs⟩
    | _, _ => none)
  (fun t a b p h => Rs.bd (E T m t) fun x hx => Rs.bd (mkSs T m S a) fun ys hys => Rs.bd (mkSs T m S b) fun zs hzs => some ⟨sIf x ys zs, h ▸ st_if hx hys hzs⟩)
  (fun e f p h => some ⟨sDead, h ▸ st_dead⟩)
  (fun t msg p h => match msg, h with
    | none, h => Rs.bd (E T m t) fun x hx => some ⟨sAssert x, h ▸ st_assert hx⟩
    | some _, _ => none)
  (fun e p h => Rs.bd (mkExp E T m e p) fun x hx => some ⟨x, h ▸ hx⟩) none
noncomputable def mkS : Nat → ∀ s : Stmt, Rs (OkS W C d T m s)
  | 0 => fun _ => none
  | n + 1 => fun s => Rs.bd (stepS cf (mkE cf n) T m (mkS n) s) fun x hx => match c.frz.lookup s.pos.line with
    | some is => some ⟨sFrz is x, st_frz hx⟩
    | none => some ⟨x, hx⟩
noncomputable def body (n : Nat) (ss : List Stmt) : Rs (OkSs W C d T m ss) := mkSs T m (mkS cf T m n) ss
end
end Mine
namespace Mine
open PySem PySem.W PySem.W.X PyProof.Rows PySem.Calls
structure FnIs (W : Wd) (a : Addr) (ps : List Str) (body : List Stmt) (sc : Scope) (fd : FuncData) (o : Obj) : Prop where
  base : W.base a = some o
  data : o.data = .func fd
  bd : fd.body = .stmts body
  sc : fd.scope = sc
  clo : fd.closure = []
  gl : fd.globals = mainGlobals
  bu : fd.builtins = builtinsNs
  code : ∀ h : Heap, (∀ a o, W.base a = some o → h.get? a = some o) → h.CodeRec fd.code fd.qualname
  bind : ∀ vals : List Value, vals.length = ps.length → bindArgs fd ⟨vals, []⟩ = pure (ps.zip vals)
noncomputable def kindOk (k : NameKind) : Bool := k == .local || k == .cell || k == .globalImplicit
noncomputable def idxs (T : Tab) (ps : List Str) : List Nat := ps.map fun p => (T.vars.lookup p).getD 0
noncomputable def rho0 (names : List (Str × NameKind)) (ps : List Str) (vs : List V) : Rho := bindTs (idxs (tabOf names) ps) vs (List.replicate (tabOf names).vars.length .unset)
structure ScFn (sc : Scope) (ps : List Str) : Prop where
  kind : sc.kind = .function
  co : sc.isCoroutine = false
  gen : sc.isGenerator = false
  nms : ∀ x k, (x, k) ∈ sc.names → sc.names.lookup x = some k ∧ k ≠ .free
  ps : ∀ p ∈ ps, ∃ i, (tabOf sc.names).vars.lookup p = some i
noncomputable def scopeFn (sc : Scope) (ps : List Str) : Bool := sc.kind == .function && !sc.isCoroutine && !sc.isGenerator && (sc.names.all fun p => sc.names.lookup p.1 == some p.2 && kindOk p.2) && ps.all fun p => ((tabOf sc.names).vars.lookup p).isSome
theorem ScFn.of {sc : Scope} {ps : List Str} (h : scopeFn sc ps = true) : ScFn sc ps := by
  unfold scopeFn at h
  rw [Bool.and_eq_true, Bool.and_eq_true, Bool.and_eq_true, Bool.and_eq_true] at h
  obtain ⟨⟨⟨⟨h1, h2⟩, h3⟩, h4⟩, h5⟩ := h
  refine ⟨eq_of_beq h1, Bool.not_eq_true' _ ▸ h2, Bool.not_eq_true' _ ▸ h3, fun x k hm => ?_, fun p hp => Option.isSome_iff_exists.mp (List.all_eq_true.mp h5 p hp)⟩
  have := Bool.and_eq_true_iff.mp (List.all_eq_true.mp h4 (x, k) hm)
  exact ⟨eq_of_beq this.1, fun q => by subst q; exact absurd this.2 (show ¬ kindOk .free = true from Bool.false_ne_true)⟩
theorem tab_mem {names : List (Str × NameKind)} {x : Str} {i : Nat} (h : (tabOf names).vars.lookup x = some i) : ∃ k, (names.filter fun p => p.2 == .local || p.2 == .cell || p.2 == .free)[i]? = some (x, k) := by
  obtain ⟨⟨⟨y, k⟩, j⟩, hm, he⟩ := List.mem_map.mp (mem_lookup h)
  cases he
  exact ⟨k, List.mem_zipIdx_iff_getElem?.mp hm⟩
theorem tab_kind {names : List (Str × NameKind)} {x : Str} {i : Nat} (h : (tabOf names).vars.lookup x = some i) : ∃ k, (x, k) ∈ names ∧ (k = .local ∨ k = .cell ∨ k = .free) := by
  obtain ⟨k, hk⟩ := tab_mem h
  obtain ⟨h1, h2⟩ := List.mem_filter.mp (List.mem_of_getElem? hk)
  exact ⟨k, h1, (Bool.or_eq_true_iff.mp h2).elim (fun h => (Bool.or_eq_true_iff.mp h).imp eq_of_beq fun h => .inl (eq_of_beq h)) fun h => .inr (.inr (eq_of_beq h))⟩
theorem tab_len {names : List (Str × NameKind)} {x : Str} {i : Nat} (h : (tabOf names).vars.lookup x = some i) : i < (tabOf names).vars.length := by
  obtain ⟨k, hk⟩ := tab_mem h
  have := (List.getElem?_eq_some_iff.mp hk).1
  show i < (List.map _ _).length
  rw [List.length_map, List.length_zipIdx]; exact this
theorem tab_inj {names : List (Str × NameKind)} {x y : Str} {i : Nat} (h : (tabOf names).vars.lookup x = some i) (h' : (tabOf names).vars.lookup y = some i) : x = y := by
  obtain ⟨k, hk⟩ := tab_mem h
  obtain ⟨k', hk'⟩ := tab_mem h'
  rw [hk] at hk'; cases hk'; rfl
theorem cells_some : ∀ (names : List (Str × NameKind)) (n : Nat) (acc : List (Str × Addr)) (x : Str), ((x, NameKind.cell) ∈ names ∨ ∃ c, acc.lookup x = some c) → ∃ c, (cellsFrom n names acc).lookup x = some c
  | [], n, acc, x, h => h.elim (fun h => nomatch h) id
  | (y, k) :: r, n, acc, x, h => by
    unfold cellsFrom
    split
    · refine cells_some r _ _ x ?_
      rcases h with h | ⟨c, h⟩
      · rcases List.mem_cons.mp h with h | h
        · cases h; exact .inr ⟨_, List.lookup_cons_self⟩
        · exact .inl h
      · refine .inr ?_
        rw [List.lookup_cons]
        split
        · exact ⟨_, rfl⟩
        · exact ⟨c, h⟩
    · rename_i hk
      refine cells_some r _ _ x (h.imp (fun h => (List.mem_cons.mp h).elim (fun h => ?_) id) id)
      cases h; exact absurd rfl hk
section
variable {W : Wd} {d : Nat} {F : Frz} {s : Shared} {A : Around} {C : Cx} {c : Cfg}
noncomputable def Bnd (W : Wd) (F : Frz) (kindOf : Str → Option NameKind) (m cm : Str → Option Value) (x : Str) (sl : Slot) : Prop := match sl with
  | .unset => True
  | .val v => ∃ val, ((kindOf x = some .local ∧ m x = some val) ∨ ((kindOf x = some .cell ∨ kindOf x = some .free) ∧ cm x = some val)) ∧ Rel W F val v
  | .own _ => False
theorem Bnd.keep {kindOf : Str → Option NameKind} {m cm m' cm' : Str → Option Value} {x : Str} {sl : Slot} (h : Bnd W F kindOf m cm x sl) (h1 : m' x = m x) (h2 : cm' x = cm x) : Bnd W F kindOf m' cm' x sl := match sl, h with
  | .unset, _ => trivial
  | .val _, ⟨val, h, r⟩ => ⟨val, h.imp (fun h => ⟨h.1, h1.trans h.2⟩) fun h => ⟨h.1, h2.trans h.2⟩, r⟩
theorem bnd_all {T : Tab} {k : Nat} {kindOf : Str → Option NameKind} (len : ∀ x i, T.vars.lookup x = some i → i < k) (inj : ∀ x y i, T.vars.lookup x = some i → T.vars.lookup y = some i → x = y) : ∀ (ps : List Str) (vals : List Value) (vs : List V), RelL W F vals vs → vs.length = ps.length → (∀ p ∈ ps, (∃ i, T.vars.lookup p = some i) ∧ (kindOf p = some .local ∨ kindOf p = some .cell)) →
    ∀ (m cm : Str → Option Value) (ρ : Rho), ρ.length = k → (∀ x i, T.vars.lookup x = some i → Bnd W F kindOf m cm x (ρ.at i)) →
    (bindTs (idxs T ps) vs ρ).length = k ∧ ∀ x i, T.vars.lookup x = some i → Bnd W F kindOf (bindL kindOf (ps.zip vals) m) (bindC kindOf (ps.zip vals) cm) x (Rho.at (bindTs (idxs T ps) vs ρ) i)
  | [], _, [], _, _, _, m, cm, ρ, hl, h => ⟨hl, h⟩
  | _ :: _, _, [], _, hl, _, _, _, _, _, _ => nomatch hl
  | [], _, _ :: _, _, hl, _, _, _, _, _, _ => nomatch hl
  | p :: ps, _, x :: vs, ⟨v, vals, rfl, r, rr⟩, hl, hp, m, cm, ρ, hρ, h => by
    obtain ⟨⟨i, hi⟩, h2⟩ := hp p List.mem_cons_self
    have hlt : i < ρ.length := hρ ▸ len p i hi
    have e1 : bindTs (idxs T (p :: ps)) (x :: vs) ρ = bindTs (idxs T ps) vs (ρ.set i (.val x)) := by
      show bindTs ((T.vars.lookup p).getD 0 :: idxs T ps) (x :: vs) ρ = _
      rw [hi]; rfl
    rw [e1]
    refine bnd_all len inj ps vals vs rr (Nat.succ.inj hl) (fun q hq => hp q (List.mem_cons_of_mem _ hq)) _ _ _ (List.length_set.trans hρ) fun y j hy => ?_
    by_cases hij : i = j
    · subst hij
      rw [at_set_self hlt]
      obtain rfl := inj y p i hy hi
      exact ⟨v, h2.imp (fun h2 => ⟨h2, by rw [if_pos h2]; exact if_pos rfl⟩) fun h2 => ⟨.inl h2, by rw [if_neg (by rw [h2]; exact nofun)]; exact if_pos rfl⟩, r⟩
    · rw [at_set_ne hij]
      have hyp : y ≠ p := fun q => hij (by rw [q, hi] at hy; exact Option.some.inj hy)
      refine (h y j hy).keep ?_ ?_
      · split
        · exact if_neg hyp
        · rfl
      · split
        · rfl
        · exact if_neg hyp
noncomputable def snap (W : Wd) (h : Heap) : Frz := fun a => by classical exact if a ∈ W.tabs then none else h.get? a
theorem snap_some {h : Heap} {a : Addr} {o : Obj} (e : snap W h a = some o) : h.get? a = some o := by
  unfold snap at e
  split at e
  · cases e
  · exact e
theorem snap_of {h : Heap} {a : Addr} {o : Obj} (ht : a ∉ W.tabs) (e : h.get? a = some o) : snap W h a = some o := (if_neg ht).trans e
end
end Mine
namespace Mine
open PySem PySem.W PySem.W.X PyProof.Rows PySem.Calls
section
variable {W : Wd} {d : Nat} {F : Frz} {s : Shared} {A : Around} {C : Cx} {c : Cfg}
theorem at_rep {k i : Nat} : Rho.at (List.replicate k Slot.unset) i = .unset := app_at_new (ρ := []) (Nat.zero_le i)
theorem snap_nt {h : Heap} {a : Addr} {o : Obj} (e : snap W h a = some o) : a ∉ W.tabs := fun ha => by
  unfold snap at e
  rw [if_pos ha] at e; cases e
theorem Run.step {F' : Frz} {s' : Shared} (r : Run (snap W s.heap) s F s' F') (ok : HOk W s'.heap) (fin : FOk W F' s'.heap) (gin : FOk W (snap W s.heap) s'.heap) : Step W noX s F s' F' where
  ok := ok
  fin := fin
  le := r.le
  new := fun b o q => (r.new b o q).imp id fun z => .inl (none_of_not' fun ob hq => by
    have ht : b ∉ W.tabs := fun q' => by have := fin.tab b q'; rw [q] at this; cases this
    rw [snap_of ht hq] at z; cases z)
  keep := fun b o ht _ eb => gin.is _ _ (snap_of ht eb)
  os := r.os
  gens := fun i g _ e => r.gens i g e
  bare := r.bare
noncomputable def Back (W : Wd) (G : Frz) (s : Shared) (F : Frz) (K : V → Prop) (Q : Flow → Shared → Prop) : Prop := ∀ F' s' v x, Run G s F s' F' → HOk W s'.heap → FOk W F' s'.heap → FOk W G s'.heap → Rel W F' v x → K x → Q (.ret v) s'
structure InFn (W : Wd) (d : Nat) (sc : Scope) (fd : FuncData) (ps : List Str) (vs : List V) (env : Env) (F G : Frz) (s : Shared) (A : Around) : Prop where
  inv : Inv W env (tabOf sc.names) (tabOf sc.names).vars.length 0 F G (fun _ => 0) (rho0 sc.names ps vs) s
  en : EnvOk env (tabOf sc.names)
  room : Room A d
  esc : env.scope = sc
  code : env.code = fd.code
  qual : env.qual = fd.qualname ++ ".<locals>."
  cells : env.cells = cellsFrom (env.locals + 1) sc.names []
  le : FLe F G
theorem call_in {a : Addr} {ps : List Str} {body : List Stmt} {sc : Scope} {fd : FuncData} {o : Obj} {P : List V → (V → Prop) → Prop} (h : FnIs W a ps body sc fd o) (hs : scopeFn sc ps = true)
    (hb : ∀ env F G s A vs K Q, InFn W d sc fd ps vs env F G s A → P vs K → Back W G s F K Q → wpAny (model W.prog W.w) A (execs body env) Q noE s) :
    CallAt W (d + 1) a fun vs K => vs.length = ps.length ∧ P vs K := fun A s F vals vs K Q R of rl ⟨hl, hw⟩ k => by
  have sf := ScFn.of hs
  obtain rfl := h.sc
  have hbase := of.ok.base.is
  have kindP : ∀ p ∈ ps, fd.scope.names.lookup p = some .local ∨ fd.scope.names.lookup p = some .cell := fun p hp => by
    obtain ⟨i, hi⟩ := sf.ps p hp
    obtain ⟨k, hk, hk2⟩ := tab_kind hi
    obtain ⟨e1, e2⟩ := sf.nms p k hk
    rcases hk2 with rfl | rfl | rfl
    · exact .inl e1
    · exact .inr e1
    · exact absurd rfl e2
  refine wpAny_call (codeAny_call_cells (binds := ps.zip vals) R.lt (hbase _ _ h.base) h.data (W.hlim _ hbase) (h.code _ hbase) h.bd (h.bind vals (rl.length.trans hl)) h.clo (fun x hx => ?_) (fun s₁ X => ?_) sf.co sf.gen sf.kind)
  · have hm := List.of_mem_zip (show (x.1, x.2) ∈ ps.zip vals from hx)
    exact (kindP x.1 hm.1).imp id fun q => ⟨q, Option.isSome_iff_exists.mpr (cells_some _ _ _ _ (.inl (mem_lookup q)))⟩
  obtain ⟨h₁, tk, rfl, _⟩ := id X.done
  have kp := X.toInCall.keep
  have hLF : ∀ (F : Frz), (∀ b o, F b = some o → s.heap.get? b = some o) → ∀ b, s.heap.objs.size ≤ b → F b = none := fun F hF b hb => none_of_not fun o q => absurd (Heap.lt_size (hF _ _ q)) (Nat.not_lt.mpr hb)
  have gis : ∀ b o, snap W s.heap b = some o → s.heap.get? b = some o := fun b o e => snap_some e
  have hbn := bnd_all (W := W) (F := F) (T := tabOf fd.scope.names) (kindOf := fun x => fd.scope.names.lookup x) (fun x i => tab_len) (fun x y i => tab_inj) ps vals vs rl hl (fun p hp => ⟨sf.ps p hp, kindP p hp⟩) (fun _ => none) (fun _ => none) (List.replicate (tabOf fd.scope.names).vars.length .unset) List.length_replicate (fun x i _ => by rw [at_rep]; trivial)
  have kc : ∀ x, (x, NameKind.cell) ∈ fd.scope.names → ∃ c, (cellsFrom (s.heap.objs.size + 1) fd.scope.names []).lookup x = some c := fun x hm => cells_some _ _ _ x (.inl hm)
  have e : EnvOk (callEnvC fd s.heap.objs.size a) (tabOf fd.scope.names) := ⟨fun x hx => (mem_celOf hx).elim (fun hm => ⟨.inl (sf.nms x _ hm).1, kc x hm⟩) fun hm => absurd rfl (sf.nms x _ hm).2, sf.kind, h.gl, h.bu, fun g hg => (sf.nms g _ (mem_globsOf hg)).1⟩
  have I : Inv W (callEnvC fd s.heap.objs.size a) (tabOf fd.scope.names) (tabOf fd.scope.names).vars.length 0 F (snap W s.heap) (fun _ => 0) (rho0 fd.scope.names ps vs) { s with heap := h₁, toks := tk } := by
    refine ⟨of.fb, of.ok.of kp, ⟨fun b o q => kp _ _ (of.fin.is _ _ q), of.fin.tab⟩, ⟨fun b o q => kp _ _ (gis _ _ q), fun b hb => none_of_not fun o q => snap_nt q hb⟩, hLF F of.fin.is _ (Nat.le_refl _), hLF _ gis _ (Nat.le_refl _), hbn.1, fun x i => tab_len, fun x y i => tab_inj,
      fun x y c hx hy => PySem.name_of_addr X.apart (mem_lookup hx) (mem_lookup hy), fun x i hi _ => ?_, ⟨_, X.toInCall.ns, fun x i hi => ?_⟩, fun x y i j xs ys hx hy hij hi hj => ?_, fun x c hc => cell_live (X.cell x c hc)⟩
    · obtain ⟨k, hk, hk2⟩ := tab_kind hi
      obtain ⟨e1, e2⟩ := sf.nms x k hk
      rcases hk2 with rfl | rfl | rfl
      · exact .inl e1
      · obtain ⟨c, hc⟩ := kc x hk
        have hlt := Nat.le_of_lt (X.above x c (mem_lookup hc))
        exact .inr ⟨e1, c, _, hc, X.cell x c hc, hLF F of.fin.is _ hlt, hLF _ gis _ hlt⟩
      · exact absurd rfl e2
    · have hb := hbn.2 x i hi
      show SlotOk _ _ _ _ _ _ _ _ (Rho.at (bindTs (idxs (tabOf fd.scope.names) ps) vs _) i)
      generalize (Rho.at (bindTs (idxs (tabOf fd.scope.names) ps) vs (List.replicate (tabOf fd.scope.names).vars.length .unset)) i) = sl at hb ⊢
      match sl, hb with
      | .unset, _ => exact trivial
      | .val w, ⟨u, hu, hr⟩ =>
        refine ⟨u, hu.imp id fun ⟨a, b⟩ => ?_, hr⟩
        have a := a.resolve_right fun z => (sf.nms x _ (mem_lookup z)).2 rfl
        obtain ⟨c, hc⟩ := kc x (mem_lookup a)
        exact ⟨.inl a, c, hc, b ▸ X.cell x c hc⟩
    · have hb := hbn.2 x i hx
      have hi' : Rho.at (bindTs (idxs (tabOf fd.scope.names) ps) vs (List.replicate (tabOf fd.scope.names).vars.length .unset)) i = .own xs := hi
      rw [hi'] at hb; exact hb.elim
  exact offE (hb _ F (snap W s.heap) _ (A.deeper _) vs K _ ⟨I, e, R.deeper, rfl, rfl, rfl, rfl, fun b o q => snap_of (fun z => nomatch (of.fin.tab b z).symm.trans q) (of.fin.is _ _ q)⟩ hw fun F' s' v x r ok fin gin rr kk => by
    have r' : Run (snap W s.heap) s F s' F' := ⟨r.le, r.new, r.os, r.gens, r.bare⟩
    exact k _ _ F' _ (r'.step ok fin gin) rr kk)
theorem call_fn {a : Addr} {ps : List Str} {body : List Stmt} {sc : Scope} {fd : FuncData} {o : Obj} {xb : List SD} (h : FnIs W a ps body sc fd o) (hs : scopeFn sc ps = true) (hb : OkSs W C d (tabOf sc.names) (tabOf sc.names).vars.length body xb) :
    CallAt W (d + 1) a fun vs K => vs.length = ps.length ∧ wpSs C xb (rho0 sc.names ps vs) (fun _ => False) K :=
  call_in h hs fun env F G s A vs K Q B hw k => hb env F G _ s A (fun _ => False) K Q ⟨_, B.inv, B.en, B.room⟩ hw ⟨fun _ _ _ _ _ hk => hk.elim, fun F' ρ' s' v x r ⟨_, I', _, _⟩ rr kk => k F' s' v x r I'.ok I'.fin I'.gin rr kk⟩
end
end Mine
namespace Mine
open PySem PySem.W PySem.W.X PyProof.Rows PySem.Calls
structure ZAp (z TI TO i1 i2 : Addr) (fp1 fp2 : List Addr) : Prop where
  TIz : TI ≠ z
  TOz : TO ≠ z
  i1z : i1 ≠ z
  i2z : i2 ≠ z
  TITO : TI ≠ TO
  TIi1 : TI ≠ i1
  TIi2 : TI ≠ i2
  TOi1 : TO ≠ i1
  TOi2 : TO ≠ i2
  i12 : i1 ≠ i2
  z1 : z ∉ fp1
  T1 : TO ∉ fp1
  j1 : i2 ∉ fp1
  z2 : z ∉ fp2
  T2 : TO ∉ fp2
  j2 : i1 ∉ fp2
theorem fr_but {prog : Program} {w : World} {A : Around} {it : Addr} {fp : List Addr} {n : Nat} {P : Nat → Value → Prop} {St : Nat → Heap → Prop} (D : Draws prog w A it fp n P St) {i : Nat} {h h' : Heap} {a : Addr} (st : St i h) (hs : Heap.SameBut a h h') (ha : a ∉ fp) : St i h' :=
  D.frame _ _ _ st fun b hb o e => hs.extBut b o (fun q => ha (q ▸ hb)) e
section
variable {prog : Program} {w : World} {A : Around} {E : Value → Shared → Prop} {z TI TO i1 i2 : Addr} {fp1 fp2 : List Addr} {n1 n2 : Nat} {P1 P2 : Nat → Value → Prop} {St1 St2 : Nat → Heap → Prop} {k1 k2 : Nat} {a b : Value}
theorem zip_step (hp : Heap) (g : Array GenState) (d : _) (tk : Nat) (os : _) {Q : Value → Shared → Prop} (D : ZAp z TI TO i1 i2 fp1 fp2) (D1 : Draws prog w A i1 fp1 n1 P1 St1) (D2 : Draws prog w A i2 fp2 n2 P2 St2)
    (hz : IsZip hp z TI TO .none) (hTI : IsPair hp TI (.ref i1) (.ref i2)) (hTO : IsPair hp TO a b) (h1 : St1 k1 hp) (h2 : St2 k2 hp) (l1 : k1 < n1) (l2 : k2 < n2)
    (hQ : ∀ x y h' tk', P1 k1 x → P2 k2 y → IsZip h' z TI TO (rawInt hp.objs.size) → IsPair h' TO x y → St1 (k1 + 1) h' → St2 (k2 + 1) h' → IsPair h' hp.objs.size x y → h'.objs.size = hp.objs.size + 1 →
      (∀ c o, c ≠ z → c ≠ TO → c ≠ i1 → c ≠ i2 → hp.get? c = some o → h'.get? c = some o) → Q (.ref hp.objs.size) ⟨h', g, d, tk', os⟩) :
    wpAny (model prog w) A (Builtin.«zip.__next__» ⟨[.ref z], []⟩) (fun fin s' => ∃ v, fin = .done (.ret v) ∧ Q v s') E ⟨hp, g, d, tk, os⟩ := by
  show wpAny _ _ (field (.ref z) 2 >>= _) _ _ _
  refine wpAny_bind (wpAny_field hz rfl (x := .bool false) rfl ?_)
  show wpAny _ _ (field (.ref z) 3 >>= _) _ _ _
  refine wpAny_bind (wpAny_field hz rfl (x := .ref TI) rfl (wpAny_bind (wpAny_seqItems hTI rfl ?_)))
  show wpAny _ _ (Builtin.SmallTypes.ownedTupleIsFree (.ref z) >>= _) _ _ _
  refine wpAny_bind ?_
  unfold Builtin.SmallTypes.ownedTupleIsFree
  refine wpAny_bind (wpAny_field hz rfl (x := .none) rfl (wpAny_pure ?_))
  simp only [if_true]
  refine wpAny_bind (wpAny_rule (wpAny_bind (wpAny_field hz rfl (x := .ref TO) rfl (wpAny_bind (wpAny_setField_rec hz (by simp) fun ha hza hsa => ?_)))))
  replace hza : IsZip ha z TI TO .ellipsis := hza
  refine wpAny_bind ?_
  simp only [List.zipIdx_cons, List.zipIdx_nil, List.forIn_cons, List.forIn_nil]
  refine wpAny_bind (wpAny_bind (wpAny_onRaise ?_))
  show wpAny _ _ (Builtin.SmallTypes.nextOf (.ref i1) >>= _) _ _ _
  refine wpAny_bind (D1.item k1 _ _ _ l1 (fr_but D1 h1 hsa D.z1) fun x hb tkb hx s1 hsb => wpAny_pure ?_)
  have hsb : Heap.SameBut i1 ha hb := hsb
  have s1 : St1 (k1 + 1) hb := s1
  have hTOb : IsPair hb TO a b := hsb.extBut _ _ D.TOi1 (hsa.extBut _ _ D.TOz hTO)
  refine wpAny_bind (wpAny_seqItems hTOb rfl (wpAny_bind (wpAny_updateSeq_pair hTOb fun hc hTOc hsc => ?_)))
  replace hTOc : IsPair hc TO x b := hTOc
  have hsc : Heap.SameBut TO hb hc := hsc
  refine wpAny_bind (wpAny_letGo (wpAny_pure (wpAny_bind (wpAny_bind (wpAny_onRaise ?_)))))
  show wpAny _ _ (Builtin.SmallTypes.nextOf (.ref i2) >>= _) _ _ _
  refine wpAny_bind (D2.item k2 _ _ _ l2 (fr_but D2 (fr_but D2 (fr_but D2 h2 hsa D.z2) hsb D.j2) hsc D.T2) fun y hd tkd hy s2 hsd => wpAny_pure ?_)
  have hsd : Heap.SameBut i2 hc hd := hsd
  have s2 : St2 (k2 + 1) hd := s2
  have hTOd : IsPair hd TO x b := hsd.extBut _ _ D.TOi2 hTOc
  refine wpAny_bind (wpAny_seqItems hTOd rfl (wpAny_bind (wpAny_updateSeq_pair hTOd fun he hTOe hse => ?_)))
  replace hTOe : IsPair he TO x y := hTOe
  have hse : Heap.SameBut TO hd he := hse
  refine wpAny_bind (wpAny_letGo (wpAny_pure (wpAny_pure (wpAny_bind (wpAny_seqItems hTOe rfl (wpAny_bind (wpAny_newTuple ?_)))))))
  have hsz : he.objs.size = hp.objs.size := by rw [hse.1, hsd.1, hsc.1, hsb.1, hsa.1]
  have hze : IsZip he z TI TO .ellipsis := hse.extBut _ _ D.TOz.symm (hsd.extBut _ _ D.i2z.symm (hsc.extBut _ _ D.TOz.symm (hsb.extBut _ _ D.i1z.symm hza)))
  have hke : ∀ c o, c ≠ z → c ≠ TO → c ≠ i1 → c ≠ i2 → hp.get? c = some o → he.get? c = some o := fun c o c1 c2 c3 c4 e =>
    hse.extBut _ _ c2 (hsd.extBut _ _ c4 (hsc.extBut _ _ c2 (hsb.extBut _ _ c3 (hsa.extBut _ _ c1 e))))
  have s1 : St1 (k1 + 1) he := fr_but D1 (fr_but D1 (fr_but D1 s1 hsc D.T1) hsd D.j1) hse D.T1
  have s2 : St2 (k2 + 1) he := fr_but D2 s2 hse D.T2
  show wpAny _ _ (Builtin.SmallTypes.ownedTupleHandOut (.ref z) (.ref he.objs.size) >>= _) _ _ _
  refine wpAny_bind ?_
  unfold Builtin.SmallTypes.ownedTupleHandOut
  have hzf : IsZip (he.push { cls := .type "tuple", data := .seq #[x, y] }) z TI TO .ellipsis := Heap.get?_push_of_some _ hze
  refine wpAny_bind (wpAny_setField_rec hzf (by simp) fun hg hzg hsg => ?_)
  replace hzg : IsZip hg z TI TO (rawInt he.objs.size) := hzg
  refine wpAny_setField_rec hzg (by simp) fun hi hzi hsi => ?_
  replace hzi : IsZip hi z TI TO (rawInt he.objs.size) := hzi
  have hsg : Heap.SameBut z (he.push { cls := .type "tuple", data := .seq #[x, y] }) hg := hsg
  have hsi : Heap.SameBut z hg hi := hsi
  have up : ∀ c o, c ≠ z → he.get? c = some o → hi.get? c = some o := fun c o c1 e => hsi.extBut _ _ c1 (hsg.extBut _ _ c1 (Heap.get?_push_of_some _ e))
  have zne : he.objs.size ≠ z := Nat.ne_of_gt (Heap.lt_size hze)
  have hT : IsPair hi he.objs.size x y := hsi.extBut _ _ zne (hsg.extBut _ _ zne (Heap.get?_push_size _ rfl))
  have hsz8 : hi.objs.size = he.objs.size + 1 := by rw [hsi.1, hsg.1, Heap.size_push]
  rw [hsz] at hzi hT hsz8
  refine wpAny_pure ⟨_, rfl, ?_⟩
  show Q (.ref he.objs.size) _
  rw [hsz]
  exact hQ x y hi tkd hx hy hzi (up _ _ D.TOz hTOe) (D1.frame _ _ _ s1 fun b hb o e => up b o (fun q => D.z1 (q ▸ hb)) e) (D2.frame _ _ _ s2 fun b hb o e => up b o (fun q => D.z2 (q ▸ hb)) e) hT hsz8 fun c o c1 c2 c3 c4 e => up c o c1 (hke c o c1 c2 c3 c4 e)
theorem zip_stop (hp : Heap) (g : Array GenState) (d : _) (tk : Nat) (os : _) {Q : PySem.Fin → Shared → Prop} (D : ZAp z TI TO i1 i2 fp1 fp2) (D1 : Draws prog w A i1 fp1 n1 P1 St1) (D2 : Draws prog w A i2 fp2 n2 P2 St2)
    (hz : IsZip hp z TI TO .none) (hTI : IsPair hp TI (.ref i1) (.ref i2)) (hTO : IsPair hp TO a b) (h1 : St1 k1 hp) (h2 : St2 k2 hp) (hend : k1 = n1 ∨ (k1 < n1 ∧ k2 = n2))
    (hE : ∀ h' e tk', (∀ c o, c ≠ z → c ≠ TO → c ≠ i1 → c ≠ i2 → hp.get? c = some o → h'.get? c = some o) → (∃ o, h'.get? e = some o ∧ o.cls = .type "StopIteration") → E (.ref e) ⟨h', g, d, tk', os⟩) :
    wpAny (model prog w) A (Builtin.«zip.__next__» ⟨[.ref z], []⟩) Q E ⟨hp, g, d, tk, os⟩ := by
  show wpAny _ _ (field (.ref z) 2 >>= _) _ _ _
  refine wpAny_bind (wpAny_field hz rfl (x := .bool false) rfl ?_)
  show wpAny _ _ (field (.ref z) 3 >>= _) _ _ _
  refine wpAny_bind (wpAny_field hz rfl (x := .ref TI) rfl (wpAny_bind (wpAny_seqItems hTI rfl ?_)))
  show wpAny _ _ (Builtin.SmallTypes.ownedTupleIsFree (.ref z) >>= _) _ _ _
  refine wpAny_bind ?_
  unfold Builtin.SmallTypes.ownedTupleIsFree
  refine wpAny_bind (wpAny_field hz rfl (x := .none) rfl (wpAny_pure ?_))
  simp only [if_true]
  refine wpAny_bind (wpAny_rule (wpAny_bind (wpAny_field hz rfl (x := .ref TO) rfl (wpAny_bind (wpAny_setField_rec hz (by simp) fun ha hza hsa => ?_)))))
  replace hza : IsZip ha z TI TO .ellipsis := hza
  refine wpAny_bind ?_
  simp only [List.zipIdx_cons, List.zipIdx_nil, List.forIn_cons, List.forIn_nil]
  refine wpAny_bind (wpAny_bind (wpAny_onRaise ?_))
  show wpAny _ _ (Builtin.SmallTypes.nextOf (.ref i1) >>= _) _ _ _
  rcases hend with rfl | ⟨l1, rfl⟩
  · refine wpAny_bind (D1.done _ _ _ (fr_but D1 h1 hsa D.z1) fun hb e hsb hoe => ?_)
    obtain ⟨oe, hoe, hce⟩ := hoe
    have hsb : Heap.ExtBut i1 ha hb := hsb
    have hzb : IsZip hb z TI TO .ellipsis := hsb _ _ D.i1z.symm hza
    have hez : e ≠ z := fun q => by subst q; rw [hzb] at hoe; cases hoe; simp at hce
    exact wpAny_setField_rec hzb (by simp) fun hc _ hsc => hE hc e _ (fun c o c1 _ c3 _ q => hsc.extBut _ _ c1 (hsb _ _ c3 (hsa.extBut _ _ c1 q))) ⟨oe, hsc.extBut _ _ hez hoe, hce⟩
  · refine wpAny_bind (D1.item k1 _ _ _ l1 (fr_but D1 h1 hsa D.z1) fun x hb tkb hx s1 hsb => wpAny_pure ?_)
    have hsb : Heap.SameBut i1 ha hb := hsb
    have hTOb : IsPair hb TO a b := hsb.extBut _ _ D.TOi1 (hsa.extBut _ _ D.TOz hTO)
    refine wpAny_bind (wpAny_seqItems hTOb rfl (wpAny_bind (wpAny_updateSeq_pair hTOb fun hc hTOc hsc => ?_)))
    have hsc : Heap.SameBut TO hb hc := hsc
    refine wpAny_bind (wpAny_letGo (wpAny_pure (wpAny_bind (wpAny_bind (wpAny_onRaise ?_)))))
    show wpAny _ _ (Builtin.SmallTypes.nextOf (.ref i2) >>= _) _ _ _
    refine wpAny_bind (D2.done _ _ _ (fr_but D2 (fr_but D2 (fr_but D2 h2 hsa D.z2) hsb D.j2) hsc D.T2) fun hd e hsd hoe => ?_)
    obtain ⟨oe, hoe, hce⟩ := hoe
    have hsd : Heap.ExtBut i2 hc hd := hsd
    have hzd : IsZip hd z TI TO .ellipsis := hsd _ _ D.i2z.symm (hsc.extBut _ _ D.TOz.symm (hsb.extBut _ _ D.i1z.symm hza))
    have hez : e ≠ z := fun q => by subst q; rw [hzd] at hoe; cases hoe; simp at hce
    exact wpAny_setField_rec hzd (by simp) fun hf _ hsf => hE hf e _ (fun c o c1 c2 c3 c4 q => hsf.extBut _ _ c1 (hsd _ _ c4 (hsc.extBut _ _ c2 (hsb.extBut _ _ c3 (hsa.extBut _ _ c1 q))))) ⟨oe, hsf.extBut _ _ hez hoe, hce⟩
end
end Mine
namespace Mine
open PySem PySem.W PySem.W.X PyProof.Rows PySem.Calls
section
variable {prog : Program} {w : World} {A : Around} {E : Value → Shared → Prop} {s : Shared}
theorem draws_str (hh : A.handled = none) (it : Addr) (x : Str) (t : Tok) : Draws prog w A it [it] x.cps.size (fun i v => ∃ c u, x.cps[i]? = some c ∧ v = .str ⟨#[c]⟩ u) (fun i h => h.IsStrIter it (strIterType x) x t i) := by
  unfold strIterType
  split
  · exact Draws.strAscii hh it x t
  · exact Draws.strWide hh it x t
noncomputable abbrev zs1 (h : Heap) (l1 : Addr) : Heap := h.push { cls := .type "list_iterator", data := .fields #[.ref l1, .int 0 0] }
noncomputable abbrev zs2 (h : Heap) (l1 : Addr) (x : Str) (t : Tok) : Heap := (zs1 h l1).push { cls := .type (strIterType x), data := .fields #[.str x t, .int 0 0] }
noncomputable abbrev zs3 (h : Heap) (l1 : Addr) (x : Str) (t : Tok) : Heap := (zs2 h l1 x t).push { cls := .type "tuple", data := .seq #[.ref h.objs.size, .ref (zs1 h l1).objs.size] }
noncomputable abbrev zs4 (h : Heap) (l1 : Addr) (x : Str) (t : Tok) : Heap := (zs3 h l1 x t).push { cls := .type "tuple", data := .seq #[.none, .none] }
noncomputable abbrev zs5 (h : Heap) (l1 : Addr) (x : Str) (t : Tok) : Heap := (zs4 h l1 x t).push { cls := .type "zip", data := .fields #[.none, .bool false, .bool false, .ref (zs2 h l1 x t).objs.size, .ref (zs3 h l1 x t).objs.size] }
set_option maxHeartbeats 4000000 in
theorem zip_new_ls (l1 : Addr) (xs : Array Value) (x : Str) (t : Tok) :
    Meets (Builtin.«zip.__new__» ⟨[.type "zip", .ref l1, .str x t], []⟩) (fun _ R s => s.heap.IsList l1 xs ∧ R (.ok (.ret (.ref (zs4 s.heap l1 x t).objs.size))) { s with heap := zs5 s.heap l1 x t }) :=
  .of_wp fun prog w A R s h => by
    obtain ⟨hp, g, d, tk, os⟩ := s; obtain ⟨hl1, h⟩ := h
    have hsub := sub_zip
    have hL1 : Heap.IsList (Shared.heap ⟨hp, g, d, tk, os⟩) l1 xs := hl1
    wp_walk using wpAny_pyIter_list hL1, wpAny_pyIter_strU
    exact ⟨_, rfl, h⟩
structure ZS (z TI TO i1 i2 l1 : Addr) (its : Array Value) (x : Str) (t : Tok) (f0 : Value) (i j : Nat) (h : Heap) : Prop where
  z : IsZip h z TI TO f0
  ti : IsPair h TI (.ref i1) (.ref i2)
  to : ∃ a b, IsPair h TO a b
  it : h.IsListIter i1 l1 i
  l : h.IsList l1 its
  s : h.IsStrIter i2 (strIterType x) x t j
theorem call_zip_ls {l1 : Addr} {its : Array Value} {x : Str} {t : Tok} {Q : Value → Shared → Prop} (hl : s.heap.IsList l1 its)
    (h : ∀ h', ZS (s.heap.objs.size + 4) (s.heap.objs.size + 2) (s.heap.objs.size + 3) s.heap.objs.size (s.heap.objs.size + 1) l1 its x t .none 0 0 h' → (∀ c o, s.heap.get? c = some o → h'.get? c = some o) → Q (.ref (s.heap.objs.size + 4)) { s with heap := h' }) :
    wpAny (model prog w) A (call (.type "zip") [.ref l1, .str x t]) Q E s := by
  refine callType_new F.called_zip (by decide) (F.typeCall_zip_2 _ _) (F.newCall_zip_2 _ _) (fun obj => F.args_object_init_3 obj _ _) F.entry_zip_new (zip_new_ls l1 its x t) ⟨hl, ?_⟩
  have z1 : (zs1 s.heap l1).objs.size = s.heap.objs.size + 1 := Heap.size_push ..
  have z2 : (zs2 s.heap l1 x t).objs.size = s.heap.objs.size + 2 := by rw [Heap.size_push, z1]
  have z3 : (zs3 s.heap l1 x t).objs.size = s.heap.objs.size + 3 := by rw [Heap.size_push, z2]
  have z4 : (zs4 s.heap l1 x t).objs.size = s.heap.objs.size + 4 := by rw [Heap.size_push, z3]
  have g5 : (zs5 s.heap l1 x t).get? (zs4 s.heap l1 x t).objs.size = some _ := Heap.get?_push_size _ rfl
  have g4 : (zs5 s.heap l1 x t).get? (zs3 s.heap l1 x t).objs.size = some _ := Heap.get?_push_of_some _ (Heap.get?_push_size _ rfl)
  have g3 : (zs5 s.heap l1 x t).get? (zs2 s.heap l1 x t).objs.size = some _ := Heap.get?_push_of_some _ (Heap.get?_push_of_some _ (Heap.get?_push_size _ rfl))
  have g2 : (zs5 s.heap l1 x t).get? (zs1 s.heap l1).objs.size = some _ := Heap.get?_push_of_some _ (Heap.get?_push_of_some _ (Heap.get?_push_of_some _ (Heap.get?_push_size _ rfl)))
  have g1 : (zs5 s.heap l1 x t).get? s.heap.objs.size = some _ := Heap.get?_push_of_some _ (Heap.get?_push_of_some _ (Heap.get?_push_of_some _ (Heap.get?_push_of_some _ (Heap.get?_push_size _ rfl))))
  have up : ∀ c o, s.heap.get? c = some o → (zs5 s.heap l1 x t).get? c = some o := fun c o e => Heap.get?_push_of_some _ (Heap.get?_push_of_some _ (Heap.get?_push_of_some _ (Heap.get?_push_of_some _ (Heap.get?_push_of_some _ e))))
  show _ ∧ _
  rw [z2, z3, z4] at g5
  rw [z1, z2] at g3
  rw [z3] at g4
  rw [z1] at g2
  rw [z4]
  exact ⟨⟨_, g5, rfl⟩, h _ ⟨g5, g3, ⟨_, _, g4⟩, ⟨_, g1, rfl, rfl⟩, hl.at fun o e => up _ o e, ⟨_, g2, rfl, rfl⟩⟩ up⟩
variable {z TI TO i1 i2 l1 : Addr} {its : Array Value} {x : Str} {t : Tok}
theorem ZS.frame {f0 : Value} {i j : Nat} {h h' : Heap} (Z : ZS z TI TO i1 i2 l1 its x t f0 i j h) (k : ∀ b ∈ [z, TI, TO, i1, i2, l1], ∀ o, h.get? b = some o → h'.get? b = some o) : ZS z TI TO i1 i2 l1 its x t f0 i j h' where
  z := k z (by simp) _ Z.z
  ti := k TI (by simp) _ Z.ti
  to := let ⟨a, b, e⟩ := Z.to; ⟨a, b, k TO (by simp) _ e⟩
  it := Z.it.at fun o e => k i1 (by simp) o e
  l := Z.l.at fun o e => k l1 (by simp) o e
  s := let ⟨o, ho, r⟩ := Z.s; ⟨o, k i2 (by simp) o ho, r⟩
structure ZApt (z TI TO i1 i2 l1 : Addr) : Prop where
  d : ZAp z TI TO i1 i2 [i1, l1] [i2]
  l1 : l1 ≠ i1
theorem zip_item (hh : A.handled = none) (D : ZApt z TI TO i1 i2 l1) {i : Nat} {Q : Option Value → Shared → Prop} (Z : ZS z TI TO i1 i2 l1 its x t .none i i s.heap) (h1 : i < its.size) (h2 : i < x.cps.size)
    (hQ : ∀ v c u h' tk, its[i]? = some v → x.cps[i]? = some c → ZS z TI TO i1 i2 l1 its x t (rawInt s.heap.objs.size) (i + 1) (i + 1) h' → IsPair h' s.heap.objs.size v (.str ⟨#[c]⟩ u) →
      (∀ c o, c ≠ z → c ≠ TO → c ≠ i1 → c ≠ i2 → s.heap.get? c = some o → h'.get? c = some o) → Q (some (.ref s.heap.objs.size)) { s with heap := h', toks := tk }) : wpAny (model prog w) A (pyNext (.ref z)) Q E s := by
  have hT : s.TypeIs (.ref z) "zip" := ⟨_, Z.z, rfl⟩
  obtain ⟨a, b, hTO⟩ := Z.to
  have D1 := Draws.list (prog := prog) (w := w) (A := A.in1) hh i1 l1 D.l1 its
  have D2 := draws_str (prog := prog) (w := w) (A := A.in1) hh i2 x t
  unfold pyNext
  refine wpAny_bind (wpAny_attempt (wpAny_callSpecial?_slot (name := Str.ofString "__next__") hT F.slot_zip_next (wpAny_call_entry F.slot_zip_next hT F.entry_zip_next ?_ (F.args_zip_next_1 _))))
  refine zip_step s.heap s.gens _ s.toks s.os D.d D1 D2 Z.z Z.ti hTO ⟨Z.it, Z.l⟩ Z.s h1 h2 fun v y h' tk hv hy a1 a2 a3 a4 a5 a6 a7 => wpAny_pure ?_
  obtain ⟨c, u, hc, rfl⟩ := hy
  exact hQ v c u h' tk hv hc ⟨a1, a7 _ _ D.d.TIz D.d.TITO D.d.TIi1 D.d.TIi2 Z.ti, ⟨_, _, a2⟩, a3.1, a3.2, a4⟩ a5 a7
theorem zip_end (hh : A.handled = none) (D : ZApt z TI TO i1 i2 l1) {i : Nat} {Q : Option Value → Shared → Prop} (Z : ZS z TI TO i1 i2 l1 its x t .none i i s.heap) (hend : i = its.size ∨ (i < its.size ∧ i = x.cps.size))
    (hQ : ∀ h' tk, (∀ c o, c ≠ z → c ≠ TO → c ≠ i1 → c ≠ i2 → s.heap.get? c = some o → h'.get? c = some o) → Q none { s with heap := h', toks := tk }) : wpAny (model prog w) A (pyNext (.ref z)) Q E s := by
  have hT : s.TypeIs (.ref z) "zip" := ⟨_, Z.z, rfl⟩
  obtain ⟨a, b, hTO⟩ := Z.to
  have D1 := Draws.list (prog := prog) (w := w) (A := A.in1) hh i1 l1 D.l1 its
  have D2 := draws_str (prog := prog) (w := w) (A := A.in1) hh i2 x t
  unfold pyNext
  refine wpAny_bind (wpAny_attempt (wpAny_callSpecial?_slot (name := Str.ofString "__next__") hT F.slot_zip_next (wpAny_call_entry F.slot_zip_next hT F.entry_zip_next ?_ (F.args_zip_next_1 _))))
  refine zip_stop s.heap s.gens _ s.toks s.os D.d D1 D2 Z.z Z.ti hTO ⟨Z.it, Z.l⟩ Z.s hend fun h' e tk hk he => ?_
  obtain ⟨o, ho, hc⟩ := he
  exact wpAny_bind (wpAny_isInstance (T := "StopIteration") (b := true) ⟨o, ho, hc⟩ isSubtype_stop (wpAny_pure (hQ _ _ hk)))
end
end Mine
namespace Mine
open PySem PySem.W PySem.W.X PyProof.Rows PySem.Calls
section
variable {W : Wd} {A : Around} {d : Nat} {target : Expr} {z TI TO i1 i2 l1 : Addr} {its : List Value} {xs : List V} {x : List Nat} {t : Tok}
noncomputable def zItems (xs : List V) (x : List Nat) : List V := (xs.zip x).map fun p => V.tup [p.1, .str [p.2]]
theorem zItems_len : (zItems xs x).length = min xs.length x.length := by unfold zItems; rw [List.length_map, List.length_zip]
theorem zItems_at {i : Nat} {y : V} {c : Nat} (h1 : xs[i]? = some y) (h2 : x[i]? = some c) : (zItems xs x)[i]? = some (.tup [y, .str [c]]) := by
  have e : (xs.zip x)[i]? = some (y, c) := List.getElem?_zip_eq_some.mpr ⟨h1, h2⟩
  unfold zItems
  rw [List.getElem?_map, e]; rfl
theorem fa5 {P : Addr → Prop} {a b c d e : Addr} (h1 : P a) (h2 : P b) (h3 : P c) (h4 : P d) (h5 : P e) : ∀ x ∈ [a, b, c, d, e], P x := fun x hx => by
  rcases List.mem_cons.mp hx with rfl | hx; · exact h1
  rcases List.mem_cons.mp hx with rfl | hx; · exact h2
  rcases List.mem_cons.mp hx with rfl | hx; · exact h3
  rcases List.mem_cons.mp hx with rfl | hx; · exact h4
  rw [List.mem_singleton.mp hx]; exact h5
theorem out6 {a b c d e f x : Addr} (h : x ∈ [a, b, c, d, e, f]) (q : x ∉ [a, b, c, d, e]) : x = f := by
  rcases List.mem_cons.mp h with rfl | h; · exact absurd List.mem_cons_self q
  rcases List.mem_cons.mp h with rfl | h; · exact absurd (List.mem_cons_of_mem _ List.mem_cons_self) q
  rcases List.mem_cons.mp h with rfl | h; · exact absurd (List.mem_cons_of_mem _ (List.mem_cons_of_mem _ List.mem_cons_self)) q
  rcases List.mem_cons.mp h with rfl | h; · exact absurd (List.mem_cons_of_mem _ (List.mem_cons_of_mem _ (List.mem_cons_of_mem _ List.mem_cons_self))) q
  rcases List.mem_cons.mp h with rfl | h; · exact absurd (List.mem_cons_of_mem _ (List.mem_cons_of_mem _ (List.mem_cons_of_mem _ (List.mem_cons_of_mem _ List.mem_cons_self)))) q
  exact List.mem_singleton.mp h
noncomputable abbrev zwr (z TI TO i1 i2 : Addr) : List Addr := [z, TI, TO, i1, i2]
theorem ZS.cls {f0 : Value} {i j : Nat} {h : Heap} {its : Array Value} {x : Str} (Z : ZS z TI TO i1 i2 l1 its x t f0 i j h) : ∀ b ∈ zwr z TI TO i1 i2, ∃ o, h.get? b = some o ∧ o.cls ≠ .none ∧ o.cls ≠ .type "code" := by
  obtain ⟨a, b, hTO⟩ := Z.to
  obtain ⟨o1, e1, c1, _⟩ := Z.it
  obtain ⟨o2, e2, c2, _⟩ := Z.s
  have hs : strIterType x ≠ "code" := by unfold strIterType; split <;> decide
  refine fa5 ⟨_, Z.z, by simp, by simp⟩ ⟨_, Z.ti, by simp, by simp⟩ ⟨_, hTO, by simp, by simp⟩ ⟨o1, e1, ?_, ?_⟩ ⟨o2, e2, ?_, ?_⟩
  · rw [c1]; simp
  · rw [c1]; simp
  · rw [c2]; simp
  · rw [c2]; simpa using hs
theorem zip_ready (hh : A.handled = none) (ht : IsTupE target) (D : ZApt z TI TO i1 i2 l1) {F : Frz} (hl : F l1 = some (listObj its 0) ∨ ∃ n, F l1 = some (listObj its n)) (rl : RelL W F its xs) :
    ∀ (k i : Nat) (F₁ : Frz) (h : Heap), min xs.length x.length = i + k → FLe F F₁ → FOk W F₁ h → ZS z TI TO i1 i2 l1 its.toArray ⟨x.toArray⟩ t .none i i h → Ready W A target (.ref z) ((zItems xs x).drop i) F₁ (atN h (zwr z TI TO i1 i2)) noG := by
  intro k i F₁ h hk hF hf hst
  have hl : ∃ n, F l1 = some (listObj its n) := hl.elim (fun h => ⟨0, h⟩) id
  obtain ⟨nl, hl⟩ := hl
  have h0 : ∀ b ∈ zwr z TI TO i1 i2, atN h (zwr z TI TO i1 i2) b ≠ none := fun b hb q => by
    obtain ⟨o, e, _⟩ := hst.cls b hb
    rw [atN_some.mpr ⟨hb, e⟩] at q; cases q
  have len : its.length = xs.length := rl.length
  have now : ∀ s F', IPre W F₁ (atN h (zwr z TI TO i1 i2)) noG s F' → ZS z TI TO i1 i2 l1 its.toArray ⟨x.toArray⟩ t .none i i s.heap := fun s F' p => hst.frame fun b hb o e => by
    by_cases q : b ∈ zwr z TI TO i1 i2
    · exact p.nis.is b o (atN_some.mpr ⟨q, e⟩)
    · have hb1 : b = l1 := out6 hb q
      subst hb1
      have e1 := hf.is _ _ (hF _ _ hl)
      rw [e] at e1
      exact Option.some.inj e1 ▸ p.fin.is _ _ (p.le _ _ (hF _ _ hl))
  have keep : ∀ {s : Shared} {h' : Heap}, (∀ c o, c ≠ z → c ≠ TO → c ≠ i1 → c ≠ i2 → s.heap.get? c = some o → h'.get? c = some o) → ∀ b o, b ∉ zwr z TI TO i1 i2 → s.heap.get? b = some o → h'.get? b = some o := fun hk b o hb e => hk b o (fun q => hb (by simp [q])) (fun q => hb (by simp [q])) (fun q => hb (by simp [q])) (fun q => hb (by simp [q])) e
  induction k generalizing i F₁ h with
  | zero =>
    rw [List.drop_of_length_le (by rw [zItems_len]; lia)]
    intro s F' p
    have hst' := now s F' p
    refine zip_end hh D hst' ?_ fun h' tk hkp => ⟨rfl, F', turn_step p (fun b hb => hst'.cls b hb) h0 (keep hkp), fun a q => absurd rfl q, ⟨fun a o e => (nomatch e), fun _ _ => rfl⟩, fun a q => absurd rfl q, fun a q => absurd rfl q, fun a o e => (nomatch e)⟩
    show i = its.toArray.size ∨ (i < its.toArray.size ∧ i = (x.toArray).size)
    rw [List.size_toArray, List.size_toArray, len]
    lia
  | succ k ih =>
    have hi1 : i < xs.length := by lia
    have hi2 : i < x.length := by lia
    have hy : xs[i]? = some xs[i] := List.getElem?_eq_getElem hi1
    have hc : x[i]? = some x[i] := List.getElem?_eq_getElem hi2
    have hz := zItems_at hy hc
    have hzl : i < (zItems xs x).length := by rw [zItems_len]; lia
    rw [List.drop_eq_getElem_cons hzl, show (zItems xs x)[i] = V.tup [xs[i], .str [x[i]]] from Option.some.inj ((List.getElem?_eq_getElem hzl).symm.trans hz)]
    intro s F' p
    have hst' := now s F' p
    refine zip_item hh D hst' (show i < its.toArray.size by rw [List.size_toArray, len]; exact hi1) (show i < x.toArray.size by rw [List.size_toArray]; exact hi2) fun v c u h' tk hv hcc hst₁ hT hkp => ⟨_, rfl, ?_⟩
    have hv : its[i]? = some v := by simpa using hv
    have hcc : x[i]? = some c := by simpa using hcc
    obtain rfl : x[i] = c := Option.some.inj (hc.symm.trans hcc)
    have rv : Rel W F v xs[i] := rl.getV hv hy
    obtain ⟨es, kk, pp, rfl⟩ := ht
    have fresh : ∀ {b o}, s.heap.get? b = some o → s.heap.objs.size ≠ b := fun e => Nat.ne_of_gt (Heap.lt_size e)
    refine wpAny_letOwnedTupleGo_zip (s := { s with heap := h', toks := tk }) hst₁.z fun h2 hz2 hs2 => ?_
    have hs2 : Heap.SameBut z h' h2 := hs2
    have Tz : s.heap.objs.size ≠ z := fresh hst'.z
    have hst₂ : ZS z TI TO i1 i2 l1 its.toArray ⟨x.toArray⟩ t .none (i + 1) (i + 1) h2 := by
      obtain ⟨a, b, hTO⟩ := hst₁.to
      exact ⟨hz2, hs2.extBut _ _ D.d.TIz hst₁.ti, ⟨a, b, hs2.extBut _ _ D.d.TOz hTO⟩, hst₁.it.extBut hs2.extBut D.d.i1z, hst₁.l.extBut hs2.extBut (fun q => D.d.z1 (by simp [← q])), hst₁.s.extBut hs2.extBut D.d.i2z⟩
    have hT2 : h2.get? s.heap.objs.size = some (tupObj [v, .str ⟨#[x[i]]⟩ u] 0) := hs2.extBut _ _ Tz hT
    have kp2 : ∀ b o, b ∉ zwr z TI TO i1 i2 → s.heap.get? b = some o → h2.get? b = some o := fun b o hb e => hs2.extBut _ _ (fun q => hb (by simp [q])) (keep hkp b o hb e)
    have st := turn_step (tk := tk) p (fun b hb => hst'.cls b hb) h0 kp2
    have hFT : F' s.heap.objs.size = none := none_of_not fun ob q => Nat.lt_irrefl _ (Heap.lt_size (p.fin.is _ _ q))
    have st2 := st.know (o := tupObj [v, .str ⟨#[x[i]]⟩ u] 0) hT2 (get_size_none _) hFT fun q => Nat.lt_irrefl _ (p.ok.tabLt q)
    have le : FLe F F' := fun _ _ e => p.le _ _ (hF _ _ e)
    have le2 : FLe F (F'.put s.heap.objs.size (tupObj [v, .str ⟨#[x[i]]⟩ u] 0)) := fun _ _ e => Frz.put_le hFT _ _ (le _ _ e)
    refine ⟨F'.put s.heap.objs.size (tupObj [v, .str ⟨#[x[i]]⟩ u] 0), atN h2 (zwr z TI TO i1 i2), noG, ⟨st2, fun a q => .inl (h0 a (atN_ne q)), ⟨fun a o e => (atN_some.mp e).2, fun a ha => ?_⟩, fun a q => ?_, fun a q => absurd rfl q, fun a o e => (nomatch e)⟩, .rel (.tup (Frz.put_self ..) (.cons (rv.mono le2) (.cons (.str [x[i]] u) .nil))), ?_⟩
    · by_cases hb : a ∈ zwr z TI TO i1 i2
      · obtain ⟨o, e, c, _⟩ := hst'.cls a hb
        exact absurd ha (no_tab_cls p.ok.ti e c)
      · exact atN_none hb
    · have hb := atN_ne q
      obtain ⟨o, e, _⟩ := hst'.cls a hb
      unfold Frz.put
      rw [if_neg (fresh e).symm]
      exact p.ndis a (h0 a hb)
    · have h1 : ∀ b ∈ zwr z TI TO i1 i2, atN h2 (zwr z TI TO i1 i2) b ≠ none := fun b hb q => by
        obtain ⟨o, e, _⟩ := hst₂.cls b hb
        rw [atN_some.mpr ⟨hb, e⟩] at q; cases q
      exact ih (i + 1) _ h2 (by lia) le2 st2.fin hst₂ h1 (fun s₃ F₃ p₃ => hst₂.frame fun b hb o e => by
        by_cases q : b ∈ zwr z TI TO i1 i2
        · exact p₃.nis.is b o (atN_some.mpr ⟨q, e⟩)
        · have hb1 : b = l1 := out6 hb q
          subst hb1
          have e1 := st2.fin.is _ _ (le2 _ _ hl)
          have e : h2.get? b = some o := e
          rw [show h2.get? b = _ from e1] at e
          exact Option.some.inj e ▸ p₃.fin.is _ _ (p₃.le _ _ (le2 _ _ hl)))
end
theorem zip_ok (W : Wd) (d : Nat) : ZipOk W d := by
  intro A target s F va vb xs x K Q R of ht ra rb hk ks
  obtain ⟨l1, its, n, rfl, e, rl⟩ := ra
  obtain ⟨t, rfl⟩ := rb
  have hlh := of.fin.is _ _ e
  have hlt := Heap.lt_size hlh
  have len : its.length = xs.length := rl.length
  refine call_zip_ls (isList_of hlh) fun h' Z kp => ?_
  have D : ZApt (s.heap.objs.size + 4) (s.heap.objs.size + 2) (s.heap.objs.size + 3) s.heap.objs.size (s.heap.objs.size + 1) l1 := by
    have lt : ∀ {a b : Nat}, a < b → (show Addr from a) ≠ b := fun h => Nat.ne_of_lt h
    have gt : ∀ {a b : Nat}, b < a → (show Addr from a) ≠ b := fun h => Nat.ne_of_gt h
    have nm : ∀ {a b c : Addr}, a ≠ b → a ≠ c → a ∉ [b, c] := fun h1 h2 h => (List.mem_cons.mp h).elim h1 fun h => h2 (List.mem_singleton.mp h)
    have nm1 : ∀ {a b : Addr}, a ≠ b → a ∉ [b] := fun h1 h => h1 (List.mem_singleton.mp h)
    exact ⟨⟨lt (by lia), lt (by lia), lt (by lia), lt (by lia), lt (by lia), gt (by lia), gt (by lia), gt (by lia), gt (by lia), lt (by lia), nm (gt (by lia)) (gt (Nat.lt_of_lt_of_le hlt (Nat.le_add_right _ _))), nm (gt (by lia)) (gt (Nat.lt_of_lt_of_le hlt (Nat.le_add_right _ _))), nm (gt (by lia)) (gt (Nat.lt_of_lt_of_le hlt (Nat.le_add_right _ _))), nm1 (gt (by lia)), nm1 (gt (by lia)), nm1 (lt (by lia))⟩, lt hlt⟩
  have st : Step W noX s F { s with heap := h' } F := Step.kept of.ok of.fin h' s.toks kp
  have ge : ∀ b ∈ zwr (s.heap.objs.size + 4) (s.heap.objs.size + 2) (s.heap.objs.size + 3) s.heap.objs.size (s.heap.objs.size + 1), s.heap.objs.size ≤ b := fa5 (Nat.le_add_right ..) (Nat.le_add_right ..) (Nat.le_add_right ..) (Nat.le_refl _) (Nat.le_add_right ..)
  have sz : ∀ b ∈ zwr (s.heap.objs.size + 4) (s.heap.objs.size + 2) (s.heap.objs.size + 3) s.heap.objs.size (s.heap.objs.size + 1), s.heap.get? b = none := fun b hb => none_of_not' fun o q => Nat.not_lt.mpr (ge b hb) (Heap.lt_size q)
  refine wpAny_pyIter_zip Z.z (ks _ _ F (atN h' (zwr (s.heap.objs.size + 4) (s.heap.objs.size + 2) (s.heap.objs.size + 3) s.heap.objs.size (s.heap.objs.size + 1))) noG (zItems xs x) ⟨st, ⟨fun a o e => (atN_some.mp e).2, fun a ha => atN_none fun hb => ?_⟩, fun i g e => (nomatch e), fun a q => sz a (atN_ne q), fun a q => none_of_not fun o e => ?_, fun i q => absurd rfl q, ?_, fun s' Q h1 h2 h3 => ?_⟩ hk)
  · exact Nat.not_lt.mpr (ge a hb) (of.ok.tabLt ha)
  · have h1 := sz a (atN_ne q)
    rw [of.fin.is _ _ e] at h1; cases h1
  · exact zip_ready R.handled ht D (.inr ⟨n, e⟩) rl (min xs.length x.length) 0 F h' (Nat.zero_add _).symm (fun _ _ e => e) st.fin Z
  · exact wpAny_pyIter_zip (h1.is _ _ (atN_some.mpr ⟨by simp, Z.z⟩)) h3
end Mine
namespace Mine
open PySem PySem.W PySem.W.X PyProof.Rows PySem.Calls
structure LS (W : Wd) (s₀ : Shared) (F₀ : Frz) (S : Addr) (s : Shared) (F N : Frz) (g : GMap) : Prop where
  st : Step W noX s₀ F₀ s F
  nis : FOk W N s.heap
  gis : GHave g s.gens
  nnew : ∀ a, N a ≠ none → s₀.heap.get? a = none
  ndis : ∀ a, N a ≠ none → F a = none
  gnew : ∀ i, g i ≠ none → s₀.gens[i]? = none
  fb : FLe W.base F
  sN : N S = none
  sF : F S = none
  s0 : s₀.heap.get? S = none
section
variable {W : Wd} {s₀ s s₂ : Shared} {F₀ F F₂ N N₂ : Frz} {g g₂ : GMap} {S : Addr}
theorem LS.pre (L : LS W s₀ F₀ S s F N g) : IPre W F N g s F := ⟨L.st.ok, L.st.fin, fun _ _ e => e, L.fb, L.nis, L.gis, L.ndis⟩
theorem LS.upd (L : LS W s₀ F₀ S s F N g) {acc : List Value} {c : Nat} (e : s.heap.get? S = some (listObj acc c)) {h' : Heap} {tk : Nat} (hk : ∀ b o, b ≠ S → s.heap.get? b = some o → h'.get? b = some o) : LS W s₀ F₀ S { s with heap := h', toks := tk } F N g :=
  have ne : ∀ {X : Frz} {a : Addr} {o : Obj}, X S = none → X a = some o → a ≠ S := fun h q z => by rw [z, h] at q; cases q
  have bS : W.base S = none := none_of_not fun o q => by have := L.fb _ _ q; rw [L.sF] at this; cases this
  { st := { ok := ⟨⟨fun a o q => hk a o (ne bS q) (L.st.ok.base.is _ _ q), L.st.ok.base.tab⟩, W.tiKeep _ _ L.st.ok.ti fun a o q hc _ => hk a o (fun z => by
              subst z; rw [e] at q; cases q
              rcases hc with hc | hc
              · cases hc
              · exact absurd hc (by simp [listObj])) q⟩
            fin := ⟨fun a o q => hk a o (ne L.sF q) (L.st.fin.is _ _ q), L.st.fin.tab⟩
            le := L.st.le
            new := L.st.new
            keep := fun a o h1 h2 q => hk a o (fun z => by rw [z, L.s0] at q; cases q) (L.st.keep a o h1 h2 q)
            os := L.st.os
            gens := L.st.gens
            bare := L.st.bare }
    nis := ⟨fun a o q => hk a o (ne L.sN q) (L.nis.is _ _ q), L.nis.tab⟩
    gis := L.gis
    nnew := L.nnew
    ndis := L.ndis
    gnew := L.gnew
    fb := L.fb
    sN := L.sN
    sF := L.sF
    s0 := L.s0 }
theorem LS.turn (L : LS W s₀ F₀ S s F N g) {acc : List Value} {c : Nat} (e : s.heap.get? S = some (listObj acc c)) (i : IStep W N g s F s₂ F₂ N₂ g₂) : LS W s₀ F₀ S s₂ F₂ N₂ g₂ ∧ s₂.heap.get? S = some (listObj acc c) := by
  have hX : ¬ (ofN N g).ad S := fun q => q L.sN
  refine ⟨⟨((L.st.weak (X := ofN N g)).trans i.step).sub (fun a q => .inr (L.nnew a q)) fun j q => .inr (L.gnew j q), i.nis, i.gis, fun a q => (i.nsub a q).elim (L.nnew a) fun z => L.st.live (fun q => q) z, i.ndis, fun j q => (i.gsub j q).elim (L.gnew j) fun z => ?_, fun _ _ q => i.step.le _ _ (L.fb _ _ q), none_of_not fun o q => ?_, i.step.stays_out hX e L.sF, L.s0⟩, i.step.keep S _ (list_no_tab L.st.ok.ti e) hX e⟩
  · exact none_of_not' fun x q => by have := L.st.gens j x (fun q => q) q; rw [z] at this; cases this
  · rcases i.nsub S (by rw [q]; simp) with z | z
    · exact z L.sN
    · rw [e] at z; cases z
theorem list_loop {A : Around} {nm : Str} {ps : Pos} {I : Addr} {res : Value} {R : Result → Shared → Prop} : ∀ (items : List V) (s : Shared) (F N : Frz) (g : GMap) (acc : List Value) (done : List V) (c : Nat), Ready W A.in1 (.Name nm ps) (.ref I) items F N g → LS W s₀ F₀ S s F N g → s.heap.get? S = some (listObj acc c) → RelL W F acc done → done.length + items.length ≤ 10000000 →
    (∀ s' F' acc' c' N' g', LS W s₀ F₀ S s' F' N' g' → s'.heap.get? S = some (listObj acc' c') → RelL W F' acc' (done ++ items) → R (.ok (.ret res)) s') →
    codeAny (model W.prog W.w) A (.builtin "list.extend.loop" ⟨[.ref S, .ref I, res], []⟩) R s
  | [], s, F, N, g, acc, done, c, h, L, e, r, hl, hR => by
    refine codeAny_builtin PySem.F.entry_extend_loop ?_
    rw [Around.under_plainId PySem.F.plain_extend_loop _]
    show wpAny _ A.in1 (pyNext (.ref I) >>= _) _ _ s
    refine wpAny_bind (wpAny_mono (h s F L.pre) (fun o s₁ hq => ?_) fun _ _ q => q.elim)
    obtain ⟨rfl, F₁, i⟩ := hq
    obtain ⟨L₁, e₁⟩ := L.turn e i
    exact wpAny_pure (hR _ _ _ _ _ _ L₁ e₁ (by rw [List.append_nil]; exact r.mono i.step.le))
  | x :: xs, s, F, N, g, acc, done, c, h, L, e, r, hl, hR => by
    refine codeAny_builtin PySem.F.entry_extend_loop ?_
    rw [Around.under_plainId PySem.F.plain_extend_loop _]
    show wpAny _ A.in1 (pyNext (.ref I) >>= _) _ _ s
    refine wpAny_bind (wpAny_mono (h s F L.pre) (fun o s₁ hq => ?_) fun _ _ q => q.elim)
    obtain ⟨v, rfl, hgo⟩ := hq
    show wpAny _ A.in1 (letOwnedTupleGo (.Name nm ps) (.ref I) v >>= fun _ => updateSeq S (·.push v) >>= _) _ _ _
    refine wpAny_bind (wpAny_mono hgo (fun _ s₂ hq => ?_) fun _ _ q => q.elim)
    obtain ⟨F₂, N₂, g₂, i, it, h₂⟩ := hq
    obtain ⟨L₂, e₂⟩ := L.turn e i
    have rv : Rel W F₂ v x := by
      cases it with
      | rel h => exact h
      | own q _ _ => obtain ⟨_, _, _, q⟩ := q; cases q
    have ln := r.length
    rw [List.length_cons] at hl
    obtain ⟨c', e₃⟩ := upd_list (·.push v) (acc ++ [v]) (by rw [List.push_toArray]) e₂
    have sz : acc.toArray.size = acc.length := List.size_toArray
    have hz : acc.toArray.size ≤ sizeLine := by rw [sz, sizeLine_eq]; lia
    have hz' : (acc.toArray.push v).size ≤ sizeLine + 1 := by rw [Array.size_push]; exact Nat.succ_le_succ hz
    exact wpAny_bind (wpAny_updateSeq e₂ rfl (wpAny_pure ⟨plainId_quiet PySem.F.plain_extend_loop _, list_loop xs _ F₂ N₂ g₂ (acc ++ [v]) (done ++ [x]) c' h₂ (L₂.upd e₂ (tk := s₂.toks) fun b o hb q => (Heap.get?_update_other _ _ (Ne.symm hb)).trans q) e₃ ((r.mono i.step.le).snoc rv) (by rw [List.length_append, List.length_singleton]; lia) fun s' F' acc' c' N' g' L' e' r' => hR s' F' acc' c' N' g' L' e' (by rw [List.append_assoc] at r'; exact r')⟩) hz hz')
end
end Mine
namespace Mine
open PySem PySem.W PySem.W.X PyProof.Rows PySem.Calls
section
variable {W : Wd} {s₀ s : Shared} {F₀ F N : Frz} {g : GMap}
theorem list_init {A : Around} {nm : Str} {ps : Pos} {I : Addr} {S : Addr} {items : List V} {R : Result → Shared → Prop} (src : Src W A.in1 (.Name nm ps) s₀ F₀ (.ref I) items s F N g) (L : LS W s₀ F₀ S s F N g) (hI : N I ≠ none) (hT : ∀ h : Heap, (∀ a o, N a = some o → h.get? a = some o) → ∃ o, h.get? I = some o ∧ o.cls = .type "generator") (hl : items.length ≤ 10000000)
    (e : s.heap.get? S = some (listObj [] 0)) (hR : ∀ s' F' acc' c' N' g', LS W s₀ F₀ S s' F' N' g' → s'.heap.get? S = some (listObj acc' c') → RelL W F' acc' items → R (.ok (.ret .none)) s') :
    wpAny (model W.prog W.w) A.in1 (Builtin.«list.__init__» ⟨[.ref S, .ref I], []⟩)
      (fun fin s' => match fin with | .done f => R (.ok f) s' | .again c' => c'.quiet = true ∧ codeAny (model W.prog W.w) A c' R s') (fun e s' => R (.error e) s') s := by
  have hSI : S ≠ I := fun q => hI (q ▸ L.sN)
  have ty : ∀ {t : Shared} {F' N' : Frz} {g' : GMap}, LS W s₀ F₀ S t F' N g' → t.TypeIs (.ref I) "generator" := fun L => hT _ L.nis.is
  show wpAny _ A.in1 (do let old ← Builtin.List.listItems (.ref S); Builtin.List.listUpdate (.ref S) (fun _ => #[]); letGo old.toList.reverse; Builtin.List.listExtendWith (.ref S) (.ref I) .none) _ _ s
  refine wpAny_bind ?_
  unfold Builtin.List.listItems
  refine wpAny_bind (wpAny_seqItems e rfl (wpAny_pure ?_))
  show wpAny _ A.in1 (updateSeq S (fun _ => #[]) >>= fun _ => letGo (#[] : Array Value).toList.reverse >>= fun _ => Builtin.List.listExtendWith (.ref S) (.ref I) .none) _ _ s
  refine wpAny_bind (wpAny_updateSeq e rfl ?_ (by rw [sizeLine_eq]; exact Nat.zero_le _) (by rw [sizeLine_eq]; exact Nat.zero_le _))
  obtain ⟨c1, e1⟩ := upd_list (fun _ => #[]) [] rfl e
  have L1 := L.upd e (tk := s.toks) (h' := s.heap.update S (Obj.mapSeq fun _ => #[])) fun b o hb q => (Heap.get?_update_other _ _ (Ne.symm hb)).trans q
  refine wpAny_bind (wpAny_letGo ?_)
  unfold Builtin.List.listExtendWith
  refine wpAny_bind (wpAny_typeOf (ty (N' := N) L1) ?_)
  have h1 : Builtin.List.listSameRef (.ref S) (.ref I) = false := by simp [Builtin.List.listSameRef, hSI]
  have h2 : (Value.type "generator" == Value.type "list") = false := by decide
  have h3 : (Value.type "generator" == Value.type "tuple") = false := by decide
  simp only [h1, h2, h3, Bool.or_false, Bool.false_eq_true, if_false]
  refine wpAny_bind (wpAny_mono (src.self _ (fun it s' => it = .ref I ∧ s' = { s with heap := s.heap.update S (Obj.mapSeq fun _ => #[]) }) L1.nis L1.st.fin ⟨rfl, rfl⟩) (fun it s' q => ?_) fun _ _ q => q.elim)
  obtain ⟨rfl, rfl⟩ := q
  refine wpAny_bind (wpAny_holding ?_)
  unfold Builtin.List.listLengthHint
  refine wpAny_bind (wpAny_specialOf (ty (N' := N) L1) PySem.F.gen_no_len ?_)
  show wpAny _ A.in1 (specialOf (Value.ref I) (Str.ofString "__length_hint__") >>= _) _ _ _
  refine wpAny_bind (wpAny_specialOf (ty (N' := N) L1) PySem.F.gen_no_hint (wpAny_pure ?_))
  show wpAny _ A.in1 (rule "list.extend.makes-room" >>= fun _ => Builtin.List.listTouch (.ref S) >>= fun _ => again (.builtin "list.extend.loop" ⟨[.ref S, .ref I, .none], []⟩)) _ _ _
  refine wpAny_bind (wpAny_rule (wpAny_bind ?_))
  show wpAny _ A.in1 (updateSeq S (·.push .none) >>= fun _ => updateSeq S (·.pop)) _ _ _
  have z0 : (0 : Nat) ≤ sizeLine := Nat.zero_le _
  refine wpAny_bind (wpAny_updateSeq e1 rfl ?_ z0 (Nat.succ_le_succ z0))
  obtain ⟨c2, e2⟩ := upd_list (·.push Value.none) [Value.none] rfl e1
  have L2 := L1.upd e1 (tk := s.toks) (h' := (s.heap.update S (Obj.mapSeq fun _ => #[])).update S (Obj.mapSeq (·.push Value.none))) fun b o hb q => (Heap.get?_update_other _ _ (Ne.symm hb)).trans q
  refine wpAny_updateSeq e2 rfl ?_ (by rw [sizeLine_eq]; exact (show 1 ≤ 16777216 by decide)) (Nat.zero_le _)
  obtain ⟨c3, e3⟩ := upd_list (·.pop) [] rfl e2
  have L3 := L2.upd e2 (tk := s.toks) (h' := ((s.heap.update S (Obj.mapSeq fun _ => #[])).update S (Obj.mapSeq (·.push Value.none))).update S (Obj.mapSeq (·.pop))) fun b o hb q => (Heap.get?_update_other _ _ (Ne.symm hb)).trans q
  exact wpAny_pure ⟨plainId_quiet PySem.F.plain_extend_loop _, list_loop items _ F N g [] [] c3 src.ready L3 e3 .nil (by rw [List.length_nil]; omega) hR⟩
theorem call_list_src {A : Around} {nm : Str} {ps : Pos} {I : Addr} {items : List V} {K : List V → Prop} {Q : Value → Shared → Prop} (src : Src W A.in1.in1 (.Name nm ps) s₀ F₀ (.ref I) items s F N g) (fb : FLe W.base F) (hI : N I ≠ none) (hT : ∀ h : Heap, (∀ a o, N a = some o → h.get? a = some o) → ∃ o, h.get? I = some o ∧ o.cls = .type "generator") (hl : items.length ≤ 10000000)
    (hk : K items) (k : Kn W noX s₀ F₀ (fun v => ∃ xs, v = .list xs ∧ K xs) Q) : wpAny (model W.prog W.w) A (call (.type "list") [.ref I]) Q noE s := by
  refine callType_codes (Q₁ := fun obj s₁ => obj = .ref s.heap.objs.size ∧ s₁ = { s with heap := s.heap.push { cls := .type "list", data := .seq #[] } }) PySem.F.called_list (PySem.F.typeCall_list_1 _) PySem.F.entry_list_init (code_list_new _ ⟨rfl, rfl⟩) fun obj s₁ h₁ => ?_
  obtain ⟨rfl, rfl⟩ := h₁
  have hS : (s.heap.push (listObj [] 0)).get? s.heap.objs.size = some (listObj [] 0) := Heap.get?_push_size _ rfl
  have out : ∀ {X : Frz}, (∀ a o, X a = some o → s.heap.get? a = some o) → X s.heap.objs.size = none := fun h => none_of_not fun o q => Nat.lt_irrefl _ (Heap.lt_size (h _ _ q))
  have L : LS W s₀ F₀ s.heap.objs.size { s with heap := s.heap.push (listObj [] 0) } F N g :=
    { st := src.step.trans (Step.alloc src.step.ok src.step.fin _)
      nis := src.nis.push _
      gis := src.gis
      nnew := src.nnew
      ndis := src.ndis
      gnew := src.gnew
      fb := fb
      sN := out src.nis.is
      sF := out src.step.fin.is
      s0 := src.step.live (fun q => q) (get_size_none _) }
  have src' : Src W A.in1.in1 (.Name nm ps) s₀ F₀ (.ref I) items { s with heap := s.heap.push (listObj [] 0) } F N g := ⟨L.st, L.nis, L.gis, L.nnew, L.ndis, L.gnew, src.ready, src.self⟩
  refine ⟨⟨_, hS, rfl⟩, PySem.F.args_list_init_2 _ _, list_init src' L hI hT hl hS fun s' F' acc' c' N' g' L' e' r' => ?_⟩
  have st := L'.st.know e' L'.s0 L'.sF (list_no_tab L'.st.ok.ti e')
  exact ⟨rfl, k _ _ _ _ st (.list (Frz.put_self ..) (r'.mono (Frz.put_le L'.sF))) ⟨_, rfl, hk⟩⟩
end
end Mine
namespace Mine
open PySem
noncomputable def onF {γ : Type} (s : Stmt) (o : γ) (f : Str → Arguments → List Stmt → Scope → Pos → γ) : γ := match s with
  | .FunctionDef n a b _ _ _ sc _ _ p => f n a b sc p
  | _ => o
noncomputable def fnOf (p : Program) (nm : Str) : Option (Arguments × List Stmt × Scope) := p.main.body.findSome? fun s => onF s none fun n a b sc _ => if n = nm then some (a, b, sc) else none
noncomputable def fns2 : List (Str × Nat) := [(Str.ofString "_ellipsis_match", 0), (Str.ofString "_div2n1n", 1), (Str.ofString "_div3n2n", 2), (Str.ofString "_int2digits", 3), (Str.ofString "_digits2int", 4), (Str.ofString "_divmod_pos", 5), (Str.ofString "int_divmod", 6), (Str.ofString "_strip_quoted_realnames", 7), (Str.ofString "_check_parenthesis", 8), (Str.ofString "_law_kinds", 9), (Str.ofString "_law_drawn", 10), (Str.ofString "_law_units", 11), (Str.ofString "_law_put", 12), (Str.ofString "_law_stages", 13), (Str.ofString "_law_read", 14), (Str.ofString "_law_text", 15), (Str.ofString "_law_once", 16), (Str.ofString "_law_whole", 17)]
noncomputable def cfg2 : Cfg := { fns := fns2, gens := [("_iter_escaped_chars", 0)], consts := [("ELLIPSIS_MARKER",0),("_DIV_LIMIT",1)], dicts := [("EXACT_TOKEN_TYPES",0)], own := ["cells","ws","result","q_digits","kinds","steps"], frz := [(25, [2]), (93, [5]), (137, [3]), (212, [2]), (217, [1]), (247, [8])], zips := true, lgen := true }
noncomputable def pr2 : Program := Challenge.pw_uc0042_01
noncomputable def fget (nm : Str) : Arguments × List Stmt × Scope := match fnOf pr2 nm with
  | some f => f
  | none => (⟨[], [], none, [], [], none, []⟩, [], { kind := .function, names := [], isGenerator := false, isCoroutine := false })
noncomputable def fpar (nm : Str) : Arguments := (fget nm).1
noncomputable def fb (nm : Str) : List Stmt := (fget nm).2.1
noncomputable def fsc (nm : Str) : Scope := (fget nm).2.2
noncomputable def fT (nm : Str) : Tab := tabOf (fsc nm).names
noncomputable def fm (nm : Str) : Nat := (tabOf (fsc nm).names).vars.length
section
variable {W : Wd} {C : Cx} {d : Nat} (cf : CfgOk cfg2 W C d)
noncomputable def trF (nm : Str) : Rs (OkSs W C d (fT nm) (fm nm) (fb nm)) := body cf (fT nm) (fm nm) 60 (fb nm)
end
noncomputable def b_ellipsis_match : List SD := [
  sIf (xIn cNin (xGlob 0) (xVar 0)) [sRet (xBin cEq (xVar 0) (xVar 1))] [],
  sAssign 2 (rOwn (fSplit (xVar 0) (xGlob 0))),
  sAssert (xBin cGe (xBi biLen [(xVar 2)]) (xInt 2)),
  sAssignD [3, 4] [(rVal (xInt 0)), (rVal (xBi biLen [(xVar 1)]))],
  sAssign 5 (rVal (xItem (xVar 2) (xInt 0))),
  sIf (xVar 5) [sIf (xMeth mStartswith (xVar 1) [(xVar 5)]) [sAssign 3 (rVal (xBi biLen [(xVar 5)])), sDel 2 (xInt 0)] [sRet (xBool false)]] [],
  sAssign 5 (rVal (xItem (xVar 2) (xNeg (xInt 1)))),
  sIf (xVar 5) [sIf (xMeth mEndswith (xVar 1) [(xVar 5)]) [sAug 4 bSub (xBi biLen [(xVar 5)]), sDel 2 (xNeg (xInt 1))] [sRet (xBool false)]] [],
  sIf (xBin cGt (xVar 3) (xVar 4)) [sRet (xBool false)] [],
  sFrz [2] (sFor (.one 5) (iVal (xVar 2)) [sAssign 3 (rVal (xMeth mFind (xVar 1) [(xVar 5), (xVar 3), (xVar 4)])), sIf (xBin cLt (xVar 3) (xInt 0)) [sRet (xBool false)] [], sAug 3 gAdd (xBi biLen [(xVar 5)])]),
  sRet (xBool true)]
noncomputable def b_div2n1n : List SD := [
  sIf (xBin cLe (xBin bSub (xMeth mBitlen (xVar 0) []) (xVar 2)) (xGlob 1)) [sRet (xBi biDivmod [(xVar 0), (xVar 1)])] [],
  sAssign 3 (rVal (xBin bAnd (xVar 2) (xInt 1))),
  sIf (xVar 3) [sAug 0 bShl (xInt 1), sAug 1 bShl (xInt 1), sAug 2 gAdd (xInt 1)] [],
  sAssign 4 (rVal (xBin bShr (xVar 2) (xInt 1))),
  sAssign 5 (rVal (xBin bSub (xBin bShl (xInt 1) (xVar 4)) (xInt 1))),
  sAssignD [6, 7] [(rVal (xBin bShr (xVar 1) (xVar 4))), (rVal (xBin bAnd (xVar 1) (xVar 5)))],
  sAssignT [8, 9] (xCall 2 [(xBin bShr (xVar 0) (xVar 2)), (xBin bAnd (xBin bShr (xVar 0) (xVar 4)) (xVar 5)), (xVar 1), (xVar 6), (xVar 7), (xVar 4)]),
  sAssignT [10, 9] (xCall 2 [(xVar 9), (xBin bAnd (xVar 0) (xVar 5)), (xVar 1), (xVar 6), (xVar 7), (xVar 4)]),
  sIf (xVar 3) [sAug 9 bShr (xInt 1)] [],
  sRet (xTup [(xBin bOr (xBin bShl (xVar 8) (xVar 4)) (xVar 10)), (xVar 9)])]
noncomputable def b_div3n2n : List SD := [
  sIf (xBin cEq (xBin bShr (xVar 0) (xVar 5)) (xVar 3)) [sAssignD [6, 7] [(rVal (xBin bSub (xBin bShl (xInt 1) (xVar 5)) (xInt 1))), (rVal (xBin bAdd (xBin bSub (xVar 0) (xBin bShl (xVar 3) (xVar 5))) (xVar 3)))]] [sAssignT [6, 7] (xCall 1 [(xVar 0), (xVar 3), (xVar 5)])],
  sAssign 7 (rVal (xBin bSub (xBin bOr (xBin bShl (xVar 7) (xVar 5)) (xVar 1)) (xBin bMul (xVar 6) (xVar 4)))),
  sWhl (xBin cLt (xVar 7) (xInt 0)) [sAug 6 bSub (xInt 1), sAug 7 gAdd (xVar 2)],
  sRet (xTup [(xVar 6), (xVar 7)])]
noncomputable def b_divmod_pos : List SD := [
  sAssign 2 (rVal (xMeth mBitlen (xVar 1) [])),
  sAssign 3 (rVal (xCall 3 [(xVar 0), (xVar 2)])),
  sAssign 4 (rVal (xInt 0)),
  sAssign 5 (rOwn (fList [])),
  sFor (.one 6) (iRev (xVar 3)) [sAssignT [7, 4] (xCall 1 [(xBin bAdd (xBin bShl (xVar 4) (xVar 2)) (xVar 6)), (xVar 1), (xVar 2)]), sAppend 5 (xVar 7)],
  sReverse 5,
  sFrz [5] (sAssign 8 (rVal (xCall 4 [(xVar 5), (xVar 2)]))),
  sRet (xTup [(xVar 8), (xVar 4)])]
noncomputable def b_int_divmod : List SD := [
  sIf (xBin cEq (xVar 1) (xInt 0)) [sDead] [sIf (xBin cLt (xVar 1) (xInt 0)) [sAssignT [2, 3] (xCall 6 [(xNeg (xVar 0)), (xNeg (xVar 1))]), sRet (xTup [(xVar 2), (xNeg (xVar 3))])] [sIf (xBin cLt (xVar 0) (xInt 0)) [sAssignT [2, 3] (xCall 6 [(xInv (xVar 0)), (xVar 1)]), sRet (xTup [(xInv (xVar 2)), (xBin bAdd (xVar 1) (xInv (xVar 3)))])] [sRet (xCall 5 [(xVar 0), (xVar 1)])]]]]
noncomputable def b_strip_quoted_realnames : List SD := [
  sIf (xIn cNin (xStr [34]) (xVar 0)) [sRet (xVar 0)] [],
  sAssign 1 (rVal (xInt 0)),
  sAssign 2 (rVal xNone),
  sAssign 3 (rOwn (fList [])),
  sFor (.tup [4, 5]) (iGen 0 (xVar 0)) [sIf (xBin cEq (xVar 5) (xStr [34])) [sIf (xBin cIs (xVar 2) xNone) [sAssign 2 (rVal (xVar 4))] [sIf (xBin cNe (xVar 1) (xVar 2)) [sAppend 3 (xSlice (xVar 0) (xVar 1) (xVar 2))] [], sAssign 1 (rVal (xBin bAdd (xVar 4) (xInt 1))), sAssign 2 (rVal xNone)]] []],
  sIf (xBin cLt (xVar 1) (xBi biLen [(xVar 0)])) [sAppend 3 (xSlice (xVar 0) (xVar 1) xNone)] [],
  sFrz [3] (sRet (xMeth mJoin (xStr []) [(xVar 3)]))]
noncomputable def b_check_parenthesis : List SD := [
  sAssign 0 (rVal (xCall 7 [(xVar 0)])),
  sAssign 1 (rVal (xInt 0)),
  sFor (.tup [2, 3]) (iGen 0 (xVar 0)) [sIf (xBin cEq (xVar 3) (xStr [40])) [sAug 1 gAdd (xInt 1)] [sIf (xBin cEq (xVar 3) (xStr [41])) [sAug 1 bSub (xInt 1), sIf (xBin cLt (xVar 1) (xInt 0)) [sRet (xBool false)] []] []]],
  sRet (xBin cEq (xVar 1) (xInt 0))]
noncomputable def b_law_kinds : List SD := [
  sAssignD [2, 3] [(rOwn (fList [])), (rVal (xInt 0))],
  sFor (.one 4) (iRange [(xBin bSub (xVar 1) (xInt 1))]) [sAssign 5 (rVal (xBin bSub (xBin bSub (xVar 1) (xInt 2)) (xVar 4))), sAssign 6 (rVal (xBin bMod (xItem (xVar 0) (xBin bAdd (xVar 4) (xInt 1))) (xInt 4))), sIf (xBin cGt (xVar 3) (xVar 5)) [sAssign 6 (rVal (xInt 1))] [sIf (xAnd (xBin cEq (xVar 6) (xInt 0)) (xBin cEq (xVar 3) (xVar 5))) [sAssign 6 (rVal (xInt 2))] [sIf (xAnd (xBin cEq (xVar 6) (xInt 1)) (xBin cEq (xVar 3) (xInt 0))) [sAssign 6 (rVal (xInt 3))] []]], sAppend 2 (xVar 6), sAug 3 gAdd (xItem (xList [(xInt 1), (xNeg (xInt 1)), (xInt 0), (xInt 0)]) (xVar 6))],
  sFrz [2] (sRet (xBin bAdd (xVar 2) (xList [(xInt 1)])))]
noncomputable def b_law_drawn : List SD := [
  sAssign 1 (rOwn (fList [(xInt 0), (xInt 0), (xInt 3), (xInt 1), (xInt 2), (xInt 0), (xInt 0), (xInt 5)])),
  sFor (.one 2) (iRange [(xBi biLen [(xVar 0)])]) [sAugItem 1 (xBin bMod (xVar 2) (xInt 8)) (xItem (xVar 0) (xVar 2))],
  sFrz [1] (sAssign 3 (rVal (xBin bAdd (xInt 4) (xBin bMod (xItem (xVar 1) (xInt 0)) (xInt 3))))),
  sAssign 4 (rVal (xBin bMod (xItem (xVar 1) (xInt 6)) (xBin bSub (xInt 24) (xVar 3)))),
  sAssign 5 (rVal (xBin bAdd (xInt 36) (xBin bMod (xBin bDiv (xBi biAbs [(xItem (xVar 1) (xInt 6))]) (xInt 24)) (xInt 4400)))),
  sAssign 6 (rVal (xBin bPow (xInt 2) (xBin bAdd (xBin bMul (xInt 2) (xVar 5)) (xInt 8)))),
  sAssign 7 (rVal (xSlice (xStr [40, 41, 91, 93, 58, 44, 59, 43, 45, 42, 47, 124, 38, 60, 62, 61, 37, 123, 125, 126, 94, 64, 33]) (xVar 4) (xBin bAdd (xVar 4) (xVar 3)))),
  sAssign 8 (rVal (xSlice (xBin bAdd (xToList (iRange [(xInt 7), (xInt 23)])) (xList [(xInt 24), (xInt 25), (xInt 26), (xInt 31), (xInt 32), (xInt 49), (xInt 54)])) (xVar 4) (xBin bAdd (xVar 4) (xVar 3)))),
  sRet (xTup [(xVar 7), (xVar 8), (xCall 9 [(xVar 1), (xVar 3)]), (xVar 5), (xBin bSub (xBin bMod (xBin bAdd (xItem (xVar 1) (xInt 7)) (xVar 6)) (xBin bMul (xInt 2) (xVar 6))) (xVar 6)), (xBin bDiv (xItem (xVar 1) (xInt 0)) (xInt 3))])]
noncomputable def b_law_units : List SD := [
  sAssign 2 (rVal (xBin bAdd (xStr [92]) (xVar 1))),
  sRet (xItem (xList [(xList [(xStr [40]), (xVar 2)]), (xList [(xVar 2), (xStr [41])]), (xList [(xStr [92, 41]), (xVar 2)]), (xList [(xStr [34]), (xStr [92, 34]), (xStr [40]), (xVar 2), (xStr [34])])]) (xVar 0))]
noncomputable def b_law_put : List SD := [
  sAssignD [4, 5] [(rVal (xItem (xVar 0) (xVar 1))), (rVal (xItem (xVar 0) (xBin bAdd (xVar 1) (xInt 1))))],
  sAssign 6 (rVal (xItem (xList [(xList [(xVar 4), (xVar 3), (xVar 5)]), (xList [(xBin bAdd (xBin bAdd (xVar 4) (xVar 3)) (xVar 5))]), (xList [(xBin bAdd (xVar 4) (xVar 3)), (xVar 5)]), (xList [(xVar 4), (xBin bAdd (xVar 3) (xVar 5))])]) (xVar 2))),
  sRet (xBin bAdd (xBin bAdd (xSlice (xVar 0) xNone (xVar 1)) (xVar 6)) (xSlice (xVar 0) (xBin bAdd (xVar 1) (xInt 2)) xNone))]
noncomputable def b_law_stages : List SD := [
  sAssignD [6, 7, 8] [(rVal (xList [(xStr []), (xStr [])])), (rVal (xStr [])), (rOwn (fList []))],
  sFor (.tup [9, 10]) (iZip (xVar 1) (xVar 0)) [sAssign 11 (rVal (xBin bSub (xBi biLen [(xVar 6)]) (xInt 1))), sAssign 12 (rVal (xList [(xBin bMul (xStr [41]) (xBin bSub (xVar 11) (xInt 1))), (xBin bMul (xStr [41]) (xVar 11)), (xBin bAdd (xBin bMul (xStr [41]) (xVar 11)) (xStr [40])), (xStr [40])])), sAssign 13 (rVal (xComp 1 [7] (cClause (.one 17) (iVal (xVar 12)) [] (cDone (xCall 8 [(xBin bAdd (xVar 7) (xVar 17))]))))), sIf (xOr (xBin cIsnot (xItem (xVar 13) (xInt 0)) (xBool true)) (xBin cNe (xComp 1 [] (cClause (.one 17) (iVal (xSlice (xVar 13) (xInt 1) xNone)) [(xBin cIsnot (xVar 17) (xBool false))] (cDone (xVar 17)))) (xList []))) [sRet xNone] [], sAssignT [2, 14] (xCall 6 [(xBin bMul (xVar 5) (xBin bAdd (xBin bMul (xVar 2) (xBin bPow (xInt 2) (xVar 4))) (xVar 3))), (xBin bMul (xBin bMul (xVar 5) (xVar 11)) (xBin bPow (xInt 2) (xVar 4)))]), sAssign 15 (rVal (xCall 3 [(xBin bMul (xVar 5) (xVar 14)), (xVar 4)])), sAssign 16 (rVal (xIte (xBin cEq (xBi biLen [(xVar 15)]) (xInt 2)) (xItem (xVar 15) (xInt 1)) (xInt 0))), sIf (xOr (xBin cNe (xCall 4 [(xList [(xVar 3), (xVar 16)]), (xVar 4)]) (xBin bMul (xVar 5) (xVar 14))) (xBin cGe (xVar 16) (xVar 11))) [sRet xNone] [], sAppend 8 (xTup [(xVar 6), (xVar 16), (xVar 9), (xVar 10)]), sAssign 6 (rVal (xCall 12 [(xVar 6), (xVar 16), (xVar 9), (xVar 10)])), sAug 7 gAdd (xMeth mJoin (xStr []) [(xCall 11 [(xVar 9), (xVar 10)])])],
  sFrz [8] (sRet (xTup [(xVar 8), (xItem (xVar 6) (xInt 0)), (xVar 2)]))]
noncomputable def b_law_read : List SD := [
  sFor (.one 3) (iRange [(xBi biLen [(xVar 2)])]) [sAssignT [4, 5, 6, 7] (xItem (xVar 2) (xVar 3)), sFor (.one 8) (iRange [(xBin bSub (xBi biLen [(xVar 4)]) (xInt 1))]) [sFor (.one 9) (iRange [(xInt 4)]) [sAssign 10 (rVal (xCall 0 [(xMeth mJoin (xStr [46, 46, 46]) [(xCall 12 [(xVar 4), (xVar 8), (xVar 9), (xVar 7)])]), (xVar 0)])), sIf (xBin cIsnot (xVar 10) (xAnd (xBin cEq (xVar 8) (xVar 5)) (xOr (xIn cIn (xVar 9) (xTup [(xInt 0), (xVar 6)])) (xBin cEq (xVar 6) (xInt 1))))) [sRet (xBool false)] []]], sAssign 11 (rVal (xComp 2 [3, 1] (cClause (.one 12) (iVal (xSlice (xVar 1) (xBin bAdd (xVar 3) (xInt 1)) xNone)) [] (cClause (.one 13) (iVal (xSlice (xVar 1) xNone (xVar 3))) [] (cDone (xBin bAdd (xVar 12) (xVar 13))))))), sIf (xBin cNe (xBi biLen [(xComp 1 [0, 7] (cClause (.one 12) (iVal (xVar 11)) [(xCall 0 [(xBin bAdd (xBin bAdd (xBin bAdd (xBin bAdd (xStr [46, 46, 46]) (xVar 12)) (xStr [46, 46, 46])) (xVar 7)) (xStr [46, 46, 46])), (xVar 0)])] (cDone (xVar 12))))]) (xVar 5)) [sRet (xBool false)] []],
  sRet (xBool true)]
noncomputable def b_law_text : List SD := [
  sAssign 2 (rVal (xComp 3 [] (cClause (.tup [6, 7]) (iZip (xVar 0) (xVar 1)) [] (cClause (.one 8) (iVal (xCall 11 [(xVar 6), (xVar 7)])) [] (cDone (xVar 8)))))),
  sAssign 3 (rVal (xComp 3 [] (cClause (.tup [6, 7]) (iZip (xVar 0) (xVar 1)) [(xBin cNe (xVar 6) (xInt 3))] (cClause (.one 8) (iVal (xCall 11 [(xVar 6), (xVar 7)])) [] (cDone (xVar 8)))))),
  sAssign 4 (rVal (xMeth mJoin (xStr []) [(xVar 2)])),
  sAssign 5 (rVal (xComp 1 [2] (cClause (.one 6) (iRange [(xBi biLen [(xVar 2)])]) [] (cDone (xTup [(xBin bSub (xBi biLen [(xMeth mJoin (xStr []) [(xSlice (xVar 2) xNone (xBin bAdd (xVar 6) (xInt 1)))])]) (xInt 1)), (xItem (xVar 2) (xVar 6))]))))),
  sAssign 5 (rVal (xBin bAdd (xVar 5) (xList [(xTup [(xBin bAdd (xBi biLen [(xVar 4)]) (xInt 1)), (xStr [92, 92])]), (xTup [(xBin bAdd (xBi biLen [(xVar 4)]) (xInt 2)), (xStr [92])])]))),
  sIf (xBin cNe (xToList (iGen 0 (xBin bAdd (xVar 4) (xStr [92, 92, 92])))) (xVar 5)) [sRet (xBool false)] [],
  sRet (xBin cEq (xCall 7 [(xBin bAdd (xVar 4) (xStr [34, 40]))]) (xBin bAdd (xMeth mJoin (xStr []) [(xVar 3)]) (xStr [34, 40])))]
noncomputable def b_law_once : List SD := [
  sAssignD [2, 3] [(rVal (xItem (xVar 0) (xVar 1))), (rVal (xSlice (xVar 0) (xVar 1) xNone))],
  sAssign 4 (rVal (xList [(xBin bAdd (xBin bAdd (xSlice (xVar 0) xNone (xBin bAdd (xVar 1) (xInt 1))) (xStr [46, 46, 46])) (xVar 3)), (xBin bAdd (xBin bAdd (xBin bAdd (xStr [46, 46, 46]) (xVar 2)) (xStr [46, 46, 46])) (xVar 3)), (xBin bAdd (xBin bAdd (xBin bAdd (xSlice (xVar 0) xNone (xBin bAdd (xVar 1) (xInt 1))) (xStr [46, 46, 46])) (xVar 2)) (xStr [46, 46, 46])), (xBin bAdd (xBin bAdd (xBin bAdd (xBin bAdd (xStr [46, 46, 46]) (xVar 2)) (xStr [46, 46, 46])) (xVar 2)) (xStr [46, 46, 46])), (xBin bAdd (xBin bAdd (xBin bAdd (xBin bAdd (xStr [46, 46, 46]) (xSlice (xVar 0) xNone (xInt 2))) (xStr [46, 46, 46])) (xSlice (xVar 0) (xInt 1) xNone)) (xStr [46, 46, 46])), (xBin bAdd (xSlice (xVar 0) (xInt 1) xNone) (xItem (xVar 0) (xInt 0)))])),
  sAssign 5 (rVal (xComp 1 [0] (cClause (.one 7) (iVal (xBin bAdd (xVar 4) (xList [(xBin bAdd (xBin bAdd (xSlice (xVar 0) xNone (xVar 1)) (xStr [46, 46, 46])) (xVar 3))]))) [] (cDone (xCall 0 [(xVar 7), (xVar 0)]))))),
  sAssign 6 (rVal (xComp 1 [0, 2] (cClause (.one 7) (iVal (xTup [(xInt 2), (xInt 3)])) [] (cDone (xCall 0 [(xBin bAdd (xStr [46, 46, 46]) (xBin bMul (xBin bAdd (xVar 2) (xStr [46, 46, 46])) (xVar 7))), (xBin bAdd (xVar 0) (xVar 0))]))))),
  sRet (xAnd (xBin cEq (xVar 5) (xBin bAdd (xBin bMul (xList [(xBool false)]) (xInt 6)) (xList [(xBool true)]))) (xBin cEq (xVar 6) (xList [(xBool true), (xBool false)])))]
noncomputable def b_law_whole : List SD := [
  sAssign 2 (rVal (xVar 1)),
  sFor (.one 3) (iRange [(xBi biLen [(xVar 0)])]) [sAssignT [4, 5, 6, 7] (xItem (xVar 0) (xBin bSub (xBin bSub (xBi biLen [(xVar 0)]) (xInt 1)) (xVar 3))), sAssign 2 (rVal (xBin bAdd (xBin bMul (xVar 2) (xBin bSub (xBi biLen [(xVar 4)]) (xInt 1))) (xVar 5)))],
  sRet (xVar 2)]
noncomputable def b_law : List SD := [
  sAssignT [1, 2, 3, 4, 5, 6] (xCall 10 [(xVar 0)]),
  sAssign 7 (rVal (xCall 4 [(xComp 1 [] (cClause (.one 14) (iVal (xVar 1)) [] (cDone (xDitem 0 (xVar 14))))), (xInt 6)])),
  sAssign 8 (rVal (xBin bSub (xInt 1) (xBin bMul (xBin bMod (xVar 6) (xInt 2)) (xInt 2)))),
  sAssign 9 (rVal (xBin bMul (xVar 8) (xBin bAdd (xBin bPow (xInt 2) (xVar 4)) (xVar 7)))),
  sIf (xOr (xBin cNe (xCall 3 [(xVar 7), (xInt 6)]) (xVar 2)) (xBin cNe (xCall 6 [(xBin bMul (xVar 9) (xVar 5)), (xVar 9)]) (xTup [(xVar 5), (xInt 0)]))) [sRet (xBool false)] [],
  sAssign 10 (rVal (xCall 13 [(xVar 1), (xVar 3), (xVar 5), (xVar 7), (xVar 4), (xVar 8)])),
  sIf (xOr (xBin cIs (xVar 10) xNone) (xNot (xCall 15 [(xSlice (xVar 3) xNone (xNeg (xInt 1))), (xVar 1)]))) [sRet (xBool false)] [],
  sAssignT [11, 12, 13] (xVar 10),
  sIf (xNot (xCall 14 [(xVar 12), (xVar 1), (xVar 11)])) [sRet (xBool false)] [],
  sRet (xAnd (xBin cEq (xCall 17 [(xVar 11), (xVar 13)]) (xVar 5)) (xCall 16 [(xVar 12), (xBin bMod (xBin bDiv (xVar 6) (xInt 2)) (xBi biLen [(xVar 12)]))]))]
section
variable {W : Wd} {C : Cx} {d : Nat} (cf : CfgOk cfg2 W C d)
include cf
theorem tr_ellipsis_match : OkSs W C d (fT "_ellipsis_match") (fm "_ellipsis_match") (fb "_ellipsis_match") b_ellipsis_match := Rs.of (show Rs.v (trF cf "_ellipsis_match") = some b_ellipsis_match by rfl)
theorem tr_div2n1n : OkSs W C d (fT "_div2n1n") (fm "_div2n1n") (fb "_div2n1n") b_div2n1n := Rs.of (show Rs.v (trF cf "_div2n1n") = some b_div2n1n by rfl)
theorem tr_div3n2n : OkSs W C d (fT "_div3n2n") (fm "_div3n2n") (fb "_div3n2n") b_div3n2n := Rs.of (show Rs.v (trF cf "_div3n2n") = some b_div3n2n by rfl)
theorem tr_divmod_pos : OkSs W C d (fT "_divmod_pos") (fm "_divmod_pos") (fb "_divmod_pos") b_divmod_pos := Rs.of (show Rs.v (trF cf "_divmod_pos") = some b_divmod_pos by rfl)
theorem tr_int_divmod : OkSs W C d (fT "int_divmod") (fm "int_divmod") (fb "int_divmod") b_int_divmod := Rs.of (show Rs.v (trF cf "int_divmod") = some b_int_divmod by rfl)
theorem tr_strip_quoted_realnames : OkSs W C d (fT "_strip_quoted_realnames") (fm "_strip_quoted_realnames") (fb "_strip_quoted_realnames") b_strip_quoted_realnames := Rs.of (show Rs.v (trF cf "_strip_quoted_realnames") = some b_strip_quoted_realnames by rfl)
theorem tr_check_parenthesis : OkSs W C d (fT "_check_parenthesis") (fm "_check_parenthesis") (fb "_check_parenthesis") b_check_parenthesis := Rs.of (show Rs.v (trF cf "_check_parenthesis") = some b_check_parenthesis by rfl)
theorem tr_law_kinds : OkSs W C d (fT "_law_kinds") (fm "_law_kinds") (fb "_law_kinds") b_law_kinds := Rs.of (show Rs.v (trF cf "_law_kinds") = some b_law_kinds by rfl)
theorem tr_law_drawn : OkSs W C d (fT "_law_drawn") (fm "_law_drawn") (fb "_law_drawn") b_law_drawn := Rs.of (show Rs.v (trF cf "_law_drawn") = some b_law_drawn by rfl)
theorem tr_law_units : OkSs W C d (fT "_law_units") (fm "_law_units") (fb "_law_units") b_law_units := Rs.of (show Rs.v (trF cf "_law_units") = some b_law_units by rfl)
theorem tr_law_put : OkSs W C d (fT "_law_put") (fm "_law_put") (fb "_law_put") b_law_put := Rs.of (show Rs.v (trF cf "_law_put") = some b_law_put by rfl)
theorem tr_law_stages : OkSs W C d (fT "_law_stages") (fm "_law_stages") (fb "_law_stages") b_law_stages := Rs.of (show Rs.v (trF cf "_law_stages") = some b_law_stages by rfl)
theorem tr_law_read : OkSs W C d (fT "_law_read") (fm "_law_read") (fb "_law_read") b_law_read := Rs.of (show Rs.v (trF cf "_law_read") = some b_law_read by rfl)
theorem tr_law_text : OkSs W C d (fT "_law_text") (fm "_law_text") (fb "_law_text") b_law_text := Rs.of (show Rs.v (trF cf "_law_text") = some b_law_text by kernel_rfl)
theorem tr_law_once : OkSs W C d (fT "_law_once") (fm "_law_once") (fb "_law_once") b_law_once := Rs.of (show Rs.v (trF cf "_law_once") = some b_law_once by rfl)
theorem tr_law_whole : OkSs W C d (fT "_law_whole") (fm "_law_whole") (fb "_law_whole") b_law_whole := Rs.of (show Rs.v (trF cf "_law_whole") = some b_law_whole by rfl)
theorem tr_law : OkSs W C d (fT "law") (fm "law") (fb "law") b_law := Rs.of (show Rs.v (trF cf "law") = some b_law by rfl)
end
end Mine
namespace Mine
open PySem
theorem wpFor_map {α : Type} (f : α → V) {body : V → Rho → (Rho → Prop) → Prop} {K : Rho → Prop} (I : List α → Rho → Prop) (step : ∀ x rest ρ, I (x :: rest) ρ → ∀ K' : Rho → Prop, (∀ ρ', I rest ρ' → K' ρ') → body (f x) ρ K') (done : ∀ ρ, I [] ρ → K ρ) : ∀ (items : List α) (ρ : Rho), I items ρ → wpFor body (items.map f) ρ K
  | [], ρ, h => done ρ h
  | x :: xs, ρ, h => step x xs ρ h _ fun ρ' h' => wpFor_map f I step done xs ρ' h'
theorem wpWhile_ind {test : Rho → (Bool → Prop) → Prop} {body : Rho → (Rho → Prop) → Prop} {K : Rho → Prop} (I : Nat → Rho → Prop) (ht : ∀ n ρ, I n ρ → ∃ b, (∀ K' : Bool → Prop, K' b → test ρ K') ∧ (b = false → K ρ) ∧ (b = true → ∀ K' : Rho → Prop, (∀ ρ' n', n' < n → I n' ρ' → K' ρ') → body ρ K')) : ∀ (m n : Nat) (ρ : Rho), I n ρ → n < m → wpWhile test body m ρ K
  | 0, n, ρ, h, hm => nomatch hm
  | m + 1, n, ρ, h, hm => let ⟨b, h1, h2, h3⟩ := ht n ρ h
    h1 _ ⟨fun hb => h3 hb _ fun ρ' n' hn hI => wpWhile_ind I ht m n' ρ' hI (Nat.lt_of_lt_of_le hn (Nat.le_of_lt_succ hm)), h2⟩
theorem br_dec {p : Prop} [Decidable p] {P Q : Prop} (h : p → P) (h' : ¬p → Q) : Br (decide p) P Q := ⟨fun q => h (of_decide_eq_true q), fun q => h' (of_decide_eq_false q)⟩
theorem br_ndec {p : Prop} [Decidable p] {P Q : Prop} (h : ¬p → P) (h' : p → Q) : Br (!decide p) P Q := ⟨fun q => h (of_decide_eq_false (by rw [← Bool.not_not (decide p), q]; rfl)), fun q => h' (of_decide_eq_true (by rw [← Bool.not_not (decide p), q]; rfl))⟩
theorem br_not {b : Bool} {P Q : Prop} (h : b = false → P) (h' : b = true → Q) : Br (!b) P Q := match b, h, h' with
  | true, _, h' => ⟨fun q => (nomatch q), fun _ => h' rfl⟩
  | false, h, _ => ⟨fun _ => h rfl, fun q => nomatch q⟩
theorem br_t {P Q : Prop} (h : P) : Br true P Q := ⟨fun _ => h, fun q => nomatch q⟩
theorem br_f {P Q : Prop} (h : Q) : Br false P Q := ⟨fun q => (nomatch q), fun _ => h⟩
theorem some_lt {x : Int} (h : x.natAbs < 2 ^ 60) : BoundFit (some x) := fun z hz => Option.some.inj hz ▸ h
theorem none_lt : BoundFit none := fun _ hz => nomatch hz
noncomputable def escG : Nat → List Nat → List (Nat × List Nat)
  | _, [] => []
  | p, c :: r => if c = 92 then (match r with
      | [] => [(p, [92])]
      | x :: r' => (p + 1, [92, x]) :: escG (p + 2) r') else (p, [c]) :: escG (p + 1) r
noncomputable def escP (p : Nat × List Nat) : V := .tup [.int p.1, .str p.2]
noncomputable def escV (s : List Nat) : List V := (escG 0 s).map escP
noncomputable def chkG : Int → List (Nat × List Nat) → Bool
  | o, [] => decide (o = 0)
  | o, (_, c) :: r => if c = [40] then chkG (o + 1) r else if c = [41] then (if o - 1 < 0 then false else chkG (o - 1) r) else chkG o r
inductive ChkI (t : List Nat) (items : List (Nat × List Nat)) (ρ : Rho) : Prop
  | mk (o : Int) (a b : Slot) (h2 : ρ = [.val (.str t), .val (.int o), a, b]) (h3 : chkG o items = chkG 0 (escG 0 t))
theorem wp_check (C : Cx) (s : List Nat) (t : List Nat) (K : V → Prop) (h7 : ∀ K' : V → Prop, K' (.str t) → C.call 7 [.str s] K') (hg : ∀ K' : List V → Prop, K' (escV t) → C.gen 0 [.str t] K')
    (hk : K (.bool (chkG 0 (escG 0 t)))) : wpSs C b_check_parenthesis [.val (.str s), .unset, .unset, .unset] (fun _ => False) K := by
  refine h7 _ (hg _ (wpFor_map escP (ChkI t) ?_ ?_ _ _ ⟨0, _, _, rfl, rfl⟩))
  · rintro ⟨p, c⟩ rest ρ ⟨o, a, b, rfl, hc⟩ K' hK
    rw [chkG] at hc
    refine ⟨rfl, br_dec (fun h => ?_) fun h => br_dec (fun h2 => ?_) fun h2 => ?_⟩
    · rw [if_pos h] at hc
      exact hK _ ⟨_, _, _, rfl, hc⟩
    · rw [if_neg h, if_pos h2] at hc
      refine br_dec (fun h3 => ?_) fun h3 => ?_
      · rw [if_pos h3] at hc
        exact hc ▸ hk
      · rw [if_neg h3] at hc
        exact hK _ ⟨_, _, _, rfl, hc⟩
    · rw [if_neg h, if_neg h2] at hc
      exact hK _ ⟨_, _, _, rfl, hc⟩
  · rintro ρ ⟨o, a, b, rfl, hc⟩
    rw [chkG] at hc
    exact (show K (.bool (decide (o = 0))) from hc ▸ hk)
noncomputable def strG (s : List Nat) : List (Nat × List Nat) → Nat → Option Nat → List (List Nat) → Nat × List (List Nat)
  | [], st, _, acc => (st, acc)
  | (p, c) :: r, st, op, acc => if c = [34] then (match op with
      | none => strG s r st (some p) acc
      | some o => strG s r (p + 1) none (if (st : Int) = o then acc else acc ++ [sliceL s (some (st : Int)) (some (o : Int))])) else strG s r st op acc
theorem strG_cons (s : List Nat) (p : Nat) (c : List Nat) (r : List (Nat × List Nat)) (st : Nat) (op : Option Nat) (acc : List (List Nat)) : strG s ((p, c) :: r) st op acc = if c = [34] then (match op with
      | none => strG s r st (some p) acc
      | some o => strG s r (p + 1) none (if (st : Int) = o then acc else acc ++ [sliceL s (some (st : Int)) (some (o : Int))])) else strG s r st op acc := by cases op <;> rfl
noncomputable def strip (s : List Nat) : List Nat := if infixB [34] s then
    let r := strG s (escG 0 s) 0 none []
    joinL [] (if (r.1 : Int) < s.length then r.2 ++ [sliceL s (some (r.1 : Int)) none] else r.2)
  else s
theorem escG_le : ∀ (n : Nat) (s : List Nat) (k : Nat), s.length ≤ n → (escG k s).length ≤ s.length ∧ ∀ p ∈ escG k s, p.1 < k + s.length
  | n, [], k, _ => ⟨Nat.le_refl _, fun p hp => nomatch hp⟩
  | 0, c :: r, k, h => nomatch h
  | n + 1, c :: r, k, h => by
    rw [List.length_cons] at h ⊢
    unfold escG
    split
    · split
      · exact ⟨Nat.le_refl _, fun p hp => by rw [List.mem_singleton.mp hp]; exact Nat.lt_succ_self k⟩
      · rename_i x r'
        simp only [List.length_cons] at h ⊢
        have ih := escG_le n r' (k + 2) (by lia)
        refine ⟨Nat.succ_le_succ (Nat.le_succ_of_le ih.1), fun p hp => ?_⟩
        rcases List.mem_cons.mp hp with rfl | hp
        · show k + 1 < _; lia
        · have := ih.2 p hp; lia
    · have ih := escG_le n r (k + 1) (by lia)
      refine ⟨Nat.succ_le_succ ih.1, fun p hp => ?_⟩
      rcases List.mem_cons.mp hp with rfl | hp
      · show k < _; lia
      · have := ih.2 p hp; lia
theorem sliceL_len {α : Type} (xs : List α) (lo hi : Option Int) : (sliceL xs lo hi).length ≤ xs.length := by
  unfold sliceL
  rw [List.length_drop, List.length_take]
  exact Nat.le_trans (Nat.sub_le _ _) (Nat.min_le_right _ _)
theorem joinL_len {B : Nat} : ∀ (ws : List (List Nat)), (∀ w ∈ ws, w.length ≤ B) → (joinL [] ws).length ≤ ws.length * B
  | [], _ => Nat.zero_le _
  | [x], h => by rw [List.length_singleton, Nat.one_mul]; exact h x List.mem_cons_self
  | x :: y :: r, h => by
    have h1 := h x List.mem_cons_self
    have h2 := joinL_len (y :: r) fun w hw => h w (List.mem_cons_of_mem _ hw)
    show (x ++ [] ++ joinL [] (y :: r)).length ≤ _
    rw [List.length_append, List.append_nil, List.length_cons, Nat.succ_mul, Nat.add_comm]
    exact Nat.add_le_add h2 h1
noncomputable def optV (o : Option Nat) : V := match o with
  | none => .none
  | some o => .int o
inductive StrI (s : List Nat) (items : List (Nat × List Nat)) (ρ : Rho) : Prop
  | mk (st : Nat) (op : Option Nat) (acc : List (List Nat)) (a b : Slot) (h2 : ρ = [.val (.str s), .val (.int st), .val (optV op), .own (acc.map V.str), a, b]) (hc : strG s items st op acc = strG s (escG 0 s) 0 none [])
    (hp : ∀ p ∈ items, p.1 < s.length) (hst : st ≤ s.length) (hop : ∀ o ∈ op, o < s.length) (hal : acc.length + items.length ≤ s.length) (haw : ∀ w ∈ acc, w.length ≤ s.length)
theorem mem_snoc {α : Type} {P : α → Prop} {xs : List α} {x : α} (h : ∀ y ∈ xs, P y) (hx : P x) : ∀ y ∈ xs ++ [x], P y := fun y hy => (List.mem_append.mp hy).elim (h y) fun q => List.mem_singleton.mp q ▸ hx
theorem wp_strip (C : Cx) (s : List Nat) (K : V → Prop) (hl : s.length ≤ 1000) (hg : ∀ K' : List V → Prop, K' (escV s) → C.gen 0 [.str s] K')
    (hk : K (.str (strip s))) : wpSs C b_strip_quoted_realnames [.val (.str s), .unset, .unset, .unset, .unset, .unset] (fun _ => False) K := by
  have h16 : strMax = 16000000 := rfl
  have fit : ∀ k : Nat, k ≤ s.length → BoundFit (some (k : Int)) := fun k hk => some_lt (by lia)
  refine br_not (fun hi => ?_) fun hi => ?_
  · rw [strip, hi] at hk
    exact hk
  rw [strip, hi, if_pos rfl] at hk
  have le := escG_le _ s 0 (Nat.le_refl _)
  refine ⟨⟨Nat.zero_le _⟩, hg _ (wpFor_map escP (StrI s) ?_ ?_ _ _ ⟨0, none, [], _, _, rfl, rfl, fun p hp => by have := le.2 p hp; lia, Nat.zero_le _, fun _ h => (nomatch h), by have := le.1; rw [List.length_nil]; lia, fun _ h => (nomatch h)⟩)⟩
  · rintro ⟨p, c⟩ ys ρ ⟨st, op, acc, a, b, rfl, hc, hp, hst, hop, hal, haw⟩ K' hK
    have hp0 : p < s.length := hp (p, c) List.mem_cons_self
    have hp' : ∀ q ∈ ys, q.1 < s.length := fun q hq => hp q (List.mem_cons_of_mem _ hq)
    rw [List.length_cons] at hal
    rw [strG_cons] at hc
    refine ⟨rfl, br_dec (fun h => ?_) fun h => ?_⟩
    · rw [if_pos h] at hc
      cases op with
      | none => exact br_t (hK _ ⟨st, some p, acc, _, _, rfl, hc, hp', hst, fun o ho => Option.some.inj ho ▸ hp0, by lia, haw⟩)
      | some o =>
        have ho := hop o rfl
        have hc : strG s ys (p + 1) none (if (st : Int) = o then acc else acc ++ [sliceL s (some (st : Int)) (some (o : Int))]) = _ := hc
        refine br_f (br_ndec (fun hso => ?_) fun hso => ?_)
        · rw [if_neg hso] at hc
          refine ⟨⟨by lia, fit _ hst, fit _ (Nat.le_of_lt ho)⟩, ⟨by rw [List.length_map]; lia⟩, hK _ ⟨p + 1, none, acc ++ [sliceL s (some (st : Int)) (some (o : Int))], .val (.int p), .val (.str c), ?_, hc, hp', hp0, fun _ h => (nomatch h), by rw [List.length_append, List.length_singleton]; lia, mem_snoc haw (sliceL_len _ _ _)⟩⟩
          rw [List.map_append]; rfl
        · rw [if_pos hso] at hc
          exact hK _ ⟨p + 1, none, acc, _, _, rfl, hc, hp', hp0, fun _ h => (nomatch h), by lia, haw⟩
    · rw [if_neg h] at hc
      exact hK _ ⟨st, op, acc, _, _, rfl, hc, hp', hst, hop, by lia, haw⟩
  · rintro ρ ⟨st, op, acc, a, b, rfl, hc, hp, hst, hop, hal, haw⟩
    rw [strG] at hc
    rw [← hc] at hk
    have hk : K (.str (joinL [] (if (st : Int) < s.length then acc ++ [sliceL s (some (st : Int)) none] else acc))) := hk
    have fin : ∀ ws : List (List Nat), ws.length ≤ s.length + 1 → (∀ w ∈ ws, w.length ≤ s.length) → Side ((joinL [] ws).length ≤ strMax ∧ 0 ≤ 100000) := fun ws h1 h2 => by
      have := joinL_len (B := 1000) ws fun w hw => Nat.le_trans (h2 w hw) hl
      exact ⟨by lia, Nat.zero_le _⟩
    refine ⟨⟨by lia⟩, br_dec (fun h => ?_) fun h => ?_⟩
    · rw [if_pos h] at hk
      refine ⟨⟨by lia, fit _ hst, none_lt⟩, ⟨by rw [List.length_map]; lia⟩, ⟨rfl⟩, acc ++ [sliceL s (some (st : Int)) none], ?_, fin _ ?_ (mem_snoc haw (sliceL_len _ _ _)), hk⟩
      · rw [List.map_append]; rfl
      · rw [List.length_append, List.length_singleton]
        have : acc.length + 0 ≤ s.length := hal
        lia
    · rw [if_neg h] at hk
      exact ⟨⟨rfl⟩, acc, rfl, fin acc (by have : acc.length + 0 ≤ s.length := hal; lia) haw, hk⟩
end Mine
namespace Mine
open PySem
noncomputable def dots : List Nat := [46, 46, 46]
noncomputable def emF (got : List Nat) (en : Nat) : List (List Nat) → Nat → Bool
  | [], _ => true
  | w :: r, st => if findIn w got st en < 0 then false else emF got en r ((findIn w got st en).toNat + w.length)
noncomputable def emE (got : List Nat) (ws : List (List Nat)) (st : Nat) : Bool :=
  if ws.getLast?.getD [] = [] then (if got.length < st then false else emF got got.length ws st)
  else if (ws.getLast?.getD []).isSuffixOf got then (if got.length - (ws.getLast?.getD []).length < st then false else emF got (got.length - (ws.getLast?.getD []).length) ws.dropLast st) else false
noncomputable def ematch (want got : List Nat) : Bool :=
  if infixB dots want then
    (match splitL want dots with
    | [] => false
    | w :: r => if w = [] then emE got (w :: r) 0 else if w.isPrefixOf got then emE got r w.length else false)
  else decide (want = got)
theorem splitGo_ne (sep : List Nat) : ∀ (s acc : List Nat) (k : Nat), 1 ≤ (splitGo sep acc s k).length
  | [], acc, k => Nat.le_refl _
  | c :: r, acc, 0 => by
    unfold splitGo
    split
    · exact Nat.succ_le_succ (Nat.zero_le _)
    · exact splitGo_ne sep r _ 0
  | c :: r, acc, k + 1 => splitGo_ne sep r acc k
theorem splitGo_two (sep : List Nat) (hs : sep ≠ []) : ∀ (s acc : List Nat), infixB sep s = true → 2 ≤ (splitGo sep acc s 0).length
  | [], acc, h => absurd (List.isEmpty_iff.mp h) hs
  | c :: r, acc, h => by
    unfold splitGo
    split
    · exact Nat.succ_le_succ (splitGo_ne sep r [] (sep.length - 1))
    · rename_i hp
      exact splitGo_two sep hs r _ ((Bool.or_eq_true_iff.mp h).resolve_left hp)
theorem splitGo_mem (sep : List Nat) (B : Nat) : ∀ (s acc : List Nat) (k : Nat), acc.length + s.length ≤ B → (splitGo sep acc s k).length ≤ s.length + 1 ∧ ∀ w ∈ splitGo sep acc s k, w.length ≤ B
  | [], acc, k, h => ⟨Nat.le_refl _, fun w hw => by rw [List.mem_singleton.mp hw, List.length_reverse]; exact h⟩
  | c :: r, acc, 0, h => by
    unfold splitGo
    rw [List.length_cons] at h
    split
    · have ih := splitGo_mem sep B r [] (sep.length - 1) (by rw [List.length_nil]; lia)
      refine ⟨Nat.succ_le_succ ih.1, fun w hw => ?_⟩
      rcases List.mem_cons.mp hw with rfl | hw
      · rw [List.length_reverse]; lia
      · exact ih.2 w hw
    · have ih := splitGo_mem sep B r (c :: acc) 0 (by rw [List.length_cons]; lia)
      exact ⟨Nat.le_succ_of_le ih.1, ih.2⟩
  | c :: r, acc, k + 1, h => have ih := splitGo_mem sep B r acc k (Nat.le_trans (Nat.add_le_add_left (Nat.le_succ _) _) h); ⟨Nat.le_succ_of_le ih.1, ih.2⟩
theorem findFrom_lt (x s : List Nat) : ∀ (n i j : Nat), findFrom x s i n = some j → i ≤ j ∧ j < i + n
  | 0, i, j, h => nomatch h
  | n + 1, i, j, h => by
    unfold findFrom at h
    split at h
    · cases h; exact ⟨Nat.le_refl _, Nat.lt_add_of_pos_right (Nat.succ_pos n)⟩
    · have := findFrom_lt x s n (i + 1) j h; lia
theorem findIn_le {x s : List Nat} {i e : Nat} (h : ¬ findIn x s i e < 0) : ∃ j : Nat, findIn x s i e = j ∧ j + x.length ≤ e := by
  unfold findIn at h ⊢
  split at h
  · split at h
    · rename_i h1 _ j hj
      have := findFrom_lt _ _ _ _ _ hj
      exact ⟨j, by rw [if_pos h1], by lia⟩
    · exact absurd (by decide) h
  · exact absurd (by decide) h
theorem getLast_neg {ws : List (List Nat)} (h : ws ≠ []) : place (-1) (ws.map V.str).length = some (ws.length - 1) ∧ (ws.map V.str)[ws.length - 1]? = some (.str (ws.getLast?.getD [])) ∧ ws.getLast?.getD [] ∈ ws := by
  have hl : 0 < ws.length := List.length_pos_iff.mpr h
  have h1 : ws.length - 1 < ws.length := Nat.sub_lt hl Nat.one_pos
  have e : ws.getLast?.getD [] = ws[ws.length - 1] := by rw [List.getLast?_eq_getElem?, List.getElem?_eq_getElem h1]; rfl
  refine ⟨?_, by rw [List.getElem?_map, List.getElem?_eq_getElem h1, e]; rfl, e ▸ List.getElem_mem h1⟩
  unfold place
  rw [if_neg (by decide), List.length_map, if_pos (by lia)]
  congr 1; lia
theorem place0 {n : Nat} (h : 0 < n) : place 0 n = some 0 := by
  unfold place
  rw [if_pos (Int.le_refl 0), if_pos (Int.natCast_pos.mpr h)]; rfl
inductive EmI (got : List Nat) (en : Nat) (want : V) (ws : List V) (r : Bool) (items : List (List Nat)) (ρ : Rho) : Prop
  | mk (s' : Nat) (b : Slot) (hs : s' ≤ en) (h2 : ρ = [.val want, .val (.str got), .val (.list ws), .val (.int s'), .val (.int en), b]) (he : emF got en items s' = r)
section
variable (C : Cx) (got : List Nat) (K : V → Prop) (hgl : got.length ≤ 90000) (want : V)
include hgl
theorem wp_emF (en : Nat) (hen : en ≤ got.length) (ws : List (List Nat)) (st : Nat) (hst : st ≤ en) (hwl : ws.length ≤ 100000 ∧ ∀ w ∈ ws, w.length ≤ 90000) (b : Slot) (hk : K (.bool (emF got en ws st))) :
    wpSs C (b_ellipsis_match.drop 9) [.val want, .val (.str got), .own (ws.map V.str), .val (.int st), .val (.int en), b] (fun _ => False) K := by
  have h16 : strMax = 16000000 := rfl
  refine ⟨⟨by rw [List.length_map]; lia⟩, wpFor_map V.str (fun items ρ => (∀ w ∈ items, w.length ≤ 90000) ∧ EmI got en want (ws.map V.str) (emF got en ws st) items ρ) ?_ ?_ _ _ ⟨hwl.2, st, b, hst, rfl, rfl⟩⟩
  · rintro w r ρ ⟨hws, s', b, hs', rfl, he⟩ K' hK
    rw [emF] at he
    refine ⟨⟨rfl⟩, ⟨Int.natCast_nonneg _, by lia, Int.natCast_nonneg _, Int.ofNat_le.mpr hen, by lia⟩, br_dec (fun h => ?_) fun h => ?_⟩
    · rw [if_pos (show findIn w got s' en < 0 from h)] at he
      exact he ▸ hk
    · have h : ¬ findIn w got s' en < 0 := h
      rw [if_neg h] at he
      obtain ⟨j, hj, hle⟩ := findIn_le h
      rw [hj] at he
      have hw := hws w List.mem_cons_self
      refine ⟨⟨by lia⟩, hK _ ⟨fun w h => hws w (List.mem_cons_of_mem _ h), j + w.length, .val (.str w), hle, ?_, he⟩⟩
      rw [show findIn w got (s' : Int).toNat (en : Int).toNat = j from hj]; rfl
  · rintro ρ ⟨_, s', b, hs', rfl, he⟩
    rw [emF] at he
    exact (show K (.bool true) from he ▸ hk)
theorem wp_emG (en : Nat) (hen : en ≤ got.length) (ws : List (List Nat)) (st : Nat) (hwl : ws.length ≤ 100000 ∧ ∀ w ∈ ws, w.length ≤ 90000) (b : Slot) (hk : K (.bool (if en < st then false else emF got en ws st))) :
    wpSs C (b_ellipsis_match.drop 8) [.val want, .val (.str got), .own (ws.map V.str), .val (.int st), .val (.int en), b] (fun _ => False) K := by
  refine br_dec (fun h => ?_) fun h => ?_
  · rw [if_pos (Int.ofNat_lt.mp h)] at hk; exact hk
  · rw [if_neg fun q => h (Int.ofNat_lt.mpr q)] at hk
    exact wp_emF C got K hgl want en hen ws st (Nat.le_of_not_lt fun q => h (Int.ofNat_lt.mpr q)) hwl b hk
theorem wp_emE (ws : List (List Nat)) (hws : ws ≠ []) (st : Nat) (hwl : ws.length ≤ 100000 ∧ ∀ w ∈ ws, w.length ≤ 90000) (b : Slot) (hk : K (.bool (emE got ws st))) :
    wpSs C (b_ellipsis_match.drop 6) [.val want, .val (.str got), .own (ws.map V.str), .val (.int st), .val (.int got.length), b] (fun _ => False) K := by
  have h16 : strMax = 16000000 := rfl
  obtain ⟨p1, p2, hwm⟩ := getLast_neg hws
  have hwn := hwl.2 _ hwm
  have hl : Side ((ws.map V.str).length ≤ strMax) := ⟨by rw [List.length_map]; lia⟩
  rw [emE] at hk
  generalize ws.getLast?.getD [] = w at hk p2 hwn
  refine ⟨_, _, p1, p2, hl, ⟨by lia⟩, br_not (fun hw => ?_) fun hw => ?_⟩
  · have hne : w ≠ [] := fun q => by rw [q] at hw; cases hw
    rw [if_neg hne] at hk
    refine ⟨⟨rfl⟩, fun hs => ?_, fun hs => ?_⟩
    · rw [if_pos hs] at hk
      have hsl : w.length ≤ got.length := List.IsSuffix.length_le (List.isSuffixOf_iff_suffix.mp hs)
      refine ⟨⟨by lia⟩, _, p1, hl, ?_⟩
      have e1 : (ws.map V.str).eraseIdx (ws.length - 1) = ws.dropLast.map V.str := by
        rw [List.map_dropLast, ← List.eraseIdx_length_sub_one, List.length_map]
      have := wp_emG C got K hgl want (got.length - w.length) (Nat.sub_le ..) ws.dropLast st ⟨by rw [List.length_dropLast]; lia, fun w h => hwl.2 w ((List.dropLast_sublist ws).subset h)⟩ (.val (.str w)) hk
      rw [← e1, Int.ofNat_sub hsl] at this
      exact this
    · rw [if_neg (by rw [hs]; decide)] at hk
      exact hk
  · have hw0 : w = [] := List.isEmpty_iff.mp hw
    rw [if_pos hw0] at hk
    exact wp_emG C got K hgl want got.length (Nat.le_refl _) ws st hwl (.val (.str w)) hk
end
theorem eq_at {α : Type} {a v : α} {P : α → Prop} (h0 : a = v) (h : P v) : P a := h0 ▸ h
theorem wp_ellipsis (C : Cx) (want got : List Nat) (K : V → Prop) (hw : want.length ≤ 90000) (hgl : got.length ≤ 90000) (h0 : C.glob 0 = .str dots)
    (hk : K (.bool (ematch want got))) : wpSs C b_ellipsis_match [.val (.str want), .val (.str got), .unset, .unset, .unset, .unset] (fun _ => False) K := by
  have h16 : strMax = 16000000 := rfl
  rw [ematch] at hk
  refine eq_at (P := fun v => cNin v (.str want) fun u => wpTruth u fun t => Br t (wpSs C [sRet (xBin cEq (xVar 0) (xVar 1))] [.val (.str want), .val (.str got), .unset, .unset, .unset, .unset] (fun ρ => wpSs C (b_ellipsis_match.drop 1) ρ (fun _ => False) K) K)
    (wpSs C [] [.val (.str want), .val (.str got), .unset, .unset, .unset, .unset] (fun ρ => wpSs C (b_ellipsis_match.drop 1) ρ (fun _ => False) K) K)) h0 ?_
  refine br_not (fun hi => ?_) fun hi => ?_
  · rw [hi] at hk
    exact hk
  rw [if_pos hi] at hk
  have h2 : 2 ≤ (splitL want dots).length := splitGo_two dots (by decide) want [] hi
  have h3 : (splitL want dots).length ≤ want.length + 1 ∧ ∀ w ∈ splitL want dots, w.length ≤ 90000 := splitGo_mem dots 90000 want [] 0 (by rw [List.length_nil]; lia)
  refine ⟨⟨rfl⟩, eq_at (P := fun v => splitK (.str want) v fun xs => wpSs C (b_ellipsis_match.drop 2) [.val (.str want), .val (.str got), .own xs, .unset, .unset, .unset] (fun _ => False) K) h0 ⟨⟨by decide, by lia⟩, ?_⟩⟩
  generalize splitL want dots = ws at hk h2 h3
  have hl : Side ((ws.map V.str).length ≤ strMax) := ⟨by rw [List.length_map]; lia⟩
  refine ⟨hl, decide_eq_true (by rw [List.length_map]; lia), ⟨by lia⟩, rfl, ?_⟩
  match ws, h2, h3, hl, hk with
  | w :: r, h2, h3, hl, hk =>
    have hwn := h3.2 w List.mem_cons_self
    have hk : K (.bool (if w = [] then emE got (w :: r) 0 else if w.isPrefixOf got = true then emE got r w.length else false)) := hk
    refine ⟨0, .str w, place0 (by rw [List.length_map]; exact Nat.succ_pos _), rfl, hl, ⟨by lia⟩, br_not (fun hw0 => ?_) fun hw0 => ?_⟩
    · rw [if_neg fun q : w = [] => by rw [q] at hw0; cases hw0] at hk
      refine ⟨⟨rfl⟩, fun hs => ?_, fun hs => ?_⟩
      · rw [if_pos hs] at hk
        refine ⟨⟨by lia⟩, 0, place0 (by rw [List.length_map]; exact Nat.succ_pos _), hl, ?_⟩
        exact wp_emE C got K hgl _ r (fun q => by subst q; exact absurd h2 (Nat.not_succ_le_self 1)) w.length ⟨by have := h3.1; rw [List.length_cons] at this; lia, fun u hu => h3.2 u (List.mem_cons_of_mem _ hu)⟩ _ hk
      · rw [if_neg (by rw [hs]; decide)] at hk
        exact hk
    · have hw0 : w = [] := List.isEmpty_iff.mp hw0
      rw [if_pos hw0] at hk
      exact wp_emE C got K hgl _ (w :: r) (List.cons_ne_nil _ _) 0 ⟨by lia, h3.2⟩ _ hk
end Mine
namespace Mine
open PySem
theorem bitOr_nn {x y : Int} (hx : 0 ≤ x) (hy : 0 ≤ y) : Builtin.bitOr x y = ((x.toNat ||| y.toNat : Nat) : Int) := by
  have h1 : decide (0 ≤ Builtin.bitNot x) = false := by unfold Builtin.bitNot; simp; lia
  have h2 : decide (0 ≤ Builtin.bitNot y) = false := by unfold Builtin.bitNot; simp; lia
  unfold Builtin.bitOr Builtin.bitAnd
  rw [h1, h2]
  have e : ∀ z : Int, Builtin.bitNot (Builtin.bitNot z) = z := fun z => by unfold Builtin.bitNot; lia
  simp only [e]
theorem bitOr_add {r a : Int} {n : Nat} (hr : 0 ≤ r) (ha : 0 ≤ a) (h : a < 2 ^ n) : Builtin.bitOr (r * 2 ^ n) a = r * 2 ^ n + a := by
  obtain ⟨r, rfl⟩ := Int.eq_ofNat_of_zero_le hr
  obtain ⟨a, rfl⟩ := Int.eq_ofNat_of_zero_le ha
  have e : ((r : Int) * 2 ^ n) = ((r * 2 ^ n : Nat) : Int) := by simp [Int.natCast_mul, Int.natCast_pow]
  have h' : a < 2 ^ n := by
    have : ((a : Nat) : Int) < ((2 ^ n : Nat) : Int) := by rw [Int.natCast_pow]; exact h
    exact Int.ofNat_lt.mp this
  rw [bitOr_nn (by rw [e]; exact Int.natCast_nonneg _) (Int.natCast_nonneg _), e]
  simp only [Int.toNat_natCast]
  rw [← Int.natCast_add]
  congr 1
  rw [Nat.mul_comm, Nat.two_pow_add_eq_or_of_lt h']
theorem div_uniq {A b q r : Int} (h : A = q * b + r) (h0 : 0 ≤ r) (h1 : r < b) : q = A / b ∧ r = A % b := by
  have := (Int.ediv_emod_unique (a := A) (b := b) (r := r) (q := q) (by lia)).mpr ⟨by rw [h, Int.mul_comm]; lia, h0, h1⟩
  exact ⟨this.1.symm, this.2.symm⟩
theorem two_pos (n : Nat) : (0 : Int) < 2 ^ n := Int.pow_pos (by decide)
theorem bitAnd_split {x : Int} (hx : 0 ≤ x) (s : Nat) : Builtin.bitAnd x (x / 2 ^ s * 2 ^ s) = x / 2 ^ s * 2 ^ s := by
  obtain ⟨x, rfl⟩ := Int.eq_ofNat_of_zero_le hx
  have e : ((x : Int) / 2 ^ s * 2 ^ s) = ((x / 2 ^ s * 2 ^ s : Nat) : Int) := by simp
  rw [e]
  unfold Builtin.bitAnd
  have h1 : decide (0 ≤ (x : Int)) = true := by simp
  have h2 : decide (0 ≤ ((x / 2 ^ s * 2 ^ s : Nat) : Int)) = true := by rw [decide_eq_true_eq]; exact Int.natCast_nonneg _
  rw [h1, h2]
  simp only [Int.toNat_natCast]
  congr 1
  apply Nat.eq_of_testBit_eq
  intro i
  rw [Nat.testBit_and, Nat.mul_comm, Nat.testBit_two_pow_mul, Nat.testBit_div_two_pow]
  by_cases hi : s ≤ i
  · simp [hi]
  · simp [hi]
theorem bitXor_low {x : Int} (hx : 0 ≤ x) (s : Nat) : Builtin.bitXor x (x / 2 ^ s * 2 ^ s) = x % 2 ^ s := by
  rw [PyProof.Rows.bitXor_and, bitAnd_split hx]
  have := Int.emod_add_mul_ediv x (2 ^ s)
  rw [Int.mul_comm] at this
  lia
theorem bitLen_le {x : Int} (hx : 0 ≤ x) {m : Nat} : bitLen x ≤ m ↔ x < 2 ^ m := by
  obtain ⟨x, rfl⟩ := Int.eq_ofNat_of_zero_le hx
  have e : ((x : Int) < 2 ^ m) ↔ x < 2 ^ m := by
    have e2 : (2 : Int) ^ m = ((2 ^ m : Nat) : Int) := by simp
    rw [e2]; exact Int.ofNat_lt
  rw [e]
  unfold bitLen
  split
  · rename_i h
    have : x = 0 := by lia
    subst this
    simp [Nat.two_pow_pos]
  · rename_i h
    have hx0 : x ≠ 0 := by lia
    simp only [Int.natAbs_natCast]
    rw [← Nat.log2_lt hx0]
    lia
theorem natAbs_lt {x : Int} {m : Nat} (h0 : 0 ≤ x) (h : x < 2 ^ m) : x.natAbs < 2 ^ m := by
  obtain ⟨x, rfl⟩ := Int.eq_ofNat_of_zero_le h0
  have e : (2 : Int) ^ m = ((2 ^ m : Nat) : Int) := by simp
  rw [e] at h
  simpa using Int.ofNat_lt.mp h
theorem shlFit {x : Int} {n : Nat} {m : Nat} (h0 : 0 ≤ x) (h : x < 2 ^ m) (hs : m + n ≤ 134000000) : ShlFit x n := ⟨by lia, m, natAbs_lt h0 h, by lia⟩
theorem mulFit {x y : Int} {m n : Nat} (h0 : 0 ≤ x) (h : x < 2 ^ m) (h0' : 0 ≤ y) (h' : y < 2 ^ n) (hs : m + n ≤ 134000000) : MulFit x y := ⟨m, n, natAbs_lt h0 h, natAbs_lt h0' h', hs⟩
theorem noPy {a b : Int} {n : Nat} (ha : 0 ≤ a) (hb : 0 < b) (hbn : 2 ^ (n - 1) ≤ b) (hn : 0 < n) (h : bitLen a ≤ n + 4000) : Builtin.divisionGoesByPylong a b = false := by
  unfold Builtin.divisionGoesByPylong
  obtain ⟨b, rfl⟩ := Int.eq_ofNat_of_zero_le (Int.le_of_lt hb)
  have hb0 : b ≠ 0 := by lia
  have e : (2 : Int) ^ (n - 1) = ((2 ^ (n - 1) : Nat) : Int) := by simp
  rw [e] at hbn
  have hbn' : 2 ^ (n - 1) ≤ b := Int.ofNat_le.mp hbn
  have h1 : n - 1 ≤ b.log2 := (Nat.le_log2 hb0).mpr hbn'
  have h2 : ((b : Int) == 0) = false := by simp; lia
  simp only [h2, Int.natAbs_natCast]
  unfold bitLen at h
  by_cases ha0 : a = 0
  · subst ha0
    simp
  · rw [if_neg ha0] at h
    have h3 : (a == 0) = false := by simp [ha0]
    simp only [h3]
    simp only [Bool.false_eq_true, if_false, Bool.and_eq_false_iff, decide_eq_false_iff_not]
    lia
end Mine
namespace Mine
open PySem
structure Bits (b : Int) (n : Nat) : Prop where
  pos : 0 < n
  lo : 2 ^ (n - 1) ≤ b
  hi : b < 2 ^ n
theorem Bits.bpos {b : Int} {n : Nat} (h : Bits b n) : 0 < b := Int.lt_of_lt_of_le (two_pos _) h.lo
structure D2 (M : Nat) (a b : Int) (n : Nat) : Prop where
  bits : Bits b n
  le : n ≤ M
  a0 : 0 ≤ a
  lt : a < 2 ^ n * b
structure D3 (M : Nat) (a12 a3 b b1 b2 : Int) (n : Nat) : Prop where
  bits : Bits b1 n
  le : n ≤ M
  hb : b = b1 * 2 ^ n + b2
  b20 : 0 ≤ b2
  hb2 : b2 < 2 ^ n
  a0 : 0 ≤ a12
  lt : a12 < b
  a30 : 0 ≤ a3
  ha3 : a3 < 2 ^ n
noncomputable def C2 (M : Nat) (vs : List V) (K : V → Prop) : Prop := ∃ (a b : Int) (n : Nat), vs = [.int a, .int b, .int n] ∧ D2 M a b n ∧ K (.tup [.int (a / b), .int (a % b)])
noncomputable def C3 (M : Nat) (vs : List V) (K : V → Prop) : Prop := ∃ (a12 a3 b b1 b2 : Int) (n : Nat), vs = [.int a12, .int a3, .int b, .int b1, .int b2, .int n] ∧ D3 M a12 a3 b b1 b2 n ∧ K (.tup [.int ((a12 * 2 ^ n + a3) / b), .int ((a12 * 2 ^ n + a3) % b)])
inductive D3I (a12 a3 b b1 b2 : Int) (n : Nat) (A : Int) (m : Nat) (ρ : Rho) : Prop
  | mk (q r : Int) (hm : m = (-r).toNat) (hρ : ρ = [.val (.int a12), .val (.int a3), .val (.int b), .val (.int b1), .val (.int b2), .val (.int n), .val (.int q), .val (.int r)]) (he : A = q * b + r) (hr : r < b)
theorem wp_div3w (C : Cx) (a12 a3 b b1 b2 : Int) (n : Nat) (A : Int) (K : V → Prop) (hk : K (.tup [.int (A / b), .int (A % b)])) (q : Int) (h : A - q * b < b) (hb : 0 < b) :
    wpSs C (b_div3n2n.drop 2) [.val (.int a12), .val (.int a3), .val (.int b), .val (.int b1), .val (.int b2), .val (.int n), .val (.int q), .val (.int (A - q * b))] (fun _ => False) K := by
  refine ⟨(-(A - q * b)).toNat + 1, wpWhile_ind (D3I a12 a3 b b1 b2 n A) ?_ _ _ _ ⟨q, _, rfl, rfl, by lia, h⟩ (Nat.lt_succ_self _)⟩
  rintro m ρ ⟨q, r, rfl, rfl, he, hrb⟩
  refine ⟨decide (r < 0), fun K' hK' => hK', fun hf => ?_, fun ht K' hK' => ?_⟩
  · have z := div_uniq he (Int.not_lt.mp (of_decide_eq_false hf)) hrb
    rw [← z.1, ← z.2] at hk
    exact ⟨⟨(by decide : 2 ≤ 16000000)⟩, hk⟩
  · have hr0 : r < 0 := of_decide_eq_true ht
    exact hK' _ (-(r + b)).toNat (by lia) ⟨q - 1, r + b, rfl, rfl, by rw [he, Int.sub_mul]; lia, by lia⟩
theorem wp_div3r (C : Cx) (M : Nat) (hM : M ≤ 1000000) {a12 a3 b b1 b2 : Int} {n : Nat} {K : V → Prop} (h : D3 M a12 a3 b b1 b2 n) (hk : K (.tup [.int ((a12 * 2 ^ n + a3) / b), .int ((a12 * 2 ^ n + a3) % b)])) (hbp : 0 < b) (q r0 : Int) (hq0 : 0 ≤ q) (hq : q < 2 ^ n) (hr0 : 0 ≤ r0) (hr : r0 < 2 ^ (2 * n)) (e0 : r0 = a12 - q * b1) (hlt : a12 * 2 ^ n + a3 - q * b < b) :
    wpSs C (b_div3n2n.drop 1) [.val (.int a12), .val (.int a3), .val (.int b), .val (.int b1), .val (.int b2), .val (.int n), .val (.int q), .val (.int r0)] (fun _ => False) K := by
  have hle := h.le
  have w := wp_div3w C a12 a3 b b1 b2 n _ K hk q hlt hbp
  rw [show a12 * 2 ^ n + a3 - q * b = r0 * 2 ^ n + a3 - q * b2 by rw [e0, h.hb, Int.sub_mul, Int.mul_add, Int.mul_assoc]; lia, ← bitOr_add hr0 h.a30 h.ha3] at w
  exact ⟨⟨shlFit hr0 hr (by lia)⟩, ⟨mulFit hq0 hq h.b20 h.hb2 (by lia)⟩, w⟩
theorem wp_div3 (C : Cx) (M : Nat) (hM : M ≤ 1000000) (a12 a3 b b1 b2 : Int) (n : Nat) (K : V → Prop) (h : D3 M a12 a3 b b1 b2 n) (h1 : ∀ vs K', C2 M vs K' → C.call 1 vs K')
    (hk : K (.tup [.int ((a12 * 2 ^ n + a3) / b), .int ((a12 * 2 ^ n + a3) % b)])) :
    wpSs C b_div3n2n [.val (.int a12), .val (.int a3), .val (.int b), .val (.int b1), .val (.int b2), .val (.int n), .unset, .unset] (fun _ => False) K := by
  have hn := two_pos n
  have hb1 := h.bits.bpos
  have hle := h.le
  have hhi := h.bits.hi
  have hb2 := h.hb2
  have h20 := h.b20
  have h0 := h.a0
  have hl := h.lt
  have h3l := h.ha3
  have hbe := h.hb
  have hbb : b < 2 ^ (2 * n) := by
    have h2 : (b1 + 1) * 2 ^ n ≤ 2 ^ n * 2 ^ n := Int.mul_le_mul_of_nonneg_right hhi (Int.le_of_lt hn)
    rw [Nat.two_mul, Int.pow_add]
    rw [Int.add_mul, Int.one_mul] at h2
    lia
  have hbm : b1 ≤ b1 * 2 ^ n := by
    have : b1 * 1 ≤ b1 * 2 ^ n := Int.mul_le_mul_of_nonneg_left hn (Int.le_of_lt hb1)
    lia
  have fin := wp_div3r C M hM h hk (Int.lt_of_le_of_lt h0 hl)
  have hsh : a12.fdiv (2 ^ (n : Int).toNat) = a12 / 2 ^ n := Int.fdiv_eq_ediv_of_nonneg _ (Int.le_of_lt hn)
  refine ⟨⟨Int.natCast_nonneg n⟩, br_dec (fun hc => ?_) fun hc => ?_⟩
  · rw [hsh] at hc
    have hlo : b1 * 2 ^ n ≤ a12 := by rw [← hc]; exact Int.ediv_mul_le _ (Int.ne_of_gt hn)
    have e1 : a12 - b1 * 2 ^ n + b1 = a12 - (2 ^ n - 1) * b1 := by rw [Int.sub_mul, Int.one_mul, Int.mul_comm]; lia
    have h5 : (a12 + 1) * 2 ^ n ≤ b * 2 ^ n := Int.mul_le_mul_of_nonneg_right hl (Int.le_of_lt hn)
    rw [Int.add_mul, Int.one_mul] at h5
    have w := fin (2 ^ n - 1) (a12 - b1 * 2 ^ n + b1) (by lia) (by lia) (by lia) (by lia) e1 (by rw [Int.sub_mul, Int.one_mul, Int.mul_comm (2 ^ n) b]; lia)
    rw [show (2 : Int) ^ n - 1 = 1 * 2 ^ n - 1 by rw [Int.one_mul]] at w
    exact ⟨⟨shlFit (m := 1) (by decide) (by decide) (by lia)⟩, ⟨shlFit (Int.le_of_lt hb1) hhi (by lia)⟩, rfl, w⟩
  · rw [hsh] at hc
    have hlt : a12 < 2 ^ n * b1 := by
      have h5 : a12 / 2 ^ n < b1 + 1 := by
        rw [Int.ediv_lt_iff_lt_mul hn, Int.add_mul, Int.one_mul]
        lia
      rw [Int.mul_comm]
      exact (Int.ediv_lt_iff_lt_mul hn).mp (by lia)
    have hm0 := Int.emod_nonneg a12 (Int.ne_of_gt hb1)
    have hm1 := Int.emod_lt_of_pos a12 hb1
    have hd := Int.emod_add_mul_ediv a12 b1
    rw [Int.mul_comm] at hd
    have hq0 : 0 ≤ a12 / b1 := Int.ediv_nonneg h0 (Int.le_of_lt hb1)
    have h5 : (a12 % b1 + 1) * 2 ^ n ≤ b1 * 2 ^ n := Int.mul_le_mul_of_nonneg_right hm1 (Int.le_of_lt hn)
    rw [Int.add_mul, Int.one_mul] at h5
    have h6 : a12 * 2 ^ n = a12 % b1 * 2 ^ n + a12 / b1 * b1 * 2 ^ n := by rw [← Int.add_mul, hd]
    have h7 : a12 / b1 * b = a12 / b1 * b1 * 2 ^ n + a12 / b1 * b2 := by rw [hbe, Int.mul_add, Int.mul_assoc]
    have h8 : 0 ≤ a12 / b1 * b2 := Int.mul_nonneg hq0 h20
    exact h1 _ _ ⟨a12, b1, n, rfl, ⟨h.bits, hle, h0, hlt⟩, rfl, fin _ _ hq0 ((Int.ediv_lt_iff_lt_mul hb1).mpr hlt) hm0 (by lia) (by lia) (by lia)⟩
end Mine
namespace Mine
open PySem
theorem fdiv_pow {x : Int} (n : Nat) : x.fdiv (2 ^ n) = x / 2 ^ n := Int.fdiv_eq_ediv_of_nonneg _ (Int.le_of_lt (two_pos n))
theorem div_small {x H b : Int} (hH : 0 < H) (h : x < H * b) : x / H < b := (Int.ediv_lt_iff_lt_mul hH).mpr (by rw [Int.mul_comm]; exact h)
structure DM (x b q r : Int) : Prop where
  e : x = q * b + r
  r0 : 0 ≤ r
  r1 : r < b
  q : q = x / b
  r : r = x % b
theorem dm {x b : Int} (hb : 0 < b) : DM x b (x / b) (x % b) := ⟨by have := Int.emod_add_mul_ediv x b; rw [Int.mul_comm] at this; lia, Int.emod_nonneg x (Int.ne_of_gt hb), Int.emod_lt_of_pos x hb, rfl, rfl⟩
theorem step_lt {r x H b : Int} (hH : 0 < H) (r0 : 0 ≤ r) (r1 : r < b) (x0 : 0 ≤ x) (x1 : x < H) : 0 ≤ r * H + x ∧ r * H + x < H * b := by
  have h1 := Int.mul_nonneg r0 (Int.le_of_lt hH)
  have h5 : (r + 1) * H ≤ b * H := Int.mul_le_mul_of_nonneg_right r1 (Int.le_of_lt hH)
  rw [Int.add_mul, Int.one_mul, Int.mul_comm b] at h5
  lia
section
variable (C : Cx) (a b p : Int) (h : Nat) (K : V → Prop)
theorem wp_div2d (q1 q2 r : Int) (q10 : 0 ≤ q1) (q11 : q1 < 2 ^ h) (q20 : 0 ≤ q2) (q21 : q2 < 2 ^ h) (hh : h ≤ 1000000) (hp : p = 0 ∨ p = 1) (hk : K (.tup [.int (q1 * 2 ^ h + q2), .int (if p = 0 then r else r / 2)])) (N s6 s7 : Slot) :
    wpSs C (b_div2n1n.drop 8) [.val (.int a), .val (.int b), N, .val (.int p), .val (.int h), .val (.int (2 ^ h - 1)), s6, s7, .val (.int q1), .val (.int r), .val (.int q2)] (fun _ => False) K := by
  have fit := shlFit q10 q11 (show h + h ≤ 134000000 by lia)
  have e := bitOr_add q10 q20 q21
  rw [← e] at hk
  refine br_dec (fun hp1 => ?_) fun hp1 => ?_
  · rw [if_neg hp1, show r / 2 = r.fdiv (2 ^ (1 : Int).toNat) from (fdiv_pow 1).symm] at hk
    exact ⟨⟨by decide⟩, ⟨fit⟩, ⟨show 2 ≤ 16000000 by decide⟩, hk⟩
  · rw [if_pos (Decidable.not_not.mp hp1)] at hk
    exact ⟨⟨fit⟩, ⟨show 2 ≤ 16000000 by decide⟩, hk⟩
theorem wp_div2c (M : Nat) (hM : M ≤ 1000000) (hb : Bits b (2 * h)) (hh : h ≤ M) (h0 : 0 < h) (a0 : 0 ≤ a) (al : a < 2 ^ (2 * h) * b) (hp : p = 0 ∨ p = 1) (hrec : ∀ vs K', C3 M vs K' → C.call 2 vs K')
    (hk : K (.tup [.int (a / b), .int (if p = 0 then a % b else (a % b) / 2)])) (s8 s9 s10 : Slot) :
    wpSs C (b_div2n1n.drop 6) [.val (.int a), .val (.int b), .val (.int ((2 * h : Nat) : Int)), .val (.int p), .val (.int h), .val (.int (2 ^ h - 1)), .val (.int (b / 2 ^ h)), .val (.int (b % 2 ^ h)), s8, s9, s10] (fun _ => False) K := by
  have hH := two_pos h
  have hbp := hb.bpos
  have hN : (2 : Int) ^ (2 * h) = 2 ^ h * 2 ^ h := by rw [Nat.two_mul, Int.pow_add]
  have db := dm (x := b) hH
  have da := dm (x := a) hH
  have dA := dm (x := a / 2 ^ h) hH
  have eA : a / 2 ^ h / 2 ^ h = a / 2 ^ (2 * h) := by rw [hN, ← Int.ediv_ediv_of_nonneg (Int.le_of_lt hH)]
  have bits : Bits (b / 2 ^ h) h := by
    refine ⟨h0, (Int.le_ediv_iff_mul_le hH).mpr ?_, (Int.ediv_lt_iff_lt_mul hH).mpr (hN ▸ hb.hi)⟩
    rw [← Int.pow_add, show h - 1 + h = 2 * h - 1 by lia]; exact hb.lo
  have A0 : 0 ≤ a / 2 ^ h := Int.ediv_nonneg a0 (Int.le_of_lt hH)
  have Al : a / 2 ^ h < 2 ^ h * b := div_small hH (by rw [← Int.mul_assoc, ← hN]; exact al)
  have e1 : [V.int (a.fdiv (2 ^ (2 * h))), V.int (Builtin.bitAnd (a.fdiv (2 ^ h)) (2 ^ h - 1)), V.int b, V.int (b / 2 ^ h), V.int (b % 2 ^ h), V.int h] = [V.int (a / 2 ^ (2 * h)), V.int (a / 2 ^ h % 2 ^ h), V.int b, V.int (b / 2 ^ h), V.int (b % 2 ^ h), V.int h] := by
    rw [fdiv_pow, fdiv_pow, W.kbt_mask]
  refine ⟨⟨Int.natCast_nonneg _⟩, ⟨Int.natCast_nonneg _⟩, hrec _ _ ⟨a / 2 ^ (2 * h), a / 2 ^ h % 2 ^ h, b, b / 2 ^ h, b % 2 ^ h, h, e1, ⟨bits, hh, db.e, db.r0, db.r1, Int.ediv_nonneg a0 (Int.le_of_lt (two_pos _)), div_small (two_pos _) al, dA.r0, dA.r1⟩, rfl, ?_⟩⟩
  rw [← eA, ← dA.e]
  have dq := dm (x := a / 2 ^ h) hbp
  have q10 : 0 ≤ (a / 2 ^ h) / b := Int.ediv_nonneg A0 (Int.le_of_lt hbp)
  have q11 : (a / 2 ^ h) / b < 2 ^ h := (Int.ediv_lt_iff_lt_mul hbp).mpr Al
  generalize (a / 2 ^ h) / b = q1 at *
  generalize (a / 2 ^ h) % b = r at *
  have e2 : [V.int r, V.int (Builtin.bitAnd a (2 ^ h - 1)), V.int b, V.int (b / 2 ^ h), V.int (b % 2 ^ h), V.int h] = [V.int r, V.int (a % 2 ^ h), V.int b, V.int (b / 2 ^ h), V.int (b % 2 ^ h), V.int h] := by rw [W.kbt_mask]
  obtain ⟨z0, z1⟩ := step_lt hH dq.r0 dq.r1 da.r0 da.r1
  refine hrec _ _ ⟨r, a % 2 ^ h, b, b / 2 ^ h, b % 2 ^ h, h, e2, ⟨bits, hh, db.e, db.r0, db.r1, dq.r0, dq.r1, da.r0, da.r1⟩, rfl, ?_⟩
  have dZ := dm (x := r * 2 ^ h + a % 2 ^ h) hbp
  have q20 : 0 ≤ (r * 2 ^ h + a % 2 ^ h) / b := Int.ediv_nonneg z0 (Int.le_of_lt hbp)
  have q21 : (r * 2 ^ h + a % 2 ^ h) / b < 2 ^ h := (Int.ediv_lt_iff_lt_mul hbp).mpr z1
  generalize (r * 2 ^ h + a % 2 ^ h) / b = q2 at *
  generalize (r * 2 ^ h + a % 2 ^ h) % b = r2 at *
  have main : a = (q1 * 2 ^ h + q2) * b + r2 := by
    have h1 : (q1 * b + r) * 2 ^ h = q1 * 2 ^ h * b + r * 2 ^ h := by rw [Int.add_mul, Int.mul_assoc, Int.mul_comm b, ← Int.mul_assoc]
    rw [Int.add_mul, Int.add_assoc, ← dZ.e, ← Int.add_assoc, ← h1, ← dq.e]
    exact da.e
  have m := div_uniq main dZ.r0 dZ.r1
  rw [← m.1, ← m.2] at hk
  exact wp_div2d C a b p h K q1 q2 r2 q10 q11 q20 q21 (Nat.le_trans hh hM) hp hk _ _ _
theorem st_div2 {hh m : Int} (h0 : 0 ≤ hh) {s0 s2 s3 s6 s7 s8 s9 s10 : Slot} {K : V → Prop} (w : wpSs C (b_div2n1n.drop 6) [s0, .val (.int b), s2, s3, .val (.int hh), .val (.int m), .val (.int (b.fdiv (2 ^ hh.toNat))), .val (.int (Builtin.bitAnd b m)), s8, s9, s10] (fun _ => False) K) :
    wpSs C (b_div2n1n.drop 5) [s0, .val (.int b), s2, s3, .val (.int hh), .val (.int m), s6, s7, s8, s9, s10] (fun _ => False) K :=
  show Side (0 ≤ hh) ∧ 2 = 2 ∧ wpSs C (b_div2n1n.drop 6) [s0, .val (.int b), s2, s3, .val (.int hh), .val (.int m), .val (.int (b.fdiv (2 ^ hh.toNat))), .val (.int (Builtin.bitAnd b m)), s8, s9, s10] (fun _ => False) K from ⟨⟨h0⟩, rfl, w⟩
theorem wp_div2_rest (M : Nat) (hM : M ≤ 1000000) (hb : Bits b (2 * h)) (hh : h ≤ M) (h0 : 0 < h) (a0 : 0 ≤ a) (al : a < 2 ^ (2 * h) * b) (hp : p = 0 ∨ p = 1) (hrec : ∀ vs K', C3 M vs K' → C.call 2 vs K')
    (hk : K (.tup [.int (a / b), .int (if p = 0 then a % b else (a % b) / 2)])) (s4 s5 s6 s7 s8 s9 s10 : Slot) : wpSs C (b_div2n1n.drop 3) [.val (.int a), .val (.int b), .val (.int ((2 * h : Nat) : Int)), .val (.int p), s4, s5, s6, s7, s8, s9, s10] (fun _ => False) K := by
  have w := wp_div2c C a b p h K M hM hb hh h0 a0 al hp hrec hk s8 s9 s10
  have e1 : ((2 * h : Nat) : Int).fdiv (2 ^ (1 : Int).toNat) = h := by rw [show (1 : Int).toNat = 1 from rfl, fdiv_pow]; lia
  have e2 : (1 : Int) * 2 ^ (h : Int).toNat - 1 = 2 ^ h - 1 := by rw [Int.one_mul]; rfl
  rw [← fdiv_pow, ← W.kbt_mask] at w
  exact ⟨⟨by decide⟩, eq_at (P := fun v => wpSs C (b_div2n1n.drop 4) [.val (.int a), .val (.int b), .val (.int ((2 * h : Nat) : Int)), .val (.int p), .val (.int v), s5, s6, s7, s8, s9, s10] (fun _ => False) K) e1
    ⟨⟨shlFit (m := 1) (by decide) (by decide) (by lia)⟩, eq_at (P := fun v => wpSs C (b_div2n1n.drop 5) [.val (.int a), .val (.int b), .val (.int ((2 * h : Nat) : Int)), .val (.int p), .val (.int h), .val (.int v), s6, s7, s8, s9, s10] (fun _ => False) K) e2
      (st_div2 C b (Int.natCast_nonneg h) w)⟩⟩
end
theorem wp_div2 (C : Cx) (M : Nat) (hM : M ≤ 1000000) (a b : Int) (n : Nat) (K : V → Prop) (h : D2 M a b n) (hg : C.glob 1 = .int 4000) (hrec : 4000 < M → ∀ vs K', C3 ((M + 1) / 2) vs K' → C.call 2 vs K')
    (hk : K (.tup [.int (a / b), .int (a % b)])) : wpSs C b_div2n1n [.val (.int a), .val (.int b), .val (.int n), .unset, .unset, .unset, .unset, .unset, .unset, .unset, .unset] (fun _ => False) K := by
  have hb0 := h.bits.bpos
  have hle := h.le
  have hlt := h.lt
  have ha0 := h.a0
  have hlo := h.bits.lo
  have hhi := h.bits.hi
  have hps := h.bits.pos
  have al : a < 2 ^ (2 * n) := by
    rw [Nat.two_mul, Int.pow_add]
    exact Int.lt_of_lt_of_le hlt (Int.mul_le_mul_of_nonneg_left (Int.le_of_lt hhi) (Int.le_of_lt (two_pos n)))
  have hbl : bitLen a ≤ 2 * n := (bitLen_le ha0).mpr al
  have f1 : a.fdiv b = a / b := Int.fdiv_eq_ediv_of_nonneg _ (Int.le_of_lt hb0)
  have f2 : a.fmod b = a % b := Int.fmod_eq_emod_of_nonneg _ (Int.le_of_lt hb0)
  refine ⟨⟨rfl⟩, rfl, eq_at (P := fun v => cLe (.int (bitLen a - n)) v fun u => wpTruth u fun t => Br t (wpSs C [sRet (xBi biDivmod [xVar 0, xVar 1])] [.val (.int a), .val (.int b), .val (.int n), .unset, .unset, .unset, .unset, .unset, .unset, .unset, .unset] (fun ρ => wpSs C (b_div2n1n.drop 1) ρ (fun _ => False) K) K)
    (wpSs C [] [.val (.int a), .val (.int b), .val (.int n), .unset, .unset, .unset, .unset, .unset, .unset, .unset, .unset] (fun ρ => wpSs C (b_div2n1n.drop 1) ρ (fun _ => False) K) K)) hg (br_dec (fun hc => ?_) fun hc => ?_)⟩
  · rw [← f1, ← f2] at hk
    exact ⟨⟨by lia, noPy ha0 hb0 hlo hps (by lia)⟩, hk⟩
  · have hn4 : 4000 < n := by lia
    have hrec' := hrec (by lia)
    have st : ∀ v, (n : Int) % 2 = v → wpSs C (b_div2n1n.drop 2) [.val (.int a), .val (.int b), .val (.int n), .val (.int v), .unset, .unset, .unset, .unset, .unset, .unset, .unset] (fun _ => False) K → wpSs C (b_div2n1n.drop 1) [.val (.int a), .val (.int b), .val (.int n), .unset, .unset, .unset, .unset, .unset, .unset, .unset, .unset] (fun _ => False) K := fun v e w =>
      eq_at (P := fun v => wpSs C (b_div2n1n.drop 2) [.val (.int a), .val (.int b), .val (.int n), .val (.int v), .unset, .unset, .unset, .unset, .unset, .unset, .unset] (fun _ => False) K) ((PyProof.Rows.bitAnd_m1 n).trans e) w
    rcases Int.emod_two_eq n with hp | hp
    · have e2 : 2 * (n / 2) = n := by lia
      have w := wp_div2_rest C a b 0 (n / 2) K ((M + 1) / 2) (by lia) (e2.symm ▸ h.bits) (by lia) (by lia) ha0 (e2.symm ▸ hlt) (.inl rfl) hrec' (by rw [if_pos rfl]; exact hk) .unset .unset .unset .unset .unset .unset .unset
      rw [e2] at w
      exact st 0 hp (br_dec (fun q => absurd rfl q) fun _ => w)
    · have e1 : (n : Int) + 1 = ((2 * ((n + 1) / 2) : Nat) : Int) := by lia
      have e2 : 2 * ((n + 1) / 2) = n + 1 := by lia
      have hpow : (2 : Int) ^ (n + 1) = 2 ^ n * 2 := Int.pow_succ ..
      have w := wp_div2_rest C (a * 2) (b * 2) 1 ((n + 1) / 2) K ((M + 1) / 2) (by lia) ⟨by lia, by
        rw [e2, show n + 1 - 1 = (n - 1) + 1 by lia, Int.pow_succ]; lia, by rw [e2, hpow]; lia⟩ (by lia) (by lia) (by lia) (by
        rw [e2, hpow, show (2 : Int) ^ n * 2 * (b * 2) = 2 ^ n * b * 4 by rw [Int.mul_assoc, ← Int.mul_assoc 2 b 2, Int.mul_comm 2 b, Int.mul_assoc b, ← Int.mul_assoc]; rfl]
        lia) (.inr rfl) hrec' (by
        rw [if_neg (by decide), Int.mul_comm a, Int.mul_comm b, Int.mul_ediv_mul_of_pos _ _ (by decide), Int.mul_emod_mul_of_pos _ _ (by decide), Int.mul_ediv_cancel_left _ (by decide)]
        exact hk) .unset .unset .unset .unset .unset .unset .unset
      rw [← e1, show a * 2 = a * 2 ^ (1 : Int).toNat from rfl, show b * 2 = b * 2 ^ (1 : Int).toNat from rfl] at w
      exact st 1 hp (br_dec (fun _ => ⟨⟨by decide, 2 * n, natAbs_lt ha0 al, by lia⟩, ⟨by decide, n, natAbs_lt (Int.le_of_lt hb0) hhi, by lia⟩, w⟩) fun q => absurd (by decide) q)
end Mine
namespace Mine
open PySem
theorem de (x b : Int) : x = x / b * b + x % b := by have := Int.emod_add_mul_ediv x b; rw [Int.mul_comm] at this; lia
noncomputable def ofD (n : Nat) : List Int → Int
  | [] => 0
  | d :: r => d + 2 ^ n * ofD n r
noncomputable def FigsOk (n : Nat) (ds : List Int) : Prop := ∀ d ∈ ds, 0 ≤ d ∧ d < 2 ^ n
structure IsD (n : Nat) (a : Int) (ds : List Int) : Prop where
  figs : FigsOk n ds
  val : ofD n ds = a
  top : ds.getLast? ≠ some 0
noncomputable def I2D (vs : List V) (K : V → Prop) : Prop := ∃ (a : Int) (n : Nat), vs = [.int a, .int n] ∧ 0 ≤ a ∧ bitLen a ≤ 1000000 ∧ 0 < n ∧ n ≤ 1000000 ∧ ∀ ds, IsD n a ds → ds.length ≤ 1000001 → K (.list (ds.map V.int))
noncomputable def D2I (vs : List V) (K : V → Prop) : Prop := ∃ (ds : List Int) (n : Nat), vs = [.list (ds.map V.int), .int n] ∧ FigsOk n ds ∧ ds.length ≤ 1000001 ∧ n ≤ 1000000 ∧ n * ds.length ≤ 4000000 ∧ K (.int (ofD n ds))
structure DP (M : Nat) (a b : Int) : Prop where
  a0 : 0 ≤ a
  b0 : 0 < b
  al : bitLen a ≤ 1000000
  bl : bitLen b ≤ M
theorem bits_of {b : Int} (h : 0 < b) : Bits b (bitLen b) := by
  have h1 : bitLen b ≤ bitLen b := Nat.le_refl _
  rw [bitLen_le (Int.le_of_lt h)] at h1
  have h2 : 0 < bitLen b := by
    cases q : bitLen b with
    | zero => rw [q] at h1; simp at h1; lia
    | succ n => lia
  refine ⟨h2, ?_, h1⟩
  apply Decidable.byContradiction
  intro hc
  have : bitLen b ≤ bitLen b - 1 := (bitLen_le (Int.le_of_lt h)).mpr (by lia)
  lia
theorem ofD_len {n : Nat} {a : Int} {ds : List Int} (h : IsD n a ds) (hn : 0 < n) {B : Nat} (hB : bitLen a ≤ B) : n * ds.length ≤ B + n := by
  have key : ∀ ds : List Int, FigsOk n ds → ds.getLast? ≠ some 0 → ds ≠ [] → 2 ^ (n * (ds.length - 1)) ≤ ofD n ds := by
    intro ds
    induction ds with
    | nil => intro _ _ h; exact absurd rfl h
    | cons d r ih =>
      intro hf ht _
      have hd := hf d (by simp)
      cases r with
      | nil =>
        have : d ≠ 0 := fun q => ht (by rw [q]; rfl)
        simp [ofD]; lia
      | cons e r =>
        have := ih (fun x hx => hf x (by simp [hx])) (by rw [List.getLast?_cons_cons] at ht; exact ht) (by simp)
        show _ ≤ d + 2 ^ n * ofD n (e :: r)
        have h2 : (2 : Int) ^ n * 2 ^ (n * ((e :: r).length - 1)) ≤ 2 ^ n * ofD n (e :: r) := Int.mul_le_mul_of_nonneg_left this (Int.le_of_lt (two_pos n))
        rw [← Int.pow_add] at h2
        have e1 : n + n * ((e :: r).length - 1) = n * ((d :: e :: r).length - 1) := by
          simp only [List.length_cons, Nat.add_sub_cancel, Nat.mul_succ]; lia
        rw [e1] at h2
        lia
  cases ds with
  | nil => simp
  | cons d r =>
    have h1 := key _ h.figs h.top (by simp)
    rw [h.val] at h1
    have ha : 0 ≤ a := Int.le_trans (Int.le_of_lt (two_pos _)) h1
    have h2 := (bitLen_le ha).mp hB
    have h3 : (2 : Int) ^ (n * ((d :: r).length - 1)) < 2 ^ B := Int.lt_of_le_of_lt h1 h2
    have h4 : n * ((d :: r).length - 1) < B := by
      have h5 : ((2 ^ (n * ((d :: r).length - 1)) : Nat) : Int) < ((2 ^ B : Nat) : Int) := by simpa using h3
      have h6 : 2 ^ (n * ((d :: r).length - 1)) < 2 ^ B := Int.ofNat_lt.mp h5
      exact (Nat.pow_lt_pow_iff_right (by lia)).mp h6
    simp only [List.length_cons, Nat.add_sub_cancel, Nat.mul_succ] at h4 ⊢
    lia
noncomputable def bigV (X : Int) (l : List Int) : Int := l.foldl (fun a d => a * X + d) 0
theorem bigV_snoc (X d : Int) (l : List Int) : bigV X (l ++ [d]) = bigV X l * X + d := by simp [bigV, List.foldl_append]
theorem bigV_rev (n : Nat) : ∀ ds : List Int, bigV (2 ^ n) ds.reverse = ofD n ds
  | [] => rfl
  | d :: r => by
    rw [List.reverse_cons, bigV_snoc, bigV_rev n r]
    show _ = d + 2 ^ n * ofD n r
    rw [Int.mul_comm]; lia
inductive DvI (a b : Int) (n : Nat) (ds : List Int) (todo : List Int) (ρ : Rho) : Prop
  | mk (done Q : List Int) (r : Int) (s6 s7 : Slot) (hd : ds.reverse = done ++ todo) (hl : Q.length = done.length) (hQ : FigsOk n Q) (r0 : 0 ≤ r) (r1 : r < b) (hv : bigV (2 ^ n) done = bigV (2 ^ n) Q * b + r)
    (hρ : ρ = [.val (.int a), .val (.int b), .val (.int n), .val (.list (ds.map V.int)), .val (.int r), .own (Q.map V.int), s6, s7, .unset])
theorem wp_divposE (C : Cx) (a b : Int) (n : Nat) (K : V → Prop) (ds : List Int) (hn : n ≤ 1000000) (hds : IsD n a ds) (hlen : ds.length ≤ 1000001) (hnl : n * ds.length ≤ 1000000 + n) (h4 : ∀ vs K', D2I vs K' → C.call 4 vs K')
    (hk : K (.tup [.int (a / b), .int (a % b)])) (ρ : Rho) (h : DvI a b n ds [] ρ) : wpSs C (b_divmod_pos.drop 5) ρ (fun _ => False) K := by
  have h16 : strMax = 16000000 := rfl
  obtain ⟨done, Q, r, s6, s7, hd, hl, hQ, r0, r1, hv, rfl⟩ := h
  rw [List.append_nil] at hd
  have hQ2 : Q.length = ds.length := by rw [hl, ← hd, List.length_reverse]
  rw [← hd, bigV_rev, hds.val] at hv
  have z := div_uniq hv r0 r1
  rw [← z.1, ← z.2, show bigV (2 ^ n) Q = ofD n Q.reverse by rw [← bigV_rev, List.reverse_reverse]] at hk
  exact ⟨⟨by rw [List.length_map]; lia⟩, h4 _ _ ⟨Q.reverse, n, by rw [List.map_reverse], fun d hd => hQ d (List.mem_reverse.mp hd), by rw [List.length_reverse, hQ2]; exact hlen, hn, by rw [List.length_reverse, hQ2]; lia, ⟨show 2 ≤ 16000000 by decide⟩, hk⟩⟩
theorem wp_divposB (C : Cx) (M : Nat) (hM : M ≤ 1000000) (a b : Int) (n : Nat) (hb : Bits b n) (hbl : n ≤ M) (KR : V → Prop) (ds : List Int) (hds : FigsOk n ds) (hlen : ds.length ≤ 1000001) (h1 : ∀ vs K', C2 M vs K' → C.call 1 vs K') (d : Int) (todo : List Int) (ρ : Rho) (h : DvI a b n ds (d :: todo) ρ) (K' : Rho → Prop) (hK : ∀ ρ', DvI a b n ds todo ρ' → K' ρ') :
    forB C (.one 6) [sAssignT [7, 4] (xCall 1 [xBin bAdd (xBin bShl (xVar 4) (xVar 2)) (xVar 6), xVar 1, xVar 2]), sAppend 5 (xVar 7)] KR (.int d) ρ K' := by
  have h16 : strMax = 16000000 := rfl
  obtain ⟨done, Q, r, s6, s7, hd, hl, hQ, r0, r1, hv, rfl⟩ := h
  have hdd := hds d (by rw [← List.mem_reverse, hd]; exact List.mem_append_right _ List.mem_cons_self)
  have hl2 : done.length < ds.length := by
    have := congrArg List.length hd
    rw [List.length_reverse, List.length_append, List.length_cons] at this; lia
  have hb0 := hb.bpos
  obtain ⟨z0, z1⟩ := step_lt (two_pos n) r0 r1 hdd.1 hdd.2
  have m := dm (x := r * 2 ^ n + d) hb0
  have q0 : 0 ≤ (r * 2 ^ n + d) / b := Int.ediv_nonneg z0 (Int.le_of_lt hb0)
  have q1 : (r * 2 ^ n + d) / b < 2 ^ n := (Int.ediv_lt_iff_lt_mul hb0).mpr z1
  refine ⟨⟨shlFit r0 (Int.lt_trans r1 hb.hi) (by lia)⟩, h1 _ _ ⟨r * 2 ^ n + d, b, n, rfl, ⟨hb, hbl, z0, z1⟩, rfl, ⟨by rw [List.length_map]; lia⟩, hK _ ⟨done ++ [d], Q ++ [(r * 2 ^ n + d) / b], (r * 2 ^ n + d) % b, .val (.int d), .val (.int ((r * 2 ^ n + d) / b)), by rw [hd, List.append_assoc]; rfl,
    by rw [List.length_append, List.length_append, hl]; rfl, fun e he => (List.mem_append.mp he).elim (hQ e) fun he => by rw [List.mem_singleton.mp he]; exact ⟨q0, q1⟩, m.r0, m.r1, ?_, by rw [List.map_append]; rfl⟩⟩⟩
  rw [bigV_snoc, bigV_snoc, hv, Int.add_mul, Int.add_mul, Int.add_assoc, Int.add_assoc, ← m.e, Int.mul_assoc, Int.mul_comm b, ← Int.mul_assoc]
theorem wp_divpos (C : Cx) (M : Nat) (hM : M ≤ 1000000) (a b : Int) (K : V → Prop) (h : DP M a b) (h3 : ∀ vs K', I2D vs K' → C.call 3 vs K') (h4 : ∀ vs K', D2I vs K' → C.call 4 vs K') (h1 : ∀ vs K', C2 M vs K' → C.call 1 vs K')
    (hk : K (.tup [.int (a / b), .int (a % b)])) : wpSs C b_divmod_pos [.val (.int a), .val (.int b), .unset, .unset, .unset, .unset, .unset, .unset, .unset] (fun _ => False) K := by
  have h16 : strMax = 16000000 := rfl
  have hb := bits_of h.b0
  have hbl := h.bl
  refine ⟨⟨rfl⟩, rfl, h3 _ _ ⟨a, bitLen b, rfl, h.a0, h.al, hb.pos, Nat.le_trans hbl hM, fun ds hds hlen => ?_⟩⟩
  have hnl := ofD_len hds hb.pos h.al
  refine ⟨⟨Nat.zero_le _⟩, ⟨by rw [List.length_map]; lia⟩, ?_⟩
  rw [← List.map_reverse]
  exact wpFor_map V.int (DvI a b (bitLen b) ds) (fun d todo ρ hi K' hK => wp_divposB C M hM a b _ hb hbl K ds hds.figs hlen h1 d todo ρ hi K' hK) (fun ρ hi => wp_divposE C a b _ K ds (Nat.le_trans hbl hM) hds hlen hnl h4 hk ρ hi) _ _
    ⟨[], [], 0, .unset, .unset, rfl, rfl, fun _ h => (nomatch h), Int.le_refl 0, h.b0, by rw [show bigV (2 ^ bitLen b) [] = 0 from rfl]; lia, rfl⟩
end Mine
namespace Mine
open PySem
theorem wp_intdiv (C : Cx) (a b : Int) (K : V → Prop) (hb : b ≠ 0) (h5 : 0 ≤ a → 0 < b → ∀ K', K' (.tup [.int (a / b), .int (a % b)]) → C.call 5 [.int a, .int b] K')
    (h6b : b < 0 → ∀ K', K' (.tup [.int ((-a).fdiv (-b)), .int ((-a).fmod (-b))]) → C.call 6 [.int (-a), .int (-b)] K')
    (h6a : 0 < b → a < 0 → ∀ K', K' (.tup [.int ((-a - 1).fdiv b), .int ((-a - 1).fmod b)]) → C.call 6 [.int (-a - 1), .int b] K')
    (hk : K (.tup [.int (a.fdiv b), .int (a.fmod b)])) : wpSs C b_int_divmod [.val (.int a), .val (.int b), .unset, .unset] (fun _ => False) K := by
  have le : Side (2 ≤ strMax) := ⟨show 2 ≤ 16000000 by decide⟩
  refine br_dec (fun h => absurd h hb) fun _ => br_dec (fun hb1 => ?_) fun hb1 => ?_
  · have e : a.fmod b = -(-a).fmod (-b) := by rw [Int.fmod_def, Int.fmod_def, Int.neg_fdiv_neg, Int.neg_mul]; omega
    rw [e, ← Int.neg_fdiv_neg] at hk
    exact h6b hb1 _ ⟨rfl, le, hk⟩
  · have hb0 : 0 < b := by have : ¬ b < 0 := hb1; omega
    have e0 : ∀ x : Int, x.fdiv b = x / b := fun x => Int.fdiv_eq_ediv_of_nonneg _ (Int.le_of_lt hb0)
    have e1 : ∀ x : Int, x.fmod b = x % b := fun x => Int.fmod_eq_emod_of_nonneg _ (Int.le_of_lt hb0)
    rw [e0, e1] at hk
    refine br_dec (fun ha => ?_) fun ha => ?_
    · have m := dm (x := -a - 1) hb0
      have z := div_uniq (show a = (-((-a - 1) / b) - 1) * b + (b + (-((-a - 1) % b) - 1)) by rw [Int.sub_mul, Int.neg_mul]; have := m.e; omega) (by have := m.r1; omega) (by have := m.r0; omega)
      rw [← z.1, ← z.2, ← e0, ← e1] at hk
      exact h6a hb0 ha _ ⟨rfl, le, hk⟩
    · exact h5 (Int.not_lt.mp ha) hb0 _ hk
end Mine
namespace Mine
open PySem
noncomputable def chk (s : List Nat) : Bool := chkG 0 (escG 0 (strip s))
noncomputable def ChkP (vs : List V) (K : V → Prop) : Prop := ∃ s, vs = [.str s] ∧ s.length ≤ 1000 ∧ K (.bool (chk s))
theorem infixB_one (c : Nat) : ∀ s : List Nat, infixB [c] s = decide (c ∈ s)
  | [] => rfl
  | d :: r => by
    show (List.isPrefixOf [c] (d :: r) || infixB [c] r) = _
    rw [infixB_one c r, Bool.eq_iff_iff, Bool.or_eq_true, decide_eq_true_eq, decide_eq_true_eq, List.mem_cons, List.isPrefixOf_cons_cons, Bool.and_eq_true, beq_iff_eq]
    exact or_congr_left (and_iff_left rfl)
theorem rep_len (x : Nat) (n : Int) : (rep [x] n).length = n.toNat := by
  unfold rep
  rw [List.length_flatten, List.map_replicate, List.sum_replicate_nat]
  exact Nat.mul_one _
theorem clamp_nat (k n : Nat) : clampI (k : Int) n = min k n := if_pos (Int.natCast_nonneg k)
theorem sliceTo {α : Type} (xs : List α) (k : Nat) : sliceL xs none (some (k : Int)) = xs.take k := by
  show (xs.take (clampI (k : Int) xs.length)).drop 0 = _
  rw [clamp_nat, List.drop_zero]
  by_cases h : k ≤ xs.length
  · rw [Nat.min_eq_left h]
  · have h := Nat.le_of_not_le h
    rw [Nat.min_eq_right h, List.take_length, List.take_of_length_le h]
theorem sliceFrom {α : Type} (xs : List α) (k : Nat) : sliceL xs (some (k : Int)) none = xs.drop k := by
  show (xs.take xs.length).drop (clampI (k : Int) xs.length) = _
  rw [clamp_nat, List.take_length]
  by_cases h : k ≤ xs.length
  · rw [Nat.min_eq_left h]
  · have h := Nat.le_of_not_le h
    rw [Nat.min_eq_right h, List.drop_length, List.drop_of_length_le h]
noncomputable def iv (k : Nat) : V := .int k
theorem rangeUp (n : Nat) : (rangeL 0 (n : Int) 1).map V.int = (List.range n).map iv := by
  unfold rangeL
  rw [if_pos rfl, Int.sub_zero, Int.toNat_natCast, List.map_map]
  exact List.map_congr_left fun k _ => congrArg V.int (Int.zero_add _)
theorem wpItems_map {α : Type} {f : V → (List V → Prop) → Prop} (i h : α → V) : ∀ (xs : List α) (K : List V → Prop), (∀ a ∈ xs, ∀ K' : List V → Prop, K' [h a] → f (i a) K') → K (xs.map h) → wpItems f (xs.map i) K
  | [], K, _, hk => hk
  | a :: r, K, hf, hk => hf a List.mem_cons_self _ (wpItems_map i h r _ (fun b hb => hf b (List.mem_cons_of_mem _ hb)) hk)
noncomputable def sg (ss : List Nat) (p : Nat) : Nat := ss.getD p 0
theorem sg_get {ss : List Nat} {p : Nat} (h : p < ss.length) : ss[p]? = some (sg ss p) := by
  unfold sg; rw [List.getD_eq_getElem?_getD, List.getElem?_eq_getElem h]; rfl
theorem place_nat {p n : Nat} (h : p < n) : place (p : Int) n = some p := by
  unfold place
  rw [if_pos (Int.natCast_nonneg p), if_pos (Int.ofNat_lt.mpr h)]; rfl
theorem getD_mem {fam : List (List Nat)} {k : Nat} (hk : k < fam.length) : fam[k]? = some (fam.getD k []) ∧ fam.getD k [] ∈ fam := by
  have e : fam[k]? = some (fam.getD k []) := by rw [List.getD_eq_getElem?_getD, List.getElem?_eq_getElem hk]; rfl
  exact ⟨e, List.mem_of_getElem? e⟩
theorem wpItems_flat {α β : Type} {f : V → (List V → Prop) → Prop} (i : α → V) (g : α → List β) (h : β → V) : ∀ (xs : List α) (K : List V → Prop), (∀ a ∈ xs, ∀ K' : List V → Prop, K' ((g a).map h) → f (i a) K') → K ((xs.flatMap g).map h) → wpItems f (xs.map i) K
  | [], K, _, hk => hk
  | a :: r, K, hf, hk => hf a List.mem_cons_self _ (wpItems_flat i g h r _ (fun b hb => hf b (List.mem_cons_of_mem _ hb)) (by rw [List.flatMap_cons, List.map_append] at hk; exact hk))
theorem filter_flat (p : List Nat → Bool) : ∀ rows : List (List Nat), (rows.flatMap fun row => if p row = true then [row] else []) = rows.filter p
  | [] => rfl
  | row :: r => by
    rw [List.flatMap_cons, filter_flat p r, List.filter_cons]
    split <;> rfl
theorem lay_nil : (V.list []).lay = true := rfl
noncomputable def EmP (vs : List V) (K : V → Prop) : Prop := ∃ w g, vs = [.str w, .str g] ∧ w.length ≤ 90000 ∧ g.length ≤ 90000 ∧ K (.bool (ematch w g))
theorem two_nat (n : Nat) : ((2 : Int) ^ n).natAbs < 2 ^ (n + 1) := by
  rw [Int.natAbs_pow]
  exact Nat.pow_lt_pow_right (by decide) (Nat.lt_succ_self n)
theorem small_fit {x y : Int} (h1 : x.natAbs < 2 ^ 40) (h2 : y.natAbs < 2 ^ 40) : MulFit x y := ⟨40, 40, h1, h2, by decide⟩
theorem sf (n : Nat) (h : n ≤ 16000000) : Side (n ≤ strMax) := ⟨h⟩
theorem la {α : Type} {x y : List α} {m n : Nat} (hx : x.length ≤ m) (hy : y.length ≤ n) : (x ++ y).length ≤ m + n := by rw [List.length_append]; exact Nat.add_le_add hx hy
theorem ap {α : Type} {x y : List α} {m n : Nat} (hx : x.length ≤ m) (hy : y.length ≤ n) (h : m + n ≤ 1000 := by decide) : Side (x.length + y.length ≤ strMax) := ⟨Nat.le_trans (Nat.add_le_add hx hy) (Nat.le_trans h (show 1000 ≤ 16000000 by decide))⟩
theorem len_side {n m : Nat} (h : n ≤ m) (hm : m ≤ 1000 := by decide) : Side (n ≤ strMax) := ⟨Nat.le_trans h (Nat.le_trans hm (show 1000 ≤ 16000000 by decide))⟩
theorem len_side4 {n m : Nat} (h : n ≤ m) (hm : m ≤ 1000 := by decide) : Side (n ≤ 4000) := ⟨Nat.le_trans h (Nat.le_trans hm (show 1000 ≤ 4000 by decide))⟩
theorem ml {α β : Type} {f : α → β} {xs : List α} {m : Nat} (h : xs.length ≤ m) : (xs.map f).length ≤ m := by rw [List.length_map]; exact h
theorem isBo_self (b : Bool) : (V.bool b).isBo b = true := by cases b <;> rfl
theorem mod_nat (x : Int) (n : Nat) (hn : 0 < n) : ∃ k : Nat, k < n ∧ x.fmod (n : Int) = (k : Int) := by
  have h1 : 0 ≤ x.fmod n := Int.fmod_nonneg_of_pos x (Int.natCast_pos.mpr hn)
  have h2 : x.fmod n < n := Int.fmod_lt_of_pos x (Int.natCast_pos.mpr hn)
  obtain ⟨k, hk⟩ := Int.eq_ofNat_of_zero_le h1
  rw [hk] at h2 ⊢
  exact ⟨k, Int.ofNat_lt.mp h2, rfl⟩
theorem noPy2 (x : Int) : Builtin.divisionGoesByPylong x 2 = false := rfl
theorem noPy3 (x : Int) : Builtin.divisionGoesByPylong x 3 = false := rfl
theorem isD_nil {n : Nat} {ds : List Int} (hf : FigsOk n ds) (ht : ds.getLast? ≠ some 0) (h : ofD n ds = 0) : ds = [] := by
  induction ds with
  | nil => rfl
  | cons d r ih =>
    exfalso
    have hd := hf d (by simp)
    have hfr : FigsOk n r := fun x hx => hf x (by simp [hx])
    rw [ofD] at h
    have hp : (0 : Int) < 2 ^ n := Int.pow_pos (by decide)
    have hr0 : ∀ r : List Int, FigsOk n r → 0 ≤ ofD n r := by
      intro r
      induction r with
      | nil => intro _; simp [ofD]
      | cons e r ih' =>
        intro h
        have h1 := ih' fun x hx => h x (by simp [hx])
        have h2 := h e (by simp)
        rw [ofD]
        have := Int.mul_nonneg (Int.le_of_lt hp) h1
        lia
    have h1 := hr0 r hfr
    have h2 := Int.mul_nonneg (Int.le_of_lt hp) h1
    have hd0 : d = 0 := by lia
    have hz : 2 ^ n * ofD n r = 0 := by lia
    have hr : ofD n r = 0 := by
      rcases Int.mul_eq_zero.mp hz with h | h
      · lia
      · exact h
    cases r with
    | nil => exact ht (by rw [hd0]; rfl)
    | cons e r =>
      have := ih hfr (by simpa using ht) hr
      cases this
theorem isD_uniq {n : Nat} : ∀ {ds es : List Int}, FigsOk n ds → FigsOk n es → ds.getLast? ≠ some 0 → es.getLast? ≠ some 0 → ofD n ds = ofD n es → ds = es
  | [], es, _, h2, _, t2, h => (isD_nil h2 t2 (by rw [← h]; rfl)).symm
  | d :: ds, [], h1, _, t1, _, h => isD_nil h1 t1 (by rw [h]; rfl)
  | d :: ds, e :: es, h1, h2, t1, t2, h => by
    have hp : (0 : Int) < 2 ^ n := Int.pow_pos (by decide)
    have hd := h1 d (by simp)
    have he := h2 e (by simp)
    rw [ofD, ofD] at h
    have ea : (d + 2 ^ n * ofD n ds) % 2 ^ n = d := by rw [Int.add_mul_emod_self_left]; exact Int.emod_eq_of_lt hd.1 hd.2
    have eb : (e + 2 ^ n * ofD n es) % 2 ^ n = e := by rw [Int.add_mul_emod_self_left]; exact Int.emod_eq_of_lt he.1 he.2
    have hde : d = e := by rw [← ea, ← eb, h]
    subst hde
    have hr : ofD n ds = ofD n es := Int.eq_of_mul_eq_mul_left (Int.ne_of_gt hp) (by lia)
    have f1 : FigsOk n ds := fun x hx => h1 x (by simp [hx])
    have f2 : FigsOk n es := fun x hx => h2 x (by simp [hx])
    have u1 : ds.getLast? ≠ some 0 := by
      cases ds with
      | nil => simp
      | cons x r => simpa using t1
    have u2 : es.getLast? ≠ some 0 := by
      cases es with
      | nil => simp
      | cons x r => simpa using t2
    rw [isD_uniq f1 f2 u1 u2 hr]
theorem pys_ints : ∀ xs : List Int, V.pys (xs.map V.int) = xs.map PyData.int
  | [] => by rw [List.map_nil, V.pys]; rfl
  | x :: r => by rw [List.map_cons, V.pys, pys_ints r, V.py]; rfl
theorem eqvAll_ints : ∀ xs ys : List Int, PyData.eqvAll (xs.map PyData.int) (ys.map PyData.int) = decide (xs = ys)
  | [], [] => rfl
  | [], _ :: _ => rfl
  | _ :: _, [] => rfl
  | a :: r, b :: t => by
    simp only [List.map_cons, PyData.eqvAll, PyData.eqv, eqvAll_ints r t]
    by_cases h : a = b <;> by_cases h' : r = t <;> simp [h, h']
theorem eqv_intL (xs ys : List Int) : PyData.eqv (V.list (xs.map V.int)).py (V.list (ys.map V.int)).py = decide (xs = ys) := by
  rw [V.py, V.py, pys_ints, pys_ints, PyData.eqv, eqvAll_ints]
theorem eqv_intT (xs ys : List Int) : PyData.eqv (V.tup (xs.map V.int)).py (V.tup (ys.map V.int)).py = decide (xs = ys) := by
  rw [V.py, V.py, pys_ints, pys_ints, PyData.eqv, eqvAll_ints]
theorem layA_ints : ∀ ns : List Int, PyData.canLayAll0 (ns.map PyData.int) = true
  | [] => rfl
  | _ :: r => by simp [PyData.canLayAll0, PyData.canLay0, layA_ints r]
theorem depthA_ints : ∀ ns : List Int, PyData.depthAll (ns.map PyData.int) = 0
  | [] => rfl
  | _ :: r => by simp [PyData.depthAll, PyData.depth, depthA_ints r]
theorem lay_intL (xs : List Int) : (V.list (xs.map V.int)).lay = true := by
  unfold V.lay
  rw [V.py, pys_ints]
  simp [PyData.canLay0, PyData.depth, layA_ints, depthA_ints]
theorem lay_intT (xs : List Int) : (V.tup (xs.map V.int)).lay = true := by
  unfold V.lay
  rw [V.py, pys_ints]
  simp [PyData.canLay0, PyData.depth, layA_ints, depthA_ints]
noncomputable def DivP (vs : List V) (K : V → Prop) : Prop := ∃ a b : Int, vs = [.int a, .int b] ∧ b ≠ 0 ∧ a.natAbs < 2 ^ 900000 ∧ b.natAbs < 2 ^ 15000 ∧ K (.tup [.int (a.fdiv b), .int (a.fmod b)])
theorem bitLen_abs (x : Int) (n : Nat) : bitLen x ≤ n ↔ x.natAbs < 2 ^ n := by
  unfold bitLen
  split
  · rename_i h; subst h
    constructor
    · intro _; exact Nat.two_pow_pos n
    · intro _; lia
  · rename_i h
    have h0 : x.natAbs ≠ 0 := by lia
    constructor
    · intro q
      exact (Nat.log2_lt h0).mp (by lia)
    · intro q
      have := (Nat.log2_lt h0).mpr q
      lia
theorem pow_abs {x : Int} {n m : Nat} (h : x.natAbs < 2 ^ n) (hn : n ≤ m) : x.natAbs < 2 ^ m := Nat.lt_of_lt_of_le h (Nat.pow_le_pow_right (by decide) hn)
end Mine
namespace Mine
open PySem
structure Stp where
  bs : List (List Nat)
  gp : Nat
  kd : Nat
  sn : List Nat
noncomputable def midB (l s r : List Nat) (k : Nat) : List (List Nat) := match k with
  | 0 => [l, s, r]
  | 1 => [l ++ s ++ r]
  | 2 => [l ++ s, r]
  | _ => [l, s ++ r]
noncomputable def putB (bs : List (List Nat)) (g k : Nat) (s : List Nat) : List (List Nat) := bs.take g ++ midB (bs.getD g []) s (bs.getD (g + 1) []) k ++ bs.drop (g + 2)
noncomputable def emW (ws : List (List Nat)) (got : List Nat) : Bool := match ws with
  | [] => false
  | w :: r => (match r with
    | [] => decide (w = got)
    | _ :: _ => if w = [] then emE got (w :: r) 0 else if w.isPrefixOf got then emE got r w.length else false)
noncomputable def allN (n : Nat) (p : Nat → Bool) : Bool := (List.range n).all p
noncomputable def wayOk (row : List Nat) (st : Stp) (place way : Nat) : Bool := emW (putB st.bs place way st.sn) row == (decide (place = st.gp) && ((decide (way = 0) || decide (way = st.kd)) || decide (st.kd = 1)))
noncomputable def fallsOf (as bs : List Nat) : List (List Nat) := as.flatMap fun a => bs.map fun b => [a, b]
noncomputable def fallHit (row sn f : List Nat) : Bool := emW [[], f, sn, []] row
noncomputable def readStep (row sgs : List Nat) (k : Nat) (st : Stp) : Bool :=
  allN (st.bs.length - 1) (fun place => allN 4 (wayOk row st place)) && decide (((fallsOf (sgs.drop (k + 1)) (sgs.take k)).filter (fallHit row st.sn)).length = st.gp)
noncomputable def readAll (row sgs : List Nat) : Nat → List Stp → Bool
  | _, [] => true
  | k, st :: r => readStep row sgs k st && readAll row sgs (k + 1) r
noncomputable def nextW (w k : Nat) : Nat := match k with
  | 0 => w + 1
  | 1 => w - 1
  | _ => w
noncomputable def kindsFor (m w : Nat) : List Nat := (if w + 1 ≤ m then [0] else []) ++ (if 0 < w then [1] else []) ++ (if w ≤ m then [2, 3] else [])
noncomputable def fN {α : Type} (c : Nat) (k : Nat → α) : α := if c = 0 then k 0 else if c = 1 then k 1 else if c = 2 then k 2 else if c = 3 then k 3 else if c = 4 then k 4 else if c = 5 then k 5 else k c
theorem fN_eq {α : Type} (c : Nat) (k : Nat → α) : fN c k = k c := by
  unfold fN
  repeat' split
  all_goals first | rfl | (subst_vars; rfl)
noncomputable def fL {α : Type} : List Nat → (List Nat → α) → α
  | [], k => k []
  | c :: r, k => fL r fun r => fN c fun c => k (c :: r)
theorem fL_eq {α : Type} : ∀ (w : List Nat) (k : List Nat → α), fL w k = k w
  | [], k => rfl
  | c :: r, k => by rw [fL, fL_eq r, fN_eq]
noncomputable def fLL {α : Type} : List (List Nat) → (List (List Nat) → α) → α
  | [], k => k []
  | w :: r, k => fLL r fun r => fL w fun w => k (w :: r)
theorem fLL_eq {α : Type} : ∀ (w : List (List Nat)) (k : List (List Nat) → α), fLL w k = k w
  | [], k => rfl
  | c :: r, k => by rw [fLL, fLL_eq r, fL_eq]
noncomputable def memB (a : Nat) : List Nat → Bool
  | [] => false
  | b :: r => Nat.beq a b || memB a r
noncomputable def nodupB : List Nat → Bool
  | [] => true
  | a :: r => !memB a r && nodupB r
noncomputable def permOk (n : Nat) (row : List Nat) : Bool := Nat.beq row.length n && (nodupB row && row.all fun c => Nat.blt c n)
noncomputable def histAll (sgs : List Nat) : Nat → Nat → Nat → List (List Nat) → List Stp → Bool
  | 0, s, w, bs, acc => fL ((putB bs 0 1 [s]).getD 0 []) fun e => permOk sgs.length e && readAll e sgs 0 (acc ++ [⟨bs, 0, 1, [s]⟩])
  | m + 1, s, w, bs, acc => (kindsFor m w).all fun k => allN (w + 1) fun g => fLL (putB bs g k [s]) fun e => histAll sgs m (s + 1) (nextW w k) e (acc ++ [⟨bs, g, k, [s]⟩])
theorem hist_succ {sgs : List Nat} {m s w : Nat} {bs : List (List Nat)} {acc : List Stp} : histAll sgs (m + 1) s w bs acc = true ↔ ∀ k ∈ kindsFor m w, ∀ g, g < w + 1 → histAll sgs m (s + 1) (nextW w k) (putB bs g k [s]) (acc ++ [⟨bs, g, k, [s]⟩]) = true := by
  rw [histAll, List.all_eq_true]
  unfold allN
  constructor
  · intro h k hk g hg
    have := List.all_eq_true.mp (h k hk) g (List.mem_range.mpr hg)
    rw [fLL_eq] at this; exact this
  · intro h k hk
    rw [List.all_eq_true]
    intro g hg
    rw [fLL_eq]
    exact h k hk g (List.mem_range.mp hg)
theorem hist_zero {sgs : List Nat} {s w : Nat} {bs : List (List Nat)} {acc : List Stp} : histAll sgs 0 s w bs acc = (permOk sgs.length ((putB bs 0 1 [s]).getD 0 []) && readAll ((putB bs 0 1 [s]).getD 0 []) sgs 0 (acc ++ [⟨bs, 0, 1, [s]⟩])) := by
  rw [histAll, fL_eq]
end Mine
namespace Mine
open PySem
theorem hist4 : histAll [0, 1, 2, 3] 3 0 0 [[], []] [] = true := by decide +kernel
theorem hist5 : histAll [0, 1, 2, 3, 4] 4 0 0 [[], []] [] = true := by decide +kernel
theorem h6_0000 : histAll [0, 1, 2, 3, 4, 5] 3 2 2 [[], [1], [0], []] [⟨[[], []], 0, 0, [0]⟩, ⟨[[], [0], []], 0, 0, [1]⟩] = true := by decide +kernel
theorem h6_0001 : histAll [0, 1, 2, 3, 4, 5] 3 2 2 [[], [0], [1], []] [⟨[[], []], 0, 0, [0]⟩, ⟨[[], [0], []], 1, 0, [1]⟩] = true := by decide +kernel
theorem h6_0010 : histAll [0, 1, 2, 3, 4, 5] 3 2 0 [[1, 0], []] [⟨[[], []], 0, 0, [0]⟩, ⟨[[], [0], []], 0, 1, [1]⟩] = true := by decide +kernel
theorem h6_0011 : histAll [0, 1, 2, 3, 4, 5] 3 2 0 [[], [0, 1]] [⟨[[], []], 0, 0, [0]⟩, ⟨[[], [0], []], 1, 1, [1]⟩] = true := by decide +kernel
theorem h6_0020 : histAll [0, 1, 2, 3, 4, 5] 3 2 1 [[1], [0], []] [⟨[[], []], 0, 0, [0]⟩, ⟨[[], [0], []], 0, 2, [1]⟩] = true := by decide +kernel
theorem h6_0021 : histAll [0, 1, 2, 3, 4, 5] 3 2 1 [[], [0, 1], []] [⟨[[], []], 0, 0, [0]⟩, ⟨[[], [0], []], 1, 2, [1]⟩] = true := by decide +kernel
theorem h6_0030 : histAll [0, 1, 2, 3, 4, 5] 3 2 1 [[], [1, 0], []] [⟨[[], []], 0, 0, [0]⟩, ⟨[[], [0], []], 0, 3, [1]⟩] = true := by decide +kernel
theorem h6_0031 : histAll [0, 1, 2, 3, 4, 5] 3 2 1 [[], [0], [1]] [⟨[[], []], 0, 0, [0]⟩, ⟨[[], [0], []], 1, 3, [1]⟩] = true := by decide +kernel
theorem h6_00 : histAll [0, 1, 2, 3, 4, 5] 4 1 1 [[], [0], []] [⟨[[], []], 0, 0, [0]⟩] = true := hist_succ.mpr fun k hk g hg => by
  rcases (show k = 0 ∨ k = 1 ∨ k = 2 ∨ k = 3 by simpa [kindsFor] using hk) with rfl | rfl | rfl | rfl
  · rcases (show g = 0 ∨ g = 1 by omega) with rfl | rfl
    · exact h6_0000
    · exact h6_0001
  · rcases (show g = 0 ∨ g = 1 by omega) with rfl | rfl
    · exact h6_0010
    · exact h6_0011
  · rcases (show g = 0 ∨ g = 1 by omega) with rfl | rfl
    · exact h6_0020
    · exact h6_0021
  · rcases (show g = 0 ∨ g = 1 by omega) with rfl | rfl
    · exact h6_0030
    · exact h6_0031
theorem h6_2000 : histAll [0, 1, 2, 3, 4, 5] 3 2 1 [[0], [1], []] [⟨[[], []], 0, 2, [0]⟩, ⟨[[0], []], 0, 0, [1]⟩] = true := by decide +kernel
theorem h6_2020 : histAll [0, 1, 2, 3, 4, 5] 3 2 0 [[0, 1], []] [⟨[[], []], 0, 2, [0]⟩, ⟨[[0], []], 0, 2, [1]⟩] = true := by decide +kernel
theorem h6_2030 : histAll [0, 1, 2, 3, 4, 5] 3 2 0 [[0], [1]] [⟨[[], []], 0, 2, [0]⟩, ⟨[[0], []], 0, 3, [1]⟩] = true := by decide +kernel
theorem h6_20 : histAll [0, 1, 2, 3, 4, 5] 4 1 0 [[0], []] [⟨[[], []], 0, 2, [0]⟩] = true := hist_succ.mpr fun k hk g hg => by
  rcases (show k = 0 ∨ k = 2 ∨ k = 3 by simpa [kindsFor] using hk) with rfl | rfl | rfl
  · obtain rfl : g = 0 := by omega
    exact h6_2000
  · obtain rfl : g = 0 := by omega
    exact h6_2020
  · obtain rfl : g = 0 := by omega
    exact h6_2030
theorem h6_3000 : histAll [0, 1, 2, 3, 4, 5] 3 2 1 [[], [1], [0]] [⟨[[], []], 0, 3, [0]⟩, ⟨[[], [0]], 0, 0, [1]⟩] = true := by decide +kernel
theorem h6_3020 : histAll [0, 1, 2, 3, 4, 5] 3 2 0 [[1], [0]] [⟨[[], []], 0, 3, [0]⟩, ⟨[[], [0]], 0, 2, [1]⟩] = true := by decide +kernel
theorem h6_3030 : histAll [0, 1, 2, 3, 4, 5] 3 2 0 [[], [1, 0]] [⟨[[], []], 0, 3, [0]⟩, ⟨[[], [0]], 0, 3, [1]⟩] = true := by decide +kernel
theorem h6_30 : histAll [0, 1, 2, 3, 4, 5] 4 1 0 [[], [0]] [⟨[[], []], 0, 3, [0]⟩] = true := hist_succ.mpr fun k hk g hg => by
  rcases (show k = 0 ∨ k = 2 ∨ k = 3 by simpa [kindsFor] using hk) with rfl | rfl | rfl
  · obtain rfl : g = 0 := by omega
    exact h6_3000
  · obtain rfl : g = 0 := by omega
    exact h6_3020
  · obtain rfl : g = 0 := by omega
    exact h6_3030
theorem h6_ : histAll [0, 1, 2, 3, 4, 5] 5 0 0 [[], []] [] = true := hist_succ.mpr fun k hk g hg => by
  rcases (show k = 0 ∨ k = 2 ∨ k = 3 by simpa [kindsFor] using hk) with rfl | rfl | rfl
  · obtain rfl : g = 0 := by omega
    exact h6_00
  · obtain rfl : g = 0 := by omega
    exact h6_20
  · obtain rfl : g = 0 := by omega
    exact h6_30
end Mine
namespace Mine
open PySem
noncomputable def unitsOf (k : Nat) (s : List Nat) : List (List Nat) := match k with
  | 0 => [[40], 92 :: s]
  | 1 => [92 :: s, [41]]
  | 2 => [[92, 41], 92 :: s]
  | _ => [[34], [92, 34], [40], 92 :: s, [34]]
theorem lt4 {P : Nat → Prop} (h0 : P 0) (h1 : P 1) (h2 : P 2) (h3 : P 3) (k : Nat) (h : k < 4) : P k := by
  rcases k with _ | _ | _ | _ | k
  · exact h0
  · exact h1
  · exact h2
  · exact h3
  · lia
noncomputable def UnitsP (vs : List V) (K : V → Prop) : Prop := ∃ (k : Nat) (s : List Nat), vs = [iv k, .str s] ∧ k < 4 ∧ s.length ≤ 10 ∧ K (.list ((unitsOf k s).map V.str))
theorem wp_units (C : Cx) (k : Nat) (s : List Nat) (K : V → Prop) (hk : k < 4) (hs : s.length ≤ 10) (h : K (.list ((unitsOf k s).map V.str))) : wpSs C b_law_units [.val (iv k), .val (.str s), .unset] (fun _ => False) K := by
  have l1 : Side ([92].length + s.length ≤ strMax) := ⟨Nat.le_trans (Nat.add_le_add_left hs 1) (show 11 ≤ 16000000 by decide)⟩
  refine ⟨l1, sf 2 (by decide), sf 2 (by decide), sf 2 (by decide), sf 5 (by decide), sf 4 (by decide), ?_⟩
  revert h
  refine lt4 (P := fun k => K (.list ((unitsOf k s).map V.str)) → atPl _ (k : Int) K) ?_ ?_ ?_ ?_ k hk
  · exact fun h => ⟨0, _, rfl, rfl, sf 4 (by decide), h⟩
  · exact fun h => ⟨1, _, rfl, rfl, sf 4 (by decide), h⟩
  · exact fun h => ⟨2, _, rfl, rfl, sf 4 (by decide), h⟩
  · exact fun h => ⟨3, _, rfl, rfl, sf 4 (by decide), h⟩
structure Bss (bs : List (List Nat)) : Prop where
  n : bs.length ≤ 20
  w : ∀ b ∈ bs, b.length ≤ 20
theorem Bss.at {bs : List (List Nat)} (h : Bss bs) (g : Nat) : (bs.getD g []).length ≤ 20 := by
  rw [List.getD_eq_getElem?_getD]
  cases e : bs[g]? with
  | none => exact Nat.zero_le _
  | some x => exact h.w x (List.mem_of_getElem? e)
noncomputable def PutP (vs : List V) (K : V → Prop) : Prop := ∃ (bs : List (List Nat)) (g k : Nat) (s : List Nat), vs = [.list (bs.map V.str), iv g, iv k, .str s] ∧ Bss bs ∧ g + 1 < bs.length ∧ k < 4 ∧ s.length ≤ 10 ∧ K (.list ((putB bs g k s).map V.str))
theorem map_at {bs : List (List Nat)} {g : Nat} (h : g < bs.length) : (bs.map V.str)[g]? = some (.str (bs.getD g [])) := by
  rw [List.getElem?_map, (getD_mem h).1]; rfl
theorem wp_put (C : Cx) (bs : List (List Nat)) (g k : Nat) (s : List Nat) (K : V → Prop) (hb : Bss bs) (hg : g + 1 < bs.length) (hk : k < 4) (hs : s.length ≤ 10) (h : K (.list ((putB bs g k s).map V.str))) :
    wpSs C b_law_put [.val (.list (bs.map V.str)), .val (iv g), .val (iv k), .val (.str s), .unset, .unset, .unset] (fun _ => False) K := by
  have hl : (bs.map V.str).length ≤ 20 := ml hb.n
  have l := len_side hl
  have hg' : g < bs.length := Nat.lt_of_succ_lt hg
  have hL := hb.at g
  have hR := hb.at (g + 1)
  have a0 : place (g : Int) (bs.map V.str).length = some g := place_nat (by rw [List.length_map]; exact hg')
  have a1 : place ((g : Int) + 1) (bs.map V.str).length = some (g + 1) := place_nat (p := g + 1) (by rw [List.length_map]; exact hg)
  have e : ∀ X : List (List Nat), X = midB (bs.getD g []) s (bs.getD (g + 1) []) k → sliceL (bs.map V.str) none (some (g : Int)) ++ X.map V.str ++ sliceL (bs.map V.str) (some ((g + 2 : Nat) : Int)) none = (putB bs g k s).map V.str := by
    rintro X rfl
    rw [sliceTo, sliceFrom]
    unfold putB
    rw [List.map_append, List.map_append, List.map_take, List.map_drop]
  refine ⟨g, _, a0, map_at hg', l, g + 1, _, a1, map_at hg, l, rfl, sf 3 (by decide), ap hL hs, ap (la hL hs) hR, sf 1 (by decide), ap hL hs, sf 2 (by decide), ap hs hR, sf 2 (by decide), sf 4 (by decide), ?_⟩
  have hgn : ((g : Int) + 2).natAbs < 2 ^ 60 := by have := hb.n; lia
  have hg0 : ((g : Int)).natAbs < 2 ^ 60 := by have := hb.n; lia
  have hm : (midB (bs.getD g []) s (bs.getD (g + 1) []) k).length ≤ 3 := lt4 (P := fun k => (midB (bs.getD g []) s (bs.getD (g + 1) []) k).length ≤ 3) (Nat.le_refl 3) (show 1 ≤ 3 by decide) (show 2 ≤ 3 by decide) (show 2 ≤ 3 by decide) k hk
  have t20 : (sliceL (bs.map V.str) none (some (g : Int))).length ≤ 20 := Nat.le_trans (sliceL_len _ _ _) hl
  have d20 : (sliceL (bs.map V.str) (some ((g + 2 : Nat) : Int)) none).length ≤ 20 := Nat.le_trans (sliceL_len _ _ _) hl
  have fin : ∀ X : List (List Nat), X = midB (bs.getD g []) s (bs.getD (g + 1) []) k → wpSs C (b_law_put.drop 2) [.val (.list (bs.map V.str)), .val (iv g), .val (iv k), .val (.str s), .val (.str (bs.getD g [])), .val (.str (bs.getD (g + 1) [])), .val (.list (X.map V.str))] (fun _ => False) K := by
    intro X hX
    have e' := e X hX
    have hX3 : X.length ≤ 3 := hX ▸ hm
    rw [← e'] at h
    exact ⟨⟨l.h, none_lt, some_lt hg0⟩, ap t20 (ml hX3), ⟨l.h, some_lt hgn, none_lt⟩, ap (la t20 (ml hX3)) d20, h⟩
  revert fin
  generalize bs.getD g [] = L
  generalize bs.getD (g + 1) [] = R
  rcases k with _ | _ | _ | _ | k
  · exact fun h => ⟨0, _, rfl, rfl, sf 4 (by decide), h _ rfl⟩
  · exact fun h => ⟨1, _, rfl, rfl, sf 4 (by decide), h _ rfl⟩
  · exact fun h => ⟨2, _, rfl, rfl, sf 4 (by decide), h _ rfl⟩
  · exact fun h => ⟨3, _, rfl, rfl, sf 4 (by decide), h _ rfl⟩
  · lia
end Mine
namespace Mine
open PySem
noncomputable def KindsOk : Nat → Nat → List Nat → Prop
  | 0, w, ks => ks = [] ∧ w = 0
  | m + 1, w, ks => ∃ k r, ks = k :: r ∧ k ∈ kindsFor m w ∧ KindsOk m (nextW w k) r
theorem kf {m w k : Nat} (h : k ∈ kindsFor m w) : (k = 0 ∧ w + 1 ≤ m) ∨ (k = 1 ∧ 0 < w) ∨ (k = 2 ∧ w ≤ m) ∨ (k = 3 ∧ w ≤ m) := by
  unfold kindsFor at h
  rcases List.mem_append.mp h with h | h
  · rcases List.mem_append.mp h with h | h
    · split at h
      · exact .inl ⟨List.mem_singleton.mp h, by assumption⟩
      · cases h
    · split at h
      · exact .inr (.inl ⟨List.mem_singleton.mp h, by assumption⟩)
      · cases h
  · split at h
    · next q =>
      rcases List.mem_cons.mp h with h | h
      · exact .inr (.inr (.inl ⟨h, q⟩))
      · exact .inr (.inr (.inr ⟨List.mem_singleton.mp h, q⟩))
    · cases h
theorem kf_lt {m w k : Nat} (h : k ∈ kindsFor m w) : k < 4 := by rcases kf h with h | h | h | h <;> lia
theorem kf0 {m w : Nat} (h : w + 1 ≤ m) : 0 ∈ kindsFor m w := by unfold kindsFor; rw [if_pos h]; exact List.mem_append_left _ (List.mem_append_left _ List.mem_cons_self)
theorem kf1 {m w : Nat} (h : 0 < w) : 1 ∈ kindsFor m w := by unfold kindsFor; rw [if_pos h]; exact List.mem_append_left _ (List.mem_append_right _ List.mem_cons_self)
theorem kf2 {m w : Nat} (h : w ≤ m) : 2 ∈ kindsFor m w := by unfold kindsFor; rw [if_pos h]; exact List.mem_append_right _ List.mem_cons_self
theorem kf3 {m w : Nat} (h : w ≤ m) : 3 ∈ kindsFor m w := by unfold kindsFor; rw [if_pos h]; exact List.mem_append_right _ (List.mem_cons_of_mem _ List.mem_cons_self)
noncomputable def l_kinds : List SD := [sAssign 5 (rVal (xBin bSub (xBin bSub (xVar 1) (xInt 2)) (xVar 4))), sAssign 6 (rVal (xBin bMod (xItem (xVar 0) (xBin bAdd (xVar 4) (xInt 1))) (xInt 4))), sIf (xBin cGt (xVar 3) (xVar 5)) [sAssign 6 (rVal (xInt 1))] [sIf (xAnd (xBin cEq (xVar 6) (xInt 0)) (xBin cEq (xVar 3) (xVar 5))) [sAssign 6 (rVal (xInt 2))] [sIf (xAnd (xBin cEq (xVar 6) (xInt 1)) (xBin cEq (xVar 3) (xInt 0))) [sAssign 6 (rVal (xInt 3))] []]], sAppend 2 (xVar 6), sAug 3 gAdd (xItem (xList [(xInt 1), (xNeg (xInt 1)), (xInt 0), (xInt 0)]) (xVar 6))]
noncomputable def KindsP (vs : List V) (K : V → Prop) : Prop := ∃ (cs : List Int) (many : Nat), vs = [.list (cs.map V.int), iv many] ∧ cs.length = 8 ∧ 1 ≤ many ∧ many ≤ 6 ∧ ∀ ks, KindsOk (many - 1) 0 ks → ks.length ≤ 6 → K (.list ((ks ++ [1]).map iv))
inductive KdI (cs : List Int) (many : Nat) (items : List Nat) (ρ : Rho) : Prop
  | mk (k m w : Nat) (ks : List Nat) (a b c : Slot) (hi : items = List.range' k m) (hkm : k + m + 1 = many) (hw : w ≤ m) (hl : ks.length ≤ k) (hr : ∀ r, KindsOk m w r → KindsOk (many - 1) 0 (ks ++ r)) (h2 : ρ = [.val (.list (cs.map V.int)), .val (iv many), .own (ks.map iv), .val (iv w), a, b, c])
section
variable (C : Cx) (cs : List Int) (many : Nat) (KR : V → Prop) (K' : Rho → Prop) (k m w : Nat) (ks : List Nat) (hkm : k + (m + 1) + 1 = many) (hw : w ≤ m + 1) (hl : ks.length ≤ k) (hm : many ≤ 6) (hr : ∀ r, KindsOk (m + 1) w r → KindsOk (many - 1) 0 (ks ++ r)) (hK : ∀ ρ', KdI cs many (List.range' (k + 1) m) ρ' → K' ρ')
include hkm hw hl hm hr hK
theorem kinds_fin (kd : Nat) (h : kd ∈ kindsFor m w) (b : Slot) : wpSs C (l_kinds.drop 3) [.val (.list (cs.map V.int)), .val (iv many), .own (ks.map iv), .val (iv w), .val (iv k), b, .val (iv kd)] K' KR := by
  have hl1 : Side ((ks.map iv).length < strMax) := ⟨by rw [List.length_map]; exact Nat.lt_of_le_of_lt hl (Nat.lt_of_lt_of_le (show k < 7 by lia) (by decide))⟩
  have fin : ∀ z : Int, z = ((nextW w kd : Nat) : Int) → K' [.val (.list (cs.map V.int)), .val (iv many), .own (ks.map iv ++ [iv kd]), .val (.int z), .val (iv k), b, .val (iv kd)] := by
    rintro z rfl
    refine hK _ ⟨k + 1, m, nextW w kd, ks ++ [kd], .val (iv k), b, .val (iv kd), rfl, by lia, ?_, by rw [List.length_append]; exact Nat.succ_le_succ hl, fun r hr' => ?_, ?_⟩
    · rcases kf h with ⟨rfl, h'⟩ | ⟨rfl, h'⟩ | ⟨rfl, h'⟩ | ⟨rfl, h'⟩
      · exact h'
      · show w - 1 ≤ m; lia
      · exact h'
      · exact h'
    · rw [List.append_assoc]
      exact hr _ ⟨kd, r, rfl, h, hr'⟩
    · rw [List.map_append]; rfl
  refine ⟨hl1, ?_⟩
  rcases kf h with ⟨rfl, h'⟩ | ⟨rfl, h'⟩ | ⟨rfl, h'⟩ | ⟨rfl, h'⟩
  · exact ⟨sf 4 (by decide), 0, _, rfl, rfl, sf 4 (by decide), fin _ rfl⟩
  · exact ⟨sf 4 (by decide), 1, _, rfl, rfl, sf 4 (by decide), fin _ (show (w : Int) + -1 = ((w - 1 : Nat) : Int) by lia)⟩
  · exact ⟨sf 4 (by decide), 2, _, rfl, rfl, sf 4 (by decide), fin _ rfl⟩
  · exact ⟨sf 4 (by decide), 3, _, rfl, rfl, sf 4 (by decide), fin _ rfl⟩
theorem kinds_mid (z l : Int) (q : Nat) (hq : q < 4) (hz : z = (q : Int)) (hL : l = (m : Int)) : wpSs C (l_kinds.drop 2) [.val (.list (cs.map V.int)), .val (iv many), .own (ks.map iv), .val (iv w), .val (iv k), .val (.int l), .val (.int z)] K' KR := by
  subst hz
  subst hL
  have fin := kinds_fin C cs many KR K' k m w ks hkm hw hl hm hr hK
  refine br_dec (fun h => ?_) fun h => ?_
  · exact fin 1 (kf1 (by lia)) _
  · have hwm : w ≤ m := by lia
    refine br_dec (fun h0 => br_dec (fun h1 => ?_) fun h1 => ?_) fun h0 => ?_
    · exact fin 2 (kf2 hwm) _
    · refine br_dec (fun h2 => ?_) fun h2 => ?_
      · lia
      · refine br_f ?_
        have : q = 0 := by lia
        subst this
        exact fin 0 (kf0 (by lia)) _
    · refine br_f (br_dec (fun h2 => br_dec (fun h3 => ?_) fun h3 => ?_) fun h2 => ?_)
      · exact fin 3 (kf3 hwm) _
      · have : q = 1 := by lia
        subst this
        exact fin 1 (kf1 (by lia)) _
      · have : q = 2 ∨ q = 3 := by lia
        rcases this with rfl | rfl
        · exact br_f (fin 2 (kf2 hwm) _)
        · exact br_f (fin 3 (kf3 hwm) _)
end
theorem wp_kinds (C : Cx) (cs : List Int) (many : Nat) (K : V → Prop) (hc : cs.length = 8) (h1 : 1 ≤ many) (hm : many ≤ 6) (hk : ∀ ks, KindsOk (many - 1) 0 ks → ks.length ≤ 6 → K (.list ((ks ++ [1]).map iv))) :
    wpSs C b_law_kinds [.val (.list (cs.map V.int)), .val (iv many), .unset, .unset, .unset, .unset, .unset] (fun _ => False) K := by
  have e8 : (cs.map V.int).length = 8 := (List.length_map _).trans hc
  have em : ((many : Int) - 1) = ((many - 1 : Nat) : Int) := by lia
  refine ⟨sf 0 (by decide), rfl, ⟨by lia, by lia⟩, eq_at (P := fun v => wpFor (forB C (.one 4) l_kinds K) v [.val (.list (cs.map V.int)), .val (iv many), .own ([].map iv), .val (iv 0), .unset, .unset, .unset] fun ρ => wpSs C (b_law_kinds.drop 2) ρ (fun _ => False) K) ((congrArg (fun z => (rangeL 0 z 1).map V.int) em).trans (rangeUp (many - 1))) ?_⟩
  refine wpFor_map iv (KdI cs many) ?_ ?_ _ _ ⟨0, many - 1, 0, [], _, _, _, List.range_eq_range', by lia, Nat.zero_le _, Nat.le_refl _, fun r h => h, rfl⟩
  · rintro x rest ρ ⟨k, m, w, ks, a, b, c, hi, hkm, hw, hl, hr, rfl⟩ K' hK
    cases m with
    | zero => cases hi
    | succ m =>
      obtain ⟨rfl, rfl⟩ := List.cons.inj hi
      have hx : x + 1 < cs.length := by lia
      obtain ⟨q, hq, eq⟩ := mod_nat cs[x + 1] 4 (by decide)
      exact ⟨x + 1, V.int cs[x + 1], place_nat (p := x + 1) (by lia), by rw [List.getElem?_map, List.getElem?_eq_getElem hx]; rfl, ⟨by rw [e8]; decide⟩, ⟨by decide⟩, kinds_mid C cs many K K' x m w ks hkm hw hl hm hr hK _ _ q hq eq (show (many : Int) - 2 - (x : Int) = (m : Int) by lia)⟩
  · rintro ρ ⟨k, m, w, ks, a, b, c, hi, hkm, hw, hl, hr, rfl⟩
    cases m with
    | succ m => cases hi
    | zero =>
      have hw0 : w = 0 := Nat.le_zero.mp hw
      have := hk ks (by have := hr [] ⟨rfl, hw0⟩; rw [List.append_nil] at this; exact this) (by lia)
      rw [List.map_append] at this
      exact ⟨sf 1 (by decide), ap (m := 6) (n := 1) (ml (by lia)) (Nat.le_refl 1), this⟩
end Mine
namespace Mine
open PySem
noncomputable def opsF : List Nat := [40, 41, 91, 93, 58, 44, 59, 43, 45, 42, 47, 124, 38, 60, 62, 61, 37, 123, 125, 126, 94, 64, 33]
noncomputable def numF : List Nat := [7, 8, 9, 10, 11, 12, 13, 14, 15, 16, 17, 18, 19, 20, 21, 22, 24, 25, 26, 31, 32, 49, 54]
noncomputable def sgF (st many : Nat) : List Nat := (opsF.take (st + many)).drop st
noncomputable def nbF (st many : Nat) : List Nat := (numF.take (st + many)).drop st
theorem slice_map {α β : Type} (f : α → β) (x : List α) (a b : Option Int) : sliceL (x.map f) a b = (sliceL x a b).map f := by
  unfold sliceL
  rw [List.length_map, List.map_drop, List.map_take]
theorem slice_cut {α : Type} (xs : List α) (st many : Nat) (h : st + many ≤ xs.length) : sliceL xs (some (st : Int)) (some ((st + many : Nat) : Int)) = (xs.take (st + many)).drop st := by
  show (xs.take (clampI _ xs.length)).drop (clampI _ xs.length) = _
  rw [clamp_nat, clamp_nat, Nat.min_eq_left h, Nat.min_eq_left (Nat.le_trans (Nat.le_add_right _ _) h)]
structure Drawn (many st : Nat) (ks : List Nat) (w : Nat) (N : Int) : Prop where
  m4 : 4 ≤ many
  m6 : many ≤ 6
  st : st + many ≤ 23
  ks : KindsOk (many - 1) 0 ks
  w0 : 36 ≤ w
  w1 : w ≤ 4435
  lo : -2 ^ (2 * w + 8) ≤ N
  hi : N < 2 ^ (2 * w + 8)
noncomputable def drawnV (many st : Nat) (ks : List Nat) (w : Nat) (N way : Int) : V := .tup [.str (sgF st many), .list ((nbF st many).map iv), .list ((ks ++ [1]).map iv), iv w, .int N, .int way]
noncomputable def DrawnP (vs : List V) (K : V → Prop) : Prop := ∃ script : List Int, vs = [.list (script.map V.int)] ∧ script.length ≤ 63 ∧ ∀ (many st : Nat) (ks : List Nat) (w : Nat) (N way : Int), Drawn many st ks w N → K (drawnV many st ks w N way)
section
variable (C : Cx) (script : List Int) (K : V → Prop) (hk : ∀ (many st : Nat) (ks : List Nat) (w : Nat) (N way : Int), Drawn many st ks w N → K (drawnV many st ks w N way))
  (h9 : ∀ vs K', KindsP vs K' → C.call 9 vs K') (cs : List Int) (hc : cs.length = 8) (a : Slot) (many st w : Nat) (m4 : 4 ≤ many) (m6 : many ≤ 6) (hst : st + many ≤ 23) (w0 : 36 ≤ w) (w1 : w ≤ 4435)
include hk h9 hc m4 m6 hst w0 w1
theorem dr8 (B : Int) (hB : B = 2 ^ (2 * w + 8)) : wpSs C (b_law_drawn.drop 8) [.val (.list (script.map V.int)), .val (.list (cs.map V.int)), a, .val (iv many), .val (iv st), .val (iv w), .val (.int B), .val (.str (sgF st many)), .val (.list ((nbF st many).map iv))] (fun _ => False) K := by
  have s8 : Side ((cs.map V.int).length ≤ strMax) := ⟨by rw [List.length_map, hc]; decide⟩
  have it : ∀ j : Nat, j < 8 → ∃ c, place (j : Int) (cs.map V.int).length = some j ∧ (cs.map V.int)[j]? = some (V.int c) := fun j hj => ⟨cs[j]'(hc ▸ hj), place_nat (by rw [List.length_map, hc]; exact hj), by rw [List.getElem?_map, List.getElem?_eq_getElem]; rfl⟩
  obtain ⟨c0, p0, g0⟩ := it 0 (by decide)
  obtain ⟨c7, p7, g7⟩ := it 7 (by decide)
  have hp : (0 : Int) < B := hB ▸ two_pos _
  have hfit : MulFit 2 B := ⟨2, 2 * w + 8 + 1, by decide, hB ▸ two_nat _, by lia⟩
  refine h9 _ _ ⟨cs, many, rfl, hc, by lia, m6, fun ks hks hl => ⟨7, _, p7, g7, s8, ⟨hfit⟩, ⟨by lia⟩, 0, _, p0, g0, s8, ⟨by decide, noPy3 _⟩, sf 6 (by decide), hk many st ks w _ _ ⟨m4, m6, hst, hks, w0, w1, ?_, ?_⟩⟩⟩
  · have := Int.fmod_nonneg_of_pos (c7 + B) (show 0 < 2 * B by lia)
    rw [← hB]; lia
  · have := Int.fmod_lt_of_pos (c7 + B) (show 0 < 2 * B by lia)
    rw [← hB]; lia
theorem dr6 (B : Int) (hB : B = 2 ^ (2 * w + 8)) (s7 s8 : Slot) : wpSs C (b_law_drawn.drop 6) [.val (.list (script.map V.int)), .val (.list (cs.map V.int)), a, .val (iv many), .val (iv st), .val (iv w), .val (.int B), s7, s8] (fun _ => False) K := by
  have w8 := dr8 C script K hk h9 cs hc a many st w m4 m6 hst w0 w1 B hB
  have e1 : sliceL opsF (some (st : Int)) (some ((st : Int) + many)) = sgF st many := slice_cut opsF st many hst
  have e2 : sliceL (numF.map iv) (some (st : Int)) (some ((st : Int) + many)) = (nbF st many).map iv := (slice_map iv numF _ _).trans (congrArg (List.map iv) (slice_cut numF st many hst))
  rw [← e1, ← e2] at w8
  exact ⟨⟨show 23 ≤ 16000000 by decide, some_lt (by lia), some_lt (by lia)⟩, ⟨by decide, by decide, by decide, by decide⟩, sf 16 (by decide), sf 7 (by decide), sf 23 (by decide), ⟨show 23 ≤ 16000000 by decide, some_lt (by lia), some_lt (by lia)⟩, w8⟩
end
theorem dr2 (C : Cx) (script : List Int) (K : V → Prop) (hk : ∀ (many st : Nat) (ks : List Nat) (w : Nat) (N way : Int), Drawn many st ks w N → K (drawnV many st ks w N way))
    (h9 : ∀ vs K', KindsP vs K' → C.call 9 vs K') (cs : List Int) (hc : cs.length = 8) (a : Slot) : wpSs C (b_law_drawn.drop 2) [.val (.list (script.map V.int)), .own (cs.map V.int), a, .unset, .unset, .unset, .unset, .unset, .unset] (fun _ => False) K := by
  have s8 : Side ((cs.map V.int).length ≤ strMax) := ⟨by rw [List.length_map, hc]; decide⟩
  have it : ∀ j : Nat, j < 8 → ∃ c, place (j : Int) (cs.map V.int).length = some j ∧ (cs.map V.int)[j]? = some (V.int c) := fun j hj => ⟨cs[j]'(hc ▸ hj), place_nat (by rw [List.length_map, hc]; exact hj), by rw [List.getElem?_map, List.getElem?_eq_getElem]; rfl⟩
  obtain ⟨c0, p0, g0⟩ := it 0 (by decide)
  obtain ⟨c6, p6, g6⟩ := it 6 (by decide)
  obtain ⟨q, hq, eq⟩ := mod_nat c0 3 (by decide)
  obtain ⟨st, hst, est⟩ := mod_nat c6 (24 - (4 + q)) (by lia)
  obtain ⟨u, hu, eu⟩ := mod_nat ((if c6 < 0 then -c6 else c6).fdiv 24) 4400 (by decide)
  have f3 : ∀ z l : Int, ∀ x : Int, z = ((4 + q : Nat) : Int) → l = (st : Int) → x = ((36 + u : Nat) : Int) → wpSs C (b_law_drawn.drop 5) [.val (.list (script.map V.int)), .val (.list (cs.map V.int)), a, .val (.int z), .val (.int l), .val (.int x), .unset, .unset, .unset] (fun _ => False) K := by
    rintro z l x rfl rfl rfl
    exact ⟨⟨2, 40, by decide, by lia, by decide⟩, ⟨rfl, by lia, by lia⟩, dr6 C script K hk h9 cs hc a (4 + q) st (36 + u) (by lia) (by lia) (by lia) (by lia) (by lia) _ (congrArg (fun n => (2 : Int) ^ n) (show (2 * ((36 + u : Nat) : Int) + 8).toNat = 2 * (36 + u) + 8 by lia)) _ _⟩
  have e1 : 4 + c0.fmod 3 = ((4 + q : Nat) : Int) := by have : c0.fmod 3 = (q : Int) := eq; lia
  have e2 : (24 : Int) - (4 + c0.fmod 3) = ((24 - (4 + q) : Nat) : Int) := by lia
  have e3 : ((if c6 < 0 then -c6 else c6).fdiv 24).fmod 4400 = (u : Int) := eu
  refine ⟨0, _, p0, g0, s8, ⟨by decide⟩, 6, _, p6, g6, s8, ⟨by lia⟩, 6, _, p6, g6, s8, ⟨by decide, rfl⟩, ⟨by decide⟩, f3 _ _ _ e1 ?_ ?_⟩
  · exact (congrArg (fun z => c6.fmod z) e2).trans est
  · exact (congrArg (fun z => 36 + z) e3).trans (by lia)
inductive DrwI (script : List Int) (ks : List Nat) (ρ : Rho) : Prop
  | mk (cs : List Int) (a : Slot) (hks : ∀ k ∈ ks, k < script.length) (hcs : cs.length = 8) (hρ : ρ = [.val (.list (script.map V.int)), .own (cs.map V.int), a, .unset, .unset, .unset, .unset, .unset, .unset])
theorem wp_drawn (C : Cx) (script : List Int) (K : V → Prop) (hk : ∀ (many st : Nat) (ks : List Nat) (w : Nat) (N way : Int), Drawn many st ks w N → K (drawnV many st ks w N way))
    (h9 : ∀ vs K', KindsP vs K' → C.call 9 vs K') (hs : script.length ≤ 63) : wpSs C b_law_drawn [.val (.list (script.map V.int)), .unset, .unset, .unset, .unset, .unset, .unset, .unset, .unset] (fun _ => False) K := by
  have h16 : strMax = 16000000 := rfl
  have e : (script.map V.int).length = script.length := List.length_map _
  refine ⟨sf 8 (by decide), ⟨by lia⟩, ⟨by lia, by lia⟩, eq_at (P := fun v => wpFor (forB C (.one 2) [sAugItem 1 (xBin bMod (xVar 2) (xInt 8)) (xItem (xVar 0) (xVar 2))] K) v [.val (.list (script.map V.int)), .own ([0, 0, 3, 1, 2, 0, 0, 5].map V.int), .unset, .unset, .unset, .unset, .unset, .unset, .unset] fun ρ => wpSs C (b_law_drawn.drop 2) ρ (fun _ => False) K) (rangeUp (script.map V.int).length)
    (wpFor_map iv (DrwI script) ?_ ?_ _ _ ⟨_, _, fun k h => e ▸ List.mem_range.mp h, rfl, rfl⟩)⟩
  · rintro k ks ρ ⟨cs, a, hks, hcs, rfl⟩ K' hK
    have hkl := hks k List.mem_cons_self
    have ec : (cs.map V.int).length = 8 := (List.length_map _).trans hcs
    have em : (k : Int).fmod 8 = ((k % 8 : Nat) : Int) := by rw [Int.fmod_eq_emod_of_nonneg _ (by decide)]; rfl
    have h8 : k % 8 < cs.length := by rw [hcs]; exact Nat.mod_lt _ (by decide)
    refine ⟨⟨by decide⟩, k % 8, cs[k % 8], (show place ((k : Int).fmod 8) (cs.map V.int).length = some (k % 8) by rw [em]; exact place_nat (by lia)), by rw [List.getElem?_map, List.getElem?_eq_getElem h8]; rfl, ⟨show 0 ≤ (k : Int).fmod 8 by rw [em]; exact Int.natCast_nonneg _, by lia⟩, k, V.int script[k], place_nat (by lia), by rw [List.getElem?_map, List.getElem?_eq_getElem hkl]; rfl, ⟨by lia⟩,
      hK _ ⟨cs.set (k % 8) (cs[k % 8] + script[k]), .val (.int (k : Int)), fun j hj => hks j (List.mem_cons_of_mem _ hj), by rw [List.length_set]; exact hcs, ?_⟩⟩
    rw [List.map_set]; rfl
  · rintro ρ ⟨cs, a, hks, hcs, rfl⟩
    exact dr2 C script K hk h9 cs hcs a
end Mine
namespace Mine
open PySem
noncomputable def stepV (st : Stp) : V := .tup [.list (st.bs.map V.str), iv st.gp, iv st.kd, .str st.sn]
noncomputable def wholeG : List Stp → Int → Int
  | [], x => x
  | st :: r, x => wholeG r x * ((st.bs.length : Int) - 1) + st.gp
structure Stps (steps : List Stp) : Prop where
  n : steps.length ≤ 10
  b : ∀ st ∈ steps, Bss st.bs
noncomputable def WholeP (vs : List V) (K : V → Prop) : Prop := ∃ (steps : List Stp) (x : Int) (B : Nat), vs = [.list (steps.map stepV), .int x] ∧ Stps steps ∧ B ≤ 1000000 ∧ (∀ j, (wholeG (steps.drop j) x).natAbs < 2 ^ B) ∧ K (.int (wholeG steps x))
inductive WhI (steps : List Stp) (x : Int) (items : List Nat) (ρ : Rho) : Prop
  | mk (k m : Nat) (a b c d e : Slot) (hi : items = List.range' k m) (hkm : k + m = steps.length) (h2 : ρ = [.val (.list (steps.map stepV)), .val (.int x), .val (.int (wholeG (steps.drop m) x)), a, b, c, d, e])
theorem step_at {steps : List Stp} {m : Nat} (h : m < steps.length) : ∃ st, (steps.map stepV)[m]? = some (stepV st) ∧ st ∈ steps ∧ steps.drop m = st :: steps.drop (m + 1) :=
  ⟨steps[m], by rw [List.getElem?_map, List.getElem?_eq_getElem h]; rfl, List.getElem_mem h, List.drop_eq_getElem_cons h⟩
theorem wp_whole (C : Cx) (steps : List Stp) (x : Int) (B : Nat) (K : V → Prop) (hs : Stps steps) (hB : B ≤ 1000000) (hb : ∀ j, (wholeG (steps.drop j) x).natAbs < 2 ^ B) (hk : K (.int (wholeG steps x))) :
    wpSs C b_law_whole [.val (.list (steps.map stepV)), .val (.int x), .unset, .unset, .unset, .unset, .unset, .unset] (fun _ => False) K := by
  have el : (steps.map stepV).length = steps.length := List.length_map _
  have l : Side ((steps.map stepV).length ≤ strMax) := len_side (ml hs.n)
  have hn := hs.n
  refine ⟨l, ⟨by lia, by lia⟩, eq_at (P := fun v => wpFor (forB C (.one 3) _ K) v _ fun ρ => wpSs C (b_law_whole.drop 2) ρ (fun _ => False) K) (rangeUp (steps.map stepV).length) ?_⟩
  rw [el]
  refine wpFor_map iv (WhI steps x) ?_ ?_ _ _ ⟨0, steps.length, .unset, .unset, .unset, .unset, .unset, List.range_eq_range', Nat.zero_add _, by rw [List.drop_length]; rfl⟩
  · rintro y rest ρ ⟨k, m, a, b, c, d, e, hi, hkm, rfl⟩ K' hK
    cases m with
    | zero => cases hi
    | succ m =>
      obtain ⟨rfl, rfl⟩ := List.cons.inj hi
      obtain ⟨st, g, hmem, ed⟩ := step_at (show m < steps.length by lia)
      have hbs := (hs.b st hmem).n
      have ei : ((steps.map stepV).length : Int) - 1 - (y : Int) = (m : Int) := by lia
      refine ⟨l, m, stepV st, (show place (((steps.map stepV).length : Int) - 1 - (y : Int)) _ = some m by rw [ei]; exact place_nat (by lia)), g, l, rfl, len_side (m := 20) (ml hbs), ⟨B, 8, hb (m + 1), (show (((st.bs.map V.str).length : Int) - 1).natAbs < 2 ^ 8 by rw [List.length_map]; lia), by lia⟩, hK _ ⟨y + 1, m, iv y |> Slot.val, .val (.list (st.bs.map V.str)), .val (iv st.gp), .val (iv st.kd), .val (.str st.sn), rfl, by lia, ?_⟩⟩
      rw [ed, wholeG, ← List.length_map (f := V.str)]; rfl
  · rintro ρ ⟨k, m, a, b, c, d, e, hi, hkm, rfl⟩
    cases m with
    | succ m => cases hi
    | zero => exact hk
end Mine
namespace Mine
open PySem
theorem rep_lenG {α : Type} (s : List α) : ∀ n : Nat, (List.replicate n s).flatten.length = n * s.length
  | 0 => by rw [Nat.zero_mul]; rfl
  | n + 1 => by rw [List.replicate_succ, List.flatten_cons, List.length_append, rep_lenG s n, Nat.succ_mul, Nat.add_comm]
noncomputable def onceW (row sn en hd : List Nat) (h0 : Nat) : List (List Nat) := [hd ++ dots ++ en, dots ++ sn ++ dots ++ en, hd ++ dots ++ sn ++ dots, dots ++ sn ++ dots ++ sn ++ dots, dots ++ sliceL row none (some 2) ++ dots ++ sliceL row (some 1) none ++ dots, sliceL row (some 1) none ++ [h0]]
noncomputable def onceT (row : List Nat) (cut : Nat) : List (List Nat) := onceW row [sg row cut] (sliceL row (some (cut : Int)) none) (sliceL row none (some ((cut + 1 : Nat) : Int))) (sg row 0) ++ [sliceL row none (some (cut : Int)) ++ dots ++ sliceL row (some (cut : Int)) none]
noncomputable def onceO (row : List Nat) (cut : Nat) : List (List Nat) := [dots ++ rep ([sg row cut] ++ dots) 2, dots ++ rep ([sg row cut] ++ dots) 3]
structure OnceOk (row : List Nat) (cut : Nat) : Prop where
  t : (onceT row cut).map (fun t => ematch t row) = [false, false, false, false, false, false, true]
  o : (onceO row cut).map (fun t => ematch t (row ++ row)) = [true, false]
noncomputable def Once1P (vs : List V) (K : V → Prop) : Prop := ∃ (row : List Nat) (cut : Nat), vs = [.str row, iv cut] ∧ row.length ≤ 10 ∧ cut < row.length ∧ OnceOk row cut ∧ K (.bool true)
theorem wp_once1 (C : Cx) (row : List Nat) (cut : Nat) (K : V → Prop) (hw : row.length ≤ 10) (hc : cut < row.length) (ho : OnceOk row cut) (h0 : ∀ vs K', EmP vs K' → C.call 0 vs K') (hk : K (.bool true)) :
    wpSs C b_law_once [.val (.str row), .val (iv cut), .unset, .unset, .unset, .unset, .unset] (fun _ => False) K := by
  have d3 : dots.length ≤ 3 := Nat.le_refl 3
  have lr := len_side hw
  have z : ∀ k : Nat, k ≤ 20 → BoundFit (some (k : Int)) := fun k h => some_lt (by lia)
  have hz : ∀ a b, (sliceL row a b).length ≤ 10 := fun a b => Nat.le_trans (sliceL_len _ _ _) hw
  have s1 : [sg row cut].length ≤ 1 := Nat.le_refl 1
  have hpos : 0 < row.length := Nat.lt_of_le_of_lt (Nat.zero_le _) hc
  have mt : ∀ t : List Nat, t.length ≤ 100 → ∀ g : List Nat, g.length ≤ 20 → ∀ K' : V → Prop, K' (.bool (ematch t g)) → C.call 0 [.str t, .str g] K' := fun t ht g hg K' h => h0 _ _ ⟨t, g, rfl, by lia, by lia, h⟩
  have c1 := z cut (by lia)
  have c2 := z (cut + 1) (by lia)
  refine ⟨cut, _, place_nat hc, sg_get hc, lr, ⟨lr.h, c1, none_lt⟩, rfl, ?_⟩
  refine ⟨⟨lr.h, none_lt, c2⟩, ap (hz _ _) d3, ap (la (hz _ _) d3) (hz _ _), ?_⟩
  refine ⟨ap d3 s1, ap (la d3 s1) d3, ap (la (la d3 s1) d3) (hz _ _), ?_⟩
  refine ⟨⟨lr.h, none_lt, c2⟩, ap (hz _ _) d3, ap (la (hz _ _) d3) s1, ap (la (la (hz _ _) d3) s1) d3, ?_⟩
  refine ⟨ap d3 s1, ap (la d3 s1) d3, ap (la (la d3 s1) d3) s1, ap (la (la (la d3 s1) d3) s1) d3, ?_⟩
  refine ⟨⟨lr.h, none_lt, z 2 (by decide)⟩, ap d3 (hz _ _), ap (la d3 (hz _ _)) d3, ⟨lr.h, z 1 (by decide), none_lt⟩, ap (la (la d3 (hz _ _)) d3) (hz _ _), ap (la (la (la d3 (hz _ _)) d3) (hz _ _)) d3, ?_⟩
  refine ⟨⟨lr.h, z 1 (by decide), none_lt⟩, 0, _, place0 hpos, sg_get hpos, lr, ap (hz _ _) (Nat.le_refl 1), sf 6 (by decide), ?_⟩
  have h13 : ∀ t ∈ onceT row cut, t.length ≤ 100 := by
    intro t ht
    have c1 : ∀ u, t = u → u.length ≤ 100 → t.length ≤ 100 := fun u e h => e ▸ h
    have g : ∀ {n : Nat}, t.length ≤ n → n ≤ 100 → t.length ≤ 100 := fun h h' => Nat.le_trans h h'
    rcases List.mem_append.mp ht with ht | ht
    · rcases List.mem_cons.mp ht with e | ht
      · exact c1 _ e (Nat.le_trans (la (la (hz _ _) d3) (hz _ _)) (by decide))
      rcases List.mem_cons.mp ht with e | ht
      · exact c1 _ e (Nat.le_trans (la (la (la d3 s1) d3) (hz _ _)) (by decide))
      rcases List.mem_cons.mp ht with e | ht
      · exact c1 _ e (Nat.le_trans (la (la (la (hz _ _) d3) s1) d3) (by decide))
      rcases List.mem_cons.mp ht with e | ht
      · exact c1 _ e (Nat.le_trans (la (la (la (la d3 s1) d3) s1) d3) (by decide))
      rcases List.mem_cons.mp ht with e | ht
      · exact c1 _ e (Nat.le_trans (la (la (la (la d3 (hz _ _)) d3) (hz _ _)) d3) (by decide))
      · exact c1 _ (List.mem_singleton.mp ht) (Nat.le_trans (la (hz _ _) (Nat.le_refl 1)) (by decide))
    · exact c1 _ (List.mem_singleton.mp ht) (Nat.le_trans (la (la (hz _ _) d3) (hz _ _)) (by decide))
  have fin : ∀ W T O : List V, W = (onceW row [sg row cut] (sliceL row (some (cut : Int)) none) (sliceL row none (some ((cut + 1 : Nat) : Int))) (sg row 0)).map V.str → wpSs C (b_law_once.drop 2) [.val (.str row), .val (iv cut), .val (.str [sg row cut]), .val (.str (sliceL row (some (cut : Int)) none)), .val (.list W), .unset, .unset] (fun _ => False) K := by
    rintro W T O rfl
    refine ⟨⟨rfl⟩, ⟨lr.h, none_lt, c1⟩, ap (hz _ _) d3, ap (la (hz _ _) d3) (hz _ _), sf 1 (by decide), sf 7 (by decide), sf 7 (by decide), ⟨show 7 ≤ 4000 by decide⟩, ?_⟩
    refine wpItems_map V.str (fun t => V.bool (ematch t row)) (onceT row cut) _ (fun t ht K' hK' => br_t (mt t (h13 t ht) row (by lia) _ hK')) ?_
    refine ⟨sf 7 (by decide), ?_⟩
    have e1 : (onceT row cut).map (fun t => V.bool (ematch t row)) = [false, false, false, false, false, false, true].map V.bool := by rw [← ho.t, List.map_map]; rfl
    refine eq_at (P := fun v => wpSs C (b_law_once.drop 3) [.val (.str row), .val (iv cut), .val (.str [sg row cut]), .val (.str (sliceL row (some (cut : Int)) none)), .val (.list ((onceW row [sg row cut] (sliceL row (some (cut : Int)) none) (sliceL row none (some ((cut + 1 : Nat) : Int))) (sg row 0)).map V.str)), .val (.list v), .unset] (fun _ => False) K) e1 ?_
    have rl : ([sg row cut] ++ dots).length ≤ 4 := la s1 d3
    have rp : ∀ n : Nat, n ≤ 3 → (rep ([sg row cut] ++ dots) (n : Int)).length ≤ 12 := fun n hn => by
      rw [rep, rep_lenG]
      exact Nat.le_trans (Nat.mul_le_mul hn rl) (by decide)
    refine ⟨⟨rfl⟩, sf 2 (by decide), sf 2 (by decide), ⟨show 2 ≤ 4000 by decide⟩, ?_⟩
    refine br_t ⟨ap s1 d3, ⟨by decide, by decide, show ([sg row cut] ++ dots).length * 2 ≤ 16000000 by lia⟩, ap d3 (rp 2 (by decide)), ap hw hw, mt _ (Nat.le_trans (la d3 (rp 2 (by decide))) (by decide)) _ (la hw hw) _ ?_⟩
    refine br_t ⟨ap s1 d3, ⟨by decide, by decide, show ([sg row cut] ++ dots).length * 3 ≤ 16000000 by lia⟩, ap d3 (rp 3 (by decide)), ap hw hw, mt _ (Nat.le_trans (la d3 (rp 3 (by decide))) (by decide)) _ (la hw hw) _ ?_⟩
    have o1 : ematch (dots ++ rep ([sg row cut] ++ dots) 2) (row ++ row) = true := (List.cons.inj ho.o).1
    have o2 : ematch (dots ++ rep ([sg row cut] ++ dots) 3) (row ++ row) = false := (List.cons.inj (List.cons.inj ho.o).2).1
    refine ⟨sf 2 (by decide), sf 1 (by decide), ⟨by decide, by decide, by decide⟩, sf 1 (by decide), sf 7 (by decide), ⟨rfl, rfl⟩, br_t ⟨sf 2 (by decide), ⟨rfl, rfl⟩, ?_⟩⟩
    refine eq_at (P := fun b => K (.bool (PyData.eqv (V.list [.bool b, .bool (ematch (dots ++ rep ([sg row cut] ++ dots) 3) (row ++ row))]).py (V.list [.bool true, .bool false]).py))) o1 ?_
    refine eq_at (P := fun b => K (.bool (PyData.eqv (V.list [.bool true, .bool b]).py (V.list [.bool true, .bool false]).py))) o2 ?_
    exact hk
  exact fin _ [] [] rfl
end Mine
namespace Mine
open PySem
noncomputable def pv (p : Nat × Nat) : V := .tup [iv p.1, .str [p.2]]
noncomputable def unitsP (p : Nat × Nat) : List (List Nat) := unitsOf p.1 [p.2]
noncomputable def kindNot3 (p : Nat × Nat) : Bool := !decide ((p.1 : Int) = 3)
noncomputable def unitsZ (ps : List (Nat × Nat)) : List (List Nat) := ps.flatMap unitsP
noncomputable def shownZ (ps : List (Nat × Nat)) : List (List Nat) := ps.flatMap fun p => if kindNot3 p then unitsP p else []
noncomputable def dueN (U : List (List Nat)) (k : Nat) : Nat × List Nat := ((joinL [] (U.take (k + 1))).length - 1, U.getD k [])
noncomputable def dueG (U : List (List Nat)) : List (Nat × List Nat) := (List.range U.length).map (dueN U) ++ [((joinL [] U).length + 1, [92, 92]), ((joinL [] U).length + 2, [92])]
structure TextOk (ps : List (Nat × Nat)) : Prop where
  esc : escG 0 (joinL [] (unitsZ ps) ++ [92, 92, 92]) = dueG (unitsZ ps)
  strip : strip (joinL [] (unitsZ ps) ++ [34, 40]) = joinL [] (shownZ ps) ++ [34, 40]
theorem zip_pv (ks ss : List Nat) : (((ks.map iv).zip ss).map fun p => V.tup [p.1, .str [p.2]]) = (ks.zip ss).map pv := by
  rw [List.zip_map_left, List.map_map]; rfl
structure Us (U : List (List Nat)) : Prop where
  p : ∀ u ∈ U, 1 ≤ u.length ∧ u.length ≤ 2 ∧ ∀ c ∈ u, c < 1000
theorem units_us {p : Nat × Nat} (h : p.1 < 4) (hs : p.2 < 1000) : Us (unitsP p) ∧ (unitsP p).length ≤ 5 := by
  obtain ⟨k, s⟩ := p
  have all : ∀ l : List (List Nat), (∀ u ∈ l, u = [40] ∨ u = [41] ∨ u = [92, s] ∨ u = [92, 41] ∨ u = [34] ∨ u = [92, 34]) → Us l := fun l h => ⟨fun u hu => by
    rcases h u hu with rfl | rfl | rfl | rfl | rfl | rfl
    · exact ⟨by decide, by decide, by decide⟩
    · exact ⟨by decide, by decide, by decide⟩
    · exact ⟨show 1 ≤ 2 by decide, Nat.le_refl 2, fun c hc => (List.mem_cons.mp hc).elim (fun e => by rw [e]; decide) fun h => by rw [List.mem_singleton.mp h]; exact hs⟩
    · exact ⟨by decide, by decide, by decide⟩
    · exact ⟨by decide, by decide, by decide⟩
    · exact ⟨by decide, by decide, by decide⟩⟩
  revert h
  refine fun h => lt4 (P := fun k => Us (unitsOf k [s]) ∧ (unitsOf k [s]).length ≤ 5) ?_ ?_ ?_ ?_ k h
  · exact ⟨all _ fun u hu => by simpa [unitsOf] using (by simp [unitsOf] at hu; rcases hu with rfl | rfl <;> simp), show 2 ≤ 5 by decide⟩
  · exact ⟨all _ fun u hu => by simpa [unitsOf] using (by simp [unitsOf] at hu; rcases hu with rfl | rfl <;> simp), show 2 ≤ 5 by decide⟩
  · exact ⟨all _ fun u hu => by simpa [unitsOf] using (by simp [unitsOf] at hu; rcases hu with rfl | rfl <;> simp), show 2 ≤ 5 by decide⟩
  · exact ⟨all _ fun u hu => by simpa [unitsOf] using (by simp [unitsOf] at hu; rcases hu with rfl | rfl | rfl | rfl | rfl <;> simp), Nat.le_refl 5⟩
theorem flat_us (f : Nat × Nat → List (List Nat)) : ∀ ps : List (Nat × Nat), (∀ p ∈ ps, Us (f p) ∧ (f p).length ≤ 5) → Us (ps.flatMap f) ∧ (ps.flatMap f).length ≤ ps.length * 5
  | [], _ => ⟨⟨fun u hu => nomatch hu⟩, Nat.zero_le _⟩
  | p :: r, h => by
    have h1 := h p List.mem_cons_self
    have h2 := flat_us f r fun q hq => h q (List.mem_cons_of_mem _ hq)
    rw [List.flatMap_cons]
    refine ⟨⟨fun u hu => (List.mem_append.mp hu).elim (h1.1.p u) (h2.1.p u)⟩, ?_⟩
    rw [List.length_append, List.length_cons, Nat.succ_mul, Nat.add_comm]
    exact Nat.add_le_add h2.2 h1.2
theorem Us.len {U : List (List Nat)} (h : Us U) : (joinL [] U).length ≤ U.length * 2 := joinL_len U fun w hw => (h.p w hw).2.1
theorem Us.take {U : List (List Nat)} (h : Us U) (k : Nat) : Us (U.take k) := ⟨fun u hu => h.p u (List.mem_of_mem_take hu)⟩
theorem Us.pos {U : List (List Nat)} (h : Us U) (hn : U ≠ []) : 1 ≤ (joinL [] U).length := by
  match U, h, hn with
  | [x], h, _ => exact (h.p x List.mem_cons_self).1
  | x :: y :: r, h, _ =>
    show 1 ≤ (x ++ [] ++ joinL [] (y :: r)).length
    have := (h.p x List.mem_cons_self).1
    rw [List.length_append, List.append_nil]; lia
noncomputable def ppy (p : Nat × List Nat) : PyData := .tuple [.int p.1, .str ⟨p.2.toArray⟩]
theorem pys_esc : ∀ L : List (Nat × List Nat), V.pys (L.map escP) = L.map ppy
  | [] => rfl
  | p :: r => congrArg (ppy p :: ·) (pys_esc r)
theorem lay_esc (L : List (Nat × List Nat)) (h : ∀ p ∈ L, ∀ c ∈ p.2, c < 1000) : (V.list (L.map escP)).lay = true := by
  unfold V.lay
  rw [V.py, pys_esc]
  have h1 : PyData.canLayAll0 (L.map ppy) = true := by
    induction L with
    | nil => rfl
    | cons w r ih =>
      rw [List.map_cons, PyData.canLayAll0, ih fun x hx => h x (List.mem_cons_of_mem _ hx), Bool.and_true, ppy, PyData.canLay0, PyData.canLayAll0, PyData.canLay0, PyData.canLayAll0, PyData.canLay0, PyData.canLayAll0, Bool.true_and, Bool.and_true]
      show (w.2.toArray).all (· < 0x110000) = true
      rw [List.all_toArray, List.all_eq_true]
      intro c hc
      have := h w List.mem_cons_self c hc
      exact decide_eq_true (by lia)
  have h2 : ∀ L : List (Nat × List Nat), PyData.depthAll (L.map ppy) ≤ 1 := by
    intro L
    induction L with
    | nil => exact Nat.zero_le _
    | cons w r ih =>
      rw [List.map_cons, PyData.depthAll, ppy, PyData.depth]
      simp only [PyData.depthAll, PyData.depth]
      lia
  have := h2 L
  refine Bool.and_eq_true_iff.mpr ⟨by rw [PyData.canLay0]; exact h1, decide_eq_true ?_⟩
  rw [PyData.depth]
  lia
theorem eqv_self (v : V) (h : v.lay = true) : PyData.eqv v.py v.py = true := SeqAt.eqv_refl v.py ((Bool.and_eq_true_iff.mp h).1)
end Mine
namespace Mine
open PySem
inductive StripP (vs : List V) (K : V → Prop) : Prop
  | mk (s : List Nat) (h : vs = [.str s]) (l : s.length ≤ 1000) (k : K (.str (strip s)))
inductive TextP (vs : List V) (K : V → Prop) : Prop
  | mk (ks ss : List Nat) (h : vs = [.list (ks.map iv), .str ss]) (hk : ∀ k ∈ ks, k < 4) (hs : ∀ c ∈ ss, c < 1000) (ln : ks.length ≤ 6) (t : TextOk (ks.zip ss)) (k : K (.bool true))
noncomputable def r_units : LD := cClause (.one 8) (iVal (xCall 11 [(xVar 6), (xVar 7)])) [] (cDone (xVar 8))
section
variable (C : Cx) (h11 : ∀ vs K', UnitsP vs K' → C.call 11 vs K')
include h11
theorem rest_units (p : Nat × Nat) (h4 : p.1 < 4) (hs : p.2 < 1000) (s0 s1 s2 s3 s4 s5 s8 : Slot) (K' : List V → Prop) (h : K' ((unitsP p).map V.str)) : r_units C [s0, s1, s2, s3, s4, s5, .val (iv p.1), .val (.str [p.2]), s8] K' := by
  have hu := (units_us h4 hs).2
  have l : ((unitsP p).map V.str).length ≤ 5 := ml hu
  exact h11 _ _ ⟨p.1, [p.2], rfl, h4, (show 1 ≤ 10 by decide), len_side l, len_side4 l, wpItems_map V.str V.str (unitsP p) K' (fun u _ K' hK' => br_t hK') h⟩
variable (ks ss : List Nat) (hk : ∀ k ∈ ks, k < 4) (hs : ∀ c ∈ ss, c < 1000) (ln : ks.length ≤ 6)
include hk hs ln
omit h11 in
theorem ps_ok : ∀ p ∈ ks.zip ss, p.1 < 4 ∧ p.2 < 1000 := fun p hp => ⟨hk _ (List.of_mem_zip hp).1, hs _ (List.of_mem_zip hp).2⟩
omit h11 hk hs in
theorem zip_len : (ks.zip ss).length ≤ 6 := by rw [List.length_zip]; exact Nat.le_trans (Nat.min_le_left _ _) ln
theorem comp_units (s2 s3 s4 s5 : Slot) (K : V → Prop) (h : K (.list ((unitsZ (ks.zip ss)).map V.str))) : (xComp 3 [] (cClause (.tup [6, 7]) (iZip (xVar 0) (xVar 1)) [] r_units)).E C [.val (.list (ks.map iv)), .val (.str ss), s2, s3, s4, s5] K := by
  have hp := ps_ok ks ss hk hs ln
  have zl := zip_len ks ss ln
  have fl := (flat_us unitsP (ks.zip ss) fun p h => units_us (hp p h).1 (hp p h).2).2
  have zl' : ((ks.zip ss).map pv).length ≤ 6 := ml zl
  refine ⟨⟨rfl⟩, eq_at (P := fun items : List V => Side (items.length ≤ 4000) ∧ wpItems (bodyC C (.tup [6, 7]) [] r_units [.val (.list (ks.map iv)), .val (.str ss), s2, s3, s4, s5, .unset, .unset, .unset]) items fun vs => Side (vs.length ≤ strMax) ∧ K (.list vs)) (zip_pv ks ss) ⟨len_side4 zl', ?_⟩⟩
  refine wpItems_flat pv unitsP V.str (ks.zip ss) _ (fun p hm K' hK' => ⟨rfl, br_t (rest_units C h11 p (hp p hm).1 (hp p hm).2 _ _ _ _ _ _ _ K' hK')⟩) ⟨len_side (ml (Nat.le_trans fl (Nat.mul_le_mul_right 5 zl))), h⟩
theorem comp_shown (s2 s3 s4 s5 : Slot) (K : V → Prop) (h : K (.list ((shownZ (ks.zip ss)).map V.str))) : (xComp 3 [] (cClause (.tup [6, 7]) (iZip (xVar 0) (xVar 1)) [(xBin cNe (xVar 6) (xInt 3))] r_units)).E C [.val (.list (ks.map iv)), .val (.str ss), s2, s3, s4, s5] K := by
  have hp := ps_ok ks ss hk hs ln
  have zl := zip_len ks ss ln
  have fl := (flat_us (fun p => if kindNot3 p then unitsP p else []) (ks.zip ss) fun p h => by
    split
    · exact units_us (hp p h).1 (hp p h).2
    · exact ⟨⟨fun u hu => nomatch hu⟩, Nat.zero_le _⟩).2
  have zl' : ((ks.zip ss).map pv).length ≤ 6 := ml zl
  refine ⟨⟨rfl⟩, eq_at (P := fun items : List V => Side (items.length ≤ 4000) ∧ wpItems (bodyC C (.tup [6, 7]) [(xBin cNe (xVar 6) (xInt 3))] r_units [.val (.list (ks.map iv)), .val (.str ss), s2, s3, s4, s5, .unset, .unset, .unset]) items fun vs => Side (vs.length ≤ strMax) ∧ K (.list vs)) (zip_pv ks ss) ⟨len_side4 zl', ?_⟩⟩
  refine wpItems_flat pv (fun p => if kindNot3 p then unitsP p else []) V.str (ks.zip ss) _ (fun p hm K' hK' => ⟨rfl, ?_⟩) ⟨len_side (ml (Nat.le_trans fl (Nat.mul_le_mul_right 5 zl))), h⟩
  refine ⟨fun q => br_t (rest_units C h11 p (hp p hm).1 (hp p hm).2 _ _ _ _ _ _ _ K' ?_), fun q => br_f ?_⟩
  · rw [if_pos (show kindNot3 p = true from q)] at hK'; exact hK'
  · rw [if_neg (by rw [show kindNot3 p = false from q]; decide)] at hK'; exact hK'
end
noncomputable def x_due : LD := cDone (xTup [(xBin bSub (xBi biLen [(xMeth mJoin (xStr []) [(xSlice (xVar 2) xNone (xBin bAdd (xVar 6) (xInt 1)))])]) (xInt 1)), (xItem (xVar 2) (xVar 6))])
theorem comp_due (C : Cx) (U : List (List Nat)) (hU : Us U) (hl : U.length ≤ 30) (s0 s1 s3 s4 s5 : Slot) (K : V → Prop) (h : K (.list (((List.range U.length).map (dueN U)).map escP))) :
    (xComp 1 [2] (cClause (.one 6) (iRange [(xBi biLen [(xVar 2)])]) [] x_due)).E C [s0, s1, .val (.list (U.map V.str)), s3, s4, s5] K := by
  have el : (U.map V.str).length = U.length := List.length_map _
  have l := len_side (ml (f := V.str) hl)
  rw [List.map_map] at h
  refine ⟨⟨rfl⟩, l, ⟨by lia, by lia⟩, eq_at (P := fun v => Side (v.length ≤ 4000) ∧ wpItems (bodyC C (.one 6) [] x_due [s0, s1, .val (.list (U.map V.str)), s3, s4, s5, .unset]) v fun vs => Side (vs.length ≤ strMax) ∧ K (.list vs)) (rangeUp (U.map V.str).length) ⟨len_side4 (ml (by rw [List.length_range, el]; exact hl)), ?_⟩⟩
  rw [el]
  refine wpItems_map iv (escP ∘ dueN U) (List.range U.length) _ (fun k hk K' hK' => br_t ?_) ⟨len_side (ml (by rw [List.length_range]; exact hl)), h⟩
  have hk := List.mem_range.mp hk
  have hT := hU.take (k + 1)
  have hne : U.take (k + 1) ≠ [] := fun q => by
    have := congrArg List.length q
    rw [List.length_take, List.length_nil] at this
    lia
  have hpos := hT.pos hne
  have hlen := hT.len
  have htl : (U.take (k + 1)).length ≤ 30 := Nat.le_trans (List.length_take_le' _ _) hl
  have e1 : sliceL (U.map V.str) none (some ((k + 1 : Nat) : Int)) = (U.take (k + 1)).map V.str := (sliceTo (U.map V.str) (k + 1)).trans List.map_take.symm
  have hg : (U.map V.str)[k]? = some (.str (U.getD k [])) := map_at hk
  have e2 : ((joinL [] (U.take (k + 1))).length : Int) - 1 = (((joinL [] (U.take (k + 1))).length - 1 : Nat) : Int) := by lia
  have hK2 : K' [V.tup [.int (((joinL [] (U.take (k + 1))).length : Int) - 1), .str (U.getD k [])]] := by rw [e2]; exact hK'
  exact ⟨⟨rfl⟩, ⟨l.h, none_lt, some_lt (show ((k : Int) + 1).natAbs < 2 ^ 60 by lia)⟩, U.take (k + 1), e1, ⟨(len_side (m := 60) (by lia)).h, Nat.zero_le _⟩, len_side (m := 60) (by lia), k, _, place_nat (el.symm ▸ hk), hg, l, sf 2 (by decide), hK2⟩
theorem wp_text (C : Cx) (ks ss : List Nat) (hk : ∀ k ∈ ks, k < 4) (hs : ∀ c ∈ ss, c < 1000) (ln : ks.length ≤ 6) (t : TextOk (ks.zip ss)) (K : V → Prop) (h11 : ∀ vs K', UnitsP vs K' → C.call 11 vs K') (h7 : ∀ vs K', StripP vs K' → C.call 7 vs K') (hg : ∀ (s : List Nat) (K' : List V → Prop), s.length ≤ 1000 → K' (escV s) → C.gen 0 [.str s] K') (hK : K (.bool true)) :
    wpSs C b_law_text [.val (.list (ks.map iv)), .val (.str ss), .unset, .unset, .unset, .unset] (fun _ => False) K := by
  have hp := ps_ok ks ss hk hs ln
  have zl := zip_len ks ss ln
  obtain ⟨hU, fl⟩ := flat_us unitsP (ks.zip ss) fun p h => units_us (hp p h).1 (hp p h).2
  obtain ⟨hS, fs⟩ := flat_us (fun p => if kindNot3 p then unitsP p else []) (ks.zip ss) fun p h => by
    split
    · exact units_us (hp p h).1 (hp p h).2
    · exact ⟨⟨fun u hu => nomatch hu⟩, Nat.zero_le _⟩
  have uesc := t.esc
  have ustr := t.strip
  refine comp_units C h11 ks ss hk hs ln _ _ _ _ _ (comp_shown C h11 ks ss hk hs ln _ _ _ _ _ ?_)
  have fl : (unitsZ (ks.zip ss)).length ≤ 30 := Nat.le_trans fl (Nat.mul_le_mul_right 5 zl)
  have fs : (shownZ (ks.zip ss)).length ≤ 30 := Nat.le_trans fs (Nat.mul_le_mul_right 5 zl)
  have hU : Us (unitsZ (ks.zip ss)) := hU
  have hS : Us (shownZ (ks.zip ss)) := hS
  generalize unitsZ (ks.zip ss) = U at uesc ustr fl hU
  generalize shownZ (ks.zip ss) = S at ustr fs hS
  have lu := hU.len
  have lsh := hS.len
  have ltx : Side ((joinL [] U).length ≤ strMax) := len_side (m := 60) (by lia)
  refine ⟨⟨rfl⟩, U, rfl, ⟨ltx.h, Nat.zero_le _⟩, comp_due C U hU fl _ _ _ _ _ _ ?_⟩
  have hdl : (((List.range U.length).map (dueN U)).map escP).length ≤ 30 := ml (ml (by rw [List.length_range]; exact fl))
  refine ⟨ltx, sf 2 (by decide), ltx, sf 2 (by decide), sf 2 (by decide), ap hdl (Nat.le_refl 2), ?_⟩
  have hc : ∀ p ∈ dueG U, ∀ c ∈ p.2, c < 1000 := by
    intro p hp c hc
    rcases List.mem_append.mp hp with h | h
    · obtain ⟨k, hk, rfl⟩ := List.mem_map.mp h
      have hk := List.mem_range.mp hk
      exact (hU.p _ (getD_mem hk).2).2.2 c hc
    · rcases List.mem_cons.mp h with rfl | h
      · exact (by decide : ∀ c ∈ [92, 92], c < 1000) c hc
      · rw [List.mem_singleton.mp h] at hc
        exact (by decide : ∀ c ∈ [92], c < 1000) c hc
  have lay := lay_esc (dueG U) hc
  have dl : ((dueG U).map escP).length ≤ 32 := ml (show ((List.range U.length).map (dueN U) ++ [((joinL [] U).length + 1, [92, 92]), ((joinL [] U).length + 2, [92])]).length ≤ 30 + 2 from la (ml (by rw [List.length_range]; exact fl)) (Nat.le_refl 2))
  have gen0 : ∀ K' : List V → Prop, K' ((dueG U).map escP) → C.gen 0 [.str (joinL [] U ++ [92, 92, 92])] K' := fun K' h => hg _ K' (by rw [List.length_append]; show _ + 3 ≤ _; lia) (by
    have e : escV (joinL [] U ++ [92, 92, 92]) = (dueG U).map escP := congrArg (List.map escP) uesc
    rw [e]; exact h)
  have fin : ∀ D : List V, D = (dueG U).map escP → wpSs C (b_law_text.drop 5) [.val (.list (ks.map iv)), .val (.str ss), .val (.list (U.map V.str)), .val (.list (S.map V.str)), .val (.str (joinL [] U)), .val (.list D)] (fun _ => False) K := by
    rintro D rfl
    refine ⟨ap (m := 60) (n := 3) (by lia) (Nat.le_refl 3), gen0 _ ⟨len_side dl, ⟨lay, lay⟩, br_not (fun q => ?_) fun _ => ?_⟩⟩
    · exact absurd (q.symm.trans (eqv_self _ lay)) (by decide)
    · refine ⟨ap (m := 60) (n := 2) (by lia) (Nat.le_refl 2), h7 _ _ ⟨joinL [] U ++ [34, 40], rfl, ?_, ⟨rfl⟩, S, rfl, ⟨(len_side (m := 60) (by lia)).h, Nat.zero_le _⟩, ap (m := 60) (n := 2) (by lia) (Nat.le_refl 2), ?_⟩⟩
      · rw [List.length_append]; show _ + 2 ≤ _; lia
      · show K (.bool (decide (strip (joinL [] U ++ [34, 40]) = joinL [] S ++ [34, 40])))
        rw [ustr, decide_eq_true rfl]; exact hK
  refine fin _ ?_
  unfold dueG
  rw [List.map_append]; rfl
end Mine
namespace Mine
open PySem
theorem nab_mul {x y : Int} {k l : Nat} (hx : x.natAbs < 2 ^ k) (hy : y.natAbs < 2 ^ l) : (x * y).natAbs < 2 ^ (k + l) := by
  rw [Int.natAbs_mul, Nat.pow_add]
  exact Nat.mul_lt_mul'' hx hy
theorem nab_add {x y : Int} {k : Nat} (hx : x.natAbs < 2 ^ k) (hy : y.natAbs < 2 ^ k) : (x + y).natAbs < 2 ^ (k + 1) := by
  have := Int.natAbs_add_le x y
  rw [Nat.pow_succ]; lia
theorem nab_up {x : Int} {k l : Nat} (hx : x.natAbs < 2 ^ k) (h : k ≤ l) : x.natAbs < 2 ^ l := Nat.lt_of_lt_of_le hx (Nat.pow_le_pow_right (by decide) h)
theorem nab_small {x : Int} {n l : Nat} (hx : x.natAbs ≤ n) (h : n < 2 ^ l) : x.natAbs < 2 ^ l := Nat.lt_of_le_of_lt hx h
theorem fdm_uniq (b q r : Int) (h : (0 < b ∧ 0 ≤ r ∧ r < b) ∨ (b < 0 ∧ b < r ∧ r ≤ 0)) : (b * q + r).fdiv b = q ∧ (b * q + r).fmod b = r := by
  have hb0 : b ≠ 0 := by lia
  have hr : r.fdiv b = 0 := by
    rcases h with ⟨a, b', c⟩ | ⟨a, b', c⟩
    · rw [Int.fdiv_eq_ediv_of_nonneg _ (by lia)]; exact Int.ediv_eq_zero_of_lt b' c
    · rw [← Int.neg_fdiv_neg r b, Int.fdiv_eq_ediv_of_nonneg _ (by lia)]; exact Int.ediv_eq_zero_of_lt (by lia) (by lia)
  have hq : (b * q + r).fdiv b = q := by
    rw [Int.add_comm, Int.add_mul_fdiv_left _ _ hb0, hr]; lia
  refine ⟨hq, ?_⟩
  rw [Int.fmod_def, hq]; lia
structure PM (t : Int) : Prop where
  h : t = 1 ∨ t = -1
theorem PM.sq {t : Int} (h : PM t) (x : Int) : t * (t * x) = x := by rcases h.h with rfl | rfl <;> lia
theorem PM.abs {t : Int} (h : PM t) : t.natAbs < 2 ^ 1 := by rcases h.h with rfl | rfl <;> decide
theorem stage_div (t N G P L : Int) (ht : PM t) (hG : 0 < G) (hL : 0 ≤ L) (hP : L < P) :
    (t * (N * P + L)).fdiv (t * G * P) = N.fdiv G ∧ (t * (N * P + L)).fmod (t * G * P) = t * (N.fmod G * P + L) ∧ t * G * P ≠ 0 := by
  have h0 := Int.fmod_nonneg_of_pos N hG
  have h1 := Int.fmod_lt_of_pos N hG
  have eN : N = G * N.fdiv G + N.fmod G := by rw [Int.fmod_def]; lia
  generalize N.fdiv G = q at eN ⊢
  generalize N.fmod G = r at eN h0 h1 ⊢
  subst eN
  have hP0 : 0 < P := by lia
  have hGP : 0 < G * P := Int.mul_pos hG hP0
  have hrP : 0 ≤ r * P := Int.mul_nonneg h0 (Int.le_of_lt hP0)
  have hle : (r + 1) * P ≤ G * P := Int.mul_le_mul_of_nonneg_right (by lia) (Int.le_of_lt hP0)
  rw [Int.add_mul, Int.one_mul] at hle
  have e : t * ((G * q + r) * P + L) = t * G * P * q + t * (r * P + L) := by
    rw [Int.add_mul, Int.mul_assoc t G P, Int.mul_assoc t, ← Int.mul_add, Int.mul_right_comm G q P, Int.add_assoc]
  rw [e]
  have hu := fdm_uniq (t * G * P) q (t * (r * P + L)) (by
    rcases ht.h with rfl | rfl
    · left; rw [Int.one_mul, Int.one_mul]; lia
    · right; rw [Int.neg_mul, Int.neg_mul, Int.neg_mul, Int.one_mul, Int.one_mul]; lia)
  refine ⟨hu.1, hu.2, ?_⟩
  rcases ht.h with rfl | rfl
  · rw [Int.one_mul]; lia
  · rw [Int.neg_mul, Int.neg_mul, Int.one_mul]; lia
theorem fdiv_abs (N G : Int) (hG : 0 < G) : (N.fdiv G).natAbs ≤ N.natAbs := by
  rw [Int.fdiv_eq_ediv_of_nonneg _ (Int.le_of_lt hG)]
  exact Int.natAbs_ediv_le_natAbs N G
noncomputable def figs (L : Int) (g : Nat) : List Int := if g = 0 then [L] else [L, (g : Int)]
theorem figs_is {w : Nat} {L a : Int} {g : Nat} {ds : List Int} (h : IsD w a ds) (hL : 0 < L) (hw : L < 2 ^ w) (hg : (g : Int) < 2 ^ w) (ha : a = (g : Int) * 2 ^ w + L) : ds = figs L g := by
  have fL : ∀ d ∈ figs L g, 0 ≤ d ∧ d < 2 ^ w := by
    intro d hd
    unfold figs at hd
    split at hd
    · rw [List.mem_singleton.mp hd]; lia
    · rcases List.mem_cons.mp hd with rfl | hd
      · lia
      · rw [List.mem_singleton.mp hd]; exact ⟨Int.natCast_nonneg g, hg⟩
  have fl : (figs L g).getLast? ≠ some 0 := by
    unfold figs
    split
    · intro q; have : L = 0 := Option.some.inj q; lia
    · next h0 => intro q; have : (g : Int) = 0 := Option.some.inj q; lia
  have fv : ofD w (figs L g) = a := by
    unfold figs
    split
    · next h0 => rw [ofD, ofD, ha, h0]; simp
    · show L + 2 ^ w * ((g : Int) + 2 ^ w * 0) = a
      rw [ha, Int.mul_zero, Int.add_zero, Int.mul_comm (g : Int), Int.add_comm]
  exact isD_uniq h.figs fL h.top fl (h.val.trans fv.symm)
end Mine
namespace Mine
open PySem
noncomputable def tailsX (G : Int) : List (List Nat) := [rep [41] (G - 1), rep [41] G, rep [41] G ++ [40], [40]]
structure ChkOk (fr : List Nat) (m : Nat) : Prop where
  t : (tailsX ((m + 1 : Nat) : Int)).map (fun t => chk (fr ++ t)) = [true, false, false, false]
noncomputable def StOk : List (Nat × Nat) → List (List Nat) → List Nat → Prop
  | [], bs, fr => 1 ≤ bs.length ∧ bs.length ≤ 20
  | p :: r, bs, fr => Bss bs ∧ 2 ≤ bs.length ∧ p.1 < 4 ∧ p.2 < 1000 ∧ fr.length ≤ 100 ∧ ChkOk fr (bs.length - 2) ∧ ∀ g, g + 1 < bs.length → StOk r (putB bs g p.1 [p.2]) (fr ++ joinL [] (unitsP p))
noncomputable def gapOf (bs : List (List Nat)) (N : Int) : Nat := (N.fmod ((bs.length : Int) - 1)).toNat
noncomputable def stagesG : List (Nat × Nat) → List (List Nat) → Int → List Stp
  | [], _, _ => []
  | p :: r, bs, N => ⟨bs, gapOf bs N, p.1, [p.2]⟩ :: stagesG r (putB bs (gapOf bs N) p.1 [p.2]) (N.fdiv ((bs.length : Int) - 1))
noncomputable def endG : List (Nat × Nat) → List (List Nat) → Int → List (List Nat) × Int
  | [], bs, N => (bs, N)
  | p :: r, bs, N => endG r (putB bs (gapOf bs N) p.1 [p.2]) (N.fdiv ((bs.length : Int) - 1))
noncomputable def stagesV (ps : List (Nat × Nat)) (N : Int) : V := .tup [.list ((stagesG ps [[], []] N).map stepV), .str ((endG ps [[], []] N).1.getD 0 []), .int (endG ps [[], []] N).2]
noncomputable def l_stage : List SD := [sAssign 11 (rVal (xBin bSub (xBi biLen [(xVar 6)]) (xInt 1))), sAssign 12 (rVal (xList [(xBin bMul (xStr [41]) (xBin bSub (xVar 11) (xInt 1))), (xBin bMul (xStr [41]) (xVar 11)), (xBin bAdd (xBin bMul (xStr [41]) (xVar 11)) (xStr [40])), (xStr [40])])), sAssign 13 (rVal (xComp 1 [7] (cClause (.one 17) (iVal (xVar 12)) [] (cDone (xCall 8 [(xBin bAdd (xVar 7) (xVar 17))]))))), sIf (xOr (xBin cIsnot (xItem (xVar 13) (xInt 0)) (xBool true)) (xBin cNe (xComp 1 [] (cClause (.one 17) (iVal (xSlice (xVar 13) (xInt 1) xNone)) [(xBin cIsnot (xVar 17) (xBool false))] (cDone (xVar 17)))) (xList []))) [sRet xNone] [], sAssignT [2, 14] (xCall 6 [(xBin bMul (xVar 5) (xBin bAdd (xBin bMul (xVar 2) (xBin bPow (xInt 2) (xVar 4))) (xVar 3))), (xBin bMul (xBin bMul (xVar 5) (xVar 11)) (xBin bPow (xInt 2) (xVar 4)))]), sAssign 15 (rVal (xCall 3 [(xBin bMul (xVar 5) (xVar 14)), (xVar 4)])), sAssign 16 (rVal (xIte (xBin cEq (xBi biLen [(xVar 15)]) (xInt 2)) (xItem (xVar 15) (xInt 1)) (xInt 0))), sIf (xOr (xBin cNe (xCall 4 [(xList [(xVar 3), (xVar 16)]), (xVar 4)]) (xBin bMul (xVar 5) (xVar 14))) (xBin cGe (xVar 16) (xVar 11))) [sRet xNone] [], sAppend 8 (xTup [(xVar 6), (xVar 16), (xVar 9), (xVar 10)]), sAssign 6 (rVal (xCall 12 [(xVar 6), (xVar 16), (xVar 9), (xVar 10)])), sAug 7 gAdd (xMeth mJoin (xStr []) [(xCall 11 [(xVar 9), (xVar 10)])])]
noncomputable abbrev sgR (ss : List Nat) (kk : List V) (N L : Int) (w : Nat) (t : Int) (bs : List (List Nat)) (fr : List Nat) (acc : List Stp) (r : List Slot) : Rho := .val (.str ss) :: .val (.list kk) :: .val (.int N) :: .val (.int L) :: .val (iv w) :: .val (.int t) :: .val (.list (bs.map V.str)) :: .val (.str fr) :: .own (acc.map stepV) :: r
section
variable (C : Cx) (ss : List Nat) (kk : List V) (N L : Int) (w : Nat) (t : Int) (bs : List (List Nat)) (fr : List Nat) (acc : List Stp) (p : Nat × Nat) (K' : Rho → Prop) (KR : V → Prop)
theorem stA (m : Nat) (hm : bs.length = m + 2) (hm20 : bs.length ≤ 20) (hfr : fr.length ≤ 100) (hc : ChkOk fr m) (h8 : ∀ vs K, ChkP vs K → C.call 8 vs K) (s9 s10 s11 s12 s13 s14 s15 s16 : Slot)
    (next : ∀ G : Int, G = ((m + 1 : Nat) : Int) → ∀ x12 x13 : Slot, wpSs C (l_stage.drop 4) (sgR ss kk N L w t bs fr acc [s9, s10, .val (.int G), x12, x13, s14, s15, s16]) K' KR) :
    wpSs C l_stage (sgR ss kk N L w t bs fr acc [s9, s10, s11, s12, s13, s14, s15, s16]) K' KR := by
  have el : (bs.map V.str).length = bs.length := List.length_map _
  have go : ∀ G : Int, G = ((m + 1 : Nat) : Int) → wpSs C (l_stage.drop 1) (sgR ss kk N L w t bs fr acc [s9, s10, .val (.int G), s12, s13, s14, s15, s16]) K' KR := by
    rintro G rfl
    have r1 : (rep [41] (((m + 1 : Nat) : Int) - 1)).length ≤ 20 := by rw [rep_len]; lia
    have r2 : (rep [41] ((m + 1 : Nat) : Int)).length ≤ 20 := by rw [rep_len]; lia
    have f1 : RepFit 1 (((m + 1 : Nat) : Int) - 1) := ⟨by lia, by lia, by show 1 * _ ≤ 16000000; lia⟩
    have f2 : RepFit 1 ((m + 1 : Nat) : Int) := ⟨by lia, by lia, by show 1 * _ ≤ 16000000; lia⟩
    have tl : ∀ x ∈ tailsX ((m + 1 : Nat) : Int), x.length ≤ 21 := by
      intro x hx
      have c1 : ∀ u, x = u → u.length ≤ 21 → x.length ≤ 21 := fun u e h => e ▸ h
      rcases List.mem_cons.mp hx with e | hx
      · exact c1 _ e (Nat.le_trans r1 (by decide))
      rcases List.mem_cons.mp hx with e | hx
      · exact c1 _ e (Nat.le_trans r2 (by decide))
      rcases List.mem_cons.mp hx with e | hx
      · exact c1 _ e (la (m := 20) (n := 1) r2 (Nat.le_refl 1))
      · exact c1 _ (List.mem_singleton.mp hx) (show 1 ≤ 21 by decide)
    have e1 : (tailsX ((m + 1 : Nat) : Int)).map (fun t => V.bool (chk (fr ++ t))) = [true, false, false, false].map V.bool := by rw [← hc.t, List.map_map]; rfl
    refine ⟨⟨f1⟩, ⟨f2⟩, ⟨f2⟩, ap r2 (Nat.le_refl 1), sf 4 (by decide), ⟨rfl⟩, sf 4 (by decide), ⟨show 4 ≤ 4000 by decide⟩, ?_⟩
    refine wpItems_map V.str (fun t => V.bool (chk (fr ++ t))) (tailsX ((m + 1 : Nat) : Int)) _ (fun x hx K2 hK2 => br_t ⟨ap hfr (tl x hx), h8 _ _ ⟨fr ++ x, rfl, Nat.le_trans (la hfr (tl x hx)) (by decide), hK2⟩⟩) ⟨sf 4 (by decide), ?_⟩
    refine eq_at (P := fun v => wpSs C (l_stage.drop 3) (sgR ss kk N L w t bs fr acc [s9, s10, .val (.int ((m + 1 : Nat) : Int)), .val (.list ((tailsX ((m + 1 : Nat) : Int)).map V.str)), .val (.list v), s14, s15, s16]) K' KR) e1 ?_
    refine ⟨0, _, rfl, rfl, sf 4 (by decide), br_f ⟨⟨rfl⟩, ⟨show 4 ≤ 16000000 by decide, some_lt (by decide), none_lt⟩, sf 3 (by decide), ⟨show 3 ≤ 4000 by decide⟩, ?_⟩⟩
    refine wpItems_flat V.bool (fun _ => ([] : List V)) id [false, false, false] _ (fun b hb K2 hK2 => ?_) ⟨sf 0 (by decide), sf 0 (by decide), ⟨lay_nil, lay_nil⟩, br_f (next _ rfl _ _)⟩
    have hb : b = false := by
      rcases List.mem_cons.mp hb with rfl | hb; · rfl
      rcases List.mem_cons.mp hb with rfl | hb; · rfl
      exact List.mem_singleton.mp hb
    subst hb
    exact br_f (br_f hK2)
  exact ⟨len_side (m := 20) (ml hm20), go _ (by lia)⟩
end
end Mine
namespace Mine
open PySem
section
variable (C : Cx) (ss : List Nat) (kk : List V) (N L : Int) (w : Nat) (t : Int) (bs : List (List Nat)) (fr : List Nat) (acc : List Stp) (p : Nat × Nat) (K' : Rho → Prop) (KR : V → Prop) (hw0 : 36 ≤ w) (hw : w ≤ 4435) (ht : PM t) (hL0 : 0 < L) (hL : L < 2 ^ w) (hN : N.natAbs < 2 ^ 10000) (G : Int) (hG : 0 < G) (hG20 : G ≤ 20)
include hw0 hw ht hL0 hL hN hG hG20
theorem stB (h6 : ∀ vs K, DivP vs K → C.call 6 vs K) (s9 s10 s12 s13 s14 s15 s16 : Slot)
    (next : wpSs C (l_stage.drop 5) (sgR ss kk (N.fdiv G) L w t bs fr acc [s9, s10, .val (.int G), s12, s13, .val (.int (t * (N.fmod G * 2 ^ w + L))), s15, s16]) K' KR) :
    wpSs C (l_stage.drop 4) (sgR ss kk N L w t bs fr acc [s9, s10, .val (.int G), s12, s13, s14, s15, s16]) K' KR := by
  have hP : ((2 : Int) ^ w).natAbs < 2 ^ (w + 1) := two_nat w
  have hP' : ((2 : Int) ^ w).natAbs < 2 ^ 4436 := nab_up hP (by lia)
  have hLa : L.natAbs < 2 ^ 4436 := by
    have : L.natAbs < ((2 : Int) ^ w).natAbs + 1 := by lia
    lia
  have b1 : (N * 2 ^ w).natAbs < 2 ^ (10000 + 4436) := nab_mul hN hP'
  have b2 : (N * 2 ^ w + L).natAbs < 2 ^ (10000 + 4436 + 1) := nab_add b1 (nab_up hLa (by decide))
  have b3 : (t * (N * 2 ^ w + L)).natAbs < 2 ^ (1 + (10000 + 4436 + 1)) := nab_mul ht.abs b2
  have g1 : G.natAbs < 2 ^ 5 := nab_small (n := 20) (by lia) (by decide)
  have b4 : (t * G).natAbs < 2 ^ (1 + 5) := nab_mul ht.abs g1
  have b5 : (t * G * 2 ^ w).natAbs < 2 ^ (1 + 5 + 4436) := nab_mul b4 hP'
  obtain ⟨d1, d2, d3⟩ := stage_div t N G (2 ^ w) L ht hG (Int.le_of_lt hL0) hL
  have pw : Side ((2 : Int) = 2 ∧ (0 : Int) ≤ (w : Int) ∧ (w : Int) ≤ 60000000) := ⟨rfl, Int.natCast_nonneg w, by lia⟩
  have fin : ∀ x y : Int, x = N.fdiv G → y = t * (N.fmod G * 2 ^ w + L) → wpSs C (l_stage.drop 5) (sgR ss kk x L w t bs fr acc [s9, s10, .val (.int G), s12, s13, .val (.int y), s15, s16]) K' KR := by
    rintro x y rfl rfl; exact next
  exact ⟨pw, ⟨10000, 4436, hN, hP', by decide⟩, ⟨1, _, ht.abs, b2, by decide⟩, ⟨1, 5, ht.abs, g1, by decide⟩, pw, ⟨_, 4436, b4, hP', by decide⟩, h6 _ _ ⟨t * (N * 2 ^ w + L), t * G * 2 ^ w, rfl, d3, nab_up b3 (by decide), nab_up b5 (by decide), rfl, fin _ _ d1 d2⟩⟩
theorem stC (g : Nat) (hg : (g : Int) < G) (R : Int) (hR : R = t * ((g : Int) * 2 ^ w + L)) (h3 : ∀ vs K, I2D vs K → C.call 3 vs K) (h4 : ∀ vs K, D2I vs K → C.call 4 vs K) (s9 s10 s12 s13 s15 s16 : Slot)
    (next : ∀ x15 : Slot, wpSs C (l_stage.drop 8) (sgR ss kk N L w t bs fr acc [s9, s10, .val (.int G), s12, s13, .val (.int R), x15, .val (iv g)]) K' KR) :
    wpSs C (l_stage.drop 5) (sgR ss kk N L w t bs fr acc [s9, s10, .val (.int G), s12, s13, .val (.int R), s15, s16]) K' KR := by
  have hP : ((2 : Int) ^ w).natAbs < 2 ^ (w + 1) := two_nat w
  have hP' : ((2 : Int) ^ w).natAbs < 2 ^ 4436 := nab_up hP (by lia)
  have hLa : L.natAbs < 2 ^ 4436 := by
    have : L.natAbs < ((2 : Int) ^ w).natAbs + 1 := by lia
    lia
  have g1 : (g : Int).natAbs < 2 ^ 5 := nab_small (n := 20) (by lia) (by decide)
  have b1 : ((g : Int) * 2 ^ w).natAbs < 2 ^ (5 + 4436) := nab_mul g1 hP'
  have b2 : ((g : Int) * 2 ^ w + L).natAbs < 2 ^ (5 + 4436 + 1) := nab_add b1 (nab_up hLa (by decide))
  have b3 : R.natAbs < 2 ^ (1 + (5 + 4436 + 1)) := hR ▸ nab_mul ht.abs b2
  have eA : t * R = (g : Int) * 2 ^ w + L := by rw [hR]; exact ht.sq _
  have hA0 : 0 ≤ t * R := by
    rw [eA]
    have := Int.mul_nonneg (Int.natCast_nonneg g) (Int.le_of_lt (two_pos w))
    lia
  have mf : Side (MulFit t R) := ⟨1, _, ht.abs, b3, by decide⟩
  have hg2 : (g : Int) < 2 ^ w := by
    have h2 := two_pos (w - 36)
    have e : (2 : Int) ^ w = 2 ^ 36 * 2 ^ (w - 36) := by rw [← Int.pow_add]; congr 1; lia
    rw [e]; lia
  have fig7 : wpSs C (l_stage.drop 7) (sgR ss kk N L w t bs fr acc [s9, s10, .val (.int G), s12, s13, .val (.int R), .val (.list ((figs L g).map V.int)), .val (iv g)]) K' KR := by
    have f2 : FigsOk w [L, (g : Int)] := fun d hd => by
      rcases List.mem_cons.mp hd with rfl | hd
      · exact ⟨Int.le_of_lt hL0, hL⟩
      · rw [List.mem_singleton.mp hd]; exact ⟨Int.natCast_nonneg g, hg2⟩
    have ev : ofD w [L, (g : Int)] = t * R := by
      show L + 2 ^ w * ((g : Int) + 2 ^ w * 0) = t * R
      rw [eA, Int.mul_zero, Int.add_zero, Int.mul_comm (g : Int), Int.add_comm]
    exact ⟨sf 2 (by decide), h4 _ _ ⟨[L, (g : Int)], w, rfl, f2, (show 2 ≤ 1000001 by decide), by lia, (show w * 2 ≤ 4000000 by lia), mf, br_ndec (fun q => absurd ev q) fun _ => br_dec (fun q => absurd (show G ≤ (g : Int) from q) (by lia)) fun _ => next _⟩⟩
  refine ⟨mf, h3 _ _ ⟨t * R, w, rfl, hA0, (bitLen_abs _ _).mpr (nab_up (nab_mul ht.abs b3) (by decide)), by lia, by lia, fun ds hds _ => ?_⟩⟩
  have hds := figs_is hds hL0 hL hg2 eA
  subst hds
  unfold figs at fig7 ⊢
  by_cases h0 : g = 0
  · subst h0
    exact ⟨sf 1 (by decide), br_f fig7⟩
  · rw [if_neg h0] at fig7 ⊢
    exact ⟨sf 2 (by decide), br_t ⟨1, _, rfl, rfl, sf 2 (by decide), fig7⟩⟩
end
theorem stD (C : Cx) (ss : List Nat) (kk : List V) (N L : Int) (w : Nat) (t : Int) (bs : List (List Nat)) (fr : List Nat) (acc : List Stp) (p : Nat × Nat) (K' : Rho → Prop) (KR : V → Prop) (hb : Bss bs) (g : Nat) (hg : g + 1 < bs.length) (h4 : p.1 < 4) (hs : p.2 < 1000) (hfr : fr.length ≤ 100) (ha : acc.length ≤ 20)
    (h12 : ∀ vs K, PutP vs K → C.call 12 vs K) (h11 : ∀ vs K, UnitsP vs K → C.call 11 vs K) (s11 s12 s13 s14 s15 : Slot)
    (next : K' (sgR ss kk N L w t (putB bs g p.1 [p.2]) (fr ++ joinL [] (unitsP p)) (acc ++ [⟨bs, g, p.1, [p.2]⟩]) [.val (iv p.1), .val (.str [p.2]), s11, s12, s13, s14, s15, .val (iv g)])) :
    wpSs C (l_stage.drop 8) (sgR ss kk N L w t bs fr acc [.val (iv p.1), .val (.str [p.2]), s11, s12, s13, s14, s15, .val (iv g)]) K' KR := by
  obtain ⟨hu, hl⟩ := units_us h4 hs
  have l1 := hu.len
  have lj : (joinL [] (unitsP p)).length ≤ 10 := by lia
  have e : (acc ++ [(⟨bs, g, p.1, [p.2]⟩ : Stp)]).map stepV = acc.map stepV ++ [.tup [.list (bs.map V.str), iv g, iv p.1, .str [p.2]]] := List.map_append
  have next' : K' (.val (.str ss) :: .val (.list kk) :: .val (.int N) :: .val (.int L) :: .val (iv w) :: .val (.int t) :: .val (.list ((putB bs g p.1 [p.2]).map V.str)) :: .val (.str (fr ++ joinL [] (unitsP p))) :: .own (acc.map stepV ++ [.tup [.list (bs.map V.str), iv g, iv p.1, .str [p.2]]]) :: [.val (iv p.1), .val (.str [p.2]), s11, s12, s13, s14, s15, .val (iv g)]) := by rw [← e]; exact next
  exact ⟨sf 4 (by decide), ⟨Nat.lt_of_le_of_lt (ml ha) (by decide)⟩, h12 _ _ ⟨bs, g, p.1, [p.2], rfl, hb, hg, h4, (show 1 ≤ 10 by decide), ⟨rfl⟩, h11 _ _ ⟨p.1, [p.2], rfl, h4, (show 1 ≤ 10 by decide), unitsP p, rfl, ⟨(len_side (m := 10) lj).h, Nat.zero_le _⟩, ap hfr lj, next'⟩⟩⟩
structure StagesOk (ks ss : List Nat) (N L : Int) (w : Nat) (t : Int) : Prop where
  w0 : 36 ≤ w
  w1 : w ≤ 4435
  t : PM t
  L0 : 0 < L
  L1 : L < 2 ^ w
  n : N.natAbs < 2 ^ 10000
  ln : (ks.zip ss).length ≤ 10
  ok : StOk (ks.zip ss) [[], []] []
inductive StagesP (vs : List V) (K : V → Prop) : Prop
  | mk (ks ss : List Nat) (N L : Int) (w : Nat) (t : Int) (h : vs = [.str ss, .list (ks.map iv), .int N, .int L, iv w, .int t]) (ok : StagesOk ks ss N L w t) (k : K (stagesV (ks.zip ss) N))
inductive SgI (ss : List Nat) (kk : List V) (L : Int) (w : Nat) (t : Int) (ALL : List Stp) (EN : List (List Nat) × Int) (items : List (Nat × Nat)) (ρ : Rho) : Prop
  | mk (N : Int) (bs : List (List Nat)) (fr : List Nat) (acc : List Stp) (s9 s10 s11 s12 s13 s14 s15 s16 : Slot) (ok : StOk items bs fr) (n : N.natAbs < 2 ^ 10000) (ln : acc.length + items.length ≤ 10) (h1 : acc ++ stagesG items bs N = ALL) (h2 : endG items bs N = EN)
    (hρ : ρ = sgR ss kk N L w t bs fr acc [s9, s10, s11, s12, s13, s14, s15, s16])
theorem wp_stages (C : Cx) (ks ss : List Nat) (N L : Int) (w : Nat) (t : Int) (K : V → Prop) (ok : StagesOk ks ss N L w t) (h3 : ∀ vs K, I2D vs K → C.call 3 vs K) (h4 : ∀ vs K, D2I vs K → C.call 4 vs K) (h6 : ∀ vs K, DivP vs K → C.call 6 vs K) (h8 : ∀ vs K, ChkP vs K → C.call 8 vs K)
    (h12 : ∀ vs K, PutP vs K → C.call 12 vs K) (h11 : ∀ vs K, UnitsP vs K → C.call 11 vs K) (hk : K (stagesV (ks.zip ss) N)) :
    wpSs C b_law_stages [.val (.str ss), .val (.list (ks.map iv)), .val (.int N), .val (.int L), .val (iv w), .val (.int t), .unset, .unset, .unset, .unset, .unset, .unset, .unset, .unset, .unset, .unset, .unset] (fun _ => False) K := by
  refine ⟨sf 2 (by decide), sf 0 (by decide), rfl, eq_at (P := fun v => wpFor (forB C (.tup [9, 10]) l_stage K) v (sgR ss (ks.map iv) N L w t [[], []] [] [] [.unset, .unset, .unset, .unset, .unset, .unset, .unset, .unset]) fun ρ => wpSs C (b_law_stages.drop 2) ρ (fun _ => False) K) (zip_pv ks ss) ?_⟩
  refine wpFor_map pv (SgI ss (ks.map iv) L w t (stagesG (ks.zip ss) [[], []] N) (endG (ks.zip ss) [[], []] N)) ?_ ?_ _ _ ⟨N, [[], []], [], [], _, _, _, _, _, _, _, _, ok.ok, ok.n, by have := ok.ln; rw [List.length_nil]; lia, rfl, rfl, rfl⟩
  · rintro p rest ρ ⟨N, bs, fr, acc, s9, s10, s11, s12, s13, s14, s15, s16, so, n, ln, e1, e2, rfl⟩ K' hK
    obtain ⟨hb, h2, p4, ps, hfr, hc, hrest⟩ := so
    have hn := hb.n
    have hG : (0 : Int) < (bs.length : Int) - 1 := by lia
    have f0 := Int.fmod_nonneg_of_pos N hG
    have f1 := Int.fmod_lt_of_pos N hG
    have eg : N.fmod ((bs.length : Int) - 1) = ((gapOf bs N : Nat) : Int) := (Int.toNat_of_nonneg f0).symm
    have hgap : gapOf bs N + 1 < bs.length := by lia
    rw [List.length_cons] at ln
    refine ⟨rfl, stA C ss (ks.map iv) N L w t bs fr acc K' K (bs.length - 2) (by lia) hn hfr hc h8 _ _ _ _ _ _ _ _ fun G eG x12 x13 => ?_⟩
    have eG' : G = (bs.length : Int) - 1 := by lia
    subst eG'
    refine stB C ss (ks.map iv) N L w t bs fr acc K' K ok.w0 ok.w1 ok.t ok.L0 ok.L1 n _ hG (by lia) h6 _ _ _ _ _ _ _ ?_
    refine stC C ss (ks.map iv) (N.fdiv ((bs.length : Int) - 1)) L w t bs fr acc K' K ok.w0 ok.w1 ok.t ok.L0 ok.L1 (Nat.lt_of_le_of_lt (fdiv_abs N _ hG) n) _ hG (by lia) (gapOf bs N) (by lia) _ (by rw [eg]) h3 h4 _ _ _ _ _ _ fun x15 => ?_
    refine stD C ss (ks.map iv) _ L w t bs fr acc p K' K hb (gapOf bs N) hgap p4 ps hfr (by lia) h12 h11 _ _ _ _ _ (hK _ ⟨_, _, _, _, _, _, _, _, _, _, _, _, hrest _ hgap, Nat.lt_of_le_of_lt (fdiv_abs N _ hG) n, ?_, ?_, e2, rfl⟩)
    · rw [List.length_append, List.length_singleton]; lia
    · rw [List.append_assoc]; exact e1
  · rintro ρ ⟨N', bs, fr, acc, s9, s10, s11, s12, s13, s14, s15, s16, so, n, ln, e1, e2, rfl⟩
    obtain ⟨b1, b20⟩ := so
    have e1 : acc ++ [] = stagesG (ks.zip ss) [[], []] N := e1
    have e2 : (bs, N') = endG (ks.zip ss) [[], []] N := e2
    rw [List.append_nil] at e1
    unfold stagesV at hk
    rw [← e1, ← e2] at hk
    exact ⟨0, _, place0 (by rw [List.length_map]; exact b1), map_at b1, len_side (m := 20) (ml b20), sf 3 (by decide), hk⟩
end Mine
namespace Mine
open PySem
noncomputable def dueW (st : Stp) (place way : Nat) : Bool := decide (place = st.gp) && ((decide (way = 0) || decide (way = st.kd)) || decide (st.kd = 1))
noncomputable def fallT (row sn f : List Nat) : Bool := ematch (dots ++ f ++ dots ++ sn ++ dots) row
structure ReadOk (row ss : List Nat) (k : Nat) (st : Stp) : Prop where
  w : ∀ place way, place + 1 < st.bs.length → way < 4 → ematch (joinL dots (putB st.bs place way st.sn)) row = dueW st place way
  f : ((fallsOf (ss.drop (k + 1)) (ss.take k)).filter (fallT row st.sn)).length = st.gp
  b : Bss st.bs
  b1 : 1 ≤ st.bs.length
  sn : st.sn.length ≤ 2
noncomputable abbrev rdR (row ss : List Nat) (steps : List Stp) (k : Nat) (st : Stp) (r : List Slot) : Rho := .val (.str row) :: .val (.str ss) :: .val (.list (steps.map stepV)) :: .val (iv k) :: .val (.list (st.bs.map V.str)) :: .val (iv st.gp) :: .val (iv st.kd) :: .val (.str st.sn) :: r
noncomputable def l_way : List SD := [sAssign 10 (rVal (xCall 0 [(xMeth mJoin (xStr [46, 46, 46]) [(xCall 12 [(xVar 4), (xVar 8), (xVar 9), (xVar 7)])]), (xVar 0)])), sIf (xBin cIsnot (xVar 10) (xAnd (xBin cEq (xVar 8) (xVar 5)) (xOr (xIn cIn (xVar 9) (xTup [(xInt 0), (xVar 6)])) (xBin cEq (xVar 6) (xInt 1))))) [sRet (xBool false)] []]
noncomputable def l_place : List SD := [sFor (.one 9) (iRange [(xInt 4)]) l_way]
noncomputable def l_read : List SD := [sAssignT [4, 5, 6, 7] (xItem (xVar 2) (xVar 3)), sFor (.one 8) (iRange [(xBin bSub (xBi biLen [(xVar 4)]) (xInt 1))]) l_place, sAssign 11 (rVal (xComp 2 [3, 1] (cClause (.one 12) (iVal (xSlice (xVar 1) (xBin bAdd (xVar 3) (xInt 1)) xNone)) [] (cClause (.one 13) (iVal (xSlice (xVar 1) xNone (xVar 3))) [] (cDone (xBin bAdd (xVar 12) (xVar 13))))))), sIf (xBin cNe (xBi biLen [(xComp 1 [0, 7] (cClause (.one 12) (iVal (xVar 11)) [(xCall 0 [(xBin bAdd (xBin bAdd (xBin bAdd (xBin bAdd (xStr [46, 46, 46]) (xVar 12)) (xStr [46, 46, 46])) (xVar 7)) (xStr [46, 46, 46])), (xVar 0)])] (cDone (xVar 12))))]) (xVar 5)) [sRet (xBool false)] []]
theorem isBo_eq {T y : Bool} (h : T = y) : (V.bool T).isBo y = true := h ▸ isBo_self T
theorem join_len (sep : List Nat) {A B : Nat} (hs : sep.length ≤ A) : ∀ ws : List (List Nat), (∀ w ∈ ws, w.length ≤ B) → (joinL sep ws).length ≤ ws.length * (A + B)
  | [], _ => Nat.zero_le _
  | [x], h => by
    have := h x List.mem_cons_self
    show x.length ≤ 1 * (A + B)
    lia
  | x :: y :: r, h => by
    have h1 := h x List.mem_cons_self
    have h2 := join_len sep hs (y :: r) fun w hw => h w (List.mem_cons_of_mem _ hw)
    show (x ++ sep ++ joinL sep (y :: r)).length ≤ _
    rw [List.length_append, List.length_append, List.length_cons, Nat.succ_mul]
    lia
theorem putB_len {bs : List (List Nat)} (hb : Bss bs) (g k : Nat) (s : List Nat) (hs : s.length ≤ 2) (hk : k < 4) : (putB bs g k s).length ≤ 43 ∧ ∀ x ∈ putB bs g k s, x.length ≤ 42 := by
  have hL := hb.at g
  have hR := hb.at (g + 1)
  have hn := hb.n
  unfold putB
  have hm : (midB (bs.getD g []) s (bs.getD (g + 1) []) k).length ≤ 3 ∧ ∀ x ∈ midB (bs.getD g []) s (bs.getD (g + 1) []) k, x.length ≤ 42 := by
    generalize bs.getD g [] = L at hL
    generalize bs.getD (g + 1) [] = R at hR
    have c1 : ∀ {x u : List Nat}, x = u → u.length ≤ 42 → x.length ≤ 42 := fun e h => e ▸ h
    rcases k with _ | _ | _ | _ | k
    · refine ⟨Nat.le_refl 3, fun x hx => ?_⟩
      rcases List.mem_cons.mp hx with e | hx
      · exact c1 e (by lia)
      rcases List.mem_cons.mp hx with e | hx
      · exact c1 e (by lia)
      · exact c1 (List.mem_singleton.mp hx) (by lia)
    · exact ⟨show 1 ≤ 3 by decide, fun x hx => c1 (List.mem_singleton.mp hx) (la (m := 22) (n := 20) (la (m := 20) (n := 2) hL hs) hR)⟩
    · refine ⟨show 2 ≤ 3 by decide, fun x hx => ?_⟩
      rcases List.mem_cons.mp hx with e | hx
      · exact c1 e (Nat.le_trans (la hL hs) (by decide))
      · exact c1 (List.mem_singleton.mp hx) (by lia)
    · refine ⟨show 2 ≤ 3 by decide, fun x hx => ?_⟩
      rcases List.mem_cons.mp hx with e | hx
      · exact c1 e (by lia)
      · exact c1 (List.mem_singleton.mp hx) (Nat.le_trans (la hs hR) (by decide))
    · lia
  constructor
  · have h1 : (bs.take g).length ≤ 20 := Nat.le_trans (List.length_take_le' _ _) hn
    have h2 : (bs.drop (g + 2)).length ≤ 20 := by rw [List.length_drop]; lia
    exact la (m := 23) (n := 20) (la (m := 20) (n := 3) h1 hm.1) h2
  · intro x hx
    rcases List.mem_append.mp hx with hx | hx
    · rcases List.mem_append.mp hx with hx | hx
      · exact Nat.le_trans (hb.w x (List.mem_of_mem_take hx)) (by decide)
      · exact hm.2 x hx
    · exact Nat.le_trans (hb.w x (List.mem_of_mem_drop hx)) (by decide)
section
variable (C : Cx) (row ss : List Nat) (steps : List Stp) (k : Nat) (st : Stp) (KR : V → Prop) (hrow : row.length ≤ 10) (ok : ReadOk row ss k st) (h0 : ∀ vs K, EmP vs K → C.call 0 vs K)
include hrow ok h0
theorem rd_way (h12 : ∀ vs K, PutP vs K → C.call 12 vs K) (place way : Nat) (hp : place + 1 < st.bs.length) (hw : way < 4) (s10 s11 : Slot) (K' : Rho → Prop) (next : ∀ s10 : Slot, K' (rdR row ss steps k st [.val (iv place), .val (iv way), s10, s11])) :
    wpSs C l_way (rdR row ss steps k st [.val (iv place), .val (iv way), s10, s11]) K' KR := by
  have hsn := ok.sn
  obtain ⟨n1, n2⟩ := putB_len ok.b place way st.sn hsn hw
  have jl := join_len dots (A := 3) (B := 42) (Nat.le_refl 3) _ n2
  have jl' : (joinL dots (putB st.bs place way st.sn)).length ≤ 2000 := Nat.le_trans jl (Nat.le_trans (Nat.mul_le_mul_right _ n1) (by decide))
  have e := ok.w place way hp hw
  have fin : ∀ y : Bool, y = dueW st place way → ∀ P Q : Prop, Q → Br (!((V.bool (ematch (joinL dots (putB st.bs place way st.sn)) row)).isBo y)) P Q := fun y hy P Q h => by
    rw [isBo_eq (e.trans hy.symm)]; exact br_f h
  refine ⟨⟨rfl⟩, h12 _ _ ⟨st.bs, place, way, st.sn, rfl, ok.b, hp, hw, Nat.le_trans hsn (by decide), putB st.bs place way st.sn, rfl, ⟨Nat.le_trans jl' (by decide), by decide⟩, h0 _ _ ⟨_, row, rfl, Nat.le_trans jl' (by decide), Nat.le_trans hrow (by decide), ?_⟩⟩⟩
  unfold dueW at fin
  refine br_dec (fun hpl => ?_) fun hpl => ?_
  · have hpl : place = st.gp := by have : (place : Int) = (st.gp : Int) := hpl; lia
    rw [decide_eq_true hpl, Bool.true_and] at fin
    refine ⟨sf 2 (by decide), [0, (st.kd : Int)], rfl, sf 2 (by decide), fun hc => ?_, fun hc => ?_⟩
    · refine fin ([0, (st.kd : Int)].contains (way : Int)) ?_ _ _ (next _)
      rw [hc]
      have hc := List.contains_iff_mem.mp hc
      rcases List.mem_cons.mp hc with h | h
      · rw [decide_eq_true (show way = 0 by lia)]; rfl
      · have := List.mem_singleton.mp h
        rw [decide_eq_true (show way = st.kd by lia), Bool.or_true]; rfl
    · have hc : ¬ ((way : Int) ∈ [0, (st.kd : Int)]) := fun q => by rw [List.contains_iff_mem.mpr q] at hc; cases hc
      refine fin (decide ((st.kd : Int) = 1)) ?_ _ _ (next _)
      rw [decide_eq_false (fun q : way = 0 => hc (by rw [q]; exact List.mem_cons_self)), decide_eq_false (fun q : way = st.kd => hc (by rw [q]; exact List.mem_cons_of_mem _ List.mem_cons_self)), Bool.false_or, Bool.false_or]
      exact decide_eq_decide.mpr ⟨fun h => by lia, fun h => by lia⟩
  · have hpl : ¬ place = st.gp := fun q => hpl (show (place : Int) = (st.gp : Int) by lia)
    refine fin (decide ((place : Int) = (st.gp : Int))) ?_ _ _ (next _)
    rw [decide_eq_false hpl, decide_eq_false (fun q : (place : Int) = (st.gp : Int) => hpl (by lia))]; rfl
inductive PlI (items : List Nat) (ρ : Rho) : Prop
  | mk (s8 s9 s10 s11 : Slot) (h : ∀ x ∈ items, x + 1 < st.bs.length) (hρ : ρ = rdR row ss steps k st [s8, s9, s10, s11])
inductive WyI (place : Nat) (items : List Nat) (ρ : Rho) : Prop
  | mk (s9 s10 s11 : Slot) (h : ∀ x ∈ items, x < 4) (hρ : ρ = rdR row ss steps k st [.val (iv place), s9, s10, s11])
theorem rd_places (h12 : ∀ vs K, PutP vs K → C.call 12 vs K) (hb2 : 1 ≤ st.bs.length) (s8 s9 s10 s11 : Slot) (K' : Rho → Prop) (next : ∀ s8 s9 s10 s11 : Slot, wpSs C (l_read.drop 2) (rdR row ss steps k st [s8, s9, s10, s11]) K' KR) :
    wpSs C (l_read.drop 1) (rdR row ss steps k st [s8, s9, s10, s11]) K' KR := by
  have el : (st.bs.map V.str).length = st.bs.length := List.length_map _
  have hn := ok.b.n
  have en : ((st.bs.map V.str).length : Int) - 1 = ((st.bs.length - 1 : Nat) : Int) := by lia
  refine ⟨len_side (m := 20) (ml hn), ⟨by lia, by lia⟩, eq_at (P := fun v => wpFor (forB C (.one 8) l_place KR) v (rdR row ss steps k st [s8, s9, s10, s11]) fun ρ => wpSs C (l_read.drop 2) ρ K' KR) ((congrArg (fun z => (rangeL 0 z 1).map V.int) en).trans (rangeUp (st.bs.length - 1))) ?_⟩
  refine wpFor_map iv (PlI row ss steps k st) ?_ ?_ _ _ ⟨_, _, _, _, fun x hx => by have := List.mem_range.mp hx; lia, rfl⟩
  · rintro place rest ρ ⟨s8, s9, s10, s11, h, rfl⟩ K2 hK2
    have hpl := h place List.mem_cons_self
    refine ⟨⟨by decide, by decide⟩, eq_at (P := fun v => wpFor (forB C (.one 9) l_way KR) v (rdR row ss steps k st [.val (iv place), s9, s10, s11]) fun ρ => wpSs C [] ρ K2 KR) (rangeUp 4) ?_⟩
    refine wpFor_map iv (WyI row ss steps k st place) ?_ ?_ _ _ ⟨_, _, _, fun x hx => List.mem_range.mp hx, rfl⟩
    · rintro way rest' ρ ⟨s9, s10, s11, h', rfl⟩ K3 hK3
      exact rd_way C row ss steps k st KR hrow ok h0 h12 place way hpl (h' way List.mem_cons_self) s10 s11 K3 fun s10 => hK3 _ ⟨_, _, _, fun x hx => h' x (List.mem_cons_of_mem _ hx), rfl⟩
    · rintro ρ ⟨s9, s10, s11, h', rfl⟩
      exact hK2 _ ⟨_, _, _, _, fun x hx => h x (List.mem_cons_of_mem _ hx), rfl⟩
  · rintro ρ ⟨s8, s9, s10, s11, h, rfl⟩
    exact next _ _ _ _
end
end Mine
namespace Mine
open PySem
theorem fallsOf_len (as bs : List Nat) (ha : as.length ≤ 6) (hb : bs.length ≤ 6) : (fallsOf as bs).length ≤ 36 ∧ ∀ f ∈ fallsOf as bs, f.length ≤ 2 := by
  constructor
  · have h : ∀ as : List Nat, (fallsOf as bs).length = as.length * bs.length := by
      intro as
      induction as with
      | nil => exact (Nat.zero_mul _).symm
      | cons a r ih =>
        unfold fallsOf at ih ⊢
        rw [List.flatMap_cons, List.length_append, List.length_map, ih, List.length_cons, Nat.succ_mul, Nat.add_comm]
    rw [h]
    exact Nat.mul_le_mul ha hb
  · intro f hf
    obtain ⟨a, _, hf⟩ := List.mem_flatMap.mp hf
    obtain ⟨b, _, rfl⟩ := List.mem_map.mp hf
    exact Nat.le_refl 2
section
variable (C : Cx) (row ss : List Nat) (steps : List Stp) (k : Nat) (st : Stp) (KR : V → Prop) (hrow : row.length ≤ 10) (ok : ReadOk row ss k st) (h0 : ∀ vs K, EmP vs K → C.call 0 vs K)
include hrow ok h0
theorem rd_falls (hss : ss.length ≤ 6) (hk : k ≤ 10) (s8 s9 s10 s11 : Slot) (K' : Rho → Prop) (next : ∀ s11 : Slot, K' (rdR row ss steps k st [s8, s9, s10, s11])) :
    wpSs C (l_read.drop 2) (rdR row ss steps k st [s8, s9, s10, s11]) K' KR := by
  have hf := ok.f
  have hsn := ok.sn
  have e1 : sliceL ss (some ((k + 1 : Nat) : Int)) none = ss.drop (k + 1) := sliceFrom ss (k + 1)
  have e2 : sliceL ss none (some (k : Int)) = ss.take k := sliceTo ss k
  rw [← e1, ← e2] at hf
  have l1 : (sliceL ss (some ((k + 1 : Nat) : Int)) none).length ≤ 6 := Nat.le_trans (sliceL_len _ _ _) hss
  have l2 : (sliceL ss none (some (k : Int))).length ≤ 6 := Nat.le_trans (sliceL_len _ _ _) hss
  obtain ⟨fl, fw⟩ := fallsOf_len _ _ l1 l2
  have d3 : dots.length ≤ 3 := Nat.le_refl 3
  have b1 : BoundFit (some ((k : Int) + 1)) := some_lt (by lia)
  have b2 : BoundFit (some (k : Int)) := some_lt (by lia)
  have ls := len_side (m := 6) hss
  have two : ∀ F : List (List Nat), F.length ≤ 36 → (∀ f ∈ F, f.length ≤ 2) → (F.filter (fallT row st.sn)).length = st.gp → wpSs C (l_read.drop 3) (rdR row ss steps k st [s8, s9, s10, .val (.list (F.map V.str))]) K' KR := by
    intro F hF hw he
    have hle : (F.filter (fallT row st.sn)).length ≤ 36 := Nat.le_trans (List.length_filter_le _ _) hF
    refine ⟨⟨rfl⟩, len_side (m := 36) (ml hF), len_side4 (m := 36) (ml hF), wpItems_flat V.str (fun f => if fallT row st.sn f = true then [f] else []) V.str F _ (fun f hfm K2 hK2 => ?_) ?_⟩
    · have f2 := hw f hfm
      have s2 : st.sn.length ≤ 2 := hsn
      refine ⟨ap d3 f2, ap (la d3 f2) d3, ap (la (la d3 f2) d3) s2, ap (la (la (la d3 f2) d3) s2) d3, h0 _ _ ⟨_, row, rfl, Nat.le_trans (la (la (la (la d3 f2) d3) s2) d3) (by decide), Nat.le_trans hrow (by decide), fun q => br_t ?_, fun q => br_f ?_⟩⟩
      · rw [if_pos (show fallT row st.sn f = true from q)] at hK2; exact hK2
      · rw [if_neg (by rw [show fallT row st.sn f = false from q]; decide)] at hK2; exact hK2
    · rw [filter_flat]
      have lm : ((F.filter (fallT row st.sn)).map V.str).length ≤ 36 := ml hle
      have em : (((F.filter (fallT row st.sn)).map V.str).length : Int) = (st.gp : Int) := by rw [List.length_map, he]
      exact ⟨len_side lm, len_side lm, br_ndec (fun q => absurd em q) fun _ => next _⟩
  refine ⟨⟨rfl⟩, ⟨ls.h, b1, none_lt⟩, ⟨(len_side (n := ((sliceL ss (some ((k + 1 : Nat) : Int)) none).map fun c => V.str [c]).length) (ml l1)).h⟩, len_side4 (ml l1), ?_⟩
  refine wpItems_flat (fun c => V.str [c]) (fun a => (sliceL ss none (some (k : Int))).map fun b => [a, b]) V.str (sliceL ss (some ((k + 1 : Nat) : Int)) none) _ (fun a _ K2 hK2 => br_t ?_) ⟨len_side (m := 36) (ml fl), two _ fl fw hf⟩
  refine ⟨⟨ls.h, none_lt, b2⟩, ⟨(len_side (n := ((sliceL ss none (some (k : Int))).map fun c => V.str [c]).length) (ml l2)).h⟩, len_side4 (ml l2), ?_⟩
  refine wpItems_map (fun c => V.str [c]) (fun b => V.str [a, b]) (sliceL ss none (some (k : Int))) _ (fun b _ K3 hK3 => br_t ⟨sf 2 (by decide), hK3⟩) ?_
  rw [List.map_map] at hK2
  exact hK2
end
inductive ReadP (vs : List V) (K : V → Prop) : Prop
  | mk (row ss : List Nat) (steps : List Stp) (h : vs = [.str row, .str ss, .list (steps.map stepV)]) (hr : row.length ≤ 10) (hs : ss.length ≤ 6) (hn : steps.length ≤ 10) (ok : ∀ k st, steps[k]? = some st → ReadOk row ss k st) (k : K (.bool true))
inductive RdI (row ss : List Nat) (steps : List Stp) (items : List Nat) (ρ : Rho) : Prop
  | mk (k m : Nat) (s3 s4 s5 s6 s7 s8 s9 s10 s11 : Slot) (hi : items = List.range' k m) (hkm : k + m = steps.length) (hρ : ρ = [.val (.str row), .val (.str ss), .val (.list (steps.map stepV)), s3, s4, s5, s6, s7, s8, s9, s10, s11])
theorem wp_read (C : Cx) (row ss : List Nat) (steps : List Stp) (K : V → Prop) (hr : row.length ≤ 10) (hs : ss.length ≤ 6) (hn : steps.length ≤ 10) (ok : ∀ k st, steps[k]? = some st → ReadOk row ss k st) (h0 : ∀ vs K, EmP vs K → C.call 0 vs K) (h12 : ∀ vs K, PutP vs K → C.call 12 vs K) (hk : K (.bool true)) :
    wpSs C b_law_read [.val (.str row), .val (.str ss), .val (.list (steps.map stepV)), .unset, .unset, .unset, .unset, .unset, .unset, .unset, .unset, .unset] (fun _ => False) K := by
  have el : (steps.map stepV).length = steps.length := List.length_map _
  have l : Side ((steps.map stepV).length ≤ strMax) := len_side (ml hn)
  refine ⟨l, ⟨by lia, by lia⟩, eq_at (P := fun v => wpFor (forB C (.one 3) l_read K) v [.val (.str row), .val (.str ss), .val (.list (steps.map stepV)), .unset, .unset, .unset, .unset, .unset, .unset, .unset, .unset, .unset] fun ρ => wpSs C (b_law_read.drop 1) ρ (fun _ => False) K) (rangeUp (steps.map stepV).length) ?_⟩
  rw [el]
  refine wpFor_map iv (RdI row ss steps) ?_ ?_ _ _ ⟨0, steps.length, _, _, _, _, _, _, _, _, _, List.range_eq_range', Nat.zero_add _, rfl⟩
  · rintro y rest ρ ⟨k, m, s3, s4, s5, s6, s7, s8, s9, s10, s11, hi, hkm, rfl⟩ K' hK
    cases m with
    | zero => cases hi
    | succ m =>
      obtain ⟨rfl, rfl⟩ := List.cons.inj hi
      have hy : y < steps.length := by lia
      have hst := ok y steps[y] (List.getElem?_eq_getElem hy)
      refine ⟨y, stepV steps[y], place_nat (el.symm ▸ hy), by rw [List.getElem?_map, List.getElem?_eq_getElem hy]; rfl, l, rfl, ?_⟩
      exact rd_places C row ss steps y steps[y] K hr hst h0 h12 hst.b1 _ _ _ _ K' fun s8 s9 s10 s11 => rd_falls C row ss steps y steps[y] K hr hst h0 hs (by lia) _ _ _ _ K' fun s11 => hK _ ⟨y + 1, m, _, _, _, _, _, _, _, _, _, rfl, by lia, rfl⟩
  · rintro ρ ⟨k, m, s3, s4, s5, s6, s7, s8, s9, s10, s11, hi, hkm, rfl⟩
    exact hk
end Mine
namespace Mine
open PySem
theorem ofD_lt (n : Nat) : ∀ ds : List Int, FigsOk n ds → 0 ≤ ofD n ds ∧ ofD n ds < 2 ^ (n * ds.length)
  | [], _ => ⟨Int.le_refl 0, show (0 : Int) < 2 ^ (n * 0) by rw [Nat.mul_zero]; decide⟩
  | d :: r, h => by
    have h1 := ofD_lt n r fun x hx => h x (List.mem_cons_of_mem _ hx)
    have h2 := h d List.mem_cons_self
    have hp := two_pos n
    rw [ofD, List.length_cons, Nat.mul_succ, Nat.add_comm, Int.pow_add]
    have h3 : (2 : Int) ^ n * (ofD n r + 1) ≤ 2 ^ n * 2 ^ (n * r.length) := Int.mul_le_mul_of_nonneg_left (by lia) (Int.le_of_lt hp)
    have h4 := Int.mul_nonneg (Int.le_of_lt hp) h1.1
    rw [Int.mul_add, Int.mul_one] at h3
    lia
noncomputable def teF (c : Nat) : Int := (numF.getD (opsF.idxOf c) 0 : Nat)
noncomputable def nbI (st many : Nat) : List Int := (nbF st many).map fun n : Nat => (n : Int)
theorem te_all : opsF.map teF = numF.map fun n : Nat => (n : Int) := by decide +kernel
theorem te_nb (st many : Nat) : (sgF st many).map teF = nbI st many := by
  unfold sgF nbI nbF
  rw [List.map_drop, List.map_take, te_all, List.map_drop, List.map_take]
theorem sgF_mem {st many c : Nat} (h : c ∈ sgF st many) : c ∈ opsF := List.mem_of_mem_take (List.mem_of_mem_drop h)
theorem sgF_len {st many : Nat} (h : st + many ≤ 23) : (sgF st many).length = many := by
  unfold sgF
  rw [List.length_drop, List.length_take, show opsF.length = 23 from rfl]; lia
theorem nb_mem {st many : Nat} {d : Int} (h : d ∈ nbI st many) : 7 ≤ d ∧ d < 64 := by
  obtain ⟨n, hn, rfl⟩ := List.mem_map.mp h
  have hn : n ∈ numF := List.mem_of_mem_take (List.mem_of_mem_drop hn)
  have := (by decide : ∀ n ∈ numF, 7 ≤ n ∧ n < 64) n hn
  lia
theorem nb_len {st many : Nat} (h : st + many ≤ 23) : (nbI st many).length = many := by rw [← te_nb, List.length_map, sgF_len h]
theorem nb_figs (st many : Nat) : FigsOk 6 (nbI st many) := fun d hd => by
  have := nb_mem hd
  exact ⟨by lia, by show d < 64; lia⟩
noncomputable def letL (st many : Nat) : Int := ofD 6 (nbI st many)
theorem nb_is (st many : Nat) : IsD 6 (letL st many) (nbI st many) := ⟨nb_figs st many, rfl, fun q => by
  have := nb_mem (List.mem_of_getLast? q)
  lia⟩
theorem let_lt {st many : Nat} (hm : 4 ≤ many) (h6 : many ≤ 6) (h : st + many ≤ 23) : 0 < letL st many ∧ letL st many < 2 ^ 36 := by
  have h1 := ofD_lt 6 _ (nb_figs st many)
  have e : letL st many = ofD 6 (nbI st many) := rfl
  rw [nb_len h, ← e] at h1
  refine ⟨?_, Int.lt_of_lt_of_le h1.2 ?_⟩
  · have : letL st many ≠ 0 := fun q => by
      have := isD_nil (nb_figs st many) (nb_is st many).top q
      have := congrArg List.length this
      rw [nb_len h, List.length_nil] at this
      lia
    lia
  · rcases (show many = 4 ∨ many = 5 ∨ many = 6 by lia) with rfl | rfl | rfl <;> decide
structure LawFacts (many st : Nat) (ks : List Nat) (N : Int) : Prop where
  k4 : ∀ k ∈ ks, k < 4
  kl : ks.length = many - 1
  ok : StOk ((ks ++ [1]).zip (sgF st many)) [[], []] []
  text : TextOk (ks.zip (sgF st many))
  stps : Stps (stagesG ((ks ++ [1]).zip (sgF st many)) [[], []] N)
  read : ∀ k x, (stagesG ((ks ++ [1]).zip (sgF st many)) [[], []] N)[k]? = some x → ReadOk ((endG ((ks ++ [1]).zip (sgF st many)) [[], []] N).1.getD 0 []) (sgF st many) k x
  whole : wholeG (stagesG ((ks ++ [1]).zip (sgF st many)) [[], []] N) (endG ((ks ++ [1]).zip (sgF st many)) [[], []] N).2 = N
  size : N.natAbs < 2 ^ 10000 → ∀ j, (wholeG ((stagesG ((ks ++ [1]).zip (sgF st many)) [[], []] N).drop j) (endG ((ks ++ [1]).zip (sgF st many)) [[], []] N).2).natAbs < 2 ^ 10000
  rl : ((endG ((ks ++ [1]).zip (sgF st many)) [[], []] N).1.getD 0 []).length = many
  once : ∀ cut < many, OnceOk ((endG ((ks ++ [1]).zip (sgF st many)) [[], []] N).1.getD 0 []) cut
structure LawC1 (C : Cx) : Prop where
  h3 : ∀ vs K, I2D vs K → C.call 3 vs K
  h4 : ∀ vs K, D2I vs K → C.call 4 vs K
  h6 : ∀ vs K, DivP vs K → C.call 6 vs K
  h10 : ∀ vs K, DrawnP vs K → C.call 10 vs K
  h13 : ∀ vs K, StagesP vs K → C.call 13 vs K
  h14 : ∀ vs K, ReadP vs K → C.call 14 vs K
  h15 : ∀ vs K, TextP vs K → C.call 15 vs K
  h16 : ∀ vs K, Once1P vs K → C.call 16 vs K
  h17 : ∀ vs K, WholeP vs K → C.call 17 vs K
  dict : ∀ c ∈ opsF, C.dict 0 [c] = some (teF c)
theorem slice_last (ks : List Nat) : sliceL ((ks ++ [1]).map iv) none (some (-1)) = ks.map iv := by
  have e : clampI (-1) ((ks ++ [1]).map iv).length = ks.length := by
    rw [List.length_map, List.length_append, List.length_singleton]
    unfold clampI
    rw [if_neg (by decide)]; lia
  show (((ks ++ [1]).map iv).take (clampI (-1) _)).drop 0 = _
  rw [e, List.drop_zero, ← List.map_take, List.take_left']
  rfl
section
variable (C : Cx) (LC : LawC1 C) (s0 : Slot) (many st : Nat) (ks : List Nat) (w : Nat) (N way : Int) (D : Drawn many st ks w N) (F : LawFacts many st ks N) (K : V → Prop) (hk : K (.bool true))
include LC D F hk
theorem big_N : N.natAbs < 2 ^ 10000 := by
  have h1 := D.lo
  have h2 := D.hi
  have h3 : ((2 : Int) ^ (2 * w + 8)).natAbs < 2 ^ (2 * w + 8 + 1) := two_nat _
  have h4 := D.w1
  have h5 := nab_up h3 (show 2 * w + 8 + 1 ≤ 10000 by lia)
  lia
theorem law9' (x7 x8 x9 x10 : Slot) : wpSs C (b_law.drop 8) [s0, .val (.str (sgF st many)), .val (.list ((nbF st many).map iv)), .val (.list ((ks ++ [1]).map iv)), .val (iv w), .val (.int N), .val (.int way), x7, x8, x9, x10, .val (.list ((stagesG ((ks ++ [1]).zip (sgF st many)) [[], []] N).map stepV)), .val (.str ((endG ((ks ++ [1]).zip (sgF st many)) [[], []] N).1.getD 0 [])), .val (.int (endG ((ks ++ [1]).zip (sgF st many)) [[], []] N).2)] (fun _ => False) K := by
  have hN := big_N C LC many st ks w N D F K hk
  have m6 := D.m6
  have m4 := D.m4
  have rl := F.rl
  have sl := sgF_len D.st
  have hw := F.whole
  have ho := F.once
  have hz := F.size hN
  have hr := F.read
  have hs := F.stps
  generalize stagesG ((ks ++ [1]).zip (sgF st many)) [[], []] N = steps at hw hz hr hs ⊢
  generalize (endG ((ks ++ [1]).zip (sgF st many)) [[], []] N).2 = x at hw hz ⊢
  generalize (endG ((ks ++ [1]).zip (sgF st many)) [[], []] N).1.getD 0 [] = row at rl ho hr ⊢
  have r10 : row.length ≤ 10 := by lia
  refine LC.h14 _ _ ⟨row, sgF st many, steps, rfl, r10, by lia, hs.n, hr, br_f ?_⟩
  refine LC.h17 _ _ ⟨steps, x, 10000, rfl, hs, by decide, hz, br_dec (fun _ => ?_) fun q => absurd hw q⟩
  obtain ⟨cut, hc, ec⟩ := mod_nat (way.fdiv 2) row.length (by lia)
  have fin : ∀ z : Int, z = (cut : Int) → C.call 16 [.str row, .int z] K := by
    rintro z rfl
    exact LC.h16 _ _ ⟨row, cut, rfl, r10, hc, ho cut (by lia), hk⟩
  exact ⟨⟨by decide, noPy2 _⟩, len_side r10, ⟨by lia⟩, fin _ ec⟩
theorem law5' (t : Int) (ht : PM t) (x9 : Slot) : wpSs C (b_law.drop 5) [s0, .val (.str (sgF st many)), .val (.list ((nbF st many).map iv)), .val (.list ((ks ++ [1]).map iv)), .val (iv w), .val (.int N), .val (.int way), .val (.int (letL st many)), .val (.int t), x9, .unset, .unset, .unset, .unset] (fun _ => False) K := by
  have hN := big_N C LC many st ks w N D F K hk
  have m6 := D.m6
  have m4 := D.m4
  have kl := F.kl
  have sl := sgF_len D.st
  obtain ⟨l0, l1⟩ := let_lt D.m4 D.m6 D.st
  have l1 : letL st many < 2 ^ w := by
    have h2 := two_pos (w - 36)
    have e : (2 : Int) ^ w = 2 ^ 36 * 2 ^ (w - 36) := by rw [← Int.pow_add]; congr 1; have := D.w0; lia
    rw [e]; lia
  have zl : ((ks ++ [1]).zip (sgF st many)).length ≤ 10 := by rw [List.length_zip, List.length_append, List.length_singleton]; lia
  have hs1000 : ∀ c ∈ sgF st many, c < 1000 := fun c hc => (by decide : ∀ c ∈ opsF, c < 1000) c (sgF_mem hc)
  have s7 : ((ks ++ [1]).map iv).length ≤ 7 := ml (by rw [List.length_append, List.length_singleton]; lia)
  have fin : ∀ X : List V, X = ks.map iv → C.call 15 [.list X, .str (sgF st many)] fun v => wpTruth v fun b => Br (!b) (wpSs C [sRet (xBool false)] [s0, .val (.str (sgF st many)), .val (.list ((nbF st many).map iv)), .val (.list ((ks ++ [1]).map iv)), .val (iv w), .val (.int N), .val (.int way), .val (.int (letL st many)), .val (.int t), x9, .val (stagesV ((ks ++ [1]).zip (sgF st many)) N), .unset, .unset, .unset] (fun ρ => wpSs C (b_law.drop 7) ρ (fun _ => False) K) K)
      (wpSs C (b_law.drop 7) [s0, .val (.str (sgF st many)), .val (.list ((nbF st many).map iv)), .val (.list ((ks ++ [1]).map iv)), .val (iv w), .val (.int N), .val (.int way), .val (.int (letL st many)), .val (.int t), x9, .val (stagesV ((ks ++ [1]).zip (sgF st many)) N), .unset, .unset, .unset] (fun _ => False) K) := by
    rintro X rfl
    exact LC.h15 _ _ ⟨ks, sgF st many, rfl, F.k4, hs1000, by lia, F.text, br_f ⟨rfl, law9' C LC s0 many st ks w N way D F K hk _ _ _ _⟩⟩
  exact LC.h13 _ _ ⟨ks ++ [1], sgF st many, N, letL st many, w, t, rfl, ⟨D.w0, D.w1, ht, l0, l1, hN, zl, F.ok⟩, br_f ⟨⟨(len_side (m := 7) s7).h, none_lt, some_lt (by decide)⟩, fin _ (slice_last ks)⟩⟩
theorem law1' : wpSs C (b_law.drop 1) [s0, .val (.str (sgF st many)), .val (.list ((nbF st many).map iv)), .val (.list ((ks ++ [1]).map iv)), .val (iv w), .val (.int N), .val (.int way), .unset, .unset, .unset, .unset, .unset, .unset, .unset] (fun _ => False) K := by
  have hN := big_N C LC many st ks w N D F K hk
  have m6 := D.m6
  have m4 := D.m4
  have w1 := D.w1
  have sl : (sgF st many).length ≤ 6 := by rw [sgF_len D.st]; exact m6
  obtain ⟨l0, l1⟩ := let_lt D.m4 D.m6 D.st
  obtain ⟨q, hq, eq⟩ := mod_nat way 2 (by decide)
  have eq : way.fmod 2 = (q : Int) := eq
  have en : ((sgF st many).map fun c => V.int (teF c)) = (nbI st many).map V.int := by rw [← te_nb, List.map_map]; rfl
  have e2 : (nbF st many).map iv = (nbI st many).map V.int := by unfold nbI; rw [List.map_map]; rfl
  have nl := nb_len D.st
  refine ⟨⟨rfl⟩, len_side (n := ((sgF st many).map fun c => V.str [c]).length) (ml sl), len_side4 (n := ((sgF st many).map fun c => V.str [c]).length) (ml sl), ?_⟩
  refine wpItems_map (fun c => V.str [c]) (fun c => V.int (teF c)) (sgF st many) _ (fun c hc K' hK' => br_t ⟨teF c, LC.dict c (sgF_mem hc), hK'⟩) ⟨len_side (ml sl), ?_⟩
  rw [en]
  refine LC.h4 _ _ ⟨nbI st many, 6, rfl, nb_figs st many, by lia, by decide, by lia, ?_⟩
  refine ⟨⟨by decide⟩, small_fit (by lia) (by decide) |> Side.mk, ?_⟩
  have tq : PM (1 - way.fmod 2 * 2) := ⟨by lia⟩
  have ta := tq.abs
  have go : ∀ t : Int, PM t → wpSs C (b_law.drop 3) [s0, .val (.str (sgF st many)), .val (.list ((nbF st many).map iv)), .val (.list ((ks ++ [1]).map iv)), .val (iv w), .val (.int N), .val (.int way), .val (.int (letL st many)), .val (.int t), .unset, .unset, .unset, .unset, .unset] (fun _ => False) K := by
    intro t ht
    have hP : ((2 : Int) ^ w).natAbs < 2 ^ (w + 1) := two_nat w
    have hP' : ((2 : Int) ^ w).natAbs < 2 ^ 4436 := nab_up hP (by lia)
    have hLa : (letL st many).natAbs < 2 ^ 4436 := nab_up (k := 36) (by lia) (by decide)
    have b1 : ((2 : Int) ^ w + letL st many).natAbs < 2 ^ (4436 + 1) := nab_add hP' hLa
    have b2 : (t * ((2 : Int) ^ w + letL st many)).natAbs < 2 ^ (1 + (4436 + 1)) := nab_mul ht.abs b1
    have u0 : t * ((2 : Int) ^ w + letL st many) ≠ 0 := by
      have := two_pos w
      rcases ht.h with rfl | rfl <;> lia
    have b3 : (t * ((2 : Int) ^ w + letL st many) * N).natAbs < 2 ^ (1 + (4436 + 1) + 10000) := nab_mul b2 hN
    have dv := fdm_uniq (t * ((2 : Int) ^ w + letL st many)) N 0 (by omega)
    rw [Int.add_zero] at dv
    have d1 : FigsOk 6 (nbI st many) := nb_figs st many
    have pw : Side ((2 : Int) = 2 ∧ (0 : Int) ≤ (w : Int) ∧ (w : Int) ≤ 60000000) := ⟨rfl, Int.natCast_nonneg w, by lia⟩
    refine ⟨pw, ⟨1, _, ht.abs, b1, by decide⟩, LC.h3 _ _ ⟨letL st many, 6, rfl, Int.le_of_lt l0, (bitLen_abs _ _).mpr (nab_up hLa (by decide)), by decide, by decide, fun ds hds _ => ?_⟩⟩
    have hds : ds = nbI st many := isD_uniq hds.figs d1 hds.top (nb_is st many).top (hds.val.trans (nb_is st many).val.symm)
    subst hds
    rw [e2]
    refine ⟨⟨lay_intL _, lay_intL _⟩, ?_⟩
    rw [eqv_intL, decide_eq_true rfl]
    refine br_f ⟨⟨_, _, b2, hN, by decide⟩, LC.h6 _ _ ⟨t * ((2 : Int) ^ w + letL st many) * N, t * ((2 : Int) ^ w + letL st many), rfl, u0, nab_up b3 (by decide), nab_up b2 (by decide), sf 2 (by decide), ?_⟩⟩
    rw [dv.1, dv.2]
    refine ⟨⟨lay_intT [N, 0], lay_intT [N, 0]⟩, ?_⟩
    rw [show PyData.eqv (V.tup [.int N, .int 0]).py (V.tup [.int N, .int 0]).py = true from (eqv_intT [N, 0] [N, 0]).trans (decide_eq_true rfl)]
    have := law5' C LC s0 many st ks w N way D F K hk t ht (.val (.int (t * ((2 : Int) ^ w + letL st many))))
    rw [e2] at this
    exact br_f this
  exact go _ tq
end
inductive LawP (vs : List V) (K : V → Prop) : Prop
  | mk (ns : List Int) (h : vs = [.list (ns.map V.int)]) (l : ns.length ≤ 63) (k : K (.bool true))
theorem wp_law (C : Cx) (LC : LawC1 C) (hF : ∀ many st ks w N, Drawn many st ks w N → LawFacts many st ks N) (ns : List Int) (hl : ns.length ≤ 63) (K : V → Prop) (hk : K (.bool true)) :
    wpSs C b_law [.val (.list (ns.map V.int)), .unset, .unset, .unset, .unset, .unset, .unset, .unset, .unset, .unset, .unset, .unset, .unset, .unset] (fun _ => False) K :=
  LC.h10 _ _ ⟨ns, rfl, hl, fun many st ks w N way D => ⟨rfl, law1' C LC _ many st ks w N way D (hF many st ks w N D) K hk⟩⟩
end Mine
namespace Mine
open PySem
structure Ren (f : Nat → Nat) : Prop where
  inj : ∀ a b, f a = f b → a = b
  dot : f 46 = 46
section
variable {f : Nat → Nat}
theorem Ren.beq (R : Ren f) (a b : Nat) : (f a == f b) = (a == b) := by
  by_cases h : a = b
  · subst h; simp
  · have : ¬ f a = f b := fun q => h (R.inj _ _ q)
    rw [beq_eq_false_iff_ne.mpr h, beq_eq_false_iff_ne.mpr this]
theorem Ren.meq (R : Ren f) (x y : List Nat) : (x.map f = y.map f) = (x = y) := propext (List.map_inj_right (fun a b => R.inj a b))
theorem Ren.pre (R : Ren f) : ∀ x y : List Nat, (x.map f).isPrefixOf (y.map f) = x.isPrefixOf y
  | [], y => by simp
  | a :: x, [] => rfl
  | a :: x, b :: y => by
    show (f a == f b && (x.map f).isPrefixOf (y.map f)) = (a == b && x.isPrefixOf y)
    rw [R.beq, R.pre x y]
theorem Ren.suf (R : Ren f) (x y : List Nat) : (x.map f).isSuffixOf (y.map f) = x.isSuffixOf y := by
  unfold List.isSuffixOf
  rw [← List.map_reverse, ← List.map_reverse, R.pre]
theorem Ren.infix (R : Ren f) (x : List Nat) : ∀ y : List Nat, infixB (x.map f) (y.map f) = infixB x y
  | [] => by simp [infixB]
  | b :: y => by
    show ((x.map f).isPrefixOf ((b :: y).map f) || infixB (x.map f) (y.map f)) = (x.isPrefixOf (b :: y) || infixB x y)
    rw [R.pre, R.infix x y]
theorem Ren.ffrom (R : Ren f) (x s : List Nat) : ∀ (n i : Nat), findFrom (x.map f) (s.map f) i n = findFrom x s i n
  | 0, i => by simp [findFrom]
  | n + 1, i => by
    unfold findFrom
    rw [← List.map_drop, R.pre, R.ffrom x s n]
theorem Ren.fin (R : Ren f) (x s : List Nat) (i e : Nat) : findIn (x.map f) (s.map f) i e = findIn x s i e := by
  unfold findIn
  rw [List.length_map, R.ffrom]
theorem Ren.split (R : Ren f) (sep : List Nat) : ∀ (s acc : List Nat) (k : Nat), splitGo (sep.map f) (acc.map f) (s.map f) k = (splitGo sep acc s k).map (List.map f)
  | [], acc, k => by simp [splitGo]
  | c :: r, acc, 0 => by
    have e : splitGo (sep.map f) (acc.map f) ((c :: r).map f) 0 = if (sep.map f).isPrefixOf ((c :: r).map f) then (acc.map f).reverse :: splitGo (sep.map f) [] (r.map f) ((sep.map f).length - 1) else splitGo (sep.map f) (f c :: acc.map f) (r.map f) 0 := by
      rw [List.map_cons, splitGo]
    rw [e, splitGo, R.pre, List.length_map]
    have h1 := R.split sep r [] (sep.length - 1)
    have h2 := R.split sep r (c :: acc) 0
    rw [List.map_nil] at h1
    rw [List.map_cons] at h2
    rw [h1, h2]
    split
    · rw [List.map_cons, List.map_reverse]
    · rfl
  | c :: r, acc, k + 1 => by
    rw [List.map_cons, splitGo, splitGo, R.split sep r acc k]
theorem Ren.dots (R : Ren f) : Mine.dots.map f = Mine.dots := by
  show [f 46, f 46, f 46] = _
  rw [R.dot]; rfl
theorem Ren.emF (R : Ren f) (got : List Nat) (en : Nat) : ∀ (ws : List (List Nat)) (st : Nat), emF (got.map f) en (ws.map (List.map f)) st = Mine.emF got en ws st
  | [], st => rfl
  | w :: r, st => by
    show (if findIn (w.map f) (got.map f) st en < 0 then false else Mine.emF (got.map f) en (r.map (List.map f)) ((findIn (w.map f) (got.map f) st en).toNat + (w.map f).length)) = (if findIn w got st en < 0 then false else Mine.emF got en r ((findIn w got st en).toNat + w.length))
    simp only [R.fin, List.length_map, R.emF got en r]
theorem Ren.emE (R : Ren f) (got : List Nat) (ws : List (List Nat)) (st : Nat) : emE (got.map f) (ws.map (List.map f)) st = Mine.emE got ws st := by
  unfold Mine.emE
  have e : (ws.map (List.map f)).getLast?.getD [] = (ws.getLast?.getD []).map f := by
    rw [List.getLast?_map]
    cases ws.getLast? <;> rfl
  simp only [e]
  generalize ws.getLast?.getD [] = w
  rw [R.emF, R.suf, List.length_map, List.length_map, ← List.map_dropLast, R.emF]
  cases w <;> simp
theorem Ren.ematch (R : Ren f) (x y : List Nat) : ematch (x.map f) (y.map f) = Mine.ematch x y := by
  unfold Mine.ematch
  have e : infixB Mine.dots (x.map f) = infixB Mine.dots x := by
    have := R.infix Mine.dots x
    rw [R.dots] at this; exact this
  have e2 : splitL (x.map f) Mine.dots = (splitL x Mine.dots).map (List.map f) := by
    have := R.split Mine.dots x [] 0
    rw [R.dots] at this
    unfold splitL; exact this
  rw [e, e2]
  cases infixB Mine.dots x with
  | false =>
    simp only [Bool.false_eq_true, if_false, R.meq]
  | true =>
    simp only [if_true]
    cases splitL x Mine.dots with
    | nil => rfl
    | cons w r =>
      simp only [List.map_cons]
      rw [← List.map_cons (f := List.map f), R.emE, R.emE, R.pre, List.length_map]
      cases w <;> simp
theorem Ren.sg (f : Nat → Nat) {ss : List Nat} {p : Nat} (h : p < ss.length) : sg (ss.map f) p = f (Mine.sg ss p) := by
  unfold Mine.sg
  rw [List.getD_eq_getElem?_getD, List.getD_eq_getElem?_getD, List.getElem?_map, List.getElem?_eq_getElem h]; rfl
end
end Mine
namespace Mine
open PySem
theorem split2 : ∀ (bs : List (List Nat)) (g : Nat), g + 1 < bs.length → ∃ A L R B, bs = A ++ L :: R :: B ∧ A.length = g
  | [], g, h => nomatch h
  | [x], g, h => by rw [List.length_singleton] at h; lia
  | x :: y :: r, 0, h => ⟨[], x, y, r, rfl, rfl⟩
  | x :: y :: r, g + 1, h => by
    obtain ⟨A, L, R, B, e, l⟩ := split2 (y :: r) g (Nat.lt_of_succ_lt_succ h)
    exact ⟨x :: A, L, R, B, by rw [e]; rfl, by rw [List.length_cons, l]⟩
theorem putB_split (A : List (List Nat)) (L R : List Nat) (B : List (List Nat)) (k : Nat) (s : List Nat) : putB (A ++ L :: R :: B) A.length k s = A ++ midB L s R k ++ B := by
  have e1 : (A ++ L :: R :: B).getD A.length [] = L := by simp [List.getD_eq_getElem?_getD]
  have e2 : (A ++ L :: R :: B).getD (A.length + 1) [] = R := by simp [List.getD_eq_getElem?_getD, List.getElem?_append_right]
  have e3 : (A ++ L :: R :: B).drop (A.length + 2) = B := by
    rw [List.drop_append, List.drop_eq_nil_of_le (Nat.le_add_right _ 2), Nat.add_sub_cancel_left]; rfl
  unfold putB
  rw [e1, e2, e3, List.take_left' rfl]
theorem midB_len (L s R : List Nat) {m w k : Nat} (h : k ∈ kindsFor m w) : (midB L s R k).length + w = nextW w k + 2 := by
  rcases kf h with ⟨rfl, h⟩ | ⟨rfl, h⟩ | ⟨rfl, h⟩ | ⟨rfl, h⟩
  · show 3 + w = w + 1 + 2; lia
  · show 1 + w = w - 1 + 2; lia
  · show 2 + w = w + 2; lia
  · show 2 + w = w + 2; lia
theorem midB_flat (L s R : List Nat) {k : Nat} (h : k < 4) : (midB L s R k).flatten = L ++ s ++ R := by
  rcases k with _ | _ | _ | _ | k
  · show L ++ (s ++ (R ++ [])) = _; rw [List.append_nil, List.append_assoc]
  · show (L ++ s ++ R) ++ [] = _; rw [List.append_nil]
  · show (L ++ s) ++ (R ++ []) = _; rw [List.append_nil]
  · show L ++ ((s ++ R) ++ []) = _; rw [List.append_nil, List.append_assoc]
  · lia
theorem putB_length {bs : List (List Nat)} {g m w k : Nat} {s : List Nat} (hb : bs.length = w + 2) (hg : g < w + 1) (h : k ∈ kindsFor m w) : (putB bs g k s).length = nextW w k + 2 := by
  obtain ⟨A, L, R, B, e, l⟩ := split2 bs g (by lia)
  subst e; subst l
  rw [putB_split]
  have := midB_len L s R h
  simp only [List.length_append, List.length_cons] at hb ⊢
  lia
theorem putB_flat {bs : List (List Nat)} {g k : Nat} {s : List Nat} (hg : g + 1 < bs.length) (h : k < 4) : (putB bs g k s).flatten.length = bs.flatten.length + s.length ∧ ∀ c ∈ (putB bs g k s).flatten, c ∈ bs.flatten ∨ c ∈ s := by
  obtain ⟨A, L, R, B, e, l⟩ := split2 bs g hg
  subst e; subst l
  rw [putB_split]
  simp only [List.flatten_append, List.flatten_cons, midB_flat L s R h, List.length_append]
  refine ⟨by lia, fun c hc => ?_⟩
  simp only [List.mem_append] at hc ⊢
  rcases hc with (h | (h | h) | h) | h
  · exact .inl (.inl h)
  · exact .inl (.inr (.inl h))
  · exact .inr h
  · exact .inl (.inr (.inr (.inl h)))
  · exact .inl (.inr (.inr (.inr h)))
theorem mem_len {b : List Nat} : ∀ {bs : List (List Nat)}, b ∈ bs → b.length ≤ bs.flatten.length
  | x :: r, h => by
    rw [List.flatten_cons, List.length_append]
    rcases List.mem_cons.mp h with rfl | h
    · lia
    · have := mem_len h; lia
theorem midB_map (f : Nat → Nat) (L s R : List Nat) (k : Nat) : midB (L.map f) (s.map f) (R.map f) k = (midB L s R k).map (List.map f) := by
  rcases k with _ | _ | _ | k
  · rfl
  · show [_] = [_]; rw [List.map_append, List.map_append]
  · show [_, _] = [_, _]; rw [List.map_append]
  · show [_, _] = [_, _]; rw [List.map_append]
theorem getD_map (f : Nat → Nat) (bs : List (List Nat)) (g : Nat) : (bs.map (List.map f)).getD g [] = (bs.getD g []).map f := by
  rw [List.getD_eq_getElem?_getD, List.getD_eq_getElem?_getD, List.getElem?_map]
  cases bs[g]? <;> rfl
theorem putB_map (f : Nat → Nat) (bs : List (List Nat)) (g k : Nat) (s : List Nat) : putB (bs.map (List.map f)) g k (s.map f) = (putB bs g k s).map (List.map f) := by
  unfold putB
  rw [getD_map, getD_map, midB_map, List.map_append, List.map_append, List.map_take, List.map_drop]
theorem gap_lt {bs : List (List Nat)} (h : 2 ≤ bs.length) (N : Int) : gapOf bs N + 1 < bs.length ∧ ((gapOf bs N : Nat) : Int) = N.fmod ((bs.length : Int) - 1) := by
  have hG : (0 : Int) < (bs.length : Int) - 1 := by lia
  have f0 := Int.fmod_nonneg_of_pos N hG
  have f1 := Int.fmod_lt_of_pos N hG
  have e : ((gapOf bs N : Nat) : Int) = N.fmod ((bs.length : Int) - 1) := Int.toNat_of_nonneg f0
  exact ⟨by lia, e⟩
theorem whole_eq : ∀ (ps : List (Nat × Nat)) (bs : List (List Nat)) (fr : List Nat) (N : Int), StOk ps bs fr → wholeG (stagesG ps bs N) (endG ps bs N).2 = N
  | [], bs, fr, N, _ => rfl
  | p :: r, bs, fr, N, h => by
    obtain ⟨hb, h2, _, _, _, _, hr⟩ := h
    obtain ⟨h3, h4⟩ := gap_lt h2 N
    show wholeG (stagesG r (putB bs (gapOf bs N) p.1 [p.2]) (N.fdiv ((bs.length : Int) - 1))) (endG r (putB bs (gapOf bs N) p.1 [p.2]) (N.fdiv ((bs.length : Int) - 1))).2 * ((bs.length : Int) - 1) + (gapOf bs N : Nat) = N
    rw [whole_eq r _ _ _ (hr _ h3), h4, Int.fmod_def, Int.mul_comm]; lia
theorem whole_size : ∀ (ps : List (Nat × Nat)) (bs : List (List Nat)) (fr : List Nat) (N : Int) (j : Nat), StOk ps bs fr → (wholeG ((stagesG ps bs N).drop j) (endG ps bs N).2).natAbs ≤ N.natAbs
  | [], bs, fr, N, j, _ => by
    show (wholeG (([] : List Stp).drop j) N).natAbs ≤ _
    rw [List.drop_nil]; exact Nat.le_refl _
  | p :: r, bs, fr, N, 0, h => by
    rw [List.drop_zero, whole_eq _ bs fr N h]; exact Nat.le_refl _
  | p :: r, bs, fr, N, j + 1, h => by
    obtain ⟨hb, h2, _, _, _, _, hr⟩ := h
    exact Nat.le_trans (whole_size r _ _ _ j (hr _ (gap_lt h2 N).1)) (fdiv_abs N _ (by lia))
theorem stages_len : ∀ (ps : List (Nat × Nat)) (bs : List (List Nat)) (N : Int), (stagesG ps bs N).length = ps.length
  | [], _, _ => rfl
  | p :: r, bs, N => congrArg Nat.succ (stages_len r _ _)
theorem stages_bss : ∀ (ps : List (Nat × Nat)) (bs : List (List Nat)) (fr : List Nat) (N : Int), StOk ps bs fr → ∀ st ∈ stagesG ps bs N, Bss st.bs ∧ 2 ≤ st.bs.length ∧ ∃ c, st.sn = [c]
  | [], bs, fr, N, _, st, h => nomatch h
  | p :: r, bs, fr, N, h, st, hm => by
    obtain ⟨hb, h2, _, _, _, _, hr⟩ := h
    rcases List.mem_cons.mp hm with rfl | hm
    · exact ⟨hb, h2, _, rfl⟩
    · exact stages_bss r _ _ _ (hr _ (gap_lt h2 N).1) st hm
theorem kinds_facts : ∀ (m w : Nat) (ks : List Nat), KindsOk m w ks → ks.length = m ∧ ∀ k ∈ ks, k < 4
  | 0, w, ks, h => by obtain ⟨rfl, _⟩ := h; exact ⟨rfl, fun k hk => nomatch hk⟩
  | m + 1, w, ks, h => by
    obtain ⟨k, r, rfl, hk, hr⟩ := h
    obtain ⟨h1, h2⟩ := kinds_facts m _ r hr
    exact ⟨congrArg Nat.succ h1, fun x hx => (List.mem_cons.mp hx).elim (fun e => e ▸ kf_lt hk) (h2 x)⟩
noncomputable def renS (f : Nat → Nat) (st : Stp) : Stp := ⟨st.bs.map (List.map f), st.gp, st.kd, st.sn.map f⟩
noncomputable def renP (f : Nat → Nat) (p : Nat × Nat) : Nat × Nat := (p.1, f p.2)
theorem gap_map (f : Nat → Nat) (bs : List (List Nat)) (N : Int) : gapOf (bs.map (List.map f)) N = gapOf bs N := by unfold gapOf; rw [List.length_map]
theorem stages_map (f : Nat → Nat) : ∀ (ps : List (Nat × Nat)) (bs : List (List Nat)) (N : Int), stagesG (ps.map (renP f)) (bs.map (List.map f)) N = (stagesG ps bs N).map (renS f)
  | [], _, _ => rfl
  | p :: r, bs, N => by
    show (⟨_, gapOf (bs.map (List.map f)) N, p.1, [f p.2]⟩ : Stp) :: stagesG (r.map (renP f)) (putB (bs.map (List.map f)) (gapOf (bs.map (List.map f)) N) p.1 ([p.2].map f)) (N.fdiv (((bs.map (List.map f)).length : Int) - 1)) = _
    rw [gap_map, putB_map, List.length_map, stages_map f r]; rfl
theorem end_map (f : Nat → Nat) : ∀ (ps : List (Nat × Nat)) (bs : List (List Nat)) (N : Int), endG (ps.map (renP f)) (bs.map (List.map f)) N = ((endG ps bs N).1.map (List.map f), (endG ps bs N).2)
  | [], _, _ => rfl
  | p :: r, bs, N => by
    show endG (r.map (renP f)) (putB (bs.map (List.map f)) (gapOf (bs.map (List.map f)) N) p.1 ([p.2].map f)) (N.fdiv (((bs.map (List.map f)).length : Int) - 1)) = _
    rw [gap_map, putB_map, List.length_map, end_map f r]; rfl
theorem hist_use (sgs : List Nat) : ∀ (m s w : Nat) (bs : List (List Nat)) (acc : List Stp), histAll sgs m s w bs acc = true → bs.length = w + 2 → ∀ (ks : List Nat), KindsOk m w ks → ∀ N : Int,
    permOk sgs.length ((endG ((ks ++ [1]).zip (List.range' s (m + 1))) bs N).1.getD 0 []) = true ∧ readAll ((endG ((ks ++ [1]).zip (List.range' s (m + 1))) bs N).1.getD 0 []) sgs 0 (acc ++ stagesG ((ks ++ [1]).zip (List.range' s (m + 1))) bs N) = true
  | 0, s, w, bs, acc, h, hb, ks, hk, N => by
    obtain ⟨rfl, rfl⟩ := hk
    rw [hist_zero] at h
    have e : (bs.length : Int) - 1 = 1 := by lia
    have eg : gapOf bs N = 0 := by
      have := (gap_lt (bs := bs) (by lia) N).1
      lia
    show permOk sgs.length ((putB bs (gapOf bs N) 1 [s]).getD 0 []) = true ∧ readAll ((putB bs (gapOf bs N) 1 [s]).getD 0 []) sgs 0 (acc ++ [⟨bs, gapOf bs N, 1, [s]⟩]) = true
    rw [eg]
    exact Bool.and_eq_true_iff.mp h
  | m + 1, s, w, bs, acc, h, hb, ks, hk, N => by
    obtain ⟨k, r, rfl, hkk, hr⟩ := hk
    have hg := (gap_lt (bs := bs) (by lia) N).1
    have h1 := hist_succ.mp h k hkk (gapOf bs N) (by lia)
    have h2 := hist_use sgs m (s + 1) (nextW w k) _ _ h1 (putB_length hb (by lia) hkk) r hr (N.fdiv ((bs.length : Int) - 1))
    rw [List.append_assoc] at h2
    exact h2
end Mine
namespace Mine
open PySem
theorem pre_dots (r : List Nat) : dots.isPrefixOf (46 :: 46 :: 46 :: r) = true := by
  show (46 == 46 && (46 == 46 && (46 == 46 && List.isPrefixOf [] r))) = true
  cases r <;> rfl
theorem pre_not {c : Nat} (h : c ≠ 46) (r : List Nat) : dots.isPrefixOf (c :: r) = false := by
  show (46 == c && _) = false
  rw [beq_eq_false_iff_ne.mpr fun q => h q.symm]; rfl
theorem split_one : ∀ (w acc : List Nat), 46 ∉ w → splitGo dots acc w 0 = [acc.reverse ++ w]
  | [], acc, _ => by rw [List.append_nil]; rfl
  | c :: r, acc, h => by
    have hc : c ≠ 46 := fun q => h (q ▸ List.mem_cons_self)
    have ih := split_one r (c :: acc) fun q => h (List.mem_cons_of_mem _ q)
    rw [splitGo, pre_not hc, ih, List.reverse_cons, List.append_assoc]; rfl
theorem split_more (rest : List Nat) : ∀ (w acc : List Nat), 46 ∉ w → splitGo dots acc (w ++ dots ++ rest) 0 = (acc.reverse ++ w) :: splitGo dots [] rest 0
  | [], acc, _ => by
    show splitGo dots acc (46 :: 46 :: 46 :: rest) 0 = _
    rw [splitGo, pre_dots, List.append_nil]; rfl
  | c :: r, acc, h => by
    have hc : c ≠ 46 := fun q => h (q ▸ List.mem_cons_self)
    have ih := split_more rest r (c :: acc) fun q => h (List.mem_cons_of_mem _ q)
    show splitGo dots acc (c :: (r ++ dots ++ rest)) 0 = _
    rw [splitGo, pre_not hc, ih, List.reverse_cons, List.append_assoc acc.reverse [c] r]; rfl
theorem split_join : ∀ ws : List (List Nat), ws ≠ [] → (∀ w ∈ ws, 46 ∉ w) → splitL (joinL dots ws) dots = ws
  | [], h, _ => absurd rfl h
  | [w], _, h => split_one w [] (h w List.mem_cons_self)
  | w :: y :: r, _, h => by
    have ih := split_join (y :: r) (List.cons_ne_nil _ _) fun x hx => h x (List.mem_cons_of_mem _ hx)
    have := split_more (joinL dots (y :: r)) w [] (h w List.mem_cons_self)
    show splitGo dots [] (w ++ dots ++ joinL dots (y :: r)) 0 = _
    rw [this]
    exact congrArg (w :: ·) ih
theorem infix_more (rest : List Nat) : ∀ w : List Nat, infixB dots (w ++ dots ++ rest) = true
  | [] => by
    show (dots.isPrefixOf (46 :: 46 :: 46 :: rest) || _) = true
    rw [pre_dots]; rfl
  | c :: r => by
    show (dots.isPrefixOf (c :: (r ++ dots ++ rest)) || infixB dots (r ++ dots ++ rest)) = true
    rw [infix_more rest r, Bool.or_true]
theorem infix_one : ∀ w : List Nat, 46 ∉ w → infixB dots w = false
  | [], _ => rfl
  | c :: r, h => by
    show (dots.isPrefixOf (c :: r) || infixB dots r) = false
    rw [pre_not fun q => h (q ▸ List.mem_cons_self), infix_one r fun q => h (List.mem_cons_of_mem _ q)]; rfl
theorem emW_join (ws : List (List Nat)) (row : List Nat) (hn : ws ≠ []) (h : ∀ w ∈ ws, 46 ∉ w) : ematch (joinL dots ws) row = emW ws row := by
  have hs := split_join ws hn h
  unfold ematch
  rw [hs]
  match ws, hn, h with
  | [w], _, h => rw [show joinL dots [w] = w from rfl, infix_one w (h w List.mem_cons_self)]; rfl
  | w :: y :: r, _, h => rw [show joinL dots (w :: y :: r) = w ++ dots ++ joinL dots (y :: r) from rfl, infix_more]; rfl
theorem joinL_map (f : Nat → Nat) (sep : List Nat) : ∀ ws : List (List Nat), (joinL sep ws).map f = joinL (sep.map f) (ws.map (List.map f))
  | [] => rfl
  | [w] => rfl
  | w :: y :: r => by
    show (w ++ sep ++ joinL sep (y :: r)).map f = w.map f ++ sep.map f ++ joinL (sep.map f) ((y :: r).map (List.map f))
    rw [List.map_append, List.map_append, joinL_map f sep (y :: r)]
theorem midB_mem {L s R : List Nat} {k c : Nat} (h : c ∈ (midB L s R k).flatten) : c ∈ L ∨ c ∈ s ∨ c ∈ R := by
  rcases k with _ | _ | _ | k <;> simpa [midB, or_assoc] using h
theorem getD_flat {bs : List (List Nat)} {g c : Nat} (h : c ∈ bs.getD g []) : c ∈ bs.flatten := by
  rw [List.getD_eq_getElem?_getD] at h
  cases e : bs[g]? with
  | none => rw [e] at h; cases h
  | some x => rw [e] at h; exact List.mem_flatten.mpr ⟨x, List.mem_of_getElem? e, h⟩
theorem putB_mem {bs : List (List Nat)} {g k c : Nat} {s : List Nat} (h : c ∈ (putB bs g k s).flatten) : c ∈ bs.flatten ∨ c ∈ s := by
  unfold putB at h
  rw [List.flatten_append, List.flatten_append] at h
  rcases List.mem_append.mp h with h | h
  · rcases List.mem_append.mp h with h | h
    · obtain ⟨x, hx, hc⟩ := List.mem_flatten.mp h
      exact .inl (List.mem_flatten.mpr ⟨x, List.mem_of_mem_take hx, hc⟩)
    · rcases midB_mem h with h | h | h
      · exact .inl (getD_flat h)
      · exact .inr h
      · exact .inl (getD_flat h)
  · obtain ⟨x, hx, hc⟩ := List.mem_flatten.mp h
    exact .inl (List.mem_flatten.mpr ⟨x, List.mem_of_mem_drop hx, hc⟩)
theorem putB_ne (bs : List (List Nat)) (g k : Nat) (s : List Nat) : putB bs g k s ≠ [] := by
  unfold putB
  intro h
  have := (List.append_eq_nil_iff.mp (List.append_eq_nil_iff.mp h).1).2
  rcases k with _ | _ | _ | k <;> cases this
noncomputable def Low (n : Nat) (bs : List (List Nat)) : Prop := ∀ c ∈ bs.flatten, c < n
theorem stages_low (n : Nat) : ∀ (ps : List (Nat × Nat)) (bs : List (List Nat)) (N : Int), (∀ p ∈ ps, p.2 < n) → Low n bs → (∀ st ∈ stagesG ps bs N, Low n st.bs ∧ ∀ c ∈ st.sn, c < n) ∧ Low n (endG ps bs N).1
  | [], bs, N, _, h => ⟨fun st hs => (nomatch hs), h⟩
  | p :: r, bs, N, hp, h => by
    have h0 := hp p List.mem_cons_self
    have h1 := stages_low n r (putB bs (gapOf bs N) p.1 [p.2]) (N.fdiv ((bs.length : Int) - 1)) (fun q hq => hp q (List.mem_cons_of_mem _ hq)) fun c hc => (putB_mem hc).elim (h c) fun q => by rw [List.mem_singleton.mp q]; exact h0
    refine ⟨fun st hs => ?_, h1.2⟩
    rcases List.mem_cons.mp hs with rfl | hs
    · exact ⟨h, fun c hc => by rw [List.mem_singleton.mp hc]; exact h0⟩
    · exact h1.1 st hs
theorem readAll_at {row sgs : List Nat} : ∀ (steps : List Stp) (k0 k : Nat) (st : Stp), readAll row sgs k0 steps = true → steps[k]? = some st → readStep row sgs (k0 + k) st = true
  | [], _, _, _, _, h => nomatch h
  | x :: r, k0, 0, st, h, hs => by
    obtain rfl : x = st := Option.some.inj hs
    exact (Bool.and_eq_true_iff.mp h).1
  | x :: r, k0, k + 1, st, h, hs => by
    have := readAll_at r (k0 + 1) k st (Bool.and_eq_true_iff.mp h).2 hs
    rw [Nat.add_assoc, Nat.add_comm 1 k] at this; exact this
theorem no46 {ws : List (List Nat)} {n : Nat} (hn : n ≤ 6) (h : Low n ws) : ∀ w ∈ ws, 46 ∉ w := fun w hw q => by
  have := h 46 (List.mem_flatten.mpr ⟨w, hw, q⟩)
  lia
theorem read_ok {f : Nat → Nat} (R : Ren f) {n : Nat} (hn : n ≤ 6) {row sgs : List Nat} {k : Nat} {st : Stp} (h : readStep row sgs k st = true) (hl : Low n st.bs) (hsn : ∀ c ∈ st.sn, c < n) (hsg : ∀ c ∈ sgs, c < n) (hb : Bss st.bs) (h2 : 2 ≤ st.bs.length) (h1 : st.sn.length ≤ 2) :
    ReadOk (row.map f) (sgs.map f) k (renS f st) := by
  obtain ⟨w, fa⟩ := Bool.and_eq_true_iff.mp h
  have fa := of_decide_eq_true fa
  have low : ∀ place way, Low n (putB st.bs place way st.sn) := fun place way c hc => (putB_mem hc).elim (hl c) (hsn c)
  refine ⟨fun place way hp hw => ?_, ?_, ?_, ?_, ?_⟩
  · have hp : place + 1 < st.bs.length := by
      have : place + 1 < (st.bs.map (List.map f)).length := hp
      rw [List.length_map] at this; exact this
    have a := List.all_eq_true.mp (List.all_eq_true.mp w place (List.mem_range.mpr (by lia))) way (List.mem_range.mpr hw)
    have a := eq_of_beq a
    show ematch (joinL dots (putB (st.bs.map (List.map f)) place way (st.sn.map f))) (row.map f) = dueW st place way
    have ed : dots.map f = dots := R.dots
    have ej := joinL_map f dots (putB st.bs place way st.sn)
    rw [ed] at ej
    rw [putB_map, ← ej, R.ematch, emW_join _ _ (putB_ne _ _ _ _) (no46 hn (low place way))]
    exact a
  · show ((fallsOf ((sgs.map f).drop (k + 1)) ((sgs.map f).take k)).filter (fallT (row.map f) (st.sn.map f))).length = st.gp
    have e1 : fallsOf ((sgs.map f).drop (k + 1)) ((sgs.map f).take k) = (fallsOf (sgs.drop (k + 1)) (sgs.take k)).map (List.map f) := by
      unfold fallsOf
      rw [← List.map_drop, ← List.map_take, List.flatMap_map, List.map_flatMap]
      congr 1
      funext a
      rw [List.map_map, List.map_map]; rfl
    rw [e1, List.filter_map, List.length_map, ← fa]
    congr 1
    apply List.filter_congr
    intro x hx
    show ematch (dots ++ x.map f ++ dots ++ st.sn.map f ++ dots) (row.map f) = fallHit row st.sn x
    have ed : dots.map f = dots := R.dots
    have e2 : dots ++ x.map f ++ dots ++ st.sn.map f ++ dots = (joinL dots [[], x, st.sn, []]).map f := by
      rw [joinL_map, ed]
      simp [joinL]
    have hx6 : ∀ c ∈ x, c < n := by
      obtain ⟨a, ha, hx⟩ := List.mem_flatMap.mp hx
      obtain ⟨b, hb, rfl⟩ := List.mem_map.mp hx
      intro c hc
      rcases List.mem_cons.mp hc with rfl | hc
      · exact hsg _ (List.mem_of_mem_drop ha)
      · rw [List.mem_singleton.mp hc]; exact hsg _ (List.mem_of_mem_take hb)
    rw [e2, R.ematch, emW_join _ _ (List.cons_ne_nil _ _) (no46 (n := n) hn fun c hc => ?_)]
    · rfl
    · simp only [List.flatten_cons, List.flatten_nil, List.nil_append, List.append_nil, List.mem_append] at hc
      exact hc.elim (hx6 c) (hsn c)
  · refine ⟨by show (st.bs.map (List.map f)).length ≤ 20; rw [List.length_map]; exact hb.n, fun b hb' => ?_⟩
    obtain ⟨x, hx, rfl⟩ := List.mem_map.mp hb'
    rw [List.length_map]; exact hb.w x hx
  · show 1 ≤ (st.bs.map (List.map f)).length
    rw [List.length_map]; lia
  · show (st.sn.map f).length ≤ 2
    rw [List.length_map]; exact h1
end Mine
namespace Mine
open PySem
noncomputable def renF (many st c : Nat) : Nat := if c < many then opsF.getD (st + c) 0 else if c = 46 then 46 else c + 1000
theorem ops_facts : (∀ a b : Fin 23, opsF.getD a.1 0 = opsF.getD b.1 0 → a = b) ∧ ∀ a : Fin 23, opsF.getD a.1 0 < 1000 ∧ opsF.getD a.1 0 ≠ 46 := by decide +kernel
theorem renF_ok {many st : Nat} (h6 : many ≤ 6) (h : st + many ≤ 23) : Ren (renF many st) := by
  have lo : ∀ c, c < many → renF many st c = opsF.getD (st + c) 0 ∧ opsF.getD (st + c) 0 < 1000 ∧ opsF.getD (st + c) 0 ≠ 46 := fun c hc => ⟨if_pos hc, ops_facts.2 ⟨st + c, by lia⟩⟩
  have hi : ∀ c, ¬ c < many → (renF many st c = 46 ∧ c = 46) ∨ (renF many st c = c + 1000) := fun c hc => by
    unfold renF
    rw [if_neg hc]
    split
    · exact .inl ⟨rfl, by assumption⟩
    · exact .inr rfl
  refine ⟨fun a b e => ?_, by unfold renF; rw [if_neg (by lia), if_pos rfl]⟩
  by_cases ha : a < many
  · obtain ⟨a1, a2, a3⟩ := lo a ha
    by_cases hb : b < many
    · obtain ⟨b1, b2, b3⟩ := lo b hb
      have := congrArg Fin.val (ops_facts.1 ⟨st + a, by lia⟩ ⟨st + b, by lia⟩ (a1.symm.trans (e.trans b1)))
      have : st + a = st + b := this
      lia
    · rcases hi b hb with ⟨q, _⟩ | q
      · exact absurd (a1.symm.trans (e.trans q)) a3
      · lia
  · by_cases hb : b < many
    · obtain ⟨b1, b2, b3⟩ := lo b hb
      rcases hi a ha with ⟨q, _⟩ | q
      · exact absurd (b1.symm.trans (e.symm.trans q)) b3
      · lia
    · rcases hi a ha with ⟨q, qa⟩ | q <;> rcases hi b hb with ⟨q', qb⟩ | q'
      · lia
      · lia
      · lia
      · lia
theorem renF_map {many st : Nat} (h : st + many ≤ 23) : (List.range' 0 many).map (renF many st) = sgF st many := by
  apply List.ext_getElem
  · rw [List.length_map, List.length_range', sgF_len h]
  · intro i h1 h2
    rw [List.length_map, List.length_range'] at h1
    have h3 : st + i < opsF.length := by rw [show opsF.length = 23 from rfl]; lia
    have key : ∀ h : i < ((opsF.take (st + many)).drop st).length, ((opsF.take (st + many)).drop st)[i] = opsF.getD (st + i) 0 := fun h => by
      rw [List.getElem_drop, List.getElem_take, List.getD_eq_getElem?_getD, List.getElem?_eq_getElem h3]; rfl
    rw [List.getElem_map, List.getElem_range', Nat.zero_add, Nat.one_mul]
    exact (if_pos h1).trans (key h2).symm
theorem once_all (n : Nat) (h : n = 4 ∨ n = 5 ∨ n = 6) : ∀ cut < n, (onceT (List.range' 0 n) cut).map (fun t => ematch t (List.range' 0 n)) = [false, false, false, false, false, false, true] ∧ (onceO (List.range' 0 n) cut).map (fun t => ematch t (List.range' 0 n ++ List.range' 0 n)) = [true, false] := by
  rcases h with rfl | rfl | rfl <;> decide +kernel
theorem rep_map {α β : Type} (f : α → β) (s : List α) (n : Int) : (rep s n).map f = rep (s.map f) n := by
  unfold rep
  rw [List.map_flatten, List.map_replicate]
theorem onceT_map {f : Nat → Nat} (R : Ren f) (row : List Nat) (cut : Nat) (hc : cut < row.length) : onceT (row.map f) cut = (onceT row cut).map (List.map f) := by
  have ed : dots.map f = dots := R.dots
  have e1 := Ren.sg f hc
  have e2 := Ren.sg f (show 0 < row.length by lia)
  unfold onceT onceW
  simp only [List.map_append, List.map_cons, List.map_nil, slice_map, e1, e2, ed]
theorem onceO_map {f : Nat → Nat} (R : Ren f) (row : List Nat) (cut : Nat) (hc : cut < row.length) : onceO (row.map f) cut = (onceO row cut).map (List.map f) := by
  have ed : dots.map f = dots := R.dots
  have e1 := Ren.sg f hc
  unfold onceO
  simp only [List.map_append, List.map_cons, List.map_nil, rep_map, e1, ed]
theorem once_ok {f : Nat → Nat} (R : Ren f) (n : Nat) (h : n = 4 ∨ n = 5 ∨ n = 6) (cut : Nat) (hc : cut < n) : OnceOk ((List.range' 0 n).map f) cut := by
  obtain ⟨a, b⟩ := once_all n h cut hc
  have hc' : cut < (List.range' 0 n).length := by rw [List.length_range']; exact hc
  constructor
  · rw [onceT_map R _ _ hc', List.map_map, ← a]
    apply List.map_congr_left
    intro t _
    exact R.ematch _ _
  · rw [onceO_map R _ _ hc', List.map_map, ← b, ← List.map_append]
    apply List.map_congr_left
    intro t _
    exact R.ematch _ _
noncomputable def renR (n : Nat) (row : List Nat) (c : Nat) : Nat := if c < n then row.getD c 0 else if c = 46 then 46 else c + 1000
theorem memB_iff (a : Nat) : ∀ l : List Nat, memB a l = true ↔ a ∈ l
  | [] => ⟨fun h => (nomatch h), fun h => nomatch h⟩
  | b :: r => by
    rw [memB, Bool.or_eq_true, memB_iff a r, List.mem_cons]
    exact or_congr ⟨fun h => Nat.eq_of_beq_eq_true h, fun h => h ▸ Nat.beq_refl a⟩ Iff.rfl
theorem nodup_get : ∀ {l : List Nat}, nodupB l = true → ∀ i j, i < l.length → j < l.length → l.getD i 0 = l.getD j 0 → i = j
  | [], _, i, j, hi, _, _ => nomatch hi
  | a :: r, h, i, j, hi, hj, e => by
    obtain ⟨h1, h2⟩ := Bool.and_eq_true_iff.mp h
    have h1 : ¬ a ∈ r := fun q => by rw [(memB_iff a r).mpr q] at h1; cases h1
    have mem : ∀ k, k < r.length → r.getD k 0 ∈ r := fun k hk => by
      rw [List.getD_eq_getElem?_getD, List.getElem?_eq_getElem hk]; exact List.getElem_mem hk
    rw [List.length_cons] at hi hj
    match i, j with
    | 0, 0 => rfl
    | 0, j + 1 =>
      have e : a = r.getD j 0 := e
      exact absurd (e ▸ mem j (by lia)) h1
    | i + 1, 0 =>
      have e : r.getD i 0 = a := e
      exact absurd (e ▸ mem i (by lia)) h1
    | i + 1, j + 1 =>
      have e : r.getD i 0 = r.getD j 0 := e
      rw [nodup_get h2 i j (by lia) (by lia) e]
theorem renR_ok {n : Nat} {row : List Nat} (hn : n ≤ 6) (h : permOk n row = true) : Ren (renR n row) ∧ (List.range' 0 n).map (renR n row) = row ∧ row.length = n := by
  obtain ⟨h1, h2⟩ := Bool.and_eq_true_iff.mp h
  obtain ⟨h2, h3⟩ := Bool.and_eq_true_iff.mp h2
  have h1 : row.length = n := Nat.eq_of_beq_eq_true h1
  have lo : ∀ c, c < n → renR n row c = row.getD c 0 ∧ row.getD c 0 < n := fun c hc => ⟨if_pos hc, by
    have hc' : c < row.length := by lia
    rw [List.getD_eq_getElem?_getD, List.getElem?_eq_getElem hc']
    have := List.all_eq_true.mp h3 _ (List.getElem_mem hc')
    exact Nat.ble_eq.mp this⟩
  have hi : ∀ c, ¬ c < n → (renR n row c = 46 ∧ c = 46) ∨ (renR n row c = c + 1000) := fun c hc => by
    unfold renR
    rw [if_neg hc]
    split
    · exact .inl ⟨rfl, by assumption⟩
    · exact .inr rfl
  refine ⟨⟨fun a b e => ?_, by unfold renR; rw [if_neg (by lia), if_pos rfl]⟩, ?_, h1⟩
  · by_cases ha : a < n <;> by_cases hb : b < n
    · exact nodup_get h2 a b (by lia) (by lia) ((lo a ha).1.symm.trans (e.trans (lo b hb).1))
    · have := lo a ha
      rcases hi b hb with q | q <;> lia
    · have := lo b hb
      rcases hi a ha with q | q <;> lia
    · rcases hi a ha with ⟨q, qa⟩ | q <;> rcases hi b hb with ⟨q', qb⟩ | q' <;> lia
  · apply List.ext_getElem
    · rw [List.length_map, List.length_range', h1]
    · intro i h4 h5
      rw [List.length_map, List.length_range'] at h4
      rw [List.getElem_map, List.getElem_range', Nat.zero_add, Nat.one_mul, (lo i h4).1, List.getD_eq_getElem?_getD, List.getElem?_eq_getElem h5]; rfl
theorem Ren.comp {f g : Nat → Nat} (F : Ren f) (G : Ren g) : Ren (f ∘ g) := ⟨fun a b e => G.inj _ _ (F.inj _ _ e), (congrArg f G.dot).trans F.dot⟩
theorem hist_all (n : Nat) (h : n = 4 ∨ n = 5 ∨ n = 6) : histAll (List.range' 0 n) (n - 1) 0 0 [[], []] [] = true := by
  rcases h with rfl | rfl | rfl
  · exact hist4
  · exact hist5
  · exact h6_
structure RowFacts (many st : Nat) (ks : List Nat) (N : Int) : Prop where
  read : ∀ k x, (stagesG ((ks ++ [1]).zip (sgF st many)) [[], []] N)[k]? = some x → ReadOk ((endG ((ks ++ [1]).zip (sgF st many)) [[], []] N).1.getD 0 []) (sgF st many) k x
  rl : ((endG ((ks ++ [1]).zip (sgF st many)) [[], []] N).1.getD 0 []).length = many
  once : ∀ cut < many, OnceOk ((endG ((ks ++ [1]).zip (sgF st many)) [[], []] N).1.getD 0 []) cut
theorem row_facts (many st : Nat) (ks : List Nat) (N : Int) (m4 : 4 ≤ many) (m6 : many ≤ 6) (hst : st + many ≤ 23) (hk : KindsOk (many - 1) 0 ks) (so : StOk ((ks ++ [1]).zip (sgF st many)) [[], []] []) : RowFacts many st ks N := by
  have hn : many = 4 ∨ many = 5 ∨ many = 6 := by lia
  have R := renF_ok m6 hst
  have e1 : (ks ++ [1]).zip (sgF st many) = ((ks ++ [1]).zip (List.range' 0 many)).map (renP (renF many st)) := by rw [← renF_map hst, List.zip_map_right]; rfl
  have hu := hist_use (List.range' 0 many) (many - 1) 0 0 [[], []] [] (hist_all many hn) rfl ks hk N
  rw [show many - 1 + 1 = many by lia, List.length_range', List.nil_append] at hu
  have lowp : ∀ p ∈ (ks ++ [1]).zip (List.range' 0 many), p.2 < many := fun p hp => by
    have := (List.of_mem_zip hp).2
    have := List.mem_range'_1.mp this
    lia
  obtain ⟨l1, l2⟩ := stages_low many ((ks ++ [1]).zip (List.range' 0 many)) [[], []] N lowp (fun c hc => nomatch hc)
  have bss := stages_bss _ _ _ N so
  have es : stagesG ((ks ++ [1]).zip (sgF st many)) [[], []] N = (stagesG ((ks ++ [1]).zip (List.range' 0 many)) [[], []] N).map (renS (renF many st)) := by rw [e1]; exact stages_map _ _ [[], []] N
  have ee : (endG ((ks ++ [1]).zip (sgF st many)) [[], []] N).1.getD 0 [] = ((endG ((ks ++ [1]).zip (List.range' 0 many)) [[], []] N).1.getD 0 []).map (renF many st) := by
    rw [e1, show ([[], []] : List (List Nat)) = ([[], []] : List (List Nat)).map (List.map (renF many st)) from rfl, end_map]
    exact getD_map _ _ _
  rw [es] at bss
  generalize stagesG ((ks ++ [1]).zip (List.range' 0 many)) [[], []] N = SL at *
  generalize (endG ((ks ++ [1]).zip (List.range' 0 many)) [[], []] N).1.getD 0 [] = row at *
  obtain ⟨RR, rm, rl⟩ := renR_ok m6 hu.1
  constructor
  · intro k x hx
    rw [es, List.getElem?_map] at hx
    cases hy : SL[k]? with
    | none => rw [hy] at hx; cases hx
    | some y =>
      rw [hy] at hx
      obtain rfl : renS (renF many st) y = x := Option.some.inj hx
      have hm := List.mem_of_getElem? hy
      obtain ⟨b1, b2, c, b3⟩ := bss _ (List.mem_map.mpr ⟨y, hm, rfl⟩)
      have hr := readAll_at SL 0 k y hu.2 hy
      rw [Nat.zero_add] at hr
      rw [ee, ← renF_map hst]
      have b2' : 2 ≤ (y.bs.map (List.map (renF many st))).length := b2
      have b1n : (y.bs.map (List.map (renF many st))).length ≤ 20 := b1.n
      rw [List.length_map] at b2' b1n
      refine read_ok R m6 hr (l1 y hm).1 (l1 y hm).2 (fun c hc => by have := List.mem_range'_1.mp hc; lia) ⟨b1n, fun b hb => ?_⟩ b2' ?_
      · have := b1.w (b.map (renF many st)) (List.mem_map.mpr ⟨b, hb, rfl⟩)
        rw [List.length_map] at this; exact this
      · have : (y.sn.map (renF many st)).length = 1 := by rw [show y.sn.map (renF many st) = [c] from b3]; rfl
        rw [List.length_map] at this; lia
  · rw [ee, List.length_map, rl]
  · intro cut hc
    rw [ee, ← rm, List.map_map]
    exact once_ok (R.comp RR) many hn cut hc
end Mine
namespace Mine
open PySem
theorem jf : ∀ ws : List (List Nat), joinL [] ws = ws.flatten
  | [] => rfl
  | [x] => by show x = x ++ []; rw [List.append_nil]
  | x :: y :: r => by
    show x ++ [] ++ joinL [] (y :: r) = x ++ (y :: r).flatten
    rw [jf (y :: r), List.append_nil]
theorem esc_one {c : Nat} (h : c ≠ 92) (P : Nat) (r : List Nat) : escG P (c :: r) = (P, [c]) :: escG (P + 1) r := by
  rw [escG.eq_def]
  exact if_neg h
theorem esc_two (P x : Nat) (r : List Nat) : escG P (92 :: x :: r) = (P + 1, [92, x]) :: escG (P + 2) r := rfl
noncomputable def GU (u : List Nat) : Prop := (∃ c, u = [c] ∧ c ≠ 92) ∨ ∃ x, u = [92, x]
noncomputable def plc : Nat → List (List Nat) → List (Nat × List Nat)
  | _, [] => []
  | P, u :: r => (P + u.length - 1, u) :: plc (P + u.length) r
theorem esc_units (rest : List Nat) : ∀ (U : List (List Nat)) (P : Nat), (∀ u ∈ U, GU u) → escG P (U.flatten ++ rest) = plc P U ++ escG (P + U.flatten.length) rest
  | [], P, _ => rfl
  | u :: r, P, h => by
    have ih := fun Q => esc_units rest r Q fun x hx => h x (List.mem_cons_of_mem _ hx)
    rw [List.flatten_cons, List.append_assoc, List.length_append]
    rcases h u List.mem_cons_self with ⟨c, rfl, hc⟩ | ⟨x, rfl⟩
    · show escG P (c :: (r.flatten ++ rest)) = (P + 1 - 1, [c]) :: (plc (P + 1) r ++ escG (P + (1 + r.flatten.length)) rest)
      rw [esc_one hc, ih (P + 1), Nat.add_sub_cancel, Nat.add_assoc]
    · show escG P (92 :: x :: (r.flatten ++ rest)) = (P + 2 - 1, [92, x]) :: (plc (P + 2) r ++ escG (P + (2 + r.flatten.length)) rest)
      rw [esc_two, ih (P + 2), Nat.add_assoc]; rfl
theorem plc_range : ∀ (U : List (List Nat)) (P : Nat), (List.range U.length).map (fun k => (P + (U.take (k + 1)).flatten.length - 1, U.getD k [])) = plc P U
  | [], P => rfl
  | u :: r, P => by
    rw [List.length_cons, List.range_succ_eq_map, List.map_cons, List.map_map, plc, ← plc_range r (P + u.length)]
    congr 1
    · show (P + (u ++ []).length - 1, u) = _
      rw [List.append_nil]
    · apply List.map_congr_left
      intro k _
      show (P + (u ++ (r.take (k + 1)).flatten).length - 1, r.getD k []) = _
      rw [List.length_append, Nat.add_assoc]
theorem units_gu {p : Nat × Nat} (h : p.1 < 4) : ∀ u ∈ unitsP p, GU u := by
  obtain ⟨k, s⟩ := p
  have g92 : ∀ x, GU [92, x] := fun x => .inr ⟨x, rfl⟩
  have g1 : ∀ c, c ≠ 92 → GU [c] := fun c hc => .inl ⟨c, rfl, hc⟩
  refine lt4 (P := fun k => ∀ u ∈ unitsP (k, s), GU u) ?_ ?_ ?_ ?_ k h
  · exact fun u hu => (List.mem_cons.mp hu).elim (fun e => e ▸ g1 40 (by decide)) fun hu => List.mem_singleton.mp hu ▸ g92 s
  · exact fun u hu => (List.mem_cons.mp hu).elim (fun e => e ▸ g92 s) fun hu => List.mem_singleton.mp hu ▸ g1 41 (by decide)
  · exact fun u hu => (List.mem_cons.mp hu).elim (fun e => e ▸ g92 41) fun hu => List.mem_singleton.mp hu ▸ g92 s
  · exact fun u hu => (List.mem_cons.mp hu).elim (fun e => e ▸ g1 34 (by decide)) fun hu => (List.mem_cons.mp hu).elim (fun e => e ▸ g92 34) fun hu => (List.mem_cons.mp hu).elim (fun e => e ▸ g1 40 (by decide)) fun hu => (List.mem_cons.mp hu).elim (fun e => e ▸ g92 s) fun hu => List.mem_singleton.mp hu ▸ g1 34 (by decide)
theorem unitsZ_gu {ps : List (Nat × Nat)} (h : ∀ p ∈ ps, p.1 < 4) : ∀ u ∈ unitsZ ps, GU u := fun u hu => by
  obtain ⟨p, hp, hu⟩ := List.mem_flatMap.mp hu
  exact units_gu (h p hp) u hu
theorem text_esc {ps : List (Nat × Nat)} (h : ∀ p ∈ ps, p.1 < 4) : escG 0 (joinL [] (unitsZ ps) ++ [92, 92, 92]) = dueG (unitsZ ps) := by
  have e := esc_units [92, 92, 92] (unitsZ ps) 0 (unitsZ_gu h)
  unfold dueG
  rw [jf, e, Nat.zero_add, ← plc_range]
  congr 1
  apply List.map_congr_left
  intro k _
  unfold dueN
  rw [jf, Nat.zero_add]
theorem strG_skip (s : List Nat) (E : List (Nat × List Nat)) : ∀ (L : List (Nat × List Nat)) (st : Nat) (op : Option Nat) (acc : List (List Nat)), (∀ p ∈ L, p.2 ≠ [34]) → strG s (L ++ E) st op acc = strG s E st op acc
  | [], _, _, _, _ => rfl
  | (p, c) :: r, st, op, acc, h => by
    rw [List.cons_append, strG_cons, if_neg (h (p, c) List.mem_cons_self)]
    exact strG_skip s E r st op acc fun q hq => h q (List.mem_cons_of_mem _ hq)
theorem strG_none (s : List Nat) (L : List (Nat × List Nat)) (st : Nat) (op : Option Nat) (acc : List (List Nat)) (h : ∀ p ∈ L, p.2 ≠ [34]) : strG s L st op acc = (st, acc) := by
  have := strG_skip s [] L st op acc h
  rw [List.append_nil] at this
  rw [this, strG]
theorem esc_no34 : ∀ (n : Nat) (s : List Nat) (k : Nat), s.length ≤ n → 34 ∉ s → ∀ p ∈ escG k s, p.2 ≠ [34]
  | n, [], k, _, _, p, hp => nomatch hp
  | 0, c :: r, k, h, _, _, _ => nomatch h
  | n + 1, c :: r, k, h, h34, p, hp => by
    rw [List.length_cons] at h
    by_cases hc : c = 92
    · subst hc
      match r, hp, h, h34 with
      | [], hp, _, _ =>
        have hp : p ∈ [(k, [92])] := hp
        rw [List.mem_singleton.mp hp]
        intro q; cases q
      | x :: r', hp, h, h34 =>
        rw [esc_two] at hp
        rw [List.length_cons] at h
        rcases List.mem_cons.mp hp with rfl | hp
        · intro q; cases q
        · exact esc_no34 n r' (k + 2) (by lia) (fun q => h34 (List.mem_cons_of_mem _ (List.mem_cons_of_mem _ q))) p hp
    · rw [esc_one hc] at hp
      rcases List.mem_cons.mp hp with rfl | hp
      · intro q
        have : c = 34 := (List.cons.inj q).1
        exact h34 (this ▸ List.mem_cons_self)
      · exact esc_no34 n r (k + 1) (by lia) (fun q => h34 (List.mem_cons_of_mem _ q)) p hp
noncomputable def stripF (s : List Nat) (r : Nat × List (List Nat)) : List Nat := joinL [] (if (r.1 : Int) < s.length then r.2 ++ [sliceL s (some (r.1 : Int)) none] else r.2)
theorem strip_eq (s : List Nat) : strip s = stripF s (strG s (escG 0 s) 0 none []) := by
  unfold strip
  rw [infixB_one]
  by_cases h : 34 ∈ s
  · rw [decide_eq_true h, if_pos rfl]; rfl
  · rw [decide_eq_false h, if_neg (by decide), strG_none _ _ _ _ _ (esc_no34 _ s 0 (Nat.le_refl _) h)]
    unfold stripF
    cases s with
    | nil => rfl
    | cons c r =>
      rw [if_pos (by show ((0 : Nat) : Int) < ((c :: r).length : Int); rw [List.length_cons]; lia)]
      show c :: r = sliceL (c :: r) (some ((0 : Nat) : Int)) none
      rw [sliceFrom, List.drop_zero]
theorem stripF_end (fr t : List Nat) (st : Nat) (acc : List (List Nat)) (h : st ≤ fr.length) : stripF (fr ++ t) (st, acc) = joinL [] acc ++ fr.drop st ++ t := by
  unfold stripF
  have e : (fr ++ t).drop st = fr.drop st ++ t := List.drop_append_of_le_length h
  by_cases hl : (st : Int) < ((fr ++ t).length : Int)
  · rw [if_pos hl, sliceFrom, e, jf, jf, List.flatten_append, List.flatten_cons, List.flatten_nil, List.append_nil, List.append_assoc]
  · rw [if_neg hl]
    rw [List.length_append] at hl
    have h1 : t = [] := List.eq_nil_of_length_eq_zero (by lia)
    have h2 : fr.drop st = [] := List.drop_eq_nil_of_le (by lia)
    rw [h1, h2, List.append_nil, List.append_nil]
end Mine
namespace Mine
open PySem
noncomputable def frZ (dn : List (Nat × Nat)) : List Nat := joinL [] (unitsZ dn)
noncomputable def shZ (dn : List (Nat × Nat)) : List Nat := joinL [] (shownZ dn)
theorem unitsZ_snoc (dn : List (Nat × Nat)) (p : Nat × Nat) : unitsZ (dn ++ [p]) = unitsZ dn ++ unitsP p := by
  unfold unitsZ
  rw [List.flatMap_append, List.flatMap_cons, List.flatMap_nil, List.append_nil]
theorem shownZ_snoc (dn : List (Nat × Nat)) (p : Nat × Nat) : shownZ (dn ++ [p]) = shownZ dn ++ (if kindNot3 p then unitsP p else []) := by
  unfold shownZ
  rw [List.flatMap_append, List.flatMap_cons, List.flatMap_nil, List.append_nil]
theorem frZ_snoc (dn : List (Nat × Nat)) (p : Nat × Nat) : frZ (dn ++ [p]) = frZ dn ++ (unitsP p).flatten := by
  unfold frZ
  rw [unitsZ_snoc, jf, jf, List.flatten_append]
theorem shZ_snoc (dn : List (Nat × Nat)) (p : Nat × Nat) : shZ (dn ++ [p]) = shZ dn ++ (if kindNot3 p then (unitsP p).flatten else []) := by
  unfold shZ
  rw [shownZ_snoc, jf, jf, List.flatten_append]
  split <;> rfl
structure FrI (dn : List (Nat × Nat)) (w : Nat) : Prop where
  a : ∀ rest, ∃ st acc, st ≤ (frZ dn).length ∧ strG (frZ dn ++ rest) (escG 0 (frZ dn ++ rest)) 0 none [] = strG (frZ dn ++ rest) (escG (frZ dn).length rest) st none acc ∧ joinL [] acc ++ (frZ dn).drop st = shZ dn
  b : ∀ rest, ∃ P, chkG 0 (escG 0 (shZ dn ++ rest)) = chkG (w : Int) (escG P rest)
theorem frI_nil : FrI [] 0 := ⟨fun rest => ⟨0, [], Nat.le_refl _, rfl, rfl⟩, fun rest => ⟨0, rfl⟩⟩
theorem slice_two {α : Type} (xs : List α) (a b : Nat) (h : a ≤ b) (hb : b ≤ xs.length) : sliceL xs (some (a : Int)) (some (b : Int)) = (xs.take b).drop a := by
  have := slice_cut xs a (b - a) (by lia)
  rw [show a + (b - a) = b by lia] at this
  exact this
theorem chk_open (o : Int) (P : Nat) (r : List (Nat × List Nat)) : chkG o ((P, [40]) :: r) = chkG (o + 1) r := rfl
theorem chk_close {o : Int} (h : 0 < o) (P : Nat) (r : List (Nat × List Nat)) : chkG o ((P, [41]) :: r) = chkG (o - 1) r := by
  show (if o - 1 < 0 then false else chkG (o - 1) r) = _
  rw [if_neg (by lia)]
theorem chk_two (o : Int) (P x : Nat) (r : List (Nat × List Nat)) : chkG o ((P, [92, x]) :: r) = chkG o r := by
  show (if [92, x] = [40] then _ else if [92, x] = [41] then _ else chkG o r) = _
  rw [if_neg (fun q => by cases q), if_neg (fun q => by cases q)]
theorem plain_no34 (p : Nat × Nat) (h3 : kindNot3 p = true) (h4 : p.1 < 4) (P : Nat) : ∀ q ∈ plc P (unitsP p), q.2 ≠ [34] := by
  obtain ⟨k, s⟩ := p
  have c1 : ∀ {q : Nat × List Nat} {a : Nat} {u : List Nat}, q = (a, u) → u ≠ [34] → q.2 ≠ [34] := fun e h => e ▸ h
  have n2 : ∀ x : Nat, [92, x] ≠ [34] := fun x q => by cases q
  rcases k with _ | _ | _ | _ | k
  · exact fun q hq => (List.mem_cons.mp hq).elim (fun e => c1 e (by decide)) fun hq => c1 (List.mem_singleton.mp hq) (n2 s)
  · exact fun q hq => (List.mem_cons.mp hq).elim (fun e => c1 e (n2 s)) fun hq => c1 (List.mem_singleton.mp hq) (by decide)
  · exact fun q hq => (List.mem_cons.mp hq).elim (fun e => c1 e (by decide)) fun hq => c1 (List.mem_singleton.mp hq) (n2 s)
  · cases h3
  · exact absurd h4 (by show ¬ (k + 1 + 1 + 1 + 1 < 4); lia)
theorem kind3 {p : Nat × Nat} (h : kindNot3 p = false) : p.1 = 3 := by
  unfold kindNot3 at h
  have h : decide ((p.1 : Int) = 3) = true := by
    cases e : decide ((p.1 : Int) = 3) with
    | true => rfl
    | false => rw [e] at h; cases h
  have := of_decide_eq_true h
  lia
theorem frI_step {dn : List (Nat × Nat)} {w m k c : Nat} (h : FrI dn w) (hk : k ∈ kindsFor m w) : FrI (dn ++ [(k, c)]) (nextW w k) := by
  have h4 := kf_lt hk
  have gu := units_gu (p := (k, c)) h4
  refine ⟨fun rest => ?_, fun rest => ?_⟩
  · obtain ⟨st, acc, h1, h2, h3⟩ := h.a ((unitsP (k, c)).flatten ++ rest)
    have hle : st ≤ (frZ dn).length := h1
    rw [esc_units rest _ _ gu] at h2
    rw [frZ_snoc, shZ_snoc, List.append_assoc]
    cases e3 : kindNot3 (k, c) with
    | true =>
      rw [strG_skip _ _ _ _ _ _ (plain_no34 (k, c) e3 h4 _)] at h2
      refine ⟨st, acc, by rw [List.length_append]; lia, by rw [List.length_append]; exact h2, ?_⟩
      rw [List.drop_append_of_le_length hle, ← List.append_assoc, h3]; rfl
    | false =>
      obtain rfl : k = 3 := kind3 e3
      have hs : (frZ dn ++ ((unitsP (3, c)).flatten ++ rest)).length = (frZ dn).length + (7 + rest.length) := by
        rw [List.length_append, List.length_append]; rfl
      generalize hS : frZ dn ++ ((unitsP (3, c)).flatten ++ rest) = s at h2 hs ⊢
      generalize hL : (frZ dn).length = L at *
      have e1 : plc L (unitsP (3, c)) = (L, [34]) :: ([(L + 1 + 2 - 1, [92, 34]), (L + 1 + 2 + 1 - 1, [40]), (L + 1 + 2 + 1 + 2 - 1, [92, c])] ++ [(L + 1 + 2 + 1 + 2 + 1 - 1, [34])]) := rfl
      have sk : ∀ p ∈ [(L + 1 + 2 - 1, [92, 34]), (L + 1 + 2 + 1 - 1, [40]), (L + 1 + 2 + 1 + 2 - 1, [92, c])], p.2 ≠ [34] := by
        intro p hp q
        rcases List.mem_cons.mp hp with rfl | hp; · cases q
        rcases List.mem_cons.mp hp with rfl | hp; · cases q
        rw [List.mem_singleton.mp hp] at q; cases q
      rw [e1, List.cons_append, strG_cons, if_pos rfl, List.append_assoc] at h2
      have h2 : strG s (escG 0 s) 0 none [] = strG s ([(L + 1 + 2 - 1, [92, 34]), (L + 1 + 2 + 1 - 1, [40]), (L + 1 + 2 + 1 + 2 - 1, [92, c])] ++ ([(L + 1 + 2 + 1 + 2 + 1 - 1, [34])] ++ escG (L + (unitsP (3, c)).flatten.length) rest)) st (some L) acc := h2
      rw [strG_skip _ _ _ _ _ _ sk] at h2
      have h2 : strG s (escG 0 s) 0 none [] = strG s ((L + 1 + 2 + 1 + 2 + 1 - 1, [34]) :: escG (L + 7) rest) st (some L) acc := h2
      rw [strG_cons, if_pos rfl] at h2
      have h2 : strG s (escG 0 s) 0 none [] = strG s (escG (L + 7) rest) (L + 7) none (if (st : Int) = L then acc else acc ++ [sliceL s (some (st : Int)) (some (L : Int))]) := h2
      have hlen : (frZ dn ++ (unitsP (3, c)).flatten).length = L + 7 := by rw [List.length_append, hL]; rfl
      refine ⟨L + 7, _, by rw [hlen]; exact Nat.le_refl _, by rw [hlen]; exact h2, ?_⟩
      rw [List.drop_eq_nil_of_le (by rw [hlen]; exact Nat.le_refl _), List.append_nil]
      show joinL [] _ = shZ dn ++ []
      rw [List.append_nil, ← h3]
      by_cases q : (st : Int) = L
      · rw [if_pos q, List.drop_eq_nil_of_le (by lia), List.append_nil]
      · rw [if_neg q, slice_two s st L hle (by lia), jf, jf, List.flatten_append, List.flatten_cons, List.flatten_nil, List.append_nil, ← hS, List.take_left' hL]
  · rw [shZ_snoc, List.append_assoc]
    cases e3 : kindNot3 (k, c) with
    | false =>
      obtain rfl : k = 3 := kind3 e3
      obtain ⟨P, h1⟩ := h.b rest
      exact ⟨P, h1⟩
    | true =>
      obtain ⟨P, h1⟩ := h.b ((unitsP (k, c)).flatten ++ rest)
      rw [esc_units rest _ _ gu] at h1
      refine ⟨P + (unitsP (k, c)).flatten.length, h1.trans ?_⟩
      generalize escG (P + (unitsP (k, c)).flatten.length) rest = E
      rcases kf hk with ⟨rfl, hw⟩ | ⟨rfl, hw⟩ | ⟨rfl, hw⟩ | ⟨rfl, hw⟩
      · show chkG (w : Int) ((_, [40]) :: (_, [92, c]) :: E) = chkG ((w + 1 : Nat) : Int) E
        rw [chk_open, chk_two]; rfl
      · show chkG (w : Int) ((_, [92, c]) :: (_, [41]) :: E) = chkG ((w - 1 : Nat) : Int) E
        rw [chk_two, chk_close (by lia), show (w : Int) - 1 = ((w - 1 : Nat) : Int) by lia]
      · show chkG (w : Int) ((_, [92, 41]) :: (_, [92, c]) :: E) = chkG (w : Int) E
        rw [chk_two, chk_two]
      · cases e3
theorem chk_rep (r : List Nat) : ∀ (n w P : Nat), n ≤ w → ∃ Q, chkG (w : Int) (escG P (List.replicate n 41 ++ r)) = chkG ((w - n : Nat) : Int) (escG Q r)
  | 0, w, P, _ => ⟨P, rfl⟩
  | n + 1, w, P, h => by
    obtain ⟨Q, ih⟩ := chk_rep r n (w - 1) (P + 1) (by lia)
    refine ⟨Q, ?_⟩
    rw [List.replicate_succ, List.cons_append, esc_one (by decide), chk_close (by lia), show (w : Int) - 1 = ((w - 1 : Nat) : Int) by lia, ih, show w - 1 - n = w - (n + 1) by lia]
theorem chk_over (r : List Nat) (w P : Nat) : chkG (w : Int) (escG P (List.replicate (w + 1) 41 ++ r)) = false := by
  have e : List.replicate (w + 1) 41 ++ r = List.replicate w 41 ++ (41 :: r) := by rw [List.replicate_succ', List.append_assoc]; rfl
  obtain ⟨Q, h⟩ := chk_rep (41 :: r) w w P (Nat.le_refl _)
  rw [e, h, Nat.sub_self, esc_one (by decide)]; rfl
theorem rep_nat (x n : Nat) : rep [x] (n : Int) = List.replicate n x := by
  unfold rep
  rw [Int.toNat_natCast, List.flatten_replicate_singleton]
theorem chk_tail {dn : List (Nat × Nat)} {w : Nat} (h : FrI dn w) (t : List Nat) (ht : 34 ∉ t) : ∃ P, chk (frZ dn ++ t) = chkG (w : Int) (escG P t) := by
  obtain ⟨st, acc, h1, h2, h3⟩ := h.a t
  obtain ⟨P, hb⟩ := h.b t
  refine ⟨P, ?_⟩
  unfold chk
  rw [strip_eq, h2, strG_none _ _ _ _ _ (esc_no34 _ t _ (Nat.le_refl _) ht), stripF_end _ _ _ _ h1, h3, hb]
theorem no34 {n : Nat} {r : List Nat} (h : 34 ∉ r) : 34 ∉ List.replicate n 41 ++ r := fun q => by
  rcases List.mem_append.mp q with q | q
  · have := (List.mem_replicate.mp q).2; lia
  · exact h q
theorem chkOk {dn : List (Nat × Nat)} {w : Nat} (h : FrI dn w) : ChkOk (frZ dn) w := by
  have n0 : ∀ n, 34 ∉ List.replicate n 41 := fun n q => by have := (List.mem_replicate.mp q).2; lia
  have e1 : rep [41] (((w + 1 : Nat) : Int) - 1) = List.replicate w 41 := by rw [show ((w + 1 : Nat) : Int) - 1 = (w : Int) by lia, rep_nat]
  have e2 : rep [41] ((w + 1 : Nat) : Int) = List.replicate (w + 1) 41 := rep_nat _ _
  obtain ⟨P1, t1⟩ := chk_tail h (List.replicate w 41) (n0 w)
  obtain ⟨P2, t2⟩ := chk_tail h (List.replicate (w + 1) 41) (n0 _)
  obtain ⟨P3, t3⟩ := chk_tail h (List.replicate (w + 1) 41 ++ [40]) (no34 (by decide))
  obtain ⟨P4, t4⟩ := chk_tail h [40] (by decide)
  obtain ⟨Q, q⟩ := chk_rep [] w w P1 (Nat.le_refl _)
  have o2 := chk_over [] w P2
  rw [List.append_nil] at q o2
  constructor
  unfold tailsX
  rw [e1, e2]
  show [chk _, chk _, chk _, chk _] = _
  rw [t1, t2, t3, t4, q, o2, chk_over, Nat.sub_self]
  have z : chkG (w : Int) (escG P4 [40]) = false := by
    show chkG ((w : Int) + 1) [] = false
    show decide ((w : Int) + 1 = 0) = false
    exact decide_eq_false (by lia)
  rw [z]; rfl
theorem frZ_len {dn : List (Nat × Nat)} (h : ∀ p ∈ dn, p.1 < 4 ∧ p.2 < 1000) : (frZ dn).length ≤ dn.length * 10 := by
  obtain ⟨h1, h2⟩ := flat_us unitsP dn fun p hp => units_us (h p hp).1 (h p hp).2
  have := h1.len
  have h2 : (unitsZ dn).length ≤ dn.length * 5 := h2
  show (joinL [] (unitsZ dn)).length ≤ _
  have : (joinL [] (unitsZ dn)).length ≤ (unitsZ dn).length * 2 := this
  lia
theorem putB_le {bs : List (List Nat)} {g k : Nat} {s : List Nat} (hg : g + 1 < bs.length) (hk : k < 4) : (putB bs g k s).length ≤ bs.length + 1 := by
  obtain ⟨A, L, R, B, e, l⟩ := split2 bs g hg
  subst e; subst l
  rw [putB_split]
  have : (midB L s R k).length ≤ 3 := by
    rcases k with _ | _ | _ | _ | k
    · exact Nat.le_refl 3
    · exact (show 1 ≤ 3 by decide)
    · exact (show 2 ≤ 3 by decide)
    · exact (show 2 ≤ 3 by decide)
    · lia
  simp only [List.length_append, List.length_cons] at hg ⊢
  lia
theorem st_ok : ∀ (m w : Nat) (ks cs : List Nat) (dn : List (Nat × Nat)) (bs : List (List Nat)), KindsOk m w ks → cs.length = m + 1 → (∀ c ∈ cs, c < 1000) → FrI dn w → (∀ p ∈ dn, p.1 < 4 ∧ p.2 < 1000) → dn.length + m ≤ 6 → w ≤ dn.length → bs.length = w + 2 → bs.flatten.length ≤ dn.length → StOk ((ks ++ [1]).zip cs) bs (frZ dn)
  | m, w, ks, [], dn, bs, _, hc, _, _, _, _, _, _, _ => nomatch hc
  | 0, w, ks, c :: cr, dn, bs, hk, hc, h1000, hf, hd, hm, hw, hb, hfl => by
    obtain ⟨rfl, rfl⟩ := hk
    have fl := frZ_len hd
    refine ⟨⟨by lia, fun b hb' => Nat.le_trans (mem_len hb') (by lia)⟩, by lia, show 1 < 4 by decide, h1000 c List.mem_cons_self, by lia, ?_, fun g hg => ?_⟩
    · rw [hb]; exact chkOk hf
    · have := putB_le (s := [c]) hg (show 1 < 4 by decide)
      exact ⟨List.length_pos_iff.mpr (putB_ne _ _ _ _), by show (putB bs g 1 [c]).length ≤ 20; lia⟩
  | m + 1, w, ks, c :: cr, dn, bs, hk, hc, h1000, hf, hd, hm, hw, hb, hfl => by
    obtain ⟨k, r, rfl, hkk, hr⟩ := hk
    have fl := frZ_len hd
    have k4 := kf_lt hkk
    have c1 := h1000 c List.mem_cons_self
    refine ⟨⟨by lia, fun b hb' => Nat.le_trans (mem_len hb') (by lia)⟩, by lia, k4, c1, by lia, ?_, fun g hg => ?_⟩
    · rw [hb]; exact chkOk hf
    · have ih := st_ok m (nextW w k) r cr (dn ++ [(k, c)]) (putB bs g k [c]) hr (Nat.succ.inj hc) (fun x hx => h1000 x (List.mem_cons_of_mem _ hx)) (frI_step hf hkk) (fun p hp => (List.mem_append.mp hp).elim (hd p) fun q => by rw [List.mem_singleton.mp q]; exact ⟨k4, c1⟩)
        (by rw [List.length_append, List.length_singleton]; lia) (by
          rw [List.length_append, List.length_singleton]
          rcases kf hkk with ⟨rfl, h'⟩ | ⟨rfl, h'⟩ | ⟨rfl, h'⟩ | ⟨rfl, h'⟩
          · show w + 1 ≤ _; lia
          · show w - 1 ≤ _; lia
          · show w ≤ _; lia
          · show w ≤ _; lia) (putB_length hb (by lia) hkk) (by
          have := (putB_flat (s := [c]) hg k4).1
          rw [List.length_append, List.length_singleton, this, List.length_singleton]; lia)
      rw [frZ_snoc, ← jf] at ih
      exact ih
theorem text_strip {ps : List (Nat × Nat)} {w : Nat} (h : FrI ps w) : strip (joinL [] (unitsZ ps) ++ [34, 40]) = joinL [] (shownZ ps) ++ [34, 40] := by
  obtain ⟨st, acc, h1, h2, h3⟩ := h.a [34, 40]
  have h2 : strG (frZ ps ++ [34, 40]) (escG 0 (frZ ps ++ [34, 40])) 0 none [] = (st, acc) := h2
  show strip (frZ ps ++ [34, 40]) = shZ ps ++ [34, 40]
  rw [strip_eq, h2, stripF_end _ _ _ _ h1, h3]
theorem frI_all : ∀ (m w : Nat) (ks cs : List Nat) (dn : List (Nat × Nat)), KindsOk m w ks → FrI dn w → ∃ w', FrI (dn ++ ks.zip cs) w'
  | _, w, [], cs, dn, _, h => ⟨w, by rw [List.zip_nil_left, List.append_nil]; exact h⟩
  | _, w, ks, [], dn, _, h => ⟨w, by rw [List.zip_nil_right, List.append_nil]; exact h⟩
  | 0, w, k :: r, c :: cr, dn, hk, h => nomatch hk.1
  | m + 1, w, k :: r, c :: cr, dn, hk, h => by
    obtain ⟨k', r', e, hkk, hr⟩ := hk
    obtain ⟨rfl, rfl⟩ := List.cons.inj e
    obtain ⟨w', h'⟩ := frI_all m _ r cr (dn ++ [(k, c)]) hr (frI_step h hkk)
    refine ⟨w', ?_⟩
    rw [List.append_assoc] at h'
    exact h'
theorem law_facts (many st : Nat) (ks : List Nat) (w : Nat) (N : Int) (D : Drawn many st ks w N) : LawFacts many st ks N := by
  obtain ⟨kl, k4⟩ := kinds_facts _ _ _ D.ks
  have m4 := D.m4
  have m6 := D.m6
  have sl := sgF_len D.st
  have s1000 : ∀ c ∈ sgF st many, c < 1000 := fun c hc => (by decide : ∀ c ∈ opsF, c < 1000) c (sgF_mem hc)
  have so : StOk ((ks ++ [1]).zip (sgF st many)) [[], []] [] := st_ok (many - 1) 0 ks (sgF st many) [] [[], []] D.ks (by lia) s1000 frI_nil (fun p hp => nomatch hp) (by rw [List.length_nil]; lia) (Nat.le_refl _) rfl (Nat.le_refl _)
  obtain ⟨w', hf⟩ := frI_all _ _ ks (sgF st many) [] D.ks frI_nil
  have RF := row_facts many st ks N D.m4 D.m6 D.st D.ks so
  have zl : ((ks ++ [1]).zip (sgF st many)).length ≤ 10 := by rw [List.length_zip, sl]; lia
  exact ⟨k4, kl, so, ⟨text_esc fun p hp => k4 _ (List.of_mem_zip hp).1, text_strip hf⟩, ⟨by rw [stages_len]; exact zl, fun x hx => (stages_bss _ _ _ N so x hx).1⟩, RF.read, whole_eq _ _ _ N so, fun hN j => Nat.lt_of_le_of_lt (whole_size _ _ _ N j so) hN, RF.rl, RF.once⟩
end Mine
namespace Mine
open PySem
noncomputable def stAt (nm : Str) (k : Nat) : Stmt := ((fb nm)[k]?).getD (.Pass ⟨0, 0, 0, 0⟩)
section
variable {W : Wd} {C : Cx} {d : Nat} (cf : CfgOk cfg2 W C d)
end
section
variable {W : Wd} {C : Cx} {d : Nat} (cf : CfgOk cfg2 W C d)
include cf
end
end Mine
namespace Mine
open PySem PySem.W PySem.W.X PyProof.Rows PySem.Calls
structure CloSc (T : Tab) (m lo : Nat) (ps : List Str) (names : List (Str × NameKind)) (fr : List Str) : Prop where
  len : ∀ x i, T.vars.lookup x = some i → i < m
  inj : ∀ x y i, T.vars.lookup x = some i → T.vars.lookup y = some i → x = y
  ps : ∀ p ∈ ps, (∃ i, T.vars.lookup p = some i) ∧ names.lookup p = some .local
  kinds : ∀ x ∈ names, x.2 ≠ .cell
  loc : ∀ x i, T.vars.lookup x = some i → lo ≤ i → names.lookup x = some .local
  cel : ∀ x ∈ T.cel, names.lookup x = some .free ∧ x ∈ fr
  glob : ∀ g ∈ T.globs, names.lookup g = some .globalImplicit
noncomputable def varB (T : Tab) (m lo : Nat) (names : List (Str × NameKind)) (p : Str × Nat) : Bool := decide (p.2 < m) && ((decide (p.2 < lo) || names.lookup p.1 == some .local) && T.vars.all fun q => !(p.2 == q.2) || p.1 == q.1)
noncomputable def closB (T : Tab) (m lo : Nat) (ps : List Str) (names : List (Str × NameKind)) (fr : List Str) : Bool :=
  (T.vars.all (varB T m lo names)) && ((ps.all fun p => (T.vars.lookup p).isSome && names.lookup p == some .local) && ((names.all fun x => !(x.2 == .cell)) && ((T.cel.all fun x => names.lookup x == some .free && fr.contains x) && T.globs.all fun g => names.lookup g == some .globalImplicit)))
theorem CloSc.of {T : Tab} {m lo : Nat} {ps : List Str} {names : List (Str × NameKind)} {fr : List Str} (h : closB T m lo ps names fr = true) : CloSc T m lo ps names fr := by
  obtain ⟨h1, h⟩ := Bool.and_eq_true_iff.mp h
  obtain ⟨h2, h⟩ := Bool.and_eq_true_iff.mp h
  obtain ⟨h3, h⟩ := Bool.and_eq_true_iff.mp h
  obtain ⟨h4, h5⟩ := Bool.and_eq_true_iff.mp h
  have v := fun x i (hx : T.vars.lookup x = some i) => Bool.and_eq_true_iff.mp (List.all_eq_true.mp h1 (x, i) (mem_lookup hx))
  have w := fun x i hx => Bool.and_eq_true_iff.mp (v x i hx).2
  exact ⟨fun x i hx => of_decide_eq_true (v x i hx).1, fun x y i hx hy => eq_of_beq ((Bool.or_eq_true_iff.mp (List.all_eq_true.mp (w x i hx).2 (y, i) (mem_lookup hy))).resolve_left (by simp)),
    fun p hp => let q := Bool.and_eq_true_iff.mp (List.all_eq_true.mp h2 p hp); ⟨Option.isSome_iff_exists.mp q.1, eq_of_beq q.2⟩, fun x hx q => (nomatch (show (!(NameKind.cell == NameKind.cell)) = true from q ▸ List.all_eq_true.mp h3 x hx)),
    fun x i hx hi => eq_of_beq ((Bool.or_eq_true_iff.mp (w x i hx).1).resolve_left fun q => Nat.not_lt.mpr hi (of_decide_eq_true q)), fun x hx => let q := Bool.and_eq_true_iff.mp (List.all_eq_true.mp h4 x hx); ⟨eq_of_beq q.1, List.contains_iff_mem.mp q.2⟩, fun g hg => eq_of_beq (List.all_eq_true.mp h5 g hg)⟩
section
variable {W : Wd} {d : Nat} {F G : Frz} {s : Shared} {A : Around} {T : Tab} {m lo : Nat}
theorem bindL_rev {kindOf : Str → Option NameKind} : ∀ (l : List (Str × Value)) (m : Str → Option Value) (x : Str), (∀ p ∈ l, kindOf p.1 = some .local) → bindL kindOf l m x = (l.reverse.lookup x).or (m x)
  | [], m, x, _ => rfl
  | (n, v) :: r, m, x, h => by
    unfold bindL
    rw [bindL_rev r _ x fun p hp => h p (List.mem_cons_of_mem _ hp), if_pos (h (n, v) List.mem_cons_self), List.reverse_cons, List.lookup_append, Option.or_assoc]
    congr 1
    rw [List.lookup_cons, List.lookup_nil]
    by_cases hx : x = n
    · subst hx; rw [if_pos rfl, beq_self_eq_true]; rfl
    · rw [beq_false_of_ne hx, if_neg hx]; rfl
theorem bindC_id {kindOf : Str → Option NameKind} : ∀ (l : List (Str × Value)) (m : Str → Option Value), (∀ p ∈ l, kindOf p.1 = some .local) → bindC kindOf l m = m
  | [], m, _ => rfl
  | (n, v) :: r, m, h => by
    unfold bindC
    rw [if_pos (h (n, v) List.mem_cons_self)]
    exact bindC_id r m fun p hp => h p (List.mem_cons_of_mem _ hp)
structure CloSt (W : Wd) (s : Shared) (F : Frz) (T : Tab) (m : Nat) (names : List (Str × NameKind)) (clo : List (Str × Addr)) (ρf : Rho) : Prop where
  apart : clo.Pairwise fun x y => x.2 ≠ y.2
  live : ∀ q ∈ clo, ∃ v, s.heap.IsCell q.2 v
  len : ρf.length = m
  free : ∀ p ∈ T.vars, ρf.at p.2 = .unset ∨ (names.lookup p.1 = some .free ∧ ∃ c v val, clo.lookup p.1 = some c ∧ s.heap.IsCell c (some val) ∧ Rel W F val v ∧ ρf.at p.2 = .val v)
theorem mem_snd {l : List (Str × Addr)} {x : Str} (h : x ∈ l.map (·.1)) : ∃ c, l.lookup x = some c := by
  cases q : l.lookup x with
  | some c => exact ⟨c, rfl⟩
  | none =>
    obtain ⟨p, hp, rfl⟩ := List.mem_map.mp h
    exact absurd (List.lookup_eq_none_iff.mp q p hp) (by simp)
theorem clo_env {a : Addr} {fd : FuncData} {ps : List Str} {vals : List Value} {vs : List V} {ρf : Rho} {M : Model} {A' : Around} {E : Value → Shared → Prop} {P : Env → Shared → Prop} (sc : CloSc T m lo ps fd.scope.names (fd.closure.map (·.1))) (st : CloSt W s F T m fd.scope.names fd.closure ρf)
    (hk : fd.scope.kind = .function) (hgl : fd.globals = mainGlobals) (hbu : fd.builtins = builtinsNs) (of : OF W F s) (gin : FOk W G s.heap) (rl : RelL W F vals vs) (hl : vs.length = ps.length)
    (h : ∀ env s₁, EnvOk env T → env.scope = fd.scope → env.cells = fd.closure → Inv W env T m lo F G (fun _ => 0) (bindTs (idxs T ps) vs ρf) s₁ → (∀ b o, s.heap.get? b = some o → s₁.heap.get? b = some o) → Run G s F s₁ F → P env s₁) :
    wpAny M A' (newFunctionEnv fd.scope fd.globals fd.closure (ps.zip vals) (fd.qualname ++ ".<locals>.") (some a) fd.code none fd.builtins) (fun env s₂ => s₂.heap.NoLimit ∧ P env s₂) E s := by
  have loc : ∀ y ∈ ps.zip vals, fd.scope.names.lookup y.1 = some .local := fun y hy => (sc.ps y.1 (List.of_mem_zip (show (y.1, y.2) ∈ ps.zip vals from hy)).1).2
  refine wpAny_newFunctionEnv (fun y hy => sc.kinds y hy) loc (fun h' hn hs => ?_) hk
  have keep : ∀ b o, s.heap.get? b = some o → h'.get? b = some o := fun b o e => hs.extBut b o (Nat.ne_of_lt (Heap.lt_size e)) (Heap.get?_push_of_some _ e)
  have ok' : HOk W h' := of.ok.of keep
  have hFL : ∀ (F : Frz), FOk W F s.heap → F s.heap.objs.size = none := fun F hF => none_of_not fun o q => nomatch (hF.is _ _ q).symm.trans (get_size_none _)
  have cell : ∀ {c v}, s.heap.IsCell c v → h'.IsCell c v := fun ⟨o, e, d⟩ => ⟨o, keep _ _ e, d⟩
  have b := bnd_all (W := W) (F := F) (kindOf := fun x => fd.scope.names.lookup x) sc.len sc.inj ps vals vs rl hl (fun p hp => ⟨(sc.ps p hp).1, .inl (sc.ps p hp).2⟩) (fun _ => none) (fun x => (fd.closure.lookup x).bind fun c => (s.heap.get? c).bind fun o => match o.data with
    | .cell v => v
    | _ => none) ρf st.len (fun x i hx => by
      rcases st.free (x, i) (mem_lookup hx) with q | ⟨hf, c, v, val, h1, ⟨o, e, d⟩, r, q⟩
      · rw [q]; trivial
      · rw [q]; exact ⟨val, .inr ⟨.inr hf, by show Option.bind (fd.closure.lookup x) _ = _; rw [show fd.closure.lookup x = some c from h1]; show Option.bind (s.heap.get? c) _ = _; rw [e]; show (match o.data with | .cell v => v | _ => none) = _; rw [d]⟩, r⟩)
  rw [bindC_id _ _ loc] at b
  refine ⟨W.hlim _ ok'.base.is, h (newEnv fd.scope s.heap.objs.size fd.globals fd.closure (fd.qualname ++ ".<locals>.") (some a) fd.code none fd.builtins) { s with heap := h', toks := s.toks + (ps.zip vals).length }
    ⟨fun x hx => ⟨.inr (sc.cel x hx).1, mem_snd (sc.cel x hx).2⟩, hk, hgl, hbu, sc.glob⟩ rfl rfl
    ⟨of.fb, ok', ⟨fun b o q => keep _ _ (of.fin.is _ _ q), of.fin.tab⟩, ⟨fun b o q => keep _ _ (gin.is _ _ q), gin.tab⟩, hFL F of.fin, hFL G gin, b.1, sc.len, sc.inj, fun x y c hx hy => PySem.name_of_addr st.apart (mem_lookup hx) (mem_lookup hy), fun x i hx hi => .inl (sc.loc x i hx hi), ⟨_, hn, fun x i hx => ?_⟩, fun x y i j xs ys hx hy hij hi hj => ?_, fun x c hx => cell_live (cell (st.live (x, c) (mem_lookup hx)).choose_spec)⟩ keep Run.heap⟩
  · have hb := b.2 x i hx
    generalize Rho.at (bindTs (idxs T ps) vs ρf) i = sl at hb ⊢
    match sl, hb with
    | .unset, _ => exact trivial
    | .val w, ⟨u, hu, hr⟩ =>
      refine ⟨u, hu.imp (fun z => ⟨z.1, ?_⟩) fun ⟨a, b⟩ => ⟨a, ?_⟩, hr⟩
      · rw [bindL_rev _ _ _ loc] at z
        exact (Option.or_none (o := _)).symm.trans z.2
      · obtain ⟨c, h1, b⟩ := Option.bind_eq_some_iff.mp b
        obtain ⟨o, e, b⟩ := Option.bind_eq_some_iff.mp b
        obtain ⟨v, o', e', d⟩ := st.live (x, c) (mem_lookup h1)
        rw [e] at e'; cases e'
        rw [d] at b
        exact ⟨c, h1, o, keep _ _ e, b ▸ d⟩
  · have hb := b.2 x i hx
    rw [hi] at hb; exact hb.elim
structure CloFd (s : Shared) (a : Addr) (fd : FuncData) (bd : FuncBody) : Prop where
  obj : ∃ o, s.heap.get? a = some o ∧ o.data = .func fd
  bd : fd.body = bd
  co : fd.scope.isCoroutine = false
  gen : fd.scope.isGenerator = false
  kind : fd.scope.kind = .function
  gl : fd.globals = mainGlobals
  bu : fd.builtins = builtinsNs
  code : s.heap.CodeRec fd.code fd.qualname
noncomputable def flowV (f : Flow) : Value := match f with
  | .ret v => v
  | _ => .none
theorem enter_clo {a : Addr} {fd : FuncData} {body : List Stmt} {ps : List Str} {vals : List Value} {vs : List V} {ρf : Rho} {Q : Value → Shared → Prop} (B : CloFd s a fd (.stmts body)) (sc : CloSc T m lo ps fd.scope.names (fd.closure.map (·.1))) (st : CloSt W s F T m fd.scope.names fd.closure ρf)
    (hbind : bindArgs fd ⟨vals, []⟩ = pure (ps.zip vals)) (R : Room A (d + 1)) (of : OF W F s) (gin : FOk W G s.heap) (rl : RelL W F vals vs) (hl : vs.length = ps.length)
    (h : ∀ env s₁, EnvOk env T → env.scope = fd.scope → env.cells = fd.closure → Inv W env T m lo F G (fun _ => 0) (bindTs (idxs T ps) vs ρf) s₁ → (∀ b o, s.heap.get? b = some o → s₁.heap.get? b = some o) → Run G s F s₁ F → Room (A.deeper env) d → wpAny (model W.prog W.w) (A.deeper env) (execs body env) (fun f s' => Q (flowV f) s') noE s₁) :
    wpAny (model W.prog W.w) A (call (.ref a) vals) Q noE s := by
  obtain ⟨o, ho, hd⟩ := B.obj
  refine wpAny_call (codeAny_call_function R.lt ho hd B.co B.gen B.bd B.code ?_)
  rw [hbind]
  exact wpAny_pure (clo_env (P := fun env s₂ => codeAny (model W.prog W.w) A (.func body env) _ s₂) sc st B.kind B.gl B.bu of gin rl hl fun env s₁ e h1 h2 I kp rn => codeAny_func (wpAny_mono (h env s₁ e h1 h2 I kp rn R.deeper) (fun f s' q => by cases f <;> exact q) fun _ _ x => x.elim))
theorem snap_ok : FOk W (snap W s.heap) s.heap := ⟨fun a o e => snap_some e, fun a ha => none_of_not fun o q => snap_nt q ha⟩
end
end Mine
namespace Mine
open PySem PySem.W PySem.W.X PyProof.Rows PySem.Calls
structure TabS where
  c : Addr
  P : Addr
  specs : List (Pos × Str)
inductive CodeIn (h : Heap) (ps : Array Value) (q : Pos × Str) : Prop
  | mk (c' : Addr) (oc : Obj) (vs : Array Value) (tk : Tok) (h1 : codeAmong q.1 ps.toList = some (.ref c')) (h2 : h.get? c' = some oc) (h3 : oc.cls = .type "code") (h4 : oc.data = .fields vs) (h5 : vs[1]? = some (.str q.2 tk))
inductive CodeNm (W : Wd) (h : Heap) (qual : Str) (c' : Addr) : Prop
  | mk (t : c' ∉ W.tabs) (oc : Obj) (vs : Array Value) (tk : Tok) (h2 : h.get? c' = some oc) (h4 : oc.data = .fields vs) (h5 : vs[1]? = some (.str qual tk))
structure TOk (h : Heap) (t : TabS) : Prop where
  hd : CodeHd h t.c t.P
  tab : ∃ ps, h.get? t.P = some (tabObj ps) ∧ TriplesOk ps.toList ∧ ∀ q ∈ t.specs, codeAmong q.1 ps.toList = none ∨ CodeIn h ps q
noncomputable def tiOf (tl : List TabS) (h : Heap) : Prop := ∀ t ∈ tl, TOk h t
theorem tiOf_tab {tl : List TabS} {h : Heap} {a : Addr} (t : tiOf tl h) (ha : a ∈ tl.map (·.P)) : ∃ vs, h.get? a = some (tableObj vs) := by
  obtain ⟨q, hq, rfl⟩ := List.mem_map.mp ha
  obtain ⟨ps, hp, _⟩ := (t q hq).tab
  exact ⟨ps, hp⟩
theorem tiOf_keep {tl : List TabS} {h h' : Heap} (t : tiOf tl h) (k : ∀ a o, h.get? a = some o → (o.cls = .none ∨ o.cls = .type "code") → (∃ vs, o.data = .fields vs) → h'.get? a = some o) : tiOf tl h' := fun q hq => by
  obtain ⟨hd, ps, hp, ht, hs⟩ := t q hq
  refine ⟨?_, ps, k _ _ hp (.inl rfl) ⟨_, rfl⟩, ht, fun z hz => ?_⟩
  · obtain ⟨o, vs, file, tf, flags, tg, inF, text, tt, e, c, d, r⟩ := hd
    exact ⟨o, vs, file, tf, flags, tg, inF, text, tt, k _ _ e (.inr c) ⟨_, d⟩, c, d, r⟩
  · rcases hs z hz with h1 | ⟨c', oc, vs, tk, h1, h2, h3, h4, h5⟩
    · exact .inl h1
    · exact .inr ⟨c', oc, vs, tk, h1, k _ _ h2 (.inr h3) ⟨_, h4⟩, h3, h4, h5⟩
theorem codeAmong_other {pos p2 : Pos} {c : Value} (hne : ¬ (pos.line = p2.line ∧ pos.col = p2.col)) (l : List Value) (h : TriplesOk l) : codeAmong p2 (l ++ [rawInt pos.line, rawInt pos.col, c]) = codeAmong p2 l := by
  fun_induction TriplesOk l with
  | case1 =>
    simp only [List.nil_append, codeAmong, rawInt]
    rw [if_neg]
    simp only [Bool.and_eq_true, beq_iff_eq]
    intro ⟨h1, h2⟩
    exact hne ⟨by lia, by lia⟩
  | case2 a t b u x rest ih =>
    simp only [List.cons_append, codeAmong]
    rw [ih h]
  | case3 => exact h.elim
theorem triples_snoc {pos : Pos} {c : Value} (l : List Value) (h : TriplesOk l) : TriplesOk (l ++ [rawInt pos.line, rawInt pos.col, c]) := by
  fun_induction TriplesOk l with
  | case1 => simp [rawInt, TriplesOk]
  | case2 a t b u x rest ih => simp only [List.cons_append, TriplesOk]; exact ih h
  | case3 => exact h.elim
section
variable {M : Model} {A : Around} {E : Value → Shared → Prop} {s : Shared} {name qual : Str} {params : Arguments} {body : FuncBody} {scope : Scope} {env : Env} {c P : Addr} {ps : Array Value} {pos : Pos} {firstLine : Nat} {mg : Str → Option Value}
  {clos : List (Str × Addr)} {Q : Value → Shared → Prop}
noncomputable abbrev madeFn (name qual : Str) (params : Arguments) (body : FuncBody) (scope : Scope) (clos : List (Str × Addr)) (doc pm : Value) (c' : Addr) (ctv : Value) : Obj :=
  { cls := .type "function", data := .func { fnX name qual params [] scope clos .none .none doc pm none (.ref c') ctv with body := body } }
end
structure WTab (W : Wd) (tl : List TabS) : Prop where
  ti : W.ti = tiOf tl
  tabs : W.tabs = tl.map (·.P)
  nodup : (tl.map (·.P)).Nodup
  bm : ∃ bm o, W.mg "__builtins__" = some (.ref bm) ∧ bm ≠ builtinsNs ∧ bm ≠ mainGlobals ∧ W.base bm = some o ∧ o.cls = .type "module" ∧ o.dict = some builtinsNs ∧ o.data = .plain
section
variable {W : Wd} {tl : List TabS} {t : TabS} {A : Around} {s : Shared} {F : Frz} {name qual : Str} {params : Arguments} {body : FuncBody} {scope : Scope} {env : Env} {pos : Pos} {firstLine : Nat} {clos : List (Str × Addr)}
theorem tab_only (hw : WTab W tl) (ht : t ∈ tl) {t' : TabS} (h' : t' ∈ tl) (e : t'.P = t.P) : t' = t := by
  have := hw.nodup
  clear hw
  induction tl with
  | nil => cases ht
  | cons q r ih =>
    rw [List.map_cons, List.nodup_cons] at this
    rcases List.mem_cons.mp ht with z | ht2
    · rcases List.mem_cons.mp h' with y | h2
      · rw [z, y]
      · have hm : t'.P ∈ r.map (·.P) := List.mem_map_of_mem h2
        rw [e, z] at hm; exact absurd hm this.1
    · rcases List.mem_cons.mp h' with y | h2
      · have hm : t.P ∈ r.map (·.P) := List.mem_map_of_mem ht2
        rw [← e, y] at hm; exact absurd hm this.1
      · exact ih ht2 h2 this.2
inductive Made (W : Wd) (s : Shared) (F : Frz) (name qual : Str) (params : Arguments) (body : FuncBody) (scope : Scope) (clos : List (Str × Addr)) (v : Value) (s' : Shared) : Prop
  | mk (a c' : Addr) (ctv doc pm : Value) (e : v = .ref a) (st : Step W noX s F s' F) (h0 : s.heap.get? a = none) (h1 : s'.heap.get? a = some (madeFn name qual params body scope clos doc pm c' ctv)) (ta : a ∉ W.tabs) (cd : CodeNm W s'.heap qual c')
theorem step_grown (hw : WTab W tl) (ht : t ∈ tl) (ok : HOk W s.heap) (fin : FOk W F s.heap) {h' : Heap} {tk : Tok} {ps' : Array Value} (hx : Heap.ExtBut t.P s.heap h') (hP : h'.get? t.P = some (tabObj ps')) (htr : TriplesOk ps'.toList) (hsp : ∀ q ∈ t.specs, codeAmong q.1 ps'.toList = none ∨ CodeIn h' ps' q) :
    Step W noX s F { s with heap := h', toks := tk } F := by
  have hPt : t.P ∈ W.tabs := by rw [hw.tabs]; exact List.mem_map_of_mem ht
  have kF : ∀ a o, a ∉ W.tabs → s.heap.get? a = some o → h'.get? a = some o := fun a o hn e => hx a o (fun q => hn (q ▸ hPt)) e
  have ti' : W.ti h' := by
    have hti := ok.ti
    rw [hw.ti] at hti ⊢
    intro t' ht'
    obtain ⟨hd, ps, hp, h1, h2⟩ := hti t' ht'
    have hd' : CodeHd h' t'.c t'.P := by
      obtain ⟨o, vs, file, tf, flags, tg, inF, text, tt, e, c, d, r⟩ := hd
      refine ⟨o, vs, file, tf, flags, tg, inF, text, tt, hx _ _ (fun q => ?_) e, c, d, r⟩
      obtain ⟨_, ps0, hp0, _⟩ := hti t ht
      rw [q, hp0] at e; cases e; cases c
    by_cases hPP : t'.P = t.P
    · have := tab_only hw ht ht' hPP
      subst this
      exact ⟨hd', ps', hP, htr, hsp⟩
    · refine ⟨hd', ps, hx _ _ hPP hp, h1, fun q hq => ?_⟩
      rcases h2 q hq with z | ⟨c', oc, vs, tk, z1, z2, z3, z4, z5⟩
      · exact .inl z
      · refine .inr ⟨c', oc, vs, tk, z1, hx _ _ (fun y => ?_) z2, z3, z4, z5⟩
        obtain ⟨_, ps0, hp0, _⟩ := hti t ht
        rw [y, hp0] at z2; cases z2; cases z3
  exact ⟨⟨⟨fun a o e => kF a o (fun q => by have := ok.base.tab a q; rw [e] at this; cases this) (ok.base.is _ _ e), ok.base.tab⟩, ti'⟩, ⟨fun a o e => kF a o (fun q => by have := fin.tab a q; rw [e] at this; cases this) (fin.is _ _ e), fin.tab⟩, fun _ _ e => e, fun _ _ e => .inl e, fun a o hn _ e => kF a o hn e, rfl, fun _ _ _ e => e, fun e => e⟩
theorem make_fn (hw : WTab W tl) (ht : t ∈ tl) (hq : (pos, qual) ∈ t.specs) (hqo : ∀ q ∈ t.specs, q ≠ (pos, qual) → ¬ (pos.line = q.1.line ∧ pos.col = q.1.col)) (hcl : closureFor scope env = pure clos) (hge0 : env.globals = mainGlobals) (hcode : env.code = .ref t.c)
    (ok : HOk W s.heap) (fin : FOk W F s.heap) : wpAny (model W.prog W.w) A (makeFunction name qual params body scope env [] [] [] pos firstLine) (Made W s F name qual params body scope clos) noE s := by
  have hti := ok.ti
  rw [hw.ti] at hti
  obtain ⟨C, ps, hP, htr, hsp⟩ := hti t ht
  have hg := W.hmg _ ok.base.is
  have hPt : t.P ∈ W.tabs := by rw [hw.tabs]; exact List.mem_map_of_mem ht
  have hgP : mainGlobals ≠ t.P := fun q => ns_no_tab ok.ti hg (q ▸ hPt)
  obtain ⟨bm, ob, hbm, hne0, hneG, hbb, hcls, hdict, hdata⟩ := hw.bm
  have hbo := ok.base.is _ _ hbb
  have hneP : bm ≠ t.P := fun q => by rw [q, hP] at hbo; cases hbo; cases hcls
  rw [makeFunction_eq]
  simp only [List.zip_nil_right, List.filterMap_nil, List.isEmpty_nil, if_true, pure_bind]
  unfold makeTail
  rw [hcl, hge0]
  refine wpAny_bind (wpAny_pure ?_)
  have rest : ∀ (ctv : Value) (s₁ : Shared), Step W noX s F s₁ F → (∀ b o, s.heap.get? b = some o → s₁.heap.get? b = some o) → wpAny (model W.prog W.w) A (functionCode env pos firstLine name qual params scope body) (fun code s₂ =>
      ∃ c', code = .ref c' ∧ Step W noX s F s₂ F ∧ CodeNm W s₂.heap qual c') noE s₁ := by
    intro ctv s₁ st₁ k₁
    have hti₁ := st₁.ok.ti
    rw [hw.ti] at hti₁
    obtain ⟨C₁, ps₁, hP₁, htr₁, hsp₁⟩ := hti₁ t ht
    rcases hsp₁ (pos, qual) hq with hn | ⟨c', oc, vs, tk, z1, z2, z3, z4, z5⟩
    · refine wpAny_functionCodeX hcode (C₁.code hP₁ htr₁) (C₁.tab hP₁) hn fun c' h' tk hx hge hlt _ hrec htb hnew => ?_
      obtain ⟨P', hP', _, ⟨oc, vs, e1, e2, e3, e4⟩, _⟩ := hnew
      obtain ⟨c₂, oc₂, vs₂, tq, r1, r2, r3, r4⟩ := hrec
      cases r1
      rw [e1] at r2; cases r2
      rw [e3] at r3; cases r3
      have st₂ : Step W noX s₁ F { s₁ with heap := h', toks := tk } F := by
        refine step_grown hw ht st₁.ok st₁.fin hx htb.2 ?_ fun q hq' => ?_
        · rw [Array.toList_append]; exact triples_snoc _ htr₁
        · by_cases hqq : q = (pos, qual)
          · subst hqq
            refine .inr ⟨c', oc, vs, tq, ?_, e1, e2, e3, r4⟩
            rw [Array.toList_append]; exact codeAmong_snoc _ htr₁ hn
          · rw [Array.toList_append]
            have := codeAmong_other (c := .ref c') (hqo q hq' hqq) ps₁.toList htr₁
            rcases hsp₁ q hq' with y | ⟨c₃, oc₃, vs₃, tk₃, y1, y2, y3, y4, y5⟩
            · left; rw [← y]; exact this
            · refine .inr ⟨c₃, oc₃, vs₃, tk₃, ?_, hx _ _ (fun z => ?_) y2, y3, y4, y5⟩
              · rw [Array.toList_append, ← y1]; exact this
              · rw [z, hP₁] at y2; cases y2; cases y3
      exact ⟨c', rfl, st₁.trans st₂, no_tab_cls st₂.ok.ti e1 (by rw [e2]; simp), oc, vs, tq, e1, e3, r4⟩
    · refine wpAny_functionCode_hit hcode (C₁.code hP₁ htr₁) z1 ?_
      exact ⟨c', rfl, st₁, no_tab_cls st₁.ok.ti z2 (by rw [z3]; simp), oc, vs, tk, z2, z4, z5⟩
  have fin' : ∀ (code ctv : Value) (c' : Addr) (s₂ : Shared), code = .ref c' → Step W noX s F s₂ F → CodeNm W s₂.heap qual c' → ∀ (bd : Value) (doc : Value) (tk : Nat),
      Made W s F name qual params body scope clos (.ref s₂.heap.objs.size) { s₂ with heap := s₂.heap.push (madeFn name qual params body scope clos doc ((W.mg "__name__").getD .none) c' ctv), toks := tk } := by
    intro code ctv c' s₂ _ st ⟨hct, oc, vs, tk', e1, e2, e3⟩ bd doc tk
    refine ⟨_, c', ctv, doc, _, rfl, st.trans ((Step.alloc st.ok st.fin _).trans (Step.tok (s := { s₂ with heap := s₂.heap.push _ }) (st.ok.push _) (st.fin.push _) tk)), st.live (fun h => h) (get_size_none _), Heap.get?_push_size _ rfl, fun q => Nat.lt_irrefl _ (st.ok.tabLt q), hct, oc, vs, tk', Heap.get?_push_of_some _ e1, e2, e3⟩
  have after : ∀ (ctv : Value) (s₁ : Shared), Step W noX s F s₁ F → (∀ b o, s.heap.get? b = some o → s₁.heap.get? b = some o) → wpAny (model W.prog W.w) A (do
      let code ← functionCode env pos firstLine name qual params scope body
      let builtins ← builtinsFor mainGlobals env.builtins
      let pm ← nsGet mainGlobals "__name__"
      let doc ← (match body with
          | .stmts b => (match docOf b with | some s => mkText s | none => pure .none)
          | .expr _ => pure .none)
      newObj (.type "function") (.func { name := name, qualname := qual, params := params, body := body, scope := scope, globals := mainGlobals, closure := clos, closureTuple := ctv, code := code, builtins := builtins, defaults := .none, kwdefaults := .none, annotations := none, pyModule := pm.getD .none, doc := doc })) (Made W s F name qual params body scope clos) noE s₁ := by
    intro ctv s₁ st₁ k₁
    refine wpAny_bind (anyE (rest ctv s₁ st₁ k₁) fun code s₂ ⟨c', hc, st₂, hco⟩ => ?_)
    subst hc
    have hg₂ := W.hmg _ st₂.ok.base.is
    have hbo₂ := st₂.ok.base.is _ _ hbb
    refine wpAny_bind (wpAny_builtinsFor hg₂ hbm hne0 hbo₂ hcls hdict hdata ?_)
    refine wpAny_bind (wpAny_nsGet hg₂ ?_)
    cases body with
    | expr e => exact wpAny_bind (wpAny_pure (wpAny_newObj_type (fin' _ ctv c' s₂ rfl st₂ hco .none .none s₂.toks) (by size_fits)))
    | stmts b =>
      cases hdoc : docOf b with
      | none => simp only [hdoc]; exact wpAny_bind (wpAny_pure (wpAny_newObj_type (fin' _ ctv c' s₂ rfl st₂ hco .none .none s₂.toks) (by size_fits)))
      | some t => simp only [hdoc]; exact wpAny_bind (wpAny_mkText (wpAny_newObj_type (fin' _ ctv c' s₂ rfl st₂ hco .none _ _) (by size_fits)))
  cases body <;> cases clos with
  | nil =>
    simp only [List.isEmpty_nil, if_true]
    exact wpAny_bind (wpAny_pure (after .none s (Step.refl ok fin) fun _ _ e => e))
  | cons q r =>
    simp only [List.isEmpty_cons, Bool.false_eq_true, if_false]
    refine wpAny_bind (wpAny_newTextTuple ?_)
    exact after _ _ (Step.alloc ok fin _) fun b o e => Heap.get?_push_of_some _ e
end
end Mine
namespace Mine
open PySem PySem.W PySem.W.X PyProof.Rows PySem.Calls
inductive CodeF (F : Frz) (qual : Str) (c' : Addr) : Prop
  | mk (oc : Obj) (vs : Array Value) (tq : Tok) (h1 : F c' = some oc) (h2 : oc.data = .fields vs) (h3 : vs[1]? = some (.str qual tq))
inductive FnF (F : Frz) (name qual : Str) (params : Arguments) (bd : FuncBody) (sc : Scope) (clos : List (Str × Addr)) (a : Addr) : Prop
  | mk (c' : Addr) (ctv doc pm : Value) (fn : F a = some (madeFn name qual params bd sc clos doc pm c' ctv)) (code : CodeF F qual c')
inductive CellF (F : Frz) (c : Addr) (v : Value) : Prop
  | mk (o : Obj) (h1 : F c = some o) (h2 : o.data = .cell (some v))
section
variable {F F' : Frz} {name qual : Str} {params : Arguments} {bd : FuncBody} {sc : Scope} {clos : List (Str × Addr)} {a : Addr}
theorem FnF.mono (le : FLe F F') (h : FnF F name qual params bd sc clos a) : FnF F' name qual params bd sc clos a := let ⟨c', ctv, doc, pm, h1, oc, vs, tq, h2, h3, h4⟩ := h; ⟨c', ctv, doc, pm, le _ _ h1, oc, vs, tq, le _ _ h2, h3, h4⟩
theorem CellF.mono (le : FLe F F') {c : Addr} {v : Value} (h : CellF F c v) : CellF F' c v := let ⟨o, h1, h2⟩ := h; ⟨o, le _ _ h1, h2⟩
theorem CellF.is {W : Wd} {h : Heap} {c : Addr} {v : Value} (q : CellF F c v) (f : FOk W F h) : h.IsCell c (some v) := let ⟨o, h1, h2⟩ := q; ⟨o, f.is _ _ h1, h2⟩
theorem FnF.obj (h : FnF F name qual params bd sc clos a) : ∃ o fd, F a = some o ∧ o.data = .func fd := let ⟨_, _, _, _, h1, _⟩ := h; ⟨_, _, h1, rfl⟩
structure ScOk (sc : Scope) : Prop where
  co : sc.isCoroutine = false
  gen : sc.isGenerator = false
  kind : sc.kind = .function
end
section
variable {W : Wd} {F F' : Frz} {s : Shared} {name qual : Str} {params : Arguments} {bd : FuncBody} {sc : Scope} {clos : List (Str × Addr)} {a : Addr} {c' : Addr} {ctv doc pm : Value}
theorem fd_of (ok : ScOk sc) (f : FOk W F s.heap) (h1 : F a = some (madeFn name qual params bd sc clos doc pm c' ctv)) (h2 : CodeF F qual c') :
    CloFd s a { fnX name qual params [] sc clos .none .none doc pm none (.ref c') ctv with body := bd } bd :=
  let ⟨oc, vs, tq, h2, h3, h4⟩ := h2
  ⟨⟨_, f.is _ _ h1, rfl⟩, rfl, ok.co, ok.gen, ok.kind, rfl, rfl, ⟨c', oc, vs, tq, rfl, f.is _ _ h2, h3, h4⟩⟩
theorem RelL.ints {F'' : Frz} {W' : Wd} : ∀ {is : List Int} {vs : List Value}, RelL W F vs (is.map V.int) → RelL W' F'' vs (is.map V.int)
  | [], _, h => h
  | _ :: _, _, ⟨v, r, e, p, q⟩ => ⟨v, r, e, p, RelL.ints q⟩
theorem allm {α : Type} {P : α → Prop} {a : α} {l : List α} (h : P a) (r : ∀ p ∈ l, P p) : ∀ p ∈ a :: l, P p := fun _ q => match q with
  | .head _ => h
  | .tail _ q => r _ q
theorem alln {α : Type} {P : α → Prop} : ∀ p ∈ ([] : List α), P p := fun _ q => nomatch q
noncomputable def CloAt (W : Wd) (d : Nat) (k : Nat) (P : List V → List V → (V → Prop) → Prop) : Prop := ∀ cs F a, W.fo k cs F a → (∃ o fd, F a = some o ∧ o.data = .func fd) ∧ ∀ (A : Around) (s : Shared) (F' : Frz) (vals : List Value) (vs : List V) (K : V → Prop) (Q : Value → Shared → Prop), FLe F F' → Room A d → OF W F' s → RelL W F' vals vs → P cs vs K → Kn W noX s F' K Q →
    wpAny (model W.prog W.w) A (call (.ref a) vals) Q noE s
structure FoD (dn : Str) (qual : Str) (params : Arguments) (body : List Stmt) (sc : Scope) (F : Frz) (a : Addr) (n : Nat) (x1 x2 x3 D : Addr) (tn : Tok) : Prop where
  fn : FnF F (Str.ofString "inner") qual params (.stmts body) sc [(Str.ofString "n", x2), (Str.ofString "inner", x3), (dn, x1)] a
  cd : CellF F x1 (.ref D)
  cn : CellF F x2 (.int n tn)
  ci : CellF F x3 (.ref a)
  ne : x2 ≠ x3 ∧ x2 ≠ x1 ∧ x3 ≠ x1
theorem FoD.mono {dn qual : Str} {body : List Stmt} {n : Nat} {x1 x2 x3 D : Addr} {tn : Tok} (le : FLe F F') (h : FoD dn qual params body sc F a n x1 x2 x3 D tn) : FoD dn qual params body sc F' a n x1 x2 x3 D tn := ⟨h.fn.mono le, h.cd.mono le, h.cn.mono le, h.ci.mono le, h.ne⟩
inductive FoD0 (qual : Str) (params : Arguments) (body : List Stmt) (sc : Scope) (xs : List V) (F : Frz) (a : Addr) : Prop
  | mk (ds : List Int) (n : Nat) (x1 x2 x3 D : Addr) (items : List Value) (k : Nat) (tn : Tok) (xs : xs = [.list (ds.map V.int), .int n]) (Z : FoD (Str.ofString "digits") qual params body sc F a n x1 x2 x3 D tn) (list : F D = some (listObj items k)) (its : ∀ W F, RelL W F items (ds.map V.int))
theorem FoD0.mono {qual : Str} {body : List Stmt} {xs : List V} (le : FLe F F') (h : FoD0 qual params body sc xs F a) : FoD0 qual params body sc xs F' a := let ⟨ds, n, x1, x2, x3, D, items, k, tn, e, Z, l, i⟩ := h; ⟨ds, n, x1, x2, x3, D, items, k, tn, e, Z.mono le, le _ _ l, i⟩
variable {d : Nat} {env : Env} {T : Tab} {m lo : Nat} {G : Frz} {α : Nat → Addr} {ρ : Rho} {A : Around} {C : Cx}
theorem ex_assign {y : Str} {i : Nat} {ex : Expr} {np pos : Pos} {rest : List Stmt} {K : V → Prop} {Q : Flow → Shared → Prop} (hy : T.at y = some i) (hlo : lo ≤ i) (hs : NoSwap ex) (h : ∀ (Q : Value → Shared → Prop), Kn W noX s F K Q → wpAny (model W.prog W.w) A (eval ex env) Q noE s) (e : EnvOk env T) (I : Inv W env T m lo F G α ρ s)
    (q : ∀ v s' F' α', K v → Inv W env T m lo F' G α' (ρ.set i (.val v)) s' → Run G s F s' F' → (AllLoc env T lo → ∀ b o, b ∉ W.tabs → b ≠ env.locals → s.heap.get? b = some o → s'.heap.get? b = some o) → (∀ b o, s.heap.get? b = some o → F b = none → F' b = none) → wpAny (model W.prog W.w) A (execs rest env) Q noE s') :
    wpAny (model W.prog W.w) A (execs (.Assign [.Name y np] ex pos :: rest) env) Q noE s :=
  wpAny_execs_cons (wpAny_Assign_Name (h _ fun v s₁ F₁ r₁ st₁ q₁ h₁ => st_slot (I.step st₁) e (at_name hy).1 hlo (.val (b := 0) q₁) fun s₂ I₂ r₂ kp => q r₁ s₂ F₁ _ h₁ I₂ ((Run.of_step I.gin st₁).trans r₂)
    (fun al b o ht hb eb => kp al b o hb (st₁.keep b o ht (fun h => h) eb)) fun b o eb => st₁.stays_out (fun h => h) eb) (hs _ _ _))
end
end Mine
namespace Mine
open PySem
inductive D2IC (N : Nat) (cs vs : List V) (K : V → Prop) : Prop
  | mk (ds : List Int) (n L R : Nat) (hc : cs = [.list (ds.map V.int), .int n]) (hv : vs = [.int L, .int R]) (h1 : L < R) (h2 : R ≤ ds.length) (hN : R - L ≤ N) (hf : FigsOk n ds) (hl : ds.length ≤ 1000001) (hn : n ≤ 1000000) (hm : n * ds.length ≤ 4000000) (k : K (.int (ofD n ((ds.take R).drop L))))
theorem ofD_app (n : Nat) (ys : List Int) : ∀ xs : List Int, ofD n (xs ++ ys) = ofD n xs + 2 ^ (n * xs.length) * ofD n ys
  | [] => by simp [ofD]
  | x :: xs => by
    show x + 2 ^ n * ofD n (xs ++ ys) = x + 2 ^ n * ofD n xs + _
    rw [ofD_app n ys xs, Int.mul_add, List.length_cons, Nat.mul_succ, Nat.add_comm (n * xs.length), Int.pow_add, ← Int.mul_assoc, Int.add_assoc]
theorem ofD_drop (n : Nat) (ds : List Int) {L M R : Nat} (h1 : L ≤ M) (h2 : M ≤ R) (h3 : R ≤ ds.length) : ofD n ((ds.take R).drop M) * 2 ^ ((M - L) * n) + ofD n ((ds.take M).drop L) = ofD n ((ds.take R).drop L) := by
  have e1 : ds.take R = ds.take M ++ (ds.take R).drop M := by
    have : ds.take M = (ds.take R).take M := by rw [List.take_take, Nat.min_eq_left h2]
    rw [this, List.take_append_drop]
  have hM : (ds.take M).length = M := by rw [List.length_take]; exact Nat.min_eq_left (Nat.le_trans h2 h3)
  have e : (ds.take R).drop L = (ds.take M).drop L ++ (ds.take R).drop M := by
    conv => lhs; rw [e1]
    rw [List.drop_append_of_le_length (hM.symm ▸ h1)]
  rw [e, ofD_app, List.length_drop, hM, Int.mul_comm, Nat.mul_comm n, Int.add_comm]
theorem ofD_bound (n : Nat) : ∀ (ds : List Int), FigsOk n ds → 0 ≤ ofD n ds ∧ ofD n ds < 2 ^ (n * ds.length)
  | [], _ => by simp [ofD]
  | d :: r, h => by
    obtain ⟨h1, h2⟩ := ofD_bound n r fun x hx => h x (List.mem_cons_of_mem _ hx)
    obtain ⟨h3, h4⟩ := h d List.mem_cons_self
    show 0 ≤ d + 2 ^ n * ofD n r ∧ d + 2 ^ n * ofD n r < _
    have hn := two_pos n
    have h5 : 0 ≤ 2 ^ n * ofD n r := Int.mul_nonneg (Int.le_of_lt hn) h1
    have h6 : 2 ^ n * (ofD n r + 1) ≤ 2 ^ n * 2 ^ (n * r.length) := Int.mul_le_mul_of_nonneg_left h2 (Int.le_of_lt hn)
    rw [Int.mul_add, Int.mul_one] at h6
    rw [List.length_cons, Nat.mul_succ, Int.pow_add, Int.mul_comm (2 ^ (n * r.length))]
    exact ⟨Int.add_nonneg h3 h5, by omega⟩
theorem halves {L R N : Nat} (h1 : L < R) (h : R - L ≤ max 1 (2 * N)) (hn : ¬ L + 1 = R) : ∃ M, (L + R) / 2 = M ∧ L < M ∧ M < R ∧ R - M ≤ N ∧ M - L ≤ N := by
  obtain ⟨k, rfl⟩ := Nat.exists_eq_add_of_lt h1
  have e : (L + (L + k + 1)) / 2 = L + (k + 1) / 2 := by rw [Nat.add_assoc L k, ← Nat.add_assoc L L, ← Nat.two_mul, Nat.mul_add_div (by decide)]
  have k0 : 0 < k := Nat.pos_of_ne_zero fun q => hn (by rw [q])
  have h2 : k + 1 ≤ 2 * N := by
    rw [Nat.add_assoc, Nat.add_sub_cancel_left] at h
    rcases Nat.le_total 1 (2 * N) with z | z
    · rw [Nat.max_eq_right z] at h; exact h
    · rw [Nat.max_eq_left z] at h; exact absurd (Nat.le_of_succ_le_succ h) (Nat.not_le.mpr k0)
  clear h hn h1
  exact ⟨_, e, by omega, by omega, by omega, by omega⟩
theorem mid_eq (L R : Nat) : ((L : Int) + R).fdiv (2 ^ (1 : Int).toNat) = ((L + R) / 2 : Nat) := by
  rw [fdiv_pow, show (2 : Int) ^ (1 : Int).toNat = 2 by decide]; omega
theorem shift_eq {L M n : Nat} (h : L ≤ M) : ((M : Int) - L) * n = ((M - L) * n : Nat) := by
  rw [Int.natCast_mul]; congr 1; omega
theorem shift_fit {L M n B : Nat} (h1 : L ≤ M) (h2 : M ≤ B) (hB : B ≤ 1000001) (hn : n ≤ 1000000) : MulFit ((M : Int) - L) n := ⟨32, 20, by omega, by omega, by decide⟩
theorem len_td (ds : List Int) (M R : Nat) : ((ds.take R).drop M).length ≤ ds.length := by rw [List.length_drop, List.length_take]; omega
theorem figs_td {n : Nat} {ds : List Int} (h : FigsOk n ds) (M R : Nat) : FigsOk n ((ds.take R).drop M) := fun d hd => h d (List.mem_of_mem_take (List.mem_of_mem_drop hd))
theorem mul_td {ds : List Int} {n L M R : Nat} (hM : M ≤ ds.length) (hm : n * ds.length ≤ 4000000) : n * ((ds.take R).drop M).length + (M - L) * n ≤ 134000000 := by
  have h1 : (M - L) * n ≤ ds.length * n := Nat.mul_le_mul_right _ (Nat.le_trans (Nat.sub_le _ _) hM)
  have h2 := Nat.mul_le_mul_left n (len_td ds M R)
  rw [Nat.mul_comm ds.length] at h1
  omega
section
variable {C : Cx} {ds : List Int} {n L R : Nat} {cs : List V} {K : V → Prop} {a b : Slot}
theorem d2i_leaf (h : L + 1 = R) (h2 : R ≤ ds.length) (hl : ds.length ≤ 1000001) (k : K (.int (ofD n ((ds.take R).drop L)))) : (xItem (xVar 0) (xVar 3)).E C [.val (.list (ds.map V.int)), .val (.fn 0 cs), .val (.int n), .val (.int L), .val (.int R), a, b] K := by
  have hL : L < ds.length := by omega
  have e1 : (ds.take R).drop L = [ds[L]] := by
    rw [← h, List.take_succ_eq_append_getElem hL, List.drop_append_of_le_length (by rw [List.length_take]; omega), List.drop_of_length_le (by rw [List.length_take]; omega)]; rfl
  have e2 : ofD n [ds[L]] = ds[L] := by show ds[L] + 2 ^ n * 0 = _; rw [Int.mul_zero, Int.add_zero]
  rw [e1, e2] at k
  refine ⟨L, .int ds[L], ?_, ?_, ⟨?_⟩, k⟩
  · unfold place; rw [if_pos (Int.natCast_nonneg _), if_pos (by rw [List.length_map]; omega)]; rfl
  · rw [List.getElem?_map, List.getElem?_eq_getElem hL]; rfl
  · rw [List.length_map]; exact Nat.le_trans hl (show 1000001 ≤ 16000000 by decide)
theorem d2i_sum {N : Nat} (hC : ∀ cs vs K, D2IC N cs vs K → C.clo 0 cs vs K) (hc : cs = [.list (ds.map V.int), .int n]) {M : Nat} (h1 : L < M) (h2 : M < R) (hR : R ≤ ds.length) (hN1 : R - M ≤ N) (hN2 : M - L ≤ N) (hf : FigsOk n ds) (hl : ds.length ≤ 1000001) (hn : n ≤ 1000000) (hm : n * ds.length ≤ 4000000) (k : K (.int (ofD n ((ds.take R).drop L)))) :
    (xBin bAdd (xBin bShl (xCallv 1 [xVar 5, xVar 4]) (xVar 6)) (xCallv 1 [xVar 3, xVar 5])).E C [.val (.list (ds.map V.int)), .val (.fn 0 cs), .val (.int n), .val (.int L), .val (.int R), .val (.int M), .val (.int ((M - L) * n : Nat))] K := by
  have hML : M ≤ ds.length := Nat.le_trans (Nat.le_of_lt h2) hR
  have bd := ofD_bound n _ (figs_td hf M R)
  refine hC _ _ _ ⟨ds, n, M, R, hc, rfl, h2, hR, hN1, hf, hl, hn, hm, ⟨⟨Int.natCast_nonneg _, _, natAbs_lt bd.1 bd.2, ?_⟩, hC _ _ _ ⟨ds, n, L, M, hc, rfl, h1, hML, hN2, hf, hl, hn, hm, ?_⟩⟩⟩
  · have := mul_td (L := L) (R := R) hML hm
    omega
  · rw [← ofD_drop n ds (Nat.le_of_lt h1) (Nat.le_of_lt h2) hR] at k; exact k
end
end Mine
namespace Mine
open PySem PySem.W PySem.W.X PyProof.Rows PySem.Calls
noncomputable def inn (nm : Str) (k : Nat) : Arguments × List Stmt × Scope × Pos := onF (stAt nm k) (⟨[], [], none, [], [], none, []⟩, [], { kind := .function, names := [], isGenerator := false, isCoroutine := false }, ⟨0, 0, 0, 0⟩) fun _ a b sc p => (a, b, sc, p)
noncomputable def iPar (nm : Str) (k : Nat) : Arguments := (inn nm k).1
noncomputable def iB (nm : Str) (k : Nat) : List Stmt := (inn nm k).2.1
noncomputable def iSc (nm : Str) (k : Nat) : Scope := (inn nm k).2.2.1
noncomputable def iPos (nm : Str) (k : Nat) : Pos := (inn nm k).2.2.2
noncomputable def dT : Tab := ⟨[(Str.ofString "digits", 0), (Str.ofString "inner", 1), (Str.ofString "n", 2), (Str.ofString "L", 3), (Str.ofString "R", 4), (Str.ofString "mid", 5), (Str.ofString "shift", 6)], [], [Str.ofString "digits", Str.ofString "inner", Str.ofString "n"]⟩
section
variable (W : Wd) (C : Cx) (d : Nat) (t1 e1 e2 e3 e4 : Expr)
structure DSnd : Prop where
  t1 : SndE W C d dT 7 t1 (xBin cEq (xBin bAdd (xVar 3) (xInt 1)) (xVar 4))
  e1 : SndE W C d dT 7 e1 (xItem (xVar 0) (xVar 3))
  e2 : SndE W C d dT 7 e2 (xBin bShr (xBin bAdd (xVar 3) (xVar 4)) (xInt 1))
  e3 : SndE W C d dT 7 e3 (xBin bMul (xBin bSub (xVar 5) (xVar 3)) (xVar 2))
  e4 : SndE W C d dT 7 e4 (xBin bAdd (xBin bShl (xCallv 1 [xVar 5, xVar 4]) (xVar 6)) (xCallv 1 [xVar 3, xVar 5]))
end
inductive DShape : Prop
  | mk (t1 e1 e2 e3 e4 : Expr) (p1 p2 p3 p4 p5 q1 q2 : Pos) (h : iB (Str.ofString "_digits2int") 0 = [.If t1 [.Return (some e1) p1] [] p2, .Assign [.Name (Str.ofString "mid") q1] e2 p3, .Assign [.Name (Str.ofString "shift") q2] e3 p4, .Return (some e4) p5])
    (s2 : NoSwap e2) (s3 : NoSwap e3) (s : ∀ {W : Wd} {C : Cx} {d : Nat}, CfgOk cfg2 W C d → DSnd W C d t1 e1 e2 e3 e4)
theorem d_shape : DShape := ⟨_, _, _, _, _, _, _, _, _, _, _, _, rfl, fun _ _ _ => rfl, fun _ _ _ => rfl, fun cf =>
  ⟨Rs.of (o := mkE cf 40 dT 7 _) rfl, Rs.of (o := mkE cf 40 dT 7 _) rfl, Rs.of (o := mkE cf 40 dT 7 _) rfl, Rs.of (o := mkE cf 40 dT 7 _) rfl, Rs.of (o := mkE cf 40 dT 7 _) rfl⟩⟩
noncomputable def dNms : List (Str × NameKind) := [(Str.ofString "L", .local), (Str.ofString "R", .local), (Str.ofString "mid", .local), (Str.ofString "shift", .local), (Str.ofString "digits", .free), (Str.ofString "inner", .free), (Str.ofString "n", .free)]
theorem d_sc : ScOk (iSc (Str.ofString "_digits2int") 0) := ⟨rfl, rfl, rfl⟩
theorem d_clos : CloSc dT 7 3 [Str.ofString "L", Str.ofString "R"] dNms [Str.ofString "n", Str.ofString "inner", Str.ofString "digits"] := CloSc.of rfl
section
variable {W : Wd} {F : Frz} {s : Shared} {qual : Str} {params : Arguments} {body : List Stmt} {sc : Scope} {a : Addr} {n : Nat} {x1 x2 x3 D : Addr} {tn : Tok} {dn : Str}
theorem FoD.apart (Z : FoD dn qual params body sc F a n x1 x2 x3 D tn) : [(Str.ofString "n", x2), (Str.ofString "inner", x3), (dn, x1)].Pairwise fun x y : Str × Addr => x.2 ≠ y.2 :=
  .cons (allm Z.ne.1 (allm Z.ne.2.1 alln)) (.cons (allm Z.ne.2.2 alln) (.cons alln .nil))
theorem FoD.live (Z : FoD dn qual params body sc F a n x1 x2 x3 D tn) (f : FOk W F s.heap) : ∀ q ∈ [(Str.ofString "n", x2), (Str.ofString "inner", x3), (dn, x1)], ∃ v, s.heap.IsCell q.2 v :=
  allm ⟨_, Z.cn.is f⟩ (allm ⟨_, Z.ci.is f⟩ (allm ⟨_, Z.cd.is f⟩ alln))
end
section
variable {W : Wd} {d : Nat} {C : Cx} {qual : Str} {N : Nat}
theorem d2i_level (hfo : ∀ xs F a, W.fo 0 xs F a ↔ FoD0 qual (iPar (Str.ofString "_digits2int") 0) (iB (Str.ofString "_digits2int") 0) (iSc (Str.ofString "_digits2int") 0) xs F a) (cf : CfgOk cfg2 W C d) (hC : ∀ cs vs K, D2IC N cs vs K → C.clo 0 cs vs K) : CloAt W (d + 1) 0 (D2IC (max 1 (2 * N))) := by
  intro cs F a hfo0
  obtain ⟨ds, n, x1, x2, x3, D, items, k, tn, hcs, Z, hD, its⟩ := (hfo cs F a).mp hfo0
  refine ⟨Z.fn.obj, fun A s F' vals vs K Q le R of rl ⟨ds', n', L, Rr, hcs', hv, hLR, hRd, hN, hf, hl, hn, hm, hk⟩ kn => ?_⟩
  obtain ⟨h1, h2⟩ := List.cons.inj (hcs.symm.trans hcs')
  obtain rfl : n = n' := Int.ofNat.inj (V.int.inj (List.cons.inj h2).1)
  obtain rfl : ds = ds' := List.map_inj_right (fun _ _ h => V.int.inj h) |>.mp (V.list.inj h1)
  subst hv
  obtain ⟨v, _, rfl, rv, w, _, rfl, rw', rfl⟩ := rl
  have Z' := Z.mono le
  obtain ⟨c', ctv, doc, pm, hfn, hcode⟩ := Z'.fn
  obtain ⟨t1, e1, e2, e3, e4, p1, p2, p3, p4, p5, q1, q2, hb, s2, s3, sn⟩ := d_shape
  have S := sn cf
  refine enter_clo (T := dT) (m := 7) (lo := 3) (G := snap W s.heap) (ps := [Str.ofString "L", Str.ofString "R"]) (vs := [.int L, .int Rr]) (ρf := [.val (.list (ds.map V.int)), .val (.fn 0 cs), .val (.int n), .unset, .unset, .unset, .unset])
    (fd_of d_sc of.fin hfn hcode) d_clos ⟨Z'.apart, Z'.live of.fin, rfl, ?_⟩ rfl R of snap_ok ⟨v, _, rfl, rv, w, _, rfl, rw', rfl⟩ rfl (fun env s₁ e _ _ I kp rn R' => ?_)
  · exact allm (.inr ⟨rfl, x1, _, _, rfl, Z'.cd.is of.fin, .list (le _ _ hD) (its W F'), rfl⟩) (allm (.inr ⟨rfl, x3, _, _, rfl, Z'.ci.is of.fin, .fn (W.fmono _ _ _ _ _ le hfo0), rfl⟩) (allm (.inr ⟨rfl, x2, _, _, rfl, Z'.cn.is of.fin, .int _ _, rfl⟩) (allm (.inl rfl) (allm (.inl rfl) (allm (.inl rfl) (allm (.inl rfl) alln))))))
  · have I : Inv W env dT 7 3 F' (snap W s.heap) (fun _ => 0) [.val (.list (ds.map V.int)), .val (.fn 0 cs), .val (.int n), .val (.int L), .val (.int Rr), .unset, .unset] s₁ := I
    rw [hb]
    refine wpAny_execs_cons (wpAny_If (S.t1.t env F' _ s₁ _ (fun b => b = decide ((L : Int) + 1 = Rr)) _ ⟨3, _, _, I, e, R'⟩ rfl fun b s₂ F₂ st₂ hb => ?_))
    have I₂ := I.step st₂
    have rn₂ := rn.trans (Run.of_step I.gin st₂)
    cases b with
    | true =>
      have h : (L : Int) + 1 = Rr := of_decide_eq_true hb.symm
      exact wpAny_execs_cons (wpAny_Return_some (S.e1.v env F₂ _ s₂ _ K _ ⟨3, _, _, I₂, e, R'⟩ (d2i_leaf (Int.ofNat.inj h) hRd hl hk) fun v s₃ F₃ r st₃ rr kk =>
        have I₃ := I₂.step st₃
        kn v s₃ F₃ r ((rn₂.trans (Run.of_step I₂.gin st₃)).step I₃.ok I₃.fin I₃.gin) rr kk))
    | false =>
      have hne : ¬ (L : Int) + 1 = Rr := of_decide_eq_false hb.symm
      obtain ⟨M, hM, hM1, hM2, hN1⟩ := halves hLR hN fun q => hne (congrArg Int.ofNat q)
      refine wpAny_execs_nil ?_
      refine ex_assign (K := fun v => v = .int M) (i := 5) rfl (by decide) s2 (fun Q kn => S.e2.v env F₂ _ s₂ _ _ Q ⟨3, _, _, I₂, e, R'⟩ ⟨⟨by decide⟩, by rw [mid_eq, hM]⟩ kn) e I₂ fun v s₃ F₃ α₃ hv I₃ rn₃ _ _ => ?_
      subst hv
      refine ex_assign (K := fun v => v = .int ((M - L) * n : Nat)) (i := 6) rfl (by decide) s3 (fun Q kn => S.e3.v env F₃ _ s₃ _ _ Q ⟨3, _, _, I₃, e, R'⟩ ⟨⟨shift_fit (Nat.le_of_lt hM1) (Nat.le_of_lt hM2) (Nat.le_trans hRd hl) hn⟩, by rw [shift_eq (Nat.le_of_lt hM1)]⟩ kn) e I₃ fun v s₄ F₄ α₄ hv I₄ rn₄ _ _ => ?_
      subst hv
      exact wpAny_execs_cons (wpAny_Return_some (S.e4.v env F₄ _ s₄ _ K _ ⟨3, _, _, I₄, e, R'⟩ (d2i_sum hC hcs hM1 hM2 hRd hN1.1 hN1.2 hf hl hn hm hk) fun v s₅ F₅ r st₅ rr kk =>
        have I₅ := I₄.step st₅
        kn v s₅ F₅ r ((((rn₂.trans rn₃).trans rn₄).trans (Run.of_step I₄.gin st₅)).step I₅.ok I₅.fin I₅.gin) rr kk))
end
end Mine
namespace Mine
open PySem PySem.W PySem.W.X PyProof.Rows PySem.Calls
noncomputable def Frz.also (F : Frz) (h : Heap) (l : List Addr) : Frz := fun b => by classical exact if b ∈ l then h.get? b else F b
section
variable {W : Wd} {F : Frz} {h : Heap} {l : List Addr} {b : Addr}
theorem also_of (hb : b ∈ l) : F.also h l b = h.get? b := if_pos hb
theorem also_not (hb : b ∉ l) : F.also h l b = F b := if_neg hb
theorem also_le (f : FOk W F h) : FLe F (F.also h l) := fun b o e => by
  by_cases hb : b ∈ l
  · rw [also_of hb]; exact f.is _ _ e
  · rw [also_not hb]; exact e
theorem also_ok (f : FOk W F h) (hl : ∀ b ∈ l, b ∉ W.tabs) : FOk W (F.also h l) h := ⟨fun b o e => by
  by_cases hb : b ∈ l
  · rw [also_of hb] at e; exact e
  · rw [also_not hb] at e; exact f.is _ _ e, fun b hb => by rw [also_not fun q => hl b q hb]; exact f.tab b hb⟩
variable {d : Nat} {F' G : Frz} {s s' : Shared} {A : Around} {env : Env} {T : Tab} {m lo : Nat} {α : Nat → Addr} {ρ : Rho}
structure Fixed (W : Wd) (L : Addr) (h : Heap) (b : Addr) : Prop where
  nt : b ∉ W.tabs
  nl : b ≠ L
  no : ∀ its k, h.get? b ≠ some (listObj its k)
theorem Inv.also (I : Inv W env T m lo F G α ρ s) (hl : ∀ b ∈ l, Fixed W env.locals s.heap b) : Inv W env T m m (F.also s.heap l) G α ρ s :=
  have le : FLe F (F.also s.heap l) := also_le I.fin
  { fb := fun a o e => le a o (I.fb a o e)
    ok := I.ok
    fin := also_ok I.fin fun b hb => (hl b hb).nt
    gin := I.gin
    lf := (also_not fun h => (hl _ h).nl rfl).trans I.lf
    lg := I.lg
    rl := I.rl
    len := I.len
    inj := I.inj
    cinj := I.cinj
    wr := fun x i e h => absurd (I.len x i e) (Nat.not_lt.mpr h)
    vars := let ⟨μ, hn, hv⟩ := I.vars; ⟨μ, hn, fun x i e => (hv x i e).keep rfl le (fun _ h => h) fun xs its n _ h1 h2 h3 => ⟨h3, (also_not fun h => (hl _ h).no its n h3).trans h1, h2⟩⟩
    apart := I.apart
    clive := I.clive }
theorem Inv.fixCell (I : Inv W env T m lo F G α ρ s) {c : Addr} {v : Option Value} (hc : s.heap.IsCell c v) : Fixed W env.locals s.heap c := let ⟨_, hn, _⟩ := I.vars; ⟨cell_no_tab I.ok.ti hc, ns_ne_cell hn hc, fun its k q => cell_ne_list hc q rfl⟩
theorem Inv.setv (I : Inv W env T m lo F G α ρ s) {x : Str} {i : Nat} {val : Value} {v : V} (hx : T.vars.lookup x = some i) (hh : ∀ μ, Holds env s.heap μ x val) (r : Rel W F val v) : Inv W env T m lo F G α (ρ.set i (.val v)) s :=
  have hi : i < ρ.length := I.rl ▸ I.len x i hx
  { I with
    rl := List.length_set.trans I.rl
    vars := let ⟨μ, hn, hv⟩ := I.vars; ⟨μ, hn, fun y j hy => by
      by_cases hij : i = j
      · subst hij
        rw [at_set_self hi]
        exact ⟨val, I.inj x y i hx hy ▸ hh μ, r⟩
      · rw [at_set_ne hij]; exact hv y j hy⟩
    apart := fun y z j k ys zs hy hz hjk hj hk => by
      have ne : ∀ {j ys}, Rho.at (ρ.set i (.val v)) j = .own ys → i ≠ j := fun h q => by subst q; rw [at_set_self hi] at h; cases h
      have hj' := ne hj
      have hk' := ne hk
      rw [at_set_ne hj'] at hj
      rw [at_set_ne hk'] at hk
      exact I.apart y z j k ys zs hy hz hjk hj hk }
theorem Holds.cell {h : Heap} {μ : Str → Option Value} {x : Str} {c : Addr} {v : Value} (q : Holds env h μ x v) (hk : env.kindOf x = some .cell) (hc : env.cells.lookup x = some c) : h.IsCell c (some v) := by
  rcases q with ⟨q, _⟩ | ⟨_, c', h1, h2⟩
  · exact nomatch hk.symm.trans q
  · obtain rfl := Option.some.inj (hc.symm.trans h1); exact h2
theorem Inv.cellv (I : Inv W env T m lo F G α ρ s) {x : Str} {i : Nat} {c : Addr} {v : V} (hx : T.vars.lookup x = some i) (hk : env.kindOf x = some .cell) (hc : env.cells.lookup x = some c) (hρ : ρ.at i = .val v) : ∃ val, s.heap.IsCell c (some val) ∧ Rel W F val v := by
  obtain ⟨μ, hn, hv⟩ := I.vars
  have := hv x i hx
  rw [hρ] at this
  obtain ⟨val, q, r⟩ := this
  exact ⟨val, q.cell hk hc, r⟩
theorem Inv.cello (I : Inv W env T m lo F G α ρ s) {x : Str} {i : Nat} {xs : List V} (hx : T.vars.lookup x = some i) (hρ : ρ.at i = .own xs) : F (α i) = none ∧ G (α i) = none ∧ (∃ μ, s.heap.Ns env.locals μ ∧ Holds env s.heap μ x (.ref (α i))) ∧ ∃ items n, s.heap.get? (α i) = some (listObj items n) ∧ RelL W F items xs := by
  obtain ⟨μ, hn, hv⟩ := I.vars
  have := hv x i hx
  rw [hρ] at this
  obtain ⟨q, h1, h2, h3⟩ := this
  exact ⟨h1, h2, ⟨μ, hn, q⟩, h3⟩
theorem Run.same {F₀ : Frz} (r : Run G s F s' F') : Run G s F₀ s' F₀ := ⟨fun _ _ e => e, fun _ _ e => .inl e, r.os, r.gens, r.bare⟩
noncomputable def clsL (f : Str → Option Addr) : List (Str × NameKind) → List (Str × Addr) → Option (List (Str × Addr))
  | [], acc => some acc
  | (x, k) :: r, acc => if (k == .free) = true then (match f x with
    | some c => clsL f r ((x, c) :: acc)
    | none => none) else clsL f r acc
theorem clos_eq : ∀ (l : List (Str × NameKind)) (acc cs : List (Str × Addr)), clsL (fun x => env.cells.lookup x) l acc = some cs → (forIn l acc fun x r => do
    let (name, kind) := x
    if (kind == NameKind.free) = true then let a ← cellOf env name; pure (ForInStep.yield ((name, a) :: r)) else pure (ForInStep.yield r) : Sem (List (Str × Addr))) = pure cs
  | [], acc, cs, h => by rw [List.forIn_nil]; exact congrArg pure (Option.some.inj h)
  | (x, k) :: r, acc, cs, h => by
    rw [List.forIn_cons]
    unfold clsL at h
    by_cases hk : (k == .free) = true
    · rw [if_pos hk] at h
      split at h
      · rename_i c hc
        show ((if (k == .free) = true then _ else _) >>= _) = _
        rw [if_pos hk]
        have e : cellOf env x = pure c := by unfold cellOf; rw [hc]
        rw [e, pure_bind, pure_bind]
        exact clos_eq r _ cs h
      · cases h
    · rw [if_neg hk] at h
      show ((if (k == .free) = true then _ else _) >>= _) = _
      rw [if_neg hk, pure_bind]
      exact clos_eq r _ cs h
theorem closure_of {sc : Scope} {cs : List (Str × Addr)} (h : clsL (fun x => env.cells.lookup x) sc.names [] = some cs) : closureFor sc env = pure cs := by
  unfold closureFor
  refine (congrArg (· >>= pure) (clos_eq sc.names [] cs h)).trans ?_
  rw [pure_bind]
structure DefIn (tl : List TabS) (t : TabS) (fd : FuncData) (par : Arguments) (dpos : Pos) (iqual : Str) : Prop where
  ht : t ∈ tl
  code : fd.code = .ref t.c
  qual : fd.qualname ++ ".<locals>." ++ Str.ofString "inner" = iqual
  hq : (dpos, iqual) ∈ t.specs
  hqo : ∀ q ∈ t.specs, q ≠ (dpos, iqual) → ¬ (dpos.line = q.1.line ∧ dpos.col = q.1.col)
  hd0 : par.defaults = []
  hk0 : par.kw_defaults = []
  ha : ∀ env, annTrees par none env = []
theorem ex_inner {tl : List TabS} {t : TabS} {fd : FuncData} {par : Arguments} {dpos : Pos} {iqual : Str} {bd : List Stmt} {isc : Scope} {clos : List (Str × Addr)} {i : Nat} {x3 : Addr} {rest : List Stmt} {Q : Flow → Shared → Prop} (hw : WTab W tl) (D : DefIn tl t fd par dpos iqual) (I : Inv W env T m 0 F G α ρ s) (e : EnvOk env T)
    (ecode : env.code = fd.code) (equal : env.qual = fd.qualname ++ ".<locals>.") (hcl : closureFor isc env = pure clos) (hx : T.vars.lookup (Str.ofString "inner") = some i) (ki : env.kindOf (Str.ofString "inner") = some .cell) (ci : env.cells.lookup (Str.ofString "inner") = some x3) {cs : List Addr} (hcs : ∀ c ∈ cs, c ≠ x3 ∧ ∃ v, s.heap.IsCell c v)
    (q : ∀ s₂ F₂ a, Inv W env T m m F₂ G (setA α i 0) (ρ.set i .unset) s₂ → Run G s F s₂ F → FLe F F₂ → FnF F₂ (Str.ofString "inner") iqual par (.stmts bd) isc clos a → CellF F₂ x3 (.ref a) → (∀ c ∈ cs, ∀ v, s.heap.IsCell c (some v) → CellF F₂ c v) → wpAny (model W.prog W.w) A (execs rest env) Q noE s₂) :
    wpAny (model W.prog W.w) A (execs (.FunctionDef (Str.ofString "inner") par bd [] none [] isc none (Str.ofString "inner") dpos :: rest) env) Q noE s := by
  refine wpAny_execs_cons (nestDef_K D.hd0 D.hk0 (D.ha env) ?_)
  have hq : qualnameIn env (Str.ofString "inner") (Str.ofString "inner") = iqual := by
    unfold qualnameIn
    rw [ki, if_neg (by decide), equal]
    exact D.qual
  rw [hq]
  refine anyE (make_fn hw D.ht D.hq D.hqo hcl e.globals (ecode.trans D.code) I.ok I.fin) fun v s₁ ⟨a, c', ctv, doc, pm, hva, st₁, ha0, ha1, hat, hct, oc, cvs, tk, hc1, hc2, hc3⟩ => ?_
  subst hva
  have I₁ := I.step st₁
  obtain ⟨_, c0, w, hc0, hw0, hF0, hG0⟩ := (I₁.wr _ i hx (Nat.zero_le _)).resolve_left (by rw [ki]; nofun)
  obtain rfl : c0 = x3 := Option.some.inj (hc0.symm.trans ci)
  refine st_cell I₁ e hx ki ci hw0 hF0 hG0 (.un (b := 0)) fun h' I₂ hc' hsb => ?_
  show wpAny _ A (execs rest env) _ _ _
  have cellk : ∀ {c v}, s.heap.IsCell c v → c ≠ c0 → h'.IsCell c v := fun ⟨o, e1, e2⟩ hne => ⟨o, hsb.extBut _ o hne (st₁.keep _ o (cell_no_tab I.ok.ti ⟨o, e1, e2⟩) (fun h => h) e1), e2⟩
  obtain ⟨μ₁, hn₁, _⟩ := I₁.vars
  obtain ⟨oL, hL⟩ : ∃ o, s.heap.get? env.locals = some o := let ⟨_, ⟨o, _, _, e, _⟩, _⟩ := I.vars; ⟨o, e⟩
  have haL : a ≠ env.locals := fun q => nomatch (q ▸ ha0).symm.trans hL
  have ha3 : a ≠ c0 := fun q => let ⟨o, ho⟩ := I.clive _ c0 ci; nomatch (q ▸ ha0).symm.trans ho
  have hc'3 : c' ≠ c0 := fun q => nr_cell hw0 _ (q ▸ hc1) _ hc2
  have hc'L : c' ≠ env.locals := fun q => nr_ns hn₁ _ (q ▸ hc1) _ hc2
  have ha2 := hsb.extBut _ _ ha3 ha1
  have hc2' := hsb.extBut _ _ hc'3 hc1
  have fix : ∀ b ∈ a :: c' :: c0 :: cs, Fixed W env.locals h' b := allm ⟨hat, haL, fun its k q => nomatch (show Data.func _ = Data.seq _ _ from congrArg Obj.data (Option.some.inj (ha2.symm.trans q)))⟩ (allm ⟨hct, hc'L, fun its k q => by rw [hc2'] at q; cases q; cases hc2⟩
    (allm (I₂.fixCell hc') fun c hc => let ⟨h1, v, h2⟩ := hcs c hc; I₂.fixCell (cellk h2 h1)))
  have mem : ∀ {b o}, b ∈ a :: c' :: c0 :: cs → h'.get? b = some o → F.also h' (a :: c' :: c0 :: cs) b = some o := fun hb e => (also_of hb).trans e
  exact q { s₁ with heap := h' } _ a (I₂.also fix) ((Run.of_step I.gin st₁).same.trans Run.heap) (also_le I₂.fin) ⟨c', ctv, doc, pm, mem List.mem_cons_self ha2, oc, cvs, tk, mem (List.mem_cons_of_mem _ List.mem_cons_self) hc2', hc2, hc3⟩
    (let ⟨o, e1, e2⟩ := hc'; ⟨o, mem (List.mem_cons_of_mem _ (List.mem_cons_of_mem _ List.mem_cons_self)) e1, e2⟩) fun c hc v hv => let ⟨o, e1, e2⟩ := cellk hv (hcs c hc).1; ⟨o, mem (List.mem_cons_of_mem _ (List.mem_cons_of_mem _ (List.mem_cons_of_mem _ hc))) e1, e2⟩
end
end Mine
namespace Mine
open PySem PySem.W PySem.W.X PyProof.Rows PySem.Calls
noncomputable def dnm : Str := Str.ofString "_digits2int"
inductive DOut : Prop
  | mk (ex : Expr) (rp : Pos) (h : fb dnm = [.FunctionDef (Str.ofString "inner") (iPar dnm 0) (iB dnm 0) [] none [] (iSc dnm 0) none (Str.ofString "inner") (iPos dnm 0), .Return (some ex) rp])
    (s : ∀ {W : Wd} {C : Cx} {d : Nat}, CfgOk cfg2 W C d → SndE W C d (tabOf (fsc dnm).names) 3 ex (xIte (xVar 0) (xCallv 2 [xInt 0, xBi biLen [xVar 0]]) (xInt 0)))
theorem d_out : DOut := ⟨_, _, rfl, fun cf => Rs.of (o := mkE cf 40 (tabOf (fsc dnm).names) 3 _) rfl⟩
theorem d2i_end {C : Cx} {ds : List Int} {n N : Nat} {K : V → Prop} (hC : ∀ cs vs K, D2IC N cs vs K → C.clo 0 cs vs K) (hN : 1000001 ≤ N) (hf : FigsOk n ds) (hl : ds.length ≤ 1000001) (hn : n ≤ 1000000) (hm : n * ds.length ≤ 4000000) (k : K (.int (ofD n ds))) :
    (xIte (xVar 0) (xCallv 2 [xInt 0, xBi biLen [xVar 0]]) (xInt 0)).E C [.val (.list (ds.map V.int)), .val (.int n), .val (.fn 0 [.list (ds.map V.int), .int n])] K := by
  have hs : Side ((ds.map V.int).length ≤ strMax) := ⟨by rw [List.length_map]; exact Nat.le_trans hl (show 1000001 ≤ 16000000 by decide)⟩
  refine ⟨hs, ?_⟩
  cases ds with
  | nil => exact br_f k
  | cons x r => exact br_t ⟨hs, hC _ _ _ ⟨x :: r, n, 0, (x :: r).length, rfl, by rw [List.length_map]; rfl, Nat.succ_pos _, Nat.le_refl _, Nat.le_trans hl hN, hf, hl, hn, hm, by rw [List.take_length, List.drop_zero]; exact k⟩⟩
section
variable {W : Wd} {F G : Frz} {s : Shared} {env : Env} {sc : Scope}
theorem kind_of {x : Str} {k : NameKind} (h : env.scope = sc) (q : sc.names.lookup x = some k) : env.kindOf x = some k := by
  subst h; exact q
theorem cell_of {x : Str} {c : Addr} {l : List (Str × NameKind)} (h : env.cells = cellsFrom (env.locals + 1) l []) (q : (cellsFrom (env.locals + 1) l []).lookup x = some c) : env.cells.lookup x = some c := by
  rw [h]; exact q
variable {d : Nat} {C : Cx} {tl : List TabS} {t : TabS} {qual : Str} {fd : FuncData} {a₀ : Addr} {o₀ : Obj} {N : Nat}
theorem d2i_call (hw : WTab W tl) (D : DefIn tl t fd (iPar dnm 0) (iPos dnm 0) qual) (hfo : ∀ xs F a, W.fo 0 xs F a ↔ FoD0 qual (iPar dnm 0) (iB dnm 0) (iSc dnm 0) xs F a) (cf : CfgOk cfg2 W C d) (hN : 1000001 ≤ N) (hC : ∀ cs vs K, D2IC N cs vs K → C.clo 0 cs vs K)
    (h : FnIs W a₀ [Str.ofString "digits", Str.ofString "n"] (fb dnm) (fsc dnm) fd o₀) : CallAt W (d + 1) a₀ fun vs K => vs.length = 2 ∧ D2I vs K :=
  call_in h rfl fun env F G s A vs K Q B ⟨ds, n, hvs, hfig, hlen, hn, hnl, hk⟩ k => by
    subst hvs
    obtain ⟨ex, rp, hb, sn⟩ := d_out
    have S := sn cf
    have I : Inv W env (tabOf (fsc dnm).names) 3 0 F G (fun _ => 0) [.val (.list (ds.map V.int)), .val (.int n), .unset] s := B.inv
    have kd : env.kindOf (Str.ofString "digits") = some .cell := kind_of B.esc rfl
    have kn : env.kindOf (Str.ofString "n") = some .cell := kind_of B.esc rfl
    have ki : env.kindOf (Str.ofString "inner") = some .cell := kind_of B.esc rfl
    have cd : env.cells.lookup (Str.ofString "digits") = some (env.locals + 1) := cell_of B.cells rfl
    have cn : env.cells.lookup (Str.ofString "n") = some (env.locals + 1 + 1) := cell_of B.cells rfl
    have ci : env.cells.lookup (Str.ofString "inner") = some (env.locals + 1 + 1 + 1) := cell_of B.cells rfl
    obtain ⟨_, hd1, Da, items, kk, rfl, hDF, rits⟩ := I.cellv (i := 0) rfl kd cd rfl
    obtain ⟨_, hn1, tn, rfl⟩ := I.cellv (i := 1) rfl kn cn rfl
    have n12 : env.locals + 1 ≠ env.locals + 1 + 1 := Nat.ne_of_lt (Nat.lt_succ_self _)
    have n23 : env.locals + 1 + 1 ≠ env.locals + 1 + 1 + 1 := Nat.ne_of_lt (Nat.lt_succ_self _)
    have n13 : env.locals + 1 ≠ env.locals + 1 + 1 + 1 := Nat.ne_of_lt (Nat.lt_succ_of_lt (Nat.lt_succ_self _))
    rw [hb]
    refine ex_inner hw D I B.en B.code B.qual (clos := [(Str.ofString "n", env.locals + 1 + 1), (Str.ofString "inner", env.locals + 1 + 1 + 1), (Str.ofString "digits", env.locals + 1)]) (closure_of (by rw [B.cells]; rfl)) (i := 2) rfl ki ci (cs := [env.locals + 1, env.locals + 1 + 1]) (allm ⟨n13, _, hd1⟩ (allm ⟨n23, _, hn1⟩ alln))
      fun s₂ F₂ a I₂ rn le hfn hci hcs => ?_
    have Z : FoD (Str.ofString "digits") qual (iPar dnm 0) (iB dnm 0) (iSc dnm 0) F₂ a n (env.locals + 1) (env.locals + 1 + 1) (env.locals + 1 + 1 + 1) Da tn := ⟨hfn, hcs _ List.mem_cons_self _ hd1, hcs _ (List.mem_cons_of_mem _ List.mem_cons_self) _ hn1, hci, n23, Ne.symm n12, Ne.symm n13⟩
    have I₃ : Inv W env (tabOf (fsc dnm).names) 3 3 F₂ G _ [.val (.list (ds.map V.int)), .val (.int n), .val (.fn 0 [.list (ds.map V.int), .int n])] s₂ := I₂.setv (x := Str.ofString "inner") (i := 2) rfl (fun μ => .inr ⟨.inl ki, _, ci, hci.is I₂.fin⟩) (.fn ((hfo _ _ _).mpr ⟨ds, n, _, _, _, Da, items, kk, tn, rfl, Z, le _ _ hDF, fun W' F' => rits.ints⟩))
    refine wpAny_execs_cons (wpAny_Return_some (S.v env F₂ _ s₂ A (fun x => x = .int (ofD n ds)) _ ⟨3, _, _, I₃, B.en, B.room⟩ (d2i_end hC hN hfig hlen hn hnl rfl) fun v s₃ F₃ x st₃ rr hx => ?_))
    subst hx
    have I₄ := I₃.step st₃
    exact k F s₃ v (.int (ofD n ds)) (rn.trans (Run.of_step I₃.gin st₃).same) I₄.ok ⟨fun b o e => I₄.fin.is _ _ (st₃.le _ _ (le _ _ e)), I.fin.tab⟩ I₄.gin (show ∃ t, v = .int (ofD n ds) t from rr) hk
end
end Mine
namespace Mine
open PySem
noncomputable def dg (x : Int) (n k : Nat) : Int := x / 2 ^ (n * k) % 2 ^ n
noncomputable def digs (x : Int) (n m : Nat) : List Int := (List.range m).map (dg x n)
theorem dg_low (x : Int) (n m k : Nat) (h : k < m) : dg (x % 2 ^ (m * n)) n k = dg x n k := by
  unfold dg
  obtain ⟨j, rfl⟩ := Nat.exists_eq_add_of_lt h
  have e1 : (k + j + 1) * n = n * k + (n * j + n) := by rw [Nat.mul_comm, Nat.mul_succ, Nat.mul_add, Nat.add_assoc]
  have d := de x (2 ^ ((k + j + 1) * n))
  generalize hq : x / 2 ^ ((k + j + 1) * n) = q at d
  generalize hr : x % 2 ^ ((k + j + 1) * n) = r at d ⊢
  have e2 : x / 2 ^ (n * k) = r / 2 ^ (n * k) + q * 2 ^ (n * j) * 2 ^ n := by
    have : q * (2 ^ (n * k) * (2 ^ (n * j) * 2 ^ n)) + r = r + (q * 2 ^ (n * j) * 2 ^ n) * 2 ^ (n * k) := by
      rw [Int.add_comm, Int.mul_comm (2 ^ (n * k)), ← Int.mul_assoc, ← Int.mul_assoc]
    rw [d, e1, Int.pow_add, Int.pow_add, this, Int.add_mul_ediv_right _ _ (Int.ne_of_gt (two_pos _))]
  rw [e2, Int.add_mul_emod_self_right]
theorem dg_high (x : Int) (n m k : Nat) : dg (x / 2 ^ (m * n)) n k = dg x n (m + k) := by
  unfold dg
  rw [Int.ediv_ediv_of_nonneg (Int.le_of_lt (two_pos _)), ← Int.pow_add, Nat.mul_add, Nat.mul_comm m]
theorem dg_zero {x : Int} {n : Nat} (h0 : 0 ≤ x) (h : x < 2 ^ n) : dg x n 0 = x := by
  unfold dg
  rw [Nat.mul_zero, Int.pow_zero, Int.ediv_one, Int.emod_eq_of_lt h0 h]
theorem digs_add (x : Int) (n m m' : Nat) : digs x n (m + m') = digs (x % 2 ^ (m * n)) n m ++ digs (x / 2 ^ (m * n)) n m' := by
  unfold digs
  rw [List.range_add, List.map_append, List.map_map]
  congr 1
  · exact List.map_congr_left fun k hk => (dg_low x n m k (List.mem_range.mp hk)).symm
  · exact List.map_congr_left fun k _ => (dg_high x n m k).symm
theorem digs_one {x : Int} {n : Nat} (h0 : 0 ≤ x) (h : x < 2 ^ n) : digs x n 1 = [x] := by
  show [dg x n 0] = _
  rw [dg_zero h0 h]
theorem digs_len (x : Int) (n m : Nat) : (digs x n m).length = m := by unfold digs; rw [List.length_map, List.length_range]
theorem ofD_digs (n : Nat) : ∀ (m : Nat) (x : Int), 0 ≤ x → x < 2 ^ (n * m) → ofD n (digs x n m) = x
  | 0, x, h0, h => by
    rw [Nat.mul_zero, Int.pow_zero] at h
    have : x = 0 := by lia
    subst this; rfl
  | m + 1, x, h0, h => by
    have e : digs x n (m + 1) = digs (x % 2 ^ (1 * n)) n 1 ++ digs (x / 2 ^ (1 * n)) n m := by rw [Nat.add_comm, digs_add]
    rw [Nat.one_mul] at e
    have hp := two_pos n
    rw [e, digs_one (Int.emod_nonneg _ (Int.ne_of_gt hp)) (Int.emod_lt_of_pos _ hp)]
    show x % 2 ^ n + 2 ^ n * ofD n (digs (x / 2 ^ n) n m) = x
    rw [ofD_digs n m (x / 2 ^ n) (Int.ediv_nonneg h0 (Int.le_of_lt hp)) (div_small hp (by rw [← Int.pow_add, Nat.add_comm, ← Nat.mul_succ]; exact h))]
    exact Int.emod_add_mul_ediv x (2 ^ n)
theorem digs_figs (x : Int) (n m : Nat) : FigsOk n (digs x n m) := fun d hd => by
  obtain ⟨k, _, rfl⟩ := List.mem_map.mp hd
  exact ⟨Int.emod_nonneg _ (Int.ne_of_gt (two_pos n)), Int.emod_lt_of_pos _ (two_pos n)⟩
structure FigN (a : Int) (n m : Nat) : Prop where
  isD : IsD n a (digs a n m)
  le : m ≤ bitLen a
  mn : m * n ≤ bitLen a + n
  lt : a < 2 ^ (m * n)
  z : a = 0 → m = 0
theorem figN {a : Int} {n : Nat} (h0 : 0 ≤ a) (hn : 0 < n) : FigN a n ((bitLen a + n - 1) / n) := by
  have hz : a = 0 → (bitLen a + n - 1) / n = 0 := fun h => by
    have : bitLen a = 0 := by rw [h]; rfl
    rw [this, Nat.zero_add]; exact Nat.div_eq_of_lt (Nat.sub_lt hn Nat.one_pos)
  have hdm := Nat.div_add_mod (bitLen a + n - 1) n
  have hml := Nat.mod_lt (bitLen a + n - 1) hn
  generalize (bitLen a + n - 1) / n = m at hdm hz ⊢
  generalize (bitLen a + n - 1) % n = r at hdm hml
  have h1 : bitLen a ≤ n * m := by lia
  have h2 : a < 2 ^ (n * m) := (bitLen_le h0).mp h1
  have hlen : m ≤ bitLen a := by
    cases m with
    | zero => exact Nat.zero_le _
    | succ m =>
      have : m ≤ n * m := Nat.le_mul_of_pos_left m hn
      rw [Nat.mul_succ] at hdm
      lia
  refine ⟨⟨digs_figs a n m, ofD_digs n m a h0 h2, ?_⟩, hlen, by rw [Nat.mul_comm]; lia, by rw [Nat.mul_comm]; exact h2, hz⟩
  cases m with
  | zero => nofun
  | succ m =>
    have hlast : (digs a n (m + 1)).getLast? = some (dg a n m) := by
      unfold digs
      rw [List.range_succ, List.map_append, List.map_singleton, List.getLast?_append]; rfl
    rw [hlast]
    intro q
    have q' : dg a n m = 0 := Option.some.inj q
    unfold dg at q'
    have hp := two_pos (n * m)
    have h3 : ¬ bitLen a ≤ n * m := by rw [Nat.mul_succ] at hdm; lia
    have h4 : 2 ^ (n * m) ≤ a := Int.not_lt.mp fun h => h3 ((bitLen_le h0).mpr h)
    have h5 : a / 2 ^ (n * m) < 2 ^ n := div_small hp (by rw [← Int.pow_add, ← Nat.mul_succ]; exact h2)
    have h6 : 1 ≤ a / 2 ^ (n * m) := by rw [Int.le_ediv_iff_mul_le hp, Int.one_mul]; exact h4
    rw [Int.emod_eq_of_lt (Int.le_trans (by decide) h6) h5] at q'
    rw [q'] at h6
    exact absurd h6 (by decide)
structure IArg (N n : Nat) (x : Int) (L R m : Nat) : Prop where
  lt : L < R
  le : R ≤ m
  sz : R - L ≤ N
  x0 : 0 ≤ x
  x1 : x < 2 ^ ((R - L) * n)
  n1 : n ≤ 1000000
  m1 : m ≤ 1000001
  mn : m * n ≤ 4000000
structure IHalf (N n : Nat) (x : Int) (L M R m : Nat) : Prop where
  hM : (L + R) / 2 = M
  lm : L < M
  mr : M < R
  lo : IArg N n (x % 2 ^ ((M - L) * n)) L M m
  hi : IArg N n (x / 2 ^ ((M - L) * n)) M R m
  fit : ShlFit (x / 2 ^ ((M - L) * n)) (((M - L) * n : Nat) : Int)
theorem cut_sub {L M R : Nat} (h1 : L ≤ M) (h2 : M ≤ R) : (M - L) + (R - M) = R - L := (Nat.add_comm _ _).trans (Nat.sub_add_sub_cancel h2 h1)
theorem IArg.half {N n : Nat} {x : Int} {L R m : Nat} (h : IArg (max 1 (2 * N)) n x L R m) (hne : ¬ L + 1 = R) : ∃ M, IHalf N n x L M R m := by
  obtain ⟨M, hM, h1, h2, h3, h4⟩ := halves h.lt h.sz hne
  have hp := two_pos ((M - L) * n)
  have hs0 : (M - L) * n + (R - M) * n = (R - L) * n := by rw [← Nat.add_mul, cut_sub (Nat.le_of_lt h1) (Nat.le_of_lt h2)]
  have hx1 : x < 2 ^ ((M - L) * n) * 2 ^ ((R - M) * n) := by rw [← Int.pow_add, hs0]; exact h.x1
  have u0 : 0 ≤ x / 2 ^ ((M - L) * n) := Int.ediv_nonneg h.x0 (Int.le_of_lt hp)
  have u1 := div_small hp hx1
  have hsn : (R - L) * n ≤ 4000000 := Nat.le_trans (Nat.mul_le_mul_right _ (Nat.le_trans (Nat.sub_le _ _) h.le)) h.mn
  exact ⟨M, hM, h1, h2, ⟨h1, Nat.le_trans (Nat.le_of_lt h2) h.le, h4, Int.emod_nonneg x (Int.ne_of_gt hp), Int.emod_lt_of_pos x hp, h.n1, h.m1, h.mn⟩, ⟨h2, h.le, h3, u0, u1, h.n1, h.m1, h.mn⟩, Int.natCast_nonneg _, _, natAbs_lt u0 u1, (show (((R - M) * n + (M - L) * n : Nat) : Int) ≤ ((134000000 : Nat) : Int) from Int.ofNat_le.mpr (Nat.le_trans (Nat.le_of_eq ((Nat.add_comm _ _).trans hs0)) (Nat.le_trans hsn (by decide))))⟩
noncomputable def put (is : List Int) (x : Int) (n L R : Nat) : List Int := is.take L ++ digs x n (R - L) ++ is.drop R
theorem put_len {is : List Int} {x : Int} {n L R : Nat} (h1 : L ≤ R) (h2 : R ≤ is.length) : (put is x n L R).length = is.length := by
  unfold put
  rw [List.length_append, List.length_append, List.length_take, digs_len, List.length_drop, Nat.min_eq_left (Nat.le_trans h1 h2), Nat.add_sub_cancel' h1, Nat.add_sub_cancel' h2]
theorem put_one {is : List Int} {x : Int} {n L : Nat} (h0 : 0 ≤ x) (h1 : x < 2 ^ n) (h2 : L < is.length) : put is x n L (L + 1) = is.set L x := by
  unfold put
  rw [Nat.add_sub_cancel_left, digs_one h0 h1, List.set_eq_take_append_cons_drop, if_pos h2, List.append_assoc]; rfl
theorem put_put {is : List Int} {x : Int} {n L M R : Nat} (h1 : L ≤ M) (h2 : M ≤ R) (h3 : R ≤ is.length) : put (put is (x % 2 ^ ((M - L) * n)) n L M) (x / 2 ^ ((M - L) * n)) n M R = put is x n L R := by
  unfold put
  have hl : (is.take L ++ digs (x % 2 ^ ((M - L) * n)) n (M - L)).length = M := by rw [List.length_append, List.length_take, digs_len, Nat.min_eq_left (Nat.le_trans h1 (Nat.le_trans h2 h3)), Nat.add_sub_cancel' h1]
  have e : R - L = (M - L) + (R - M) := (cut_sub h1 h2).symm
  rw [List.take_append_of_le_length (Nat.le_of_eq hl.symm), List.take_of_length_le (Nat.le_of_eq hl), List.drop_append, List.drop_of_length_le (hl.symm ▸ h2), hl, List.nil_append, List.drop_drop, Nat.add_sub_cancel' h2, e, digs_add, List.append_assoc, List.append_assoc, List.append_assoc, List.append_assoc]
end Mine
namespace Mine
open PySem PySem.W PySem.W.X PyProof.Rows PySem.Calls
noncomputable def inm : Str := Str.ofString "_int2digits"
noncomputable def iT : Tab := ⟨[(Str.ofString "a_digits", 0), (Str.ofString "inner", 1), (Str.ofString "n", 2), (Str.ofString "x", 3), (Str.ofString "L", 4), (Str.ofString "R", 5), (Str.ofString "mid", 6), (Str.ofString "shift", 7), (Str.ofString "upper", 8), (Str.ofString "lower", 9)], [], [Str.ofString "a_digits", Str.ofString "inner", Str.ofString "n"]⟩
section
variable (W : Wd) (C : Cx) (d : Nat) (t1 e2 e3 e4 e5 : Expr) (l1 l2 : List Expr)
structure ISnd : Prop where
  t1 : SndE W C d iT 10 t1 (xBin cEq (xBin bAdd (xVar 4) (xInt 1)) (xVar 5))
  e2 : SndE W C d iT 10 e2 (xBin bShr (xBin bAdd (xVar 4) (xVar 5)) (xInt 1))
  e3 : SndE W C d iT 10 e3 (xBin bMul (xBin bSub (xVar 6) (xVar 4)) (xVar 2))
  e4 : SndE W C d iT 10 e4 (xBin bShr (xVar 3) (xVar 7))
  e5 : SndE W C d iT 10 e5 (xBin bXor (xVar 3) (xBin bShl (xVar 8) (xVar 7)))
  l1 : SndL W C d iT 10 l1 [xVar 9, xVar 4, xVar 6]
  l2 : SndL W C d iT 10 l2 [xVar 8, xVar 6, xVar 5]
end
inductive IShape : Prop
  | mk (t1 e2 e3 e4 e5 : Expr) (l1 l2 : List Expr) (r1 r2 r3 r4 r5 r6 r7 r8 r9 p1 p2 p3 p4 p5 p6 p7 p8 p9 p10 p11 p12 : Pos) (h : iB inm 1 = [.If t1 [.Assign [.Subscript (.Name (Str.ofString "a_digits") r1) (.Name (Str.ofString "L") r2) r3] (.Name (Str.ofString "x") r4) r5, .Return none r6] [] r7,
    .Assign [.Name (Str.ofString "mid") p1] e2 p2, .Assign [.Name (Str.ofString "shift") p3] e3 p4, .Assign [.Name (Str.ofString "upper") p5] e4 p6, .Assign [.Name (Str.ofString "lower") p7] e5 p8,
    .Expr (.Call (.Name (Str.ofString "inner") r8) l1 [] p9) p10, .Expr (.Call (.Name (Str.ofString "inner") r9) l2 [] p11) p12])
    (s2 : NoSwap e2) (s3 : NoSwap e3) (s4 : NoSwap e4) (s5 : NoSwap e5) (s : ∀ {W : Wd} {C : Cx} {d : Nat}, CfgOk cfg2 W C d → ISnd W C d t1 e2 e3 e4 e5 l1 l2)
theorem i_shape : IShape := ⟨_, _, _, _, _, _, _, _, _, _, _, _, _, _, _, _, _, _, _, _, _, _, _, _, _, _, _, _, rfl, fun _ _ _ => rfl, fun _ _ _ => rfl, fun _ _ _ => rfl, fun _ _ _ => rfl, fun cf =>
  ⟨Rs.of (o := mkE cf 40 iT 10 _) rfl, Rs.of (o := mkE cf 40 iT 10 _) rfl, Rs.of (o := mkE cf 40 iT 10 _) rfl, Rs.of (o := mkE cf 40 iT 10 _) rfl, Rs.of (o := mkE cf 40 iT 10 _) rfl, Rs.of (o := mkL (mkE cf 40) iT 10 _) rfl, Rs.of (o := mkL (mkE cf 40) iT 10 _) rfl⟩⟩
noncomputable def iNms : List (Str × NameKind) := [(Str.ofString "x", .local), (Str.ofString "L", .local), (Str.ofString "R", .local), (Str.ofString "mid", .local), (Str.ofString "shift", .local), (Str.ofString "upper", .local), (Str.ofString "lower", .local), (Str.ofString "a_digits", .free), (Str.ofString "inner", .free), (Str.ofString "n", .free)]
theorem i_sc : ScOk (iSc inm 1) := ⟨rfl, rfl, rfl⟩
theorem i_clos : CloSc iT 10 3 [Str.ofString "x", Str.ofString "L", Str.ofString "R"] iNms [Str.ofString "n", Str.ofString "inner", Str.ofString "a_digits"] := CloSc.of rfl
noncomputable def onlyX (D : Addr) : Excl := ⟨fun b => b = D, fun _ => False⟩
noncomputable def KI (W : Wd) (s : Shared) (F : Frz) (D : Addr) (is : List Int) (Q : Value → Shared → Prop) : Prop := ∀ s' items k, Step W (onlyX D) s F s' F → s'.heap.get? D = some (listObj items k) → RelL W F items (is.map V.int) → Q .none s'
noncomputable def InnerI (W : Wd) (d N : Nat) (qual : Str) : Prop := ∀ (A : Around) (s : Shared) (F : Frz) (a : Addr) (n : Nat) (x1 x2 x3 D : Addr) (tn : Tok) (items : List Value) (is : List Int) (k : Nat) (x : Int) (L R : Nat) (tx tL tR : Tok) (Q : Value → Shared → Prop),
  FoD (Str.ofString "a_digits") qual (iPar inm 1) (iB inm 1) (iSc inm 1) F a n x1 x2 x3 D tn → Room A d → OF W F s → F D = none → s.heap.get? D = some (listObj items k) → RelL W F items (is.map V.int) → IArg N n x L R is.length → KI W s F D (put is x n L R) Q →
  wpAny (model W.prog W.w) A (call (.ref a) [.int x tx, .int L tL, .int R tR]) Q noE s
section
variable {W : Wd} {env : Env} {T : Tab} {m lo : Nat} {F F' G : Frz} {α : Nat → Addr} {ρ ρ' : Rho} {s s' : Shared} {D : Addr}
theorem Inv.stepD {items items' : List Value} {k k' : Nat} (I : Inv W env T m lo F G α ρ s) (st : Step W (onlyX D) s F s' F) (hD : s.heap.get? D = some (listObj items k)) (hG : G D = none) (hl : s'.heap.get? D = some (listObj items' k')) (hρ : ρ'.length = ρ.length)
    (h : ∀ i, (ρ'.at i = ρ.at i ∧ ∀ xs, ρ.at i = .own xs → α i ≠ D) ∨ ∃ xs xs', ρ.at i = .own xs ∧ α i = D ∧ ρ'.at i = .own xs' ∧ RelL W F items' xs') : Inv W env T m lo F G α ρ' s' :=
  have kp : ∀ a o, a ∉ W.tabs → a ≠ D → s.heap.get? a = some o → s'.heap.get? a = some o := fun a o h1 h2 e => st.keep a o h1 h2 e
  have cellk : ∀ c v, s.heap.IsCell c v → s'.heap.IsCell c v := fun c v q => let ⟨o, e, d⟩ := id q; ⟨o, kp c o (cell_no_tab I.ok.ti q) (fun z => cell_ne_list q hD z.symm) e, d⟩
  have hold : ∀ μ x v, Holds env s.heap μ x v → Holds env s'.heap μ x v := fun μ x v q => q.imp id fun ⟨k, c, e, q⟩ => ⟨k, c, e, cellk c _ q⟩
  have own : ∀ i xs, ρ'.at i = .own xs → ∃ ys, ρ.at i = .own ys := fun i xs q => (h i).elim (fun z => ⟨xs, z.1 ▸ q⟩) fun ⟨ys, _, z, _⟩ => ⟨ys, z⟩
  { fb := I.fb
    ok := st.ok
    fin := st.fin
    gin := ⟨fun a o e => kp a o (fun q => nomatch (I.gin.tab a q).symm.trans e) (fun q => nomatch hG.symm.trans ((congrArg G q).symm.trans e)) (I.gin.is a o e), I.gin.tab⟩
    lf := I.lf
    lg := I.lg
    rl := hρ.trans I.rl
    len := I.len
    inj := I.inj
    cinj := I.cinj
    wr := fun x i e h => (I.wr x i e h).imp id fun ⟨k, c, v, e1, e2, e3⟩ => ⟨k, c, v, e1, cellk c v e2, e3⟩
    vars := let ⟨μ, hn, hv⟩ := I.vars; ⟨μ, hn.at fun o e => kp _ o (ns_no_tab I.ok.ti hn) (fun z => ns_ne_list hn hD z.symm) e, fun x i e => by
      rcases h i with ⟨h1, h2⟩ | ⟨xs, xs', h1, h2, h3, h4⟩
      · rw [h1]
        exact (hv x i e).keep rfl (fun _ _ e => e) (hold μ x) fun xs its n hs h5 h6 h7 => ⟨kp _ _ (list_no_tab I.ok.ti h7) (h2 xs hs) h7, h5, h6⟩
      · have := hv x i e
        rw [h1] at this
        obtain ⟨q1, q2, q3, _⟩ := this
        rw [h3]
        exact ⟨hold μ x _ q1, q2, q3, items', k', h2 ▸ hl, h4⟩⟩
    apart := fun x y i j xs ys hx hy hij hi hj => let ⟨_, hi'⟩ := own i xs hi; let ⟨_, hj'⟩ := own j ys hj; I.apart x y i j _ _ hx hy hij hi' hj'
    clive := fun x c e => by
      obtain ⟨o, hc⟩ := I.clive x c e
      by_cases hcD : c = D
      · exact ⟨_, hcD ▸ hl⟩
      · by_cases ht : c ∈ W.tabs
        · obtain ⟨vs, h⟩ := W.tiTab _ c st.ok.ti ht
          exact ⟨_, h⟩
        · exact ⟨o, kp c o ht hcD hc⟩ }
noncomputable def snapD (W : Wd) (h : Heap) (D : Addr) : Frz := fun b => by classical exact if b = D then none else snap W h b
theorem snapD_ne {h : Heap} {b : Addr} (hb : b ≠ D) : snapD W h D b = snap W h b := if_neg hb
theorem snapD_D {h : Heap} : snapD W h D D = none := if_pos rfl
theorem snapD_ok : FOk W (snapD W s.heap D) s.heap := ⟨fun a o e => by
  by_cases hb : a = D
  · subst hb; rw [snapD_D] at e; cases e
  · rw [snapD_ne hb] at e; exact snap_some e, fun a ha => none_of_not fun o e => by
  by_cases hb : a = D
  · subst hb; rw [snapD_D] at e; cases e
  · rw [snapD_ne hb] at e; exact snap_nt e ha⟩
theorem no_own (h : (ρ.all fun sl => !sl.isOwn) = true) (i : Nat) (xs : List V) : ρ.at i ≠ .own xs := fun q => by
  rw [at_get] at q
  cases e : ρ[i]? with
  | none => rw [e] at q; cases q
  | some sl =>
    rw [e] at q
    have := List.all_eq_true.mp h sl (List.mem_of_getElem? e)
    rw [show sl = .own xs from q] at this; cases this
inductive ISt (W : Wd) (env : Env) (s : Shared) (F : Frz) (D : Addr) (ρ : Rho) (is : List Int) (s' : Shared) : Prop
  | mk (F' : Frz) (α : Nat → Addr) (items : List Value) (k : Nat) (inv : Inv W env iT 10 3 F' (snapD W s.heap D) α ρ s') (run : Run (snapD W s.heap D) s F s' F') (hF : F' D = none) (hl : s'.heap.get? D = some (listObj items k)) (r : RelL W F' items (is.map V.int))
variable {d : Nat} {A : Around} {C : Cx} {is : List Int}
theorem ISt.done {s' : Shared} (h : ISt W env s F D ρ is s') (fin : FOk W F s.heap) (hF : F D = none) {Q : Value → Shared → Prop} (k : KI W s F D is Q) : Q .none s' := by
  obtain ⟨F', α, items, n, I, rn, _, hl, r⟩ := h
  have kp : ∀ b o, b ∉ W.tabs → b ≠ D → s.heap.get? b = some o → s'.heap.get? b = some o := fun b o ht hb e => I.gin.is _ _ ((snapD_ne hb).trans (snap_of ht e))
  exact k s' items n ⟨I.ok, ⟨fun b o e => kp b o (fun q => nomatch (fin.tab b q).symm.trans e) (fun q => nomatch hF.symm.trans ((congrArg F q).symm.trans e)) (fin.is _ _ e), fin.tab⟩, fun _ _ e => e, fun _ _ e => .inl e, fun b o ht hb e => kp b o ht hb e, rn.os, fun i g _ e => rn.gens i g e, rn.bare⟩ hl r.ints
theorem ISt.asg {y : Str} {i : Nat} {ex : Expr} {x : XD} {np pos : Pos} {rest : List Stmt} {Q : Flow → Shared → Prop} {val : Int} (h : ISt W env s F D ρ is s') (e : EnvOk env iT) (al : AllLoc env iT 3) (hDt : D ∉ W.tabs) (R : Room A d) (hy : iT.at y = some i) (hlo : 3 ≤ i) (hs : NoSwap ex) (hx : SndE W C d iT 10 ex x)
    (hk : x.E C ρ fun v => v = .int val) (q : ∀ s'', ISt W env s F D (ρ.set i (.val (.int val))) is s'' → wpAny (model W.prog W.w) A (execs rest env) Q noE s'') : wpAny (model W.prog W.w) A (execs (.Assign [.Name y np] ex pos :: rest) env) Q noE s' := by
  obtain ⟨F', α, items, n, I, rn, hF, hl, r⟩ := h
  obtain ⟨μ, hn, _⟩ := I.vars
  refine ex_assign (K := fun v => v = .int val) hy hlo hs (fun Q kn => hx.v env F' ρ s' A _ Q ⟨3, _, _, I, e, R⟩ hk kn) e I fun v s₂ F₂ α₂ hv I₂ rn₂ kp out => ?_
  subst hv
  exact q s₂ ⟨F₂, α₂, items, n, I₂, rn.trans rn₂, out D _ hl hF, kp al D _ hDt (ns_ne_list hn hl) hl, r.mono rn₂.le⟩
variable {N n : Nat} {qual : Str} {a x1 x2 x3 : Addr} {tn : Tok}
theorem ISt.cal {r q1 q2 : Pos} {l : List Expr} {xs : List XD} {vx : Int} {vL vR : Nat} {rest : List Stmt} {Q : Flow → Shared → Prop} (h : ISt W env s F D ρ is s') (e : EnvOk env iT) (R : Room A d) (hC : InnerI W d N qual) (Z : FoD (Str.ofString "a_digits") qual (iPar inm 1) (iB inm 1) (iSc inm 1) F a n x1 x2 x3 D tn)
    (kI : env.kindOf (Str.ofString "inner") = some .free) (cI : env.cells.lookup (Str.ofString "inner") = some x3) (hno : (ρ.all fun sl => !sl.isOwn) = true) (hl : SndL W C d iT 10 l xs) (hk : wpL C xs ρ fun z => z = [.int vx, .int vL, .int vR]) (ia : IArg N n vx vL vR is.length)
    (q : ∀ s'', ISt W env s F D ρ (put is vx n vL vR) s'' → wpAny (model W.prog W.w) A (execs rest env) Q noE s'') : wpAny (model W.prog W.w) A (execs (.Expr (.Call (.Name (Str.ofString "inner") r) l [] q1) q2 :: rest) env) Q noE s' := by
  obtain ⟨F', α, items, k, I, rn, hF, hD, rr⟩ := h
  obtain ⟨μ, hns, _⟩ := I.vars
  have Z₁ := Z.mono rn.le
  refine wpAny_execs_cons (wpAny_Expr (Call_ (wpAny_Name (load_holds e hns (.inr ⟨.inr kI, x3, cI, Z₁.ci.is I.fin⟩) rfl ?_) rfl) rfl) (not_inter e) rfl)
  obtain ⟨o, fd, ho, hd⟩ := Z₁.fn.obj
  refine callWith_function (o := o) (fd := fd) (evalArgs_any hl.st (hl.l env q1 F' ρ s' A _ _ ⟨3, _, _, I, e, R⟩ hk fun vs s₁ F₁ rs st₁ q₁ hz => ?_))
  subst hz
  obtain ⟨_, _, rfl, ⟨t1, rfl⟩, _, _, rfl, ⟨t2, rfl⟩, _, _, rfl, ⟨t3, rfl⟩, rfl⟩ := q₁
  have I₁ := I.step st₁
  have hD₁ := st₁.keep D _ (list_no_tab I.ok.ti hD) (fun h => h) hD
  have hF₁ := st₁.stays_out (fun h => h) hD hF
  refine ⟨⟨I₁.fin.is _ _ (st₁.le _ _ ho), hd⟩, hC A s₁ F₁ a n x1 x2 x3 D tn items is k vx vL vR _ _ _ _ (Z₁.mono st₁.le) R ⟨I₁.ok, I₁.fin, I₁.fb⟩ hF₁ hD₁ (rr.mono st₁.le) ia fun s₂ its k₂ st₂ hD₂ r₂ => ?_⟩
  exact q s₂ ⟨F₁, α, its, k₂, I₁.stepD st₂ hD₁ snapD_D hD₂ rfl fun i => .inl ⟨rfl, fun xs h => absurd h (no_own hno i xs)⟩, (rn.trans (Run.of_step I.gin st₁)).trans ⟨fun _ _ e => e, fun _ _ e => .inl e, st₂.os, fun i g e => st₂.gens i g (fun h => h) e, st₂.bare⟩, hF₁, hD₂, r₂⟩
end
end Mine
namespace Mine
open PySem PySem.W PySem.W.X PyProof.Rows PySem.Calls
section
variable {W : Wd} {env : Env} {F F' : Frz} {s s' : Shared} {D : Addr} {d : Nat} {A : Around} {is : List Int} {n : Nat} {qual : Str} {a x1 x2 x3 : Addr} {tn : Tok} {x : Int} {L : Nat} {R₀ : Nat}
theorem ISt.put1 {r1 r2 r3 r4 r5 : Pos} {rest : List Stmt} {Q : Flow → Shared → Prop} (h : ISt W env s F D [.unset, .unset, .val (.int n), .val (.int x), .val (.int L), .val (.int R₀), .unset, .unset, .unset, .unset] is s') (e : EnvOk env iT) (R : Room A d) (Z : FoD (Str.ofString "a_digits") qual (iPar inm 1) (iB inm 1) (iSc inm 1) F a n x1 x2 x3 D tn)
    (kD : env.kindOf (Str.ofString "a_digits") = some .free) (cD : env.cells.lookup (Str.ofString "a_digits") = some x1) (hL : L < is.length) (hm : is.length ≤ 1000001) (q : ∀ s'', ISt W env s F D [.unset, .unset, .val (.int n), .val (.int x), .val (.int L), .val (.int R₀), .unset, .unset, .unset, .unset] (is.set L x) s'' → wpAny (model W.prog W.w) A (execs rest env) Q noE s'') :
    wpAny (model W.prog W.w) A (execs (.Assign [.Subscript (.Name (Str.ofString "a_digits") r1) (.Name (Str.ofString "L") r2) r3] (.Name (Str.ofString "x") r4) r5 :: rest) env) Q noE s' := by
  obtain ⟨F', α, items, k, I, rn, hF, hD, rr⟩ := h
  have at' : At W d env iT 10 F' _ s' A := ⟨3, _, _, I, e, R⟩
  obtain ⟨μ, hns, _⟩ := I.vars
  have hxL : iT.at (Str.ofString "L") = some 4 := rfl
  have hxx : iT.at (Str.ofString "x") = some 3 := rfl
  have Z₁ := Z.mono rn.le
  have hlen := rr.length
  rw [List.length_map] at hlen
  refine wpAny_execs_cons (wpAny_Assign_Subscript (wpAny_Name (load_var (k := fun v => v = .int x) at' hxx rfl fun vx v1 rx h1 => ?_) (at_name hxx).2.1) rfl)
  subst h1
  refine wpAny_Name (load_holds e hns (.inr ⟨.inr kD, x1, cD, Z₁.cd.is I.fin⟩) rfl ?_) rfl
  refine wpAny_Name (load_var (k := fun v => v = .int L) at' hxL rfl fun vL v2 rL h2 => ?_) (at_name hxL).2.1
  subst h2
  obtain ⟨tx, rfl⟩ := rx
  obtain ⟨tL, rfl⟩ := rL
  refine set_raw hD (Int.natCast_nonneg _) (Int.lt_of_le_of_lt (Int.ofNat_le.mpr (Nat.le_trans (Nat.le_of_lt hL) hm)) (by decide)) (by rw [hlen]; exact Int.ofNat_lt.mpr hL) ?_
  obtain ⟨k', hup⟩ := upd_list (fun z => z.setIfInBounds (L : Int).toNat (Value.int x tx)) (items.set L (.int x tx)) (by rw [Int.toNat_natCast, List.setIfInBounds_toArray]) hD
  have hsb : Heap.SameBut D s'.heap (s'.heap.update D (Obj.mapSeq fun z => z.setIfInBounds (L : Int).toNat (Value.int x tx))) := Heap.SameBut.update ..
  have ok := mod_ok I.ok I.fb I.fin hF (nr_list hD) hsb
  have st : Step W (onlyX D) s' F' { s' with heap := s'.heap.update D (Obj.mapSeq fun z => z.setIfInBounds (L : Int).toNat (Value.int x tx)) } F' := ⟨ok.1, ok.2, fun _ _ e => e, fun _ _ e => .inl e, fun b o _ hb eb => hsb.extBut b o hb eb, rfl, fun _ _ _ e => e, fun e => e⟩
  have r' : RelL W F' (items.set L (.int x tx)) ((is.set L x).map V.int) := by rw [List.map_set]; exact rr.set L (.int x tx)
  exact q _ ⟨F', α, _, k', I.stepD st hD snapD_D hup rfl fun i => .inl ⟨rfl, fun xs h => absurd h (no_own rfl i xs)⟩, rn.trans ⟨fun _ _ e => e, fun _ _ e => .inl e, rfl, fun _ _ e => e, fun e => e⟩, hF, hup, r'⟩
variable {C : Cx} {N : Nat}
theorem inner_level (cf : CfgOk cfg2 W C d) (hC : InnerI W d N qual) : InnerI W (d + 1) (max 1 (2 * N)) qual := by
  intro A s F a n x1 x2 x3 D tn items is k x L Rr tx tL tR Q Z R of hFD hD hits ia kq
  obtain ⟨t1, e2, e3, e4, e5, l1, l2, r1, r2, r3, r4, r5, r6, r7, r8, r9, p1, p2, p3, p4, p5, p6, p7, p8, p9, p10, p11, p12, hb, s2, s3, s4, s5, sn⟩ := i_shape
  have S := sn cf
  have hDt := list_no_tab of.ok.ti hD
  obtain ⟨c', ctv, doc, pm, hfn, hcode⟩ := Z.fn
  refine enter_clo (T := iT) (m := 10) (lo := 3) (G := snapD W s.heap D) (ps := [Str.ofString "x", Str.ofString "L", Str.ofString "R"]) (vs := [.int x, .int L, .int Rr]) (ρf := [.unset, .unset, .val (.int n), .unset, .unset, .unset, .unset, .unset, .unset, .unset])
    (fd_of i_sc of.fin hfn hcode) i_clos ⟨Z.apart, Z.live of.fin, rfl, ?_⟩ rfl R of snapD_ok ⟨_, _, rfl, ⟨_, rfl⟩, _, _, rfl, ⟨_, rfl⟩, _, _, rfl, ⟨_, rfl⟩, rfl⟩ rfl (fun env s₁ e eS eC I kp rn R' => ?_)
  · exact allm (.inl rfl) (allm (.inl rfl) (allm (.inr ⟨rfl, x2, .int n, _, rfl, Z.cn.is of.fin, ⟨_, rfl⟩, rfl⟩) (allm (.inl rfl) (allm (.inl rfl) (allm (.inl rfl) (allm (.inl rfl) (allm (.inl rfl) (allm (.inl rfl) (allm (.inl rfl) alln)))))))))
  · have st : ISt W env s F D [.unset, .unset, .val (.int n), .val (.int x), .val (.int L), .val (.int Rr), .unset, .unset, .unset, .unset] is s₁ := ⟨F, _, items, k, I, rn, hFD, kp _ _ hD, hits⟩
    have kD : env.kindOf (Str.ofString "a_digits") = some .free := kind_of eS rfl
    have kI : env.kindOf (Str.ofString "inner") = some .free := kind_of eS rfl
    have cD : env.cells.lookup (Str.ofString "a_digits") = some x1 := by rw [eC]; rfl
    have cI : env.cells.lookup (Str.ofString "inner") = some x3 := by rw [eC]; rfl
    have al : AllLoc env iT 3 := fun y i hy hi => kind_of eS (i_clos.loc y i hy hi)
    rw [hb]
    refine wpAny_execs_cons (wpAny_If (S.t1.t env F _ s₁ _ (fun b => b = decide ((L : Int) + 1 = Rr)) _ ⟨3, _, _, I, e, R'⟩ rfl fun b s₂ F₂ st₂ hb => ?_))
    have st₂ : ISt W env s F D [.unset, .unset, .val (.int n), .val (.int x), .val (.int L), .val (.int Rr), .unset, .unset, .unset, .unset] is s₂ := ⟨F₂, _, items, k, I.step st₂, rn.trans (Run.of_step I.gin st₂), st₂.stays_out (fun h => h) (kp _ _ hD) hFD, st₂.keep D _ hDt (fun h => h) (kp _ _ hD), hits.mono st₂.le⟩
    cases b with
    | true =>
      obtain rfl : L + 1 = Rr := Int.ofNat.inj (show (L : Int) + 1 = Rr from of_decide_eq_true hb.symm)
      have hx1 := ia.x1
      rw [Nat.add_sub_cancel_left, Nat.one_mul] at hx1
      refine st₂.put1 e R' Z kD cD ia.le ia.m1 fun s₃ st₃ => wpAny_execs_cons (wpAny_Return_none ?_)
      rw [← put_one ia.x0 hx1 ia.le] at st₃
      exact st₃.done of.fin hFD kq
    | false =>
      have hne : ¬ (L : Int) + 1 = Rr := of_decide_eq_false hb.symm
      obtain ⟨M, H⟩ := ia.half fun q => hne (congrArg Int.ofNat q)
      have hlm := Nat.le_of_lt H.lm
      have hmr := Nat.le_of_lt H.mr
      refine wpAny_execs_nil ?_
      refine st₂.asg e al hDt R' (val := (M : Int)) (i := 6) rfl (by decide) s2 S.e2 ⟨⟨by decide⟩, by rw [mid_eq, H.hM]⟩ fun s₃ st₃ => ?_
      refine st₃.asg e al hDt R' (val := (((M - L) * n : Nat) : Int)) (i := 7) rfl (by decide) s3 S.e3 ⟨⟨shift_fit hlm (Nat.le_trans hmr ia.le) ia.m1 ia.n1⟩, by rw [shift_eq hlm]⟩ fun s₄ st₄ => ?_
      refine st₄.asg e al hDt R' (val := x / 2 ^ ((M - L) * n)) (i := 8) rfl (by decide) s4 S.e4 ⟨⟨Int.natCast_nonneg _⟩, by rw [Int.toNat_natCast, fdiv_pow]⟩ fun s₅ st₅ => ?_
      refine st₅.asg e al hDt R' (val := x % 2 ^ ((M - L) * n)) (i := 9) rfl (by decide) s5 S.e5 ⟨⟨H.fit⟩, congrArg V.int (by rw [Int.toNat_natCast, bitXor_low ia.x0])⟩ fun s₆ st₆ => ?_
      refine st₆.cal e R' hC Z kI cI rfl S.l1 rfl H.lo fun s₇ st₇ => ?_
      have hpl := put_len (x := x % 2 ^ ((M - L) * n)) (n := n) hlm (Nat.le_trans hmr ia.le)
      refine st₇.cal e R' hC Z kI cI rfl S.l2 rfl (hpl.symm ▸ H.hi) fun s₈ st₈ => wpAny_execs_nil ?_
      rw [put_put hlm hmr ia.le] at st₈
      exact st₈.done of.fin hFD kq
end
end Mine
namespace Mine
open PySem PySem.W PySem.W.X PyProof.Rows PySem.Calls
noncomputable def fRep (x y : XD) : LD := fun C ρ K => x.E C ρ fun a => y.E C ρ fun b => asList a fun xs => asInt b fun n => Side (RepFit xs.length n) ∧ K (rep xs n)
inductive IOut : Prop
  | mk (el er et : Expr) (l3 : List Expr) (p1 p2 p3 p4 p5 p6 p7 p8 p9 : Pos) (h : fb inm = [.Assign [.Name (Str.ofString "a_digits") p1] (.BinOp el .Mult er p2) p3, .FunctionDef (Str.ofString "inner") (iPar inm 1) (iB inm 1) [] none [] (iSc inm 1) none (Str.ofString "inner") (iPos inm 1),
      .If et [.Expr (.Call (.Name (Str.ofString "inner") p4) l3 [] p5) p6] [] p7, .Return (some (.Name (Str.ofString "a_digits") p8)) p9])
    (s : ∀ {W : Wd} {C : Cx} {d : Nat}, CfgOk cfg2 W C d → SndE W C d (tabOf (fsc inm).names) 4 el (xList [xInt 0]) ∧ SndE W C d (tabOf (fsc inm).names) 4 er (xBin bDiv (xBin bSub (xBin bAdd (xMeth mBitlen (xVar 0) []) (xVar 1)) (xInt 1)) (xVar 1)) ∧ SndE W C d (tabOf (fsc inm).names) 4 et (xVar 0) ∧ SndL W C d (tabOf (fsc inm).names) 4 l3 [xVar 0, xInt 0, xBi biLen [xVar 2]])
theorem i_out : IOut := ⟨_, _, _, _, _, _, _, _, _, _, _, _, _, rfl, fun cf => ⟨Rs.of (o := mkE cf 40 (tabOf (fsc inm).names) 4 _) rfl, Rs.of (o := mkE cf 40 (tabOf (fsc inm).names) 4 _) rfl, Rs.of (o := mkE cf 40 (tabOf (fsc inm).names) 4 _) rfl, Rs.of (o := mkL (mkE cf 40) (tabOf (fsc inm).names) 4 _) rfl⟩⟩
theorem rep_one {α : Type} (x : α) (m : Nat) : rep [x] (m : Int) = List.replicate m x := by
  unfold rep
  rw [Int.toNat_natCast]
  induction m with
  | zero => rfl
  | succ m ih => rw [List.replicate_succ, List.flatten_cons, ih, List.replicate_succ]; rfl
theorem i2d_init {C : Cx} {a : Int} {n : Nat} {s1 s2 : Slot} {K : List V → Prop} (h0 : bitLen a ≤ 1000000) (hn : 0 < n) (hn1 : n ≤ 1000000) (hm : (bitLen a + n - 1) / n ≤ bitLen a) (k : K (List.replicate ((bitLen a + n - 1) / n) (.int 0))) :
    fRep (xList [xInt 0]) (xBin bDiv (xBin bSub (xBin bAdd (xMeth mBitlen (xVar 0) []) (xVar 1)) (xInt 1)) (xVar 1)) C [.val (.int a), .val (.int n), s1, s2] K := by
  have e : ((bitLen a : Int) + n - 1).fdiv n = ((bitLen a + n - 1) / n : Nat) := by
    have : ((bitLen a : Int) + n - 1) = ((bitLen a + n - 1 : Nat) : Int) := by omega
    rw [Int.fdiv_eq_ediv_of_nonneg _ (Int.natCast_nonneg _), this]; rfl
  refine ⟨⟨show 1 ≤ 16000000 by decide⟩, ⟨rfl⟩, rfl, ⟨fun h => Nat.ne_of_gt hn (Int.ofNat.inj h), PyProof.noPylong_small (by omega)⟩, ?_⟩
  rw [e]
  have h16 : (bitLen a + n - 1) / n ≤ 1000000 := Nat.le_trans hm h0
  exact ⟨⟨Int.lt_of_le_of_lt (Int.ofNat_le.mpr h16) (by decide), Int.lt_of_lt_of_le (by decide) (Int.natCast_nonneg _), by rw [Int.toNat_natCast, show [V.int 0].length = 1 from rfl, Nat.one_mul]; exact Nat.le_trans h16 (show 1000000 ≤ 16000000 by decide)⟩, rep_one (V.int 0) _ ▸ k⟩
section
variable {W : Wd} {d : Nat} {F G : Frz} {s : Shared} {T : Tab} {m : Nat} {C : Cx}
theorem fr_rep {l r : Expr} {x y : XD} {pos : Pos} (hl : SndE W C d T m l x) (hr : SndE W C d T m r y) : OkFr W C d T m (.BinOp l .Mult r pos) (fRep x y) := fun env F ρ s A K Q a q k =>
  wpAny_BinOp (hl.v env F ρ s A _ _ a q fun v s₁ F₁ r₁ st₁ q₁ h₁ => hr.v env F₁ ρ s₁ A _ _ (a.step st₁) h₁ fun u s₂ F₂ r₂ st₂ q₂ h₂ =>
    asList_rel (G := fun v => wpAny (model W.prog W.w) A (binaryOp .Mult v u) Q noE s₂) h₂ (q₁.mono st₂.le) fun xs l1 i1 n1 e1 rr1 h₂ => asInt_rel (G := fun u => wpAny (model W.prog W.w) A (binaryOp .Mult (.ref l1) u) Q noE s₂) h₂ q₂ fun z t ⟨⟨hs⟩, hk⟩ =>
      mul_list_raw (st₂.fin.is _ _ e1) (rr1.length ▸ hs) (k.push a.of (st₁.trans st₂) (rr1.rep _) hk s₂.toks))
end
section
variable {W : Wd} {d : Nat} {F F₀ G : Frz} {s s₀ : Shared} {env : Env} {A : Around} {C : Cx} {tl : List TabS} {t : TabS} {qual : Str} {fd : FuncData} {a₀ : Addr} {o₀ : Obj} {N n : Nat} {α : Nat → Addr} {a : Int}
theorem i2d_ret {ds : List Int} {p8 p9 : Pos} {s3 : Slot} {K : V → Prop} {Q : Flow → Shared → Prop} (I : Inv W env (tabOf (fsc inm).names) 4 4 F G α [.val (.int a), .val (.int n), .own (ds.map V.int), s3] s) (e : EnvOk env (tabOf (fsc inm).names)) (rn : Run G s₀ F₀ s F₀) (le : FLe F₀ F) (lg : FLe F₀ G) (tab : ∀ b ∈ W.tabs, F₀ b = none) (hk : K (.list (ds.map V.int))) (k : Back W G s₀ F₀ K Q) :
    wpAny (model W.prog W.w) A (execs [.Return (some (.Name (Str.ofString "a_digits") p8)) p9] env) Q noE s := by
  obtain ⟨hF, hG, ⟨μ, hn, hh⟩, items, kk, hl, r⟩ := I.cello (x := Str.ofString "a_digits") (i := 2) rfl rfl
  have hF0 : F₀ (α 2) = none := none_of_not fun o q => nomatch hG.symm.trans (lg _ _ q)
  refine wpAny_execs_cons (wpAny_Return_some (wpAny_Name (load_holds e hn hh rfl ?_) rfl))
  refine k (F₀.put (α 2) (listObj items kk)) s _ (.list (ds.map V.int)) ⟨Frz.put_le hF0, fun b o q => ?_, rn.os, rn.gens, rn.bare⟩ I.ok ⟨fun b o q => ?_, fun b hb => ?_⟩ I.gin (.list (Frz.put_self ..) r.ints) hk
  · by_cases z : b = α 2
    · exact .inr (z ▸ hG)
    · unfold Frz.put at q; rw [if_neg z] at q; exact .inl q
  · by_cases z : b = α 2
    · subst z; rw [Frz.put_self] at q; cases q; exact hl
    · unfold Frz.put at q; rw [if_neg z] at q; exact I.fin.is _ _ (le _ _ q)
  · have hbD : b ≠ α 2 := fun z => list_no_tab I.ok.ti hl (z ▸ hb)
    unfold Frz.put; rw [if_neg hbD]; exact tab b hb
end
end Mine
namespace Mine
open PySem PySem.W PySem.W.X PyProof.Rows PySem.Calls
section
variable {W : Wd} {d : Nat} {F F₀ G : Frz} {s s₀ : Shared} {env : Env} {A : Around} {C : Cx} {tl : List TabS} {t : TabS} {qual : Str} {fd : FuncData} {a₀ : Addr} {o₀ : Obj} {N n : Nat} {α : Nat → Addr} {a : Int}
theorem map_rep (m : Nat) : List.replicate m (V.int 0) = (List.replicate m (0 : Int)).map V.int := List.map_replicate.symm
theorem i2d_tail {m : Nat} {et : Expr} {l3 : List Expr} {p4 p5 p6 p7 p8 p9 : Pos} {K : V → Prop} {Q : Flow → Shared → Prop} {fa x1 x2 x3 : Addr} {tn : Tok} (I : Inv W env (tabOf (fsc inm).names) 4 4 F G α [.val (.int a), .val (.int n), .own (List.replicate m (.int 0)), .unset] s) (e : EnvOk env (tabOf (fsc inm).names)) (R : Room A d)
    (St : SndE W C d (tabOf (fsc inm).names) 4 et (xVar 0)) (Sl : SndL W C d (tabOf (fsc inm).names) 4 l3 [xVar 0, xInt 0, xBi biLen [xVar 2]]) (hC : InnerI W d N qual) (Z : FoD (Str.ofString "a_digits") qual (iPar inm 1) (iB inm 1) (iSc inm 1) F fa n x1 x2 x3 (α 2) tn)
    (ki : env.kindOf (Str.ofString "inner") = some .cell) (ci : env.cells.lookup (Str.ofString "inner") = some x3) (rn : Run G s₀ F₀ s F₀) (le : FLe F₀ F) (lg : FLe F₀ G) (tab : ∀ b ∈ W.tabs, F₀ b = none)
    (hm : FigN a n m) (ha : 0 ≤ a) (hm1 : m ≤ 1000001) (hN : 1000001 ≤ N) (hn1 : n ≤ 1000000) (hmn : m * n ≤ 4000000) (hk : K (.list ((digs a n m).map V.int))) (k : Back W G s₀ F₀ K Q) :
    wpAny (model W.prog W.w) A (execs [.If et [.Expr (.Call (.Name (Str.ofString "inner") p4) l3 [] p5) p6] [] p7, .Return (some (.Name (Str.ofString "a_digits") p8)) p9] env) Q noE s := by
  obtain ⟨hF, hG, _, items, kk, hl, r⟩ := I.cello (x := Str.ofString "a_digits") (i := 2) rfl rfl
  have hlt := list_no_tab I.ok.ti hl
  refine wpAny_execs_cons (wpAny_If (St.t env F _ s A (fun b => b = decide (a ≠ 0)) _ ⟨4, _, _, I, e, R⟩ rfl fun b s₁ F₁ st₁ hb => ?_))
  have I₁ := I.step st₁
  have rn₁ := rn.trans (Run.of_step I.gin st₁).same
  have le₁ : FLe F₀ F₁ := fun b o q => st₁.le _ _ (le _ _ q)
  cases b with
  | false =>
    have ha0 : a = 0 := Decidable.not_not.mp (of_decide_eq_false hb.symm)
    have hm0 := hm.z ha0
    subst hm0
    exact wpAny_execs_nil (i2d_ret (ds := []) I₁ e rn₁ le₁ lg tab hk k)
  | true =>
    have hm0 : 0 < m := Nat.pos_of_ne_zero fun q => by
      have h1 := hm.lt
      rw [q, Nat.zero_mul] at h1
      exact of_decide_eq_true hb.symm (Int.le_antisymm (Int.le_of_lt_add_one h1) ha)
    obtain ⟨μ₁, hns₁, _⟩ := I₁.vars
    have Z₁ := Z.mono st₁.le
    obtain ⟨o, fd', ho, hd⟩ := Z₁.fn.obj
    have hs : Side ((List.replicate m (V.int 0)).length ≤ strMax) := ⟨by rw [List.length_replicate]; exact Nat.le_trans hm1 (show 1000001 ≤ 16000000 by decide)⟩
    refine wpAny_execs_cons (wpAny_Expr (Call_ (wpAny_Name (load_holds e hns₁ (.inr ⟨.inl ki, x3, ci, Z₁.ci.is I₁.fin⟩) rfl ?_) rfl) rfl) (not_inter e) rfl)
    refine callWith_function (o := o) (fd := fd') (evalArgs_any Sl.st (Sl.l env p5 F₁ _ s₁ A (fun z => z = [.int a, .int (0 : Nat), .int m]) _ ⟨4, _, _, I₁, e, R⟩ ⟨hs, by rw [List.length_replicate]; rfl⟩ fun vs s₂ F₂ rs st₂ q₂ hz => ?_))
    subst hz
    obtain ⟨_, _, rfl, ⟨t1, rfl⟩, _, _, rfl, ⟨t2, rfl⟩, _, _, rfl, ⟨t3, rfl⟩, rfl⟩ := q₂
    have I₂ := I₁.step st₂
    have hl₂ := st₂.keep _ _ hlt (fun h => h) (st₁.keep _ _ hlt (fun h => h) hl)
    have hF₂ := st₂.stays_out (fun h => h) (st₁.keep _ _ hlt (fun h => h) hl) (st₁.stays_out (fun h => h) hl hF)
    have ia : IArg N n a 0 m (List.replicate m (0 : Int)).length := by
      rw [List.length_replicate]
      exact ⟨hm0, Nat.le_refl _, Nat.le_trans hm1 hN, ha, hm.lt, hn1, hm1, hmn⟩
    refine ⟨⟨I₂.fin.is _ _ (st₂.le _ _ ho), hd⟩, hC A s₂ F₂ fa n x1 x2 x3 (α 2) tn items _ kk a 0 m _ _ _ _ (Z₁.mono st₂.le) R ⟨I₂.ok, I₂.fin, I₂.fb⟩ hF₂ hl₂ ((map_rep m ▸ r).mono fun b o q => st₂.le _ _ (st₁.le _ _ q)) ia fun s₃ its k₃ st₃ hl₃ r₃ => ?_⟩
    show wpAny _ A (execs [] env) _ _ s₃
    have e7 : put (List.replicate m (0 : Int)) a n 0 m = digs a n m := by
      unfold put
      rw [List.take_zero, List.nil_append, Nat.sub_zero, List.drop_of_length_le (Nat.le_of_eq List.length_replicate), List.append_nil]
    rw [e7] at r₃
    have I₃ : Inv W env (tabOf (fsc inm).names) 4 4 F₂ G α [.val (.int a), .val (.int n), .own ((digs a n m).map V.int), .unset] s₃ := I₂.stepD st₃ hl₂ hG hl₃ rfl fun i => match i with
      | 0 => .inl ⟨rfl, fun _ h => nomatch h⟩
      | 1 => .inl ⟨rfl, fun _ h => nomatch h⟩
      | 2 => .inr ⟨_, _, rfl, rfl, rfl, r₃⟩
      | 3 => .inl ⟨rfl, fun _ h => nomatch h⟩
      | _ + 4 => .inl ⟨rfl, fun _ h => nomatch h⟩
    exact wpAny_execs_nil (i2d_ret I₃ e ((rn₁.trans (Run.of_step I₁.gin st₂).same).trans ⟨fun _ _ e => e, fun _ _ e => .inl e, st₃.os, fun i g e => st₃.gens i g (fun h => h) e, st₃.bare⟩) (fun b o q => st₂.le _ _ (le₁ _ _ q)) lg tab hk k)
theorem i2d_call (hw : WTab W tl) (D : DefIn tl t fd (iPar inm 1) (iPos inm 1) qual) (cf : CfgOk cfg2 W C d) (hN : 1000001 ≤ N) (hC : InnerI W d N qual)
    (h : FnIs W a₀ [Str.ofString "a", Str.ofString "n"] (fb inm) (fsc inm) fd o₀) : CallAt W (d + 1) a₀ fun vs K => vs.length = 2 ∧ I2D vs K :=
  call_in h rfl fun env F G s A vs K Q B P k => by
    obtain ⟨a, n, hvs, ha, hb, hn, hn1, hk⟩ := P
    subst hvs
    obtain ⟨el, er, et, l3, p1, p2, p3, p4, p5, p6, p7, p8, p9, hbody, sn⟩ := i_out
    obtain ⟨Sl, Sr, St, Sa⟩ := sn cf
    have hm := figN ha hn
    have I : Inv W env (tabOf (fsc inm).names) 4 0 F G (fun _ => 0) [.val (.int a), .val (.int n), .unset, .unset] s := B.inv
    have kn : env.kindOf (Str.ofString "n") = some .cell := kind_of B.esc rfl
    have kd : env.kindOf (Str.ofString "a_digits") = some .cell := kind_of B.esc rfl
    have ki : env.kindOf (Str.ofString "inner") = some .cell := kind_of B.esc rfl
    have cn : env.cells.lookup (Str.ofString "n") = some (env.locals + 1) := cell_of B.cells rfl
    have cd : env.cells.lookup (Str.ofString "a_digits") = some (env.locals + 1 + 1) := cell_of B.cells rfl
    have ci : env.cells.lookup (Str.ofString "inner") = some (env.locals + 1 + 1 + 1) := cell_of B.cells rfl
    have n12 : env.locals + 1 ≠ env.locals + 1 + 1 := Nat.ne_of_lt (Nat.lt_succ_self _)
    have n23 : env.locals + 1 + 1 ≠ env.locals + 1 + 1 + 1 := Nat.ne_of_lt (Nat.lt_succ_self _)
    have n13 : env.locals + 1 ≠ env.locals + 1 + 1 + 1 := Nat.ne_of_lt (Nat.lt_succ_of_lt (Nat.lt_succ_self _))
    rw [hbody]
    generalize hmm : (bitLen a + n - 1) / n = m at hm
    have wp : sAssign 2 (rOwn (fRep (xList [xInt 0]) (xBin bDiv (xBin bSub (xBin bAdd (xMeth mBitlen (xVar 0) []) (xVar 1)) (xInt 1)) (xVar 1)))) C [.val (.int a), .val (.int n), .unset, .unset] (fun ρ => ρ = [.val (.int a), .val (.int n), .own (List.replicate m (.int 0)), .unset]) (fun _ => False) :=
      i2d_init (K := fun xs => [Slot.val (.int a), .val (.int n), .own xs, .unset] = [.val (.int a), .val (.int n), .own (List.replicate m (.int 0)), .unset]) hb hn hn1 (hmm.symm ▸ hm.le) (by rw [hmm])
    refine wpAny_execs_cons (st_own (i := 2) (C := C) rfl (fun _ _ _ => rfl) (fr_rep Sl Sr) env F G _ s A _ _ _ ⟨_, I, B.en, B.room⟩ wp ⟨fun F₁ ρ₁ s₁ rn₁ at₁ hρ => ?_, fun _ _ _ _ _ _ _ _ h => h.elim⟩)
    subst hρ
    obtain ⟨α, I₁, _, _⟩ := at₁
    obtain ⟨_, hn1', tn, rfl⟩ := I₁.cellv (i := 1) rfl kn cn rfl
    obtain ⟨hF, hG, ⟨μ, hns, hh⟩, items, kk, hl, r⟩ := I₁.cello (x := Str.ofString "a_digits") (i := 2) rfl rfl
    have hd1 := hh.cell kd cd
    refine ex_inner hw D I₁ B.en B.code B.qual (clos := [(Str.ofString "n", env.locals + 1), (Str.ofString "inner", env.locals + 1 + 1 + 1), (Str.ofString "a_digits", env.locals + 1 + 1)]) (closure_of (by rw [B.cells]; rfl)) (i := 3) rfl ki ci (cs := [env.locals + 1, env.locals + 1 + 1]) (allm ⟨n13, _, hn1'⟩ (allm ⟨n23, _, hd1⟩ alln))
      fun s₂ F₂ fa I₂ rn le hfn hci hcs => ?_
    have hle := hm.le
    have hmn := hm.mn
    exact i2d_tail (α := setA α 3 0) I₂ B.en B.room St Sa hC ⟨hfn, hcs _ (List.mem_cons_of_mem _ List.mem_cons_self) _ hd1, hcs _ List.mem_cons_self _ hn1', hci, n13, n12, Ne.symm n23⟩ ki ci (rn₁.same.trans rn.same) (fun b o q => le _ _ (rn₁.le _ _ q)) B.le I.fin.tab hm ha (by lia) hN hn1 (by lia)
      (hk _ hm.isD (by rw [digs_len]; lia)) k
end
end Mine
namespace Mine
open PySem PySem.W PySem.W.X PyProof.Rows PySem.Calls
section
variable {prog : Program} {w : World} {A : Around} {R : GenEnd} {Y : Protocol} {n : Nat} {s₀ : Shared} {c : Code} {fs : List Frame} {s : Shared} {env : Env}
  {K : Flow → Sem Fin} {H : Value → Sem Fin} {gd : Bool → Bool} {lv : List Value → List Value}
theorem sg_bind {α β : Type} {m : Sem α} {f : α → Sem β} {K' : β → Sem Fin} (h : wpAny (model prog w) (A.over c fs) m (fun a s' => Seg (model prog w) A R Y n s₀ c ((f a).wrap K' H gd lv) fs s') noE s) : Seg (model prog w) A R Y n s₀ c ((m >>= f).wrap K' H gd lv) fs s :=
  seg_bind_wrap (wpAny_mono h (fun _ _ x => x) fun _ _ x => x.elim)
theorem sg_wrap {α : Type} {m : Sem α} {K' : α → Sem Fin} (h : wpAny (model prog w) (A.over c fs) m (fun a s' => Seg (model prog w) A R Y n s₀ c (K' a) fs s') noE s) : Seg (model prog w) A R Y n s₀ c (m.wrap K' H gd lv) fs s :=
  seg_wrap (wpAny_mono h (fun _ _ x => x) fun _ _ x => x.elim)
theorem sg_plain {st : Stmt} {rest : List Stmt} (h : wpAny (model prog w) (A.over c fs) (exec st env) (fun f s' => f = .next ∧ Seg (model prog w) A R Y n s₀ c ((execs rest env).wrap K H gd lv) fs s') noE s) :
    Seg (model prog w) A R Y n s₀ c ((execs (st :: rest) env).wrap K H gd lv) fs s := by
  refine seg_execs_cons (sg_wrap (anyE h fun f s' h' => ?_))
  obtain ⟨rfl, h'⟩ := h'
  exact h'
theorem sg_If {t : Expr} {a b : List Stmt} {pos : Pos} {K' : Flow → Sem Fin} (h : wpAny (model prog w) (A.over c fs) (isTrue t env (eval t env)) (fun v s' => (v = true → Seg (model prog w) A R Y n s₀ c ((execs a env).wrap K' H gd lv) fs s') ∧
      (v = false → Seg (model prog w) A R Y n s₀ c ((execs b env).wrap K' H gd lv) fs s')) noE s) : Seg (model prog w) A R Y n s₀ c ((exec (.If t a b pos) env).wrap K' H gd lv) fs s := by
  rw [arm_exec_If]
  refine sg_bind (wpAny_standAt (sg_bind (anyE h fun v s' h' => ?_)))
  cases v with
  | true => exact h'.1 rfl
  | false => exact h'.2 rfl
theorem sg_runOwn {code : Code} {K' : Flow → Sem Fin} (h : ∀ p, Seg (model prog w) A R Y n s₀ code ((model prog w).den code)
      (.ret (fun r => ((match r with | .ok f => (.pure f : Sem Flow) | .error e => .raise e).onRaise fun (x : Value) => do
        if (← field x 1) == Value.none then unsupported "frame.own-activation:exception-without-traceback"
        setFlight x env.frame).wrap K' H gd lv) none (gd false) (lv []) c p [] :: fs) s) :
    Seg (model prog w) A R Y n s₀ c ((runOwn code env).wrap K' H gd lv) fs s := seg_call h
theorem sg_For {target iter : Expr} {body : List Stmt} {pos : Pos} {K' : Flow → Sem Fin} (hset : ∀ x, foldedSetIterable iter env x = pure x)
    (h : wpAny (model prog w) (A.over c fs) (eval iter env) (fun x s₁ => wpAny (model prog w) (A.over c fs) (pyIter x) (fun it s₂ => Seg (model prog w) A R Y n s₀ c ((runOwn (.forLoop target it body [] env) env).wrap K' H gd lv) fs s₂) noE s₁) noE s) :
    Seg (model prog w) A R Y n s₀ c ((exec (.For target iter body [] pos) env).wrap K' H gd lv) fs s := by
  rw [arm_exec_For]
  refine sg_bind (wpAny_standAt (sg_bind (anyE h fun x s₁ h₁ => ?_)))
  rw [hset]
  refine sg_bind (wpAny_pure (sg_bind (wpAny_standAt (sg_bind (wpAny_holding h₁)))))
noncomputable def forH (env : Env) : Value → Sem Fin := fun e => (noteFrame e env >>= fun _ => theTreesLotGoes e).wrap (fun _ => .raise e) .raise id id
noncomputable def forK (target : Expr) (it : Value) (body : List Stmt) (env : Env) : Flow → Sem Fin := fun f => match f with
  | .next | .cont => .pure (.again (.forLoop target it body [] env))
  | .brk => .pure (.done .next)
  | .ret v => .pure (.done (.ret v))
theorem sg_forLoop {target : Expr} {it : Value} {body : List Stmt}
    (h : wpAny (model prog w) (A.over (.forLoop target it body [] env) fs) (pyNext it) (fun r s₁ => match r with
      | none => Seg (model prog w) A R Y n s₀ (.block [] env) ((model prog w).den (.block [] env)) fs s₁
      | some v => wpAny (model prog w) (A.over (.forLoop target it body [] env) fs) (letOwnedTupleGo target it v) (fun _ s₂ => wpAny (model prog w) (A.over (.forLoop target it body [] env) fs) (assign target env v) (fun _ s₃ =>
          Seg (model prog w) A R Y n s₀ (.forLoop target it body [] env) ((execs body env).wrap (forK target it body env) (forH env) id id) fs s₃) noE s₂) noE s₁) noE s) :
    Seg (model prog w) A R Y n s₀ (.forLoop target it body [] env) ((model prog w).den (.forLoop target it body [] env)) fs s := by
  show Seg _ A R Y n s₀ _ ((forTurn target it body [] env).onRaise (fun x => do noteFrame x env; theTreesLotGoes x)) fs s
  rw [Sem.onRaise_eq_wrap]
  unfold forTurn
  refine sg_bind (wpAny_standAt (sg_bind (wpAny_onRaise (wpAny_mono h (fun r s₁ h₁ => ?_) fun _ _ x => x.elim))))
  cases r with
  | none => exact seg_again rfl h₁
  | some v =>
    refine sg_bind (anyE h₁ fun _ s₂ h₂ => sg_bind (anyE h₂ fun _ s₃ h₃ => ?_))
    rw [Sem.bind_eq_wrap', Sem.wrap_wrap]
    rw [Sem.wrap_congr (execs body env) _ _ (K' := forK target it body env) (H' := forH env) (fun f => by cases f <;> rfl)
        (fun e => by first | exact Sem.bind_eq_wrap _ _ | (show (do noteFrame e env; theTreesLotGoes e : Sem Unit).bind (fun _ => .raise e) = _; rw [Sem.bind_eq_wrap]; rfl))]
    exact h₃
theorem sg_block {k h g l c₁ p₁ kp} {K' : Flow → Sem Fin} (hk : Seg (model prog w) A R Y n s₀ c₁ (k (.ok .next)) fs s) :
    Seg (model prog w) A R Y n s₀ (.block [] env) ((model prog w).den (.block [] env)) (.ret k h g l c₁ p₁ kp :: fs) s :=
  seg_leaf (.ok .next) hk
theorem sg_yield {es : List Expr} {kt} {tp ypos pos : Pos} {K' : Flow → Sem Fin} (hfs : splitAtGen fs = none) (hgd : gd false = false) (hfg : fs.any Frame.guarded = false) (hco : env.scope.isCoroutine = false) (hi : interactive env = false)
    (h : wpAny (model prog w) (A.over c fs) (spliced (backTo tp (starEach es env))) (fun vs s' => vs.length ≤ sizeLine ∧ ∀ kap : Resume → Shared → Prop, (∀ s'', Seg (model prog w) A R Y n s'' c (K' .next) fs s'' → kap (.send .none) s'') →
        Y n s₀ (.ref s'.heap.objs.size) { s' with heap := s'.heap.push { cls := .type "tuple", data := .seq vs.toArray } } kap) noE s) :
    Seg (model prog w) A R Y (n + 1) s₀ c ((exec (.Expr (.Yield (some (.Tuple es kt tp)) ypos) pos) env).wrap K' H gd lv) fs s := by
  refine seg_Expr_Yield hfs hgd hfg ?_ hco hi
  rw [arm_eval_Tuple]
  refine wpAny_bind (wpAny_standAt (wpAny_bind (wpAny_mono h (fun vs s' h' => ?_) fun _ _ x => x.elim)))
  refine wpAny_newTuple (fun kap hkap => h'.2 kap fun s'' hs => hkap .none s'' hs) h'.1
end
end Mine
namespace Mine
open PySem PySem.W PySem.W.X PyProof.Rows PySem.Calls
noncomputable def V.flat (v : V) : Bool := match v with
  | .list _ => false
  | .tup _ => false
  | .fn _ _ => false
  | _ => true
noncomputable def Slot.plain (s : Slot) : Bool := match s with
  | .unset => true
  | .val v => v.flat
  | .own _ => false
structure Go (s s' : Shared) : Prop where
  os : s'.os = s.os
  gens : ∀ (i : Nat) (g : GenState), s.gens[i]? = some g → s'.gens[i]? = some g
  bare : AllBare s.gens → AllBare s'.gens
theorem Go.trans {a b c : Shared} (h : Go a b) (k : Go b c) : Go a c := ⟨k.os.trans h.os, fun i g e => k.gens i g (h.gens i g e), fun e => k.bare (h.bare e)⟩
theorem Go.heap {s : Shared} {h : Heap} {t : Nat} : Go s { s with heap := h, toks := t } := ⟨rfl, fun _ _ e => e, fun e => e⟩
section
variable {W : Wd} {d : Nat} {env : Env} {T : Tab} {m lo : Nat} {F F' G : Frz} {α : Nat → Addr} {ρ : Rho} {s s' : Shared} {A : Around} {C : Cx}
theorem Go.of_step (st : Step W noX s F s' F') : Go s s' := ⟨st.os, fun i g e => st.gens i g (fun h => h) e, st.bare⟩
theorem Go.of_run (r : Run G s F s' F') : Go s s' := ⟨r.os, r.gens, r.bare⟩
noncomputable def AllLocal (env : Env) (T : Tab) : Prop := ∀ x i, T.vars.lookup x = some i → env.kindOf x = some .local
theorem Rel.flat {v : Value} : ∀ {x : V}, Rel W F v x → x.flat = true → Rel W F' v x
  | .none, r, _ => r
  | .bool _, r, _ => r
  | .int _, r, _ => r
  | .str _, r, _ => r
  | .list _, _, h => nomatch h
  | .tup _, _, h => nomatch h
  | .fn _ _, _, h => nomatch h
theorem slot_plain {h h' : Heap} {μ : Str → Option Value} {x : Str} {a b : Addr} {sl : Slot} {G' : Frz} (hl : env.kindOf x = some .local) (q : SlotOk W env F G h μ x a sl) (hp : sl.plain = true) : SlotOk W env F' G' h' μ x b sl := match sl, q, hp with
  | .unset, _, _ => trivial
  | .own _, _, hp => nomatch hp
  | .val _, ⟨u, hu, r⟩, hp => ⟨u, .inl (hu.resolve_right fun ⟨hk, _⟩ => hk.elim (fun hk => nomatch hl.symm.trans hk) fun hk => nomatch hl.symm.trans hk), r.flat hp⟩
theorem plain_at (hp : ∀ sl ∈ ρ, Slot.plain sl = true) (i : Nat) : (ρ.at i).plain = true := by
  rw [at_get]
  cases q : ρ[i]? with
  | none => rfl
  | some z => exact hp z (List.mem_of_getElem? q)
theorem Inv.move {α' : Nat → Addr} {F' G' : Frz} (I : Inv W env T m lo F G α ρ s) (hl : AllLocal env T) (hc : env.cells = []) (hp : ∀ sl ∈ ρ, Slot.plain sl = true) (fb : FLe W.base F') (ok : HOk W s'.heap) (fin : FOk W F' s'.heap) (gin : FOk W G' s'.heap)
    (lf : F' env.locals = none) (lg : G' env.locals = none) (hL : ∀ o, s.heap.get? env.locals = some o → s'.heap.get? env.locals = some o) : Inv W env T m lo F' G' α' ρ s' where
  fb := fb
  ok := ok
  fin := fin
  gin := gin
  lf := lf
  lg := lg
  rl := I.rl
  len := I.len
  inj := I.inj
  cinj := I.cinj
  wr := fun x i h _ => .inl (hl x i h)
  vars := let ⟨μ, hn, hv⟩ := I.vars; ⟨μ, hn.at' hL, fun x i h => slot_plain (hl x i h) (hv x i h) (plain_at hp i)⟩
  apart := fun x y i j xs ys hx hy hij hi hj => nomatch (show false = true from (congrArg Slot.plain hi).symm.trans (plain_at hp i))
  clive := fun x c h => by rw [hc] at h; cases h
noncomputable def snapL (W : Wd) (L : Addr) (h : Heap) : Frz := fun a => by classical exact if a = L then none else snap W h a
theorem snapL_of {L : Addr} {h : Heap} {a : Addr} {o : Obj} (ht : a ∉ W.tabs) (hL : a ≠ L) (e : h.get? a = some o) : snapL W L h a = some o := (if_neg hL).trans (snap_of ht e)
theorem snapL_L {L : Addr} {h : Heap} : snapL W L h L = none := if_pos rfl
theorem snapL_ok {L : Addr} {h : Heap} : FOk W (snapL W L h) h := snapD_ok (s := { heap := h, toks := 0, gens := #[], os := default })
theorem noN_ok {h : Heap} : FOk W noN h := ⟨fun a o e => (nomatch e), fun _ _ => rfl⟩
abbrev GI (W : Wd) (env : Env) (T : Tab) (m : Nat) (ρ : Rho) (s : Shared) : Prop := Inv W env T m 0 W.base noN (fun _ => 0) ρ s
theorem GI.up (I : GI W env T m ρ s) (hl : AllLocal env T) (hc : env.cells = []) (hp : ∀ sl ∈ ρ, Slot.plain sl = true) : Inv W env T m 0 W.base (snapL W env.locals s.heap) (fun _ => 0) ρ s :=
  I.move hl hc hp I.fb I.ok I.fin snapL_ok I.lf snapL_L fun _ e => e
theorem GI.down (I : Inv W env T m 0 F G α ρ s) (hl : AllLocal env T) (hc : env.cells = []) (hp : ∀ sl ∈ ρ, Slot.plain sl = true) : GI W env T m ρ s :=
  I.move hl hc hp (fun _ _ e => e) I.ok I.ok.base noN_ok (none_of_not fun o q => nomatch I.lf.symm.trans (I.fb _ _ q)) rfl fun _ e => e
theorem GI.at (I : GI W env T m ρ s) (e : EnvOk env T) (R : Room A d) : At W d env T m W.base ρ s A := ⟨0, _, _, I, e, R⟩
theorem gs_stmt {st : Stmt} {x : SD} {K : Rho → Prop} (h : OkS W C d T m st x) (e : EnvOk env T) (R : Room A d) (I : GI W env T m ρ s) (hl : AllLocal env T) (hc : env.cells = []) (hp : ∀ sl ∈ ρ, Slot.plain sl = true) (hk : x C ρ K fun _ => False)
    (hK : ∀ ρ', K ρ' → ∀ sl ∈ ρ', Slot.plain sl = true) {Q : Flow → Shared → Prop}
    (q : ∀ s' ρ', GI W env T m ρ' s' → K ρ' → Go s s' → (∀ b o, b ∉ W.tabs → b ≠ env.locals → s.heap.get? b = some o → s'.heap.get? b = some o) → Q .next s') : wpAny (model W.prog W.w) A (exec st env) Q noE s :=
  h env W.base _ ρ s A K (fun _ => False) Q ⟨_, I.up hl hc hp, e, R⟩ hk ⟨fun F' ρ' s' rn ⟨_, I', _, _⟩ k => q s' ρ' (GI.down I' hl hc (hK ρ' k)) k (Go.of_run rn) fun b o ht hL eb => I'.gin.is _ _ (snapL_of ht hL eb), fun _ _ _ _ _ _ _ _ h => h.elim⟩
theorem GI.step (I : GI W env T m ρ s) (st : Step W noX s W.base s' F') (hl : AllLocal env T) (hc : env.cells = []) (hp : ∀ sl ∈ ρ, Slot.plain sl = true) : GI W env T m ρ s' := GI.down (Inv.step I st) hl hc hp
noncomputable def yl : Bool → Nat → List Nat → List (Nat × List Nat)
  | b, i, [] => if b then [(i - 1, [92])] else []
  | b, i, c :: r => if b then (i, [92, c]) :: yl false (i + 1) r else if c = 92 then yl true (i + 1) r else (i, [c]) :: yl false (i + 1) r
end
end Mine
namespace Mine
open PySem PySem.W PySem.W.X PyProof.Rows PySem.Calls
noncomputable def PtE (x : Str) (i : Nat) (vals : Array Value) : Prop := ∃ t y, (∃ c u, x.cps[i]? = some c ∧ y = .str ⟨#[c]⟩ u) ∧ vals = #[.int i t, y]
noncomputable def StE (x : Str) (tx : Tok) (E I : Addr) (i : Nat) (h : Heap) : Prop := (∃ old, IsEnum h E I i old) ∧ h.IsStrIter I (strIterType x) x tx i
noncomputable def MidE (x : Str) (tx : Tok) (E I : Addr) (i : Nat) (Tt : Addr) (h : Heap) : Prop := (∃ y, IsEnumOut h E I ((i : Int) + 1) y Tt) ∧ h.IsStrIter I (strIterType x) x tx (i + 1) ∧ Tt ≠ E ∧ Tt ≠ I
theorem walkE {prog : Program} {w : World} {A : Around} (hh : A.handled = none) (x : Str) (tx : Tok) (E I : Addr) (h : E ≠ I) : WalksT prog w A E [E, I] [E, I] x.cps.size (PtE x) (StE x tx E I) (MidE x tx E I) := by
  have D : Draws prog w A.in1 I [I] x.cps.size (fun i v => ∃ c u, x.cps[i]? = some c ∧ v = .str ⟨#[c]⟩ u) (fun i h => h.IsStrIter I (strIterType x) x tx i) := by
    cases ha : x.cps.all (· < 128)
    · have := Draws.strWide (prog := prog) (w := w) (A := A.in1) hh I x tx
      unfold strIterType
      rw [ha]; exact this
    · have := Draws.strAscii (prog := prog) (w := w) (A := A.in1) hh I x tx
      unfold strIterType
      rw [ha]; exact this
  exact WalksT.enumerateD D E h (by simpa using h) (by simp)
structure Sin (W : Wd) (own : List Addr) (s₀ s : Shared) : Prop where
  ok : HOk W s.heap
  since : ∀ a o, a ∉ W.tabs → a ∉ own → s₀.heap.get? a = some o → s.heap.get? a = some o
  go : Go s₀ s
theorem Sin.refl {W : Wd} {own : List Addr} {s : Shared} (ok : HOk W s.heap) : Sin W own s s := ⟨ok, fun _ _ _ _ e => e, ⟨rfl, fun _ _ e => e, fun e => e⟩⟩
theorem Sin.trans {W : Wd} {own : List Addr} {a b c : Shared} (h : Sin W own a b) (ok : HOk W c.heap) (k : ∀ x o, x ∉ W.tabs → x ∉ own → b.heap.get? x = some o → c.heap.get? x = some o) (g : Go b c) : Sin W own a c :=
  ⟨ok, fun x o h1 h2 e => k x o h1 h2 (h.since x o h1 h2 e), h.go.trans g⟩
theorem Sin.step {W : Wd} {own : List Addr} {a b c : Shared} {F F' : Frz} (h : Sin W own a b) (st : Step W noX b F c F') : Sin W own a c :=
  h.trans st.ok (fun x o h1 _ e => st.keep x o h1 (fun h => h) e) (Go.of_step st)
noncomputable def lastE : Bool → List Nat → Bool
  | b, [] => b
  | b, c :: r => if b then lastE false r else if c = 92 then lastE true r else lastE false r
theorem lastE_len : ∀ (l : List Nat) (b : Bool) (i : Nat), lastE b l = true → 1 ≤ (yl b i l).length
  | [], b, i, h => by unfold lastE at h; subst h; simp [yl]
  | c :: r, b, i, h => by
    unfold lastE at h
    unfold yl
    cases b with
    | true => simp
    | false =>
      simp only [Bool.false_eq_true, if_false] at h ⊢
      split
      · rename_i hc
        rw [if_pos hc] at h
        exact lastE_len r true (i + 1) h
      · simp
noncomputable def ownE (L E I : Addr) (fin : Bool) (m : Nat) : List Addr := if fin = true ∧ m = 0 then [L] else [L, E, I]
noncomputable def Live (W : Wd) (h : Heap) (l : List Addr) : Prop := ∀ b ∈ l, b ∉ W.tabs ∧ ∃ o, h.get? b = some o
noncomputable def GR (W : Wd) (L E I : Addr) (fin : Bool) : GenEnd := fun n s₀ r s₁ => r = .ok (.ret .none) ∧ n = 0 ∧ Sin W (ownE L E I fin 0) s₀ s₁
inductive GYp (W : Wd) (L E I : Addr) (fin : Bool) (its : List (Nat × List Nat)) (m : Nat) (s₀ : Shared) (v : Value) (s : Shared) (kap : Resume → Shared → Prop) : Prop
  | mk (q : Nat × List Nat) (ta : Addr) (t u : Tok) (hi : its[its.length - 1 - m]? = some q) (hv : v = .ref ta) (hta : s.heap.get? ta = some (tupObj [.int q.1 t, .str ⟨q.2.toArray⟩ u] 0)) (fresh : s₀.heap.get? ta = none ∨ ta ∈ [L, E, I]) (nown : ta ∉ ownE L E I fin m) (ntab : ta ∉ W.tabs) (sin : Sin W [L, E, I] s₀ s) (live : Live W s.heap (ownE L E I fin m))
    (go : ∀ s'' : Shared, HOk W s''.heap → (∀ b ∈ ownE L E I fin m, ∀ o, s.heap.get? b = some o → s''.heap.get? b = some o) → kap (.send .none) s'')
noncomputable def GY (W : Wd) (L E I : Addr) (fin : Bool) (its : List (Nat × List Nat)) : Protocol := fun m s₀ v s kap => GYp W L E I fin its m s₀ v s kap
theorem own_mem {L E I : Addr} {fin : Bool} {m : Nat} {b : Addr} (h : b ∈ ownE L E I fin m) : b ∈ [L, E, I] := by
  unfold ownE at h
  split at h
  · exact List.mem_singleton.mp h ▸ List.mem_cons_self
  · exact h
theorem own_L {L E I : Addr} {fin : Bool} {m : Nat} : L ∈ ownE L E I fin m := by unfold ownE; split <;> exact List.mem_cons_self
theorem own_no {L E I : Addr} {fin : Bool} {m : Nat} (h : fin = true → 1 ≤ m) : ownE L E I fin m = [L, E, I] := if_neg fun ⟨h1, h2⟩ => nomatch h2 ▸ h h1
structure GB (W : Wd) (C : Cx) (d : Nat) (T : Tab) (env : Env) (ts : List Expr) (t1 t2 t3 : Expr) (es1 es2 es3 : List Expr) (a3 a4 : Stmt) : Prop where
  e : EnvOk env T
  al : AllLocal env T
  hc : env.cells = []
  co : env.scope.isCoroutine = false
  tg : NamesAre T ts [1, 3]
  t1 : SndE W C d T 4 t1 (xVar 2)
  t2 : SndE W C d T 4 t2 (xBin cEq (xVar 3) (xStr [92]))
  t3 : SndE W C d T 4 t3 (xVar 2)
  y1 : SndL W C d T 4 es1 [xVar 1, xBin bAdd (xStr [92]) (xVar 3)]
  y2 : SndL W C d T 4 es2 [xVar 1, xVar 3]
  y3 : SndL W C d T 4 es3 [xVar 1, xStr [92]]
  a3 : OkS W C d T 4 a3 (sAssign 2 (rVal (xBool false)))
  a4 : OkS W C d T 4 a4 (sAssign 2 (rVal (xBool true)))
section
variable {W : Wd} {d : Nat} {env : Env} {T : Tab} {m lo : Nat} {F F' G : Frz} {α : Nat → Addr} {ρ : Rho} {s s' : Shared} {A : Around} {C : Cx} {c : Cfg}
theorem tup_assign2 {es : List Expr} {is : List Nat} {k} {pos : Pos} {a : Addr} {items : List Value} {vs : List V} {Q : Unit → Shared → Prop} (h : NamesAre T es is) (hlo : ∀ i ∈ is, lo ≤ i) (R : Room A d) (e : EnvOk env T) (I : Inv W env T m lo F G α ρ s) (ht : s.heap.IsTuple a items.toArray) (r : RelL W F items vs)
    (hl : is.length = vs.length) (q : ∀ α' s', Inv W env T m lo F G α' (bindTs is vs ρ) s' → Run G s F s' F → Q () s') : wpAny (model W.prog W.w) A (assign (.Tuple es k pos) env (.ref a)) Q noE s := by
  obtain ⟨h1, h2⟩ := each_len (env := env) h
  refine wpAny_assign_Tuple R.handled ht (by rw [h1, hl, List.size_toArray, r.length]) h2 fun h' hx => ?_
  have kp : ∀ b o, s.heap.get? b = some o → h'.get? b = some o := fun b o eb => hx b o (Nat.ne_of_lt (Heap.lt_size eb)) eb
  exact bind_slots h hlo items vs r hl { s with heap := h' } α ρ Q (I.step (Step.kept I.ok I.fin h' s.toks kp)) e fun α' s' I' rn _ => q α' s' I' (Run.heap.trans rn)
theorem enum_live {x : Str} {tx : Tok} {E I : Addr} {i : Nat} {h : Heap} (t : W.ti h) (st : StE x tx E I i h) : Live W h [E, I] :=
  let ⟨⟨old, he⟩, ⟨o, ho, hc, _⟩⟩ := st
  allm ⟨no_tab_cls t he nofun, _, he⟩ (allm ⟨no_tab_cls t ho (by rw [hc]; nofun), o, ho⟩ alln)
variable {ts : List Expr} {t1 t2 t3 : Expr} {es1 es2 es3 : List Expr} {a3 a4 : Stmt} {kt k1 k2 : Nat} {pt tp1 tp2 yp1 yp2 ep1 ep2 ip1 ip2 : Pos}
noncomputable def fBody (t1 t2 : Expr) (es1 es2 : List Expr) (a3 a4 : Stmt) (k1 k2 : Nat) (tp1 tp2 yp1 yp2 ep1 ep2 ip1 ip2 : Pos) : Stmt :=
  .If t1 [.Expr (.Yield (some (.Tuple es1 k1 tp1)) yp1) ep1, a3] [.If t2 [a4] [.Expr (.Yield (some (.Tuple es2 k2 tp2)) yp2) ep2] ip2] ip1
noncomputable def rhoG (x : List Nat) (p : Int) (b : Bool) (s3 : Slot) : Rho := [.val (.str x), .val (.int p), .val (.bool b), s3]
theorem rhoG_plain {x : List Nat} {p : Int} {b : Bool} {s3 : Slot} (h : s3.plain = true) : ∀ sl ∈ rhoG x p b s3, Slot.plain sl = true := allm rfl (allm rfl (allm rfl (allm h alln)))
theorem hok_keep {x : Str} {tx : Tok} {E I : Addr} {i : Nat} {h h' : Heap} (ok : HOk W h) (st : StE x tx E I i h) (hE : W.base E = none) (hI : W.base I = none) (k : ∀ b o, b ∉ [E, I] → h.get? b = some o → h'.get? b = some o) : HOk W h' := by
  obtain ⟨⟨old, he⟩, ⟨oi, hi, hc, _⟩⟩ := st
  refine ⟨⟨fun a o e => k a o (fun q => ?_) (ok.base.is _ _ e), ok.base.tab⟩, W.tiKeep _ _ ok.ti fun a o e c _ => k a o (fun q => ?_) e⟩
  · simp only [List.mem_cons, List.not_mem_nil, or_false] at q
    rcases q with rfl | rfl
    · rw [hE] at e; cases e
    · rw [hI] at e; cases e
  · simp only [List.mem_cons, List.not_mem_nil, or_false] at q
    rcases q with rfl | rfl
    · rw [he] at e; cases e
      rcases c with c | c <;> simp at c
    · rw [hi] at e; cases e
      rw [hc] at c
      rcases c with c | c
      · simp at c
      · unfold strIterType at c; split at c <;> simp at c
theorem g_yield {A : Around} {L E I : Addr} {its : List (Nat × List Nat)} {fin : Bool} {n : Nat} {c₁ : Code} {fs : List Frame} {K' : Flow → Sem Fin} {H : Value → Sem Fin} {gd : Bool → Bool} {lv : List Value → List Value} {es : List Expr} {xs : List XD} {kt : Nat} {tp yp ep : Pos} {s₀ s : Shared} {ρ : Rho} {p : Nat} {q2 : List Nat}
    (e : EnvOk env T) (al : AllLocal env T) (hc : env.cells = []) (co : env.scope.isCoroutine = false) (hL : L = env.locals) (R : Room (A.over c₁ fs) d) (hfs : splitAtGen fs = none) (hgd : gd false = false) (hfg : fs.any Frame.guarded = false)
    (h : SndL W C d T 4 es xs) (gi : GI W env T 4 ρ s) (hp : ∀ sl ∈ ρ, Slot.plain sl = true) (hk : wpL C xs ρ fun rs => rs = [.int p, .str q2])
    (hidx : its[its.length - 1 - n]? = some (p, q2)) (sin : Sin W [L, E, I] s₀ s) (hlive : Live W s.heap (ownE L E I fin n))
    (go : ∀ s'' : Shared, HOk W s''.heap → GI W env T 4 ρ s'' → (∀ b ∈ ownE L E I fin n, ∀ o, s.heap.get? b = some o → s''.heap.get? b = some o) → Seg (model W.prog W.w) A (GR W L E I fin) (GY W L E I fin its) n s'' c₁ (K' .next) fs s'') :
    Seg (model W.prog W.w) A (GR W L E I fin) (GY W L E I fin its) (n + 1) s₀ c₁ ((exec (.Expr (.Yield (some (.Tuple es kt tp)) yp) ep) env).wrap K' H gd lv) fs s := by
  refine sg_yield hfs hgd hfg co (not_inter e) (h.l env tp W.base ρ s _ _ _ (gi.at e R) hk fun vs s₅ F₅ rs st₅ rr hK => ?_)
  subst hK
  obtain ⟨_, _, rfl, ⟨t, rfl⟩, _, _, rfl, ⟨u, rfl⟩, rfl⟩ := rr
  have gi₅ := gi.step st₅ al hc hp
  have sin₅ := sin.step st₅
  have hkeep : ∀ b, b ∈ ownE L E I fin n → ∀ o, s.heap.get? b = some o → (s₅.heap.push { cls := .type "tuple", data := .seq [Value.int (p : Int) t, Value.str ⟨q2.toArray⟩ u].toArray }).get? b = some o := fun b hb o eb =>
    Heap.get?_push_of_some _ (st₅.keep b o (hlive b hb).1 (fun h => h) eb)
  have hts : s₅.heap.objs.size ∉ W.tabs := fun q => Nat.lt_irrefl _ (gi₅.ok.tabLt q)
  have hsz : s₅.heap.objs.size ∉ ownE L E I fin n := fun q => by
    obtain ⟨h1, o, ho⟩ := hlive _ q
    exact Nat.lt_irrefl _ (Heap.lt_size (st₅.keep _ o h1 (fun h => h) ho))
  refine ⟨show 2 ≤ sizeLine by decide, fun kap hkap => ⟨(p, q2), s₅.heap.objs.size, t, u, hidx, rfl, Heap.get?_push_size _ rfl, ?_, hsz, hts, ?_, fun b hb => ⟨(hlive b hb).1, ?_⟩, fun s'' ok'' hown => hkap s'' ?_⟩⟩
  · by_cases hm : s₅.heap.objs.size ∈ [L, E, I]
    · exact .inr hm
    · exact .inl (none_of_not' fun o q => nomatch (get_size_none _).symm.trans (sin₅.since _ o hts hm q))
  · exact sin₅.trans (gi₅.ok.push _) (fun a o _ _ eb => Heap.get?_push_of_some _ eb) Go.heap
  · obtain ⟨o, ho⟩ := (hlive b hb).2
    exact ⟨o, hkeep b hb o ho⟩
  · refine go s'' ok'' (gi.move al hc hp (fun _ _ e => e) ok'' ok''.base noN_ok gi.lf rfl fun o eb => ?_) fun b hb o eb => hown b hb o (hkeep b hb o eb)
    subst hL
    exact hown _ own_L o (hkeep _ own_L o eb)
end
end Mine
namespace Mine
open PySem PySem.W PySem.W.X PyProof.Rows PySem.Calls
theorem its_at {α : Type} {its pre r : List α} {q : α} (h : its = pre ++ q :: r) : its[its.length - 1 - r.length]? = some q := by
  rw [h, List.length_append, List.length_cons, show pre.length + (r.length + 1) - 1 - r.length = pre.length by lia, List.getElem?_append_right (Nat.le_refl _), Nat.sub_self]; rfl
theorem snoc_app {α : Type} {its pre r : List α} {q : α} (h : its = pre ++ q :: r) : its = (pre ++ [q]) ++ r := by rw [h, List.append_assoc]; rfl
section
variable {W : Wd} {d : Nat} {env : Env} {T : Tab} {F F' G : Frz} {ρ : Rho} {s s' : Shared} {A : Around} {C : Cx}
variable {ts : List Expr} {t1 t2 t3 : Expr} {es1 es2 es3 : List Expr} {a3 a4 : Stmt} {kt k1 k2 : Nat} {pt tp1 tp2 yp1 yp2 ep1 ep2 ip1 ip2 : Pos}
noncomputable abbrev flp (ts : List Expr) (t1 t2 : Expr) (es1 es2 : List Expr) (a3 a4 : Stmt) (kt k1 k2 : Nat) (pt tp1 tp2 yp1 yp2 ep1 ep2 ip1 ip2 : Pos) (E : Addr) (env : Env) : Code := .forLoop (.Tuple ts kt pt) (.ref E) [fBody t1 t2 es1 es2 a3 a4 k1 k2 tp1 tp2 yp1 yp2 ep1 ep2 ip1 ip2] [] env
structure GSt (W : Wd) (env : Env) (T : Tab) (x : List Nat) (tx : Tok) (E I : Addr) (its : List (Nat × List Nat)) (fin : Bool) (p i : Nat) (b nb : Bool) (s3 : Slot) (pre : List (Nat × List Nat)) (s₀ s : Shared) : Prop where
  gi : GI W env T 4 (rhoG x (p : Int) b s3) s
  st : StE ⟨x.toArray⟩ tx E I i s.heap
  sin : Sin W [env.locals, E, I] s₀ s
  its : its = pre ++ yl nb i (x.drop i)
  fin : fin = lastE nb (x.drop i)
theorem g_loop {A : Around} {x : List Nat} {tx : Tok} {E I : Addr} (hEI : E ≠ I) (hLE : env.locals ≠ E) (hLI : env.locals ≠ I) (hbE : W.base E = none) (hbI : W.base I = none) (B : GB W C d T env ts t1 t2 t3 es1 es2 es3 a3 a4) {its : List (Nat × List Nat)} {fin : Bool} {c₀ : Code} {kont : Result → Sem Fin} {p₀ : Pos} {l₀ : List Value}
    (R : Room (A.over (flp ts t1 t2 es1 es2 a3 a4 kt k1 k2 pt tp1 tp2 yp1 yp2 ep1 ep2 ip1 ip2 E env) [.ret kont none false l₀ c₀ p₀ []]) d)
    (hend : ∀ (s₀ s : Shared) (b : Bool) (s3 : Slot) (pre : List (Nat × List Nat)), b = fin → s3.plain = true → GI W env T 4 (rhoG x ((x.length - 1 : Nat) : Int) b s3) s → Sin W [env.locals, E, I] s₀ s → its = pre ++ yl b x.length [] →
      Seg (model W.prog W.w) A (GR W env.locals E I fin) (GY W env.locals E I fin its) (yl b x.length []).length s₀ c₀ (kont (.ok .next)) [] s) :
    ∀ (k i : Nat) (s₀ s : Shared) (b : Bool) (s3 : Slot) (pre : List (Nat × List Nat)), x.length = i + k → s3.plain = true → GSt W env T x tx E I its fin (i - 1) i b b s3 pre s₀ s →
      Seg (model W.prog W.w) A (GR W env.locals E I fin) (GY W env.locals E I fin its) (yl b i (x.drop i)).length s₀ (flp ts t1 t2 es1 es2 a3 a4 kt k1 k2 pt tp1 tp2 yp1 yp2 ep1 ep2 ip1 ip2 E env)
        ((model W.prog W.w).den (flp ts t1 t2 es1 es2 a3 a4 kt k1 k2 pt tp1 tp2 yp1 yp2 ep1 ep2 ip1 ip2 E env)) [.ret kont none false l₀ c₀ p₀ []] s := by
  have W₀ := walkE (prog := W.prog) (w := W.w) R.handled ⟨x.toArray⟩ tx E I hEI
  have nL : ∀ q ∈ [E, I], q ≠ env.locals := allm (Ne.symm hLE) (allm (Ne.symm hLI) alln)
  have Ln : env.locals ∉ [E, I] := fun h => nL _ h rfl
  intro k
  induction k with
  | zero =>
    intro i s₀ s b s3 pre hk h3 ⟨gi, hst, sin, hits, hfin⟩
    obtain rfl : x.length = i := hk
    rw [List.drop_length] at hits hfin ⊢
    refine sg_forLoop (W₀.done s _ _ hst fun h' tk hkeep => ?_)
    have ok' : HOk W h' := hok_keep gi.ok hst hbE hbI hkeep
    exact sg_block (K' := fun f => .pure (.done f)) (hend s₀ _ b s3 pre hfin.symm h3 (gi.move B.al B.hc (rhoG_plain h3) (fun _ _ e => e) ok' ok'.base noN_ok gi.lf rfl fun o e => hkeep _ o Ln e) (sin.trans ok' (fun a o _ hn e => hkeep a o (fun q => hn (List.mem_cons_of_mem _ q)) e) Go.heap) hits)
  | succ k ih =>
    intro i s₀ s b s3 pre hk h3 ⟨gi, hst, sin, hits, hfin⟩
    have hlt : i < x.length := by lia
    have hc : x[i]? = some x[i] := List.getElem?_eq_getElem hlt
    have hdrop : x.drop i = x[i] :: x.drop (i + 1) := List.drop_eq_getElem_cons hlt
    generalize x[i] = c at hc hdrop
    rw [hdrop] at hits hfin ⊢
    refine sg_forLoop (W₀.item i s _ _ hlt hst fun Tt vals h₁ tk hP hTs hT hmid hk₁ => ?_)
    refine W₀.go ts kt pt i Tt _ _ _ hmid fun h₂ hst₂ hk₂ => ?_
    obtain ⟨t, y, ⟨c', u, hc', rfl⟩, rfl⟩ := hP
    obtain rfl : c = c' := by
      have : x[i]? = some c' := (List.getElem?_toArray (xs := x)).symm.trans hc'
      exact Option.some.inj (hc.symm.trans this)
    have hkeep : ∀ b o, b ∉ [E, I] → s.heap.get? b = some o → h₂.get? b = some o := fun b o hb e => hk₂ b o hb (hk₁ b o hb e)
    have ok₂ : HOk W h₂ := hok_keep gi.ok hst hbE hbI hkeep
    have gi₂ : GI W env T 4 (rhoG x ((i - 1 : Nat) : Int) b s3) { s with heap := h₂, toks := tk } := gi.move B.al B.hc (rhoG_plain h3) (fun _ _ e => e) ok₂ ok₂.base noN_ok gi.lf rfl fun o e => hkeep _ o Ln e
    have hT₂ : h₂.IsTuple Tt #[.int i t, .str ⟨#[c]⟩ u] := let ⟨o, ho, r⟩ := hT; ⟨o, hk₂ _ _ (W₀.apart i Tt h₁ hmid) ho, r⟩
    have sin₂ : Sin W [env.locals, E, I] s₀ { s with heap := h₂, toks := tk } := sin.trans ok₂ (fun a o _ hn e => hkeep a o (fun q => hn (List.mem_cons_of_mem _ q)) e) Go.heap
    clear hT hk₁ hk₂ hkeep hmid hTs sin gi hst
    refine tup_assign2 (F := W.base) (vs := [.int i, .str [c]]) (items := [.int i t, .str ⟨#[c]⟩ u]) B.tg (fun _ _ => Nat.zero_le _) R B.e (gi₂.up B.al B.hc (rhoG_plain h3)) hT₂ ⟨_, _, rfl, ⟨t, rfl⟩, _, _, rfl, ⟨u, rfl⟩, rfl⟩ rfl fun α₃ s₃ I₃ rn₃ => ?_
    have rp : ∀ {b}, ∀ sl ∈ rhoG x (i : Int) b (.val (.str [c])), Slot.plain sl = true := rhoG_plain (s3 := .val (.str [c])) rfl
    have gi₃ : GI W env T 4 (rhoG x (i : Int) b (.val (.str [c]))) s₃ := GI.down I₃ B.al B.hc rp
    have hL₃ : ∀ a o, a ∉ W.tabs → a ≠ env.locals → h₂.get? a = some o → s₃.heap.get? a = some o := fun a o ht hn e => I₃.gin.is _ _ (snapL_of ht hn e)
    have hst₃ : StE ⟨x.toArray⟩ tx E I (i + 1) s₃.heap := W₀.frame _ _ _ hst₂ fun q hq o e => hL₃ q o (enum_live ok₂.ti hst₂ q hq).1 (nL q hq) e
    have sin₃ : Sin W [env.locals, E, I] s₀ s₃ := sin₂.trans I₃.ok (fun a o ht hn e => hL₃ a o ht (fun z => hn (z ▸ List.mem_cons_self)) e) (Go.of_run rn₃)
    clear hL₃ I₃ rn₃ sin₂ hst₂ gi₂ hT₂ ok₂
    have live : ∀ {s : Shared} {ρ : Rho}, GI W env T 4 ρ s → StE ⟨x.toArray⟩ tx E I (i + 1) s.heap → Live W s.heap [env.locals, E, I] := fun gi hst => let ⟨μ, hn, _⟩ := gi.vars; allm ⟨ns_no_tab gi.ok.ti hn, let ⟨o, _, _, e, _⟩ := hn; ⟨o, e⟩⟩ (enum_live gi.ok.ti hst)
    have stk : ∀ {s s' : Shared} {F : Frz}, StE ⟨x.toArray⟩ tx E I (i + 1) s.heap → HOk W s.heap → Step W noX s W.base s' F → StE ⟨x.toArray⟩ tx E I (i + 1) s'.heap := fun hst ok st => W₀.frame _ _ _ hst fun q hq o e => st.keep q o (enum_live ok.ti hst q hq).1 (fun h => h) e
    have len : x.length = i + 1 + k := by lia
    have setf : ∀ (K2 : Flow → Sem PySem.Fin), K2 .next = .pure (.again (flp ts t1 t2 es1 es2 a3 a4 kt k1 k2 pt tp1 tp2 yp1 yp2 ep1 ep2 ip1 ip2 E env)) → ∀ (st : Stmt) (nb : Bool), OkS W C d T 4 st (sAssign 2 (rVal (xBool nb))) → ∀ (s₀ s : Shared) (pre : List (Nat × List Nat)) (b : Bool), GSt W env T x tx E I its fin i (i + 1) b nb (.val (.str [c])) pre s₀ s →
        Seg (model W.prog W.w) A (GR W env.locals E I fin) (GY W env.locals E I fin its) (yl nb (i + 1) (x.drop (i + 1))).length s₀ (flp ts t1 t2 es1 es2 a3 a4 kt k1 k2 pt tp1 tp2 yp1 yp2 ep1 ep2 ip1 ip2 E env)
          ((execs [st] env).wrap K2 (forH env) id id) [.ret kont none false l₀ c₀ p₀ []] s := by
      intro K2 hK2 st nb ha s₀ s pre b ⟨gi, hst, sin, hits, hfin⟩
      refine sg_plain (gs_stmt (K := fun ρ' => ρ' = rhoG x (i : Int) nb (.val (.str [c]))) ha B.e R gi B.al B.hc rp rfl (fun ρ' h => by subst h; exact rp) fun s' ρ' gi' hρ go kp => ⟨rfl, ?_⟩)
      subst hρ
      have hst' : StE ⟨x.toArray⟩ tx E I (i + 1) s'.heap := W₀.frame _ _ _ hst fun q hq o e => kp q o (enum_live gi.ok.ti hst q hq).1 (nL q hq) e
      show Seg _ _ _ _ _ _ _ (K2 .next) _ s'
      rw [hK2]
      exact seg_again rfl (ih (i + 1) s₀ s' nb (.val (.str [c])) pre len rfl ⟨gi', hst', sin.trans gi'.ok (fun a o ht hn e => kp a o ht (fun z => hn (z ▸ List.mem_cons_self)) e) go, hits, hfin⟩)
    refine seg_execs_cons (sg_If (B.t1.t env W.base _ s₃ _ (fun v => v = b) _ (gi₃.at B.e R) rfl fun v s₄ F₄ st₄ hv => ?_))
    subst hv
    have gi₄ := gi₃.step st₄ B.al B.hc rp
    have hst₄ := stk hst₃ gi₃.ok st₄
    have sin₄ := sin₃.step st₄
    cases v with
    | true =>
      refine ⟨fun _ => ?_, fun h => (nomatch h)⟩
      replace hits : its = pre ++ (i, [92, c]) :: yl false (i + 1) (x.drop (i + 1)) := hits
      replace hfin : fin = lastE false (x.drop (i + 1)) := hfin
      have own := own_no (L := env.locals) (E := E) (I := I) (fin := fin) (m := (yl false (i + 1) (x.drop (i + 1))).length) fun h => lastE_len _ _ _ (hfin ▸ h)
      refine seg_execs_cons (g_yield (n := (yl false (i + 1) (x.drop (i + 1))).length) (p := i) (q2 := [92, c]) B.e B.al B.hc B.co rfl R rfl rfl rfl B.y1 gi₄ rp ⟨⟨show 2 ≤ 16000000 by decide⟩, rfl⟩ (its_at hits) sin₄ (own.symm ▸ live gi₄ hst₄) fun s'' ok'' gi'' hown => ?_)
      rw [own] at hown
      exact setf _ rfl a3 false B.a3 s'' s'' (pre ++ [(i, [92, c])]) true ⟨gi'', W₀.frame _ _ _ hst₄ fun q hq o e => hown q (List.mem_cons_of_mem _ hq) o e, Sin.refl ok'', snoc_app hits, hfin⟩
    | false =>
      refine ⟨fun h => (nomatch h), fun _ => ?_⟩
      replace hits : its = pre ++ if c = 92 then yl true (i + 1) (x.drop (i + 1)) else (i, [c]) :: yl false (i + 1) (x.drop (i + 1)) := hits
      replace hfin : fin = if c = 92 then lastE true (x.drop (i + 1)) else lastE false (x.drop (i + 1)) := hfin
      show Seg _ _ _ _ (if c = 92 then yl true (i + 1) (x.drop (i + 1)) else (i, [c]) :: yl false (i + 1) (x.drop (i + 1))).length _ _ _ _ _
      refine seg_execs_cons (sg_If (B.t2.t env W.base _ s₄ _ (fun v => v = decide ([c] = [92])) _ (gi₄.at B.e R) rfl fun v s₅ F₅ st₅ hv => ?_))
      have gi₅ := gi₄.step st₅ B.al B.hc rp
      have hst₅ := stk hst₄ gi₄.ok st₅
      have sin₅ := sin₄.step st₅
      refine ⟨fun hv2 => ?_, fun hv2 => ?_⟩
      · have hc2 : c = 92 := (List.cons.inj (of_decide_eq_true (hv.symm.trans hv2))).1
        rw [if_pos hc2] at hits hfin ⊢
        exact setf _ rfl a4 true B.a4 s₀ s₅ pre false ⟨gi₅, hst₅, sin₅, hits, hfin⟩
      · have hc2 : ¬ c = 92 := fun q => of_decide_eq_false (hv.symm.trans hv2) (by rw [q])
        rw [if_neg hc2] at hits hfin ⊢
        have own := own_no (L := env.locals) (E := E) (I := I) (fin := fin) (m := (yl false (i + 1) (x.drop (i + 1))).length) fun h => lastE_len _ _ _ (hfin ▸ h)
        refine seg_execs_cons (g_yield (n := (yl false (i + 1) (x.drop (i + 1))).length) (p := i) (q2 := [c]) B.e B.al B.hc B.co rfl R rfl rfl rfl B.y2 gi₅ rp rfl (its_at hits) sin₅ (own.symm ▸ live gi₅ hst₅) fun s'' ok'' gi'' hown => ?_)
        rw [own] at hown
        exact seg_again rfl (ih (i + 1) s'' s'' false (.val (.str [c])) (pre ++ [(i, [c])]) len rfl ⟨gi'', W₀.frame _ _ _ hst₅ fun q hq o e => hown q (List.mem_cons_of_mem _ hq) o e, Sin.refl ok'', snoc_app hits, hfin⟩)
end
end Mine
namespace Mine
open PySem PySem.W PySem.W.X PyProof.Rows PySem.Calls
noncomputable def gvars : List (Str × Nat) := [(Str.ofString "addr", 0), (Str.ofString "pos", 1), (Str.ofString "escape", 2), (Str.ofString "ch", 3)]
section
variable {W : Wd} {d : Nat} {env : Env} {T : Tab} {F F' G : Frz} {ρ : Rho} {s s' : Shared} {A : Around} {C : Cx}
variable {ts : List Expr} {t1 t2 t3 : Expr} {es1 es2 es3 : List Expr} {a3 a4 : Stmt} {kt k1 k2 k3 kc1 kc2 : Nat} {pt tp1 tp2 tp3 yp1 yp2 yp3 ep1 ep2 ep3 ip1 ip2 ip3 np1 np2 np3 np4 cp1 cp2 ap1 ap2 qp1 fp : Pos}
theorem gi_of_ns {μ : Str → Option Value} {x : List Nat} {t : Tok} {ps : List Str} (hT : T.vars = gvars) (sc : CloSc T 4 0 ps env.scope.names []) (al : AllLocal env T) (hc : env.cells = []) (ok : HOk W s.heap) (hL : W.base env.locals = none) (hn : s.heap.Ns env.locals μ)
    (h1 : μ (Str.ofString "addr") = some (.str ⟨x.toArray⟩ t)) {u : Tok} (h2 : μ (Str.ofString "pos") = some (.int 0 u)) (h3 : μ (Str.ofString "escape") = some (.bool false)) : GI W env T 4 (rhoG x (0 : Nat) false .unset) s where
  fb := fun _ _ e => e
  ok := ok
  fin := ok.base
  gin := noN_ok
  lf := hL
  lg := rfl
  rl := rfl
  len := sc.len
  inj := sc.inj
  cinj := fun y z c h => by rw [hc] at h; cases h
  wr := fun y i h _ => .inl (al y i h)
  vars := ⟨μ, hn, fun y i h => by
    have hk := al y i h
    rw [hT] at h
    have m : ∀ p ∈ gvars, env.kindOf p.1 = some .local → SlotOk W env W.base noN s.heap μ p.1 0 ((rhoG x (0 : Nat) false .unset).at p.2) := allm (fun hk => ⟨_, .inl ⟨hk, h1⟩, ⟨_, rfl⟩⟩) (allm (fun hk => ⟨_, .inl ⟨hk, h2⟩, ⟨_, rfl⟩⟩) (allm (fun hk => ⟨_, .inl ⟨hk, h3⟩, rfl⟩) (allm (fun _ => trivial) alln)))
    exact m (y, i) (mem_lookup h) hk⟩
  apart := fun y z i j xs ys hy hz hij hi hj => nomatch (show false = true from (congrArg Slot.plain hi).symm.trans (plain_at (rhoG_plain (s3 := .unset) rfl) i))
  clive := fun y c h => by rw [hc] at h; cases h
noncomputable abbrev gBody (ts : List Expr) (t1 t2 t3 : Expr) (es1 es2 es3 : List Expr) (a3 a4 : Stmt) (kt k1 k2 k3 kc1 kc2 : Nat) (pt tp1 tp2 tp3 yp1 yp2 yp3 ep1 ep2 ep3 ip1 ip2 ip3 np1 np2 np3 np4 cp1 cp2 ap1 ap2 qp1 fp : Pos) : List Stmt :=
  [.Assign [.Name (Str.ofString "pos") np1] (.Constant (.int 0) kc1 cp1) ap1, .Assign [.Name (Str.ofString "escape") np2] (.Constant (.bool false) kc2 cp2) ap2,
   .For (.Tuple ts kt pt) (.Call (.Name (Str.ofString "enumerate") np3) [.Name (Str.ofString "addr") np4] [] qp1) [fBody t1 t2 es1 es2 a3 a4 k1 k2 tp1 tp2 yp1 yp2 ep1 ep2 ip1 ip2] [] fp,
   .If t3 [.Expr (.Yield (some (.Tuple es3 k3 tp3)) yp3) ep3] [] ip3]
theorem g_func {A : Around} {x : List Nat} {tx : Tok} {bd : List Stmt} {ps : List Str} (hbd : bd = gBody ts t1 t2 t3 es1 es2 es3 a3 a4 kt k1 k2 k3 kc1 kc2 pt tp1 tp2 tp3 yp1 yp2 yp3 ep1 ep2 ep3 ip1 ip2 ip3 np1 np2 np3 np4 cp1 cp2 ap1 ap2 qp1 fp) (hT : T.vars = gvars) (sc : CloSc T 4 0 ps env.scope.names []) (ho : T.out (Str.ofString "enumerate") = true) (hm : W.mg (Str.ofString "enumerate") = none ∧ W.mb (Str.ofString "enumerate") = some (.type "enumerate"))
    (B : GB W C d T env ts t1 t2 t3 es1 es2 es3 a3 a4) (R₀ : Room (A.over (.func bd env) []) d)
    (R : ∀ E kont l₀ p₀, Room (A.over (flp ts t1 t2 es1 es2 a3 a4 kt k1 k2 pt tp1 tp2 yp1 yp2 ep1 ep2 ip1 ip2 E env) [.ret kont none false l₀ (.func bd env) p₀ []]) d)
    {μ : Str → Option Value} (hLb : W.base env.locals = none) (hn : s.heap.Ns env.locals μ) (hμ : μ (Str.ofString "addr") = some (.str ⟨x.toArray⟩ tx)) (ok : HOk W s.heap) :
    Seg (model W.prog W.w) A (GR W env.locals (s.heap.objs.size + 1) s.heap.objs.size (lastE false x)) (GY W env.locals (s.heap.objs.size + 1) s.heap.objs.size (lastE false x) (yl false 0 x)) (yl false 0 x).length s (.func bd env) ((model W.prog W.w).den (.func bd env)) [] s := by
  subst hbd
  have kpos : env.kindOf (Str.ofString "pos") = some .local := B.al _ 1 (by rw [hT]; rfl)
  have kesc : env.kindOf (Str.ofString "escape") = some .local := B.al _ 2 (by rw [hT]; rfl)
  have hL₀ : env.locals < s.heap.objs.size := hn.lt
  refine seg_func (sg_plain (wpAny_Assign_Name (wpAny_Constant_int (wpAny_storeName_local kpos hn (fun h₁ hn₁ hs₁ => ⟨rfl, ?_⟩) (fn_plain B.e)))))
  replace hs₁ : Heap.SameBut env.locals s.heap h₁ := hs₁
  refine sg_plain (wpAny_Assign_Name ?_)
  show wpAny _ _ (pure (Value.bool false)) _ _ _
  refine wpAny_pure (wpAny_storeName_local kesc hn₁ (fun h₂ hn₂ hs₂ => ⟨rfl, ?_⟩) (fn_plain B.e))
  replace hs₂ : Heap.SameBut env.locals h₁ h₂ := hs₂
  have hs : Heap.SameBut env.locals s.heap h₂ := hs₁.trans hs₂
  have ok₂ := (mod_ok ok (fun _ _ e => e) ok.base hLb (nr_ns hn) hs).1
  have gi := gi_of_ns (s := { s with heap := h₂, toks := s.toks + 1 + 1 + 1 }) hT sc B.al B.hc ok₂ hLb hn₂ (by rw [if_neg (by decide), if_neg (by decide)]; exact hμ) (by rw [if_neg (by decide), if_pos rfl]) (by rw [if_pos rfl])
  have hz₂ : h₂.objs.size = s.heap.objs.size := hs.1
  have hne : env.locals ≠ s.heap.objs.size := Nat.ne_of_lt hL₀
  have hne1 : env.locals ≠ s.heap.objs.size + 1 := Nat.ne_of_lt (Nat.lt_succ_of_lt hL₀)
  have hx0 : T.at (Str.ofString "addr") = some 0 := by unfold Tab.at; rw [hT]; rfl
  have hp : StarL [Expr.Name (Str.ofString "addr") np4] := ⟨fun _ => rfl, trivial⟩
  refine seg_execs_cons (sg_For (fun _ => rfl) (Call_ (load_built (gi.at B.e R₀) ho hm ?_) rfl))
  refine PySem.callWith_type (star_any hp).1 (evalArgs_any hp ?_)
  refine spliced_cons (wpAny_Name (load_var (k := fun v => v = .str x) (gi.at B.e R₀) hx0 rfl fun val v r hv => spliced_nil ?_) (at_name hx0).2.1)
  subst hv
  obtain ⟨tx', rfl⟩ := r
  refine call_enumerate_str fun h₃ hE hI hz₃ hk₃ => ?_
  replace hE : IsEnum h₃ (h₂.objs.size + 1) h₂.objs.size 0 .none := hE
  replace hI : h₃.IsStrIter h₂.objs.size (strIterType ⟨x.toArray⟩) ⟨x.toArray⟩ tx' 0 := hI
  replace hk₃ : ∀ b o, h₂.get? b = some o → h₃.get? b = some o := hk₃
  show wpAny _ _ (pyIter (.ref (h₂.objs.size + 1))) _ _ _
  refine wpAny_pyIter_enum hE ?_
  rw [hz₂] at hE hI ⊢
  have ok₃ : HOk W h₃ := ok₂.of hk₃
  have gi₃ : GI W env T 4 (rhoG x ((0 : Nat) : Int) false .unset) { s with heap := h₃, toks := s.toks + 1 + 1 + 1 } := gi.move B.al B.hc (rhoG_plain rfl) (fun _ _ e => e) ok₃ ok₃.base noN_ok hLb rfl fun o e => hk₃ _ _ e
  have sin₃ : Sin W [env.locals, s.heap.objs.size + 1, s.heap.objs.size] s { s with heap := h₃, toks := s.toks + 1 + 1 + 1 } := ⟨ok₃, fun a o _ hn e => hk₃ _ _ (hs.extBut a o (fun q => hn (q ▸ List.mem_cons_self)) e), Go.heap⟩
  have hb0 : ∀ a, s.heap.objs.size ≤ a → W.base a = none := fun a ha => none_of_not fun o q => absurd (Heap.lt_size (ok.base.is _ _ q)) (Nat.not_lt.mpr ha)
  refine sg_runOwn fun p => ?_
  refine g_loop (A := A) (x := x) (tx := tx') (E := s.heap.objs.size + 1) (I := s.heap.objs.size) (Nat.succ_ne_self _) hne1 hne (hb0 _ (Nat.le_succ _)) (hb0 _ (Nat.le_refl _)) B (its := yl false 0 x) (fin := lastE false x) (R _ _ _ _) ?_ x.length 0 s _ false .unset [] (Nat.zero_add _).symm rfl ⟨gi₃, ⟨⟨_, hE⟩, hI⟩, sin₃, rfl, rfl⟩
  intro s₀ s' b s3 pre hb h3 gi' sin hits
  refine seg_execs_cons (sg_If (B.t3.t env W.base _ s' _ (fun v => v = b) _ (gi'.at B.e R₀) rfl fun v s₄ F₄ st₄ hv => ?_))
  subst hv
  have gi₄ := gi'.step st₄ B.al B.hc (rhoG_plain h3)
  have sin₄ := sin.step st₄
  have own : v = true → ownE env.locals (s.heap.objs.size + 1) s.heap.objs.size (lastE false x) 0 = [env.locals] := fun h => if_pos ⟨hb ▸ h, rfl⟩
  cases v with
  | true =>
    refine ⟨fun _ => ?_, fun h => (nomatch h)⟩
    have hlive : Live W s₄.heap [env.locals] := let ⟨μ', hn', _⟩ := gi₄.vars; allm ⟨ns_no_tab gi₄.ok.ti hn', let ⟨o, _, _, e, _⟩ := hn'; ⟨o, e⟩⟩ alln
    refine seg_execs_cons (g_yield (n := 0) (p := x.length - 1) (q2 := [92]) B.e B.al B.hc B.co rfl R₀ rfl rfl rfl B.y3 gi₄ (rhoG_plain h3) rfl (its_at (r := []) hits) sin₄ ((own rfl).symm ▸ hlive) fun s'' ok'' gi'' hown => ?_)
    exact seg_end (.ok (.ret .none)) ⟨rfl, rfl, Sin.refl ok''⟩
  | false =>
    refine ⟨fun h => (nomatch h), fun _ => ?_⟩
    refine seg_end (.ok (.ret .none)) ⟨rfl, rfl, ?_⟩
    have : ownE env.locals (s.heap.objs.size + 1) s.heap.objs.size (lastE false x) 0 = [env.locals, s.heap.objs.size + 1, s.heap.objs.size] := own_no fun h => (nomatch hb.trans h)
    rw [this]; exact sin₄
end
end Mine
namespace Mine
open PySem PySem.W PySem.W.X PyProof.Rows PySem.Calls
section
variable {prog : Program} {w : World} {A : Around} {E : Value → Shared → Prop} {s : Shared}
theorem next_gen {a : Addr} {g n : Nat} {gs : GenState} {P : Nat → Shared → Shared → Prop} {Y : Protocol} {Q : Option Value → Shared → Prop} (hh : A.handled = none)
    (hl : s.heap.NoLimit) (hroom : A.depth < recursionLimit)
    (hg : s.heap.IsGen a g) (hgs : s.gens[g]? = some gs)
    (hgo : gs.Goes (model prog w) A.in1 (fun n s₀ r s₁ => r = .ok (.ret .none) ∧ P n s₀ s₁) Y n (.send .none) (s.setGen g .running))
    (hY : ∀ v s₁ gs', gs'.bare = true → Y (n - 1) (s.setGen g .running) v s₁ (fun r' s'' => match n with
        | 0 => False
        | m + 1 => gs'.Goes (model prog w) A.in1 (fun n s₀ r s₁ => r = .ok (.ret .none) ∧ P n s₀ s₁) Y m r' s'') → Q (some v) (s₁.setGen g gs'))
    (hP : ∀ s₁, P n (s.setGen g .running) s₁ → ∀ h', (∀ b o, s₁.heap.get? b = some o → h'.get? b = some o) → Q none { s₁.setGen g .finished with heap := h' }) :
    wpAny (model prog w) A (pyNext (.ref a)) Q E s := by
  unfold pyNext
  refine wpAny_bind (wpAny_attempt (wpAny_callSpecial?_slot (name := Str.ofString "__next__") hg.typeIs slot_gen_next
    (wpAny_call_entry slot_gen_next hg.typeIs entry_gen_next ?_ (args_gen_next _))))
  show wpAny _ A.in1 (Builtin.Generator.genWake (.ref a) (.send .none)) _ _ s
  unfold Builtin.Generator.genWake
  refine wpAny_bind (wpAny_holding (wpAny_genNumber hg (wpAny_bind (wpAny_genState hgs ?_))))
  cases gs with
  | running => exact hgo.elim
  | finished => exact hgo.elim
  | _ =>
    refine wpAny_bind (wpAny_roomToWake hl hroom ?_)
    show wpAny _ A.in1 (.resume g (.send .none) [] _) _ _ s
    refine wpAny_resumeQ hgs hgo (fun x s₁ hx => ?_) (fun v s₁ gs' hb hv => ?_)
    · obtain ⟨rfl, hp⟩ := hx
      show wpAny _ A.in1 (newExc (.type "StopIteration") [] >>= _) _ _ _
      refine wpAny_bind ?_
      simp only [newExc, newTuple]
      refine wpAny_bind (wpAny_newObj_type ?_ (by size_fits))
      refine wpAny_bind (m := firstArgMember _ _) (wpAny_of_eq (a := Value.none) (by first | rfl | (simp only [firstArgMember]; rfl)) ?_)
      refine wpAny_newObj_type ?_ (by size_fits)
      simp only [raiseNew]
      refine wpAny_bind (wpAny_bind (wpAny_handled ?_))
      first | rw [show A.in1.handled = none from hh] | rw [hh]
      refine wpAny_throw ?_
      refine wpAny_bind (wpAny_isInstance (T := "StopIteration") (b := true) ⟨_, Heap.get?_push_size _ rfl, rfl⟩ isSubtype_stop ?_)
      exact wpAny_pure (hP s₁ hp _ fun b o hb => Heap.get?_push_of_some _ (Heap.get?_push_of_some _ hb))
    · exact wpAny_pure ⟨v, rfl, wpAny_pure (hY v s₁ gs' hb hv)⟩
end
noncomputable def gmap (gi : Nat) (gs : GenState) : GMap := fun i => if i = gi then some gs else none
section
variable {W : Wd} {d : Nat} {s s' : Shared} {A : Around} {F : Frz}
inductive Woken (W : Wd) (A : Around) (L : Addr) (a : Addr) (fin : Bool) (its : List (Nat × List Nat)) (own : List Addr) (m : Nat) (gi : Nat) (gs : GenState) (s : Shared) : Prop
  | mk (E I : Addr) (hE : ∀ b ∈ ownE L E I fin m, b ∈ own ∨ s.heap.get? b = none) (na : a ∉ [L, E, I]) (go : gs.Goes (model W.prog W.w) A.in1 (GR W L E I fin) (GY W L E I fin its) m (.send .none) (s.setGen gi .running))
noncomputable def Susp (W : Wd) (A : Around) (L : Addr) (a : Addr) (fin : Bool) (its : List (Nat × List Nat)) (own : List Addr) (m : Nat) (gi : Nat) (gs : GenState) (h : Heap) : Prop :=
  ∀ s'' : Shared, HOk W s''.heap → (∀ b ∈ a :: own, ∀ o, h.get? b = some o → s''.heap.get? b = some o) → Woken W A L a fin its own m gi gs s''
theorem bare_set {g : Array GenState} {i : Nat} {x : GenState} (h : AllBare g) (hx : x.bare = true) : AllBare (g.setIfInBounds i x) := fun y hy => by
  rcases Array.mem_or_eq_of_mem_setIfInBounds hy with h' | h'
  · exact h y h'
  · rw [h']; exact hx
theorem gen_set_ne {s : Shared} {i j : Nat} {x y : GenState} (h : j ≠ i) (e : s.gens[j]? = some y) : (s.setGen i x).gens[j]? = some y := by
  simp [Shared.setGen, Ne.symm h, e]
theorem gmap_self {gi : Nat} {gs : GenState} : gmap gi gs gi = some gs := if_pos rfl
theorem gmap_ne {gi i : Nat} {gs : GenState} (h : gmap gi gs i ≠ none) : i = gi := Decidable.byContradiction fun q => h (if_neg q)
theorem gen_set_self {s : Shared} {i : Nat} {x y : GenState} (e : s.gens[i]? = some y) : (s.setGen i x).gens[i]? = some x := by
  have hlt := (Array.getElem?_eq_some_iff.mp e).1
  simp [Shared.setGen, hlt]
theorem atN_of {h : Heap} {l : List Addr} {b : Addr} {o : Obj} (hb : b ∈ l) (e : h.get? b = some o) : atN h l b = some o := (if_pos hb).trans e
theorem g_done {L a : Addr} {gi : Nat} {fin : Bool} {its : List (Nat × List Nat)} (hh : A.handled = none) (hroom : A.depth < recursionLimit) {own : List Addr} {h : Heap} {gs : GenState} (hS : Susp W A L a fin its own 0 gi gs h) (hg : h.IsGen a gi) (hlive : Live W h (a :: own)) {F' : Frz} (p : IPre W F (atN h (a :: own)) (gmap gi gs) s F') :
    wpAny (model W.prog W.w) A (pyNext (.ref a)) (fun r s₁ => r = none ∧ ∃ F₁, IStep W (atN h (a :: own)) (gmap gi gs) s F' s₁ F₁ noN noG) noE s := by
  have hown : ∀ b ∈ a :: own, ∀ o, h.get? b = some o → s.heap.get? b = some o := fun b hb o e => p.nis.is b o (atN_of hb e)
  obtain ⟨E, I, hE, haE, hgo⟩ := hS s p.ok hown
  have hgs : s.gens[gi]? = some gs := p.gis gi gs gmap_self
  obtain ⟨og, nm, qn, hog, hg'⟩ := hg
  refine next_gen (P := fun n s₀ s₁ => n = 0 ∧ Sin W (ownE L E I fin 0) s₀ s₁) hh (W.hlim _ p.ok.base.is) hroom ⟨og, nm, qn, hown a List.mem_cons_self _ hog, hg'⟩ hgs hgo (fun v s₁ gs' hb' hy => ?_) fun s₁ hP h' hk' => ?_
  · obtain ⟨q, ta, t, u, _, _, _, _, _, _, sin, _, hk⟩ := hy
    exact (hk s₁ sin.ok fun _ _ _ e => e).elim
  · have sin := hP.2
    have hN : ∀ b, b ∈ own → atN h (a :: own) b ≠ none := fun b hb => let ⟨_, o', ho'⟩ := hlive b (List.mem_cons_of_mem _ hb); ne_none (atN_of (List.mem_cons_of_mem _ hb) ho')
    have hF' : ∀ b o, F' b = some o → b ∉ ownE L E I fin 0 := fun b o e hb => (hE b hb).elim (fun q => nomatch (p.ndis b (hN b q)).symm.trans e) fun q => nomatch q.symm.trans (p.fin.is _ _ e)
    have ok' : HOk W h' := sin.ok.of hk'
    exact ⟨rfl, F', ⟨⟨ok', ⟨fun b o e => hk' _ _ (sin.since b o (fun q => nomatch (p.fin.tab b q).symm.trans e) (hF' b o e) (p.fin.is _ _ e)), p.fin.tab⟩, fun _ _ e => e, fun _ _ e => .inl e,
      fun b o ht hx e => hk' _ _ (sin.since b o ht (fun hb => (hE b hb).elim (fun q => hx (hN b q)) fun q => nomatch q.symm.trans e) e), sin.go.os, fun i x hx e => have hi : i ≠ gi := fun q => hx (q ▸ ne_none gmap_self); gen_set_ne hi (sin.go.gens i x (gen_set_ne hi e)), fun e => bare_set (sin.go.bare (bare_set e rfl)) rfl⟩,
      fun b q => absurd rfl q, noN_ok, fun b q => absurd rfl q, fun b q => absurd rfl q, fun b o e => nomatch e⟩⟩
end
end Mine
namespace Mine
open PySem PySem.W PySem.W.X PyProof.Rows PySem.Calls
section
variable {W : Wd} {d : Nat} {s s' : Shared} {A : Around} {F F' : Frz} {L a : Addr} {gi : Nat} {fin : Bool} {its : List (Nat × List Nat)}
noncomputable def tupQ (q : Nat × List Nat) (t u : Tok) : Obj := tupObj [.int q.1 t, .str ⟨q.2.toArray⟩ u] 0
theorem g_step {own own' : List Addr} {h : Heap} {gs gs' : GenState} {s₁ : Shared} {ta : Addr} {q : Nat × List Nat} {t u : Tok} {LEI : List Addr} (hlive : Live W h (a :: own)) (p : IPre W F (atN h (a :: own)) (gmap gi gs) s F') (hb' : gs'.bare = true)
    (hdom : ∀ b ∈ LEI, b ∈ own ∨ s.heap.get? b = none) (haE : a ∉ LEI) (hsub : ∀ b ∈ own', b ∈ LEI) (sin : Sin W LEI (s.setGen gi .running) s₁) (htup : s₁.heap.get? ta = some (tupQ q t u)) (hfresh : s.heap.get? ta = none ∨ ta ∈ LEI) (hta : ta ∉ own') (htt : ta ∉ W.tabs) (hl₁ : Live W s₁.heap own') :
    IStep W (atN h (a :: own)) (gmap gi gs) s F' (s₁.setGen gi gs') (F'.put ta (tupQ q t u)) (atN s₁.heap (a :: own')) (gmap gi gs') := by
  have hN : ∀ b, b ∈ a :: own → atN h (a :: own) b ≠ none := fun b hb => let ⟨_, o', ho'⟩ := hlive b hb; ne_none (atN_of hb ho')
  have hLEI : ∀ b, b ∈ LEI → F' b = none := fun b hb => (hdom b hb).elim (fun z => p.ndis b (hN b (List.mem_cons_of_mem _ z))) fun z => none_of_not fun o e => nomatch z.symm.trans (p.fin.is _ _ e)
  obtain ⟨ht0, og, hog⟩ := hlive a List.mem_cons_self
  have ha0 : s.heap.get? a = some og := p.nis.is a og (atN_of List.mem_cons_self hog)
  have hFta : F' ta = none := hfresh.elim (fun f => none_of_not fun o e => nomatch f.symm.trans (p.fin.is _ _ e)) (hLEI ta)
  have hta_a : ta ≠ a := fun z => hfresh.elim (fun f => nomatch (z ▸ f : s.heap.get? a = none).symm.trans ha0) fun f => haE (z ▸ f)
  have hgs : s.gens[gi]? = some gs := p.gis gi gs gmap_self
  have hN1 : ∀ b, atN s₁.heap (a :: own') b ≠ none → b = a ∨ b ∈ own' := fun b hb => List.mem_cons.mp (atN_ne hb)
  have st : Step W (ofN (atN h (a :: own)) (gmap gi gs)) s F' (s₁.setGen gi gs') (F'.put ta (tupQ q t u)) := {
      ok := sin.ok
      fin := ⟨fun b o e => by
        by_cases z : b = ta
        · subst z; rw [Frz.put_self] at e; exact e ▸ htup
        · rw [put_ne z] at e
          exact sin.since b o (fun z => nomatch (p.fin.tab b z).symm.trans e) (fun z => nomatch (hLEI b z).symm.trans e) (p.fin.is _ _ e), fun b hb => (put_ne (F := F') (b := b) (a := ta) fun z => htt (z ▸ hb)).trans (p.fin.tab b hb)⟩
      le := Frz.put_le hFta
      new := fun b o e => by
        by_cases z : b = ta
        · subst z
          exact hfresh.elim (fun f => .inr (.inl f)) fun f => (hdom b f).elim (fun y => .inr (.inr (hN b (List.mem_cons_of_mem _ y)))) fun y => .inr (.inl y)
        · rw [put_ne z] at e; exact .inl e
      keep := fun b o ht hx e => sin.since b o ht (fun z => (hdom b z).elim (fun y => hx (hN b (List.mem_cons_of_mem _ y))) fun y => nomatch y.symm.trans e) e
      os := sin.go.os
      gens := fun i x hx e => (fun hi : i ≠ gi => gen_set_ne hi (sin.go.gens i x (gen_set_ne hi e))) fun z => hx (z ▸ ne_none gmap_self)
      bare := fun e => bare_set (sin.go.bare (bare_set e rfl)) hb' }
  exact {
    step := st
    nsub := fun b hb => (hN1 b hb).elim (fun z => .inl (z ▸ hN a List.mem_cons_self)) fun z => (hdom b (hsub b z)).imp (fun y => hN b (List.mem_cons_of_mem _ y)) id
    nis := ⟨fun b o e => (atN_some.mp e).2, fun b hb => atN_none fun z => (List.mem_cons.mp z).elim (fun z => ht0 (z ▸ hb)) fun z => (hl₁ b z).1 hb⟩
    ndis := fun b hb => (put_ne (F := F') (b := b) (a := ta) fun z => (hN1 b hb).elim (fun y => hta_a (z.symm.trans y)) fun y => hta (z ▸ y)).trans ((hN1 b hb).elim (fun z => p.ndis b (z ▸ hN a List.mem_cons_self)) fun z => hLEI b (hsub b z))
    gsub := fun i hi => .inl (gmap_ne hi ▸ ne_none gmap_self)
    gis := fun i x e => by
      obtain rfl := gmap_ne (ne_none e)
      obtain rfl := Option.some.inj (gmap_self.symm.trans e)
      exact gen_set_self (sin.go.gens i .running (gen_set_self hgs)) }
theorem g_ready (hh : A.handled = none) (hroom : A.depth < recursionLimit) (target : Expr) :
    ∀ (rest pre : List (Nat × List Nat)) (own : List Addr) (F : Frz) (h : Heap) (gs : GenState), its = pre ++ rest → Susp W A L a fin its own rest.length gi gs h → h.IsGen a gi → Live W h (a :: own) → gs.bare = true →
      Ready W A target (.ref a) (rest.map escP) F (atN h (a :: own)) (gmap gi gs)
  | [], pre, own, F, h, gs, hits, hS, hg, hlive, hb => fun s F' p => g_done hh hroom hS hg hlive p
  | q0 :: rest, pre, own, F, h, gs, hits, hS, hg, hlive, hb => fun s F' p => by
    obtain ⟨E, I, hE, haE, hgo⟩ := hS s p.ok fun b hb o e => p.nis.is b o (atN_of hb e)
    have hgs : s.gens[gi]? = some gs := p.gis gi gs gmap_self
    obtain ⟨og, nm, qn, hog, hg'⟩ := hg
    have ha0 := p.nis.is a og (atN_of List.mem_cons_self hog)
    have hdom : ∀ b ∈ [L, E, I], b ∈ own ∨ s.heap.get? b = none := fun b hb => hE b ((own_no fun _ => Nat.succ_pos rest.length).symm ▸ hb)
    refine next_gen (P := fun n s₀ s₁ => n = 0 ∧ Sin W (ownE L E I fin 0) s₀ s₁) hh (W.hlim _ p.ok.base.is) hroom ⟨og, nm, qn, ha0, hg'⟩ hgs hgo (fun v s₁ gs' hb' hy => ?_) fun s₁ hP h' hk' => nomatch hP.1
    obtain ⟨q, ta, t, u, hidx, rfl, htup, hfresh, hta, htt, sin, hl₁, hk⟩ := hy
    obtain rfl : q = q0 := Option.some.inj (hidx.symm.trans (its_at hits))
    have ha1 : s₁.heap.get? a = some og := sin.since a og (hlive a List.mem_cons_self).1 haE ha0
    refine ⟨_, rfl, go_plain (T := "generator") ⟨og, ha1, hg'.1⟩ (by decide) ⟨_, _, _, g_step hlive p hb' hdom haE (fun b hb => own_mem hb) sin htup hfresh hta htt hl₁, .rel (.tup (Frz.put_self ..) ⟨_, _, rfl, ⟨t, rfl⟩, _, _, rfl, ⟨u, rfl⟩, rfl⟩), ?_⟩⟩
    exact g_ready hh hroom target rest (pre ++ [q]) _ _ s₁.heap gs' (snoc_app hits) (fun s'' ok'' hk'' => ⟨E, I, fun b hb => .inl hb, haE, hk (s''.setGen gi .running) ok'' fun b hb o e => hk'' b (List.mem_cons_of_mem _ hb) o e⟩) ⟨og, nm, qn, ha1, hg'⟩ (allm ⟨(hlive a List.mem_cons_self).1, og, ha1⟩ hl₁) hb'
end
end Mine
namespace Mine
open PySem PySem.W PySem.W.X PyProof.Rows PySem.Calls
theorem yl_esc : ∀ (l : List Nat) (i : Nat), yl false i l = escG i l
  | [], i => rfl
  | [c], i => by
    show (if c = 92 then [(i + 1 - 1, [92])] else (i, [c]) :: yl false (i + 1) []) = if c = 92 then _ else (i, [c]) :: escG (i + 1) []
    split
    · rw [Nat.add_sub_cancel]
    · rw [yl_esc [] (i + 1)]
  | c :: x :: r, i => by
    show (if c = 92 then (i + 1, [92, x]) :: yl false (i + 1 + 1) r else (i, [c]) :: yl false (i + 1) (x :: r)) = if c = 92 then (i + 1, [92, x]) :: escG (i + 2) r else (i, [c]) :: escG (i + 1) (x :: r)
    rw [yl_esc r (i + 2), yl_esc (x :: r) (i + 1)]
theorem room_func {A : Around} {d : Nat} {b : List Stmt} {env : Env} (R : Room A (d + 2)) : Room (A.in1.over (.func b env) []) d := ⟨R.handled, by
  have hd := R.depth
  show A.depth + 0 + 1 + d ≤ 690; omega, by
  have hu := R.units
  show A.units + 1 + 0 + 3 + 12 * d ≤ 9600; omega⟩
theorem room_loop {A : Around} {d : Nat} {b bl : List Stmt} {env : Env} {tgt : Expr} {it : Value} {kont : Result → Sem PySem.Fin} {l₀ : List Value} {p₀ : Pos} (R : Room A (d + 2)) (h0 : Code.weight (.forLoop tgt it bl [] env) = 0 := by rfl) (h1 : Code.cUnits (.forLoop tgt it bl [] env) = 0 := by rfl) : Room (A.in1.over (.forLoop tgt it bl [] env) [.ret kont none false l₀ (.func b env) p₀ []]) d := ⟨R.handled, by
  have hd := R.depth
  show A.depth + 1 + Code.weight (.forLoop tgt it bl [] env) + d ≤ 690
  rw [h0]; omega, by
  have hu := R.units
  show A.units + 1 + 3 + Code.cUnits (.forLoop tgt it bl [] env) + 12 * d ≤ 9600
  rw [h1]; omega⟩
noncomputable def gnm : Str := Str.ofString "_iter_escaped_chars"
noncomputable def gT : Tab := tabOf (fsc gnm).names
structure GSnd (W : Wd) (C : Cx) (d : Nat) (t1 t2 t3 : Expr) (es1 es2 es3 : List Expr) (a3 a4 : Stmt) : Prop where
  t1 : SndE W C d gT 4 t1 (xVar 2)
  t2 : SndE W C d gT 4 t2 (xBin cEq (xVar 3) (xStr [92]))
  t3 : SndE W C d gT 4 t3 (xVar 2)
  y1 : SndL W C d gT 4 es1 [xVar 1, xBin bAdd (xStr [92]) (xVar 3)]
  y2 : SndL W C d gT 4 es2 [xVar 1, xVar 3]
  y3 : SndL W C d gT 4 es3 [xVar 1, xStr [92]]
  a3 : OkS W C d gT 4 a3 (sAssign 2 (rVal (xBool false)))
  a4 : OkS W C d gT 4 a4 (sAssign 2 (rVal (xBool true)))
inductive GShape : Prop
  | mk (ts : List Expr) (t1 t2 t3 : Expr) (es1 es2 es3 : List Expr) (a3 a4 : Stmt) (kt k1 k2 k3 kc1 kc2 : Nat) (pt tp1 tp2 tp3 yp1 yp2 yp3 ep1 ep2 ep3 ip1 ip2 ip3 np1 np2 np3 np4 cp1 cp2 ap1 ap2 qp1 fp : Pos)
    (h : fb gnm = gBody ts t1 t2 t3 es1 es2 es3 a3 a4 kt k1 k2 k3 kc1 kc2 pt tp1 tp2 tp3 yp1 yp2 yp3 ep1 ep2 ep3 ip1 ip2 ip3 np1 np2 np3 np4 cp1 cp2 ap1 ap2 qp1 fp) (tg : NamesAre gT ts [1, 3])
    (s : ∀ {W : Wd} {C : Cx} {d : Nat}, CfgOk cfg2 W C d → GSnd W C d t1 t2 t3 es1 es2 es3 a3 a4)
theorem g_shape : GShape := ⟨_, _, _, _, _, _, _, _, _, _, _, _, _, _, _, _, _, _, _, _, _, _, _, _, _, _, _, _, _, _, _, _, _, _, _, _, _, _, rfl, Rs.of (o := namesV gT _) rfl, fun cf =>
  ⟨Rs.of (o := mkE cf 40 gT 4 _) rfl, Rs.of (o := mkE cf 40 gT 4 _) rfl, Rs.of (o := mkE cf 40 gT 4 _) rfl, Rs.of (o := mkL (mkE cf 40) gT 4 _) rfl, Rs.of (o := mkL (mkE cf 40) gT 4 _) rfl, Rs.of (o := mkL (mkE cf 40) gT 4 _) rfl, Rs.of (o := mkS cf gT 4 40 _) rfl, Rs.of (o := mkS cf gT 4 40 _) rfl⟩⟩
theorem g_sc : CloSc gT 4 0 [Str.ofString "addr"] (fsc gnm).names [] := CloSc.of rfl
theorem size_none {h : Heap} {a : Addr} (ha : h.objs.size ≤ a) : h.get? a = none := none_of_not' fun o q => absurd (Heap.lt_size q) (Nat.not_lt.mpr ha)
inductive GenP (vs : List V) (K : List V → Prop) : Prop
  | mk (x : List Nat) (h : vs = [.str x]) (l : x.length ≤ 2000000) (k : K (escV x))
noncomputable def genO (fd : FuncData) (s : Shared) : Obj := { cls := .type "generator", data := .fields #[.int s.gens.size 0, .str fd.name (s.toks + 1), .str fd.qualname (s.toks + 1 + 1)] }
section
variable {W : Wd} {d : Nat} {s : Shared} {A : Around} {F : Frz} {C : Cx} {a : Addr} {fd : FuncData} {o : Obj}
theorem gen_src {x : List Nat} {tx : Tok} {target : Expr} {h' : Heap} (cf : CfgOk cfg2 W C d) (h : FnIs W a [Str.ofString "addr"] (fb gnm) (fsc gnm) fd o) (hm : W.mg (Str.ofString "enumerate") = none ∧ W.mb (Str.ofString "enumerate") = some (.type "enumerate")) (R : Room A (d + 2)) (of : OF W F s)
    (hn : h'.Ns s.heap.objs.size fun y => [(Str.ofString "addr", Value.str ⟨x.toArray⟩ tx)].reverse.lookup y) (hs : Heap.SameBut s.heap.objs.size (s.heap.push { cls := .type "frame", data := .dict #[] }) h') :
    ∃ N g, Src W A target s F (.ref h'.objs.size) (escV x) { s with heap := h'.push (genO fd s), gens := s.gens.push (.fresh (.func (fb gnm) (newEnv fd.scope s.heap.objs.size fd.globals [] (fd.qualname ++ ".<locals>.") (some a) fd.code none fd.builtins))), toks := s.toks + 1 + 1 + 1 } F N g ∧ N h'.objs.size = some (genO fd s) := by
  obtain ⟨ts, t1, t2, t3, es1, es2, es3, a3, a4, kt, k1, k2, k3, kc1, kc2, pt, tp1, tp2, tp3, yp1, yp2, yp3, ep1, ep2, ep3, ip1, ip2, ip3, np1, np2, np3, np4, cp1, cp2, ap1, ap2, qp1, fp, hb, tg, sn⟩ := g_shape
  have S := sn cf
  have hsz : h'.objs.size = s.heap.objs.size + 1 := hs.1.trans (Heap.size_push ..)
  have keep : ∀ b o, s.heap.get? b = some o → h'.get? b = some o := fun b o e => hs.extBut b o (Nat.ne_of_lt (Heap.lt_size e)) (Heap.get?_push_of_some _ e)
  generalize henv : newEnv fd.scope s.heap.objs.size fd.globals [] (fd.qualname ++ ".<locals>.") (some a) fd.code none fd.builtins = env
  have eL : env.locals = s.heap.objs.size := by subst henv; rfl
  have eS : env.scope = fsc gnm := by subst henv; exact h.sc
  have eC : env.cells = [] := by subst henv; rfl
  have al : AllLocal env gT := fun y i hy => kind_of eS (g_sc.loc y i hy (Nat.zero_le _))
  have G : GB W C d gT env ts t1 t2 t3 es1 es2 es3 a3 a4 := ⟨⟨fun y hy => (nomatch hy), by rw [eS]; rfl, by subst henv; exact h.gl, by subst henv; exact h.bu, fun g hg => kind_of eS (g_sc.glob g hg)⟩, al, eC, by rw [eS]; rfl, tg, S.t1, S.t2, S.t3, S.y1, S.y2, S.y3, S.a3, S.a4⟩
  have ok' : HOk W h' := of.ok.of keep
  rw [← eL] at hn
  have hng : h'.objs.size ∉ W.tabs := fun q => Nat.lt_irrefl _ (ok'.tabLt q)
  have hnL : env.locals ∉ W.tabs := ns_no_tab ok'.ti hn
  have hgo : (h'.push (genO fd s)).get? h'.objs.size = some (genO fd s) := Heap.get?_push_size _ rfl
  have hg : (h'.push (genO fd s)).IsGen h'.objs.size s.gens.size := ⟨_, .str fd.name (s.toks + 1), .str fd.qualname (s.toks + 1 + 1), hgo, rfl, rfl, rfl⟩
  have hnP := hn.at fun o e => Heap.get?_push_of_some (genO fd s) e
  have hLn : s.heap.get? env.locals = none := size_none (Nat.le_of_eq eL.symm)
  have hgn : s.heap.get? h'.objs.size = none := size_none (hsz ▸ Nat.le_succ _)
  have hLg : h'.objs.size ≠ env.locals := by rw [eL, hsz]; exact Nat.succ_ne_self _
  have live : Live W (h'.push (genO fd s)) [h'.objs.size, env.locals] := allm ⟨hng, _, hgo⟩ (allm ⟨hnL, let ⟨o, _, _, e, _⟩ := hnP; ⟨o, e⟩⟩ alln)
  have out : ∀ b, atN (h'.push (genO fd s)) [h'.objs.size, env.locals] b ≠ none → s.heap.get? b = none := fun b hb => (List.mem_cons.mp (atN_ne hb)).elim (fun z => z ▸ hgn) fun z => List.mem_singleton.mp z ▸ hLn
  have wake : Susp W A env.locals h'.objs.size (lastE false x) (yl false 0 x) [env.locals] (yl false 0 x).length s.gens.size (.fresh (.func (fb gnm) env)) (h'.push (genO fd s)) := fun s'' ok'' hk'' => by
    have hnS := hnP.at fun o e => hk'' _ (List.mem_cons_of_mem _ List.mem_cons_self) o e
    have hag : h'.objs.size < s''.heap.objs.size := Heap.lt_size (hk'' _ List.mem_cons_self _ hgo)
    refine ⟨s''.heap.objs.size + 1, s''.heap.objs.size, fun b hb => ?_, fun hm => ?_, rfl, g_func (A := A.in1) (s := s''.setGen s.gens.size .running) (ps := [Str.ofString "addr"]) hb rfl (eS ▸ g_sc) rfl hm G (room_func R) (fun _ _ _ _ => room_loop R) (none_of_not fun o q => (nomatch hLn.symm.trans (of.ok.base.is _ _ q))) hnS rfl ok''⟩
    · exact allm (P := fun b => b ∈ [env.locals] ∨ s''.heap.get? b = none) (.inl List.mem_cons_self) (allm (.inr (size_none (Nat.le_succ _))) (allm (.inr (size_none (Nat.le_refl _))) alln)) b (own_mem hb)
    · exact allm (P := fun b => b ≠ h'.objs.size) (Ne.symm hLg) (allm (fun z => Nat.lt_irrefl _ (Nat.lt_trans hag (z ▸ Nat.lt_succ_self _))) (allm (fun z => Nat.lt_irrefl _ (z ▸ hag)) alln)) _ hm rfl
  refine ⟨atN (h'.push (genO fd s)) [h'.objs.size, env.locals], gmap s.gens.size (.fresh (.func (fb gnm) env)), ⟨⟨ok'.push _, ⟨fun b o e => Heap.get?_push_of_some _ (keep _ _ (of.fin.is _ _ e)), of.fin.tab⟩, fun _ _ e => e, fun _ _ e => .inl e, fun b o _ _ e => Heap.get?_push_of_some _ (keep _ _ e), rfl, fun i g _ e => ?_, fun e => e.push rfl⟩,
    ⟨fun b o e => (atN_some.mp e).2, fun b hb => atN_none fun z => (live b z).1 hb⟩, fun i g e => ?_, out, fun b hb => none_of_not fun o q => (nomatch (out b hb).symm.trans (of.fin.is _ _ q)), fun i hi => ?_, ?_, fun s' Q hN _ q => ?_⟩, atN_some.mpr ⟨List.mem_cons_self, hgo⟩⟩
  · have hlt := (Array.getElem?_eq_some_iff.mp e).1
    exact (Array.getElem?_push_lt hlt).trans ((Array.getElem?_eq_getElem hlt).symm.trans e)
  · obtain rfl := gmap_ne (ne_none e)
    exact Array.getElem?_push_size.trans (gmap_self.symm.trans e)
  · rw [gmap_ne hi]; exact Array.getElem?_eq_none (Nat.le_refl _)
  · rw [show escV x = (yl false 0 x).map escP by rw [yl_esc]; rfl]
    exact g_ready (L := env.locals) (fin := lastE false x) (its := yl false 0 x) R.handled R.lt target (yl false 0 x) [] [env.locals] F _ _ rfl wake hg live rfl
  · exact wpAny_pyIter_gen ⟨_, .str fd.name (s.toks + 1), .str fd.qualname (s.toks + 1 + 1), hN.is _ _ (atN_of List.mem_cons_self hgo), rfl, rfl, rfl⟩ q
theorem gen_isgen {N : Frz} {b : Addr} {hh : Heap} (e : N b = some (genO fd s)) (h : ∀ a o, N a = some o → hh.get? a = some o) : hh.IsGen b s.gens.size := ⟨_, .str fd.name (s.toks + 1), .str fd.qualname (s.toks + 1 + 1), h _ _ e, rfl, rfl, rfl⟩
theorem gen_call (cf : CfgOk cfg2 W C d) (h : FnIs W a [Str.ofString "addr"] (fb gnm) (fsc gnm) fd o) (hm : W.mg (Str.ofString "enumerate") = none ∧ W.mb (Str.ofString "enumerate") = some (.type "enumerate")) : CallGen W true (d + 4) a GenP := fun A s F vals vs K R of rl ⟨x, hv, hlx, hk⟩ => by
  subst hv
  obtain ⟨_, _, rfl, ⟨tx, rfl⟩, rfl⟩ := rl
  have hbase := of.ok.base.is
  have sc := h.sc
  have made : ∀ (P : Value → Shared → Prop), (∀ h' : Heap, h'.Ns s.heap.objs.size (fun y => [(Str.ofString "addr", Value.str ⟨x.toArray⟩ tx)].reverse.lookup y) → Heap.SameBut s.heap.objs.size (s.heap.push { cls := .type "frame", data := .dict #[] }) h' →
      P (.ref h'.objs.size) { s with heap := h'.push (genO fd s), gens := s.gens.push (.fresh (.func (fb gnm) (newEnv fd.scope s.heap.objs.size fd.globals [] (fd.qualname ++ ".<locals>.") (some a) fd.code none fd.builtins))), toks := s.toks + 1 + 1 + 1 }) → wpAny (model W.prog W.w) A (call (.ref a) [.str ⟨x.toArray⟩ tx]) P noE s := fun P hP => by
    refine wpAny_call (codeAny_call_generator R.lt (hbase _ _ h.base) h.data (by rw [sc]; rfl) (by rw [sc]; rfl) h.bd (h.code _ hbase) ?_)
    rw [h.bind _ rfl, h.clo]
    refine wpAny_pure (wpAny_newFunctionEnv (fun y hy => g_sc.kinds y (sc ▸ hy)) (allm (by rw [sc]; rfl) alln) (fun h' hn hs => ⟨W.hlim _ (of.ok.of fun b o e => hs.extBut b o (Nat.ne_of_lt (Heap.lt_size e)) (Heap.get?_push_of_some _ e)).base.is, ?_⟩) (by rw [sc]; rfl))
    exact hP h' hn hs
  refine ⟨fun target Q ks => made _ fun h' hn hs => ?_, fun _ Q k => made _ fun h' hn hs => ?_⟩
  · obtain ⟨N, g, src, e⟩ := gen_src (target := target) cf h hm (R.weak (Nat.le_add_right (d + 2) 2)) of hn hs
    exact wpAny_pyIter_gen (gen_isgen e src.nis.is) (ks _ _ F N g (escV x) src hk)
  · obtain ⟨N, g, src, e⟩ := gen_src (A := A.in1.in1) (target := .Name ("_" : Str) ⟨0, 0, 0, 0⟩) cf h hm (Room.in1 (Room.in1 R)) of hn hs
    have hle := (escG_le _ x 0 (Nat.le_refl _)).1
    refine call_list_src src of.fb (by rw [e]; simp) (fun hh q => let ⟨o, _, _, e, _, _, _⟩ := gen_isgen e q; ⟨genO fd s, q _ _ (by assumption), rfl⟩) ?_ hk k
    show ((escG 0 x).map escP).length ≤ 10000000
    rw [List.length_map]; omega
end
end Mine
namespace Mine
open PySem PySem.W PySem.W.X PyProof.Rows PySem.Calls
theorem fns2_uniq : (fns2.all fun p => fns2.all fun q => p.2 != q.2 || p.1 == q.1) = true := by decide +kernel
theorem fns2_name {k : Nat} {nm : Str} (h : (nm, k) ∈ fns2) {g : Str} (hg : fns2.lookup g = some k) : g = nm :=
  (eq_of_beq ((Bool.or_eq_true_iff.mp (List.all_eq_true.mp (List.all_eq_true.mp fns2_uniq _ h) _ (mem_lookup hg))).resolve_left fun q => by rw [bne_self_eq_false] at q; cases q)).symm
structure FnT (nm : Str) (ps : List Str) : Prop where
  scope : scopeFn (fsc nm) ps = true
  bind : ∀ (pm code doc : Value) (vals : List Value), vals.length = ps.length → bindArgs (docDef nm (fpar nm) (fb nm) (fsc nm) pm code doc) ⟨vals, []⟩ = pure (ps.zip vals)
section
variable {P : List Value → Prop} {n : Nat}
theorem b0 (h : P []) (r : List Value) (hl : r.length = 0) : P r := List.eq_nil_of_length_eq_zero hl ▸ h
theorem bc (h : ∀ a r, r.length = n → P (a :: r)) : ∀ vals : List Value, vals.length = n + 1 → P vals
  | [], hl => nomatch hl
  | a :: r, hl => h a r (Nat.succ.inj hl)
theorem b1 (h : ∀ a, P [a]) : ∀ vals : List Value, vals.length = 1 → P vals := bc fun a => b0 (P := fun r => P (a :: r)) (h a)
theorem b2 (h : ∀ a b, P [a, b]) : ∀ vals : List Value, vals.length = 2 → P vals := bc fun a => b1 (P := fun r => P (a :: r)) (h a)
theorem b3 (h : ∀ a b c, P [a, b, c]) : ∀ vals : List Value, vals.length = 3 → P vals := bc fun a => b2 (P := fun r => P (a :: r)) (h a)
theorem b4 (h : ∀ a b c d, P [a, b, c, d]) : ∀ vals : List Value, vals.length = 4 → P vals := bc fun a => b3 (P := fun r => P (a :: r)) (h a)
theorem b5 (h : ∀ a b c d e, P [a, b, c, d, e]) : ∀ vals : List Value, vals.length = 5 → P vals := bc fun a => b4 (P := fun r => P (a :: r)) (h a)
theorem b6 (h : ∀ a b c d e f, P [a, b, c, d, e, f]) : ∀ vals : List Value, vals.length = 6 → P vals := bc fun a => b5 (P := fun r => P (a :: r)) (h a)
end
theorem ft_gen : ∀ (pm code doc : Value) (vals : List Value), vals.length = 1 → bindArgs (docDef gnm (fpar gnm) (fb gnm) (fsc gnm) pm code doc) ⟨vals, []⟩ = pure ([Str.ofString "addr"].zip vals) := fun _ _ _ => b1 fun _ => rfl
theorem ft_strip : FnT (Str.ofString "_strip_quoted_realnames") [Str.ofString "addr"] := ⟨rfl, fun _ _ _ => b1 fun _ => rfl⟩
theorem ft_check : FnT (Str.ofString "_check_parenthesis") [Str.ofString "addr"] := ⟨rfl, fun _ _ _ => b1 fun _ => rfl⟩
theorem ft_div2 : FnT (Str.ofString "_div2n1n") [Str.ofString "a", Str.ofString "b", Str.ofString "n"] := ⟨rfl, fun _ _ _ => b3 fun _ _ _ => rfl⟩
theorem ft_div3 : FnT (Str.ofString "_div3n2n") [Str.ofString "a12", Str.ofString "a3", Str.ofString "b", Str.ofString "b1", Str.ofString "b2", Str.ofString "n"] := ⟨rfl, fun _ _ _ => b6 fun _ _ _ _ _ _ => rfl⟩
theorem ft_i2d : FnT inm [Str.ofString "a", Str.ofString "n"] := ⟨rfl, fun _ _ _ => b2 fun _ _ => rfl⟩
theorem ft_d2i : FnT dnm [Str.ofString "digits", Str.ofString "n"] := ⟨rfl, fun _ _ _ => b2 fun _ _ => rfl⟩
theorem ft_divpos : FnT (Str.ofString "_divmod_pos") [Str.ofString "a", Str.ofString "b"] := ⟨rfl, fun _ _ _ => b2 fun _ _ => rfl⟩
theorem ft_intdiv : FnT (Str.ofString "int_divmod") [Str.ofString "a", Str.ofString "b"] := ⟨rfl, fun _ _ _ => b2 fun _ _ => rfl⟩
theorem ft_em : FnT (Str.ofString "_ellipsis_match") [Str.ofString "want", Str.ofString "got"] := ⟨rfl, fun _ _ _ => b2 fun _ _ => rfl⟩
theorem ft_drawn : FnT (Str.ofString "_law_drawn") [Str.ofString "script"] := ⟨rfl, fun _ _ _ => b1 fun _ => rfl⟩
theorem ft_kinds : FnT (Str.ofString "_law_kinds") [Str.ofString "cells", Str.ofString "many"] := ⟨rfl, fun _ _ _ => b2 fun _ _ => rfl⟩
theorem ft_units : FnT (Str.ofString "_law_units") [Str.ofString "kind", Str.ofString "sign"] := ⟨rfl, fun _ _ _ => b2 fun _ _ => rfl⟩
theorem ft_put : FnT (Str.ofString "_law_put") [Str.ofString "blocks", Str.ofString "gap", Str.ofString "kind", Str.ofString "sign"] := ⟨rfl, fun _ _ _ => b4 fun _ _ _ _ => rfl⟩
theorem ft_stages : FnT (Str.ofString "_law_stages") [Str.ofString "signs", Str.ofString "kinds", Str.ofString "number", Str.ofString "letters", Str.ofString "width", Str.ofString "turn"] := ⟨rfl, fun _ _ _ => b6 fun _ _ _ _ _ _ => rfl⟩
theorem ft_read : FnT (Str.ofString "_law_read") [Str.ofString "row", Str.ofString "signs", Str.ofString "steps"] := ⟨rfl, fun _ _ _ => b3 fun _ _ _ => rfl⟩
theorem ft_text : FnT (Str.ofString "_law_text") [Str.ofString "kinds", Str.ofString "signs"] := ⟨rfl, fun _ _ _ => b2 fun _ _ => rfl⟩
theorem ft_once : FnT (Str.ofString "_law_once") [Str.ofString "row", Str.ofString "cut"] := ⟨rfl, fun _ _ _ => b2 fun _ _ => rfl⟩
theorem ft_whole : FnT (Str.ofString "_law_whole") [Str.ofString "steps", Str.ofString "rounds"] := ⟨rfl, fun _ _ _ => b2 fun _ _ => rfl⟩
noncomputable def lnm : Str := Str.ofString "law"
theorem ft_law : FnT lnm [Str.ofString "script"] := ⟨rfl, fun _ _ _ => b1 fun _ => rfl⟩
section
variable {W : Wd} {C : Cx} {d d' : Nat} {c : Cfg} {a : Addr} {k : Nat}
theorem CallAt.weak {P : List V → (V → Prop) → Prop} (h : CallAt W d a P) (hd : d ≤ d') : CallAt W d' a P := fun A s F vals vs K Q R => h A s F vals vs K Q (R.weak hd)
theorem CallAt.imp {P P' : List V → (V → Prop) → Prop} (h : CallAt W d a P) (hi : ∀ vs K, P' vs K → P vs K) : CallAt W d a P' := fun A s F vals vs K Q R of rl q => h A s F vals vs K Q R of rl (hi _ _ q)
theorem CfgOk.weak (cf : CfgOk c W C d) (hd : d ≤ d') : CfgOk c W C d' where
  fns := fun g k h => let ⟨a, o, fd, h1, h2, h3, h4⟩ := cf.fns g k h; ⟨a, o, fd, h1, h2, h3, h4.weak hd⟩
  gens := fun g k h => let ⟨a, o, fd, h1, h2, h3, h4⟩ := cf.gens g k h; ⟨a, o, fd, h1, h2, h3, fun A s F vals vs K R => h4 A s F vals vs K (R.weak hd)⟩
  cloF := cf.cloF
  clo := fun k cs F a h A s F' vals vs K Q le R => cf.clo k cs F a h A s F' vals vs K Q le (R.weak hd)
  consts := cf.consts
  dicts := cf.dicts
  bi := cf.bi
  zip := fun _ => zip_ok W d'
  ty := cf.ty
noncomputable def Cx.setC (C : Cx) (k : Nat) (P : List V → (V → Prop) → Prop) : Cx := { C with call := fun j => if j = k then P else C.call j }
noncomputable def Cx.setG (C : Cx) (P : List V → (List V → Prop) → Prop) : Cx := { C with gen := fun _ => P }
noncomputable def Cx.setL (C : Cx) (k : Nat) (P : List V → List V → (V → Prop) → Prop) : Cx := { C with clo := fun j => if j = k then P else C.clo j }
theorem setC_self {C : Cx} {k : Nat} {P : List V → (V → Prop) → Prop} : (C.setC k P).call k = P := if_pos rfl
theorem setC_ne {C : Cx} {k j : Nat} {P : List V → (V → Prop) → Prop} (h : j ≠ k) : (C.setC k P).call j = C.call j := if_neg h
theorem setL_self {C : Cx} {k : Nat} {P : List V → List V → (V → Prop) → Prop} : (C.setL k P).clo k = P := if_pos rfl
theorem setL_ne {C : Cx} {k j : Nat} {P : List V → List V → (V → Prop) → Prop} (h : j ≠ k) : (C.setL k P).clo j = C.clo j := if_neg h
theorem CfgOk.call {P : List V → (V → Prop) → Prop} (cf : CfgOk cfg2 W C d) {nm : Str} (hn : (nm, k) ∈ fns2) (hm : W.mg nm = some (.ref a)) (h : CallAt W d' a P) (hd : d ≤ d') : CfgOk cfg2 W (C.setC k P) d' :=
  { cf.weak hd with
    fns := fun g j hg => by
      obtain ⟨b, o, fd, h1, h2, h3, h4⟩ := (cf.weak hd).fns g j hg
      refine ⟨b, o, fd, h1, h2, h3, ?_⟩
      by_cases hj : j = k
      · subst hj
        obtain rfl := fns2_name hn hg
        rw [hm] at h1
        cases h1
        rw [setC_self]; exact h
      · rw [setC_ne hj]; exact h4 }
theorem CfgOk.gen {P : List V → (List V → Prop) → Prop} (cf : CfgOk cfg2 W C d) (hm : W.mg gnm = some (.ref a)) (h : CallGen W true d' a P) (hd : d ≤ d') : CfgOk cfg2 W (C.setG P) d' :=
  { cf.weak hd with
    gens := fun g j hg => by
      obtain ⟨b, o, fd, h1, h2, h3, h4⟩ := (cf.weak hd).gens g j hg
      obtain rfl : g = gnm := congrArg Prod.fst (List.mem_singleton.mp (mem_lookup hg))
      rw [hm] at h1; cases h1
      exact ⟨a, o, fd, hm, h2, h3, h⟩ }
theorem CfgOk.clos {P : List V → List V → (V → Prop) → Prop} (cf : CfgOk cfg2 W C d) (h : CloAt W d' k P) (hd : d ≤ d') : CfgOk cfg2 W (C.setL k P) d' :=
  { cf.weak hd with
    clo := fun j cs F a hf => by
      by_cases hj : j = k
      · subst hj
        rw [setL_self]; exact (h cs F a hf).2
      · rw [setL_ne hj]; exact (cf.weak hd).clo j cs F a hf }
structure Here (W : Wd) (nm : Str) (a : Addr) (pm code doc : Value) (o : Obj) : Prop where
  mg : W.mg nm = some (.ref a)
  base : W.base a = some o
  data : o.data = .func (docDef nm (fpar nm) (fb nm) (fsc nm) pm code doc)
  code : ∀ h : Heap, (∀ a o, W.base a = some o → h.get? a = some o) → h.CodeRec code nm
theorem Here.is {nm : Str} {ps : List Str} {pm code doc : Value} {o : Obj} (H : Here W nm a pm code doc o) (hb : ∀ vals : List Value, vals.length = ps.length → bindArgs (docDef nm (fpar nm) (fb nm) (fsc nm) pm code doc) ⟨vals, []⟩ = pure (ps.zip vals)) : FnIs W a ps (fb nm) (fsc nm) (docDef nm (fpar nm) (fb nm) (fsc nm) pm code doc) o :=
  ⟨H.base, H.data, rfl, rfl, rfl, rfl, rfl, H.code, hb⟩
inductive HereE (W : Wd) (nm : Str) : Prop
  | mk (a : Addr) (pm code doc : Value) (o : Obj) (h : Here W nm a pm code doc o)
theorem CfgOk.fn {nm : Str} {ps : List Str} {xb : List SD} (cf : CfgOk cfg2 W C d) (H : HereE W nm) (ft : FnT nm ps) (hn : (nm, k) ∈ fns2) (tr : OkSs W C d (fT nm) (fm nm) (fb nm) xb) (P : List V → (V → Prop) → Prop)
    (hp : ∀ vs K, P vs K → vs.length = ps.length ∧ wpSs C xb (rho0 (fsc nm).names ps vs) (fun _ => False) K) : CfgOk cfg2 W (C.setC k P) (d + 1) :=
  let ⟨_, _, _, _, _, h⟩ := H
  cf.call hn h.mg ((call_fn (h.is (ft.bind _ _ _)) ft.scope tr).imp hp) (Nat.le_succ d)
end
end Mine
namespace Mine
open PySem PySem.W PySem.W.X PyProof.Rows PySem.Calls
noncomputable def C0 : Cx where
  call := fun _ _ _ => False
  gen := fun _ _ _ => False
  clo := fun _ _ _ _ => False
  glob := fun k => if k = 0 then .str dots else .int 4000
  dict := fun _ x => match x with
    | [c] => if c ∈ opsF then some (teF c) else none
    | _ => none
theorem C0_dict {c : Nat} (h : c ∈ opsF) : C0.dict 0 [c] = some (teF c) := if_pos h
inductive DposP (vs : List V) (K : V → Prop) : Prop
  | mk (a b : Int) (h : vs = [.int a, .int b]) (d : DP 16000 a b) (k : K (.tup [.int (a / b), .int (a % b)]))
inductive DivL (l : Nat) (vs : List V) (K : V → Prop) : Prop
  | mk (a b : Int) (h : vs = [.int a, .int b]) (h0 : l = 0 → 0 ≤ a ∧ 0 < b) (h1 : l = 1 → 0 < b) (hb : b ≠ 0) (sa : a.natAbs < 2 ^ 900000) (sb : b.natAbs < 2 ^ 15000) (k : K (.tup [.int (a.fdiv b), .int (a.fmod b)]))
noncomputable def lv : Nat → Nat
  | 0 => 0
  | n + 1 => max 1 (2 * lv n)
theorem lv21 : 1000001 ≤ lv 21 := by decide
noncomputable def dQ : Str := dnm ++ Str.ofString ".<locals>." ++ Str.ofString "inner"
noncomputable def iQ : Str := inm ++ Str.ofString ".<locals>." ++ Str.ofString "inner"
noncomputable def foOf (k : Nat) (xs : List V) (F : Frz) (a : Addr) : Prop := match k with
  | 0 => FoD0 dQ (iPar dnm 0) (iB dnm 0) (iSc dnm 0) xs F a
  | _ => False
noncomputable def fnNames : List Str := fns2.map (·.1)
structure World2 (W : Wd) (t3 t4 : TabS) : Prop where
  wt : WTab W [t3, t4]
  fo : ∀ k xs F a, W.fo k xs F a ↔ foOf k xs F a
  here : ∀ nm ∈ gnm :: lnm :: fnNames, HereE W nm
  en : W.mg (Str.ofString "enumerate") = none ∧ W.mb (Str.ofString "enumerate") = some (.type "enumerate")
  s3 : t3.specs = [(iPos inm 1, iQ)]
  s4 : t4.specs = [(iPos dnm 0, dQ)]
  c3 : ∀ a pm code doc o, Here W inm a pm code doc o → code = .ref t3.c
  c4 : ∀ a pm code doc o, Here W dnm a pm code doc o → code = .ref t4.c
  start : CfgOk cfg2 W C0 0
theorem mem_dec {α : Type} [BEq α] [LawfulBEq α] {a : α} {l : List α} (h : l.contains a = true) : a ∈ l := List.contains_iff_mem.mp h
theorem strG_len (s : List Nat) : ∀ (L : List (Nat × List Nat)) (st : Nat) (op : Option Nat) (acc : List (List Nat)), (∀ w ∈ acc, w.length ≤ s.length) → (strG s L st op acc).2.length ≤ acc.length + L.length ∧ ∀ w ∈ (strG s L st op acc).2, w.length ≤ s.length
  | [], st, op, acc, h => ⟨Nat.le_refl _, h⟩
  | (p, c) :: r, st, op, acc, h => by
    rw [List.length_cons]
    by_cases hc : c = [34]
    · cases op with
      | none =>
        have e : strG s ((p, c) :: r) st none acc = strG s r st (some p) acc := by rw [strG_cons, if_pos hc]
        have ih := strG_len s r st (some p) acc h
        rw [e]
        exact ⟨Nat.le_trans ih.1 (by lia), ih.2⟩
      | some o =>
        have e : strG s ((p, c) :: r) st (some o) acc = strG s r (p + 1) none (if (st : Int) = o then acc else acc ++ [sliceL s (some (st : Int)) (some (o : Int))]) := by rw [strG_cons, if_pos hc]
        rw [e]
        by_cases q : (st : Int) = o
        · rw [if_pos q]
          have ih := strG_len s r (p + 1) none acc h
          exact ⟨Nat.le_trans ih.1 (by lia), ih.2⟩
        · rw [if_neg q]
          have ih := strG_len s r (p + 1) none (acc ++ [sliceL s (some (st : Int)) (some (o : Int))]) (mem_snoc h (sliceL_len _ _ _))
          rw [List.length_append, List.length_singleton] at ih
          exact ⟨Nat.le_trans ih.1 (by lia), ih.2⟩
    · have e : strG s ((p, c) :: r) st op acc = strG s r st op acc := by rw [strG_cons, if_neg hc]
      have ih := strG_len s r st op acc h
      rw [e]
      exact ⟨Nat.le_trans ih.1 (by lia), ih.2⟩
theorem strip_len (s : List Nat) (hs : s.length ≤ 1000) : (strip s).length ≤ 2000000 := by
  have h1 := strG_len s (escG 0 s) 0 none [] fun w hw => nomatch hw
  have h2 := (escG_le _ s 0 (Nat.le_refl _)).1
  rw [strip_eq]
  generalize strG s (escG 0 s) 0 none [] = r at h1
  obtain ⟨st, acc⟩ := r
  rw [List.length_nil] at h1
  have fin : ∀ ws : List (List Nat), ws.length ≤ 1001 → (∀ w ∈ ws, w.length ≤ s.length) → (joinL [] ws).length ≤ 2000000 := fun ws h3 h4 => by
    have := joinL_len (B := 1000) ws fun w hw => Nat.le_trans (h4 w hw) hs
    lia
  have ha : acc.length ≤ 1000 := by
    have h3 : acc.length ≤ 0 + (escG 0 s).length := h1.1
    lia
  unfold stripF
  split
  · exact fin _ (by rw [List.length_append, List.length_singleton]; exact Nat.succ_le_succ ha) (mem_snoc h1.2 (sliceL_len _ _ _))
  · exact fin _ (Nat.le_succ_of_le ha) h1.2
section
variable {W : Wd} {t3 t4 : TabS}
theorem World2.h (H : World2 W t3 t4) {nm : Str} (hn : fnNames.contains nm = true) : HereE W nm := H.here nm (List.mem_cons_of_mem _ (List.mem_cons_of_mem _ (mem_dec hn)))
structure StA (W : Wd) (C : Cx) : Prop where
  cf : CfgOk cfg2 W C 7
  hg : ∀ vs K, GenP vs K → C.gen 0 vs K
  h7 : ∀ vs K, StripP vs K → C.call 7 vs K
  h8 : ∀ vs K, ChkP vs K → C.call 8 vs K
  h0 : ∀ vs K, EmP vs K → C.call 0 vs K
  gl : C.glob = C0.glob
  di : C.dict = C0.dict
theorem stageA (H : World2 W t3 t4) : ∃ C, StA W C := by
  obtain ⟨a, pm, code, doc, o, h⟩ := H.here gnm List.mem_cons_self
  have cf1 := H.start.gen h.mg (gen_call H.start (h.is (ft_gen _ _ _)) H.en) (by decide : 0 ≤ 4)
  have cf2 := cf1.fn (k := 7) (H.h (by decide +kernel)) ft_strip (mem_dec (by decide +kernel)) (tr_strip_quoted_realnames cf1) StripP fun vs K hh0 => by obtain ⟨s, hv, hl, hk⟩ := hh0; exact hv ▸ ⟨rfl, wp_strip _ s K hl (fun K' h => ⟨s, rfl, Nat.le_trans hl (by decide), h⟩) hk⟩
  have cf3 := cf2.fn (k := 8) (H.h (by decide +kernel)) ft_check (mem_dec (by decide +kernel)) (tr_check_parenthesis cf2) ChkP fun vs K hh0 => by obtain ⟨s, hv, hl, hk⟩ := hh0; exact hv ▸ ⟨rfl, wp_check _ s (strip s) K (fun K' h => ⟨s, rfl, hl, h⟩) (fun K' h => ⟨strip s, rfl, strip_len s hl, h⟩) hk⟩
  have cf4 := cf3.fn (k := 0) (H.h (by decide +kernel)) ft_em (mem_dec (by decide +kernel)) (tr_ellipsis_match cf3) EmP fun vs K hh0 => by obtain ⟨w, g, hv, hw, hg, hk⟩ := hh0; exact hv ▸ ⟨rfl, wp_ellipsis _ w g K hw hg rfl hk⟩
  exact ⟨_, cf4, fun vs K h => h, fun vs K h => h, fun vs K h => h, fun vs K h => h, rfl, rfl⟩
structure StB (W : Wd) (C : Cx) : Prop where
  cf : CfgOk cfg2 W C 15
  gl : C.glob = C0.glob
  di : C.dict = C0.dict
  h8 : ∀ vs K, ChkP vs K → C.call 8 vs K
  h10 : ∀ vs K, DrawnP vs K → C.call 10 vs K
  h11 : ∀ vs K, UnitsP vs K → C.call 11 vs K
  h12 : ∀ vs K, PutP vs K → C.call 12 vs K
  h14 : ∀ vs K, ReadP vs K → C.call 14 vs K
  h15 : ∀ vs K, TextP vs K → C.call 15 vs K
  h16 : ∀ vs K, Once1P vs K → C.call 16 vs K
  h17 : ∀ vs K, WholeP vs K → C.call 17 vs K
set_option maxHeartbeats 2000000 in
theorem stageB (H : World2 W t3 t4) {C : Cx} (S : StA W C) : ∃ C', StB W C' := by
  have cf1 := S.cf.fn (k := 11) (H.h (by decide +kernel)) ft_units (mem_dec (by decide +kernel)) (tr_law_units S.cf) UnitsP fun vs K hh0 => by obtain ⟨k, s, hv, h1, h2, hk⟩ := hh0; exact hv ▸ ⟨rfl, wp_units _ k s K h1 h2 hk⟩
  have cf2 := cf1.fn (k := 12) (H.h (by decide +kernel)) ft_put (mem_dec (by decide +kernel)) (tr_law_put cf1) PutP fun vs K hh0 => by obtain ⟨bs, g, k, s, hv, h1, h2, h3, h4, hk⟩ := hh0; exact hv ▸ ⟨rfl, wp_put _ bs g k s K h1 h2 h3 h4 hk⟩
  have cf3 := cf2.fn (k := 9) (H.h (by decide +kernel)) ft_kinds (mem_dec (by decide +kernel)) (tr_law_kinds cf2) KindsP fun vs K hh0 => by obtain ⟨cs, many, hv, h1, h2, h3, hk⟩ := hh0; exact hv ▸ ⟨rfl, wp_kinds _ cs many K h1 h2 h3 hk⟩
  have cf4 := cf3.fn (k := 10) (H.h (by decide +kernel)) ft_drawn (mem_dec (by decide +kernel)) (tr_law_drawn cf3) DrawnP fun vs K hh0 => by obtain ⟨script, hv, h1, hk⟩ := hh0; exact hv ▸ ⟨rfl, wp_drawn _ script K hk (fun vs K h => h) h1⟩
  have cf5 := cf4.fn (k := 17) (H.h (by decide +kernel)) ft_whole (mem_dec (by decide +kernel)) (tr_law_whole cf4) WholeP fun vs K hh0 => by obtain ⟨steps, x, B, hv, h1, h2, h3, hk⟩ := hh0; exact hv ▸ ⟨rfl, wp_whole _ steps x B K h1 h2 h3 hk⟩
  have cf6 := cf5.fn (k := 16) (H.h (by decide +kernel)) ft_once (mem_dec (by decide +kernel)) (tr_law_once cf5) Once1P fun vs K hh0 => by obtain ⟨row, cut, hv, h1, h2, h3, hk⟩ := hh0; exact hv ▸ ⟨rfl, wp_once1 _ row cut K h1 h2 h3 S.h0 hk⟩
  have cf7 := cf6.fn (k := 15) (H.h (by decide +kernel)) ft_text (mem_dec (by decide +kernel)) (tr_law_text cf6) TextP fun vs K hh0 => by obtain ⟨ks, ss, hv, h1, h2, h3, h4, hk⟩ := hh0; exact hv ▸ ⟨rfl, wp_text _ ks ss h1 h2 h3 h4 K (fun vs K h => h) S.h7 (fun s K' hl h => S.hg _ _ ⟨s, rfl, Nat.le_trans hl (by decide), h⟩) hk⟩
  have cf8 := cf7.fn (k := 14) (H.h (by decide +kernel)) ft_read (mem_dec (by decide +kernel)) (tr_law_read cf7) ReadP fun vs K hh0 => by obtain ⟨row, ss, steps, hv, h1, h2, h3, h4, hk⟩ := hh0; exact hv ▸ ⟨rfl, wp_read _ row ss steps K h1 h2 h3 h4 S.h0 (fun vs K h => h) hk⟩
  exact ⟨_, cf8, S.gl, S.di, S.h8, fun vs K h => h, fun vs K h => h, fun vs K h => h, fun vs K h => h, fun vs K h => h, fun vs K h => h, fun vs K h => h⟩
end
end Mine
namespace Mine
open PySem PySem.W PySem.W.X PyProof.Rows PySem.Calls
section
variable {W : Wd} {t3 t4 : TabS} {C : Cx} {d : Nat}
structure StD (W : Wd) (C C' : Cx) (d : Nat) : Prop where
  cf : CfgOk cfg2 W C' d
  h1 : ∀ vs K, C2 16000 vs K → C'.call 1 vs K
  ne : ∀ k, k ≠ 1 → k ≠ 2 → C'.call k = C.call k
  di : C'.dict = C.dict
theorem stageDiv (H : World2 W t3 t4) (cf : CfgOk cfg2 W C d) (hg : C.glob = C0.glob) : ∃ C', StD W C C' (d + 5) := by
  have gl : C.glob 1 = .int 4000 := by rw [hg]; rfl
  have cf1 := cf.fn (k := 1) (H.h (by decide +kernel)) ft_div2 (mem_dec (by decide +kernel)) (tr_div2n1n cf) (C2 4000) fun vs K hh0 => by obtain ⟨a, b, n, hv, h, hk⟩ := hh0; exact hv ▸ ⟨rfl, wp_div2 _ 4000 (by decide) a b n K h gl (fun q => absurd q (by decide)) hk⟩
  have cf2 := cf1.fn (k := 2) (H.h (by decide +kernel)) ft_div3 (mem_dec (by decide +kernel)) (tr_div3n2n cf1) (C3 4000) fun vs K hh0 => by obtain ⟨a12, a3, b, b1, b2, n, hv, h, hk⟩ := hh0; exact hv ▸ ⟨rfl, wp_div3 _ 4000 (by decide) a12 a3 b b1 b2 n K h (fun vs K h => h) hk⟩
  have cf3 := cf2.fn (k := 1) (H.h (by decide +kernel)) ft_div2 (mem_dec (by decide +kernel)) (tr_div2n1n cf2) (C2 8000) fun vs K hh0 => by obtain ⟨a, b, n, hv, h, hk⟩ := hh0; exact hv ▸ ⟨rfl, wp_div2 _ 8000 (by decide) a b n K h gl (fun _ vs K h => h) hk⟩
  have cf4 := cf3.fn (k := 2) (H.h (by decide +kernel)) ft_div3 (mem_dec (by decide +kernel)) (tr_div3n2n cf3) (C3 8000) fun vs K hh0 => by obtain ⟨a12, a3, b, b1, b2, n, hv, h, hk⟩ := hh0; exact hv ▸ ⟨rfl, wp_div3 _ 8000 (by decide) a12 a3 b b1 b2 n K h (fun vs K h => h) hk⟩
  have cf5 := cf4.fn (k := 1) (H.h (by decide +kernel)) ft_div2 (mem_dec (by decide +kernel)) (tr_div2n1n cf4) (C2 16000) fun vs K hh0 => by obtain ⟨a, b, n, hv, h, hk⟩ := hh0; exact hv ▸ ⟨rfl, wp_div2 _ 16000 (by decide) a b n K h gl (fun _ vs K h => h) hk⟩
  exact ⟨_, cf5, fun vs K h => h, fun k h1 h2 => by rw [setC_ne h1, setC_ne h2, setC_ne h1, setC_ne h2, setC_ne h1], rfl⟩
theorem lv_levels (H : World2 W t3 t4) (cf : CfgOk cfg2 W C d) : ∀ n, CfgOk cfg2 W (C.setL 0 (D2IC (lv n))) (d + n)
  | 0 => cf.clos (fun cs F a hf => ⟨cf.cloF 0 cs F a hf, fun A s F' vals vs K Q le R of rl ⟨ds, n, L, R', h1, h2, h3, h4, h5, _, _, _, _, _⟩ => absurd (Nat.le_zero.mp h5) (Nat.sub_ne_zero_of_lt h3)⟩) (Nat.le_refl _)
  | n + 1 => cf.clos (d2i_level (H.fo 0) (lv_levels H cf n) (N := lv n) fun cs vs K h => h) (Nat.le_add_right d (n + 1))
theorem in_levels (cf : CfgOk cfg2 W C d) : ∀ n, InnerI W (d + n) (lv n) iQ
  | 0 => fun A s F a n x1 x2 x3 D tn items is k x L R tx tL tR Q Z Rm of hF hD r ia => absurd (Nat.le_zero.mp ia.sz) (Nat.sub_ne_zero_of_lt ia.lt)
  | n + 1 => inner_level (cf.weak (Nat.le_add_right d n)) (in_levels cf n)
theorem def3 {fd : FuncData} (H : World2 W t3 t4) (hq : fd.qualname = inm) (hc : fd.code = .ref t3.c) : DefIn [t3, t4] t3 fd (iPar inm 1) (iPos inm 1) iQ :=
  ⟨List.mem_cons_self, hc, by rw [hq]; rfl, H.s3.symm ▸ List.mem_cons_self, H.s3.symm ▸ allm (fun h => absurd rfl h) alln, rfl, rfl, fun _ => rfl⟩
theorem def4 {fd : FuncData} (H : World2 W t3 t4) (hq : fd.qualname = dnm) (hc : fd.code = .ref t4.c) : DefIn [t3, t4] t4 fd (iPar dnm 0) (iPos dnm 0) dQ :=
  ⟨List.mem_cons_of_mem _ List.mem_cons_self, hc, by rw [hq]; rfl, H.s4.symm ▸ List.mem_cons_self, H.s4.symm ▸ allm (fun h => absurd rfl h) alln, rfl, rfl, fun _ => rfl⟩
structure StF (W : Wd) (C C' : Cx) (d : Nat) : Prop where
  cf : CfgOk cfg2 W C' d
  h3 : ∀ vs K, I2D vs K → C'.call 3 vs K
  h4 : ∀ vs K, D2I vs K → C'.call 4 vs K
  ne : ∀ k, k ≠ 3 → k ≠ 4 → C'.call k = C.call k
  di : C'.dict = C.dict
theorem stageFig (H : World2 W t3 t4) (cf : CfgOk cfg2 W C d) : ∃ C', StF W C C' (d + 44) := by
  have cf2 := lv_levels H cf 21
  obtain ⟨a4, pm4, code4, doc4, o4, H4⟩ := H.h (nm := dnm) (by decide +kernel)
  have cf3 := cf2.call (k := 4) (d' := d + 22) (mem_dec (by decide +kernel)) H4.mg ((d2i_call H.wt (def4 H rfl (H.c4 _ _ _ _ _ H4)) (H.fo 0) cf2 lv21 (fun cs vs K h => h) (H4.is (ft_d2i.bind _ _ _))).imp (P' := D2I) fun vs K h => ⟨let ⟨ds, n, hv, _⟩ := h; hv ▸ rfl, h⟩) (Nat.le_succ _)
  have hI := in_levels cf3 21
  have cf3' := cf3.weak (Nat.le_add_right (d + 22) 21)
  obtain ⟨a3, pm3, code3, doc3, o3, H3⟩ := H.h (nm := inm) (by decide +kernel)
  have cf4 := cf3'.call (k := 3) (d' := d + 22 + 21 + 1) (mem_dec (by decide +kernel)) H3.mg ((i2d_call H.wt (def3 H rfl (H.c3 _ _ _ _ _ H3)) cf3' lv21 hI (H3.is (ft_i2d.bind _ _ _))).imp (P' := I2D) fun vs K h => ⟨let ⟨a, n, hv, _⟩ := h; hv ▸ rfl, h⟩) (Nat.le_succ _)
  exact ⟨_, cf4, fun vs K h => h, fun vs K h => h, fun k h3 h4 => (by rw [setC_ne h3, setC_ne h4]; rfl), rfl⟩
theorem natAbs_inv {a : Int} (h : a < 0) : (-a - 1).natAbs ≤ a.natAbs := by omega
structure StC (W : Wd) (C C' : Cx) (d : Nat) : Prop where
  cf : CfgOk cfg2 W C' d
  h6 : ∀ vs K, DivP vs K → C'.call 6 vs K
  ne : ∀ k, k ≠ 5 → k ≠ 6 → C'.call k = C.call k
  di : C'.dict = C.dict
theorem stageC (H : World2 W t3 t4) (cf4 : CfgOk cfg2 W C d) (h1 : ∀ vs K, C2 16000 vs K → C.call 1 vs K) (h3 : ∀ vs K, I2D vs K → C.call 3 vs K) (h4 : ∀ vs K, D2I vs K → C.call 4 vs K) : ∃ C', StC W C C' (d + 4) := by
  have cf5 := cf4.fn (k := 5) (H.h (by decide +kernel)) ft_divpos (mem_dec (by decide +kernel)) (tr_divmod_pos cf4) DposP fun vs K hh0 => by obtain ⟨a, b, hv, h, hk⟩ := hh0; exact hv ▸ ⟨rfl, wp_divpos _ 16000 (by decide) a b K h h3 h4 h1 hk⟩
  have pos5 : ∀ a b : Int, a.natAbs < 2 ^ 900000 → b.natAbs < 2 ^ 15000 → 0 ≤ a → 0 < b → ∀ K' : V → Prop, K' (.tup [.int (a / b), .int (a % b)]) → DposP [.int a, .int b] K' := fun a b ha hb h1 h2 K' hK' => ⟨a, b, rfl, ⟨h1, h2, (bitLen_abs a _).mpr (pow_abs ha (by decide)), (bitLen_abs b _).mpr (pow_abs hb (by decide))⟩, hK'⟩
  have cf6 := cf5.fn (k := 6) (H.h (by decide +kernel)) ft_intdiv (mem_dec (by decide +kernel)) (tr_int_divmod cf5) (DivL 0) fun vs K hh0 => by obtain ⟨a, b, hv, h0, _, hb, ha, hbb, hk⟩ := hh0; exact hv ▸ ⟨rfl, wp_intdiv _ a b K hb (pos5 a b ha hbb) (fun q => absurd (h0 rfl).2 (Int.lt_asymm q)) (fun _ q => absurd (h0 rfl).1 (Int.not_le.mpr q)) hk⟩
  have cf7 := cf6.fn (k := 6) (H.h (by decide +kernel)) ft_intdiv (mem_dec (by decide +kernel)) (tr_int_divmod cf6) (DivL 1) fun vs K hh0 => by obtain ⟨a, b, hv, _, h1, hb, ha, hbb, hk⟩ := hh0; exact hv ▸ ⟨rfl, wp_intdiv _ a b K hb (pos5 a b ha hbb) (fun q => absurd (h1 rfl) (Int.lt_asymm q)) (fun h2 q K' hK' => ⟨-a - 1, b, rfl, fun _ => ⟨by omega, h2⟩, nofun, hb, Nat.lt_of_le_of_lt (natAbs_inv q) ha, hbb, hK'⟩) hk⟩
  have cf8 := cf7.fn (k := 6) (H.h (by decide +kernel)) ft_intdiv (mem_dec (by decide +kernel)) (tr_int_divmod cf7) (DivL 2) fun vs K hh0 => by obtain ⟨a, b, hv, _, _, hb, ha, hbb, hk⟩ := hh0; exact hv ▸ ⟨rfl, wp_intdiv _ a b K hb (pos5 a b ha hbb) (fun q K' hK' => ⟨-a, -b, rfl, nofun, fun _ => Int.neg_pos_of_neg q, fun z => hb (Int.neg_eq_zero.mp z), (Int.natAbs_neg a).symm ▸ ha, (Int.natAbs_neg b).symm ▸ hbb, hK'⟩)
    (fun h2 q K' hK' => ⟨-a - 1, b, rfl, nofun, fun _ => h2, hb, Nat.lt_of_le_of_lt (natAbs_inv q) ha, hbb, hK'⟩) hk⟩
  exact ⟨_, cf8, fun vs K hh0 => by obtain ⟨a, b, hv, hb, ha, hbb, hk⟩ := hh0; exact ⟨a, b, hv, nofun, nofun, hb, ha, hbb, hk⟩, fun k h5 h6 => by rw [setC_ne h6, setC_ne h6, setC_ne h6, setC_ne h5], rfl⟩
inductive LawAt2 (W : Wd) : Prop
  | mk (a : Addr) (h : W.mg lnm = some (.ref a)) (c : CallAt W 80 a LawP)
theorem law01_core (H : World2 W t3 t4) : LawAt2 W := by
  obtain ⟨CA, SA⟩ := stageA H
  obtain ⟨CB, SB⟩ := stageB H SA
  obtain ⟨CD, SD⟩ := stageDiv H SB.cf SB.gl
  obtain ⟨CF, SF⟩ := stageFig H SD.cf
  obtain ⟨C, S⟩ := stageC H SF.cf (fun vs K h => by rw [SF.ne 1 (by decide) (by decide)]; exact SD.h1 vs K h) SF.h3 SF.h4
  have e : ∀ k, k ≠ 1 → k ≠ 2 → k ≠ 3 → k ≠ 4 → k ≠ 5 → k ≠ 6 → C.call k = CB.call k := fun k h1 h2 h3 h4 h5 h6 => by rw [S.ne k h5 h6, SF.ne k h3 h4, SD.ne k h1 h2]
  have h3 : ∀ vs K, I2D vs K → C.call 3 vs K := fun vs K h => by rw [S.ne 3 (by decide) (by decide)]; exact SF.h3 vs K h
  have h4 : ∀ vs K, D2I vs K → C.call 4 vs K := fun vs K h => by rw [S.ne 4 (by decide) (by decide)]; exact SF.h4 vs K h
  have eB : ∀ k, 7 ≤ k → C.call k = CB.call k := fun k h => e k (by omega) (by omega) (by omega) (by omega) (by omega) (by omega)
  have cf := S.cf.fn (k := 13) (H.h (by decide +kernel)) ft_stages (mem_dec (by decide +kernel)) (tr_law_stages S.cf) StagesP fun vs K hh0 => by
    obtain ⟨ks, ss, N, L, w, t, hv, ok, hk⟩ := hh0
    exact hv ▸ ⟨rfl, wp_stages _ ks ss N L w t K ok h3 h4 S.h6 (fun vs K h => by rw [eB 8 (by decide)]; exact SB.h8 vs K h) (fun vs K h => by rw [eB 12 (by decide)]; exact SB.h12 vs K h) (fun vs K h => by rw [eB 11 (by decide)]; exact SB.h11 vs K h) hk⟩
  have di : ∀ c ∈ opsF, C.dict 0 [c] = some (teF c) := fun c hc => by rw [S.di, SF.di, SD.di, SB.di]; exact C0_dict hc
  have LC : LawC1 (C.setC 13 StagesP) := ⟨h3, h4, S.h6, fun vs K h => by rw [setC_ne (by decide), eB 10 (by decide)]; exact SB.h10 vs K h, fun vs K h => h,
    fun vs K h => by rw [setC_ne (by decide), eB 14 (by decide)]; exact SB.h14 vs K h, fun vs K h => by rw [setC_ne (by decide), eB 15 (by decide)]; exact SB.h15 vs K h, fun vs K h => by rw [setC_ne (by decide), eB 16 (by decide)]; exact SB.h16 vs K h, fun vs K h => by rw [setC_ne (by decide), eB 17 (by decide)]; exact SB.h17 vs K h, fun c hc => di c hc⟩
  obtain ⟨aL, pm, code, doc, o, HL⟩ := H.here lnm (List.mem_cons_of_mem _ List.mem_cons_self)
  have h1 := call_fn (HL.is (ft_law.bind _ _ _)) ft_law.scope (tr_law cf)
  have h2 : CallAt W (15 + 5 + 44 + 4 + 1 + 1) aL LawP := h1.imp fun vs K hh0 => by obtain ⟨ns, hv, hl, hk⟩ := hh0; exact hv ▸ ⟨rfl, wp_law _ LC law_facts ns hl K hk⟩
  exact ⟨aL, HL.mg, h2.weak (by decide)⟩
end
end Mine
namespace Mine
open PySem PySem.W PySem.W.X PyProof.Rows PySem.Calls
theorem foOf_mono (k : Nat) (xs : List V) (F F' : Frz) (a : Addr) (le : FLe F F') (h : foOf k xs F a) : foOf k xs F' a := match k, h with
  | 0, h => FoD0.mono le h
theorem foOf_fn (k : Nat) (xs : List V) (F : Frz) (a : Addr) (h : foOf k xs F a) : ∃ o fd, F a = some o ∧ o.data = .func fd := match k, h with
  | 0, ⟨_, _, _, _, _, _, _, _, _, _, Z, _, _⟩ => Z.fn.obj
noncomputable def baseOf (tl : List TabS) (h : Heap) : Frz := fun a => by classical exact if a ∈ tl.map (·.P) then none else h.get? a
theorem baseOf_is {tl : List TabS} {h : Heap} {a : Addr} {o : Obj} (e : baseOf tl h a = some o) : h.get? a = some o := by
  unfold baseOf at e
  split at e
  · cases e
  · exact e
theorem baseOf_of {tl : List TabS} {h : Heap} (ht : ∀ t ∈ tl, h.get? t.P = some (tabObj #[])) {a : Addr} {o : Obj} (e : h.get? a = some o) (hn : o ≠ tabObj #[]) : baseOf tl h a = some o :=
  (if_neg fun q => let ⟨t, h1, h2⟩ := List.mem_map.mp q; hn (Option.some.inj (e.symm.trans (h2 ▸ ht t h1)))).trans e
noncomputable def freeNames : List Str := [Str.ofString "enumerate", Str.ofString "range", Str.ofString "zip", Str.ofString "reversed", Str.ofString "list", Str.ofString "len", Str.ofString "divmod", Str.ofString "abs", Str.ofString "sum", Str.ofString "max"]
inductive FnG (mg : Str → Option Value) (s : Shared) (nm : Str) : Prop
  | mk (a : Addr) (o : Obj) (pm code doc : Value) (h1 : mg nm = some (.ref a)) (h2 : s.heap.get? a = some o) (h3 : o.data = .func (docDef nm (fpar nm) (fb nm) (fsc nm) pm code doc)) (h4 : s.heap.CodeRec code nm)
structure Given2 (w : World) (mg mb : Str → Option Value) (s : Shared) (t3 t4 : TabS) : Prop where
  g : s.heap.Ns mainGlobals mg
  b : s.heap.Ns builtinsNs mb
  lim : s.heap.NoLimit
  fn : ∀ nm ∈ gnm :: lnm :: fnNames, FnG mg s nm
  free : ∀ x ∈ freeNames, mg x = none
  bb : ∀ x : Str, x ≠ "__name__" → mb x = bootBuiltins x
  bm : ∃ bm ob, mg "__builtins__" = some (.ref bm) ∧ bm ≠ builtinsNs ∧ s.heap.get? bm = some ob ∧ ob.cls = .type "module" ∧ ob.dict = some builtinsNs ∧ ob.data = .plain
  c0 : ∃ t, mg (Str.ofString "ELLIPSIS_MARKER") = some (.str ⟨dots.toArray⟩ t)
  c1 : ∃ t, mg (Str.ofString "_DIV_LIMIT") = some (.int 4000 t)
  dict : ∃ aD f, mg (Str.ofString "EXACT_TOKEN_TYPES") = some (.ref aD) ∧ s.heap.MapOf (strKind Challenge.rw_uc0042_01.row.prog w) aD f ∧ ∀ c ∈ opsF, ∃ t, f ⟨#[c]⟩ = some (.int (teF c) t)
  tabs : ∀ t ∈ [t3, t4], CodeHd s.heap t.c t.P ∧ s.heap.get? t.P = some (tabObj #[])
  nodup : [t3.P, t4.P].Nodup
  k3 : ∀ a o fd, mg inm = some (.ref a) → s.heap.get? a = some o → o.data = .func fd → fd.code = .ref t3.c
  k4 : ∀ a o fd, mg dnm = some (.ref a) → s.heap.get? a = some o → o.data = .func fd → fd.code = .ref t4.c
  s3 : t3.specs = [(iPos inm 1, iQ)]
  s4 : t4.specs = [(iPos dnm 0, dQ)]
section
variable {w : World} {mg mb : Str → Option Value} {s : Shared} {t3 t4 : TabS}
theorem Given2.nt (G : Given2 w mg mb s t3 t4) {a : Addr} {o : Obj} (e : s.heap.get? a = some o) (hn : ∀ vs, o.data ≠ .fields vs) : baseOf [t3, t4] s.heap a = some o := baseOf_of (fun t ht => (G.tabs t ht).2) e fun q => hn #[] (congrArg Obj.data q)
theorem Given2.ns (G : Given2 w mg mb s t3 t4) {a : Addr} {m : Str → Option Value} (n : s.heap.Ns a m) : ∀ h : Heap, (∀ a o, baseOf [t3, t4] s.heap a = some o → h.get? a = some o) → h.Ns a m := fun h k =>
  let ⟨o, es, ep, e, hd, r⟩ := n; ⟨o, es, ep, k _ _ (G.nt e fun vs q => by rw [hd] at q; cases q), hd, r⟩
noncomputable def wd2 (G : Given2 w mg mb s t3 t4) : Wd where
  prog := Challenge.rw_uc0042_01.row.prog
  w := w
  fo := foOf
  fmono := foOf_mono
  tabs := [t3, t4].map (·.P)
  ti := tiOf [t3, t4]
  tiTab := fun h a ht ha => tiOf_tab ht ha
  tiKeep := fun h h' ht k => tiOf_keep ht k
  base := baseOf [t3, t4] s.heap
  mg := mg
  mb := mb
  hmg := G.ns G.g
  hmb := G.ns G.b
  hlim := fun h k => let ⟨mc, n, r⟩ := G.lim; ⟨mc, G.ns n h k, r⟩
theorem Given2.code (G : Given2 w mg mb s t3 t4) {code : Value} {nm : Str} (c : s.heap.CodeRec code nm) : ∀ h : Heap, (∀ a o, baseOf [t3, t4] s.heap a = some o → h.get? a = some o) → h.CodeRec code nm := fun h k =>
  let ⟨c, oc, vs, tq, h1, h2, h3, h4⟩ := c; ⟨c, oc, vs, tq, h1, k _ _ (baseOf_of (fun t ht => (G.tabs t ht).2) h2 fun q => by rw [q] at h3; cases h3; cases h4), h3, h4⟩
theorem Given2.ok (G : Given2 w mg mb s t3 t4) : HOk (wd2 G) s.heap :=
  ⟨⟨fun a o e => baseOf_is e, fun a ha => if_pos ha⟩, fun t ht => ⟨(G.tabs t ht).1, #[], (G.tabs t ht).2, trivial, fun q _ => .inl rfl⟩⟩
theorem Given2.here (G : Given2 w mg mb s t3 t4) {nm : Str} (h : FnG mg s nm) : HereE (wd2 G) nm := let ⟨a, o, pm, code, doc, h1, h2, h3, h4⟩ := h; ⟨a, pm, code, doc, o, h1, G.nt h2 (fun vs q => nomatch h3.symm.trans q), h3, G.code h4⟩
theorem Given2.bi (G : Given2 w mg mb s t3 t4) {x : Str} {v : Value} (h : freeNames.contains x = true) (hx : x ≠ "__name__") (hv : bootBuiltins x = some v) : mg x = none ∧ mb x = some v := ⟨G.free _ (mem_dec h), (G.bb _ hx).trans hv⟩
theorem dict0 {x : List Nat} {i : Int} (h : C0.dict 0 x = some i) : ∃ c, x = [c] ∧ c ∈ opsF ∧ i = teF c := match x, h with
  | [c], h => by
    have h : (if c ∈ opsF then some (teF c) else none) = some i := h
    by_cases hc : c ∈ opsF
    · rw [if_pos hc] at h; exact ⟨c, rfl, hc, (Option.some.inj h).symm⟩
    · rw [if_neg hc] at h; cases h
theorem Given2.start (G : Given2 w mg mb s t3 t4) : CfgOk cfg2 (wd2 G) C0 0 where
  fns := fun g k hg => let ⟨a, _, _, _, o, h⟩ := G.here (G.fn g (List.mem_cons_of_mem _ (List.mem_cons_of_mem _ (List.mem_map.mpr ⟨_, mem_lookup hg, rfl⟩)))); ⟨a, o, _, h.mg, h.base, h.data, fun A s F vals vs K Q R of rl h => h.elim⟩
  gens := fun g k hg => by
    obtain rfl : g = gnm := congrArg Prod.fst (List.mem_singleton.mp (mem_lookup hg))
    obtain ⟨a, _, _, _, o, h⟩ := G.here (G.fn gnm List.mem_cons_self)
    exact ⟨a, o, _, h.mg, h.base, h.data, fun A s F vals vs K R of rl h => h.elim⟩
  cloF := foOf_fn
  clo := fun k cs F a h A s F' vals vs K Q le R of rl h => h.elim
  consts := fun g k hg => by
    have P : ∀ p ∈ cfg2.consts, ∃ v, mg p.1 = some v ∧ Rel (wd2 G) (wd2 G).base v (C0.glob p.2) := allm (let ⟨t, h⟩ := G.c0; ⟨_, h, t, rfl⟩) (allm (let ⟨t, h⟩ := G.c1; ⟨_, h, t, rfl⟩) alln)
    exact P (g, k) (mem_lookup hg)
  dicts := fun g k hg => by
    obtain ⟨rfl, rfl⟩ := Prod.mk.inj (List.mem_singleton.mp (mem_lookup hg))
    obtain ⟨aD, f, h1, h2, h3⟩ := G.dict
    refine ⟨aD, h1, fun A s' F K Q t x i of hx hk kn => ?_⟩
    obtain ⟨c, rfl, hc, rfl⟩ := dict0 hx
    obtain ⟨u, hv⟩ := h3 c hc
    obtain ⟨o, es, ep, e1, e2, e3, e4⟩ := h2
    have hm : s'.heap.MapOf (strKind Challenge.rw_uc0042_01.row.prog w) aD f := ⟨o, es, ep, of.ok.base.is _ _ (G.nt e1 fun vs q => by rw [e3] at q; cases q), e2, e3, e4⟩
    exact ⟨"dict", _, slot_dict_getitem.lookup, hm.typeIs, wpAny_getItem_of (strKind_is Challenge.rw_uc0042_01.row.prog w ⟨#[c]⟩ t) hm hv (kn.tok of _ (r := .int (teF c)) ⟨_, rfl⟩ hk)⟩
  bi := allm (G.bi (by decide +kernel) (by decide) rfl) (allm (G.bi (by decide +kernel) (by decide) rfl) (allm (G.bi (by decide +kernel) (by decide) rfl) alln))
  zip := fun _ => zip_ok _ _
  ty := allm (G.bi (by decide +kernel) (by decide) rfl) (allm (G.bi (by decide +kernel) (by decide) rfl) (allm (G.bi (by decide +kernel) (by decide) rfl) (allm (G.bi (by decide +kernel) (by decide) rfl) alln)))
theorem Given2.world (G : Given2 w mg mb s t3 t4) : World2 (wd2 G) t3 t4 where
  wt := ⟨rfl, rfl, G.nodup, let ⟨bm, ob, h1, h2, h3, h4, h5, h6⟩ := G.bm; ⟨bm, ob, h1, h2, (fun q => by
    obtain ⟨o, es, ep, e, hd, _⟩ := G.g
    rw [← q, h3] at e; cases e; rw [h6] at hd; cases hd), G.nt h3 (fun vs q => by rw [h6] at q; cases q), h4, h5, h6⟩⟩
  fo := fun _ _ _ _ => Iff.rfl
  here := fun nm hn => G.here (G.fn nm hn)
  en := G.bi (by decide +kernel) (by decide) rfl
  s3 := G.s3
  s4 := G.s4
  c3 := fun a pm code doc o F => G.k3 a o _ F.mg (baseOf_is F.base) F.data
  c4 := fun a pm code doc o F => G.k4 a o _ F.mg (baseOf_is F.base) F.data
  start := G.start
theorem rel_ints {W : Wd} {F : Frz} : ∀ {vs : List Value} {ns : List Int}, IntsAre vs ns → RelL W F vs (ns.map V.int)
  | _, _, .nil => .nil
  | _, _, .cons i t r => .cons (.int _ t) (rel_ints r)
structure EndL (s s' : Shared) (t3 t4 : TabS) (v : Value) : Prop where
  v : v = .bool true
  keep : ∀ b o, b ∉ [t3.P, t4.P] → s.heap.get? b = some o → s'.heap.get? b = some o
  grow : ∀ b ∈ [t3.P, t4.P], ∃ ps, s'.heap.get? b = some (tabObj ps)
  os : s'.os = s.os
  bare : AllBare s.gens → AllBare s'.gens
theorem law01_run (G : Given2 w mg mb s t3 t4) {arg : Addr} {vals : List Value} {ns : List Int} (ha : s.heap.get? arg = some { cls := .type "list", data := .seq vals.toArray }) (hi : IntsAre vals ns) (hl : ns.length ≤ 63) :
    ∃ a, mg lnm = some (.ref a) ∧ wpAny (model Challenge.rw_uc0042_01.row.prog w) callerA (call (.ref a) [.ref arg]) (fun v s' => EndL s s' t3 t4 v) noE s := by
  obtain ⟨a, h1, h2⟩ := law01_core G.world
  refine ⟨a, h1, h2 callerA s (wd2 G).base [.ref arg] [.list (ns.map V.int)] (fun x => x = .bool true) _ ⟨rfl, by decide, by decide⟩ ⟨G.ok, G.ok.base, fun _ _ e => e⟩ (.cons (.list (n := 0) (G.nt ha fun vs q => nomatch q) (rel_ints hi)) .nil) ⟨ns, rfl, hl, rfl⟩ fun v s' F' r st rr hr => ?_⟩
  subst hr
  refine ⟨rr, fun b o hb e => st.keep b o hb (fun h => h) e, fun b hb => ?_, st.os, st.bare⟩
  have hti : tiOf [t3, t4] s'.heap := st.ok.ti
  obtain ⟨t, ht, rfl⟩ := List.mem_map.mp (show b ∈ [t3, t4].map (·.P) from hb)
  obtain ⟨ps, hp, _⟩ := (hti t ht).tab
  exact ⟨ps, hp⟩
end
end Mine
namespace Mine
open PySem PySem.W PySem.W.X PyProof.Rows PySem.Calls
noncomputable def keepB (s : Stmt) : Bool := onS s (fun _ _ _ => true) (fun _ _ _ => true) (fun ts _ _ _ => !(ts.any fun t => onE t false (name := fun x _ _ => x == Str.ofString "__name__"))) (fun _ _ _ _ _ => true) (fun _ _ _ _ _ _ => true) (fun _ _ _ _ _ => true) (fun _ _ _ _ _ => true) (fun _ _ _ _ => true) (fun _ _ _ _ => true) (fun _ _ _ => true) true
noncomputable def q2 : Program := { pr2 with main := { pr2.main with body := pr2.main.body.filter keepB } }
noncomputable def loose2 : List Str := [Str.ofString "EXACT_TOKEN_TYPES"]
noncomputable def obsE (e : DictEntry) : Option (List Nat × Int × Int) := match e.key, e.val with
  | .str x _, .int i _ => some (x.cps.toList, e.hash, i)
  | _, _ => none
noncomputable def obsO (o : Obj) : Option (List (Option (List Nat × Int × Int))) := match o.cls == .type "dict" && (o.dict.isNone && o.slots.isEmpty) with
  | true => (match o.data with
    | .dict es _ => some (es.toList.map obsE)
    | _ => none)
  | false => none
noncomputable def refV (v : Option Value) : Option Addr := match v with
  | some (.ref a) => some a
  | _ => none
noncomputable def obsD (s : Shared) : Option (List (Option (List Nat × Int × Int))) := (refV (s.heap.nsMap mainGlobals (Str.ofString "EXACT_TOKEN_TYPES"))).bind fun a => (s.heap.get? a).bind obsO
noncomputable def toks : List (List Nat × Int) := [([33], 54), ([33, 61], 28), ([37], 24), ([37, 61], 40), ([38], 19), ([38, 61], 41), ([40], 7), ([41], 8), ([42], 16), ([42, 42], 35), ([42, 42, 61], 46), ([42, 61], 38), ([43], 14), ([43, 61], 36), ([44], 12), ([45], 15), ([45, 61], 37), ([45, 62], 51), ([46], 23), ([46, 46, 46], 52), ([47], 17), ([47, 47], 47), ([47, 47, 61], 48), ([47, 61], 39), ([58], 11), ([58, 61], 53), ([59], 13), ([60], 20), ([60, 60], 33), ([60, 60, 61], 44), ([60, 61], 29), ([61], 22), ([61, 61], 27), ([62], 21), ([62, 61], 30), ([62, 62], 34), ([62, 62, 61], 45), ([64], 49), ([64, 61], 50), ([91], 9), ([93], 10), ([94], 32), ([94, 61], 43), ([123], 25), ([124], 18), ([124, 61], 42), ([125], 26), ([126], 31)]
noncomputable def tokF (P : Params) (p : List Nat × Int) : Option (List Nat × Int × Int) := some (p.1, PyData.keyHash P ⟨p.1.toArray⟩, p.2)
noncomputable def obsK (w : World) : Option (List (Option (List Nat × Int × Int))) := some (toks.map (tokF w.params))
noncomputable def codeO (o : Obj) : Option Addr := match o.data with
  | .func fd => refV (some fd.code)
  | _ => none
noncomputable def tabO (o : Obj) : Option Addr := match o.data with
  | .fields vs => refV vs[11]?
  | _ => none
noncomputable def tabH (h : Heap) (x : Str) : Option Addr := (refV (h.nsMap mainGlobals x)).bind fun f => (h.get? f).bind fun o => (codeO o).bind fun c => (h.get? c).bind tabO
noncomputable def obsT (s : Shared) : List (Option Addr) := [tabH s.heap inm, tabH s.heap dnm]
noncomputable def difB (l : List (Option Addr)) : Bool := match l with
  | [some a, some b] => !(a == b)
  | _ => false
noncomputable def obs2 (s : Shared) : Option (List (Option (List Nat × Int × Int))) × Bool := (obsD s, difB (obsT s))
noncomputable def val2 (w : World) : Option (List (Option (List Nat × Int × Int))) × Bool := (obsK w, true)
theorem refV_some {v : Option Value} {a : Addr} (h : refV v = some a) : v = some (.ref a) := by
  unfold refV at h
  split at h
  · rw [Option.some.inj h]
  · cases h
section
variable {P : Params}
theorem tok_find {x : List Nat} {i : Int} : ∀ (l : List DictEntry) (ts : List (List Nat × Int)), l.map obsE = ts.map (tokF P) → (ts.find? fun p => p.1 == x).map (·.2) = some i → ∃ t, (l.find? fun e => Value.isStrOf ⟨x.toArray⟩ e.key).map (·.val) = some (.int i t)
  | [], [], _, h => nomatch h
  | [], _ :: _, h, _ => nomatch h
  | _ :: _, [], h, _ => nomatch h
  | ⟨k, v, hh⟩ :: l, p :: ts, h, hf => by
    obtain ⟨h1, h2⟩ := List.cons.inj h
    unfold obsE tokF at h1
    dsimp only at h1
    split at h1
    · rename_i y t i' t'
      obtain ⟨e1, e2⟩ := Prod.mk.inj (Option.some.inj h1)
      replace e2 := Prod.mk.inj e2
      have e3 := e2.2
      rw [List.find?_cons] at hf ⊢
      have e : (Value.isStrOf ⟨x.toArray⟩ (.str y t)) = (p.1 == x) := by
        rw [← e1]
        show (y == ⟨x.toArray⟩) = (y.cps.toList == x)
        by_cases hy : y.cps.toList = x
        · subst hy; simp
        · rw [beq_false_of_ne hy, beq_false_of_ne fun q => hy (by rw [q])]
      dsimp only at e ⊢
      rw [e]
      cases hb : p.1 == x with
      | true =>
        rw [hb] at hf
        exact ⟨t', congrArg (fun z => some (Value.int z t')) (e3.trans (Option.some.inj hf))⟩
      | false =>
        rw [hb] at hf
        exact tok_find l ts h2 hf
    · cases h1
theorem tok_key {l : List DictEntry} {ts : List (List Nat × Int)} (h : l.map obsE = ts.map (tokF P)) {e : DictEntry} (he : e ∈ l) : ∃ x t, e.key = .str x t ∧ e.hash = PyData.keyHash P x := by
  have : obsE e ∈ ts.map (tokF P) := h ▸ List.mem_map_of_mem he
  obtain ⟨p, _, hp⟩ := List.mem_map.mp this
  obtain ⟨k, v, hh⟩ := e
  unfold obsE tokF at hp
  dsimp only at hp
  split at hp
  · rename_i y t i' t'
    obtain ⟨e1, e2⟩ := Prod.mk.inj (Option.some.inj hp)
    refine ⟨y, t, rfl, ?_⟩
    have : (⟨p.1.toArray⟩ : Str) = y := by rw [e1]
    rw [← this]
    exact (congrArg Prod.fst e2).symm
  · cases hp
end
theorem toks_te : ∀ c ∈ opsF, (toks.find? fun p => p.1 == [c]).map (·.2) = some (teF c) := by decide +kernel
section
variable {w : World} {mg mb : Str → Option Value} {s₀ s : Shared} {loose : List Str} {mean : ExcName → Option Value}
theorem mg_ns (g : s.heap.Ns mainGlobals mg) (k : ∀ b o, s₀.heap.get? b = some o → s.heap.get? b = some o) {x : Str} {v : Value} (h : s₀.heap.nsMap mainGlobals x = some v) : mg x = some v := by
  obtain ⟨o, es, ep, e1, e2, _, e3⟩ := g
  unfold Heap.nsMap at h
  cases q : s₀.heap.get? mainGlobals with
  | none => rw [q] at h; cases h
  | some o' =>
    obtain rfl := Option.some.inj (e1.symm.trans (k _ _ q))
    rw [q] at h
    dsimp only at h
    rw [e2] at h
    exact (e3 x).symm.trans h
theorem dict_of (g : s.heap.Ns mainGlobals mg) (k : ∀ b o, s₀.heap.get? b = some o → s.heap.get? b = some o) (y : obsD s₀ = obsK w) : ∃ aD f, mg (Str.ofString "EXACT_TOKEN_TYPES") = some (.ref aD) ∧ s.heap.MapOf (strKind Challenge.rw_uc0042_01.row.prog w) aD f ∧ ∀ c ∈ opsF, ∃ t, f ⟨#[c]⟩ = some (.int (teF c) t) := by
  obtain ⟨a, ha, y⟩ := Option.bind_eq_some_iff.mp y
  obtain ⟨o, ho, y⟩ := Option.bind_eq_some_iff.mp y
  unfold obsO at y
  split at y
  · rename_i hb
    obtain ⟨b1, b2⟩ := Bool.and_eq_true_iff.mp hb
    obtain ⟨b2, b3⟩ := Bool.and_eq_true_iff.mp b2
    split at y
    · rename_i es n hd
      have y := Option.some.inj y
      refine ⟨a, fun x => findBy Value.isStrOf es x, mg_ns g k (refV_some ha), ⟨o, es, n, k _ _ ho, ⟨beq_iff_eq.mp b1, Option.isNone_iff_eq_none.mp b2, Array.isEmpty_iff.mp b3⟩, hd, fun e he => ?_, fun _ => rfl⟩, fun c hc => ?_⟩
      · obtain ⟨x, t, e1, e2⟩ := tok_key y (Array.mem_toList_iff.mpr he)
        exact ⟨x, by rw [e1]; exact strKind_is _ w x t, e2⟩
      · obtain ⟨t, ht⟩ := tok_find es.toList toks y (toks_te c hc)
        refine ⟨t, ?_⟩
        show (es.find? fun e => Value.isStrOf ⟨#[c]⟩ e.key).map (·.val) = _
        rw [← ht, ← List.find?_toArray]
    · cases y
  · cases y
end
end Mine
namespace Mine
open PySem PySem.W PySem.W.X PyProof.Rows PySem.Calls
inductive TabIs (h : Heap) (mg : Str → Option Value) (nm : Str) (c P : Addr) : Prop
  | mk (a : Addr) (o : Obj) (fd : FuncData) (h1 : mg nm = some (.ref a)) (h2 : h.get? a = some o) (h3 : o.data = .func fd) (h4 : fd.code = .ref c) (hd : CodeHd h c P) (tb : h.get? P = some (tabObj #[]))
theorem TabIs.code {h : Heap} {mg : Str → Option Value} {nm : Str} {c P : Addr} (t : TabIs h mg nm c P) (a : Addr) (o : Obj) (fd : FuncData) (q1 : mg nm = some (.ref a)) (q2 : h.get? a = some o) (q3 : o.data = .func fd) : fd.code = .ref c := by
  obtain ⟨a', o', fd', h1, h2, h3, h4, _, _⟩ := t
  rw [h1] at q1; cases q1
  rw [h2] at q2; cases q2
  rw [h3] at q3; cases q3
  exact h4
section
variable {p : Program} {w : World} {mg mb : Str → Option Value} {s₀ s : Shared} {loose : List Str} {mean : ExcName → Option Value}
theorem tab_is (T : Top p loose mean mg mb s.heap) (k : ∀ b o, s₀.heap.get? b = some o → s.heap.get? b = some o) {d : DefRec} {P : Addr} {nm : Str} (hd : d ∈ recsOf p) (hn : d.name = nm) (ht : tabH s₀.heap nm = some P) : ∃ c, TabIs s.heap mg nm c P := by
  obtain ⟨a, o, fd, c, P', h1, h2, h3, h4, h5, h6⟩ := T.tab d hd
  rw [hn] at h1
  obtain ⟨f, hf, ht⟩ := Option.bind_eq_some_iff.mp ht
  obtain ⟨o', ho, ht⟩ := Option.bind_eq_some_iff.mp ht
  obtain ⟨c', hc, ht⟩ := Option.bind_eq_some_iff.mp ht
  obtain ⟨oc, hoc, ht⟩ := Option.bind_eq_some_iff.mp ht
  have e := mg_ns T.g k (refV_some hf)
  rw [h1] at e; cases e
  obtain rfl := Option.some.inj (h2.symm.trans (k _ _ ho))
  unfold codeO at hc
  rw [h3] at hc
  have ec := Option.some.inj (refV_some hc)
  rw [h4] at ec; cases ec
  obtain ⟨oc', vs, g1, g2, g3, g4⟩ := h6.1
  obtain rfl := Option.some.inj (g1.symm.trans (k _ _ hoc))
  unfold tabO at ht
  rw [g3] at ht
  have eP := refV_some ht
  rw [g4] at eP; cases eP
  exact ⟨c, a, o, fd, h1, h2, h3, h4, CodeHd.of h5 h6, h6.2⟩
inductive RecIs (p : Program) (nm : Str) : Prop
  | mk (d : DefRec) (hd : d ∈ recsOf p) (h0 : d.name = nm) (h1 : d.params = fpar nm) (h2 : d.body = fb nm) (h3 : d.scope = fsc nm)
theorem rec_of {nm : Str} {d : DefRec} (h : (recsOf p).find? (fun e => e.name == nm) = some d) (h1 : d.params = fpar nm) (h2 : d.body = fb nm) (h3 : d.scope = fsc nm) : RecIs p nm :=
  ⟨d, List.mem_of_find?_eq_some h, eq_of_beq (List.find?_some (p := fun e : DefRec => e.name == nm) h), h1, h2, h3⟩
theorem fn_of (T : Top p loose mean mg mb s.heap) {nm : Str} (R : RecIs p nm) : FnG mg s nm := by
  obtain ⟨d, hd, e1, e2, e3, e4⟩ := R
  obtain ⟨a, o, pm, code, doc, h1, h2, h3, h4⟩ := T.fn d hd
  rw [e1, e2, e3, e4] at h3
  rw [e1] at h1 h4
  exact ⟨a, o, pm, code, doc, h1, h2, h3, h4⟩
noncomputable def freeB (p : Program) (loose : List Str) (x : Str) : Bool := !startupNames.contains x && (!loose.contains x && (!((recsOf p).map (·.name)).contains x && (!((litsOf p).map (·.1)).contains x && !((clssOf p loose).map (·.name)).contains x)))
theorem nc {l : List Str} {x : Str} (h : (!l.contains x) = true) : x ∉ l := fun q => by rw [List.contains_iff_mem.mpr q] at h; cases h
theorem free_of (T : Top p loose mean mg mb s.heap) (hc : freeNames.all (freeB p loose) = true) : ∀ x ∈ freeNames, mg x = none := fun x hx => by
  obtain ⟨h1, h⟩ := Bool.and_eq_true_iff.mp (List.all_eq_true.mp hc x hx)
  obtain ⟨h2, h⟩ := Bool.and_eq_true_iff.mp h
  obtain ⟨h3, h⟩ := Bool.and_eq_true_iff.mp h
  obtain ⟨h4, h5⟩ := Bool.and_eq_true_iff.mp h
  exact T.free x (nc h1) (nc h2) (nc h3) (nc h4) (nc h5)
inductive GivenE (w : World) (mg mb : Str → Option Value) (s : Shared) : Prop
  | mk (t3 t4 : TabS) (G : Given2 w mg mb s t3 t4)
theorem difN {x y : Addr} (h : (!(x == y)) = true) : x ≠ y := fun q => by subst q; rw [beq_self_eq_true] at h; cases h
theorem dif_of {l : List (Option Addr)} (h : difB l = true) : ∃ a b, l = [some a, some b] ∧ [a, b].Nodup := by
  cases l with
  | nil => cases h
  | cons x l => cases x with
    | none => cases h
    | some a => cases l with
      | nil => cases h
      | cons y l => cases y with
        | none => cases h
        | some b => cases l with
          | cons z l => cases h
          | nil => exact ⟨a, b, rfl, .cons (allm (difN h) alln) (.cons alln .nil)⟩
theorem given2_of (T : Top p loose mean mg mb s.heap) (k : ∀ b o, s₀.heap.get? b = some o → s.heap.get? b = some o) (y : obs2 s₀ = val2 w) (R : ∀ nm ∈ gnm :: lnm :: fnNames, RecIs p nm) (hc : freeNames.all (freeB p loose) = true)
    (hc0 : valOf p (Str.ofString "ELLIPSIS_MARKER") = some (.str ⟨dots.toArray⟩)) (hc1 : valOf p (Str.ofString "_DIV_LIMIT") = some (.int 4000)) : GivenE w mg mb s := by
  obtain ⟨yD, yT⟩ := Prod.mk.inj y
  obtain ⟨P3, P4, eP, nd⟩ := dif_of yT
  obtain ⟨e3, eP⟩ := List.cons.inj eP
  have e4 := (List.cons.inj eP).1
  have mem : ∀ nm, fnNames.contains nm = true → nm ∈ gnm :: lnm :: fnNames := fun nm h => List.mem_cons_of_mem _ (List.mem_cons_of_mem _ (mem_dec h))
  obtain ⟨d3, m3, n3, _, _, _⟩ := R inm (mem _ (by decide +kernel))
  obtain ⟨d4, m4, n4, _, _, _⟩ := R dnm (mem _ (by decide +kernel))
  obtain ⟨c3, t3⟩ := tab_is T k m3 n3 e3
  obtain ⟨c4, t4⟩ := tab_is T k m4 n4 e4
  have hd : ∀ {nm c P}, TabIs s.heap mg nm c P → CodeHd s.heap c P ∧ s.heap.get? P = some (tabObj #[]) := fun ⟨_, _, _, _, _, _, _, hd, tb⟩ => ⟨hd, tb⟩
  exact ⟨⟨c3, P3, [(iPos inm 1, iQ)]⟩, ⟨c4, P4, [(iPos dnm 0, dQ)]⟩, {
    g := T.g
    b := T.b
    lim := T.nolimit
    fn := fun nm hn => fn_of T (R nm hn)
    free := free_of T hc
    bb := T.builtins
    bm := T.bmain
    c0 := by
      obtain ⟨v, hv, hr⟩ := T.const _ _ hc0
      cases hr s.heap
      exact ⟨_, hv⟩
    c1 := by
      obtain ⟨v, hv, hr⟩ := T.const _ _ hc1
      cases hr s.heap
      exact ⟨_, hv⟩
    dict := dict_of T.g k yD
    tabs := allm (hd t3) (allm (hd t4) alln)
    nodup := nd
    k3 := t3.code
    k4 := t4.code
    s3 := rfl
    s4 := rfl }⟩
end
theorem good_end {cw : ClaimW} {cl : Str → Option Addr} {mean : ExcName → Option Value} {args : List WData} {s₁ s' : Shared} {t3 t4 : TabS} {v : Value} (hT : ∀ t ∈ [t3, t4], CodeHd s₁.heap t.c t.P ∧ s₁.heap.get? t.P = some (tabObj #[]))
    (hraise : ∀ x, cw.raises args x = false) (hpost : cw.post args (.bool true) args = true) (E : EndL s₁ s' t3 t4 v) (hb : AllBare s₁.gens) : GoodWG cw cl mean args s₁ (.ok (.ret v)) s' := by
  obtain ⟨rfl, kp, gr, hos, hbb⟩ := E
  have grown : ∀ b o, b ∈ [t3, t4].map (·.P) → s₁.heap.get? b = some o → isCodeTable s₁.heap b ∧ o = tabObj #[] ∧ ∃ ps, s'.heap.get? b = some (tabObj ps) := fun b o hm e => by
    have g := gr b hm
    obtain ⟨t, ht, rfl⟩ := List.mem_map.mp hm
    exact ⟨((hT t ht).1.tab (hT t ht).2).isCodeTable, Option.some.inj (e.symm.trans (hT t ht).2), g⟩
  refine ⟨.inl ⟨.bool true, .bool true, [], rfl, hraise, .bool true, hpost, fun _ => ⟨List.nodup_nil, fun a ha => nomatch ha⟩⟩, ⟨fun b o e => ?_, fun b o e => ?_⟩, hos, hbb hb⟩
  · by_cases hm : b ∈ [t3, t4].map (·.P)
    · obtain ⟨ht, rfl, ps, hP⟩ := grown b o hm e
      exact .inr (.inl ⟨ht, rfl, #[], ps, rfl, by rw [Array.empty_append]; exact hP⟩)
    · exact .inl (kp b o hm e)
  · by_cases hm : b ∈ [t3, t4].map (·.P)
    · obtain ⟨_, _, ps, hP⟩ := grown b o hm e
      exact ⟨_, hP⟩
    · exact ⟨o, kp b o hm e⟩
end Mine
namespace Mine
open PySem PySem.W PySem.W.X PyProof.Rows PySem.Calls
noncomputable def recV (nm : Str) : Option (Arguments × List Stmt × Scope) := ((recsOf q2).find? (fun e => e.name == nm)).map fun d => (d.params, d.body, d.scope)
noncomputable def recW (nm : Str) : Option (Arguments × List Stmt × Scope) := some (fpar nm, fb nm, fsc nm)
theorem rec_is {nm : Str} (h : recV nm = recW nm) : RecIs q2 nm := by
  obtain ⟨d, hd, e⟩ := Option.map_eq_some_iff.mp h
  obtain ⟨e1, e⟩ := Prod.mk.inj e
  obtain ⟨e2, e3⟩ := Prod.mk.inj e
  exact rec_of hd e1 e2 e3
theorem recs_eq : (gnm :: lnm :: fnNames).map recV = (gnm :: lnm :: fnNames).map recW := by kernel_rfl
theorem recs2 : ∀ nm ∈ gnm :: lnm :: fnNames, RecIs q2 nm := fun nm h => rec_is (List.map_inj_left.mp recs_eq nm h)
theorem free2 : freeNames.all (freeB q2 (looseW q2 loose2)) = true := by decide +kernel
theorem val20 : valOf q2 (Str.ofString "ELLIPSIS_MARKER") = some (.str ⟨dots.toArray⟩) := rfl
theorem val21 : valOf q2 (Str.ofString "_DIV_LIMIT") = some (.int 4000) := rfl
noncomputable def Xt2 (s : Shared) : Bool := xlAt q2 [] s && recOk (RowW.records Challenge.rw_uc0042_01.row.toRowW) s
noncomputable def bootS (w : World) (os : OsState) : Shared := ⟨boot_heap w.params, Array.mk [], boot_drawn, boot_toks, os⟩
theorem open2 : ∀ w : World, (fencedOpening treeTable pr2 w 4346).map (fun s => (s.heap, s.gens, s.drawn, s.toks)) = some (boot_heap w.params, Array.mk [], boot_drawn, boot_toks) := boot_open (by kernel_rfl) (by decide) (fun s => by kernel_rfl)
end Mine
namespace Mine
open PySem PySem.W PySem.W.X PyProof.Rows PySem.Calls
noncomputable def TopOk (w : World) (os : OsState) (b : Bool) : Prop := (topFrom treeTable pr2 (w.withFollow "special-get-raises" b) 4346 (bootS w os)).map (fun s => (openSeen q2 loose2 (importedModules pr2.main.body) Xt2 true s, obs2 s)) = some (openGood q2 loose2, val2 (w.withFollow "special-get-raises" b))
set_option maxHeartbeats 0 in
theorem left2a (w : World) (os : OsState) : TopOk w os false := by
  unfold TopOk topFrom
  rw [PySem.W.Fast.te14082659384304107361, PySem.W.Fast.te4187177175401517315, PySem.W.Fast.te14364793385576792824]
  kernel_rfl
set_option maxHeartbeats 0 in
theorem left2b (w : World) (os : OsState) : TopOk w os true := by
  unfold TopOk topFrom
  rw [PySem.W.Fast.te14082659384304107361, PySem.W.Fast.te4187177175401517315, PySem.W.Fast.te14364793385576792824]
  kernel_rfl
theorem left2 : LeftO pr2 q2 loose2 Xt2 obs2 val2 4346 := LeftO.of_split "special-get-raises" fun w => by
  obtain ⟨s₀, h0, hv⟩ := Option.map_eq_some_iff.mp (open2 w)
  obtain ⟨os, rfl⟩ : ∃ os, s₀ = bootS w os := by
    obtain ⟨hp, gs, dr, tk, os⟩ := s₀
    obtain ⟨rfl, hv⟩ := Prod.mk.inj hv
    obtain ⟨rfl, hv⟩ := Prod.mk.inj hv
    obtain ⟨rfl, rfl⟩ := Prod.mk.inj hv
    exact ⟨os, rfl⟩
  rw [h0]
  have h1 : _ = _ := left2a w os
  have h2 : _ = _ := left2b w os
  exact congrArg some (Prod.ext h1 h2)
end Mine
open PySem PySem.W PySem.W.X PyProof.Rows
namespace Mine
theorem said01 : OpenLaw.wellSaid Challenge.rw_uc0042_01 = true := by
  rw [PySem.W.Fast.te9446332074065402090]
  kernel_rfl
theorem post01 (ns : List Int) : Challenge.rw_uc0042_01.row.claim.post [ofPy (PyData.list (List.map PyData.int ns))] (WData.bool true) [ofPy (PyData.list (List.map PyData.int ns))] = true := by
  refine' postW_of ?s ?v ?e
  case s => o_shape
  case v => wtm_val
  case e => w_fin
end Mine
set_option maxHeartbeats 0 in
theorem PySem.Challenge.cw_uc0042_01_holds : PySem.Challenge.rw_uc0042_01.Holds := by
  w_on
  refine holds_law Mine.said01 fun said => ?_
  refine holds_openX (q := Mine.q2) (loose := Mine.loose2) (Xt := Mine.Xt2) (XP := XL Mine.q2 []) (Yf := Mine.obs2) (Ya := Mine.val2) (N := 4346) Mine.left2 (fun s e => xl_of s (Bool.and_eq_true_iff.mp e).1) XL.keeps (by rfl) (by rfl) (by rfl) (fun s e => recFacts_of (Bool.and_eq_true_iff.mp e).2) (by rfl) (by first | assumption | decide +kernel) (by decide +kernel) ⟨rfl, rfl, rfl, rfl, rfl, by decide +kernel⟩ ?hw ?hc
  case hw => w_witness2
  case hc =>
    intro w s₀ s₁ mg mb G y fa o pm cd doc dV kV ho hd hcd hD hmg hg args vals as L hpre hlay hrd hwl hlo
    clear ho hd hcd hD
    refine Ground.open G ?_
    intro T B D TE TW
    clear B D TE TW
    wrow_args hpre hlay hrd hwl hlo
    obtain ⟨t3, t4, G2⟩ := Mine.given2_of T L.keeps y Mine.recs2 Mine.free2 Mine.val20 Mine.val21
    obtain ⟨a, ha1, ha2⟩ := Mine.law01_run G2 (script_obj L ‹s₁.heap.IsList _ _›) ‹IntsAre _ _› (by omega)
    cases Option.some.inj (ha1.symm.trans hmg)
    refine wpAny_mono ha2 (fun v s' E => ?_) (fun e s' h => h.elim)
    exact Mine.good_end G2.tabs (fun _ => rfl) (Mine.post01 _) E (AllBare.of_eq hg)
