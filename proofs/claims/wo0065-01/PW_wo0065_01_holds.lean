import PyProof.Rows.All
import Wide.All
import OpenK.AllK
import Wide.FinOn
import PyProof.CompFree
import Lean
import PySem.Challenge.RW_wo0065_01
set_option Elab.async false
set_option maxRecDepth 100000
set_option linter.unusedVariables false
set_option maxHeartbeats 0
section
open PySem PySem.W PyProof.Rows
namespace Mine
inductive MV where
  | none
  | bool (b : Bool)
  | int (i : Int)
  | str (s : Str)
  | ref (n : Nat)
deriving DecidableEq
inductive MO where
  | list (xs : List MV)
  | tup (xs : List MV)
  | inst (as : List (String × MV))
deriving DecidableEq
noncomputable abbrev MH := List MO
noncomputable abbrev MEnv := String → Option MV
inductive R (α : Type) where
  | stuck
  | ok (a : α) (σ : MH)
  | exc (c : Bool) (m : Str) (σ : MH)
noncomputable def R.bind {α β : Type} : R α → (α → MH → R β) → R β
  | .stuck, _ => .stuck
  | .ok a σ, f => f a σ
  | .exc c m σ, _ => .exc c m σ
@[simp] theorem R.bind_ok {α β : Type} (a : α) (σ : MH) (f : α → MH → R β) : (R.ok a σ).bind f = f a σ := rfl
@[simp] theorem R.bind_stuck {α β : Type} (f : α → MH → R β) : (R.stuck : R α).bind f = .stuck := rfl
@[simp] theorem R.bind_exc {α β : Type} (c : Bool) (m : Str) (σ : MH) (f : α → MH → R β) : (R.exc c m σ : R α).bind f = .exc c m σ := rfl
noncomputable abbrev ED := MEnv → MH → R MV
noncomputable abbrev LD := MEnv → MH → R (List MV)
noncomputable abbrev TD := MEnv → MH → R Bool
inductive MF where
  | next
  | brk
  | ret (v : MV)
noncomputable abbrev SD := MEnv → MH → R (MF × MEnv)
noncomputable def upd (ρ : MEnv) (x : String) (v : MV) : MEnv := fun y => if y = x then some v else ρ y
noncomputable def maxLen : Nat := 1000000
noncomputable def eVar (x : String) : ED := fun ρ σ => match ρ x with
  | some v => .ok v σ
  | .none => .stuck
noncomputable def eVal (v : MV) : ED := fun _ σ => .ok v σ
noncomputable def eBin (f : MV → MV → MH → R MV) (a b : ED) : ED := fun ρ σ => (a ρ σ).bind fun va σ₁ => (b ρ σ₁).bind fun vb σ₂ => f va vb σ₂
noncomputable def alloc (o : MO) (σ : MH) : R MV := .ok (.ref σ.length) (σ ++ [o])
noncomputable def opAdd (a b : MV) (σ : MH) : R MV := match a, b with
  | .int x, .int y => .ok (.int (x + y)) σ
  | .str x, .str y => if x.length + y.length ≤ maxLen then .ok (.str (x ++ y)) σ else .stuck
  | .ref i, .ref j => match σ[i]?, σ[j]? with
    | some (.list xs), some (.list ys) => if xs.length + ys.length ≤ maxLen then alloc (.list (xs ++ ys)) σ else .stuck
    | _, _ => .stuck
  | _, _ => .stuck
noncomputable def opSub (a b : MV) (σ : MH) : R MV := match a, b with
  | .int x, .int y => .ok (.int (x - y)) σ
  | _, _ => .stuck
noncomputable def small (x : Int) : Bool := decide (-1000000 ≤ x) && decide (x ≤ 1000000)
noncomputable def opMul (a b : MV) (σ : MH) : R MV := match a, b with
  | .int x, .int y => if small x && small y then .ok (.int (x * y)) σ else .stuck
  | .ref i, .int y => match σ[i]? with
    | some (.list [v]) => if 0 ≤ y ∧ y ≤ 1000 then alloc (.list (List.replicate y.toNat v)) σ else .stuck
    | _ => .stuck
  | _, _ => .stuck
noncomputable def opDiv (a b : MV) (σ : MH) : R MV := match a, b with
  | .int x, .int y => if small x && small y && decide (y ≠ 0) then .ok (.int (Int.fdiv x y)) σ else .stuck
  | _, _ => .stuck
noncomputable def opMod (a b : MV) (σ : MH) : R MV := match a, b with
  | .int x, .int y => if y ≠ 0 then .ok (.int (Int.fmod x y)) σ else .stuck
  | _, _ => .stuck
noncomputable def opPow (a b : MV) (σ : MH) : R MV := match a, b with
  | .int x, .int y => if x = 10 ∧ y = 6 then .ok (.int 1000000) σ else .stuck
  | _, _ => .stuck
noncomputable def toPy (σ : MH) : Nat → MV → Option PyData
  | _, .none => some .none
  | _, .bool b => some (.bool b)
  | _, .int i => some (.int i)
  | _, .str s => some (.str s)
  | 0, .ref _ => none
  | n + 1, .ref i => match σ[i]? with
    | some (.list xs) => (xs.mapM (toPy σ n)).map .list
    | some (.tup xs) => (xs.mapM (toPy σ n)).map .tuple
    | _ => none
noncomputable def cmpEq? (a b : MV) (σ : MH) : Option Bool := match a, b with
  | .int x, .int y => some (x == y)
  | .str x, .str y => some (x == y)
  | a, b => match toPy σ 4 a, toPy σ 4 b with
    | some d, some e => if SeqAt.shaped d && SeqAt.shaped e then some (PyData.eqv d e) else none
    | _, _ => none
inductive Cm where
  | eq | ne | lt | le | gt | ge | is | isnot
noncomputable def onInts (f : Int → Int → Bool) (a b : MV) (σ : MH) : R MV := match a, b with
  | .int x, .int y => .ok (.bool (f x y)) σ
  | _, _ => .stuck
noncomputable def onBools (f : Bool → Bool → Bool) (a b : MV) (σ : MH) : R MV := match a, b with
  | .bool x, .bool y => .ok (.bool (f x y)) σ
  | _, _ => .stuck
noncomputable def cmpOp (c : Cm) (a b : MV) (σ : MH) : R MV := match c with
  | .eq => match cmpEq? a b σ with
    | some r => .ok (.bool r) σ
    | .none => .stuck
  | .ne => match cmpEq? a b σ with
    | some r => .ok (.bool (!r)) σ
    | .none => .stuck
  | .is => onBools (fun x y => x == y) a b σ
  | .isnot => onBools (fun x y => !(x == y)) a b σ
  | .lt => onInts (fun x y => decide (x < y)) a b σ
  | .le => onInts (fun x y => decide (x ≤ y)) a b σ
  | .gt => onInts (fun x y => decide (x > y)) a b σ
  | .ge => onInts (fun x y => decide (x ≥ y)) a b σ
noncomputable def eCmp (c : Cm) (a b : ED) : ED := eBin (cmpOp c) a b
noncomputable def opIn (va vb : MV) (σ : MH) : R MV := match vb with
  | .ref j => match σ[j]? with
    | some (.list ys) => match ys.mapM (toPy σ 4), toPy σ 4 va with
      | some xs, some d => if PyData.canLayAll0 xs && d.canLay0 && decide (d.depth ≤ 64) then .ok (.bool (xs.any fun y => PyData.eqv y d)) σ else .stuck
      | _, _ => .stuck
    | _ => .stuck
  | _ => .stuck
noncomputable def eInList (a b : ED) : ED := eBin opIn a b
noncomputable def eIf (c : TD) (a b : ED) : ED := fun ρ σ => (c ρ σ).bind fun t σ₁ => if t then a ρ σ₁ else b ρ σ₁
noncomputable def lNil : LD := fun _ σ => .ok [] σ
noncomputable def lCons (a : ED) (r : LD) : LD := fun ρ σ => (a ρ σ).bind fun v σ₁ => (r ρ σ₁).bind fun vs σ₂ => .ok (v :: vs) σ₂
noncomputable def allocN (o : List MV → MO) (vs : List MV) (σ : MH) : R MV := if vs.length ≤ maxLen then alloc (o vs) σ else .stuck
noncomputable def eList (l : LD) : ED := fun ρ σ => (l ρ σ).bind (allocN .list)
noncomputable def eTup (l : LD) : ED := fun ρ σ => (l ρ σ).bind (allocN .tup)
noncomputable def place? (k : Int) (n : Nat) : Option Nat := if 0 ≤ k then (if k < n ∧ k < 1000000 then some k.toNat else none) else (if k = -1 ∧ 0 < n ∧ n < 1000000 then some (n - 1) else none)
noncomputable def mGet (a i : MV) (σ : MH) : R MV := match a, i with
  | .ref j, .int k => match σ[j]? with
    | some (.list xs) => match (place? k xs.length).bind (xs[·]?) with
      | some v => .ok v σ
      | .none => .stuck
    | some (.tup xs) => match (place? k xs.length).bind (xs[·]?) with
      | some v => .ok v σ
      | .none => .stuck
    | _ => .stuck
  | .str x, .int k => if 0 ≤ k ∧ k < x.length ∧ k < 1000000 then .ok (.str (Txt.item x k)) σ else .stuck
  | _, _ => .stuck
noncomputable def eIdx (a i : ED) : ED := eBin mGet a i
noncomputable def eUn (f : MV → MH → R MV) (a : ED) : ED := fun ρ σ => (a ρ σ).bind f
noncomputable def fLen (a : MV) (σ : MH) : R MV := match a with
  | .ref i => match σ[i]? with
    | some (.list xs) => if xs.length ≤ maxLen then .ok (.int xs.length) σ else .stuck
    | some (.tup xs) => if xs.length ≤ maxLen then .ok (.int xs.length) σ else .stuck
    | _ => .stuck
  | _ => .stuck
noncomputable def ints? : List MV → Option (List Int)
  | [] => some []
  | .int i :: r => (ints? r).map (i :: ·)
  | _ :: _ => none
noncomputable def strs? : List MV → Option (List Str)
  | [] => some []
  | .str i :: r => (strs? r).map (i :: ·)
  | _ :: _ => none
noncomputable def maxI : Int → List Int → Int
  | m, [] => m
  | m, x :: r => maxI (if x > m then x else m) r
noncomputable def minI : Int → List Int → Int
  | m, [] => m
  | m, x :: r => minI (if x < m then x else m) r
noncomputable def overInts (f : List Int → Option Int) (a : MV) (σ : MH) : R MV := match a with
  | .ref i => match σ[i]? with
    | some (.list xs) => match (ints? xs).bind f with
      | some r => if xs.length ≤ maxLen then .ok (.int r) σ else .stuck
      | .none => .stuck
    | _ => .stuck
  | _ => .stuck
noncomputable def fMax := overInts fun | [] => none | x :: r => some (maxI x r)
noncomputable def fMin := overInts fun | [] => none | x :: r => some (minI x r)
noncomputable def fSum := overInts fun l => some l.sum
noncomputable def opMax2 (a b : MV) (σ : MH) : R MV := match a, b with
  | .int x, .int y => .ok (.int (if y > x then y else x)) σ
  | _, _ => .stuck
noncomputable def opMin2 (a b : MV) (σ : MH) : R MV := match a, b with
  | .int x, .int y => .ok (.int (if y < x then y else x)) σ
  | _, _ => .stuck
noncomputable def digit (i : Int) : Str := ⟨#[48 + i.toNat]⟩
noncomputable def fStr (a : MV) (σ : MH) : R MV := match a with
  | .int i => if 0 ≤ i ∧ i < 10 then .ok (.str (digit i)) σ else .stuck
  | _ => .stuck
noncomputable def digitOf? (s : Str) : Option Int := (List.range 10).findSome? fun (d : Nat) => if s = digit d then some (d : Int) else none
noncomputable def fInt (a : MV) (σ : MH) : R MV := match a with
  | .str s => match digitOf? s with
    | some d => .ok (.int d) σ
    | .none => .stuck
  | _ => .stuck
noncomputable def fTuple (a : MV) (σ : MH) : R MV := match a with
  | .ref i => match σ[i]? with
    | some (.list xs) => if xs.length ≤ maxLen then alloc (.tup xs) σ else .stuck
    | _ => .stuck
  | _ => .stuck
noncomputable def fList (a : MV) (σ : MH) : R MV := match a with
  | .ref i => match σ[i]? with
    | some (.list xs) => if xs.length ≤ maxLen then alloc (.list xs) σ else .stuck
    | _ => .stuck
  | _ => .stuck
noncomputable def eMeth (f : Str → List MV → MH → R MV) (a : ED) (l : LD) : ED := fun ρ σ => (a ρ σ).bind fun va σ₁ => match va with
  | .str x => (l ρ σ₁).bind fun vs σ₂ => f x vs σ₂
  | _ => .stuck
noncomputable def mFind (x : Str) (vs : List MV) (σ : MH) : R MV := match vs with
  | [.str y] => .ok (.int (Txt.find x y)) σ
  | _ => .stuck
noncomputable def mFind3 (x : Str) (vs : List MV) (σ : MH) : R MV := match vs with
  | [.str y, .int i] => .ok (.int (Txt.find3 x y i)) σ
  | _ => .stuck
noncomputable def mSplit (x : Str) (vs : List MV) (σ : MH) : R MV := match vs with
  | [.str y] => if y.length ≠ 0 ∧ x.length ≤ maxLen then alloc (.list ((Txt.split x y).map .str)) σ else .stuck
  | _ => .stuck
noncomputable def mJoin (x : Str) (vs : List MV) (σ : MH) : R MV := match vs with
  | [.ref j] => match σ[j]? with
    | some (.list ys) => match strs? ys with
      | some zs => if x.length ≤ 64 ∧ (zs.map (·.length)).sum + zs.length * 64 ≤ 16777216 then .ok (.str (Txt.join x zs)) σ else .stuck
      | .none => .stuck
    | _ => .stuck
  | _ => .stuck
noncomputable def okB (n : Nat) (b : Int) : Bool := decide (0 ≤ b) && decide (b ≤ 1000000) && decide (n ≤ maxLen)
noncomputable def pick9 (xs : List MV) (j : Int) : List MV :=
  (sliceRange (sliceBounds (some j) none (some 9) xs.length).1 (sliceBounds (some j) none (some 9) xs.length).2.1 (sliceBounds (some j) none (some 9) xs.length).2.2).filterMap (xs[·]?)
noncomputable def opSlTo (va vb : MV) (σ : MH) : R MV := match va, vb with
  | .str x, .int j => if okB x.length j then .ok (.str (Txt.slice x none (some j))) σ else .stuck
  | .ref i, .int j => match σ[i]? with
    | some (.list xs) => if okB xs.length j && decide (j ≤ xs.length) then alloc (.list (xs.take j.toNat)) σ else .stuck
    | _ => .stuck
  | _, _ => .stuck
noncomputable def opSlFrom (va vb : MV) (σ : MH) : R MV := match va, vb with
  | .str x, .int j => if okB x.length j then .ok (.str (Txt.slice x (some j) none)) σ else .stuck
  | .ref i, .int j => match σ[i]? with
    | some (.list xs) => if okB xs.length j && decide (j ≤ xs.length) then alloc (.list (xs.drop j.toNat)) σ else .stuck
    | _ => .stuck
  | _, _ => .stuck
noncomputable def opSl (va vb vc : MV) (σ : MH) : R MV := match va, vb, vc with
  | .str x, .int i, .int j => if okB x.length i && okB x.length j then .ok (.str (Txt.slice x (some i) (some j))) σ else .stuck
  | _, _, _ => .stuck
noncomputable def opSlBy9 (va vb : MV) (σ : MH) : R MV := match va, vb with
  | .ref i, .int j => match σ[i]? with
    | some (.list xs) => if okB xs.length j then alloc (.list (pick9 xs j)) σ else .stuck
    | _ => .stuck
  | _, _ => .stuck
noncomputable def opSlFromS (va vb : MV) (σ : MH) : R MV := match va, vb with
  | .str x, .int j => if okB x.length j then .ok (.str (Txt.slice x (some j) none)) σ else .stuck
  | _, _ => .stuck
noncomputable def eSlFromS (a b : ED) : ED := eBin opSlFromS a b
noncomputable def eSlTo (a b : ED) : ED := eBin opSlTo a b
noncomputable def eSlFrom (a b : ED) : ED := eBin opSlFrom a b
noncomputable def eSl (a b c : ED) : ED := fun ρ σ => (a ρ σ).bind fun va σ₁ => (b ρ σ₁).bind fun vb σ₂ => (c ρ σ₂).bind fun vc σ₃ => opSl va vb vc σ₃
noncomputable def eSlBy9 (a b : ED) : ED := eBin opSlBy9 a b
noncomputable def attr? (σ : MH) (v : MV) (n : String) : Option MV := match v with
  | .ref i => match σ[i]? with
    | some (.inst as) => as.lookup n
    | _ => none
  | _ => none
noncomputable def opAttr (n : String) (va : MV) (σ : MH) : R MV := match attr? σ va n with
  | some v => .ok v σ
  | .none => .stuck
noncomputable def eAttr (a : ED) (n : String) : ED := eUn (opAttr n) a
noncomputable def opPop (va : MV) (σ : MH) : R MV := match va with
  | .ref i => match σ[i]? with
    | some (.list xs) => match xs.getLast?, i with
      | some v, k + 1 => if xs.length ≤ maxLen then .ok v (σ.set (k + 1) (.list xs.dropLast)) else .stuck
      | _, _ => .stuck
    | _ => .stuck
  | _ => .stuck
noncomputable def ePop (a : ED) : ED := eUn opPop a
noncomputable def eInstM (n : String) (f : List MV → MH → R MV) (a : ED) (l : LD) : ED := fun ρ σ => (a ρ σ).bind fun va σ₁ => match va with
  | .ref j => match σ₁[j]? with
    | some (.inst as) => if as.lookup n = none then (l ρ σ₁).bind fun vs σ₂ => f (.ref j :: vs) σ₂ else .stuck
    | _ => .stuck
  | _ => .stuck
noncomputable def eCall (f : List MV → MH → R MV) (l : LD) : ED := fun ρ σ => (l ρ σ).bind fun vs σ₁ => f vs σ₁
inductive Src where
  | range (a c : Int) (n : Nat)
  | list (i : Nat) (xs : List MV)
  | chars (s : Str)
noncomputable abbrev RD := MEnv → MH → R Src
noncomputable def Src.items : Src → List MV
  | .range a c n => (List.range n).map fun (k : Nat) => .int (a + (k : Int) * c)
  | .list _ xs => xs
  | .chars s => s.cps.toList.map fun c => .str ⟨#[c]⟩
noncomputable def Src.stands (r : Src) (σ : MH) : Bool := match r with
  | .list i xs => decide (σ[i]? = some (.list xs))
  | _ => true
noncomputable def rRange (a b : ED) : RD := fun ρ σ => (a ρ σ).bind fun va σ₁ => (b ρ σ₁).bind fun vb σ₂ => match va, vb with
  | .int x, .int y => if small x && small y then .ok (.range x 1 (y - x).toNat) σ₂ else .stuck
  | _, _ => .stuck
noncomputable def rRange1 (b : ED) : RD := fun ρ σ => (b ρ σ).bind fun vb σ₂ => match vb with
  | .int y => if small y then .ok (.range 0 1 y.toNat) σ₂ else .stuck
  | _ => .stuck
noncomputable def rDown (a : ED) : RD := fun ρ σ => (a ρ σ).bind fun va σ₁ => match va with
  | .int x => if small x then .ok (.range x (-1) (x + 1).toNat) σ₁ else .stuck
  | _ => .stuck
noncomputable def rList (a : ED) : RD := fun ρ σ => (a ρ σ).bind fun va σ₁ => match va with
  | .ref i => match σ₁[i]? with
    | some (.list xs) => .ok (.list i xs) σ₁
    | _ => .stuck
  | .str s => .ok (.chars s) σ₁
  | _ => .stuck
noncomputable def seen (ρ : MEnv) (fv : List String) : MEnv := fun y => if fv.contains y then ρ y else none
noncomputable def compGo (r : Src) (x : String) (t : TD) (e : ED) (ρ : MEnv) : List MV → List MV → MH → R (List MV)
  | [], acc, σ => .ok acc σ
  | v :: vs, acc, σ => match t (upd ρ x v) σ with
    | .ok true σ₁ => match e (upd ρ x v) σ₁ with
      | .ok y σ₂ => if r.stands σ₂ then compGo r x t e ρ vs (acc ++ [y]) σ₂ else .stuck
      | _ => .stuck
    | .ok false σ₁ => if r.stands σ₁ then compGo r x t e ρ vs acc σ₁ else .stuck
    | _ => .stuck
noncomputable def eComp (e : ED) (x : String) (fv : List String) (src : RD) (t : TD) : ED := fun ρ σ => (src ρ σ).bind fun r σ₁ =>
  if r.items.length ≤ 1000 then (compGo r x t e (seen ρ fv) r.items [] σ₁).bind fun ys σ₂ => alloc (.list ys) σ₂ else .stuck
noncomputable def tTrue : TD := fun _ σ => .ok true σ
noncomputable def asBool (v : MV) (σ : MH) : R Bool := match v with
  | .bool b => .ok b σ
  | _ => .stuck
noncomputable def tOf (a : ED) : TD := fun ρ σ => (a ρ σ).bind asBool
noncomputable def tAnd (a b : TD) : TD := fun ρ σ => (a ρ σ).bind fun v σ₁ => if v then b ρ σ₁ else .ok false σ₁
noncomputable def tOr (a b : TD) : TD := fun ρ σ => (a ρ σ).bind fun v σ₁ => if v then .ok true σ₁ else b ρ σ₁
noncomputable def tNot (a : TD) : TD := fun ρ σ => (a ρ σ).bind fun v σ₁ => .ok (!v) σ₁
noncomputable def tChain (a b c : ED) : TD := fun ρ σ => (a ρ σ).bind fun va σ₁ => (b ρ σ₁).bind fun vb σ₂ => match va, vb with
  | .int x, .int y => if x < y then (c ρ σ₂).bind fun vc σ₃ => match vc with
      | .int z => .ok (decide (y < z)) σ₃
      | _ => .stuck
    else .ok false σ₂
  | _, _ => .stuck
noncomputable def eAnd (a b : ED) : ED := fun ρ σ => (a ρ σ).bind fun v σ₁ => match v with
  | .bool true => b ρ σ₁
  | .bool false => .ok (.bool false) σ₁
  | _ => .stuck
noncomputable def sPass : SD := fun ρ σ => .ok (.next, ρ) σ
noncomputable def sSeq (a b : SD) : SD := fun ρ σ => (a ρ σ).bind fun r σ₁ => match r with
  | (.next, ρ₁) => b ρ₁ σ₁
  | r => .ok r σ₁
noncomputable def sAssign (x : String) (a : ED) : SD := fun ρ σ => (a ρ σ).bind fun v σ₁ => .ok (.next, upd ρ x v) σ₁
noncomputable def updAll (ρ : MEnv) : List String → List MV → MEnv
  | x :: xs, v :: vs => updAll (upd ρ x v) xs vs
  | _, _ => ρ
noncomputable def sAssign3 (x y z : String) (a : ED) : SD := fun ρ σ => (a ρ σ).bind fun v σ₁ => .ok (.next, upd (upd (upd ρ x v) y v) z v) σ₁
noncomputable def sUnpack (xs : List String) (a : ED) : SD := fun ρ σ => (a ρ σ).bind fun v σ₁ => match v with
  | .ref i => match σ₁[i]? with
    | some (.tup vs) => if vs.length = xs.length then .ok (.next, updAll ρ xs vs) σ₁ else .stuck
    | _ => .stuck
  | _ => .stuck
noncomputable def sPair (xs : List String) (l : LD) : SD := fun ρ σ => (l ρ σ).bind fun vs σ₁ => if vs.length = xs.length then .ok (.next, updAll ρ xs vs) σ₁ else .stuck
noncomputable def sSetItem (a i e : ED) : SD := fun ρ σ => (e ρ σ).bind fun v σ₁ => (a ρ σ₁).bind fun va σ₂ => (i ρ σ₂).bind fun vi σ₃ => match va, vi with
  | .ref j, .int k => match σ₃[j]? with
    | some (.list xs) => if j ≠ 0 ∧ 0 ≤ k ∧ k < xs.length ∧ k < 1000000 then .ok (.next, ρ) (σ₃.set j (.list (xs.set k.toNat v))) else .stuck
    | _ => .stuck
  | _, _ => .stuck
noncomputable def sSetAttr (a : ED) (n : String) (e : ED) : SD := fun ρ σ => (e ρ σ).bind fun v σ₁ => (a ρ σ₁).bind fun va σ₂ => match va with
  | .ref j => match σ₂[j]? with
    | some (.inst as) => if j ≠ 0 ∧ as.lookup n = none ∧ as.length < 900 then .ok (.next, ρ) (σ₂.set j (.inst (as ++ [(n, v)]))) else .stuck
    | _ => .stuck
  | _ => .stuck
noncomputable def opAppend (j : Nat) (v : MV) (ρ : MEnv) (σ : MH) : R (MF × MEnv) := match σ[j]? with
  | some (.list xs) => if j ≠ 0 ∧ xs.length ≤ maxLen then .ok (.next, ρ) (σ.set j (.list (xs ++ [v]))) else .stuck
  | _ => .stuck
noncomputable def sAppend (a e : ED) : SD := fun ρ σ => (a ρ σ).bind fun va σ₁ => match va with
  | .ref j => match σ₁[j]? with
    | some (.list _) => (e ρ σ₁).bind fun v σ₂ => opAppend j v ρ σ₂
    | _ => .stuck
  | _ => .stuck
noncomputable def sIf (c : TD) (a b : SD) : SD := fun ρ σ => (c ρ σ).bind fun t σ₁ => if t then a ρ σ₁ else b ρ σ₁
noncomputable def sRet (a : ED) : SD := fun ρ σ => (a ρ σ).bind fun v σ₁ => .ok (.ret v, ρ) σ₁
noncomputable def sBreak : SD := fun ρ σ => .ok (.brk, ρ) σ
noncomputable def sRaise (c : Bool) (a : ED) : SD := fun ρ σ => (a ρ σ).bind fun v σ₁ => match v with
  | .str m => .exc c m σ₁
  | _ => .stuck
noncomputable def forGo (r : Src) (x : String) (body : SD) : List MV → MEnv → MH → R (MF × MEnv)
  | [], ρ, σ => .ok (.next, ρ) σ
  | v :: vs, ρ, σ => match body (upd ρ x v) σ with
    | .ok (.next, ρ₁) σ₁ => if r.stands σ₁ then forGo r x body vs ρ₁ σ₁ else .stuck
    | .ok (.brk, ρ₁) σ₁ => .ok (.next, ρ₁) σ₁
    | .ok (.ret v, ρ₁) σ₁ => .ok (.ret v, ρ₁) σ₁
    | _ => .stuck
noncomputable def sFor (x : String) (src : RD) (body : SD) : SD := fun ρ σ => (src ρ σ).bind fun r σ₁ => forGo r x body r.items ρ σ₁
noncomputable def whileGo (c : TD) (body : SD) : Nat → MEnv → MH → R (MF × MEnv)
  | 0, _, _ => .stuck
  | n + 1, ρ, σ => (c ρ σ).bind fun t σ₁ => if t then (body ρ σ₁).bind fun r σ₂ => (match r with
      | (.next, ρ₂) => whileGo c body n ρ₂ σ₂
      | (.brk, ρ₂) => .ok (.next, ρ₂) σ₂
      | r => .ok r σ₂) else .ok (.next, ρ) σ₁
noncomputable def sWhile (c : TD) (body : SD) : SD := fun ρ σ => whileGo c body 40 ρ σ
noncomputable def defCall (ps : List String) (body : SD) (vs : List MV) (σ : MH) : R MV :=
  if vs.length = ps.length then (body (updAll (fun _ => none) ps vs) σ).bind fun r σ₁ => match r with
    | (.ret v, _) => .ok v σ₁
    | (.next, _) => .ok .none σ₁
    | _ => .stuck
  else .stuck
noncomputable def noExc (f : List MV → MH → R MV) (vs : List MV) (σ : MH) : R MV := match f vs σ with
  | .ok v σ' => .ok v σ'
  | _ => .stuck
theorem boxF {α : Type} {P : α → Prop} {x : α} (h : ∀ G : α → Prop, (∀ a, P a → G a) → G x) : P x := h P fun _ p => p
theorem off_one {i j n : Nat} (e : i ≠ j) (hi : n ≤ i) (h1 : i - n = 0) (hj : n ≤ j) (h2 : j - n = 0) : False :=
  e ((Nat.le_antisymm (Nat.sub_eq_zero_iff_le.mp h1) hi).trans (Nat.le_antisymm (Nat.sub_eq_zero_iff_le.mp h2) hj).symm)
noncomputable def ce {α : Type} (d : α) (P : α → Prop) : α := @Classical.epsilon α ⟨d⟩ fun x => ¬ P x
theorem ce_all {α : Type} {P : α → Prop} (d : α) (h : P (ce d P)) (x : α) : P x := Classical.byContradiction fun hx => (Classical.epsilon_spec_aux ⟨d⟩ (fun x => ¬ P x) ⟨x, hx⟩) h
theorem box {P : Prop} (h : ∀ G : Prop, (P → G) → G) : P := h P id
noncomputable def tokTab : List (Str × Int) := [(Str.ofString "!", 54), (Str.ofString "!=", 28), (Str.ofString "%", 24), (Str.ofString "%=", 40), (Str.ofString "&", 19), (Str.ofString "&=", 41), (Str.ofString "(", 7), (Str.ofString ")", 8), (Str.ofString "*", 16), (Str.ofString "**", 35), (Str.ofString "**=", 46), (Str.ofString "*=", 38), (Str.ofString "+", 14), (Str.ofString "+=", 36), (Str.ofString ",", 12), (Str.ofString "-", 15), (Str.ofString "-=", 37), (Str.ofString "->", 51), (Str.ofString ".", 23), (Str.ofString "...", 52), (Str.ofString "/", 17), (Str.ofString "//", 47), (Str.ofString "//=", 48), (Str.ofString "/=", 39), (Str.ofString ":", 11), (Str.ofString ":=", 53), (Str.ofString ";", 13), (Str.ofString "<", 20), (Str.ofString "<<", 33), (Str.ofString "<<=", 44), (Str.ofString "<=", 29), (Str.ofString "=", 22), (Str.ofString "==", 27), (Str.ofString ">", 21), (Str.ofString ">=", 30), (Str.ofString ">>", 34), (Str.ofString ">>=", 45), (Str.ofString "@", 49), (Str.ofString "@=", 50), (Str.ofString "[", 9), (Str.ofString "]", 10), (Str.ofString "^", 32), (Str.ofString "^=", 43), (Str.ofString "{", 25), (Str.ofString "|", 18), (Str.ofString "|=", 42), (Str.ofString "}", 26), (Str.ofString "~", 31)]
noncomputable def eInTab (a : ED) : ED := eUn (fun va σ => match va with
  | .str x => .ok (.bool (tokTab.lookup x).isSome) σ
  | _ => .stuck) a
noncomputable def eTab (a : ED) : ED := eUn (fun va σ => match va with
  | .str x => match tokTab.lookup x with
    | some i => .ok (.int i) σ
    | .none => .stuck
  | _ => .stuck) a
noncomputable def sTry (a : ED) (x : String) (h0 h1 : ED) : SD := fun ρ σ => match a ρ σ with
  | .ok v σ₁ => .ok (.ret v, ρ) σ₁
  | .exc c m σ₁ => (match (if c then h1 else h0) (upd ρ x (.str m)) σ₁ with
    | .ok v σ₂ => .ok (.ret v, ρ) σ₂
    | _ => .stuck)
  | .stuck => .stuck
noncomputable def initB : SD :=
  (sSeq (sSetAttr (eVar "self") "raw" (eVar "ws"))
  (sSeq (sPair ["S", "T"] (lCons (eVal (.str (Str.ofString " "))) (lCons (eVal (.str (Str.ofString "\t"))) lNil)))
  (sSeq (sAssign "count" (eList lNil))
  (sSeq (sAssign3 "b" "n" "nt" (eVal (.int 0)))
  (sSeq (sFor "ch" (rList (eAttr (eVar "self") "raw"))
    (sIf (tOf (eCmp .eq (eVar "ch") (eVar "S")))
      (sSeq (sAssign "n" (eBin opAdd (eVar "n") (eVal (.int 1))))
      (sAssign "b" (eBin opAdd (eVar "b") (eVal (.int 1)))))
      (sIf (tOf (eCmp .eq (eVar "ch") (eVar "T")))
        (sSeq (sAssign "n" (eBin opAdd (eVar "n") (eVal (.int 1))))
        (sSeq (sAssign "nt" (eBin opAdd (eVar "nt") (eVal (.int 1))))
        (sSeq (sIf (tOf (eCmp .ge (eVar "b") (eUn fLen (eVar "count"))))
          (sAssign "count" (eBin opAdd (eVar "count") (eBin opMul (eList (lCons (eVal (.int 0)) lNil)) (eBin opAdd (eBin opSub (eVar "b") (eUn fLen (eVar "count"))) (eVal (.int 1))))))
          sPass)
        (sSeq (sSetItem (eVar "count") (eVar "b") (eBin opAdd (eIdx (eVar "count") (eVar "b")) (eVal (.int 1))))
        (sAssign "b" (eVal (.int 0)))))))
        sBreak)))
  (sSeq (sSetAttr (eVar "self") "n" (eVar "n"))
  (sSeq (sSetAttr (eVar "self") "nt" (eVar "nt"))
  (sSeq (sSetAttr (eVar "self") "norm" (eTup (lCons (eUn fTuple (eVar "count")) (lCons (eVar "b") lNil))))
  (sSetAttr (eVar "self") "is_simple" (eCmp .le (eUn fLen (eVar "count")) (eVal (.int 1))))))))))))
noncomputable def initF : List MV → MH → R MV := defCall ["self", "ws"] initB
noncomputable def newF (vs : List MV) (σ : MH) : R MV := match initF (.ref σ.length :: vs) (σ ++ [.inst []]) with
  | .ok .none σ₁ => .ok (.ref σ.length) σ₁
  | _ => .stuck
noncomputable def longestB : SD :=
  (sSeq (sUnpack ["count", "trailing"] (eAttr (eVar "self") "norm"))
  (sRet (eBin opMax2 (eBin opSub (eUn fLen (eVar "count")) (eVal (.int 1))) (eVar "trailing"))))
noncomputable def longestF : List MV → MH → R MV := defCall ["self"] longestB
noncomputable def indentB : SD :=
  (sSeq (sUnpack ["count", "trailing"] (eAttr (eVar "self") "norm"))
  (sSeq (sAssign "il" (eVal (.int 0)))
  (sSeq (sFor "i" (rRange (eVar "tabsize") (eUn fLen (eVar "count")))
    (sAssign "il" (eBin opAdd (eVar "il") (eBin opMul (eBin opDiv (eVar "i") (eVar "tabsize")) (eIdx (eVar "count") (eVar "i"))))))
  (sRet (eBin opAdd (eVar "trailing") (eBin opMul (eVar "tabsize") (eBin opAdd (eVar "il") (eAttr (eVar "self") "nt"))))))))
noncomputable def indentF : List MV → MH → R MV := defCall ["self", "tabsize"] indentB
noncomputable def lessB : SD :=
  (sSeq (sIf (tOf (eCmp .ge (eAttr (eVar "self") "n") (eAttr (eVar "other") "n")))
    (sRet (eVal (.bool false)))
    sPass)
  (sSeq (sIf (tAnd (tOf (eAttr (eVar "self") "is_simple")) (tOf (eAttr (eVar "other") "is_simple")))
    (sRet (eCmp .le (eAttr (eVar "self") "nt") (eAttr (eVar "other") "nt")))
    sPass)
  (sSeq (sAssign "n" (eBin opAdd (eBin opMax2 (eInstM "longest_run_of_spaces" longestF (eVar "self") lNil) (eInstM "longest_run_of_spaces" longestF (eVar "other") lNil)) (eVal (.int 1))))
  (sSeq (sFor "ts" (rRange (eVal (.int 2)) (eBin opAdd (eVar "n") (eVal (.int 1))))
    (sIf (tOf (eCmp .ge (eInstM "indent_level" indentF (eVar "self") (lCons (eVar "ts") lNil)) (eInstM "indent_level" indentF (eVar "other") (lCons (eVar "ts") lNil))))
      (sRet (eVal (.bool false)))
      sPass))
  (sRet (eVal (.bool true)))))))
noncomputable def lessF : List MV → MH → R MV := defCall ["self", "other"] lessB
noncomputable def parse229B : SD :=
  (sSeq (sIf (tOf (eCmp .ne (eSlTo (eVar "resp") (eVal (.int 3))) (eVal (.str (Str.ofString "229")))))
    (sRaise false (eVar "resp"))
    sPass)
  (sSeq (sAssign "left" (eMeth mFind (eVar "resp") (lCons (eVal (.str (Str.ofString "("))) lNil)))
  (sSeq (sIf (tOf (eCmp .lt (eVar "left") (eVal (.int 0))))
    (sRaise true (eVar "resp"))
    sPass)
  (sSeq (sAssign "right" (eMeth mFind3 (eVar "resp") (lCons (eVal (.str (Str.ofString ")"))) (lCons (eBin opAdd (eVar "left") (eVal (.int 1))) lNil))))
  (sSeq (sIf (tOf (eCmp .lt (eVar "right") (eVal (.int 0))))
    (sRaise true (eVar "resp"))
    sPass)
  (sSeq (sIf (tOf (eCmp .ne (eIdx (eVar "resp") (eBin opAdd (eVar "left") (eVal (.int 1)))) (eIdx (eVar "resp") (eBin opSub (eVar "right") (eVal (.int 1))))))
    (sRaise true (eVar "resp"))
    sPass)
  (sSeq (sAssign "parts" (eMeth mSplit (eSl (eVar "resp") (eBin opAdd (eVar "left") (eVal (.int 1))) (eVar "right")) (lCons (eIdx (eVar "resp") (eBin opAdd (eVar "left") (eVal (.int 1)))) lNil)))
  (sSeq (sIf (tOf (eCmp .ne (eUn fLen (eVar "parts")) (eVal (.int 5))))
    (sRaise true (eVar "resp"))
    sPass)
  (sSeq (sAssign "host" (eIdx (eVar "peer") (eVal (.int 0))))
  (sSeq (sAssign "port" (eUn fInt (eIdx (eVar "parts") (eVal (.int 3)))))
  (sRet (eTup (lCons (eVar "host") (lCons (eVar "port") lNil))))))))))))))
noncomputable def parse229F : List MV → MH → R MV := defCall ["resp", "peer"] parse229B
noncomputable def ltB : SD :=
  (sRet (eCmp .lt (eVar "a") (eVar "b")))
noncomputable def ltF : List MV → MH → R MV := defCall ["a", "b"] ltB
noncomputable def gtB : SD :=
  (sRet (eCmp .gt (eVar "a") (eVar "b")))
noncomputable def gtF : List MV → MH → R MV := defCall ["a", "b"] gtB
noncomputable def subB : SD :=
  (sRet (eBin opSub (eVar "a") (eVar "b")))
noncomputable def subF : List MV → MH → R MV := defCall ["a", "b"] subB
noncomputable def isTerminalB : SD :=
  (sRet (eCmp .lt (eVar "x") (eVal (.int 256))))
noncomputable def isTerminalF : List MV → MH → R MV := defCall ["x"] isTerminalB
noncomputable def isNonterminalB : SD :=
  (sRet (eCmp .ge (eVar "x") (eVal (.int 256))))
noncomputable def isNonterminalF : List MV → MH → R MV := defCall ["x"] isNonterminalB
noncomputable def isEofB : SD :=
  (sRet (eCmp .eq (eVar "x") (eVal (.int 0))))
noncomputable def isEofF : List MV → MH → R MV := defCall ["x"] isEofB
noncomputable def replyB : SD :=
  (sSeq (sAssign "mark" (eIdx (eVal (.str (Str.ofString "|!<\""))) (eBin opMod (eVar "shape") (eVal (.int 4)))))
  (sSeq (sAssign "fields" (eList (lCons (eIdx (eList (lCons (eVal (.str (Str.ofString ""))) (lCons (eVal (.str (Str.ofString "7"))) lNil))) (eBin opMod (eBin opDiv (eVar "shape") (eVal (.int 4))) (eVal (.int 2)))) (lCons (eIdx (eList (lCons (eVal (.str (Str.ofString ""))) (lCons (eVal (.str (Str.ofString "2"))) lNil))) (eBin opMod (eBin opDiv (eVar "shape") (eVal (.int 8))) (eVal (.int 2)))) (lCons (eUn fStr (eVar "port")) lNil)))))
  (sSeq (sIf (tOf (eCmp .eq (eVar "fault") (eVal (.int 5))))
    (sAssign "fields" (eBin opAdd (eList (lCons (eVal (.str (Str.ofString ""))) lNil)) (eVar "fields")))
    sPass)
  (sSeq (sIf (tOf (eCmp .eq (eVar "fault") (eVal (.int 7))))
    (sAssign "fields" (eSlFrom (eVar "fields") (eVal (.int 1))))
    sPass)
  (sSeq (sAssign "body" (eBin opAdd (eBin opAdd (eVar "mark") (eMeth mJoin (eVar "mark") (lCons (eVar "fields") lNil))) (eVar "mark")))
  (sSeq (sIf (tOf (eCmp .eq (eVar "fault") (eVal (.int 3))))
    (sRet (eBin opAdd (eBin opAdd (eVal (.str (Str.ofString "229 a2"))) (eUn fStr (eVar "port"))) (eVal (.str (Str.ofString "2) b")))))
    sPass)
  (sSeq (sIf (tOf (eCmp .eq (eVar "fault") (eVal (.int 4))))
    (sRet (eBin opAdd (eBin opAdd (eVal (.str (Str.ofString "229 a) ("))) (eVar "body")) (eVal (.str (Str.ofString "x")))))
    sPass)
  (sSeq (sIf (tOf (eCmp .eq (eVar "fault") (eVal (.int 6))))
    (sAssign "body" (eBin opAdd (eVar "body") (eVal (.str (Str.ofString "x")))))
    sPass)
  (sRet (eBin opAdd (eBin opAdd (eBin opAdd (eIdx (eList (lCons (eVal (.str (Str.ofString "129"))) (lCons (eVal (.str (Str.ofString "219"))) (lCons (eVal (.str (Str.ofString "228"))) (lCons (eVal (.str (Str.ofString "229"))) lNil))))) (eBin opMin2 (eVar "fault") (eVal (.int 3)))) (eVal (.str (Str.ofString " a) (")))) (eVar "body")) (eVal (.str (Str.ofString ") (b)")))))))))))))
noncomputable def replyF : List MV → MH → R MV := defCall ["port", "shape", "fault"] replyB
noncomputable def outlineB : SD :=
  (sSeq (sPair ["near", "deeper"] (lCons (eList (lCons (eVal (.str (Str.ofString "\t"))) (lCons (eVal (.str (Str.ofString " \t"))) (lCons (eVal (.str (Str.ofString "  \t"))) (lCons (eVal (.str (Str.ofString "   "))) lNil))))) (lCons (eList (lCons (eVal (.str (Str.ofString "   \t"))) (lCons (eVal (.str (Str.ofString "  \t  "))) (lCons (eVal (.str (Str.ofString "\t\t"))) (lCons (eVal (.str (Str.ofString "     "))) lNil))))) lNil)))
  (sSeq (sPair ["depths", "ways", "parts", "leads"] (lCons (eList (lCons (eVal (.int 0)) lNil)) (lCons (eList (lCons (eVal (.str (Str.ofString ""))) lNil)) (lCons (eList (lCons (eList lNil) lNil)) (lCons (eList (lCons (eVal (.str (Str.ofString ""))) lNil)) lNil)))))
  (sSeq (sFor "k" (rRange (eVal (.int 1)) (eVal (.int 9)))
    (sSeq (sAssign "deep" (eBin opAdd (eVal (.int 1)) (eBin opMod (eIdx (eVar "cells") (eVar "k")) (eBin opAdd (eBin opMin2 (eIdx (eVar "depths") (eBin opSub (eVar "k") (eVal (.int 1)))) (eVal (.int 3))) (eVal (.int 1))))))
    (sSeq (sAppend (eIdx (eVar "parts") (eIdx (eComp (eVar "j") "j" ["depths", "deep"] (rRange1 (eVar "k")) (tOf (eCmp .eq (eIdx (eVar "depths") (eVar "j")) (eBin opSub (eVar "deep") (eVal (.int 1)))))) (eVal (.int (-1))))) (eVar "k"))
    (sSeq (sAssign "ways" (eBin opAdd (eSlTo (eVar "ways") (eVar "deep")) (eList (lCons (eBin opAdd (eIdx (eVar "ways") (eBin opSub (eVar "deep") (eVal (.int 1)))) (eIdx (eIf (tOf (eCmp .eq (eVar "deep") (eVal (.int 1)))) (eVar "near") (eVar "deeper")) (eBin opMod (eBin opDiv (eIdx (eVar "cells") (eVar "k")) (eVal (.int 12))) (eVal (.int 4))))) lNil))))
    (sSeq (sAppend (eVar "leads") (eIdx (eVar "ways") (eVar "deep")))
    (sSeq (sAppend (eVar "depths") (eVar "deep"))
    (sAppend (eVar "parts") (eList lNil))))))))
  (sRet (eTup (lCons (eVar "leads") (lCons (eVar "parts") lNil)))))))
noncomputable def outlineF : List MV → MH → R MV := noExc (defCall ["cells"] outlineB)
noncomputable def dueB : SD :=
  (sSeq (sPair ["worths", "bounds"] (lCons (eUn fList (eVar "ports")) (lCons (eComp (eTup (lCons (eVar "low") (lCons (eVar "high") lNil))) "k" ["low", "high"] (rRange1 (eVal (.int 9))) tTrue) lNil)))
  (sSeq (sFor "k" (rDown (eVal (.int 8)))
    (sIf (tOf (eCmp .ne (eIdx (eVar "parts") (eVar "k")) (eList lNil)))
      (sSeq (sAssign "some" (eComp (eIdx (eVar "worths") (eVar "j")) "j" ["worths"] (rList (eIdx (eVar "parts") (eVar "k"))) tTrue))
      (sSetItem (eVar "worths") (eVar "k") (eIf (tOf (eCmp .eq (eIdx (eVar "deeds") (eVar "k")) (eVal (.int 1)))) (eUn fMax (eVar "some")) (eUn fMin (eVar "some")))))
      sPass))
  (sSeq (sFor "k" (rRange1 (eVal (.int 9)))
    (sFor "j" (rList (eIdx (eVar "parts") (eVar "k")))
      (sSeq (sAssign "elder" (eComp (eIdx (eVar "worths") (eVar "i")) "i" ["worths", "j"] (rList (eIdx (eVar "parts") (eVar "k"))) (tOf (eCmp .lt (eVar "i") (eVar "j")))))
      (sIf (tOf (eCmp .eq (eIdx (eVar "deeds") (eVar "k")) (eVal (.int 1))))
        (sSetItem (eVar "bounds") (eVar "j") (eTup (lCons (eUn fMax (eBin opAdd (eList (lCons (eIdx (eIdx (eVar "bounds") (eVar "k")) (eVal (.int 0))) lNil)) (eVar "elder"))) (lCons (eIdx (eIdx (eVar "bounds") (eVar "k")) (eVal (.int 1))) lNil))))
        (sSetItem (eVar "bounds") (eVar "j") (eTup (lCons (eIdx (eIdx (eVar "bounds") (eVar "k")) (eVal (.int 0))) (lCons (eUn fMin (eBin opAdd (eList (lCons (eIdx (eIdx (eVar "bounds") (eVar "k")) (eVal (.int 1))) lNil)) (eVar "elder"))) lNil))))))))
  (sSeq (sAssign "place" (eVal .none))
  (sSeq (sIf (tChain (eVar "low") (eIdx (eVar "worths") (eVal (.int 0))) (eVar "high"))
    (sSeq (sAssign "place" (eVal (.int 0)))
    (sWhile (tOf (eCmp .ne (eIdx (eVar "parts") (eVar "place")) (eList lNil)))
      (sAssign "place" (eIdx (eComp (eVar "j") "j" ["worths"] (rList (eIdx (eVar "parts") (eVar "place"))) (tOf (eCmp .eq (eIdx (eVar "worths") (eVar "j")) (eIdx (eVar "worths") (eVal (.int 0)))))) (eVal (.int 0))))))
    sPass)
  (sSeq (sAssign "read" (eComp (eVar "k") "k" ["parts", "bounds"] (rRange1 (eVal (.int 9))) (tAnd (tOf (eCmp .eq (eIdx (eVar "parts") (eVar "k")) (eList lNil))) (tOf (eCmp .lt (eIdx (eIdx (eVar "bounds") (eVar "k")) (eVal (.int 0))) (eIdx (eIdx (eVar "bounds") (eVar "k")) (eVal (.int 1))))))))
  (sRet (eTup (lCons (eTup (lCons (eBin opMin2 (eBin opMax2 (eIdx (eVar "worths") (eVal (.int 0))) (eVar "low")) (eVar "high")) (lCons (eVar "place") lNil))) (lCons (eVar "read") lNil))))))))))
noncomputable def dueF : List MV → MH → R MV := noExc (defCall ["parts", "deeds", "ports", "low", "high"] dueB)
noncomputable def readB : SD :=
  (sSeq (sPair ["leads", "kinds", "ends", "texts", "line"] (lCons (eList lNil) (lCons (eList lNil) (lCons (eList lNil) (lCons (eList lNil) (lCons (eList lNil) lNil))))))
  (sSeq (sAssign "replies" (eVal (.int 0)))
  (sSeq (sFor "k" (rRange1 (eUn fLen (eVar "rows")))
    (sSeq (sAssign "lead" (eCall newF (lCons (eIdx (eVar "rows") (eVar "k")) lNil)))
    (sSeq (sAssign "text" (eSlFromS (eIdx (eVar "rows") (eVar "k")) (eAttr (eVar "lead") "n")))
    (sSeq (sIf (tOf (eInTab (eVar "text")))
      (sAppend (eVar "kinds") (eTab (eVar "text")))
      (sSeq (sAppend (eVar "kinds") (eBin opAdd (eVal (.int 256)) (eVar "replies")))
      (sAssign "replies" (eBin opAdd (eVar "replies") (eVal (.int 1))))))
    (sSeq (sAssign "under" (eVal (.bool false)))
    (sSeq (sWhile (tAnd (tOf (eCmp .ne (eVar "line") (eList lNil))) (tOf (eCmp .is (eVar "under") (eVal (.bool false)))))
      (sSeq (sAssign "under" (eInstM "less" lessF (eIdx (eVar "leads") (eIdx (eVar "line") (eVal (.int (-1))))) (lCons (eVar "lead") lNil)))
      (sIf (tOf (eCmp .is (eVar "under") (eVal (.bool false))))
        (sSetItem (eVar "ends") (ePop (eVar "line")) (eVar "k"))
        sPass)))
    (sSeq (sIf (tAnd (tOf (eCmp .ne (eVar "line") (eList lNil))) (tOf (eCmp .isnot (eVar "under") (eVal (.bool true)))))
      (sRet (eTup (lCons (eList lNil) (lCons (eList lNil) (lCons (eList lNil) lNil)))))
      sPass)
    (sSeq (sAppend (eVar "line") (eVar "k"))
    (sSeq (sAppend (eVar "leads") (eVar "lead"))
    (sSeq (sAppend (eVar "ends") (eUn fLen (eVar "rows")))
    (sAppend (eVar "texts") (eVar "text"))))))))))))
  (sRet (eTup (lCons (eVar "kinds") (lCons (eVar "ends") (lCons (eVar "texts") lNil))))))))
noncomputable def readF : List MV → MH → R MV := defCall ["rows"] readB
noncomputable def walkB (self : List MV → MH → R MV) : SD :=
  (sSeq (sUnpack ["kinds", "ends", "texts"] (eVar "page"))
  (sSeq (sIf (tOf (eCall isNonterminalF (lCons (eIdx (eVar "kinds") (eVar "at")) lNil)))
    (sSeq (sUnpack ["host", "port"] (eCall parse229F (lCons (eIdx (eVar "texts") (eVar "at")) (lCons (eTup (lCons (eVar "at") (lCons (eVal (.int 21)) lNil))) lNil))))
    (sSeq (sAppend (eVar "read") (eVar "host"))
    (sSeq (sIf (tOf (eCmp .is (eCall gtF (lCons (eVar "port") (lCons (eVar "low") lNil))) (eVal (.bool false))))
      (sRet (eTup (lCons (eVar "low") (lCons (eVal .none) lNil))))
      sPass)
    (sSeq (sIf (tOf (eCmp .is (eCall ltF (lCons (eCall subF (lCons (eVar "port") (lCons (eVar "high") lNil))) (lCons (eVal (.int 0)) lNil))) (eVal (.bool false))))
      (sRet (eTup (lCons (eVar "high") (lCons (eVal .none) lNil))))
      sPass)
    (sRet (eTup (lCons (eVar "port") (lCons (eVar "at") lNil))))))))
    sPass)
  (sSeq (sAssign "best" (eVal .none))
  (sSeq (sAssign "part" (eBin opAdd (eVar "at") (eVal (.int 1))))
  (sSeq (sWhile (tAnd (tOf (eCmp .lt (eVar "part") (eIdx (eVar "ends") (eVar "at")))) (tNot (tOf (eCall isEofF (lCons (eCall subF (lCons (eVar "high") (lCons (eVar "low") lNil))) lNil)))))
    (sSeq (sUnpack ["worth", "place"] (eCall self (lCons (eVar "page") (lCons (eVar "part") (lCons (eVar "low") (lCons (eVar "high") (lCons (eVar "read") lNil)))))))
    (sSeq (sIf (tAnd (tOf (eCmp .eq (eIdx (eVar "kinds") (eVar "at")) (eVal (.int 20)))) (tOf (eCmp .is (eCall ltF (lCons (eVar "worth") (lCons (eVar "high") lNil))) (eVal (.bool true)))))
      (sPair ["high", "best"] (lCons (eVar "worth") (lCons (eVar "place") lNil)))
      sPass)
    (sSeq (sIf (tAnd (tOf (eCmp .eq (eIdx (eVar "kinds") (eVar "at")) (eVal (.int 21)))) (tOf (eCmp .is (eCall gtF (lCons (eVar "worth") (lCons (eVar "low") lNil))) (eVal (.bool true)))))
      (sPair ["low", "best"] (lCons (eVar "worth") (lCons (eVar "place") lNil)))
      sPass)
    (sAssign "part" (eIdx (eVar "ends") (eVar "part")))))))
  (sRet (eTup (lCons (eIf (tOf (eCmp .eq (eIdx (eVar "kinds") (eVar "at")) (eVal (.int 20)))) (eVar "high") (eVar "low")) (lCons (eVar "best") lNil)))))))))
noncomputable def walkG : Nat → List MV → MH → R MV
  | 0 => fun _ _ => .stuck
  | n + 1 => defCall ["page", "at", "low", "high", "read"] (walkB (walkG n))
noncomputable def walkF : List MV → MH → R MV := walkG 6
noncomputable def toldB : SD :=
  (sSeq (sAssign "read" (eList lNil))
  (sTry (eTup (lCons (eCall walkF (lCons (eVar "page") (lCons (eVal (.int 0)) (lCons (eVar "low") (lCons (eVar "high") (lCons (eVar "read") lNil)))))) (lCons (eVar "read") lNil))) "fault"
    (eTup (lCons (eTup (lCons (eVal (.str (Str.ofString "code"))) (lCons (eVar "fault") lNil))) (lCons (eVar "read") lNil)))
    (eTup (lCons (eTup (lCons (eVal (.str (Str.ofString "form"))) (lCons (eVar "fault") lNil))) (lCons (eVar "read") lNil)))))
noncomputable def toldF : List MV → MH → R MV := defCall ["page", "low", "high"] toldB
noncomputable def sortedB : SD :=
  (sSeq (sPair ["inner", "outer"] (lCons (eCmp .lt (eVar "kind") (eVal (.int 256))) (lCons (eCmp .gt (eVar "kind") (eVal (.int 255))) lNil)))
  (sSeq (sIf (tOr (tOf (eCmp .isnot (eCall isTerminalF (lCons (eVar "kind") lNil)) (eVar "inner"))) (tOr (tOf (eCmp .isnot (eCall isNonterminalF (lCons (eVar "kind") lNil)) (eVar "outer"))) (tOf (eCmp .isnot (eCall isEofF (lCons (eVar "kind") lNil)) (eCmp .eq (eVar "kind") (eVal (.int 0)))))))
    (sRet (eVal (.bool false)))
    sPass)
  (sSeq (sIf (tOr (tOf (eCmp .isnot (eCall isEofF (lCons (eBin opSub (eVar "kind") (eVal (.int 1))) lNil)) (eVal (.bool false)))) (tOf (eCmp .isnot (eCall isEofF (lCons (eBin opAdd (eVar "kind") (eVal (.int 1))) lNil)) (eVal (.bool false)))))
    (sRet (eVal (.bool false)))
    sPass)
  (sRet (eAnd (eCmp .is (eCall isTerminalF (lCons (eBin opSub (eVal (.int 511)) (eVar "kind")) lNil)) (eVar "outer")) (eCmp .is (eCall isNonterminalF (lCons (eBin opSub (eVal (.int 511)) (eVar "kind")) lNil)) (eVar "inner")))))))
noncomputable def sortedF : List MV → MH → R MV := defCall ["kind"] sortedB
noncomputable def lawB : SD :=
  (sSeq (sAssign "firsts" (eList (lCons (eVal (.int 5797)) (lCons (eVal (.int 4116)) (lCons (eVal (.int 12)) (lCons (eVal (.int 481)) (lCons (eVal (.int 26)) (lCons (eVal (.int 3027)) (lCons (eVal (.int 2367)) (lCons (eVal (.int 9038)) (lCons (eVal (.int 11629)) lNil)))))))))))
  (sSeq (sAssign "cells" (eComp (eBin opMod (eBin opAdd (eIdx (eVar "firsts") (eVar "k")) (eUn fSum (eSlBy9 (eVar "script") (eVar "k")))) (eBin opPow (eVal (.int 10)) (eVal (.int 6)))) "k" ["firsts", "script"] (rRange1 (eVal (.int 9))) tTrue))
  (sSeq (sUnpack ["leads", "parts"] (eCall outlineF (lCons (eVar "cells") lNil)))
  (sSeq (sAssign "deeds" (eBin opAdd (eList (lCons (eBin opMod (eIdx (eVar "cells") (eVal (.int 0))) (eVal (.int 2))) lNil)) (eComp (eBin opMod (eBin opDiv (eIdx (eVar "cells") (eVar "k")) (eVal (.int 480))) (eVal (.int 2))) "k" ["cells"] (rRange (eVal (.int 1)) (eVal (.int 9))) tTrue)))
  (sSeq (sAssign "ports" (eComp (eBin opMod (eBin opDiv (eIdx (eVar "cells") (eVar "k")) (eVal (.int 48))) (eVal (.int 10))) "k" ["cells"] (rRange1 (eVal (.int 9))) tTrue))
  (sSeq (sAssign "low" (eBin opSub (eBin opMod (eBin opDiv (eIdx (eVar "cells") (eVal (.int 0))) (eVal (.int 2))) (eVal (.int 6))) (eVal (.int 1))))
  (sSeq (sAssign "high" (eBin opAdd (eBin opAdd (eVar "low") (eVal (.int 1))) (eBin opMod (eBin opDiv (eIdx (eVar "cells") (eVal (.int 0))) (eVal (.int 12))) (eVal (.int 11)))))
  (sSeq (sAssign "flaw" (eBin opMod (eBin opDiv (eIdx (eVar "cells") (eVal (.int 0))) (eVal (.int 1188))) (eVal (.int 8))))
  (sSeq (sAssign "texts" (eComp (eIf (tOf (eCmp .eq (eIdx (eVar "parts") (eVar "k")) (eList lNil))) (eCall replyF (lCons (eIdx (eVar "ports") (eVar "k")) (lCons (eBin opDiv (eIdx (eVar "cells") (eVar "k")) (eVal (.int 960))) (lCons (eVal (.int 8)) lNil)))) (eIdx (eVal (.str (Str.ofString "<>"))) (eIdx (eVar "deeds") (eVar "k")))) "k" ["parts", "ports", "deeds", "cells"] (rRange1 (eVal (.int 9))) tTrue))
  (sSeq (sUnpack ["kinds", "ends", "told"] (eCall readF (lCons (eComp (eBin opAdd (eIdx (eVar "leads") (eVar "k")) (eIdx (eVar "texts") (eVar "k"))) "k" ["leads", "texts"] (rRange1 (eVal (.int 9))) tTrue) lNil)))
  (sSeq (sIf (tOr (tOf (eCmp .ne (eVar "told") (eVar "texts"))) (tOf (eInList (eVal (.bool false)) (eComp (eCall sortedF (lCons (eVar "kind") lNil)) "kind" [] (rList (eBin opAdd (eVar "kinds") (eList (lCons (eVal (.int 0)) lNil)))) tTrue))))
    (sRet (eVal (.bool false)))
    sPass)
  (sSeq (sUnpack ["due", "read"] (eCall dueF (lCons (eVar "parts") (lCons (eVar "deeds") (lCons (eVar "ports") (lCons (eVar "low") (lCons (eVar "high") lNil)))))))
  (sSeq (sAssign "faulty" (eComp (eCall replyF (lCons (eIdx (eVar "ports") (eVar "k")) (lCons (eBin opDiv (eIdx (eVar "cells") (eVar "k")) (eVal (.int 960))) (lCons (eBin opMod (eBin opAdd (eVar "k") (eVar "flaw")) (eVal (.int 8))) lNil)))) "k" ["ports", "cells", "flaw"] (rRange1 (eVal (.int 9))) tTrue))
  (sSeq (sAssign "others" (eComp (eIf (tOr (tOf (eCmp .ne (eIdx (eVar "parts") (eVar "k")) (eList lNil))) (tOf (eInList (eVar "k") (eVar "read")))) (eIdx (eVar "texts") (eVar "k")) (eIdx (eVar "faulty") (eVar "k"))) "k" ["texts", "faulty", "read", "parts"] (rRange1 (eVal (.int 9))) tTrue))
  (sSeq (sIf (tOf (eCmp .ne (eCall toldF (lCons (eTup (lCons (eVar "kinds") (lCons (eVar "ends") (lCons (eVar "others") lNil)))) (lCons (eVar "low") (lCons (eVar "high") lNil)))) (eTup (lCons (eVar "due") (lCons (eVar "read") lNil)))))
    (sRet (eVal (.bool false)))
    sPass)
  (sSeq (sAssign "one" (eIdx (eVar "read") (eBin opMod (eBin opDiv (eIdx (eVar "cells") (eVal (.int 0))) (eVal (.int 132))) (eUn fLen (eVar "read")))))
  (sSeq (sAssign "spoilt" (eCall replyF (lCons (eIdx (eVar "ports") (eVar "one")) (lCons (eBin opDiv (eIdx (eVar "cells") (eVar "one")) (eVal (.int 960))) (lCons (eVar "flaw") lNil)))))
  (sSeq (sAssign "last" (eCall toldF (lCons (eTup (lCons (eVar "kinds") (lCons (eVar "ends") (lCons (eBin opAdd (eBin opAdd (eSlTo (eVar "others") (eVar "one")) (eList (lCons (eVar "spoilt") lNil))) (eSlFrom (eVar "others") (eBin opAdd (eVar "one") (eVal (.int 1))))) lNil)))) (lCons (eVar "low") (lCons (eVar "high") lNil)))))
  (sRet (eCmp .eq (eVar "last") (eTup (lCons (eTup (lCons (eIf (tOf (eCmp .lt (eVar "flaw") (eVal (.int 3)))) (eVal (.str (Str.ofString "code"))) (eVal (.str (Str.ofString "form")))) (lCons (eVar "spoilt") lNil))) (lCons (eComp (eVar "k") "k" ["one"] (rList (eVar "read")) (tOf (eCmp .lt (eVar "k") (eVar "one")))) lNil)))))))))))))))))))))))
noncomputable def lawF : List MV → MH → R MV := noExc (defCall ["script"] lawB)
end Mine
end
section
set_option genInjectivity false
set_option genSizeOf false
open PySem PySem.W PyProof.Rows PySem.Calls
namespace Mine
noncomputable abbrev AM := List (Addr × Addr)
noncomputable def RelV (am : AM) : MV → Value → Prop
  | .none, v => v = .none
  | .bool b, v => v = .bool b
  | .int i, v => ∃ t, v = .int i t
  | .str s, v => ∃ t, v = .str s t
  | .ref i, v => ∃ a, am[i]? = some a ∧ v = .ref a.1
noncomputable def RelL (am : AM) : List MV → List Value → Prop
  | [], [] => True
  | x :: xs, v :: vs => RelV am x v ∧ RelL am xs vs
  | _, _ => False
theorem RelV.grow {am ext : AM} {x : MV} {v : Value} (h : RelV am x v) : RelV (am ++ ext) x v := by
  induction x with
  | ref i =>
    refine box fun G0 k0 => ?_
    obtain ⟨a, ha, rfl⟩ := h
    refine k0 ?_
    clear k0 G0
    refine ⟨a, ?_, rfl⟩
    have hl : i < am.length := by
      rcases Nat.lt_or_ge i am.length with h | h
      · exact h
      · rw [List.getElem?_eq_none h] at ha; cases ha
    rw [List.getElem?_append_left hl]; exact ha
  | _ => exact h
theorem RelL.ind {am : AM} {P : List MV → List Value → Prop} (nil : P [] []) (cons : ∀ x v xs vs, RelV am x v → RelL am xs vs → P xs vs → P (x :: xs) (v :: vs)) : ∀ {xs : List MV} {vs : List Value}, RelL am xs vs → P xs vs := by
  intro xs
  induction xs with
  | nil =>
    intro vs h
    induction vs with
    | nil => exact nil
    | cons => exact h.elim
  | cons x xs ih =>
    intro vs h
    induction vs with
    | nil => exact h.elim
    | cons v vs => exact cons _ _ _ _ h.1 h.2 (ih h.2)
theorem RelL.grow {am ext : AM} {xs : List MV} {vs : List Value} (h : RelL am xs vs) : RelL (am ++ ext) xs vs :=
  RelL.ind (P := RelL (am ++ ext)) trivial (fun _ _ _ _ h _ ih => ⟨h.grow, ih⟩) h
theorem RelL.length {am : AM} {xs : List MV} {vs : List Value} (h : RelL am xs vs) : vs.length = xs.length :=
  RelL.ind (P := fun xs vs => vs.length = xs.length) rfl (fun _ _ _ _ _ _ ih => congrArg (· + 1) ih) h
theorem RelL.get {am : AM} {xs : List MV} {vs : List Value} {i : Nat} {x : MV} (h : RelL am xs vs) : xs[i]? = some x → ∃ v, vs[i]? = some v ∧ RelV am x v :=
  RelL.ind (P := fun xs vs => ∀ i : Nat, xs[i]? = some x → ∃ v, vs[i]? = some v ∧ RelV am x v) (fun i e => by rw [List.getElem?_nil] at e; cases e)
    (fun y v _ _ h _ ih i => by
      induction i with
      | zero => exact fun e => ⟨v, rfl, Option.some.inj (e : some y = some x) ▸ h⟩
      | succ i => exact ih i) h i
theorem RelL.append {am : AM} {xs ys : List MV} {vs us : List Value} (h : RelL am xs vs) (r : RelL am ys us) : RelL am (xs ++ ys) (vs ++ us) :=
  RelL.ind (P := fun xs vs => RelL am (xs ++ ys) (vs ++ us)) r (fun _ _ _ _ h _ ih => ⟨h, ih⟩) h
theorem RelL.set {am : AM} {x : MV} {v : Value} (h : RelV am x v) {xs : List MV} {vs : List Value} {i : Nat} (r : RelL am xs vs) : RelL am (xs.set i x) (vs.set i v) :=
  RelL.ind (P := fun xs vs => ∀ i, RelL am (xs.set i x) (vs.set i v)) (fun _ => trivial) (fun _ _ _ _ q r ih i => by
    induction i with
    | zero => exact ⟨h, r⟩
    | succ i => exact ⟨q, ih i⟩) r i
theorem RelL.drop {am : AM} {xs : List MV} {vs : List Value} (n : Nat) (h : RelL am xs vs) : RelL am (xs.drop n) (vs.drop n) :=
  RelL.ind (P := fun xs vs => ∀ n, RelL am (xs.drop n) (vs.drop n)) (fun n => by rw [List.drop_nil, List.drop_nil]; trivial) (fun _ _ _ _ q r ih n => by
    induction n with
    | zero => exact ⟨q, r⟩
    | succ n => exact ih n) h n
theorem RelL.take {am : AM} {xs : List MV} {vs : List Value} (n : Nat) (h : RelL am xs vs) : RelL am (xs.take n) (vs.take n) :=
  RelL.ind (P := fun xs vs => ∀ n, RelL am (xs.take n) (vs.take n)) (fun n => by rw [List.take_nil, List.take_nil]; trivial) (fun _ _ _ _ q r ih n => by
    induction n with
    | zero => trivial
    | succ n => exact ⟨q, ih n⟩) h n
theorem RelL.dropLast {am : AM} {xs : List MV} {vs : List Value} (h : RelL am xs vs) : RelL am xs.dropLast vs.dropLast := by
  rw [List.dropLast_eq_take, List.dropLast_eq_take, h.length]; exact h.take _
noncomputable def tupOf (its : Array Value) (n : Nat) : Obj := { cls := .type "tuple", data := .seq its n }
noncomputable def AttrsAre (am : AM) (as : List (String × MV)) (es : List DictEntry) : Prop :=
  ∀ x : String, match as.lookup x with
    | some mv => ∃ v, getL (Str.ofString x) es = some (some v) ∧ RelV am mv v
    | none => getL (Str.ofString x) es = some none
structure InstEs (am : AM) (as : List (String × MV)) (es : List DictEntry) : Prop where
  attrs : AttrsAre am as es
  keys : es.any (·.refKey) = false
  len : es.length ≤ as.length
noncomputable def ObjIs (wc : Addr) (news : List (Addr × Obj)) (am : AM) (a : Addr × Addr) (ob : Obj) : MO → Prop
  | .list xs => ∃ vs n, ob = listOf (List.toArray vs) n ∧ RelL am xs vs ∧ a.2 = a.1
  | .tup xs => ∃ vs n, ob = tupOf (List.toArray vs) n ∧ RelL am xs vs ∧ a.2 = a.1
  | .inst as => ∃ es n, ob = instObj wc a.2 ∧ (a.2, dictOf es n) ∈ news ∧ InstEs am as es
noncomputable def Known (base : Heap) (news : List (Addr × Obj)) (i : Nat) (a : Addr) (ob : Obj) : Prop := (a, ob) ∈ news ∨ (i = 0 ∧ base.get? a = some ob)
noncomputable def InAm (a : Addr) (am : AM) : Prop := ∃ (i : Nat) (q : Addr × Addr), am[i]? = some q ∧ (q.1 = a ∨ q.2 = a)
noncomputable def AmOk (am : AM) : Prop := ∀ (i j : Nat) (p q : Addr × Addr), am[i]? = some p → am[j]? = some q → i ≠ j → p.1 ≠ q.1 ∧ p.1 ≠ q.2 ∧ p.2 ≠ q.1 ∧ p.2 ≠ q.2
structure HeapRel (wc : Addr) (base : Heap) (news : List (Addr × Obj)) (am : AM) (σ : MH) : Prop where
  len : am.length = σ.length
  ok : AmOk am
  obj : ∀ (i : Nat) (o : MO), σ[i]? = some o → ∃ (a : Addr × Addr) (ob : Obj), am[i]? = some a ∧ Known base news i a.1 ob ∧ ObjIs wc news am a ob o
structure Gl where
  prog : Program
  w : World
  K : Frag
  p : Program
  loose : List Str
  mean : ExcName → Option Value
  mg : Str → Option Value
  mb : Str → Option Value
  wc : Addr
  ec : Bool → Addr
  flat : Bool
  loud : Bool
noncomputable abbrev Gl.sub (g : Gl) : Gl := ⟨g.prog, g.w, g.K, g.p, g.loose, g.mean, g.mg, g.mb, g.wc, g.ec, false, g.loud⟩
noncomputable abbrev Gl.hear (g : Gl) : Gl := ⟨g.prog, g.w, g.K, g.p, g.loose, g.mean, g.mg, g.mb, g.wc, g.ec, g.flat, true⟩
structure Act where
  A : Around
  base : Heap
  outer : List Env
  fenv : Env
  h₀ : Heap
  L : Addr
structure Act.Ok (g : Gl) (n : Nat) (c : Act) : Prop where
  below : ∃ A₀, Below A₀ c.base c.outer c.h₀
  frames : c.A.frames = some (c.fenv :: c.outer)
  frame : c.fenv.frame = some c.L
  kind : c.fenv.scope.kind = .function
  locs : c.fenv.locals = c.L
  glob : c.fenv.globals = mainGlobals
  blt : c.fenv.builtins = builtinsNs
  inK : g.K.In c.h₀
  top : Top g.p g.loose g.mean g.mg g.mb c.h₀
  quiet : g.loud = false → c.A.handled = none
  flatOk : g.flat = true → c.outer = []
  depth : c.A.depth + 4 * n + 4 < recursionLimit
  units : c.A.units + 12 * n + 80 < cLine
  cel : ∀ x, c.fenv.scope.names.lookup x = some .cell → ∃ cc, c.fenv.cells.lookup x = some cc
  celApart : ∀ x y cx cy, c.fenv.cells.lookup x = some cx → c.fenv.cells.lookup y = some cy → x ≠ y → cx ≠ cy
theorem Act.Ok.stays {g : Gl} {n : Nat} {c : Act} (C : c.Ok g n) : c.base.StaysIn c.h₀ := let ⟨_, B⟩ := C.below; B.stays
noncomputable def NameAt (env : Env) (L : Addr) (m : Str → Option Value) (news : List (Addr × Obj)) (x : Str) (v : Value) : Prop :=
  (env.kindOf x = some .local ∧ ((env.locals = L ∧ m x = some v) ∨ ∃ o es ep, (env.locals, o) ∈ news ∧ o.data = .dict es ep ∧ StrKeys es ∧ nsFind es x = some v)) ∨
  (env.kindOf x = some .cell ∧ ∃ c o, env.cells.lookup x = some c ∧ (c, o) ∈ news ∧ o.data = .cell (some v))
noncomputable def EnvRel (env : Env) (L : Addr) (m : Str → Option Value) (news : List (Addr × Obj)) (am : AM) (ρ : MEnv) : Prop :=
  ∀ x mv, ρ x = some mv → ∃ v, RelV am mv v ∧ NameAt env L m news (Str.ofString x) v
structure EnvOk (c : Act) (sc : Scope) (inner : Bool) (env : Env) : Prop where
  scope : env.scope = sc
  kind : sc.kind = .function
  glob : env.globals = mainGlobals
  blt : env.builtins = builtinsNs
  own : inner = false → env = c.fenv
  apart : env.locals = c.L ∨ ∀ a o, c.h₀.get? a = some o → env.locals ≠ a
noncomputable def Apart (env : Env) (L : Addr) (news : List (Addr × Obj)) (am : AM) : Prop := env.locals = L ∨ ((∃ o, (env.locals, o) ∈ news) ∧ ¬ InAm env.locals am)
structure Sim (g : Gl) (c : Act) (env : Env) (m : Str → Option Value) (news : List (Addr × Obj)) (am : AM) (ρ : MEnv) (σ : MH) (s : Shared) : Prop where
  F : Fr c.h₀ c.L s.heap m
  N : News c.h₀ c.L s.heap news
  H : HeapRel g.wc c.base news am σ
  V : EnvRel env c.L m news am ρ
  Ce : ∀ x cc, c.fenv.cells.lookup x = some cc → ∃ o v, (cc, o) ∈ news ∧ o.data = .cell v
  Ap : Apart env c.L news am
structure Evolve (X : List Addr) (news : List (Addr × Obj)) (am : AM) (news' : List (Addr × Obj)) (am' : AM) : Prop where
  pre : ∃ ext, am' = am ++ ext
  keep : ∀ p ∈ news, ¬ InAm p.1 am → ∃ o', (p.1, o') ∈ news' ∧ (p.1 ∉ X → o' = p.2)
  fresh : ∀ (i : Nat) (q : Addr × Addr), am.length ≤ i → am'[i]? = some q → ∀ p ∈ news, p.1 ≠ q.1 ∧ p.1 ≠ q.2
theorem Evolve.refl {X : List Addr} {news : List (Addr × Obj)} {am : AM} : Evolve X news am news am :=
  ⟨⟨[], (List.append_nil _).symm⟩, fun p hp _ => ⟨p.2, hp, fun _ => rfl⟩, fun i q hi e => by rw [List.getElem?_eq_none hi] at e; cases e⟩
theorem get_grow {am ext : AM} {i : Nat} {q : Addr × Addr} (h : am[i]? = some q) : (am ++ ext)[i]? = some q := by
  have hl : i < am.length := by
    rcases Nat.lt_or_ge i am.length with h' | h'
    · exact h'
    · rw [List.getElem?_eq_none h'] at h; cases h
  rw [List.getElem?_append_left hl]; exact h
theorem Evolve.trans {X : List Addr} {n1 n2 n3 : List (Addr × Obj)} {a1 a2 a3 : AM} (e : Evolve X n1 a1 n2 a2) (f : Evolve X n2 a2 n3 a3) (ok : AmOk a3) : Evolve X n1 a1 n3 a3 := by
  refine box fun G0 k0 => ?_
  obtain ⟨x1, h1⟩ := e.pre
  obtain ⟨x2, h2⟩ := f.pre
  refine k0 ?_
  clear k0 G0
  have noIn : ∀ p ∈ n1, ¬ InAm p.1 a1 → ¬ InAm p.1 a2 := by
    rintro p hp hn hb1
    refine box fun G0 k0 => ?_
    obtain ⟨i, q, hq, hr⟩ := hb1
    refine k0 ?_
    clear k0 G0
    rcases Nat.lt_or_ge i a1.length with hi | hi
    · refine hn ⟨i, q, ?_, hr⟩
      rw [h1, List.getElem?_append_left hi] at hq; exact hq
    · have := e.fresh i q hi hq p hp
      rcases hr with hr | hr
      · exact this.1 hr.symm
      · exact this.2 hr.symm
  refine ⟨⟨x1 ++ x2, by rw [h2, h1, List.append_assoc]⟩, fun p hp hn => ?_, fun i q hi hq p hp => ?_⟩
  · refine box fun G0 k0 => ?_
    obtain ⟨o2, m2, k2⟩ := e.keep p hp hn
    obtain ⟨o3, m3, k3⟩ := f.keep (p.1, o2) m2 (noIn p hp hn)
    refine k0 ?_
    clear k0 G0
    exact ⟨o3, m3, fun hx => (k3 hx).trans (k2 hx)⟩
  · rcases Nat.lt_or_ge i a2.length with hi2 | hi2
    · refine e.fresh i q hi ?_ p hp
      rw [h2, List.getElem?_append_left hi2] at hq; exact hq
    · by_cases hn : InAm p.1 a1
      · refine box fun G0 k0 => ?_
        obtain ⟨j, r, hr, hpr⟩ := hn
        have hj : j < a1.length := by
          rcases Nat.lt_or_ge j a1.length with h | h
          · exact h
          · rw [List.getElem?_eq_none h] at hr; cases hr
        have hr3 : a3[j]? = some r := by rw [h2, h1, List.append_assoc]; exact get_grow hr
        obtain ⟨u1, u2, u3, u4⟩ := ok j i r q hr3 hq (by lia)
        refine k0 ?_
        clear k0 G0
        rcases hpr with h | h
        · rw [← h]; exact ⟨u1, u2⟩
        · rw [← h]; exact ⟨u3, u4⟩
      · refine box fun G0 k0 => ?_
        obtain ⟨o2, m2, _⟩ := e.keep p hp hn
        refine k0 ?_
        clear k0 G0
        exact f.fresh i q hi2 hq (p.1, o2) m2
theorem Evolve.more {X : List Addr} {n1 n2 : List (Addr × Obj)} {a1 a2 : AM} (e : Evolve [] n1 a1 n2 a2) : Evolve X n1 a1 n2 a2 :=
  ⟨e.pre, fun p hp hn => let ⟨o, m, k⟩ := e.keep p hp hn; ⟨o, m, fun _ => k (List.not_mem_nil)⟩, e.fresh⟩
theorem Evolve.relV {X : List Addr} {n1 n2 : List (Addr × Obj)} {a1 a2 : AM} {x : MV} {v : Value} (e : Evolve X n1 a1 n2 a2) (h : RelV a1 x v) : RelV a2 x v := by
  obtain ⟨x1, rfl⟩ := e.pre; exact h.grow
theorem Evolve.relL {X : List Addr} {n1 n2 : List (Addr × Obj)} {a1 a2 : AM} {x : List MV} {v : List Value} (e : Evolve X n1 a1 n2 a2) (h : RelL a1 x v) : RelL a2 x v := by
  obtain ⟨x1, rfl⟩ := e.pre; exact h.grow
noncomputable def Only (s s' : Shared) : Prop := ∃ h tk, s' = { s with heap := h, toks := tk }
theorem Only.refl (s : Shared) : Only s s := ⟨s.heap, s.toks, rfl⟩
theorem Only.trans {s s' s'' : Shared} (a : Only s s') (b : Only s' s'') : Only s s'' := by
  obtain ⟨h, t, rfl⟩ := a; obtain ⟨h', t', rfl⟩ := b; exact ⟨h', t', rfl⟩
theorem Only.mk' (s : Shared) (h : Heap) (t : Tok) : Only s { s with heap := h, toks := t } := ⟨h, t, rfl⟩
theorem Known.get {g : Gl} {n : Nat} {c : Act} {env : Env} {m : Str → Option Value} {news : List (Addr × Obj)} {am : AM} {ρ : MEnv} {σ : MH} {s : Shared} {i : Nat} {a : Addr} {ob : Obj}
    (C : c.Ok g n) (S : Sim g c env m news am ρ σ s) (k : Known c.base news i a ob) : s.heap.get? a = some ob := by
  rcases k with k | ⟨_, k⟩
  · exact S.N.get k
  · exact S.F.keep _ _ (C.stays _ _ k)
theorem Sim.known {g : Gl} {n : Nat} {c : Act} {env : Env} {m : Str → Option Value} {news : List (Addr × Obj)} {am : AM} {ρ : MEnv} {σ : MH} {s : Shared}
    (C : c.Ok g n) (S : Sim g c env m news am ρ σ s) {i : Nat} {o : MO} (h : σ[i]? = some o) : ∃ a ob, am[i]? = some a ∧ s.heap.get? a.1 = some ob ∧ ObjIs g.wc news am a ob o := by
  refine box fun G0 k0 => ?_
  obtain ⟨a, ob, ha, k, r⟩ := S.H.obj i o h
  refine k0 ?_
  clear k0 G0
  exact ⟨a, ob, ha, k.get C S, r⟩
theorem Sim.apart {g : Gl} {n : Nat} {c : Act} {env : Env} {m : Str → Option Value} {news : List (Addr × Obj)} {am : AM} {ρ : MEnv} {σ : MH} {s : Shared}
    (C : c.Ok g n) (S : Sim g c env m news am ρ σ s) {a : Addr} {o : Obj} (ho : s.heap.get? a = some o)
    (h1 : ∀ its k, o ≠ listOf its k) (h2 : ∀ its k, o ≠ tupOf its k) (h3 : ∀ d, o ≠ instObj g.wc d) (h4 : ∀ es k, o ≠ dictOf es k) : ¬ InAm a am := by
  rintro hb2
  refine box fun G0 k0 => ?_
  obtain ⟨i, q, hq, hr⟩ := hb2
  have hl : i < σ.length := by
    rw [← S.H.len]
    rcases Nat.lt_or_ge i am.length with h | h
    · exact h
    · rw [List.getElem?_eq_none h] at hq; cases hq
  obtain ⟨b, ob, hb, hk, ho'⟩ := S.known C (List.getElem?_eq_getElem hl)
  refine k0 ?_
  clear k0 G0
  have : b = q := Option.some.inj (hb.symm.trans hq)
  subst this
  rcases hr with rfl | rfl
  · rw [ho] at hk
    cases hk
    revert ho'
    cases σ[i] with
    | list xs => rintro ⟨vs, k, e, _⟩; exact h1 _ _ e
    | tup xs => rintro ⟨vs, k, e, _⟩; exact h2 _ _ e
    | inst as => rintro ⟨es, k, e, _⟩; exact h3 _ e
  · revert ho'
    cases σ[i] with
    | list xs => rintro ⟨vs, k, e, _, e2⟩; rw [e2, hk] at ho; cases ho; exact h1 _ _ e
    | tup xs => rintro ⟨vs, k, e, _, e2⟩; rw [e2, hk] at ho; cases ho; exact h2 _ _ e
    | inst as => rintro ⟨es, k, e, hm, _⟩; have := S.N.get hm; rw [ho] at this; cases this; exact h4 _ _ rfl
structure FlyAt (g : Gl) (c : Act) (cl : Bool) (msg : Str) (news : List (Addr × Obj)) (e t : Addr) (tk : Tok) (G B : Heap) (m : Str → Option Value) (h : Heap) : Prop where
  fr : Fr c.h₀ c.L G m
  upTo : G.UpToSlots h
  tup : h.TupAt t [.str msg tk]
  tNew : B.get? t = none
  bStays : c.base.StaysIn B
  below : ∀ b o, G.get? b = some o → b ∉ (c.fenv :: c.outer).filterMap (·.frame) → B.get? b = some o
  led : ∀ q ∈ news, B.get? q.1 = some q.2 ∧ q.1 ≠ c.L ∧ c.h₀.get? q.1 = none
  stays : B.StaysIn h
  eNew : B.get? e = none
  frames : h.FunFrames B (c.fenv :: c.outer)
  exc : h.get? e = some { cls := .ref (g.ec cl), data := .fields #[.ref t, .none, .none, .none, .bool false, .none] } ∨ ∃ fl, (fl = .none ∨ fl = rawInt c.L) ∧ h.TracedAtW B e (.ref (g.ec cl)) (.ref t) fl
noncomputable abbrev AnyM : (Str → Option Value) → Prop := fun _ => True
inductive FlyCore (g : Gl) (c : Act) (cl : Bool) (msg : Str) (M : (Str → Option Value) → Prop) (news : List (Addr × Obj)) (x : Value) (s' : Shared) : Prop
  | mk (e t : Addr) (tk : Tok) (G B : Heap) (m : Str → Option Value) (h : x = .ref e) (hm : M m) (f : FlyAt g c cl msg news e t tk G B m s'.heap) : FlyCore g c cl msg M news x s'
inductive Fly (g : Gl) (c : Act) (cl : Bool) (msg : Str) (M : (Str → Option Value) → Prop) (X : List Addr) (news : List (Addr × Obj)) (am : AM) (s : Shared) (σ' : MH) (x : Value) (s' : Shared) : Prop
  | mk (news' : List (Addr × Obj)) (am' : AM) (H : HeapRel g.wc c.base news' am' σ') (e : Evolve X news am news' am') (o : Only s s') (f : FlyCore g c cl msg M news' x s') : Fly g c cl msg M X news am s σ' x s'
theorem FlyCore.any {g : Gl} {c : Act} {cl : Bool} {msg : Str} {M : (Str → Option Value) → Prop} {news : List (Addr × Obj)} {x : Value} {s' : Shared} (f : FlyCore g c cl msg M news x s') : FlyCore g c cl msg AnyM news x s' :=
  let ⟨e, t, tk, G, B, m, h, _, k⟩ := f; ⟨e, t, tk, G, B, m, h, trivial, k⟩
noncomputable abbrev PT (α : Type) := (α → Shared → Prop) → (Value → Shared → Prop) → Shared → Prop
noncomputable abbrev wpT {α : Type} (g : Gl) (c : Act) (t : Sem α) : PT α := fun Q E s => wpAny (model g.prog g.w) c.A t Q E s
inductive DPost {α β : Type} (g : Gl) (c : Act) (env : Env) (m : Str → Option Value) (ρ : MEnv) (rel : AM → β → α → Prop) (news : List (Addr × Obj)) (am : AM) (s : Shared) (v : β) (σ' : MH) (u : α) (s' : Shared) : Prop
  | mk (news' : List (Addr × Obj)) (am' : AM) (S : Sim g c env m news' am' ρ σ' s') (e : Evolve [] news am news' am') (o : Only s s') (r : rel am' v u) : DPost g c env m ρ rel news am s v σ' u s'
noncomputable def DenW {α β : Type} (g : Gl) (c : Act) (env : Env) (m : Str → Option Value) (ρ : MEnv) (rel : AM → β → α → Prop) (news : List (Addr × Obj)) (am : AM) (s : Shared) (W : PT α) (r : R β) : Prop :=
  match r with
  | .stuck => True
  | .ok v σ' => ∀ E, W (DPost g c env m ρ rel news am s v σ') E s
  | .exc cl msg σ' => ∀ Q E, (∀ x s', Fly g c cl msg (fun m' => m' = m) [] news am s σ' x s' → E x s') → W Q E s
noncomputable abbrev Den {α β : Type} (g : Gl) (c : Act) (env : Env) (m : Str → Option Value) (ρ : MEnv) (rel : AM → β → α → Prop) (news : List (Addr × Obj)) (am : AM) (s : Shared) (t : Sem α) (r : R β) : Prop :=
  DenW g c env m ρ rel news am s (wpT g c t) r
theorem Sim.amOk {g : Gl} {c : Act} {env : Env} {m : Str → Option Value} {news : List (Addr × Obj)} {am : AM} {ρ : MEnv} {σ : MH} {s : Shared} (S : Sim g c env m news am ρ σ s) : AmOk am := S.H.ok
theorem Den.bind {α β γ δ : Type} {g : Gl} {c : Act} {env : Env} {m : Str → Option Value} {ρ : MEnv} {rel : AM → β → α → Prop} {rel' : AM → δ → γ → Prop} {news : List (Addr × Obj)} {am : AM} {s : Shared} {t : Sem α} {r : R β} {k : β → MH → R δ} {f : α → PT γ}
    (h : Den g c env m ρ rel news am s t r)
    (hk : ∀ v σ₁ u news₁ am₁ s₁, Sim g c env m news₁ am₁ ρ σ₁ s₁ → Evolve [] news am news₁ am₁ → Only s s₁ → rel am₁ v u → DenW g c env m ρ rel' news₁ am₁ s₁ (f u) (k v σ₁))
    (mono : ∀ u Q Q' E E' s, f u Q E s → (∀ v s, Q v s → Q' v s) → (∀ v s, E v s → E' v s) → f u Q' E' s) :
    DenW g c env m ρ rel' news am s (fun Q E s => wpAny (model g.prog g.w) c.A t (fun u s₁ => f u Q E s₁) E s) (r.bind k) := by
  induction r with
  | stuck => trivial
  | exc cl msg σ' => exact fun Q E hE => h _ _ hE
  | ok v σ₁ =>
    have h' : ∀ E, wpAny (model g.prog g.w) c.A t (DPost g c env m ρ rel news am s v σ₁) E s := h
    show DenW g c env m ρ rel' news am s _ (k v σ₁)
    have hk' := hk v σ₁
    revert hk'
    cases k v σ₁ with
    | stuck => intro _; trivial
    | ok v₂ σ₂ =>
      intro hk' E
      refine wpAny_mono (h' E) (fun u s₁ ⟨news₁, am₁, S₁, e₁, o₁, r₁⟩ => mono u _ _ E _ s₁ (hk' u news₁ am₁ s₁ S₁ e₁ o₁ r₁ E) (fun u₂ s₂ hb3 => ?_) fun _ _ x => x) fun _ _ x => x
      refine box fun G0 k0 => ?_
      obtain ⟨news₂, am₂, S₂, e₂, o₂, r₂⟩ := hb3
      refine k0 ?_
      clear k0 G0
      exact ⟨news₂, am₂, S₂, e₁.trans e₂ S₂.amOk, o₁.trans o₂, r₂⟩
    | exc cl msg σ₂ =>
      intro hk' Q E hE
      refine wpAny_mono (h' E) (fun u s₁ ⟨news₁, am₁, S₁, e₁, o₁, r₁⟩ => hk' u news₁ am₁ s₁ S₁ e₁ o₁ r₁ Q E fun x s' hx => hE x s' ?_) fun _ _ x => x
      refine box fun G0 k0 => ?_
      obtain ⟨news₂, am₂, H₂, e₂, o₂, f₂⟩ := hx
      refine k0 ?_
      clear k0 G0
      exact ⟨news₂, am₂, H₂, e₁.trans e₂ H₂.ok, o₁.trans o₂, f₂⟩
theorem Den.bind1 {α β γ δ : Type} {g : Gl} {c : Act} {env : Env} {m : Str → Option Value} {ρ : MEnv} {rel : AM → β → α → Prop} {rel' : AM → δ → γ → Prop} {news : List (Addr × Obj)} {am : AM} {s : Shared} {t : Sem α} {r : R β} {k : β → MH → R δ} {f : α → Sem γ}
    (h : Den g c env m ρ rel news am s t r)
    (hk : ∀ v σ₁ u news₁ am₁ s₁, Sim g c env m news₁ am₁ ρ σ₁ s₁ → Evolve [] news am news₁ am₁ → Only s s₁ → rel am₁ v u → Den g c env m ρ rel' news₁ am₁ s₁ (f u) (k v σ₁)) :
    DenW g c env m ρ rel' news am s (fun Q E s => wpAny (model g.prog g.w) c.A t (fun u s₁ => wpAny (model g.prog g.w) c.A (f u) Q E s₁) E s) (r.bind k) :=
  h.bind (f := fun u => wpT g c (f u)) hk fun _ _ _ _ _ _ h a b => wpAny_mono h a b
theorem Den.bind2 {α β α' β' γ δ : Type} {g : Gl} {c : Act} {env : Env} {m : Str → Option Value} {ρ : MEnv} {rel : AM → β → α → Prop} {rel₂ : AM → β' → α' → Prop} {rel' : AM → δ → γ → Prop} {news : List (Addr × Obj)} {am : AM} {s : Shared} {t : Sem α} {r : R β}
    {t₂ : α → Sem α'} {r₂ : β → MH → R β'} {k : β → β' → MH → R δ} {f : α → α' → Sem γ}
    (h : Den g c env m ρ rel news am s t r)
    (h₂ : ∀ v σ₁ u news₁ am₁ s₁, Sim g c env m news₁ am₁ ρ σ₁ s₁ → Evolve [] news am news₁ am₁ → Only s s₁ → rel am₁ v u → Den g c env m ρ rel₂ news₁ am₁ s₁ (t₂ u) (r₂ v σ₁))
    (hk : ∀ v u v' u' σ₂ news₁ am₁ news₂ am₂ s₂, Sim g c env m news₂ am₂ ρ σ₂ s₂ → Evolve [] news₁ am₁ news₂ am₂ → rel am₁ v u → rel₂ am₂ v' u' → Den g c env m ρ rel' news₂ am₂ s₂ (f u u') (k v v' σ₂)) :
    DenW g c env m ρ rel' news am s (fun Q E s => wpAny (model g.prog g.w) c.A t (fun u s₁ => wpAny (model g.prog g.w) c.A (t₂ u) (fun u' s₂ => wpAny (model g.prog g.w) c.A (f u u') Q E s₂) E s₁) E s) (r.bind fun v σ₁ => (r₂ v σ₁).bind fun v' σ₂ => k v v' σ₂) :=
  h.bind (f := fun u Q E s₁ => wpAny (model g.prog g.w) c.A (t₂ u) (fun u' s₂ => wpAny (model g.prog g.w) c.A (f u u') Q E s₂) E s₁)
    (fun v σ₁ u news₁ am₁ s₁ S₁ e₁ o₁ q₁ => (h₂ v σ₁ u news₁ am₁ s₁ S₁ e₁ o₁ q₁).bind1 fun v' σ₂ u' news₂ am₂ s₂ S₂ e₂ _ q₂ => hk v u v' u' σ₂ news₁ am₁ news₂ am₂ s₂ S₂ e₂ q₁ q₂)
    fun _ _ _ _ _ _ h a b => wpAny_mono h (fun _ _ h' => wpAny_mono h' a b) b
theorem DenW.of {α β : Type} {g : Gl} {c : Act} {env : Env} {m : Str → Option Value} {ρ : MEnv} {rel : AM → β → α → Prop} {news : List (Addr × Obj)} {am : AM} {s : Shared} {W W' : PT α} {r : R β}
    (h : DenW g c env m ρ rel news am s W r) (ht : ∀ Q E, W Q E s → W' Q E s) : DenW g c env m ρ rel news am s W' r := by
  induction r with
  | stuck => trivial
  | ok v σ' => exact fun E => ht _ _ (h E)
  | exc cl msg σ' => exact fun Q E hE => ht _ _ (h Q E hE)
theorem DenW.now {α β : Type} {g : Gl} {c : Act} {env : Env} {m : Str → Option Value} {ρ : MEnv} {rel : AM → β → α → Prop} {news : List (Addr × Obj)} {am : AM} {σ : MH} {s : Shared} {W : PT α} {v : β}
    (S : Sim g c env m news am ρ σ s)
    (h : ∀ Q : α → Shared → Prop, (∀ u h' tk, Fr c.h₀ c.L h' m → News c.h₀ c.L h' news → rel am v u → Q u { s with heap := h', toks := tk }) → ∀ E, W Q E s) :
    DenW g c env m ρ rel news am s W (.ok v σ) := fun E => h _ (fun u h' tk F N hr => ⟨news, am, ⟨F, N, S.H, S.V, S.Ce, S.Ap⟩, .refl, ⟨h', tk, rfl⟩, hr⟩) E
noncomputable def OkE (g : Gl) (n : Nat) (sc : Scope) (inner : Bool) (d : ED) (e : Expr) : Prop :=
  ∀ (c : Act) (env : Env) (s : Shared) (m : Str → Option Value) (news : List (Addr × Obj)) (am : AM) (ρ : MEnv) (σ : MH),
    c.Ok g n → EnvOk c sc inner env → Sim g c env m news am ρ σ s → Den g c env m ρ RelV news am s (eval e env) (d ρ σ)
noncomputable def OkT (g : Gl) (n : Nat) (sc : Scope) (inner : Bool) (d : TD) (e : Expr) : Prop :=
  ∀ (c : Act) (env : Env) (s : Shared) (m : Str → Option Value) (news : List (Addr × Obj)) (am : AM) (ρ : MEnv) (σ : MH),
    c.Ok g n → EnvOk c sc inner env → Sim g c env m news am ρ σ s → Den g c env m ρ (fun _ (b b' : Bool) => b = b') news am s (isTrue e env (eval e env)) (d ρ σ)
noncomputable def OkL (g : Gl) (n : Nat) (sc : Scope) (inner : Bool) (d : LD) (es : List Expr) : Prop :=
  ∀ (c : Act) (env : Env) (s : Shared) (m : Str → Option Value) (news : List (Addr × Obj)) (am : AM) (ρ : MEnv) (σ : MH) (pos : Pos),
    c.Ok g n → EnvOk c sc inner env → Sim g c env m news am ρ σ s → Den g c env m ρ RelL news am s (spliced (backTo pos (starEach es env))) (d ρ σ)
variable {g : Gl} {n : Nat} {sc : Scope} {inner : Bool}
theorem ok_var {x : String} {pos : Pos} (hd : (Str.ofString x == ("__debug__" : Str)) = false) : OkE g n sc inner (eVar x) (.Name (Str.ofString x) pos) := by
  intro c env s m news am ρ σ C V S
  unfold eVar
  cases h : ρ x with
  | none => trivial
  | some v =>
    intro E
    refine box fun G0 k0 => ?_
    obtain ⟨u, hu, hn⟩ := S.V x v h
    refine k0 ?_
    clear k0 G0
    refine wpAny_Name ?_ hd
    have hk : env.scope.kind = .function := by rw [V.scope]; exact V.kind
    have fin : DPost g c env m ρ RelV news am s v σ u s := ⟨news, am, S, .refl, .refl s, hu⟩
    rcases hn with ⟨hl, hx⟩ | ⟨hl, cc, o, hc, hm, hd⟩
    · rcases hx with ⟨he, hx⟩ | ⟨o, es, ep, hm, hd, hs, hf⟩
      · exact wpAny_loadName_local hk hl (he ▸ S.F.ns) hx fin
      · exact wpAny_loadName_local hk hl ⟨o, es, ep, S.N.get hm, hd, hs, fun _ => rfl⟩ hf fin
    · exact wpAny_loadName_cell hk hl hc ⟨o, S.N.get hm, hd⟩ fin
theorem ok_int {i : Int} {k : Nat} {pos : Pos} : OkE g n sc inner (eVal (.int i)) (.Constant (.int i) k pos) := by
  intro c env s m news am ρ σ C V S
  exact DenW.now S fun Q h E => wpAny_Constant_int (h _ _ _ S.F S.N ⟨_, rfl⟩)
theorem ok_str {x : Str} {k : Nat} {pos : Pos} : OkE g n sc inner (eVal (.str x)) (.Constant (.str x) k pos) := by
  intro c env s m news am ρ σ C V S
  exact DenW.now S fun Q h E => by
    rw [eval_Constant]
    exact wpAny_mkText (h _ _ _ S.F S.N ⟨_, rfl⟩)
theorem ok_bool {b : Bool} {k : Nat} {pos : Pos} : OkE g n sc inner (eVal (.bool b)) (.Constant (.bool b) k pos) := by
  intro c env s m news am ρ σ C V S
  exact DenW.now S fun Q h E => by
    rw [eval_Constant]
    exact wpAny_pure (h _ _ s.toks S.F S.N rfl)
theorem ok_none {k : Nat} {pos : Pos} : OkE g n sc inner (eVal .none) (.Constant .none k pos) := by
  intro c env s m news am ρ σ C V S
  exact DenW.now S fun Q h E => by
    rw [eval_Constant]
    exact wpAny_pure (h _ _ s.toks S.F S.N rfl)
theorem ok_global_int {x : Str} {i : Int} {tk : Tok} {pos : Pos} (hx : sc.names.lookup x = some .globalImplicit) (hK : nsIn g.K mainGlobals x = some (some (.int i tk))) (hd : (x == ("__debug__" : Str)) = false) :
    OkE g n sc inner (eVal (.int i)) (.Name x pos) := by
  intro c env s m news am ρ σ C V S
  refine DenW.now S fun Q h E => ?_
  have hk : env.scope.kind = .function := by rw [V.scope]; exact V.kind
  refine Name_function_global hk (by show List.lookup x env.scope.names = _; rw [V.scope]; exact hx) ?_ hd
  exact loadGlobal_global (by rw [V.glob]; exact C.top.g.keeps S.F.keep) (mg_of C.inK C.top.g hK) (h _ _ s.toks S.F S.N ⟨_, rfl⟩)
theorem ok_bin {f : MV → MV → MH → R MV} {a b : ED} {ea eb : Expr} {op : Operator} {pos : Pos} (ha : OkE g n sc inner a ea) (hb : OkE g n sc inner b eb)
    (hf : ∀ (c : Act) (env : Env) (s : Shared) (m : Str → Option Value) (news : List (Addr × Obj)) (am : AM) (ρ : MEnv) (σ : MH) (x y : MV) (u v : Value), c.Ok g n → Sim g c env m news am ρ σ s → RelV am x u → RelV am y v →
      Den g c env m ρ RelV news am s (binaryOp op u v) (f x y σ)) : OkE g n sc inner (eBin f a b) (.BinOp ea op eb pos) := by
  intro c env s m news am ρ σ C V S
  refine ((ha c env s m news am ρ σ C V S).bind2 (fun x σ₁ u news₁ am₁ s₁ S₁ e₁ o₁ r₁ => hb c env s₁ m news₁ am₁ ρ σ₁ C V S₁) ?_).of fun Q E h => wpAny_BinOp h
  exact fun x u y v σ₂ news₁ am₁ news₂ am₂ s₂ S₂ e₂ r₁ r₂ => hf c env s₂ m news₂ am₂ ρ σ₂ x y u v C S₂ (e₂.relV r₁) r₂
end Mine
end
section
set_option genInjectivity false
set_option genSizeOf false
open PySem PySem.W PyProof.Rows PySem.Calls PySem.Spec
namespace Mine
section
variable {g : Gl} {n : Nat} {c : Act} {env : Env} {m : Str → Option Value} {news : List (Addr × Obj)} {am : AM} {ρ : MEnv} {σ : MH} {s : Shared}
theorem NameAt.more {env : Env} {L : Addr} {m : Str → Option Value} {news news' : List (Addr × Obj)} {x : Str} {v : Value} (h : NameAt env L m news x v) (hs : ∀ p ∈ news, p ∈ news') : NameAt env L m news' x v := by
  rcases h with ⟨k, h | ⟨o, es, ep, hm, r⟩⟩ | ⟨k, cc, o, hc, hm, r⟩
  · exact .inl ⟨k, .inl h⟩
  · exact .inl ⟨k, .inr ⟨o, es, ep, hs _ hm, r⟩⟩
  · exact .inr ⟨k, cc, o, hc, hs _ hm, r⟩
theorem AttrsAre.grow {am ext : AM} {as : List (String × MV)} {es : List DictEntry} (h : AttrsAre am as es) : AttrsAre (am ++ ext) as es := fun x => by
  have := h x
  revert this
  cases as.lookup x with
  | none => exact id
  | some mv => exact fun ⟨v, e, r⟩ => ⟨v, e, r.grow⟩
theorem InstEs.grow {am ext : AM} {as : List (String × MV)} {es : List DictEntry} (h : InstEs am as es) : InstEs (am ++ ext) as es := ⟨h.attrs.grow, h.keys, h.len⟩
theorem ObjIs.grow {wc : Addr} {news news' : List (Addr × Obj)} {am ext : AM} {a : Addr × Addr} {ob : Obj} {o : MO} (h : ObjIs wc news am a ob o) (hs : ∀ p ∈ news, p ∈ news') : ObjIs wc news' (am ++ ext) a ob o := by
  induction o with
  | list xs => obtain ⟨vs, k, e, r, e2⟩ := h; exact ⟨vs, k, e, r.grow, e2⟩
  | tup xs => obtain ⟨vs, k, e, r, e2⟩ := h; exact ⟨vs, k, e, r.grow, e2⟩
  | inst as => obtain ⟨es, k, e, hm, r⟩ := h; exact ⟨es, k, e, hs _ hm, r.grow⟩
theorem Sim.held (C : c.Ok g n) (S : Sim g c env m news am ρ σ s) {i : Nat} {q : Addr × Addr} (h : am[i]? = some q) : (∃ o, s.heap.get? q.1 = some o) ∧ ∃ o, s.heap.get? q.2 = some o := by
  have hl : i < σ.length := by
    rw [← S.H.len]
    rcases Nat.lt_or_ge i am.length with h' | h'
    · exact h'
    · rw [List.getElem?_eq_none h'] at h; cases h
  refine box fun G0 k0 => ?_
  obtain ⟨b, ob, hb, hk, ho⟩ := S.known C (List.getElem?_eq_getElem hl)
  obtain rfl : b = q := Option.some.inj (hb.symm.trans h)
  refine k0 ?_
  clear k0 G0
  refine ⟨⟨_, hk⟩, ?_⟩
  revert ho
  cases σ[i] with
  | list xs => rintro ⟨vs, k, e, _, e2⟩; rw [e2]; exact ⟨_, hk⟩
  | tup xs => rintro ⟨vs, k, e, _, e2⟩; rw [e2]; exact ⟨_, hk⟩
  | inst as => rintro ⟨es, k, e, hm, _⟩; exact ⟨_, S.N.get hm⟩
theorem Sim.alloc (C : c.Ok g n) (S : Sim g c env m news am ρ σ s) {a : Addr × Addr} {o : MO} {ob : Obj} {own : List (Addr × Obj)} {h' : Heap} {tk : Nat}
    (hn1 : s.heap.get? a.1 = none) (hn2 : s.heap.get? a.2 = none) (F : Fr c.h₀ c.L h' m) (N : News c.h₀ c.L h' (own ++ news)) (hm : (a.1, ob) ∈ own) (ho : ObjIs g.wc (own ++ news) (am ++ [a]) a ob o) :
    Sim g c env m (own ++ news) (am ++ [a]) ρ (σ ++ [o]) { s with heap := h', toks := tk } ∧ Evolve [] news am (own ++ news) (am ++ [a]) := by
  have hs : ∀ p ∈ news, p ∈ own ++ news := fun p hp => List.mem_append_right _ hp
  refine ⟨⟨F, N, ⟨?_, ?_, ?_⟩, ?_, fun x cc hx => let ⟨o, v, hm', hd⟩ := S.Ce x cc hx; ⟨o, v, hs _ hm', hd⟩, ?_⟩, ⟨⟨[a], rfl⟩, fun p hp _ => ⟨p.2, hs p hp, fun _ => rfl⟩, ?_⟩⟩
  · rw [List.length_append, List.length_append, S.H.len]; rfl
  · have key : ∀ (i : Nat) (q : Addr × Addr), am[i]? = some q → q.1 ≠ a.1 ∧ q.1 ≠ a.2 ∧ q.2 ≠ a.1 ∧ q.2 ≠ a.2 := by
      intro i q hq
      refine box fun G0 k0 => ?_
      obtain ⟨⟨o1, h1⟩, ⟨o2, h2⟩⟩ := S.held C hq
      refine k0 ?_
      clear k0 G0
      refine ⟨?_, ?_, ?_, ?_⟩ <;> intro e
      · rw [e, hn1] at h1; cases h1
      · rw [e, hn2] at h1; cases h1
      · rw [e, hn1] at h2; cases h2
      · rw [e, hn2] at h2; cases h2
    intro i j p q hp hq hij
    rcases Nat.lt_or_ge i am.length with hi | hi <;> rcases Nat.lt_or_ge j am.length with hj | hj
    · rw [List.getElem?_append_left hi] at hp
      rw [List.getElem?_append_left hj] at hq
      exact S.H.ok i j p q hp hq hij
    · rw [List.getElem?_append_left hi] at hp
      rw [List.getElem?_append_right hj] at hq
      have : q = a := by
        have hj0 : j - am.length = 0 := by
          rcases Nat.eq_zero_or_pos (j - am.length) with h | h
          · exact h
          · rw [List.getElem?_eq_none h] at hq; cases hq
        rw [hj0] at hq; exact (Option.some.inj hq).symm
      subst this
      exact key i p hp
    · rw [List.getElem?_append_left hj] at hq
      rw [List.getElem?_append_right hi] at hp
      have : p = a := by
        have hj0 : i - am.length = 0 := by
          rcases Nat.eq_zero_or_pos (i - am.length) with h | h
          · exact h
          · rw [List.getElem?_eq_none h] at hp; cases hp
        rw [hj0] at hp; exact (Option.some.inj hp).symm
      subst this
      refine box fun G0 k0 => ?_
      obtain ⟨u1, u2, u3, u4⟩ := key j q hq
      refine k0 ?_
      clear k0 G0
      exact ⟨u1.symm, u3.symm, u2.symm, u4.symm⟩
    · exfalso
      rw [List.getElem?_append_right hi] at hp
      rw [List.getElem?_append_right hj] at hq
      have h1 : i - am.length = 0 := by
        rcases Nat.eq_zero_or_pos (i - am.length) with h | h
        · exact h
        · rw [List.getElem?_eq_none h] at hp; cases hp
      have h2 : j - am.length = 0 := by
        rcases Nat.eq_zero_or_pos (j - am.length) with h | h
        · exact h
        · rw [List.getElem?_eq_none h] at hq; cases hq
      exact off_one hij hi h1 hj h2
  · intro i o' h
    rcases Nat.lt_or_ge i σ.length with hi | hi
    · rw [List.getElem?_append_left hi] at h
      refine box fun G0 k0 => ?_
      obtain ⟨b, ob', hb, hk, ho'⟩ := S.H.obj i o' h
      refine k0 ?_
      clear k0 G0
      exact ⟨b, ob', get_grow hb, hk.imp (hs _) id, ho'.grow hs⟩
    · rw [List.getElem?_append_right hi] at h
      have h1 : i - σ.length = 0 := by
        rcases Nat.eq_zero_or_pos (i - σ.length) with h' | h'
        · exact h'
        · rw [List.getElem?_eq_none (by simp; lia)] at h; cases h
      rw [h1] at h
      obtain rfl : o = o' := Option.some.inj h
      refine ⟨a, ob, ?_, .inl (List.mem_append_left _ hm), ho⟩
      rw [List.getElem?_append_right (by rw [S.H.len]; lia), S.H.len, h1]; rfl
  · intro x mv hx
    refine box fun G0 k0 => ?_
    obtain ⟨v, hv, hn⟩ := S.V x mv hx
    refine k0 ?_
    clear k0 G0
    exact ⟨v, hv.grow, hn.more hs⟩
  · rcases S.Ap with h | ⟨⟨o, hmo⟩, hn⟩
    · exact .inl h
    · refine .inr ⟨⟨o, hs _ hmo⟩, ?_⟩
      rintro hb1
      refine box fun G0 k0 => ?_
      obtain ⟨i, q, hq, hr⟩ := hb1
      refine k0 ?_
      clear k0 G0
      rcases Nat.lt_or_ge i am.length with hi | hi
      · rw [List.getElem?_append_left hi] at hq; exact hn ⟨i, q, hq, hr⟩
      · rw [List.getElem?_append_right hi] at hq
        have h1 := S.N.get hmo
        cases hz : i - am.length with
        | succ z => rw [hz] at hq; cases hq
        | zero =>
          rw [hz] at hq
          cases hq
          rcases hr with hr | hr
          · rw [← hr, hn1] at h1; cases h1
          · rw [← hr, hn2] at h1; cases h1
  · intro i q hi hq p hp
    have : q = a := by
      rw [List.getElem?_append_right hi] at hq
      have hj0 : i - am.length = 0 := by
        rcases Nat.eq_zero_or_pos (i - am.length) with h | h
        · exact h
        · rw [List.getElem?_eq_none h] at hq; cases hq
      rw [hj0] at hq; exact (Option.some.inj hq).symm
    subst this
    have := S.N.get hp
    refine ⟨?_, ?_⟩ <;> intro e
    · rw [e, hn1] at this; cases this
    · rw [e, hn2] at this; cases this
theorem get_size_none (h : Heap) : h.get? h.objs.size = none := by
  cases q : h.get? h.objs.size with
  | none => rfl
  | some o => exact absurd (Heap.lt_size q) (Nat.lt_irrefl _)
theorem DenW.makes {W : PT Value} {o : MO} (C : c.Ok g n) (S : Sim g c env m news am ρ σ s)
    (h : ∀ Q : Value → Shared → Prop, (∀ a ob own h' tk, s.heap.get? a = none → Fr c.h₀ c.L h' m → News c.h₀ c.L h' (own ++ news) → (a, ob) ∈ own → ObjIs g.wc (own ++ news) (am ++ [(a, a)]) (a, a) ob o → Q (.ref a) { s with heap := h', toks := tk }) → ∀ E, W Q E s) :
    DenW g c env m ρ RelV news am s W (alloc o σ) := fun E => h _ (fun a ob own h' tk hn F N hm ho => by
      have := S.alloc C (tk := tk) hn hn F N hm ho
      refine ⟨_, _, this.1, this.2, ⟨h', tk, rfl⟩, (a, a), ?_, rfl⟩
      rw [List.getElem?_append_right (by rw [S.H.len]; exact Nat.le_refl _), S.H.len]; simp) E
theorem makes_list {xs : List MV} {vs : List Value} {k : Nat} {a : Addr} {news : List (Addr × Obj)} (r : RelL am xs vs) : ObjIs g.wc news (am ++ [(a, a)]) (a, a) (listOf vs.toArray k) (.list xs) := ⟨vs, k, rfl, r.grow, rfl⟩
theorem makes_tup {xs : List MV} {vs : List Value} {k : Nat} {a : Addr} {news : List (Addr × Obj)} (r : RelL am xs vs) : ObjIs g.wc news (am ++ [(a, a)]) (a, a) (tupOf vs.toArray k) (.tup xs) := ⟨vs, k, rfl, r.grow, rfl⟩
theorem Sim.list (C : c.Ok g n) (S : Sim g c env m news am ρ σ s) {i : Nat} {xs : List MV} {u : Value} (h : σ[i]? = some (.list xs)) (hu : RelV am (.ref i) u) :
    ∃ a vs k, am[i]? = some (a, a) ∧ u = .ref a ∧ s.heap.get? a = some (listOf (List.toArray vs) k) ∧ RelL am xs vs := by
  refine box fun G0 k0 => ?_
  obtain ⟨a, ob, ha, hk, vs, k, e, r, e2⟩ := S.known C h
  obtain ⟨a', ha', hu'⟩ := hu
  obtain rfl : a = a' := Option.some.inj (ha.symm.trans ha')
  obtain ⟨a1, a2⟩ := a
  refine k0 ?_
  clear k0 G0
  dsimp only at e2 hk hu'
  subst e2
  exact ⟨a2, vs, k, ha, hu', e ▸ hk, r⟩
theorem Sim.tup (C : c.Ok g n) (S : Sim g c env m news am ρ σ s) {i : Nat} {xs : List MV} {u : Value} (h : σ[i]? = some (.tup xs)) (hu : RelV am (.ref i) u) :
    ∃ a vs k, u = .ref a ∧ s.heap.get? a = some (tupOf (List.toArray vs) k) ∧ RelL am xs vs := by
  refine box fun G0 k0 => ?_
  obtain ⟨a, ob, ha, hk, vs, k, e, r, e2⟩ := S.known C h
  obtain ⟨a', ha', hu'⟩ := hu
  obtain rfl : a = a' := Option.some.inj (ha.symm.trans ha')
  refine k0 ?_
  clear k0 G0
  exact ⟨a.1, vs, k, hu', e ▸ hk, r⟩
theorem isList_of {h : Heap} {a : Addr} {its : Array Value} {k : Nat} (e : h.get? a = some (listOf its k)) : h.IsList a its := ⟨_, e, rfl, _, rfl⟩
theorem isTup_of {h : Heap} {a : Addr} {its : Array Value} {k : Nat} (e : h.get? a = some (tupOf its k)) : IsTup h a its := ⟨_, e, rfl, _, rfl⟩
theorem small_bd {x : Int} (h : small x = true) : -1000000 ≤ x ∧ x ≤ 1000000 := by
  simpa [small, Bool.and_eq_true, decide_eq_true_eq] using h
theorem maxLen_le {k : Nat} (h : k ≤ maxLen) : k ≤ sizeLine := Nat.le_trans h (by unfold maxLen; rw [sizeLine_eq]; decide)
theorem addL_or (i j : Nat) (σ : MH) : (∃ xs ys, σ[i]? = some (.list xs) ∧ σ[j]? = some (.list ys) ∧ xs.length + ys.length ≤ maxLen ∧ opAdd (.ref i) (.ref j) σ = alloc (.list (xs ++ ys)) σ) ∨ opAdd (.ref i) (.ref j) σ = .stuck := by
  unfold opAdd; dsimp only
  generalize σ[i]? = p
  generalize σ[j]? = q
  rcases p with _ | (xs | _ | _)
  · exact .inr rfl
  · rcases q with _ | (ys | _ | _)
    · exact .inr rfl
    · dsimp only
      by_cases h : xs.length + ys.length ≤ maxLen
      · exact .inl ⟨xs, ys, rfl, rfl, h, if_pos h⟩
      · exact .inr (if_neg h)
    · exact .inr rfl
    · exact .inr rfl
  · exact .inr rfl
  · exact .inr rfl
theorem den_add {x y : MV} {u v : Value} (C : c.Ok g n) (S : Sim g c env m news am ρ σ s) (hx : RelV am x u) (hy : RelV am y v) : Den g c env m ρ RelV news am s (binaryOp .Add u v) (opAdd x y σ) := by
  induction x with
  | int i =>
    induction y with
    | int j =>
      obtain ⟨t, rfl⟩ := hx; obtain ⟨t', rfl⟩ := hy
      exact DenW.now S fun Q h E => add_int (h _ _ _ S.F S.N ⟨_, rfl⟩)
    | _ => trivial
  | str i =>
    induction y with
    | str j =>
      obtain ⟨t, rfl⟩ := hx; obtain ⟨t', rfl⟩ := hy
      unfold opAdd; dsimp only
      split
      · rename_i hl
        exact DenW.now S fun Q h E => add_str (fun t' tk => h _ _ _ S.F S.N ⟨_, rfl⟩) (maxLen_le hl)
      · trivial
    | _ => trivial
  | ref i =>
    induction y with
    | ref j =>
      rcases addL_or i j σ with ⟨xs, ys, h1, h2, hl, e⟩ | e
      · refine box fun G0 k0 => ?_
        obtain ⟨a, vs, k, ha, rfl, hk, r⟩ := S.list C h1 hx
        obtain ⟨b, us, k', hb, rfl, hk', r'⟩ := S.list C h2 hy
        refine k0 ?_
        clear k0 G0
        rw [e]
        refine DenW.makes C S fun Q h E => ?_
        refine add_arrays S.F S.N (isList_of hk) (isList_of hk') (fun h' F N => h _ _ [(_, _)] h' s.toks (get_size_none _) F N (.head _) (makes_list (r.append r'))) ?_
        simp only [List.size_toArray]
        rw [r.length, r'.length]; exact maxLen_le hl
      · rw [e]; trivial
    | _ => trivial
  | _ => trivial
theorem den_sub {x y : MV} {u v : Value} (C : c.Ok g n) (S : Sim g c env m news am ρ σ s) (hx : RelV am x u) (hy : RelV am y v) : Den g c env m ρ RelV news am s (binaryOp .Sub u v) (opSub x y σ) := by
  induction x with
  | int i =>
    induction y with
    | int j =>
      obtain ⟨t, rfl⟩ := hx; obtain ⟨t', rfl⟩ := hy
      exact DenW.now S fun Q h E => sub_int (h _ _ _ S.F S.N ⟨_, rfl⟩)
    | _ => trivial
  | _ => trivial
theorem den_mod {x y : MV} {u v : Value} (C : c.Ok g n) (S : Sim g c env m news am ρ σ s) (hx : RelV am x u) (hy : RelV am y v) : Den g c env m ρ RelV news am s (binaryOp .Mod u v) (opMod x y σ) := by
  induction x with
  | int i =>
    induction y with
    | int j =>
      obtain ⟨t, rfl⟩ := hx; obtain ⟨t', rfl⟩ := hy
      unfold opMod; dsimp only
      split
      · rename_i hl
        exact DenW.now S fun Q h E => mod_int' hl (h _ _ _ S.F S.N ⟨_, rfl⟩)
      · trivial
    | _ => trivial
  | _ => trivial
theorem den_div {x y : MV} {u v : Value} (C : c.Ok g n) (S : Sim g c env m news am ρ σ s) (hx : RelV am x u) (hy : RelV am y v) : Den g c env m ρ RelV news am s (binaryOp .FloorDiv u v) (opDiv x y σ) := by
  induction x with
  | int i =>
    induction y with
    | int j =>
      obtain ⟨t, rfl⟩ := hx; obtain ⟨t', rfl⟩ := hy
      unfold opDiv; dsimp only
      split
      · rename_i hl
        simp only [Bool.and_eq_true, decide_eq_true_eq] at hl
        refine box fun G0 k0 => ?_
        obtain ⟨⟨h1, h2⟩, h3⟩ := hl
        refine k0 ?_
        clear k0 G0
        have h1 := small_bd h1; have h2 := small_bd h2
        refine DenW.now S fun Q h E => floordiv_int h3 (h _ _ _ S.F S.N ⟨_, rfl⟩) (.inl ?_)
        exact PyProof.noPylong_small (by lia)
      · trivial
    | _ => trivial
  | _ => trivial
theorem intBits_small {x : Int} (h : small x = true) : Builtin.Int.intBits x ≤ 64 := intBits_le_64 (by have := small_bd h; lia) (by have := small_bd h; lia)
theorem foldl_one (v : Value) : ∀ (k : Nat) (acc : Array Value), (List.foldl (fun x y => x ++ y) acc (List.replicate k #[v])) = acc ++ (List.replicate k v).toArray
  | 0, acc => by simp
  | k + 1, acc => by
    rw [List.replicate_succ, List.foldl_cons, foldl_one v k, List.replicate_succ]
    apply Array.ext'
    simp
theorem RelL.replicate {am : AM} {x : MV} {v : Value} (h : RelV am x v) : ∀ k, RelL am (List.replicate k x) (List.replicate k v)
  | 0 => trivial
  | k + 1 => ⟨h, RelL.replicate h k⟩
theorem mulL_or (i : Nat) (y : Int) (σ : MH) : (∃ x, σ[i]? = some (.list [x]) ∧ (0 ≤ y ∧ y ≤ 1000) ∧ opMul (.ref i) (.int y) σ = alloc (.list (List.replicate y.toNat x)) σ) ∨ opMul (.ref i) (.int y) σ = .stuck := by
  unfold opMul; dsimp only
  generalize σ[i]? = p
  rcases p with _ | ((_ | ⟨x, _ | ⟨x2, r⟩⟩) | _ | _)
  · exact .inr rfl
  · exact .inr rfl
  · dsimp only
    by_cases h : 0 ≤ y ∧ y ≤ 1000
    · exact .inl ⟨x, rfl, h, if_pos h⟩
    · exact .inr (if_neg h)
  · exact .inr rfl
  · exact .inr rfl
  · exact .inr rfl
theorem den_mul {x y : MV} {u v : Value} (C : c.Ok g n) (S : Sim g c env m news am ρ σ s) (hx : RelV am x u) (hy : RelV am y v) : Den g c env m ρ RelV news am s (binaryOp .Mult u v) (opMul x y σ) := by
  induction x with
  | int i =>
    induction y with
    | int j =>
      obtain ⟨t, rfl⟩ := hx; obtain ⟨t', rfl⟩ := hy
      unfold opMul; dsimp only
      split
      · rename_i hl
        simp only [Bool.and_eq_true] at hl
        exact DenW.now S fun Q h E => mul_int (h _ _ _ S.F S.N ⟨_, rfl⟩) (.of_left (intBits_small hl.1))
      · trivial
    | _ => trivial
  | ref i =>
    induction y with
    | int j =>
      obtain ⟨t', rfl⟩ := hy
      rcases mulL_or i j σ with ⟨x, h1, hl, e⟩ | e
      · refine box fun G0 k0 => ?_
        obtain ⟨a, vs, k, ha, rfl, hk, r⟩ := S.list C h1 hx
        obtain ⟨v, rfl, rv⟩ : ∃ v, vs = [v] ∧ RelV am x v := by
          obtain ⟨v, r', e⟩ := List.exists_cons_of_length_eq_add_one r.length
          subst e
          obtain rfl := List.eq_nil_of_length_eq_zero r.2.length
          exact ⟨v, rfl, r.1⟩
        refine k0 ?_
        clear k0 G0
        rw [e]
        clear e
        refine DenW.makes C S fun Q h E => ?_
        refine mul_list S.F S.N hk (by lia) (by lia) (by simp; lia) (fun h' F N => h _ _ [(_, _)] h' s.toks (get_size_none _) F N (.head _) ?_)
        refine ⟨List.replicate j.toNat v, 0, ?_, (RelL.replicate rv _).grow, rfl⟩
        have e : (if (#[v] : Array Value).isEmpty = true then 0 else j.toNat) = j.toNat := by simp
        show ({ cls := .type "list", data := .seq (List.foldl (fun x1 x2 => x1 ++ x2) #[] (List.replicate (if (#[v] : Array Value).isEmpty = true then 0 else j.toNat) #[v])) } : Obj) = _
        rw [e, foldl_one]
        simp [W.listOf]
      · rw [e]; trivial
    | _ => trivial
  | _ => trivial
theorem den_pow {x y : MV} {u v : Value} (C : c.Ok g n) (S : Sim g c env m news am ρ σ s) (hx : RelV am x u) (hy : RelV am y v) : Den g c env m ρ RelV news am s (binaryOp .Pow u v) (opPow x y σ) := by
  induction x with
  | int i =>
    induction y with
    | int j =>
      obtain ⟨t, rfl⟩ := hx; obtain ⟨t', rfl⟩ := hy
      unfold opPow; dsimp only
      split
      · rename_i hl
        obtain ⟨rfl, rfl⟩ := hl
        exact DenW.now S fun Q h E => pow_int (by decide) (by decide) (h _ _ _ S.F S.N ⟨_, rfl⟩)
      · trivial
    | _ => trivial
  | _ => trivial
theorem readsAll_of {h : Heap} {am : AM} {f : MV → Option PyData} : ∀ {xs : List MV} {vs : List Value} {ds : List PyData}, (∀ x ∈ xs, ∀ u d, RelV am x u → f x = some d → ∃ as, Reads h u d as) → RelL am xs vs → xs.mapM f = some ds → ∃ as, ReadsAll h vs ds as
  | [], [], ds, _, _, e => by
    rw [List.mapM_nil] at e
    cases e
    exact ⟨_, ReadsAll.nil⟩
  | x :: xs, v :: vs, ds, hf, ⟨r, rs⟩, e => by
    rw [List.mapM_cons] at e
    cases h1 : f x with
    | none => rw [h1] at e; cases e
    | some d =>
      rw [h1] at e
      cases h2 : xs.mapM f with
      | none => rw [h2] at e; cases e
      | some ds' =>
        rw [h2] at e
        cases e
        refine box fun G0 k0 => ?_
        obtain ⟨as, q⟩ := hf x (.head _) v d r h1
        obtain ⟨bs, q'⟩ := readsAll_of (fun y hy => hf y (.tail _ hy)) rs h2
        refine k0 ?_
        clear k0 G0
        exact ⟨_, ReadsAll.cons q q'⟩
theorem reads_of (C : c.Ok g n) (S : Sim g c env m news am ρ σ s) : ∀ (k : Nat) (x : MV) (u : Value) (d : PyData), RelV am x u → toPy σ k x = some d → ∃ as, Reads s.heap u d as
  | k, .none, u, d, h, e => by cases k <;> (cases e; obtain rfl : u = .none := h; exact ⟨_, Reads.none⟩)
  | k, .bool b, u, d, h, e => by cases k <;> (cases e; obtain rfl : u = .bool b := h; exact ⟨_, Reads.bool b⟩)
  | k, .int i, u, d, h, e => by cases k <;> (cases e; obtain ⟨t, rfl⟩ := h; exact ⟨_, Reads.int i t⟩)
  | k, .str i, u, d, h, e => by cases k <;> (cases e; obtain ⟨t, rfl⟩ := h; exact ⟨_, Reads.str i t⟩)
  | 0, .ref i, u, d, h, e => by cases e
  | k + 1, .ref i, u, d, h, e => by
    unfold toPy at e
    split at e
    · rename_i xs h1
      refine box fun G0 k0 => ?_
      obtain ⟨a, vs, k', ha, rfl, hk, r⟩ := S.list C h1 h
      refine k0 ?_
      clear k0 G0
      cases h2 : xs.mapM (toPy σ k) with
      | none => rw [h2] at e; cases e
      | some ds =>
        rw [h2] at e
        cases e
        obtain ⟨as, q⟩ := readsAll_of (fun x _ u d hr he => reads_of C S k x u d hr he) r h2
        exact ⟨_, reads_list_at hk rfl rfl (by simpa using q)⟩
    · rename_i xs h1
      refine box fun G0 k0 => ?_
      obtain ⟨a, vs, k', rfl, hk, r⟩ := S.tup C h1 h
      refine k0 ?_
      clear k0 G0
      cases h2 : xs.mapM (toPy σ k) with
      | none => rw [h2] at e; cases e
      | some ds =>
        rw [h2] at e
        cases e
        obtain ⟨as, q⟩ := readsAll_of (fun x _ u d hr he => reads_of C S k x u d hr he) r h2
        exact ⟨as, reads_tuple_at hk rfl rfl (by simpa using q)⟩
    · cases e
noncomputable def Cm.op : Cm → CmpOp
  | .eq => .Eq | .ne => .NotEq | .lt => .Lt | .le => .LtE | .gt => .Gt | .ge => .GtE | .is => .Is | .isnot => .IsNot
theorem cmpEq_data {x y : Option PyData} {r : Bool} (h : (match x, y with
    | some d, some e => if SeqAt.shaped d && SeqAt.shaped e then some (PyData.eqv d e) else none
    | _, _ => none) = some r) : ∃ d d', x = some d ∧ y = some d' ∧ (SeqAt.shaped d && SeqAt.shaped d') = true ∧ r = PyData.eqv d d' := by
  rcases x with _ | d
  · cases h
  rcases y with _ | d'
  · cases h
  refine ⟨d, d', rfl, rfl, ?_⟩
  by_cases hs : (SeqAt.shaped d && SeqAt.shaped d') = true
  · exact ⟨hs, (Option.some.inj ((if_pos hs).symm.trans h)).symm⟩
  · cases (if_neg hs).symm.trans h
theorem cmpEq_inv {x y : MV} {σ : MH} {r : Bool} (e : cmpEq? x y σ = some r) : (∃ a b, x = .int a ∧ y = .int b ∧ r = (a == b)) ∨ (∃ a b, x = .str a ∧ y = .str b ∧ r = (a == b)) ∨
    ∃ d d', toPy σ 4 x = some d ∧ toPy σ 4 y = some d' ∧ (SeqAt.shaped d && SeqAt.shaped d') = true ∧ r = PyData.eqv d d' := by
  induction x with
  | int a =>
    induction y with
    | int b => exact .inl ⟨a, b, rfl, rfl, (Option.some.inj e).symm⟩
    | _ => exact .inr (.inr (cmpEq_data e))
  | str a =>
    induction y with
    | str b => exact .inr (.inl ⟨a, b, rfl, rfl, (Option.some.inj e).symm⟩)
    | _ => exact .inr (.inr (cmpEq_data e))
  | _ => exact .inr (.inr (cmpEq_data e))
theorem den_eq {x y : MV} {u v : Value} {r : Bool} (C : c.Ok g n) (S : Sim g c env m news am ρ σ s) (hx : RelV am x u) (hy : RelV am y v) (e : cmpEq? x y σ = some r) :
    (∀ Q : Value → Shared → Prop, Q (.bool r) s → ∀ E, wpAny (model g.prog g.w) c.A (compareOp .Eq u v) Q E s) ∧ (∀ Q : Value → Shared → Prop, Q (.bool (!r)) s → ∀ E, wpAny (model g.prog g.w) c.A (compareOp .NotEq u v) Q E s) := by
  rcases cmpEq_inv e with ⟨a, b, rfl, rfl, rfl⟩ | ⟨a, b, rfl, rfl, rfl⟩ | ⟨d, d', h1, h2, hs, rfl⟩
  · obtain ⟨t, rfl⟩ := hx; obtain ⟨t', rfl⟩ := hy
    exact ⟨fun Q h E => eq_int h, fun Q h E => ne_int h⟩
  · obtain ⟨t, rfl⟩ := hx; obtain ⟨t', rfl⟩ := hy
    exact ⟨fun Q h E => eq_str h, fun Q h E => ne_str h⟩
  · rw [Bool.and_eq_true] at hs
    obtain ⟨as, ra⟩ := reads_of C S 4 _ u d hx h1
    obtain ⟨bs, rb⟩ := reads_of C S 4 _ v d' hy h2
    have hu : c.A.units + 64 < cLine := by have := C.units; lia
    exact ⟨fun Q h E => eq_dataH ra rb hs.1 hs.2 hu h, fun Q h E => ne_dataH ra rb hs.1 hs.2 hu h⟩
end
section
variable {g : Gl} {n : Nat} {c : Act} {env : Env} {m : Str → Option Value} {news : List (Addr × Obj)} {am : AM} {ρ : MEnv} {σ : MH} {s : Shared}
theorem den_cmp {cm : Cm} {x y : MV} {u v : Value} (C : c.Ok g n) (S : Sim g c env m news am ρ σ s) (hx : RelV am x u) (hy : RelV am y v) : Den g c env m ρ RelV news am s (compareOp cm.op u v) (cmpOp cm x y σ) := by
  have hInts : ∀ (o : CmpOp) (f : Int → Int → Bool), (∀ (i j : Int) (t t' : Tok) (Q : Value → Shared → Prop) E, Q (.bool (f i j)) s → wpAny (model g.prog g.w) c.A (compareOp o (.int i t) (.int j t')) Q E s) →
      Den g c env m ρ RelV news am s (compareOp o u v) (onInts f x y σ) := by
    intro o f hf
    induction x with
    | int i =>
      induction y with
      | int j =>
        obtain ⟨t, rfl⟩ := hx; obtain ⟨t', rfl⟩ := hy
        exact DenW.now S fun Q h E => hf _ _ _ _ _ _ (h _ _ s.toks S.F S.N rfl)
      | _ => trivial
    | _ => trivial
  have hBools : ∀ (o : CmpOp) (f : Bool → Bool → Bool), (∀ (i j : Bool) (Q : Value → Shared → Prop) E, Q (.bool (f i j)) s → wpAny (model g.prog g.w) c.A (compareOp o (.bool i) (.bool j)) Q E s) →
      Den g c env m ρ RelV news am s (compareOp o u v) (onBools f x y σ) := by
    intro o f hf
    induction x with
    | bool i =>
      induction y with
      | bool j =>
        obtain rfl : u = .bool i := hx
        obtain rfl : v = .bool j := hy
        exact DenW.now S fun Q h E => hf _ _ _ _ (h _ _ s.toks S.F S.N rfl)
      | _ => trivial
    | _ => trivial
  induction cm with
  | eq =>
    unfold cmpOp; dsimp only
    split
    · rename_i r h
      exact DenW.now S fun Q hq E => (den_eq C S hx hy h).1 Q (hq _ _ s.toks S.F S.N rfl) E
    · trivial
  | ne =>
    unfold cmpOp; dsimp only
    split
    · rename_i r h
      exact DenW.now S fun Q hq E => (den_eq C S hx hy h).2 Q (hq _ _ s.toks S.F S.N rfl) E
    · trivial
  | is => exact hBools _ _ fun i j Q E h => is_bool h
  | isnot => exact hBools .IsNot (fun a b => !(a == b)) fun i j Q E h => isnot_bool h
  | lt => exact hInts .Lt (fun x y => decide (x < y)) fun i j t t' Q E h => lt_int h
  | le => exact hInts .LtE (fun x y => decide (x ≤ y)) fun i j t t' Q E h => le_int h
  | gt => exact hInts .Gt (fun x y => decide (x > y)) fun i j t t' Q E h => gt_int h
  | ge => exact hInts .GtE (fun x y => decide (x ≥ y)) fun i j t t' Q E h => ge_int h
theorem den_in {x y : MV} {u v : Value} (C : c.Ok g n) (S : Sim g c env m news am ρ σ s) (hx : RelV am x u) (hy : RelV am y v) : Den g c env m ρ RelV news am s (compareOp .In u v) (opIn x y σ) := by
  induction y with
  | ref j =>
    unfold opIn; dsimp only
    split
    · rename_i ys h1
      split
      · rename_i xs d h2 h3
        split
        · rename_i hs
          simp only [Bool.and_eq_true, decide_eq_true_eq] at hs
          refine box fun G0 k0 => ?_
          obtain ⟨a, vs, k', ha, rfl, hk, r⟩ := S.list C h1 hy
          obtain ⟨as, q⟩ := readsAll_of (fun x _ u d hr he => reads_of C S 4 x u d hr he) r h2
          obtain ⟨bs, rx⟩ := reads_of C S 4 _ u d hx h3
          refine k0 ?_
          clear k0 G0
          have hu := C.units
          refine DenW.now S fun Q hq E => SeqAt.in_list_reads (reads_list_at hk rfl rfl (by simpa using q)) rx hs.1.1 hs.1.2 ?_ (hq _ _ s.toks S.F S.N rfl)
          have := Nat.min_le_right (PyData.depthAll xs) d.depth
          lia
        · trivial
      · trivial
    · trivial
  | _ => trivial
theorem den_truthy {x : MV} {u : Value} (S : Sim g c env m news am ρ σ s) (hx : RelV am x u) : Den g c env m ρ (fun _ (b b' : Bool) => b = b') news am s (truthy u) (asBool x σ) := by
  induction x with
  | bool b => obtain rfl : u = .bool b := hx; exact DenW.now S fun Q hq E => wpAny_truthy_bool (hq _ _ s.toks S.F S.N rfl)
  | _ => trivial
theorem seqIndex_pos {k : Int} {len : Nat} (h0 : 0 ≤ k) (h1 : k < len) : seqIndex? k len = some k.toNat := by
  have h2 : ¬ k < 0 := Int.not_lt.mpr h0
  simp [seqIndex?, h0, h1, h2]
theorem neg_one {n : Nat} (h : 0 < n) : (-1 + (n : Int)) = ((n - 1 : Nat) : Int) := by
  cases n with
  | zero => exact absurd h (Nat.lt_irrefl 0)
  | succ n => rw [Int.natCast_succ, Int.add_comm, Int.add_assoc]; exact Int.add_zero _
theorem seqIndex_neg {len : Nat} (h0 : 0 < len) : seqIndex? (-1) len = some (len - 1) := by
  have h3 := neg_one h0
  have h1 : (0 : Int) ≤ -1 + len := by rw [h3]; exact Int.natCast_nonneg _
  have h2 : (-1 + (len : Int)) < len := by rw [h3]; exact Int.ofNat_lt.mpr (Nat.sub_lt h0 Nat.one_pos)
  simp [seqIndex?, h1, h2]
  rw [h3, Int.toNat_natCast]
theorem place_spec {k : Int} {len j : Nat} (h : place? k len = some j) : -(2 ^ 63) ≤ k ∧ k < 2 ^ 63 ∧ seqIndex? k len = some j ∧ j < len := by
  unfold place? at h
  split at h
  · split at h
    · cases h
      rename_i h0 h1
      exact ⟨Int.le_trans (by decide) h0, Int.lt_trans h1.2 (by decide), seqIndex_pos h0 h1.1, (Int.toNat_lt h0).mpr h1.1⟩
    · cases h
  · split at h
    · cases h
      rename_i h0 h1
      refine box fun G0 k0 => ?_
      obtain ⟨rfl, h2, h3⟩ := h1
      refine k0 ?_
      clear k0 G0
      exact ⟨by decide, by decide, seqIndex_neg h2, Nat.sub_lt h2 Nat.one_pos⟩
    · cases h
end
section
variable {g : Gl} {n : Nat} {sc : Scope} {inner : Bool}
theorem ok_cmp {cm : Cm} {a b : ED} {ea eb : Expr} {pos : Pos} (ha : OkE g n sc inner a ea) (hb : OkE g n sc inner b eb) (hm : behindInMarks cm.op eb = false) : OkE g n sc inner (eCmp cm a b) (.Compare ea [cm.op] [eb] pos) := by
  intro c env s m news am ρ σ C V S
  refine ((ha c env s m news am ρ σ C V S).bind2 (fun x σ₁ u news₁ am₁ s₁ S₁ e₁ o₁ r₁ => hb c env s₁ m news₁ am₁ ρ σ₁ C V S₁) ?_).of fun Q E h => wpAny_Compare1 h hm
  exact fun x u y v σ₂ news₁ am₁ news₂ am₂ s₂ S₂ e₂ r₁ r₂ => den_cmp C S₂ (e₂.relV r₁) r₂
theorem okT_of {a : ED} {e : Expr} (ha : OkE g n sc inner a e) (he : ∀ env whole, isTrue e env whole = (do let v ← whole; standAt e.pos; holding [v] (truthy v))) : OkT g n sc inner (tOf a) e := by
  intro c env s m news am ρ σ C V S
  refine ((ha c env s m news am ρ σ C V S).bind1 fun v σ₁ u news₁ am₁ s₁ S₁ e₁ o₁ r₁ => ?_).of fun Q E h => isTrue_plain h (he env _)
  exact den_truthy S₁ r₁
theorem okT_cmp2 {f : MV → MV → MH → R MV} {op : CmpOp} {a b : ED} {ea eb : Expr} {pos : Pos} (ha : OkE g n sc inner a ea) (hb : OkE g n sc inner b eb) (hm : behindInMarks op eb = false)
    (hf : ∀ (c : Act) (env : Env) (s : Shared) (m : Str → Option Value) (news : List (Addr × Obj)) (am : AM) (ρ : MEnv) (σ : MH) (x y : MV) (u v : Value), c.Ok g n → Sim g c env m news am ρ σ s → RelV am x u → RelV am y v →
      Den g c env m ρ RelV news am s (compareOp op u v) (f x y σ)) : OkT g n sc inner (tOf (eBin f a b)) (.Compare ea [op] [eb] pos) := by
  intro c env s m news am ρ σ C V S
  have h1 := (ha c env s m news am ρ σ C V S)
  have key : DenW g c env m ρ (fun _ (b b' : Bool) => b = b') news am s (fun Q E s => wpAny (model g.prog g.w) c.A (eval ea env) (fun u s₁ => wpAny (model g.prog g.w) c.A (eval eb env) (fun v s₂ => wpAny (model g.prog g.w) c.A (compareOp op u v) (fun r s₃ => wpAny (model g.prog g.w) c.A (truthy r) Q E s₃) E s₂) E s₁) E s)
      ((a ρ σ).bind fun x σ₁ => (b ρ σ₁).bind fun y σ₂ => (f x y σ₂).bind asBool) := by
    refine h1.bind (f := fun u Q E s₁ => wpAny (model g.prog g.w) c.A (eval eb env) (fun v s₂ => wpAny (model g.prog g.w) c.A (compareOp op u v) (fun r s₃ => wpAny (model g.prog g.w) c.A (truthy r) Q E s₃) E s₂) E s₁)
      (fun x σ₁ u news₁ am₁ s₁ S₁ e₁ o₁ r₁ => ?_) fun _ _ _ _ _ _ h p q => wpAny_mono h (fun _ _ h' => wpAny_mono h' (fun _ _ h'' => wpAny_mono h'' p q) q) q
    refine (hb c env s₁ m news₁ am₁ ρ σ₁ C V S₁).bind (f := fun v Q E s₂ => wpAny (model g.prog g.w) c.A (compareOp op u v) (fun r s₃ => wpAny (model g.prog g.w) c.A (truthy r) Q E s₃) E s₂)
      (fun y σ₂ v news₂ am₂ s₂ S₂ e₂ o₂ r₂ => ?_) fun _ _ _ _ _ _ h p q => wpAny_mono h (fun _ _ h' => wpAny_mono h' p q) q
    exact (hf c env s₂ m news₂ am₂ ρ σ₂ x y u v C S₂ (e₂.relV r₁) r₂).bind1 fun r σ₃ w news₃ am₃ s₃ S₃ e₃ o₃ r₃ => den_truthy S₃ r₃
  have e : tOf (eBin f a b) ρ σ = ((a ρ σ).bind fun x σ₁ => (b ρ σ₁).bind fun y σ₂ => (f x y σ₂).bind asBool) := by
    unfold tOf eBin
    cases a ρ σ with
    | ok x σ₁ => show ((b ρ σ₁).bind _).bind _ = (b ρ σ₁).bind _; cases b ρ σ₁ <;> rfl
    | _ => rfl
  rw [e]
  exact key.of fun Q E h => wpAny_isTrue_Compare1 h hm
theorem okT_cmp {cm : Cm} {a b : ED} {ea eb : Expr} {pos : Pos} (ha : OkE g n sc inner a ea) (hb : OkE g n sc inner b eb) (hm : behindInMarks cm.op eb = false) : OkT g n sc inner (tOf (eCmp cm a b)) (.Compare ea [cm.op] [eb] pos) :=
  okT_cmp2 ha hb hm fun c env s m news am ρ σ x y u v C S hx hy => den_cmp C S hx hy
theorem okT_in {a b : ED} {ea eb : Expr} {pos : Pos} (ha : OkE g n sc inner a ea) (hb : OkE g n sc inner b eb) (hm : behindInMarks .In eb = false) : OkT g n sc inner (tOf (eInList a b)) (.Compare ea [.In] [eb] pos) :=
  okT_cmp2 ha hb hm fun c env s m news am ρ σ x y u v C S hx hy => den_in C S hx hy
theorem okT_not {t : TD} {e : Expr} {pos : Pos} (h : OkT g n sc inner t e) : OkT g n sc inner (tNot t) (.UnaryOp .Not e pos) := by
  intro c env s m news am ρ σ C V S
  refine ((h c env s m news am ρ σ C V S).bind (f := fun b Q E s => Q (!b) s) (rel' := fun _ (b b' : Bool) => b = b') (k := fun v σ₁ => .ok (!v) σ₁) (fun v σ₁ u news₁ am₁ s₁ S₁ e₁ o₁ r₁ => ?_) fun _ _ _ _ _ _ h p q => p _ _ h).of fun Q E h => isTrue_not h
  subst r₁
  exact DenW.now S₁ fun Q hq E => hq _ _ s₁.toks S₁.F S₁.N rfl
theorem okT_and1 {t : TD} {e : Expr} {pos : Pos} (h : OkT g n sc inner t e) : OkT g n sc inner t (.BoolOp .And [e] pos) := by
  intro c env s m news am ρ σ C V S
  exact (h c env s m news am ρ σ C V S).of fun Q E h => isTrue_and (wpAny_mono h (fun b s' hb => by
    induction b with
    | true => exact isTrue_and_nil hb
    | false => exact hb) fun _ _ x => x)
theorem okT_and {t r : TD} {e e' : Expr} {es : List Expr} {pos : Pos} (h : OkT g n sc inner t e) (h' : OkT g n sc inner r (.BoolOp .And (e' :: es) pos)) : OkT g n sc inner (tAnd t r) (.BoolOp .And (e :: e' :: es) pos) := by
  intro c env s m news am ρ σ C V S
  refine ((h c env s m news am ρ σ C V S).bind (f := fun b Q E s => if b then wpAny (model g.prog g.w) c.A (isTrue (.BoolOp .And (e' :: es) pos) env (eval (.BoolOp .And (e' :: es) pos) env)) Q E s else Q false s) (rel' := fun _ (b b' : Bool) => b = b') (k := fun v σ₁ => if v then r ρ σ₁ else .ok false σ₁) (fun v σ₁ u news₁ am₁ s₁ S₁ e₁ o₁ r₁ => ?_) fun b _ _ _ _ _ h p q => ?_).of fun Q E h => isTrue_and ?_
  · subst r₁
    induction v with
    | true => exact h' c env s₁ m news₁ am₁ ρ σ₁ C V S₁
    | false => exact DenW.now S₁ fun Q hq E => hq _ _ s₁.toks S₁.F S₁.N rfl
  · induction b with
    | true => exact wpAny_mono h p q
    | false => exact p _ _ h
  · exact h
theorem okT_or1 {t : TD} {e : Expr} {pos : Pos} (h : OkT g n sc inner t e) : OkT g n sc inner t (.BoolOp .Or [e] pos) := by
  intro c env s m news am ρ σ C V S
  exact (h c env s m news am ρ σ C V S).of fun Q E h => isTrue_or (wpAny_mono h (fun b s' hb => by
    induction b with
    | true => exact hb
    | false => exact isTrue_or_nil hb) fun _ _ x => x)
theorem okT_or {t r : TD} {e e' : Expr} {es : List Expr} {pos : Pos} (h : OkT g n sc inner t e) (h' : OkT g n sc inner r (.BoolOp .Or (e' :: es) pos)) : OkT g n sc inner (tOr t r) (.BoolOp .Or (e :: e' :: es) pos) := by
  intro c env s m news am ρ σ C V S
  refine ((h c env s m news am ρ σ C V S).bind (f := fun b Q E s => if b then Q true s else wpAny (model g.prog g.w) c.A (isTrue (.BoolOp .Or (e' :: es) pos) env (eval (.BoolOp .Or (e' :: es) pos) env)) Q E s) (rel' := fun _ (b b' : Bool) => b = b') (k := fun v σ₁ => if v then .ok true σ₁ else r ρ σ₁) (fun v σ₁ u news₁ am₁ s₁ S₁ e₁ o₁ r₁ => ?_) fun b _ _ _ _ _ h p q => ?_).of fun Q E h => isTrue_or ?_
  · subst r₁
    induction v with
    | true => exact DenW.now S₁ fun Q hq E => hq _ _ s₁.toks S₁.F S₁.N rfl
    | false => exact h' c env s₁ m news₁ am₁ ρ σ₁ C V S₁
  · induction b with
    | true => exact p _ _ h
    | false => exact wpAny_mono h p q
  · exact h
theorem ok_if {t : TD} {a b : ED} {et ea eb : Expr} {pos : Pos} (h : OkT g n sc inner t et) (ha : OkE g n sc inner a ea) (hb : OkE g n sc inner b eb) : OkE g n sc inner (eIf t a b) (.IfExp et ea eb pos) := by
  intro c env s m news am ρ σ C V S
  refine ((h c env s m news am ρ σ C V S).bind (f := fun b Q E s => if b then wpAny (model g.prog g.w) c.A (eval ea env) Q E s else wpAny (model g.prog g.w) c.A (eval eb env) Q E s) (rel' := RelV) (k := fun v σ₁ => if v then a ρ σ₁ else b ρ σ₁) (fun v σ₁ u news₁ am₁ s₁ S₁ e₁ o₁ r₁ => ?_) fun b _ _ _ _ _ h p q => ?_).of fun Q E h => wpAny_IfExp h
  · subst r₁
    induction v with
    | true => exact ha c env s₁ m news₁ am₁ ρ σ₁ C V S₁
    | false => exact hb c env s₁ m news₁ am₁ ρ σ₁ C V S₁
  · cases b <;> exact wpAny_mono h p q
theorem ok_and {a b : ED} {ea eb : Expr} {pos : Pos} (ha : OkE g n sc inner a ea) (hb : OkE g n sc inner b eb) : OkE g n sc inner (eAnd a b) (.BoolOp .And [ea, eb] pos) := by
  intro c env s m news am ρ σ C V S
  refine ((ha c env s m news am ρ σ C V S).bind (f := fun v Q E s => wpAny (model g.prog g.w) c.A (truthy v) (fun t s₂ => if t then wpAny (model g.prog g.w) c.A (eval (.BoolOp .And [eb] pos) env) Q E s₂ else Q v s₂) E s) (rel' := RelV) (k := fun v σ₁ => match v with | .bool true => b ρ σ₁ | .bool false => .ok (.bool false) σ₁ | _ => .stuck) (fun v σ₁ u news₁ am₁ s₁ S₁ e₁ o₁ r₁ => ?_) fun v _ _ _ _ _ h p q => wpAny_mono h (fun t s h' => ?_) q).of fun Q E h => BoolOp_and h
  · induction v with
    | bool x =>
      obtain rfl : u = .bool x := r₁
      induction x with
      | true => exact DenW.of (hb c env s₁ m news₁ am₁ ρ σ₁ C V S₁) fun Q E h => wpAny_truthy_bool h
      | false => exact DenW.now S₁ fun Q hq E => wpAny_truthy_bool (hq _ _ s₁.toks S₁.F S₁.N rfl)
    | _ => trivial
  · induction t with
    | true => exact wpAny_mono h' p q
    | false => exact p _ _ h'
theorem okT_chain {a b d : ED} {ea eb ed : Expr} {pos : Pos} (ha : OkE g n sc inner a ea) (hb : OkE g n sc inner b eb) (hd : OkE g n sc inner d ed) (hm : lastMarks [.Lt, .Lt] [eb, ed] = false) : OkT g n sc inner (tChain a b d) (.Compare ea [.Lt, .Lt] [eb, ed] pos) := by
  intro c env s m news am ρ σ C V S
  refine ((ha c env s m news am ρ σ C V S).bind (f := fun u Q E s₁ => wpAny (model g.prog g.w) c.A (eval eb env) (fun v s₂ => wpAny (model g.prog g.w) c.A (compareOp .Lt u v) (fun r s₃ => wpAny (model g.prog g.w) c.A (truthy r) (fun t s₄ => if t then wpAny (model g.prog g.w) c.A (testChain pos v [.Lt] [eval ed env]) Q E s₄ else Q false s₄) E s₃) E s₂) E s₁)
      (rel' := fun _ (b b' : Bool) => b = b')
      (k := fun va σ₁ => (b ρ σ₁).bind fun vb σ₂ => match va, vb with | .int x, .int y => if x < y then (d ρ σ₂).bind fun vc σ₃ => match vc with | .int z => .ok (decide (y < z)) σ₃ | _ => .stuck else .ok false σ₂ | _, _ => .stuck)
      (fun x σ₁ u news₁ am₁ s₁ S₁ e₁ o₁ r₁ => ?_) fun _ _ _ _ _ _ h p q => wpAny_mono h (fun _ _ h' => wpAny_mono h' (fun _ _ h'' => wpAny_mono h'' (fun t s h3 => by induction t with | true => exact wpAny_mono h3 p q | false => exact p _ _ h3) q) q) q).of fun Q E h => isTrue_chain (wpAny_mono h (fun _ _ h' => test_link h') fun _ _ x => x) hm
  · refine (hb c env s₁ m news₁ am₁ ρ σ₁ C V S₁).bind (f := fun v Q E s₂ => wpAny (model g.prog g.w) c.A (compareOp .Lt u v) (fun r s₃ => wpAny (model g.prog g.w) c.A (truthy r) (fun t s₄ => if t then wpAny (model g.prog g.w) c.A (testChain pos v [.Lt] [eval ed env]) Q E s₄ else Q false s₄) E s₃) E s₂)
      (fun y σ₂ v news₂ am₂ s₂ S₂ e₂ o₂ r₂ => ?_) fun _ _ _ _ _ _ h p q => wpAny_mono h (fun _ _ h' => wpAny_mono h' (fun t s h3 => ?_) q) q
    · have r₁ := e₂.relV r₁
      induction x with
      | int i =>
        induction y with
        | int j =>
          obtain ⟨t, rfl⟩ := r₁; obtain ⟨t', rfl⟩ := r₂
          dsimp only
          by_cases hl : i < j
          · rw [if_pos hl]
            refine DenW.of ((hd c env s₂ m news₂ am₂ ρ σ₂ C V S₂).bind (f := fun w Q E s₂ => wpAny (model g.prog g.w) c.A (compareOp .Lt (.int j t') w) (fun r s₃ => wpAny (model g.prog g.w) c.A (truthy r) Q E s₃) E s₂) (rel' := fun _ (b b' : Bool) => b = b')
              (k := fun vc σ₃ => match vc with | .int z => .ok (decide (j < z)) σ₃ | _ => .stuck) (fun z σ₃ w news₃ am₃ s₃ S₃ e₃ o₃ r₃ => ?_) fun _ _ _ _ _ _ h p q => wpAny_mono h (fun _ _ h' => wpAny_mono h' p q) q) fun Q E h => ?_
            · induction z with
              | int z =>
                obtain ⟨t'', rfl⟩ := r₃
                exact DenW.now S₃ fun Q hq E => lt_int (wpAny_truthy_bool (hq _ _ s₃.toks S₃.F S₃.N rfl))
              | _ => trivial
            · refine lt_int (wpAny_truthy_bool ?_)
              rw [decide_eq_true hl]
              exact test_last h
          · rw [if_neg hl]
            exact DenW.now S₂ fun Q hq E => lt_int (wpAny_truthy_bool (by rw [decide_eq_false hl]; exact hq _ _ s₂.toks S₂.F S₂.N rfl))
        | _ => trivial
      | _ => trivial
    · induction t with
      | true => exact wpAny_mono h3 p q
      | false => exact p _ _ h3
end
section
variable {g : Gl} {n : Nat} {c : Act} {env : Env} {m : Str → Option Value} {news : List (Addr × Obj)} {am : AM} {ρ : MEnv} {σ : MH} {s : Shared}
theorem den_idx {x y : MV} {u v : Value} {value slice : Expr} (C : c.Ok g n) (S : Sim g c env m news am ρ σ s) (hx : RelV am x u) (hy : RelV am y v)
    (hs : ∀ o i, subscripted slice false o i = operate [o, i] (getItem o i)) : Den g c env m ρ RelV news am s (subscriptTail value slice u v) (mGet x y σ) := by
  induction y with
  | int k =>
    obtain ⟨t, rfl⟩ := hy
    induction x with
    | ref j =>
      unfold mGet; dsimp only
      split
      · rename_i xs h1
        split
        · rename_i z hz
          obtain ⟨a, vs, k', ha, rfl, hk, r⟩ := S.list C h1 hx
          cases hp : place? k xs.length with
          | none => rw [hp] at hz; cases hz
          | some i =>
            rw [hp] at hz
            obtain ⟨w, hw, hr⟩ := r.get hz
            have hl := isList_of hk
            refine DenW.now S fun Q h E => tail_any (s := s) hl.typeIs slot_list_getitem.lookup ?_ (hs _ _)
            have hq := h w s.heap s.toks S.F S.N hr
            unfold place? at hp
            split at hp
            · split at hp
              · cases hp
                rename_i h0 h1
                exact wpAny_getItem_list hl h0 (by lia) (by simpa using hw) hq
              · cases hp
            · split at hp
              · cases hp
                rename_i h0 h1
                obtain ⟨rfl, h2, h3⟩ := h1
                have hlen := r.length
                refine wpAny_getItem_list_neg hl (by lia) (by simp; lia) (by lia) ?_ hq
                rw [show (-1 + ((List.toArray vs).size : Int)).toNat = xs.length - 1 by rw [List.size_toArray, hlen, neg_one h2, Int.toNat_natCast]]
                simpa using hw
              · cases hp
        · trivial
      · rename_i xs h1
        split
        · rename_i z hz
          obtain ⟨a, vs, k', rfl, hk, r⟩ := S.tup C h1 hx
          cases hp : place? k xs.length with
          | none => rw [hp] at hz; cases hz
          | some i =>
            rw [hp] at hz
            obtain ⟨w, hw, hr⟩ := r.get hz
            obtain ⟨b1, b2, b3, b4⟩ := place_spec hp
            exact DenW.now S fun Q h E => item_tupleT (isTup_of hk) b1 b2 (by rw [r.length]; exact b3) hw (h w s.heap s.toks S.F S.N hr) (hs _ _)
        · trivial
      · trivial
    | str z =>
      obtain ⟨t', rfl⟩ := hx
      unfold mGet; dsimp only
      split
      · rename_i hl
        refine DenW.now S fun Q h E => item_str ?_ (by lia) hl.2.1 (fun _ => h _ _ _ S.F S.N ⟨_, rfl⟩) (hs _ _) (fun r => by cases value <;> rfl)
        unfold fitsSsize
        simp
        exact ⟨Int.le_trans (by decide) hl.1, Int.lt_trans hl.2.2 (by decide)⟩
      · trivial
    | _ => trivial
  | _ => cases x <;> trivial
theorem den_len {x : MV} {u : Value} (C : c.Ok g n) (S : Sim g c env m news am ρ σ s) (hx : RelV am x u) : Den g c env m ρ RelV news am s (call (.builtin "len") [u]) (fLen x σ) := by
  induction x with
  | ref i =>
    unfold fLen; dsimp only
    split
    · rename_i xs h1
      split
      · rename_i hl
        obtain ⟨a, vs, k', ha, rfl, hk, r⟩ := S.list C h1 hx
        have hl' : xs.length ≤ 1000000 := hl
        refine DenW.now S fun Q h E => len_list (isList_of hk) ?_ ?_
        · simp only [List.size_toArray]; rw [r.length]; lia
        · simp only [List.size_toArray]; rw [r.length]; exact h _ _ _ S.F S.N ⟨_, rfl⟩
      · trivial
    · rename_i xs h1
      split
      · rename_i hl
        obtain ⟨a, vs, k', rfl, hk, r⟩ := S.tup C h1 hx
        have hl' : xs.length ≤ 1000000 := hl
        refine DenW.now S fun Q h E => len_tuple (isTup_of hk) ?_ ?_
        · simp only [List.size_toArray]; rw [r.length]; lia
        · simp only [List.size_toArray]; rw [r.length]; exact h _ _ _ S.F S.N ⟨_, rfl⟩
      · trivial
    · trivial
  | _ => trivial
theorem den_max2 (hq : g.loud = false) {x y : MV} {u v : Value} (C : c.Ok g n) (S : Sim g c env m news am ρ σ s) (hx : RelV am x u) (hy : RelV am y v) : Den g c env m ρ RelV news am s (call (.builtin "max") [u, v]) (opMax2 x y σ) := by
  induction x with
  | int i =>
    induction y with
    | int j =>
      obtain ⟨t, rfl⟩ := hx; obtain ⟨t', rfl⟩ := hy
      exact DenW.now S fun Q h E => max_two_N (C.quiet hq) S.F S.N fun h' tk F N => h _ _ _ F N ⟨_, rfl⟩
    | _ => trivial
  | _ => trivial
theorem den_min2 (hq : g.loud = false) {x y : MV} {u v : Value} (C : c.Ok g n) (S : Sim g c env m news am ρ σ s) (hx : RelV am x u) (hy : RelV am y v) : Den g c env m ρ RelV news am s (call (.builtin "min") [u, v]) (opMin2 x y σ) := by
  induction x with
  | int i =>
    induction y with
    | int j =>
      obtain ⟨t, rfl⟩ := hx; obtain ⟨t', rfl⟩ := hy
      exact DenW.now S fun Q h E => min_two_N (C.quiet hq) S.F S.N fun h' tk F N => h _ _ _ F N ⟨_, rfl⟩
    | _ => trivial
  | _ => trivial
theorem digit_text : ∀ d : Nat, d < 10 → Str.ofString (toString (d : Int)) = digit (d : Int) := by decide +kernel
theorem digit_eq {i : Int} (h0 : 0 ≤ i) (h1 : i < 10) : Str.ofString (toString i) = digit i := by
  have := digit_text i.toNat (by lia)
  rwa [Int.toNat_of_nonneg h0] at this
theorem log2_small {k : Nat} (h : k < 10) : k.log2 < 1920 := Nat.lt_of_le_of_lt (Nat.log2_le_self k) (by lia)
theorem den_str {x : MV} {u : Value} (C : c.Ok g n) (S : Sim g c env m news am ρ σ s) (hx : RelV am x u) : Den g c env m ρ RelV news am s (call (.type "str") [u]) (fStr x σ) := by
  induction x with
  | int i =>
    obtain ⟨t, rfl⟩ := hx
    unfold fStr; dsimp only
    split
    · rename_i hl
      refine DenW.now S fun Q h E => P.str_of_int (log2_small (by lia)) ?_
      rw [digit_eq hl.1 hl.2]
      exact h _ _ _ S.F S.N ⟨_, rfl⟩
    · trivial
  | _ => trivial
theorem den_tuple {x : MV} {u : Value} (C : c.Ok g n) (S : Sim g c env m news am ρ σ s) (hx : RelV am x u) : Den g c env m ρ RelV news am s (call (.type "tuple") [u]) (fTuple x σ) := by
  induction x with
  | ref i =>
    unfold fTuple; dsimp only
    split
    · rename_i xs h1
      split
      · rename_i hl
        obtain ⟨a, vs, k', ha, rfl, hk, r⟩ := S.list C h1 hx
        refine DenW.makes C S fun Q h E => ?_
        refine call_tuple_list (isList_of hk) (fun h' hk' => ?_) (by simp only [List.size_toArray]; rw [r.length]; exact maxLen_le hl)
        have F' := S.F.keeps hk'
        have N' : News c.h₀ c.L h' news := fun p hp => ⟨hk' _ _ (S.N p hp).1, (S.N p hp).2⟩
        refine h _ _ [(_, _)] _ s.toks ?_ (F'.push _) (News.push F' N' _) (.head _) (makes_tup r)
        cases q : s.heap.get? h'.objs.size with
        | none => rfl
        | some o => exact absurd (Heap.lt_size (hk' _ _ q)) (Nat.lt_irrefl _)
      · trivial
    · trivial
  | _ => trivial
end
section
variable {g : Gl} {n : Nat} {sc : Scope} {inner : Bool}
theorem okL_nil : OkL g n sc inner lNil [] := by
  intro c env s m news am ρ σ pos C V S
  exact DenW.now S fun Q h E => spliced_nil (h _ _ s.toks S.F S.N trivial)
theorem okL_cons {a : ED} {l : LD} {e : Expr} {es : List Expr} (ha : OkE g n sc inner a e) (hl : OkL g n sc inner l es) (hst : ∀ env, starEach (e :: es) env = (false, eval e env) :: starEach es env) : OkL g n sc inner (lCons a l) (e :: es) := by
  intro c env s m news am ρ σ pos C V S
  refine ((ha c env s m news am ρ σ C V S).bind (f := fun v Q E s₁ => wpAny (model g.prog g.w) c.A (spliced (backTo pos (starEach es env))) (fun vs s₂ => Q (v :: vs) s₂) E s₁) (rel' := RelL) (k := fun v σ₁ => (l ρ σ₁).bind fun vs σ₂ => .ok (v :: vs) σ₂)
    (fun x σ₁ u news₁ am₁ s₁ S₁ e₁ o₁ r₁ => ?_) fun _ _ _ _ _ _ h p q => wpAny_mono h (fun _ _ h' => p _ _ h') q).of fun Q E h => spliced_more h (hst env)
  refine (hl c env s₁ m news₁ am₁ ρ σ₁ pos C V S₁).bind (f := fun vs Q E s₂ => Q (u :: vs) s₂) (fun xs σ₂ us news₂ am₂ s₂ S₂ e₂ o₂ r₂ => ?_) fun _ _ _ _ _ _ h p q => p _ _ h
  exact DenW.now S₂ fun Q h E => h _ _ s₂.toks S₂.F S₂.N ⟨e₂.relV r₁, r₂⟩
theorem ok_list {l : LD} {es : List Expr} {pos : Pos} (hl : OkL g n sc inner l es) : OkE g n sc inner (eList l) (.List es pos) := by
  intro c env s m news am ρ σ C V S
  refine ((hl c env s m news am ρ σ pos C V S).bind1 (f := newList) (rel' := RelV) (k := allocN .list) fun xs σ₁ us news₁ am₁ s₁ S₁ e₁ o₁ r₁ => ?_).of fun Q E h => List_ h
  unfold allocN
  split
  · rename_i hlen
    exact DenW.makes C S₁ fun Q h E => newList_N S₁.F S₁.N (fun h' F N => h _ _ [(_, _)] h' _ (get_size_none _) F N (.head _) (makes_list r₁)) (by rw [r₁.length]; exact maxLen_le hlen)
  · trivial
theorem ok_tup {l : LD} {es : List Expr} {k : Nat} {pos : Pos} (hl : OkL g n sc inner l es) : OkE g n sc inner (eTup l) (.Tuple es k pos) := by
  intro c env s m news am ρ σ C V S
  refine ((hl c env s m news am ρ σ pos C V S).bind1 (f := newTuple) (rel' := RelV) (k := allocN .tup) fun xs σ₁ us news₁ am₁ s₁ S₁ e₁ o₁ r₁ => ?_).of fun Q E h => Tuple_ h
  unfold allocN
  split
  · rename_i hlen
    exact DenW.makes C S₁ fun Q h E => newTuple_N S₁.F S₁.N (fun h' F N => h _ _ [(_, _)] h' _ (get_size_none _) F N (.head _) (makes_tup r₁)) (by rw [r₁.length]; exact maxLen_le hlen)
  · trivial
theorem ok_idx {a b : ED} {ea eb : Expr} {pos : Pos} (ha : OkE g n sc inner a ea) (hb : OkE g n sc inner b eb) (hs : ∀ o i, subscripted eb false o i = operate [o, i] (PySem.getItem o i)) : OkE g n sc inner (eIdx a b) (.Subscript ea eb pos) := by
  intro c env s m news am ρ σ C V S
  refine ((ha c env s m news am ρ σ C V S).bind2 (fun x σ₁ u news₁ am₁ s₁ S₁ e₁ o₁ r₁ => hb c env s₁ m news₁ am₁ ρ σ₁ C V S₁) ?_).of fun Q E h => Subscript_ h
  exact fun x u y v σ₂ news₁ am₁ news₂ am₂ s₂ S₂ e₂ r₁ r₂ => den_idx C S₂ (e₂.relV r₁) r₂ hs
noncomputable def NameIs (g : Gl) (n : Nat) (sc : Scope) (inner : Bool) (x : Str) (fv : Value) : Prop :=
  ∀ (c : Act) (env : Env) (s : Shared) (m : Str → Option Value) (news : List (Addr × Obj)) (am : AM) (ρ : MEnv) (σ : MH) (pos : Pos) (Q : Value → Shared → Prop) (E : Value → Shared → Prop),
    c.Ok g n → EnvOk c sc inner env → Sim g c env m news am ρ σ s → Q fv s → wpAny (model g.prog g.w) c.A (eval (.Name x pos) env) Q E s
theorem name_builtin {x : Str} {fv : Value} (hx : sc.names.lookup x = some .globalImplicit) (hK : nsIn g.K mainGlobals x = some none) (hb : bootBuiltins x = some fv) (hn : x ≠ "__name__") (hd : (x == ("__debug__" : Str)) = false) : NameIs g n sc inner x fv := by
  intro c env s m news am ρ σ pos Q E C V S h
  have hk : env.scope.kind = .function := by rw [V.scope]; exact V.kind
  refine Name_function_global hk (by show List.lookup x env.scope.names = _; rw [V.scope]; exact hx) ?_ hd
  exact loadGlobal_builtin (by rw [V.glob]; exact C.top.g.keeps S.F.keep) (mg_none_of C.inK C.top.g hK) (by rw [V.blt]; exact C.top.b.keeps S.F.keep) ((C.top.builtins x hn).trans hb) h
theorem name_top {x : Str} {fv : Value} (hx : sc.names.lookup x = some .globalImplicit) (hK : nsIn g.K mainGlobals x = some (some fv)) (hd : (x == ("__debug__" : Str)) = false) : NameIs g n sc inner x fv := by
  intro c env s m news am ρ σ pos Q E C V S h
  have hk : env.scope.kind = .function := by rw [V.scope]; exact V.kind
  refine Name_function_global hk (by show List.lookup x env.scope.names = _; rw [V.scope]; exact hx) ?_ hd
  exact loadGlobal_global (by rw [V.glob]; exact C.top.g.keeps S.F.keep) (mg_of C.inK C.top.g hK) h
noncomputable def Does (g : Gl) (n : Nat) (fv : Value) (f : List MV → MH → R MV) : Prop :=
  ∀ (c : Act) (env : Env) (s : Shared) (m : Str → Option Value) (news : List (Addr × Obj)) (am : AM) (ρ : MEnv) (σ : MH) (xs : List MV) (us : List Value),
    c.Ok g n → Sim g c env m news am ρ σ s → RelL am xs us → Den g c env m ρ RelV news am s (call fv us) (f xs σ)
theorem ok_call_builtin {x : Str} {id : String} {f : List MV → MH → R MV} {l : LD} {e : Expr} {es : List Expr} {pos xp : Pos} (hx : NameIs g n sc inner x (.builtin id)) (hl : OkL g n sc inner l (e :: es)) (hf : Does g n (.builtin id) f)
    (h1 : ∀ env, starEach (e :: es) env = (false, eval e env) :: starEach es env) (h2 : ∀ env, (backTo pos (starEach es env)).any (·.1) = false)
    (h3 : ∀ env, eval (.Call (.Name x xp) (e :: es) [] pos) env = (do callWith pos (← eval (.Name x xp) env) [] (backTo pos (starEach (e :: es) env)) (backToKw pos (keywordEach [] env)))) : OkE g n sc inner (eCall f l) (.Call (.Name x xp) (e :: es) [] pos) := by
  intro c env s m news am ρ σ C V S
  refine ((hl c env s m news am ρ σ pos C V S).bind1 (f := fun us => call (.builtin id) us) (rel' := RelV) (k := f) fun xs σ₁ us news₁ am₁ s₁ S₁ e₁ o₁ r₁ => ?_).of fun Q E h => ?_
  · exact hf c env s₁ m news₁ am₁ ρ σ₁ xs us C S₁ r₁
  · exact Call_ (hx c env s m news am ρ σ xp _ E C V S (PyProof.Rows.callWith_builtin1 h (h1 env) (h2 env))) (h3 env)
theorem ok_call_type {x : Str} {T : String} {f : List MV → MH → R MV} {l : LD} {e : Expr} {es : List Expr} {pos xp : Pos} (hx : NameIs g n sc inner x (.type T)) (hl : OkL g n sc inner l (e :: es)) (hf : Does g n (.type T) f)
    (h1 : ∀ env, starEach (e :: es) env = (false, eval e env) :: starEach es env) (h2 : ∀ env, (backTo pos (starEach es env)).any (·.1) = false)
    (h3 : ∀ env, eval (.Call (.Name x xp) (e :: es) [] pos) env = (do callWith pos (← eval (.Name x xp) env) [] (backTo pos (starEach (e :: es) env)) (backToKw pos (keywordEach [] env)))) : OkE g n sc inner (eCall f l) (.Call (.Name x xp) (e :: es) [] pos) := by
  intro c env s m news am ρ σ C V S
  refine ((hl c env s m news am ρ σ pos C V S).bind1 (f := fun us => call (.type T) us) (rel' := RelV) (k := f) fun xs σ₁ us news₁ am₁ s₁ S₁ e₁ o₁ r₁ => ?_).of fun Q E h => ?_
  · exact hf c env s₁ m news₁ am₁ ρ σ₁ xs us C S₁ r₁
  · exact Call_ (hx c env s m news am ρ σ xp _ E C V S (PyProof.Rows.callWith_type1 h (h1 env) (h2 env))) (h3 env)
noncomputable def on1 (f : MV → MH → R MV) (xs : List MV) (σ : MH) : R MV := match xs with
  | [x] => f x σ
  | _ => .stuck
noncomputable def on2 (f : MV → MV → MH → R MV) (xs : List MV) (σ : MH) : R MV := match xs with
  | [x, y] => f x y σ
  | _ => .stuck
theorem eUn_call (f : MV → MH → R MV) (a : ED) : eUn f a = eCall (on1 f) (lCons a lNil) := by
  funext ρ σ
  unfold eUn eCall lCons lNil
  cases a ρ σ <;> rfl
theorem eBin_call (f : MV → MV → MH → R MV) (a b : ED) : eBin f a b = eCall (on2 f) (lCons a (lCons b lNil)) := by
  funext ρ σ
  unfold eBin eCall lCons lNil
  cases a ρ σ with
  | ok x σ₁ => show (b ρ σ₁).bind _ = ((b ρ σ₁).bind _ |>.bind _).bind _; cases b ρ σ₁ <;> rfl
  | _ => rfl
theorem does1 {fv : Value} {f : MV → MH → R MV} (h : ∀ (c : Act) (env : Env) (s : Shared) (m : Str → Option Value) (news : List (Addr × Obj)) (am : AM) (ρ : MEnv) (σ : MH) (x : MV) (u : Value), c.Ok g n → Sim g c env m news am ρ σ s → RelV am x u → Den g c env m ρ RelV news am s (call fv [u]) (f x σ)) : Does g n fv (on1 f) := by
  intro c env s m news am ρ σ xs us C S r
  induction xs with
  | nil => trivial
  | cons x xs =>
    induction xs with
    | cons _ _ => trivial
    | nil =>
      induction us with
      | nil => exact r.elim
      | cons u us =>
        induction us with
        | cons _ _ => exact r.2.elim
        | nil => exact h c env s m news am ρ σ x u C S r.1
theorem does2 {fv : Value} {f : MV → MV → MH → R MV} (h : ∀ (c : Act) (env : Env) (s : Shared) (m : Str → Option Value) (news : List (Addr × Obj)) (am : AM) (ρ : MEnv) (σ : MH) (x y : MV) (u v : Value), c.Ok g n → Sim g c env m news am ρ σ s → RelV am x u → RelV am y v → Den g c env m ρ RelV news am s (call fv [u, v]) (f x y σ)) : Does g n fv (on2 f) := by
  intro c env s m news am ρ σ xs us C S r
  induction xs with
  | nil => trivial
  | cons x xs =>
    induction xs with
    | nil => trivial
    | cons y ys =>
      induction ys with
      | cons _ _ => trivial
      | nil =>
        induction us with
        | nil => exact r.elim
        | cons u us =>
          induction us with
          | nil => exact r.2.elim
          | cons v vs =>
            induction vs with
            | cons _ _ => exact r.2.2.elim
            | nil => exact h c env s m news am ρ σ x y u v C S r.1 r.2.1
theorem does_len : Does g n (.builtin "len") (on1 fLen) := does1 fun c env s m news am ρ σ x u C S h => den_len C S h
theorem does_max2 (hq : g.loud = false := by rfl) : Does g n (.builtin "max") (on2 opMax2) := does2 fun c env s m news am ρ σ x y u v C S h h' => den_max2 hq C S h h'
theorem does_min2 (hq : g.loud = false := by rfl) : Does g n (.builtin "min") (on2 opMin2) := does2 fun c env s m news am ρ σ x y u v C S h h' => den_min2 hq C S h h'
theorem does_str : Does g n (.type "str") (on1 fStr) := does1 fun c env s m news am ρ σ x u C S h => den_str C S h
theorem does_tuple : Does g n (.type "tuple") (on1 fTuple) := does1 fun c env s m news am ρ σ x u C S h => den_tuple C S h
end
section
variable {g : Gl} {n : Nat} {c : Act} {env : Env} {m : Str → Option Value} {news : List (Addr × Obj)} {am : AM} {ρ : MEnv} {σ : MH} {s : Shared}
theorem NameAt.swap {env : Env} {L : Addr} {m : Str → Option Value} {news news' : List (Addr × Obj)} {x : Str} {v : Value} (h : NameAt env L m news x v)
    (hs : ∀ p ∈ news, (∃ es ep, p.1 = env.locals ∧ p.2.data = .dict es ep) ∨ (∃ v, p.2.data = .cell v) → p ∈ news') : NameAt env L m news' x v := by
  rcases h with ⟨k, h | ⟨o, es, ep, hm, hd, r⟩⟩ | ⟨k, cc, o, hc, hm, r⟩
  · exact .inl ⟨k, .inl h⟩
  · exact .inl ⟨k, .inr ⟨o, es, ep, hs _ hm (.inl ⟨es, ep, rfl, hd⟩), hd, r⟩⟩
  · exact .inr ⟨k, cc, o, hc, hs _ hm (.inr ⟨_, r⟩), r⟩
theorem Sim.update (C : c.Ok g n) (S : Sim g c env m news am ρ σ s) {i : Nat} {xs ys : List MV} {a : Addr} {vs : List Value} {k : Nat} {us : List Value} {k' : Nat} {h' : Heap} {tk : Nat}
    (h : σ[i]? = some (.list xs)) (hi : i ≠ 0) (ha : am[i]? = some (a, a)) (hk : s.heap.get? a = some (listOf (List.toArray vs) k))
    (hs : Heap.SameBut a s.heap h') (hg : h'.get? a = some (listOf (List.toArray us) k')) (r : RelL am ys us) :
    ∃ news', Sim g c env m news' am ρ (σ.set i (.list ys)) { s with heap := h', toks := tk } ∧ Evolve [] news am news' am := by
  refine box fun G0 k0 => ?_
  obtain ⟨b, ob, hb, hkn, hob⟩ := S.H.obj i _ h
  obtain rfl : (a, a) = b := Option.some.inj (ha.symm.trans hb)
  refine k0 ?_
  clear k0 G0
  have hmem : (a, ob) ∈ news := by
    rcases hkn with hkn | ⟨h0, _⟩
    · exact hkn
    · exact absurd h0 hi
  have hN := S.N _ hmem
  have hmf : ∀ p ∈ news, p.1 ≠ a → p ∈ (a, listOf (List.toArray us) k') :: news.filter (fun p => decide (p.1 ≠ a)) := fun p hp hne => .tail _ (List.mem_filter.mpr ⟨hp, by simpa using hne⟩)
  have il : i < σ.length := by
    rcases Nat.lt_or_ge i σ.length with h' | h'
    · exact h'
    · rw [List.getElem?_eq_none h'] at h; cases h
  refine ⟨(a, listOf (List.toArray us) k') :: news.filter (fun p => decide (p.1 ≠ a)), ⟨S.F.change hs hN.2.1 hN.2.2, ?_, ⟨?_, S.H.ok, ?_⟩, ?_, ?_, ?_⟩, ⟨⟨[], (List.append_nil _).symm⟩, fun p hp hn => ⟨p.2, hmf p hp fun e => hn ⟨i, _, ha, .inl e.symm⟩, fun _ => rfl⟩, fun j q hj e => by rw [List.getElem?_eq_none hj] at e; cases e⟩⟩
  · intro p hp
    rcases List.mem_cons.mp hp with rfl | hp
    · exact ⟨hg, hN.2⟩
    · obtain ⟨h1, h2⟩ := List.mem_filter.mp hp
      have hne : p.1 ≠ a := by simpa using h2
      exact ⟨(hs.2 p.1 hne).trans (S.N p h1).1, (S.N p h1).2⟩
  · rw [List.length_set]; exact S.H.len
  · intro j o hj
    by_cases hij : i = j
    · subst hij
      rw [List.getElem?_set_self il] at hj
      cases hj
      exact ⟨(a, a), _, ha, .inl (.head _), us, k', rfl, r, rfl⟩
    · rw [List.getElem?_set_ne hij] at hj
      refine box fun G0 k0 => ?_
      obtain ⟨q, oq, hq, hkq, hoq⟩ := S.H.obj j o hj
      obtain ⟨u1, u2, u3, u4⟩ := S.H.ok i j _ q ha hq hij
      refine k0 ?_
      clear k0 G0
      refine ⟨q, oq, hq, hkq.imp (fun h => hmf _ h (Ne.symm u1)) id, ?_⟩
      induction o with
      | list _ => exact hoq
      | tup _ => exact hoq
      | inst as =>
        refine box fun G0 k0 => ?_
        obtain ⟨es, kk, e, hm, ra⟩ := hoq
        refine k0 ?_
        clear k0 G0
        exact ⟨es, kk, e, hmf _ hm (Ne.symm u2), ra⟩
  · intro x mv hx
    refine box fun G0 k0 => ?_
    obtain ⟨v, hv, hn⟩ := S.V x mv hx
    refine k0 ?_
    clear k0 G0
    refine ⟨v, hv, hn.swap fun p hp hd => hmf p hp fun e => ?_⟩
    have h1 := (S.N p hp).1
    rw [e, hk] at h1
    have h2 : listOf (List.toArray vs) k = p.2 := Option.some.inj h1
    rcases hd with ⟨es, ep, _, hd⟩ | ⟨v, hd⟩
    · rw [← h2] at hd; cases hd
    · rw [← h2] at hd; cases hd
  · intro x cc hx
    refine box fun G0 k0 => ?_
    obtain ⟨o, v, hm, hd⟩ := S.Ce x cc hx
    refine k0 ?_
    clear k0 G0
    refine ⟨o, v, hmf _ hm fun e => ?_, hd⟩
    have h1 := (S.N _ hm).1
    dsimp only at e h1
    rw [e, hk] at h1
    cases h1
    cases hd
  · exact S.Ap.imp id fun ⟨⟨o, hm⟩, hn⟩ => ⟨⟨o, hmf _ hm fun e => hn ⟨i, _, ha, .inl e.symm⟩⟩, hn⟩
theorem set_toArray (vs : List Value) (k : Nat) (v : Value) : (List.toArray vs).setIfInBounds k v = List.toArray (vs.set k v) := by
  apply Array.toList_inj.mp
  simp
theorem erase_last : ∀ {vs : List Value}, (List.toArray vs).eraseIdxIfInBounds ((List.toArray vs).size - 1) = List.toArray vs.dropLast := by
  intro vs
  apply Array.toList_inj.mp
  simp only [List.size_toArray]
  induction vs with
  | nil => rfl
  | cons v vs =>
    rw [Array.eraseIdxIfInBounds]
    split
    · rw [Array.toList_eraseIdx]
      show (v :: vs).eraseIdx _ = (v :: vs).dropLast
      rw [List.eraseIdx_eq_take_drop_succ, List.dropLast_eq_take]
      simp
    · rename_i h; simp at h
theorem den_pop {x : MV} {u : Value} (C : c.Ok g n) (S : Sim g c env m news am ρ σ s) (hx : RelV am x u) : Den g c env m ρ RelV news am s (call (.builtin "list.pop") [u]) (opPop x σ) := by
  induction x with
  | ref i =>
    unfold opPop; dsimp only
    split
    · rename_i xs h1
      split
      · rename_i _ w0 k0 hl
        refine box fun G0 k0 => ?_
        obtain ⟨a, vs, k', ha, rfl, hk, r⟩ := S.list C h1 hx
        have hne : xs ≠ [] := by intro e; rw [e] at hl; cases hl
        have hx' : xs[xs.length - 1]? = some w0 := by rw [← List.getLast?_eq_getElem?]; exact hl
        obtain ⟨w, hw, hr⟩ := r.get hx'
        refine k0 ?_
        clear k0 G0
        have hlen := r.length
        have hy : (List.toArray vs)[(List.toArray vs).size - 1]? = some w := by simp only [List.size_toArray]; rw [hlen]; simpa using hw
        split
        · rename_i hsz
          intro E
          refine call_meets F.slot_list_pop ⟨_, hk, rfl⟩ F.entry_list_pop (F.args_list_pop_1 _) (MeetsSeq.list_pop_last a (List.toArray vs) k' w hy (by simp only [List.size_toArray]; rw [hlen]; exact maxLen_le hsz)) ⟨hk, ?_⟩
          have hu := PySem.IsL.update (h := s.heap) (l := a) hk (fun xs => xs.eraseIdxIfInBounds ((List.toArray vs).size - 1))
          rw [erase_last] at hu
          refine box fun G0 k0 => ?_
          obtain ⟨news', S', e'⟩ := S.update C (tk := s.toks) (ys := xs.dropLast) h1 (Nat.succ_ne_zero _) ha hk (Heap.SameBut.update ..) hu r.dropLast
          refine k0 ?_
          clear k0 G0
          exact ⟨news', am, S', e', ⟨_, _, rfl⟩, hr⟩
        · trivial
      · trivial
    · trivial
  | _ => trivial
theorem intsAre_of {am : AM} : ∀ {xs : List MV} {vs : List Value} {ns : List Int}, RelL am xs vs → ints? xs = some ns → IntsAre vs ns
  | [], [], ns, _, e => by cases e; exact .nil
  | .int i :: xs, v :: vs, ns, ⟨r, rs⟩, e => by
    obtain ⟨t, rfl⟩ := r
    cases h : ints? xs with
    | none => simp [ints?, h] at e
    | some ns' =>
      simp [ints?, h] at e
      subst e
      exact .cons i t (intsAre_of rs h)
  | .none :: xs, v :: vs, ns, _, e => by simp [ints?] at e
  | .bool _ :: xs, v :: vs, ns, _, e => by simp [ints?] at e
  | .str _ :: xs, v :: vs, ns, _, e => by simp [ints?] at e
  | .ref _ :: xs, v :: vs, ns, _, e => by simp [ints?] at e
theorem strsAre_of {am : AM} : ∀ {xs : List MV} {vs : List Value} {ns : List Str}, RelL am xs vs → strs? xs = some ns → StrsAre vs ns
  | [], [], ns, _, e => by cases e; exact .nil
  | .str i :: xs, v :: vs, ns, ⟨r, rs⟩, e => by
    obtain ⟨t, rfl⟩ := r
    cases h : strs? xs with
    | none => simp [strs?, h] at e
    | some ns' =>
      simp [strs?, h] at e
      subst e
      exact .cons i t (strsAre_of rs h)
  | .none :: xs, v :: vs, ns, _, e => by simp [strs?] at e
  | .bool _ :: xs, v :: vs, ns, _, e => by simp [strs?] at e
  | .int _ :: xs, v :: vs, ns, _, e => by simp [strs?] at e
  | .ref _ :: xs, v :: vs, ns, _, e => by simp [strs?] at e
theorem maxI_snoc (y : Int) : ∀ (l : List Int) (m : Int), maxI m (l ++ [y]) = if y > maxI m l then y else maxI m l
  | [], m => rfl
  | x :: l, m => maxI_snoc y l _
theorem minI_snoc (y : Int) : ∀ (l : List Int) (m : Int), minI m (l ++ [y]) = if y < minI m l then y else minI m l
  | [], m => rfl
  | x :: l, m => minI_snoc y l _
theorem best_max (x : Int) (r : List Int) : ∀ k, k ≤ r.length → (x :: r).getD (argBest (fun i j => decide ((x :: r).getD j 0 < (x :: r).getD i 0)) k) 0 = maxI x (r.take k)
  | 0, _ => rfl
  | k + 1, h => by
    have ih := best_max x r k (by lia)
    have hk : k < r.length := by lia
    rw [List.take_succ_eq_append_getElem hk, maxI_snoc, ← ih]
    have e : (x :: r).getD (k + 1) 0 = r[k] := by simp [hk]
    show (x :: r).getD (if decide ((x :: r).getD (argBest _ k) 0 < (x :: r).getD (k + 1) 0) = true then k + 1 else argBest _ k) 0 = _
    rw [e]
    by_cases hc : (x :: r).getD (argBest (fun i j => decide ((x :: r).getD j 0 < (x :: r).getD i 0)) k) 0 < r[k]
    · rw [if_pos (by simpa using hc), if_pos hc, e]
    · rw [if_neg (by simpa using hc), if_neg hc]
theorem best_min (x : Int) (r : List Int) : ∀ k, k ≤ r.length → (x :: r).getD (argBest (fun i j => decide ((x :: r).getD i 0 < (x :: r).getD j 0)) k) 0 = minI x (r.take k)
  | 0, _ => rfl
  | k + 1, h => by
    have ih := best_min x r k (by lia)
    have hk : k < r.length := by lia
    rw [List.take_succ_eq_append_getElem hk, minI_snoc, ← ih]
    have e : (x :: r).getD (k + 1) 0 = r[k] := by simp [hk]
    show (x :: r).getD (if decide ((x :: r).getD (k + 1) 0 < (x :: r).getD (argBest _ k) 0) = true then k + 1 else argBest _ k) 0 = _
    rw [e]
    by_cases hc : r[k] < (x :: r).getD (argBest (fun i j => decide ((x :: r).getD i 0 < (x :: r).getD j 0)) k) 0
    · rw [if_pos (by simpa using hc), if_pos hc, e]
    · rw [if_neg (by simpa using hc), if_neg hc]
theorem kept_of {h h' : Heap} {o : Obj} (hk : ∀ b ob, b ∉ [h.objs.size] → (h.push o).get? b = some ob → h'.get? b = some ob) : ∀ b ob, h.get? b = some ob → h'.get? b = some ob := fun b ob e =>
  hk b ob (fun hm => by have := Heap.lt_size e; rw [List.mem_singleton.mp hm] at this; exact Nat.lt_irrefl _ this) (Heap.get?_push_of_some _ e)
theorem intsAre_at {vs : List Value} {ns : List Int} (h : IntsAre vs ns) {i : Nat} {v : Value} (e : (List.toArray vs)[i]? = some v) : i < ns.length ∧ ∃ t, v = .int (ns.getD i 0) t := by
  have e' : vs[i]? = some v := by simpa using e
  have hl : i < ns.length := by
    rw [← h.length]
    rcases Nat.lt_or_ge i vs.length with h' | h'
    · exact h'
    · rw [List.getElem?_eq_none h'] at e'; cases e'
  obtain ⟨t, ht⟩ := h.get i ns[i] (by simp [hl])
  refine ⟨hl, t, ?_⟩
  rw [ht] at e'
  cases e'
  simp [hl]
theorem den_max (hq : g.loud = false) {x : MV} {u : Value} (C : c.Ok g n) (S : Sim g c env m news am ρ σ s) (hx : RelV am x u) : Den g c env m ρ RelV news am s (call (.builtin "max") [u]) (fMax x σ) := by
  induction x with
  | ref i =>
    unfold fMax overInts; dsimp only
    split
    · rename_i xs h1
      split
      · rename_i r hr
        split
        · rename_i hl
          refine box fun G0 k0 => ?_
          obtain ⟨a, vs, k', ha, rfl, hk, rl⟩ := S.list C h1 hx
          refine k0 ?_
          clear k0 G0
          cases hi : ints? xs with
          | none => rw [hi] at hr; cases hr
          | some ns =>
            rw [hi] at hr
            induction ns with
            | nil => cases hr
            | cons y ys =>
              cases hr
              have I := intsAre_of rl hi
              have hne : a ≠ s.heap.objs.size := Nat.ne_of_lt (Heap.lt_size hk)
              refine DenW.now S fun Q h E => call_max_walk (wpAny_pyIter_list (isList_of hk) ?_)
              refine ⟨_, _, _, _, _, _, fun i j => decide ((y :: ys).getD j 0 < (y :: ys).getD i 0), rfl, Walks.list (A := c.A.in1) (C.quiet hq) s.heap.objs.size a hne (List.toArray vs), ⟨⟨_, Heap.get?_push_size _ rfl, rfl, rfl⟩, (isList_of hk).push _⟩, ?_, ?_, ?_, ?_⟩
              · intro b hb
                rw [Heap.size_push]
                rcases List.mem_cons.mp hb with rfl | hb
                · exact Nat.lt_succ_self _
                · rw [List.mem_singleton.mp hb]; exact Nat.lt_succ_of_lt (Heap.lt_size hk)
              · simp only [List.size_toArray]; rw [I.length]; exact Nat.zero_lt_succ _
              · intro i j vi vj s' Q' E' hi' hj' hq
                refine box fun G0 k0 => ?_
                obtain ⟨_, t, rfl⟩ := intsAre_at I hi'
                obtain ⟨_, t', rfl⟩ := intsAre_at I hj'
                refine k0 ?_
                clear k0 G0
                exact gt_int hq
              · intro v h' tk hP hkeep
                refine box fun G0 k0 => ?_
                obtain ⟨_, t, rfl⟩ := intsAre_at I hP
                refine k0 ?_
                clear k0 G0
                have hb := best_max y ys ys.length (Nat.le_refl _)
                rw [List.take_length] at hb
                have e : (List.toArray vs).size - 1 = ys.length := by simp only [List.size_toArray]; rw [I.length]; simp
                have kk := kept_of hkeep
                have := h (.int (maxI y ys) t) h' tk (S.F.keeps kk) (fun p hp => ⟨kk _ _ (S.N p hp).1, (S.N p hp).2⟩) ⟨_, rfl⟩
                rw [e, hb]
                exact this
        · trivial
      · trivial
    · trivial
  | _ => trivial
theorem den_min (hq : g.loud = false) {x : MV} {u : Value} (C : c.Ok g n) (S : Sim g c env m news am ρ σ s) (hx : RelV am x u) : Den g c env m ρ RelV news am s (call (.builtin "min") [u]) (fMin x σ) := by
  induction x with
  | ref i =>
    unfold fMin overInts; dsimp only
    split
    · rename_i xs h1
      split
      · rename_i r hr
        split
        · rename_i hl
          refine box fun G0 k0 => ?_
          obtain ⟨a, vs, k', ha, rfl, hk, rl⟩ := S.list C h1 hx
          refine k0 ?_
          clear k0 G0
          cases hi : ints? xs with
          | none => rw [hi] at hr; cases hr
          | some ns =>
            rw [hi] at hr
            induction ns with
            | nil => cases hr
            | cons y ys =>
              cases hr
              have I := intsAre_of rl hi
              have hne : a ≠ s.heap.objs.size := Nat.ne_of_lt (Heap.lt_size hk)
              refine DenW.now S fun Q h E => call_min_walk (wpAny_pyIter_list (isList_of hk) ?_)
              refine ⟨_, _, _, _, _, _, fun i j => decide ((y :: ys).getD i 0 < (y :: ys).getD j 0), rfl, Walks.list (A := c.A.in1) (C.quiet hq) s.heap.objs.size a hne (List.toArray vs), ⟨⟨_, Heap.get?_push_size _ rfl, rfl, rfl⟩, (isList_of hk).push _⟩, ?_, ?_, ?_, ?_⟩
              · intro b hb
                rw [Heap.size_push]
                rcases List.mem_cons.mp hb with rfl | hb
                · exact Nat.lt_succ_self _
                · rw [List.mem_singleton.mp hb]; exact Nat.lt_succ_of_lt (Heap.lt_size hk)
              · simp only [List.size_toArray]; rw [I.length]; exact Nat.zero_lt_succ _
              · intro i j vi vj s' Q' E' hi' hj' hq
                refine box fun G0 k0 => ?_
                obtain ⟨_, t, rfl⟩ := intsAre_at I hi'
                obtain ⟨_, t', rfl⟩ := intsAre_at I hj'
                refine k0 ?_
                clear k0 G0
                exact lt_int hq
              · intro v h' tk hP hkeep
                refine box fun G0 k0 => ?_
                obtain ⟨_, t, rfl⟩ := intsAre_at I hP
                refine k0 ?_
                clear k0 G0
                have hb := best_min y ys ys.length (Nat.le_refl _)
                rw [List.take_length] at hb
                have e : (List.toArray vs).size - 1 = ys.length := by simp only [List.size_toArray]; rw [I.length]; simp
                have kk := kept_of hkeep
                have := h (.int (minI y ys) t) h' tk (S.F.keeps kk) (fun p hp => ⟨kk _ _ (S.N p hp).1, (S.N p hp).2⟩) ⟨_, rfl⟩
                rw [e, hb]
                exact this
        · trivial
      · trivial
    · trivial
  | _ => trivial
theorem preSum_eq (ns : List Int) : ∀ k, k ≤ ns.length → preSum (fun i => ns.getD i 0) k = (ns.take k).sum
  | 0, _ => rfl
  | k + 1, h => by
    have hk : k < ns.length := by lia
    show preSum _ k + ns.getD k 0 = _
    rw [preSum_eq ns k (by lia), List.take_succ_eq_append_getElem hk, List.sum_append]
    simp [hk]
theorem den_sum (hq : g.loud = false) {x : MV} {u : Value} (C : c.Ok g n) (S : Sim g c env m news am ρ σ s) (hx : RelV am x u) : Den g c env m ρ RelV news am s (call (.builtin "sum") [u]) (fSum x σ) := by
  induction x with
  | ref i =>
    unfold fSum overInts; dsimp only
    split
    · rename_i xs h1
      split
      · rename_i r hr
        split
        · rename_i hl
          refine box fun G0 k0 => ?_
          obtain ⟨a, vs, k', ha, rfl, hk, rl⟩ := S.list C h1 hx
          refine k0 ?_
          clear k0 G0
          cases hi : ints? xs with
          | none => rw [hi] at hr; cases hr
          | some ns =>
            rw [hi] at hr
            cases hr
            have I := intsAre_of rl hi
            have hne : a ≠ s.heap.objs.size := Nat.ne_of_lt (Heap.lt_size hk)
            refine DenW.now S fun Q h E => call_sum_walkAnyS (wpAny_pyIter_list (isList_of hk) ?_)
            refine ⟨_, _, _, _, _, _, _, fun i => ns.getD i 0, rfl, (Walks.list (A := c.A.in1) (C.quiet hq) s.heap.objs.size a hne (List.toArray vs)).toS, ⟨⟨_, Heap.get?_push_size _ rfl, rfl, rfl⟩, (isList_of hk).push _⟩, ?_, ?_, ?_⟩
            · intro b hb
              rw [Heap.size_push]
              rcases List.mem_cons.mp hb with rfl | hb
              · exact Nat.lt_succ_self _
              · rw [List.mem_singleton.mp hb]; exact Nat.lt_succ_of_lt (Heap.lt_size hk)
            · intro i v hv
              refine box fun G0 k0 => ?_
              obtain ⟨_, t, rfl⟩ := intsAre_at I hv
              refine k0 ?_
              clear k0 G0
              exact ⟨t, rfl⟩
            · intro s' t' hm
              have kk := kept_of hm.heap
              have e : (List.toArray vs).size = ns.length := by simp only [List.size_toArray]; exact I.length
              rw [e, preSum_eq ns _ (Nat.le_refl _), List.take_length]
              have := h (.int ns.sum t') s'.heap s'.toks (S.F.keeps kk) (fun p hp => ⟨kk _ _ (S.N p hp).1, (S.N p hp).2⟩) ⟨_, rfl⟩
              have es : s' = { s with heap := s'.heap, toks := s'.toks } := by
                refine box fun G0 k0 => ?_
                obtain ⟨hh, gg, dd, tt, oo⟩ := s'
                refine k0 ?_
                clear k0 G0
                have h1 := hm.gens; have h2 := hm.drawn; have h3 := hm.os
                dsimp only at h1 h2 h3 ⊢
                rw [h1, h2, h3]
              rw [es]
              exact this
        · trivial
      · trivial
    · trivial
  | _ => trivial
theorem digitOf_spec {x : Str} {d : Int} (h : digitOf? x = some d) : 0 ≤ d ∧ d < 10 ∧ x = digit d := by
  unfold digitOf? at h
  refine box fun G0 k0 => ?_
  obtain ⟨k, hk, he⟩ := List.exists_of_findSome?_eq_some h
  refine k0 ?_
  clear k0 G0
  have hk := List.mem_range.mp hk
  split at he
  · cases he; rename_i e; exact ⟨by lia, by lia, e⟩
  · cases he
theorem den_int {x : MV} {u : Value} (C : c.Ok g n) (S : Sim g c env m news am ρ σ s) (hx : RelV am x u) : Den g c env m ρ RelV news am s (call (.type "int") [u]) (fInt x σ) := by
  induction x with
  | str y =>
    obtain ⟨t, rfl⟩ := hx
    unfold fInt; dsimp only
    split
    · rename_i d hd
      refine box fun G0 k0 => ?_
      obtain ⟨h0, h1, rfl⟩ := digitOf_spec hd
      refine k0 ?_
      clear k0 G0
      refine DenW.now S fun Q h E => ?_
      rw [← digit_eq h0 h1]
      exact KIN.call_num h0 (by lia) (h _ _ _ S.F S.N ⟨_, rfl⟩)
    · trivial
  | _ => trivial
theorem den_list {x : MV} {u : Value} (C : c.Ok g n) (S : Sim g c env m news am ρ σ s) (hx : RelV am x u) : Den g c env m ρ RelV news am s (call (.type "list") [u]) (fList x σ) := by
  induction x with
  | ref i =>
    unfold fList; dsimp only
    split
    · rename_i xs h1
      split
      · rename_i hl
        refine box fun G0 k0 => ?_
        obtain ⟨a, vs, k', ha, rfl, hk, r⟩ := S.list C h1 hx
        refine k0 ?_
        clear k0 G0
        refine DenW.makes C S fun Q h E => ?_
        refine call_list_seq a (.inl rfl) hk rfl rfl (fun h' c' hk' hD => ?_) (by simp only [List.size_toArray]; rw [r.length]; exact maxLen_le hl)
        refine h s.heap.objs.size (listOf (List.toArray vs) c') [(s.heap.objs.size, listOf (List.toArray vs) c')] h' s.toks (get_size_none _) (S.F.keeps hk') ?_ (.head _) (makes_list r)
        intro p hp
        rcases List.mem_append.mp hp with hp | hp
        · rw [List.mem_singleton.mp hp]
          refine ⟨hD, Nat.ne_of_gt S.F.ns.lt, ?_⟩
          cases q : c.h₀.get? s.heap.objs.size with
          | none => rfl
          | some o => exact absurd (Heap.lt_size (S.F.keep _ _ q)) (Nat.lt_irrefl _)
        · exact ⟨hk' _ _ (S.N p hp).1, (S.N p hp).2⟩
      · trivial
    · trivial
  | _ => trivial
end
section
variable {g : Gl} {n : Nat} {sc : Scope} {inner : Bool}
theorem does_max (hq : g.loud = false := by rfl) : Does g n (.builtin "max") (on1 fMax) := does1 fun c env s m news am ρ σ x u C S h => den_max hq C S h
theorem does_min (hq : g.loud = false := by rfl) : Does g n (.builtin "min") (on1 fMin) := does1 fun c env s m news am ρ σ x u C S h => den_min hq C S h
theorem does_sum (hq : g.loud = false := by rfl) : Does g n (.builtin "sum") (on1 fSum) := does1 fun c env s m news am ρ σ x u C S h => den_sum hq C S h
theorem does_int : Does g n (.type "int") (on1 fInt) := does1 fun c env s m news am ρ σ x u C S h => den_int C S h
theorem does_list : Does g n (.type "list") (on1 fList) := does1 fun c env s m news am ρ σ x u C S h => den_list C S h
theorem ok_meth {name : Str} {id : String} {f : Str → List MV → MH → R MV} {a : ED} {l : LD} {eo e : Expr} {es : List Expr} {apos pos : Pos} {pl : Env → Sem Bool} (ha : OkE g n sc inner a eo) (hl : OkL g n sc inner l (e :: es))
    (hg : ∀ (A : Around) (E : Value → Shared → Prop) (s : Shared) (x : Str) (t : Tok) (Q : Value × List Value → Shared → Prop) (pl : Sem Bool), Q (.builtin id, [.str x t]) s → wpAny (model g.prog g.w) A (getMethod (.str x t) name pl) Q E s)
    (hf : ∀ (c : Act) (env : Env) (s : Shared) (m : Str → Option Value) (news : List (Addr × Obj)) (am : AM) (ρ : MEnv) (σ : MH) (x : Str) (t : Tok) (ys : List MV) (us : List Value), c.Ok g n → Sim g c env m news am ρ σ s → RelL am ys us → Den g c env m ρ RelV news am s (call (.builtin id) (.str x t :: us)) (f x ys σ))
    (h1 : ∀ env, starEach (e :: es) env = (false, eval e env) :: starEach es env) (h2 : ∀ env, (backTo pos (starEach es env)).any (·.1) = false)
    (h3 : ∀ env, eval (.Call (.Attribute eo name apos) (e :: es) [] pos) env = (do
          let ov ← eval eo env
          standAt apos.atName
          let (f, first) ← holding [ov] (getMethod ov name (pl env))
          callWith pos f first (backTo pos (starEach (e :: es) env)) [])) : OkE g n sc inner (eMeth f a l) (.Call (.Attribute eo name apos) (e :: es) [] pos) := by
  intro c env s m news am ρ σ C V S
  refine ((ha c env s m news am ρ σ C V S).bind (f := fun u Q E s₁ => wpAny (model g.prog g.w) c.A (getMethod u name (pl env)) (fun fx s₂ => wpAny (model g.prog g.w) c.A (callWith pos fx.1 fx.2 (backTo pos (starEach (e :: es) env)) []) Q E s₂) E s₁) (rel' := RelV)
    (k := fun va σ₁ => match va with | .str x => (l ρ σ₁).bind fun vs σ₂ => f x vs σ₂ | _ => .stuck) (fun x σ₁ u news₁ am₁ s₁ S₁ e₁ o₁ r₁ => ?_) fun _ _ _ _ _ _ h p q => wpAny_mono h (fun _ _ h' => wpAny_mono h' p q) q).of fun Q E h => MethodCall_ h (h3 env)
  induction x with
  | str x =>
    obtain ⟨t, rfl⟩ := r₁
    refine ((hl c env s₁ m news₁ am₁ ρ σ₁ pos C V S₁).bind1 (f := fun us => call (.builtin id) (.str x t :: us)) (rel' := RelV) (k := fun vs σ₂ => f x vs σ₂) fun ys σ₂ us news₂ am₂ s₂ S₂ e₂ o₂ r₂ => ?_).of fun Q E h => hg _ _ _ _ _ _ _ (callWith_method1 h (h1 env) (h2 env))
    exact hf c env s₂ m news₂ am₂ ρ σ₂ x t ys us C S₂ r₂
  | _ => trivial
theorem relL_one {am : AM} {ys : List MV} {us : List Value} {y : MV} (r : RelL am ys us) (e : ys = [y]) : ∃ u, us = [u] ∧ RelV am y u := by
  subst e
  induction us with
  | nil => exact r.elim
  | cons u us => induction us with
    | nil => exact ⟨u, rfl, r.1⟩
    | cons _ _ => exact r.2.elim
theorem relL_two {am : AM} {ys : List MV} {us : List Value} {y z : MV} (r : RelL am ys us) (e : ys = [y, z]) : ∃ u v, us = [u, v] ∧ RelV am y u ∧ RelV am z v := by
  subst e
  induction us with
  | nil => exact r.elim
  | cons u us =>
    refine box fun G0 k0 => ?_
    obtain ⟨v, rfl, q⟩ := relL_one r.2 rfl
    refine k0 ?_
    clear k0 G0
    exact ⟨u, v, rfl, r.1, q⟩
theorem mFind_or (x : Str) (ys : List MV) (σ : MH) : (∃ y, ys = [.str y]) ∨ mFind x ys σ = .stuck := by
  rcases ys with _ | ⟨a, _ | ⟨b, r⟩⟩
  · exact .inr rfl
  · cases a <;> first | exact .inl ⟨_, rfl⟩ | exact .inr rfl
  · cases a <;> exact .inr rfl
theorem mFind3_or (x : Str) (ys : List MV) (σ : MH) : (∃ y j, ys = [.str y, .int j]) ∨ mFind3 x ys σ = .stuck := by
  rcases ys with _ | ⟨a, _ | ⟨b, _ | ⟨d, r⟩⟩⟩
  · exact .inr rfl
  · cases a <;> exact .inr rfl
  · cases a <;> first | exact .inr rfl | (cases b <;> first | exact .inl ⟨_, _, rfl⟩ | exact .inr rfl)
  · cases a <;> first | exact .inr rfl | (cases b <;> exact .inr rfl)
theorem mSplit_or (x : Str) (ys : List MV) (σ : MH) : (∃ y, ys = [.str y]) ∨ mSplit x ys σ = .stuck := by
  rcases ys with _ | ⟨a, _ | ⟨b, r⟩⟩
  · exact .inr rfl
  · cases a <;> first | exact .inl ⟨_, rfl⟩ | exact .inr rfl
  · cases a <;> exact .inr rfl
theorem mJoin_or (x : Str) (ys : List MV) (σ : MH) : (∃ j zs ws, ys = [.ref j] ∧ σ[j]? = some (.list zs) ∧ strs? zs = some ws ∧ (x.length ≤ 64 ∧ (ws.map (·.length)).sum + ws.length * 64 ≤ 16777216) ∧ mJoin x ys σ = .ok (.str (Txt.join x ws)) σ) ∨ mJoin x ys σ = .stuck := by
  rcases ys with _ | ⟨a, _ | ⟨b, r⟩⟩
  · exact .inr rfl
  · induction a with
    | ref j =>
      unfold mJoin; dsimp only
      cases h1 : σ[j]? with
      | none => exact .inr rfl
      | some o =>
        induction o with
        | list zs =>
          dsimp only
          cases hw : strs? zs with
          | none => exact .inr rfl
          | some ws =>
            dsimp only
            by_cases hl : x.length ≤ 64 ∧ (ws.map (·.length)).sum + ws.length * 64 ≤ 16777216
            · exact .inl ⟨j, zs, ws, rfl, h1, hw, hl, if_pos hl⟩
            · exact .inr (if_neg hl)
        | _ => exact .inr rfl
    | _ => exact .inr rfl
  · cases a <;> exact .inr rfl
theorem opSl_or (va vb vc : MV) (σ : MH) : (∃ x i j, va = .str x ∧ vb = .int i ∧ vc = .int j) ∨ opSl va vb vc σ = .stuck := by
  cases va <;> first | exact .inr rfl | (cases vb <;> first | exact .inr rfl | (cases vc <;> first | exact .inr rfl | exact .inl ⟨_, _, _, rfl, rfl, rfl⟩))
section
variable {c : Act} {env : Env} {s : Shared} {m : Str → Option Value} {news : List (Addr × Obj)} {am : AM} {ρ : MEnv} {σ : MH} {x : Str} {t : Tok} {ys : List MV} {us : List Value}
theorem den_find (C : c.Ok g n) (S : Sim g c env m news am ρ σ s) (r : RelL am ys us) : Den g c env m ρ RelV news am s (call (.builtin "str.find") (.str x t :: us)) (mFind x ys σ) := by
  rcases mFind_or x ys σ with ⟨y, rfl⟩ | e
  · refine box fun G0 k0 => ?_
    obtain ⟨u, rfl, t', rfl⟩ := relL_one r rfl
    refine k0 ?_
    clear k0 G0
    exact DenW.now S fun Q h E => SC.find (h _ _ _ S.F S.N ⟨_, rfl⟩)
  · rw [e]; trivial
theorem den_find3 (C : c.Ok g n) (S : Sim g c env m news am ρ σ s) (r : RelL am ys us) : Den g c env m ρ RelV news am s (call (.builtin "str.find") (.str x t :: us)) (mFind3 x ys σ) := by
  rcases mFind3_or x ys σ with ⟨y, j, rfl⟩ | e
  · refine box fun G0 k0 => ?_
    obtain ⟨u, v, rfl, ⟨t', rfl⟩, t'', rfl⟩ := relL_two r rfl
    refine k0 ?_
    clear k0 G0
    exact DenW.now S fun Q h E => SC.find3 (h _ _ _ S.F S.N ⟨_, rfl⟩)
  · rw [e]; trivial
theorem relL_strs {am : AM} : ∀ l : List (Str × Tok), RelL am ((l.map (·.1)).map .str) (strValues l)
  | [] => trivial
  | (x, t) :: l => ⟨⟨t, rfl⟩, relL_strs l⟩
theorem den_split (C : c.Ok g n) (S : Sim g c env m news am ρ σ s) (r : RelL am ys us) : Den g c env m ρ RelV news am s (call (.builtin "str.split") (.str x t :: us)) (mSplit x ys σ) := by
  rcases mSplit_or x ys σ with ⟨y, rfl⟩ | e
  · refine box fun G0 k0 => ?_
    obtain ⟨u, rfl, t', rfl⟩ := relL_one r rfl
    refine k0 ?_
    clear k0 G0
    unfold mSplit; dsimp only
    split
    · rename_i hl
      have hx : x.length ≤ 1000000 := hl.2
      refine DenW.makes C S fun Q h E => ?_
      refine splitN1 S.F S.N (by simpa using hl.1) (fun l h' k he F N => ?_) (by rw [sizeLine_eq]; lia)
      refine h _ _ [(_, _)] h' k (get_size_none _) F N (.head _) ?_
      rw [← he]
      exact makes_list (relL_strs l)
    · trivial
  · rw [e]; trivial
theorem den_join (C : c.Ok g n) (S : Sim g c env m news am ρ σ s) (r : RelL am ys us) : Den g c env m ρ RelV news am s (call (.builtin "str.join") (.str x t :: us)) (mJoin x ys σ) := by
  rcases mJoin_or x ys σ with ⟨j, zs, ws, rfl, h1, hw, hl, e⟩ | e
  · refine box fun G0 k0 => ?_
    obtain ⟨u, rfl, hu⟩ := relL_one r rfl
    obtain ⟨a, vs, k', ha, rfl, hk, rl⟩ := S.list C h1 hu
    refine k0 ?_
    clear k0 G0
    rw [e]
    exact DenW.now S fun Q h E => join_listC (isList_of hk) (by simpa using strsAre_of rl hw) hl.1 hl.2 fun t' k => h _ _ _ S.F S.N ⟨_, rfl⟩
  · rw [e]; trivial
end
theorem ok_pop {a : ED} {eo : Expr} {apos pos : Pos} {pl : Env → Sem Bool} (ha : OkE g n sc inner a eo)
    (h3 : ∀ env, eval (.Call (.Attribute eo "pop" apos) [] [] pos) env = (do
          let ov ← eval eo env
          standAt apos.atName
          let (f, first) ← holding [ov] (getMethod ov "pop" (pl env))
          callWith pos f first (backTo pos (starEach [] env)) [])) : OkE g n sc inner (ePop a) (.Call (.Attribute eo "pop" apos) [] [] pos) := by
  intro c env s m news am ρ σ C V S
  refine ((ha c env s m news am ρ σ C V S).bind (f := fun u Q E s₁ => wpAny (model g.prog g.w) c.A (getMethod u "pop" (pl env)) (fun fx s₂ => wpAny (model g.prog g.w) c.A (callWith pos fx.1 fx.2 (backTo pos (starEach [] env)) []) Q E s₂) E s₁) (rel' := RelV)
    (k := opPop) (fun x σ₁ u news₁ am₁ s₁ S₁ e₁ o₁ r₁ => ?_) fun _ _ _ _ _ _ h p q => wpAny_mono h (fun _ _ h' => wpAny_mono h' p q) q).of fun Q E h => MethodCall_ h (h3 env)
  induction x with
  | ref i =>
    by_cases hx : ∃ xs, σ₁[i]? = some (.list xs)
    · refine box fun G0 k0 => ?_
      obtain ⟨xs, hx⟩ := hx
      obtain ⟨b, vs, k, hb, rfl, hk, r⟩ := S₁.list C hx r₁
      refine k0 ?_
      clear k0 G0
      exact (den_pop C S₁ r₁).of fun Q E h => getMethod_list_of F.slot_list_pop F.type_list_pop (isList_of hk) ⟨_, hk, rfl⟩ (callWith_method0 h)
    · have e : opPop (.ref i) σ₁ = .stuck := by
        unfold opPop
        dsimp only
        split
        · rename_i xs h; exact absurd ⟨xs, h⟩ hx
        · rfl
      rw [e]; trivial
  | _ => trivial
theorem okB_spec {len : Nat} {j : Int} (h : okB len j = true) : 0 ≤ j ∧ j ≤ 1000000 ∧ len ≤ maxLen := by
  simpa [okB, Bool.and_eq_true, decide_eq_true_eq, and_assoc] using h
theorem ok_slTo {a b : ED} {ea eb : Expr} {p pos : Pos} (ha : OkE g n sc inner a ea) (hb : OkE g n sc inner b eb) (ht : ∀ l r, letTemporaryGo ea (.ref l) r = pure ()) : OkE g n sc inner (eSlTo a b) (.Subscript ea (.Slice none (some eb) none p) pos) := by
  intro c env s m news am ρ σ C V S
  refine ((ha c env s m news am ρ σ C V S).bind (f := fun u Q E s₁ => wpAny (model g.prog g.w) c.A (eval (.Slice none (some eb) none p) env) (fun i s₂ => wpAny (model g.prog g.w) c.A (subscriptTail ea (.Slice none (some eb) none p) u i) Q E s₂) E s₁) (rel' := RelV)
    (k := fun va σ₁ => (b ρ σ₁).bind fun vb σ₂ => opSlTo va vb σ₂) (fun x σ₁ u news₁ am₁ s₁ S₁ e₁ o₁ r₁ => ?_) fun _ _ _ _ _ _ h p q => wpAny_mono h (fun _ _ h' => wpAny_mono h' p q) q).of fun Q E h => Subscript_ h
  refine ((hb c env s₁ m news₁ am₁ ρ σ₁ C V S₁).bind (f := fun v Q E s₂ => wpAny (model g.prog g.w) c.A (subscriptTail ea (.Slice none (some eb) none p) u (.ref s₂.heap.objs.size)) Q E { s₂ with heap := s₂.heap.push { cls := .type "slice", data := .fields #[.none, v, .none] } }) (rel' := RelV)
    (k := fun vb σ₂ => opSlTo x vb σ₂) (fun y σ₂ v news₂ am₂ s₂ S₂ e₂ o₂ r₂ => ?_) fun _ _ _ _ _ _ h p q => wpAny_mono h p q).of fun Q E h => wpAny_Slice (evalPart_none_step (evalPart_some_step (wpAny_mono h (fun _ _ h' => evalPart_none_step h') fun _ _ x => x)))
  have r₁ := e₂.relV r₁
  induction y with
  | int j =>
    obtain ⟨t, rfl⟩ := r₂
    induction x with
    | str z =>
      obtain ⟨t', rfl⟩ := r₁
      unfold opSlTo; dsimp only
      split
      · rename_i hl
        have hz := maxLen_le (okB_spec hl).2.2
        exact DenW.now S₂ fun Q h E => slice_strN_ns S₂.F S₂.N (fun h' t k F N => h _ _ _ F N ⟨_, rfl⟩) rfl (fun r => by cases ea <;> rfl) hz
      · trivial
    | ref i =>
      unfold opSlTo; dsimp only
      split
      · rename_i xs h1
        split
        · rename_i hl
          simp only [Bool.and_eq_true, decide_eq_true_eq] at hl
          refine box fun G0 k0 => ?_
          obtain ⟨h0, h1', h2⟩ := okB_spec hl.1
          obtain ⟨a, vs, k', ha, rfl, hk, rl⟩ := S₂.list C h1 r₁
          refine k0 ?_
          clear k0 G0
          refine DenW.makes C S₂ fun Q h E => ?_
          refine slice_list S₂.F S₂.N (isList_of hk) .none (.int j t) (fun h' F N => ?_) rfl (ht _) (by simp only [List.size_toArray]; rw [rl.length]; exact maxLen_le h2)
          have e : slicePick (List.toArray vs) none (some j) none = List.toArray (vs.take j.toNat) := by
            have := slicePick_upto (List.toArray vs) j.toNat (by simp only [List.size_toArray]; rw [rl.length]; lia)
            rw [Int.toNat_of_nonneg h0] at this
            simpa using this
          rw [e] at N
          refine h _ _ [(_, _)] h' _ ?_ F N (.head _) (makes_list (rl.take _))
          cases q : s₂.heap.get? (s₂.heap.objs.size + 1) with
          | none => rfl
          | some o => exact absurd (Heap.lt_size q) (Nat.not_lt.mpr (Nat.le_succ _))
        · trivial
      · trivial
    | _ => trivial
  | _ => cases x <;> trivial
theorem ok_slFrom {a b : ED} {ea eb : Expr} {p pos : Pos} (ha : OkE g n sc inner a ea) (hb : OkE g n sc inner b eb) (ht : ∀ l r, letTemporaryGo ea (.ref l) r = pure ()) : OkE g n sc inner (eSlFrom a b) (.Subscript ea (.Slice (some eb) none none p) pos) := by
  intro c env s m news am ρ σ C V S
  refine ((ha c env s m news am ρ σ C V S).bind (f := fun u Q E s₁ => wpAny (model g.prog g.w) c.A (eval (.Slice (some eb) none none p) env) (fun i s₂ => wpAny (model g.prog g.w) c.A (subscriptTail ea (.Slice (some eb) none none p) u i) Q E s₂) E s₁) (rel' := RelV)
    (k := fun va σ₁ => (b ρ σ₁).bind fun vb σ₂ => opSlFrom va vb σ₂) (fun x σ₁ u news₁ am₁ s₁ S₁ e₁ o₁ r₁ => ?_) fun _ _ _ _ _ _ h p q => wpAny_mono h (fun _ _ h' => wpAny_mono h' p q) q).of fun Q E h => Subscript_ h
  refine ((hb c env s₁ m news₁ am₁ ρ σ₁ C V S₁).bind (f := fun v Q E s₂ => wpAny (model g.prog g.w) c.A (subscriptTail ea (.Slice (some eb) none none p) u (.ref s₂.heap.objs.size)) Q E { s₂ with heap := s₂.heap.push { cls := .type "slice", data := .fields #[v, .none, .none] } }) (rel' := RelV)
    (k := fun vb σ₂ => opSlFrom x vb σ₂) (fun y σ₂ v news₂ am₂ s₂ S₂ e₂ o₂ r₂ => ?_) fun _ _ _ _ _ _ h p q => wpAny_mono h p q).of fun Q E h => wpAny_Slice (evalPart_some_step (wpAny_mono h (fun _ _ h' => evalPart_none_step (evalPart_none_step h')) fun _ _ x => x))
  have r₁ := e₂.relV r₁
  induction y with
  | int j =>
    obtain ⟨t, rfl⟩ := r₂
    induction x with
    | str z =>
      obtain ⟨t', rfl⟩ := r₁
      unfold opSlFrom; dsimp only
      split
      · rename_i hl
        have hz := maxLen_le (okB_spec hl).2.2
        exact DenW.now S₂ fun Q h E => slice_strN_sn S₂.F S₂.N (fun h' t k F N => h _ _ _ F N ⟨_, rfl⟩) rfl (fun r => by cases ea <;> rfl) hz
      · trivial
    | ref i =>
      unfold opSlFrom; dsimp only
      split
      · rename_i xs h1
        split
        · rename_i hl
          simp only [Bool.and_eq_true, decide_eq_true_eq] at hl
          refine box fun G0 k0 => ?_
          obtain ⟨h0, h1', h2⟩ := okB_spec hl.1
          obtain ⟨a, vs, k', ha, rfl, hk, rl⟩ := S₂.list C h1 r₁
          refine k0 ?_
          clear k0 G0
          refine DenW.makes C S₂ fun Q h E => ?_
          refine slice_list S₂.F S₂.N (isList_of hk) (.int j t) .none (fun h' F N => ?_) rfl (ht _) (by simp only [List.size_toArray]; rw [rl.length]; exact maxLen_le h2)
          have e : slicePick (List.toArray vs) (some j) none none = List.toArray (vs.drop j.toNat) := by
            have := slicePick_from (List.toArray vs) j.toNat (by simp only [List.size_toArray]; rw [rl.length]; lia)
            rw [Int.toNat_of_nonneg h0] at this
            simpa using this
          rw [e] at N
          refine h _ _ [(_, _)] h' _ ?_ F N (.head _) (makes_list (rl.drop _))
          cases q : s₂.heap.get? (s₂.heap.objs.size + 1) with
          | none => rfl
          | some o => exact absurd (Heap.lt_size q) (Nat.not_lt.mpr (Nat.le_succ _))
        · trivial
      · trivial
    | _ => trivial
  | _ => cases x <;> trivial
theorem ok_sl {a b d : ED} {ea eb ed : Expr} {p pos : Pos} (ha : OkE g n sc inner a ea) (hb : OkE g n sc inner b eb) (hd : OkE g n sc inner d ed) : OkE g n sc inner (eSl a b d) (.Subscript ea (.Slice (some eb) (some ed) none p) pos) := by
  intro c env s m news am ρ σ C V S
  refine ((ha c env s m news am ρ σ C V S).bind (f := fun u Q E s₁ => wpAny (model g.prog g.w) c.A (eval (.Slice (some eb) (some ed) none p) env) (fun i s₂ => wpAny (model g.prog g.w) c.A (subscriptTail ea (.Slice (some eb) (some ed) none p) u i) Q E s₂) E s₁) (rel' := RelV)
    (k := fun va σ₁ => (b ρ σ₁).bind fun vb σ₂ => (d ρ σ₂).bind fun vc σ₃ => opSl va vb vc σ₃) (fun x σ₁ u news₁ am₁ s₁ S₁ e₁ o₁ r₁ => ?_) fun _ _ _ _ _ _ h p q => wpAny_mono h (fun _ _ h' => wpAny_mono h' p q) q).of fun Q E h => Subscript_ h
  refine ((hb c env s₁ m news₁ am₁ ρ σ₁ C V S₁).bind (f := fun v Q E s₂ => wpAny (model g.prog g.w) c.A (eval ed env) (fun w s₃ => wpAny (model g.prog g.w) c.A (subscriptTail ea (.Slice (some eb) (some ed) none p) u (.ref s₃.heap.objs.size)) Q E { s₃ with heap := s₃.heap.push { cls := .type "slice", data := .fields #[v, w, .none] } }) E s₂) (rel' := RelV)
    (k := fun vb σ₂ => (d ρ σ₂).bind fun vc σ₃ => opSl x vb vc σ₃) (fun y σ₂ v news₂ am₂ s₂ S₂ e₂ o₂ r₂ => ?_) fun _ _ _ _ _ _ h p q => wpAny_mono h (fun _ _ h' => wpAny_mono h' p q) q).of fun Q E h => wpAny_Slice (evalPart_some_step (wpAny_mono h (fun _ _ h' => evalPart_some_step (wpAny_mono h' (fun _ _ h'' => evalPart_none_step h'') fun _ _ x => x)) fun _ _ x => x))
  refine (hd c env s₂ m news₂ am₂ ρ σ₂ C V S₂).bind (f := fun w Q E s₃ => wpAny (model g.prog g.w) c.A (subscriptTail ea (.Slice (some eb) (some ed) none p) u (.ref s₃.heap.objs.size)) Q E { s₃ with heap := s₃.heap.push { cls := .type "slice", data := .fields #[v, w, .none] } }) (rel' := RelV)
    (k := fun vc σ₃ => opSl x y vc σ₃) (fun z σ₃ w news₃ am₃ s₃ S₃ e₃ o₃ r₃ => ?_) fun _ _ _ _ _ _ h p q => wpAny_mono h p q
  have r₁ := e₃.relV (e₂.relV r₁)
  have r₂ := e₃.relV r₂
  rcases opSl_or x y z σ₃ with ⟨_, _, _, rfl, rfl, rfl⟩ | e
  · obtain ⟨t1, rfl⟩ := r₁; obtain ⟨t2, rfl⟩ := r₂; obtain ⟨t3, rfl⟩ := r₃
    unfold opSl; dsimp only
    split
    · rename_i hl
      simp only [Bool.and_eq_true] at hl
      have hz := maxLen_le (okB_spec hl.1).2.2
      exact DenW.now S₃ fun Q h E => slice_strN_ss S₃.F S₃.N (fun h' t k F N => h _ _ _ F N ⟨_, rfl⟩) rfl (fun r => by cases ea <;> rfl) hz
    · trivial
  · rw [e]; trivial
theorem RelL.pick {am : AM} {xs : List MV} {vs : List Value} (r : RelL am xs vs) : ∀ is : List Nat, RelL am (is.filterMap (xs[·]?)) (is.filterMap (vs[·]?))
  | [] => trivial
  | i :: is => by
    rw [List.filterMap_cons, List.filterMap_cons]
    cases h : xs[i]? with
    | none =>
      have : vs[i]? = none := by
        rw [List.getElem?_eq_none_iff] at h ⊢
        rw [r.length]; exact h
      rw [this]
      exact r.pick is
    | some x =>
      refine box fun G0 k0 => ?_
      obtain ⟨v, hv, hr⟩ := r.get h
      refine k0 ?_
      clear k0 G0
      rw [hv]
      exact ⟨hr, r.pick is⟩
theorem ok_slBy9 {a b : ED} {ea eb : Expr} {kk : Nat} {p9 p pos : Pos} (ha : OkE g n sc inner a ea) (hb : OkE g n sc inner b eb) (ht : ∀ l r, letTemporaryGo ea (.ref l) r = pure ()) : OkE g n sc inner (eSlBy9 a b) (.Subscript ea (.Slice (some eb) none (some (.Constant (.int 9) kk p9)) p) pos) := by
  intro c env s m news am ρ σ C V S
  refine ((ha c env s m news am ρ σ C V S).bind (f := fun u Q E s₁ => wpAny (model g.prog g.w) c.A (eval (.Slice (some eb) none (some (.Constant (.int 9) kk p9)) p) env) (fun i s₂ => wpAny (model g.prog g.w) c.A (subscriptTail ea (.Slice (some eb) none (some (.Constant (.int 9) kk p9)) p) u i) Q E s₂) E s₁) (rel' := RelV)
    (k := fun va σ₁ => (b ρ σ₁).bind fun vb σ₂ => opSlBy9 va vb σ₂) (fun x σ₁ u news₁ am₁ s₁ S₁ e₁ o₁ r₁ => ?_) fun _ _ _ _ _ _ h p q => wpAny_mono h (fun _ _ h' => wpAny_mono h' p q) q).of fun Q E h => Subscript_ h
  refine ((hb c env s₁ m news₁ am₁ ρ σ₁ C V S₁).bind (f := fun v Q E s₂ => wpAny (model g.prog g.w) c.A (subscriptTail ea (.Slice (some eb) none (some (.Constant (.int 9) kk p9)) p) u (.ref s₂.heap.objs.size)) Q E { s₂ with heap := s₂.heap.push { cls := .type "slice", data := .fields #[v, .none, .int 9 s₂.toks] }, toks := s₂.toks + 1 }) (rel' := RelV)
    (k := fun vb σ₂ => opSlBy9 x vb σ₂) (fun y σ₂ v news₂ am₂ s₂ S₂ e₂ o₂ r₂ => ?_) fun _ _ _ _ _ _ h p q => wpAny_mono h p q).of fun Q E h => wpAny_Slice (evalPart_some_step (wpAny_mono h (fun _ _ h' => evalPart_none_step (evalPart_some_step (wpAny_Constant_int h'))) fun _ _ x => x))
  have r₁ := e₂.relV r₁
  induction y with
  | int j =>
    obtain ⟨t, rfl⟩ := r₂
    induction x with
    | ref i =>
      unfold opSlBy9; dsimp only
      split
      · rename_i xs h1
        split
        · rename_i hl
          refine box fun G0 k0 => ?_
          obtain ⟨h0, h1', h2⟩ := okB_spec hl
          obtain ⟨a, vs, k', ha, rfl, hk, rl⟩ := S₂.list C h1 r₁
          refine k0 ?_
          clear k0 G0
          refine DenW.makes C S₂ fun Q h E => ?_
          refine slice_list3 (s := { s₂ with toks := s₂.toks + 1 }) S₂.F S₂.N (isList_of hk) (.int j t) .none (.int 9 _) (by decide) (fun h' F N => ?_) rfl (ht _) (by simp only [List.size_toArray]; rw [rl.length]; exact maxLen_le h2)
          have e : slicePick (List.toArray vs) (some j) none (some 9) = List.toArray ((sliceRange (sliceBounds (some j) none (some 9) xs.length).1 (sliceBounds (some j) none (some 9) xs.length).2.1 (sliceBounds (some j) none (some 9) xs.length).2.2).filterMap (vs[·]?)) := by
            unfold slicePick
            simp only [List.size_toArray, rl.length, List.getElem?_toArray]
          rw [e] at N
          refine h _ _ [(_, _)] h' _ ?_ F N (.head _) (makes_list (rl.pick _))
          cases q : s₂.heap.get? (s₂.heap.objs.size + 1) with
          | none => rfl
          | some o => exact absurd (Heap.lt_size q) (Nat.not_lt.mpr (Nat.le_succ _))
        · trivial
      · trivial
    | _ => trivial
  | _ => cases x <;> trivial
end
theorem ofString_inj {x y : String} (h : Str.ofString x = Str.ofString y) : x = y := by
  rw [Str.ofString_eq_toList, Str.ofString_eq_toList] at h
  have h1 : (x.toList.map Char.toNat) = (y.toList.map Char.toNat) := by
    have := congrArg (fun s : Str => s.cps.toList) h
    simpa using this
  have h2 : x.toList = y.toList := by
    revert h1
    generalize x.toList = a
    generalize y.toList = b
    induction a generalizing b with
    | nil => intro h; induction b with
      | nil => rfl
      | cons _ _ => cases h
    | cons c a ih =>
      intro h
      induction b with
      | nil => cases h
      | cons d b =>
        simp only [List.map_cons, List.cons.injEq] at h
        have : c = d := by
          apply Char.ext
          apply UInt32.toNat_inj.mp
          exact h.1
        rw [this, ih b h.2]
  exact String.toList_inj.mp h2
noncomputable def RelF (am : AM) : MF → Flow → Prop
  | .next, .next => True
  | .brk, .brk => True
  | .ret v, .ret u => RelV am v u
  | _, _ => False
noncomputable def cellsX (c : Act) : List Addr := c.fenv.cells.filterMap fun p => c.fenv.cells.lookup p.1
inductive SPost (g : Gl) (c : Act) (news : List (Addr × Obj)) (am : AM) (s : Shared) (f : MF) (ρ' : MEnv) (σ' : MH) (u : Flow) (s' : Shared) : Prop
  | mk (m' : Str → Option Value) (news' : List (Addr × Obj)) (am' : AM) (S : Sim g c c.fenv m' news' am' ρ' σ' s') (e : Evolve (cellsX c) news am news' am') (o : Only s s') (r : RelF am' f u) : SPost g c news am s f ρ' σ' u s'
noncomputable def DenS (g : Gl) (c : Act) (news : List (Addr × Obj)) (am : AM) (s : Shared) (W : PT Flow) (r : R (MF × MEnv)) : Prop :=
  match r with
  | .stuck => True
  | .ok (f, ρ') σ' => ∀ E, W (SPost g c news am s f ρ' σ') E s
  | .exc cl msg σ' => ∀ Q E, (∀ x s', Fly g c cl msg AnyM (cellsX c) news am s σ' x s' → E x s') → W Q E s
noncomputable def OkS (g : Gl) (n : Nat) (sc : Scope) (d : SD) (st : Stmt) : Prop :=
  ∀ (c : Act) (s : Shared) (m : Str → Option Value) (news : List (Addr × Obj)) (am : AM) (ρ : MEnv) (σ : MH),
    c.Ok g n → EnvOk c sc false c.fenv → Sim g c c.fenv m news am ρ σ s → DenS g c news am s (wpT g c (exec st c.fenv)) (d ρ σ)
noncomputable def OkB (g : Gl) (n : Nat) (sc : Scope) (d : SD) (sts : List Stmt) : Prop :=
  ∀ (c : Act) (s : Shared) (m : Str → Option Value) (news : List (Addr × Obj)) (am : AM) (ρ : MEnv) (σ : MH),
    c.Ok g n → EnvOk c sc false c.fenv → Sim g c c.fenv m news am ρ σ s → DenS g c news am s (wpT g c (execs sts c.fenv)) (d ρ σ)
section
variable {g : Gl} {n : Nat} {c : Act} {m : Str → Option Value} {news : List (Addr × Obj)} {am : AM} {ρ : MEnv} {σ : MH} {s : Shared}
theorem DenS.of {W W' : PT Flow} {r : R (MF × MEnv)} (h : DenS g c news am s W r) (ht : ∀ Q E, W Q E s → W' Q E s) : DenS g c news am s W' r := by
  induction r with
  | stuck => trivial
  | ok v σ' => exact fun E => ht _ _ (h E)
  | exc cl msg σ' => exact fun Q E hE => ht _ _ (h Q E hE)
theorem Den.bindS {α β : Type} {rel : AM → β → α → Prop} {t : Sem α} {r : R β} {k : β → MH → R (MF × MEnv)} {f : α → PT Flow}
    (h : Den g c c.fenv m ρ rel news am s t r)
    (hk : ∀ v σ₁ u news₁ am₁ s₁, Sim g c c.fenv m news₁ am₁ ρ σ₁ s₁ → Evolve [] news am news₁ am₁ → Only s s₁ → rel am₁ v u → DenS g c news₁ am₁ s₁ (f u) (k v σ₁))
    (mono : ∀ u Q Q' E E' s, f u Q E s → (∀ v s, Q v s → Q' v s) → (∀ v s, E v s → E' v s) → f u Q' E' s) :
    DenS g c news am s (fun Q E s => wpAny (model g.prog g.w) c.A t (fun u s₁ => f u Q E s₁) E s) (r.bind k) := by
  induction r with
  | stuck => trivial
  | exc cl msg σ' => exact fun Q E hE => h _ _ fun x s' ⟨news', am', H, e, o, fl⟩ => hE x s' ⟨news', am', H, e.more, o, fl.any⟩
  | ok v σ₁ =>
    have h' : ∀ E, wpAny (model g.prog g.w) c.A t (DPost g c c.fenv m ρ rel news am s v σ₁) E s := h
    show DenS g c news am s _ (k v σ₁)
    have hk' := hk v σ₁
    revert hk'
    cases k v σ₁ with
    | stuck => intro _; trivial
    | ok v₂ σ₂ =>
      obtain ⟨fl, ρ₂⟩ := v₂
      intro hk' E
      refine wpAny_mono (h' E) (fun u s₁ ⟨news₁, am₁, S₁, e₁, o₁, r₁⟩ => mono u _ _ E _ s₁ (hk' u news₁ am₁ s₁ S₁ e₁ o₁ r₁ E) (fun u₂ s₂ hb1 => ?_) fun _ _ x => x) fun _ _ x => x
      refine box fun G0 k0 => ?_
      obtain ⟨m₂, news₂, am₂, S₂, e₂, o₂, r₂⟩ := hb1
      refine k0 ?_
      clear k0 G0
      exact ⟨m₂, news₂, am₂, S₂, e₁.more.trans e₂ S₂.amOk, o₁.trans o₂, r₂⟩
    | exc cl msg σ₂ =>
      intro hk' Q E hE
      refine wpAny_mono (h' E) (fun u s₁ ⟨news₁, am₁, S₁, e₁, o₁, r₁⟩ => hk' u news₁ am₁ s₁ S₁ e₁ o₁ r₁ Q E fun x s' hx => hE x s' ?_) fun _ _ x => x
      refine box fun G0 k0 => ?_
      obtain ⟨news₂, am₂, H₂, e₂, o₂, f₂⟩ := hx
      refine k0 ?_
      clear k0 G0
      exact ⟨news₂, am₂, H₂, e₁.more.trans e₂ H₂.ok, o₁.trans o₂, f₂⟩
theorem DenS.now {W : PT Flow} {f : MF} (S : Sim g c c.fenv m news am ρ σ s)
    (h : ∀ Q : Flow → Shared → Prop, (∀ u h' tk, Fr c.h₀ c.L h' m → News c.h₀ c.L h' news → RelF am f u → Q u { s with heap := h', toks := tk }) → ∀ E, W Q E s) :
    DenS g c news am s W (.ok (f, ρ) σ) := fun E => h _ (fun u h' tk F N hr => ⟨m, news, am, ⟨F, N, S.H, S.V, S.Ce, S.Ap⟩, .refl, ⟨h', tk, rfl⟩, hr⟩) E
theorem store_ok {sc : Scope} {x : String} {v : MV} {u : Value} (C : c.Ok g n) (V : EnvOk c sc false c.fenv) (S : Sim g c c.fenv m news am ρ σ s) (r : RelV am v u)
    (hx : sc.names.lookup (Str.ofString x) = some .local ∨ sc.names.lookup (Str.ofString x) = some .cell) (Q : Unit → Shared → Prop) (E : Value → Shared → Prop)
    (h : ∀ m' news' s', Sim g c c.fenv m' news' am (upd ρ x v) σ s' → Evolve (cellsX c) news am news' am → Only s s' → Q () s') : wpAny (model g.prog g.w) c.A (storeName c.fenv (Str.ofString x) u) Q E s := by
  have hk : c.fenv.scope.kind = .function := C.kind
  rcases hx with hx | hx
  · have hl : c.fenv.kindOf (Str.ofString x) = some .local := by show List.lookup _ c.fenv.scope.names = _; rw [V.scope]; exact hx
    refine wpAny_storeName_local hl (C.locs ▸ S.F.ns) (fun h' hn hs => ?_) (by rw [hk]; rfl)
    rw [C.locs] at hn hs
    refine h _ news _ ⟨S.F.set hn hs, S.N.set hs, S.H, ?_, S.Ce, S.Ap⟩ .refl ⟨_, _, rfl⟩
    intro y mv hy
    by_cases e : y = x
    · subst e
      simp only [upd, if_pos] at hy
      cases hy
      exact ⟨u, r, .inl ⟨hl, .inl ⟨C.locs, by simp⟩⟩⟩
    · simp only [upd, if_neg e] at hy
      refine box fun G0 k0 => ?_
      obtain ⟨w, hw, hn'⟩ := S.V y mv hy
      refine k0 ?_
      clear k0 G0
      refine ⟨w, hw, ?_⟩
      rcases hn' with ⟨k, ⟨h1, h2⟩ | h1⟩ | h1
      · exact .inl ⟨k, .inl ⟨h1, by show (if Str.ofString y = Str.ofString x then some u else m (Str.ofString y)) = some w; rw [if_neg (fun q => e (ofString_inj q))]; exact h2⟩⟩
      · exact .inl ⟨k, .inr h1⟩
      · exact .inr h1
  · have hl : c.fenv.kindOf (Str.ofString x) = some .cell := by show List.lookup _ c.fenv.scope.names = _; rw [V.scope]; exact hx
    refine box fun G0 k0 => ?_
    obtain ⟨cc, hcc⟩ := C.cel _ hl
    obtain ⟨o, v0, hm, hd⟩ := S.Ce _ _ hcc
    refine k0 ?_
    clear k0 G0
    have hN := S.N _ hm
    refine wpAny_storeName_cell hk hl hcc ⟨o, hN.1, hd⟩ fun h' hv hs => ?_
    refine box fun G0 k0 => ?_
    obtain ⟨o', ho', hd'⟩ := hv
    refine k0 ?_
    clear k0 G0
    have hap : ¬ InAm cc am := S.apart C (a := cc) (o := o) hN.1 (fun its k e => by rw [e] at hd; cases hd) (fun its k e => by rw [e] at hd; cases hd) (fun d e => by rw [e] at hd; cases hd) (fun es k e => by rw [e] at hd; cases hd)
    have hmf : ∀ p ∈ news, p.1 ≠ cc → p ∈ (cc, o') :: news.filter (fun p => decide (p.1 ≠ cc)) := fun p hp hne => .tail _ (List.mem_filter.mpr ⟨hp, by simpa using hne⟩)
    refine h m ((cc, o') :: news.filter (fun p => decide (p.1 ≠ cc))) _ ⟨S.F.change hs hN.2.1 hN.2.2, ?_, ⟨S.H.len, S.H.ok, ?_⟩, ?_, ?_, .inl C.locs⟩ ⟨⟨[], (List.append_nil _).symm⟩, fun p hp hn => ?_, fun j q hj e => by rw [List.getElem?_eq_none hj] at e; cases e⟩ ⟨_, _, rfl⟩
    · intro p hp
      rcases List.mem_cons.mp hp with rfl | hp
      · exact ⟨ho', hN.2⟩
      · obtain ⟨h1, h2⟩ := List.mem_filter.mp hp
        have hne : p.1 ≠ cc := by simpa using h2
        exact ⟨(hs.2 p.1 hne).trans (S.N p h1).1, (S.N p h1).2⟩
    · intro j oj hj
      refine box fun G0 k0 => ?_
      obtain ⟨q, oq, hq, hkq, hoq⟩ := S.H.obj j oj hj
      refine k0 ?_
      clear k0 G0
      refine ⟨q, oq, hq, hkq.imp (fun h => hmf _ h fun e => hap ⟨j, q, hq, .inl e⟩) id, ?_⟩
      induction oj with
      | list _ => exact hoq
      | tup _ => exact hoq
      | inst as =>
        refine box fun G0 k0 => ?_
        obtain ⟨es, kk, e, hm', ra⟩ := hoq
        refine k0 ?_
        clear k0 G0
        exact ⟨es, kk, e, hmf _ hm' fun e => hap ⟨j, q, hq, .inr e⟩, ra⟩
    · intro y mv hy
      by_cases e : y = x
      · subst e
        simp only [upd, if_pos] at hy
        cases hy
        exact ⟨u, r, .inr ⟨hl, cc, o', hcc, .head _, hd'⟩⟩
      · simp only [upd, if_neg e] at hy
        refine box fun G0 k0 => ?_
        obtain ⟨w, hw, hn'⟩ := S.V y mv hy
        refine k0 ?_
        clear k0 G0
        refine ⟨w, hw, ?_⟩
        rcases hn' with ⟨k, h1 | ⟨o1, es, ep, hm1, hd1, r1⟩⟩ | ⟨k, c1, o1, hc1, hm1, r1⟩
        · exact .inl ⟨k, .inl h1⟩
        · refine .inl ⟨k, .inr ⟨o1, es, ep, hmf _ hm1 fun q => ?_, hd1, r1⟩⟩
          have := (S.N _ hm1).1
          dsimp only at this q
          rw [q, hN.1] at this
          cases this
          rw [hd] at hd1; cases hd1
        · exact .inr ⟨k, c1, o1, hc1, hmf _ hm1 (C.celApart _ _ _ _ hc1 hcc fun q => e (ofString_inj q)), r1⟩
    · intro y cy hy
      refine box fun G0 k0 => ?_
      obtain ⟨oy, vy, hmy, hdy⟩ := S.Ce y cy hy
      refine k0 ?_
      clear k0 G0
      by_cases e : y = Str.ofString x
      · subst e
        obtain rfl : cc = cy := Option.some.inj (hcc.symm.trans hy)
        exact ⟨o', some u, .head _, hd'⟩
      · exact ⟨oy, vy, hmf _ hmy (C.celApart _ _ _ _ hy hcc e), hdy⟩
    · by_cases e : p.1 = cc
      · refine ⟨o', by rw [e]; exact .head _, fun hx => absurd ?_ hx⟩
        rw [e]
        have : (Str.ofString x, cc) ∈ c.fenv.cells := by
          have := hcc
          revert this
          generalize c.fenv.cells = l
          induction l with
          | nil => intro h; cases h
          | cons q l ih =>
            obtain ⟨a, b⟩ := q
            rw [List.lookup_cons]
            split
            · intro h; cases h; rename_i he; rw [eq_of_beq he]; exact .head _
            · intro h; exact .tail _ (ih h)
        exact List.mem_filterMap.mpr ⟨_, this, hcc⟩
      · exact ⟨p.2, hmf p hp e, fun _ => rfl⟩
end
section
variable {g : Gl} {n : Nat} {sc : Scope}
noncomputable abbrev Stores (sc : Scope) (x : String) : Prop := sc.names.lookup (Str.ofString x) = some .local ∨ sc.names.lookup (Str.ofString x) = some .cell
theorem okS_assign {x : String} {a : ED} {ea : Expr} {xp pos : Pos} (ha : OkE g n sc false a ea) (hx : Stores sc x) (hs : ∀ env, env.scope = sc → swapsWith ea (some (.Name (Str.ofString x) xp)) pos.line env = pure false) :
    OkS g n sc (sAssign x a) (.Assign [.Name (Str.ofString x) xp] ea pos) := by
  intro c s m news am ρ σ C V S
  refine ((ha c c.fenv s m news am ρ σ C V S).bindS (f := fun u Q E s₁ => wpAny (model g.prog g.w) c.A (storeName c.fenv (Str.ofString x) u) (fun _ => Q .next) E s₁) (k := fun v σ₁ => .ok (.next, upd ρ x v) σ₁) (fun v σ₁ u news₁ am₁ s₁ S₁ e₁ o₁ r₁ => ?_) fun _ _ _ _ _ _ h p q => wpAny_mono h (fun _ _ h' => p _ _ h') q).of fun Q E h => wpAny_Assign_Name h (hs _ V.scope)
  intro E
  exact store_ok C V S₁ r₁ hx _ _ fun m' news' s' S' e' o' => ⟨m', news', am₁, S', e', o', trivial⟩
theorem okS_assign3 {x y z : String} {a : ED} {ea : Expr} {xp yp zp pos : Pos} (ha : OkE g n sc false a ea) (hx : Stores sc x) (hy : Stores sc y) (hz : Stores sc z)
    (h1 : ∀ env, (assignEach [.Name (Str.ofString x) xp, .Name (Str.ofString y) yp, .Name (Str.ofString z) zp] env).map (·.2) = [assign (.Name (Str.ofString x) xp) env, assign (.Name (Str.ofString y) yp) env, assign (.Name (Str.ofString z) zp) env])
    (h2 : ∀ env, swappedStores [.Name (Str.ofString x) xp, .Name (Str.ofString y) yp, .Name (Str.ofString z) zp] ea env = pure none) :
    OkS g n sc (sAssign3 x y z a) (.Assign [.Name (Str.ofString x) xp, .Name (Str.ofString y) yp, .Name (Str.ofString z) zp] ea pos) := by
  intro c s m news am ρ σ C V S
  refine ((ha c c.fenv s m news am ρ σ C V S).bindS (f := fun u Q E s₁ => wpAny (model g.prog g.w) c.A (assign (.Name (Str.ofString x) xp) c.fenv u) (fun _ s₂ => wpAny (model g.prog g.w) c.A (assign (.Name (Str.ofString y) yp) c.fenv u) (fun _ s₃ => wpAny (model g.prog g.w) c.A (assign (.Name (Str.ofString z) zp) c.fenv u) (fun _ => Q .next) E s₃) E s₂) E s₁)
    (k := fun v σ₁ => .ok (.next, upd (upd (upd ρ x v) y v) z v) σ₁) (fun v σ₁ u news₁ am₁ s₁ S₁ e₁ o₁ r₁ => ?_) fun _ _ _ _ _ _ h p q => wpAny_mono h (fun _ _ h' => wpAny_mono h' (fun _ _ h'' => wpAny_mono h'' (fun _ _ h3 => p _ _ h3) q) q) q).of fun Q E h => wpAny_Assign_three h (h1 _) (h2 _)
  intro E
  refine wpAny_assign_Name (store_ok C V S₁ r₁ hx _ _ fun m' news' s' S' e' o' => ?_)
  refine wpAny_assign_Name (store_ok C V S' r₁ hy _ _ fun m2 news2 s2 S2 e2 o2 => ?_)
  exact wpAny_assign_Name (store_ok C V S2 r₁ hz _ _ fun m3 news3 s3 S3 e3 o3 => ⟨m3, news3, am₁, S3, (e'.trans e2 S2.amOk).trans e3 S3.amOk, (o'.trans o2).trans o3, trivial⟩)
theorem okS_ret {a : ED} {ea : Expr} {pos : Pos} (ha : OkE g n sc false a ea) : OkS g n sc (sRet a) (.Return (some ea) pos) := by
  intro c s m news am ρ σ C V S
  refine ((ha c c.fenv s m news am ρ σ C V S).bindS (f := fun u Q E s₁ => Q (.ret u) s₁) (k := fun v σ₁ => .ok (.ret v, ρ) σ₁) (fun v σ₁ u news₁ am₁ s₁ S₁ e₁ o₁ r₁ => ?_) fun _ _ _ _ _ _ h p q => p _ _ h).of fun Q E h => wpAny_Return_some h
  exact DenS.now S₁ fun Q h E => h _ _ s₁.toks S₁.F S₁.N r₁
theorem okS_break {pos : Pos} : OkS g n sc sBreak (.Break pos) := by
  intro c s m news am ρ σ C V S
  exact DenS.now S fun Q h E => fun _ _ _ => h _ _ s.toks S.F S.N trivial
theorem okS_if {t : TD} {a b : SD} {et : Expr} {sa sb : List Stmt} {pos : Pos} (ht : OkT g n sc false t et) (ha : OkB g n sc a sa) (hb : OkB g n sc b sb) : OkS g n sc (sIf t a b) (.If et sa sb pos) := by
  intro c s m news am ρ σ C V S
  refine ((ht c c.fenv s m news am ρ σ C V S).bindS (f := fun b Q E s₁ => if b then wpAny (model g.prog g.w) c.A (execs sa c.fenv) Q E s₁ else wpAny (model g.prog g.w) c.A (execs sb c.fenv) Q E s₁) (k := fun v σ₁ => if v then a ρ σ₁ else b ρ σ₁) (fun v σ₁ u news₁ am₁ s₁ S₁ e₁ o₁ r₁ => ?_) fun b _ _ _ _ _ h p q => ?_).of fun Q E h => wpAny_If h
  · subst r₁
    induction v with
    | true => exact ha c s₁ m news₁ am₁ ρ σ₁ C V S₁
    | false => exact hb c s₁ m news₁ am₁ ρ σ₁ C V S₁
  · cases b <;> exact wpAny_mono h p q
theorem okB_nil : OkB g n sc sPass [] := by
  intro c s m news am ρ σ C V S
  exact DenS.now S fun Q h E => wpAny_execs_nil (h _ _ s.toks S.F S.N trivial)
theorem okB_cons {a b : SD} {st : Stmt} {sts : List Stmt} (ha : OkS g n sc a st) (hb : OkB g n sc b sts) : OkB g n sc (sSeq a b) (st :: sts) := by
  intro c s m news am ρ σ C V S
  have h := ha c s m news am ρ σ C V S
  have step : ∀ Q E, wpAny (model g.prog g.w) c.A (exec st c.fenv) (fun f s' => match f with | .next => wpAny (model g.prog g.w) c.A (execs sts c.fenv) Q E s' | f => Q f s') E s → wpAny (model g.prog g.w) c.A (execs (st :: sts) c.fenv) Q E s := fun Q E h => wpAny_execs_cons h
  unfold sSeq
  revert h
  cases ha' : a ρ σ with
  | stuck => intro _; trivial
  | exc cl msg σ₁ => intro h Q E hE; exact step _ _ (h _ _ hE)
  | ok r σ₁ =>
    obtain ⟨f, ρ₁⟩ := r
    intro h
    rw [R.bind_ok]
    induction f with
    | brk =>
      intro E
      refine step _ _ (wpAny_mono (h E) (fun u s' hb2 => ?_) fun _ _ x => x)
      refine box fun G0 k0 => ?_
      obtain ⟨m', news', am', S', e', o', r'⟩ := hb2
      refine k0 ?_
      clear k0 G0
      induction u with
      | brk => exact ⟨m', news', am', S', e', o', r'⟩
      | _ => exact r'.elim
    | ret v =>
      intro E
      refine step _ _ (wpAny_mono (h E) (fun u s' hb3 => ?_) fun _ _ x => x)
      refine box fun G0 k0 => ?_
      obtain ⟨m', news', am', S', e', o', r'⟩ := hb3
      refine k0 ?_
      clear k0 G0
      induction u with
      | ret _ => exact ⟨m', news', am', S', e', o', r'⟩
      | _ => exact r'.elim
    | next =>
      dsimp only
      have hb' := fun s' m' news' am' S' => hb c s' m' news' am' ρ₁ σ₁ C V S'
      revert hb'
      cases b ρ₁ σ₁ with
      | stuck => intro _; trivial
      | exc cl msg σ₂ =>
        intro hb' Q E hE
        refine step _ _ (wpAny_mono (h E) (fun u s' hb4 => ?_) fun _ _ x => x)
        refine box fun G0 k0 => ?_
        obtain ⟨m', news', am', S', e', o', r'⟩ := hb4
        refine k0 ?_
        clear k0 G0
        induction u with
        | next => exact hb' s' m' news' am' S' Q E fun x s'' ⟨n2, a2, H2, e2, o2, f2⟩ => hE x s'' ⟨n2, a2, H2, e'.trans e2 H2.ok, o'.trans o2, f2⟩
        | _ => exact r'.elim
      | ok r₂ σ₂ =>
        obtain ⟨f₂, ρ₂⟩ := r₂
        intro hb' E
        refine step _ _ (wpAny_mono (h E) (fun u s' hb5 => ?_) fun _ _ x => x)
        refine box fun G0 k0 => ?_
        obtain ⟨m', news', am', S', e', o', r'⟩ := hb5
        refine k0 ?_
        clear k0 G0
        induction u with
        | next => exact wpAny_mono (hb' s' m' news' am' S' E) (fun u2 s2 ⟨m2, n2, a2, S2, e2, o2, r2⟩ => ⟨m2, n2, a2, S2, e'.trans e2 S2.amOk, o'.trans o2, r2⟩) fun _ _ x => x
        | _ => exact r'.elim
theorem okB_one {a : SD} {st : Stmt} (ha : OkS g n sc a st) : OkB g n sc a [st] := by
  have h := okB_cons ha (okB_nil (g := g) (n := n) (sc := sc))
  have e : sSeq a sPass = a := by
    funext ρ σ
    unfold sSeq sPass
    cases a ρ σ with
    | ok r σ₁ => obtain ⟨f, ρ₁⟩ := r; cases f <;> rfl
    | _ => rfl
  rwa [e] at h
theorem okS_setItem {a i e : ED} {ea ei ee : Expr} {p pos : Pos} (ha : OkE g n sc false a ea) (hi : OkE g n sc false i ei) (he : OkE g n sc false e ee) (hs : ∀ env, swapsWith ee (some (.Subscript ea ei p)) pos.line env = pure false) :
    OkS g n sc (sSetItem a i e) (.Assign [.Subscript ea ei p] ee pos) := by
  intro c s m news am ρ σ C V S
  refine ((he c c.fenv s m news am ρ σ C V S).bindS (f := fun v Q E s₁ => wpAny (model g.prog g.w) c.A (eval ea c.fenv) (fun ov s₂ => wpAny (model g.prog g.w) c.A (eval ei c.fenv) (fun iv s₃ => wpAny (model g.prog g.w) c.A (setItem ov iv v) (fun _ => Q .next) E s₃) E s₂) E s₁)
    (k := fun v σ₁ => (a ρ σ₁).bind fun va σ₂ => (i ρ σ₂).bind fun vi σ₃ => match va, vi with
      | .ref j, .int k => match σ₃[j]? with
        | some (.list xs) => if j ≠ 0 ∧ 0 ≤ k ∧ k < xs.length ∧ k < 1000000 then .ok (.next, ρ) (σ₃.set j (.list (xs.set k.toNat v))) else .stuck
        | _ => .stuck
      | _, _ => .stuck) (fun v σ₁ u news₁ am₁ s₁ S₁ e₁ o₁ r₁ => ?_) fun _ _ _ _ _ _ h p q => wpAny_mono h (fun _ _ h' => wpAny_mono h' (fun _ _ h'' => wpAny_mono h'' (fun _ _ h3 => p _ _ h3) q) q) q).of fun Q E h => wpAny_Assign_Subscript h (hs _)
  refine (ha c c.fenv s₁ m news₁ am₁ ρ σ₁ C V S₁).bindS (f := fun ov Q E s₂ => wpAny (model g.prog g.w) c.A (eval ei c.fenv) (fun iv s₃ => wpAny (model g.prog g.w) c.A (setItem ov iv u) (fun _ => Q .next) E s₃) E s₂) (fun va σ₂ ov news₂ am₂ s₂ S₂ e₂ o₂ r₂ => ?_) fun _ _ _ _ _ _ h p q => wpAny_mono h (fun _ _ h' => wpAny_mono h' (fun _ _ h3 => p _ _ h3) q) q
  refine (hi c c.fenv s₂ m news₂ am₂ ρ σ₂ C V S₂).bindS (f := fun iv Q E s₃ => wpAny (model g.prog g.w) c.A (setItem ov iv u) (fun _ => Q .next) E s₃) (fun vi σ₃ iv news₃ am₃ s₃ S₃ e₃ o₃ r₃ => ?_) fun _ _ _ _ _ _ h p q => wpAny_mono h (fun _ _ h3 => p _ _ h3) q
  have r₁ := e₃.relV (e₂.relV r₁)
  have r₂ := e₃.relV r₂
  induction va with
  | ref j =>
    induction vi with
    | int k =>
      obtain ⟨t, rfl⟩ := r₃
      dsimp only
      split
      · rename_i xs h1
        split
        · rename_i hl
          refine box fun G0 k0 => ?_
          obtain ⟨b, vs, k', hb, rfl, hk, r⟩ := S₃.list C h1 r₂
          refine k0 ?_
          clear k0 G0
          intro E
          have hlen := r.length
          refine ki_setAt hk hl.2.1 (by lia) (by simp only [List.size_toArray]; rw [hlen]; exact hl.2.2.1) ?_
          have hu := PySem.IsL.update (h := s₃.heap) (l := b) hk (fun xs => xs.setIfInBounds k.toNat u)
          rw [set_toArray] at hu
          refine box fun G0 k0 => ?_
          obtain ⟨news', S', e'⟩ := S₃.update C (tk := s₃.toks) (ys := xs.set k.toNat v) h1 hl.1 hb hk (Heap.SameBut.update ..) hu (RelL.set r₁ r)
          refine k0 ?_
          clear k0 G0
          exact ⟨m, news', am₃, S', e'.more, ⟨_, _, rfl⟩, trivial⟩
        · trivial
      · trivial
    | _ => trivial
  | _ => cases vi <;> trivial
end
section
variable {g : Gl} {n : Nat} {sc : Scope}
theorem okS_append {a e : ED} {ea ee : Expr} {ap cp pos : Pos} {pl : Env → Sem Bool} (ha : OkE g n sc false a ea) (he : OkE g n sc false e ee)
    (hi : ∀ env, env.scope = sc → interactive env = false)
    (h1 : ∀ env, starEach [ee] env = (false, eval ee env) :: starEach [] env)
    (h3 : ∀ env, eval (.Call (.Attribute ea "append" ap) [ee] [] cp) env = (do
          let ov ← eval ea env
          standAt ap.atName
          let (f, first) ← holding [ov] (getMethod ov "append" (pl env))
          callWith cp f first (backTo cp (starEach [ee] env)) [])) : OkS g n sc (sAppend a e) (.Expr (.Call (.Attribute ea "append" ap) [ee] [] cp) pos) := by
  intro c s m news am ρ σ C V S
  have hl : OkL g n sc false (lCons e lNil) [ee] := okL_cons he okL_nil h1
  refine ((ha c c.fenv s m news am ρ σ C V S).bindS (f := fun u Q E s₁ => wpAny (model g.prog g.w) c.A (getMethod u "append" (pl c.fenv)) (fun fx s₂ => wpAny (model g.prog g.w) c.A (callWith cp fx.1 fx.2 (backTo cp (starEach [ee] c.fenv)) []) (fun _ => Q .next) E s₂) E s₁)
    (k := fun va σ₁ => match va with
      | .ref j => match σ₁[j]? with
        | some (.list _) => (e ρ σ₁).bind fun v σ₂ => opAppend j v ρ σ₂
        | _ => .stuck
      | _ => .stuck) (fun x σ₁ u news₁ am₁ s₁ S₁ e₁ o₁ r₁ => ?_) fun _ _ _ _ _ _ h p q => wpAny_mono h (fun _ _ h' => wpAny_mono h' (fun _ _ h3 => p _ _ h3) q) q).of fun Q E h => wpAny_Expr_any (MethodCall_ h (h3 _)) (hi _ V.scope) rfl
  induction x with
  | ref j =>
    dsimp only
    split
    · rename_i xs hx
      obtain ⟨b, vs, k, hb, rfl, hk, r⟩ := S₁.list C hx r₁
      have key := (hl c c.fenv s₁ m news₁ am₁ ρ σ₁ cp C V S₁).bindS (f := fun us Q E s₂ => wpAny (model g.prog g.w) c.A (call (.builtin "list.append") (.ref b :: us)) (fun _ => Q .next) E s₂)
        (k := fun vs σ₂ => match vs with | [v] => opAppend j v ρ σ₂ | _ => .stuck) (fun ys σ₂ us news₂ am₂ s₂ S₂ e₂ o₂ r₂ => ?_) fun _ _ _ _ _ _ h p q => wpAny_mono h (fun _ _ h3 => p _ _ h3) q
      · have e0 : ((lCons e lNil) ρ σ₁).bind (fun vs σ₂ => match vs with | [v] => opAppend j v ρ σ₂ | _ => .stuck) = (e ρ σ₁).bind fun v σ₂ => opAppend j v ρ σ₂ := by
          unfold lCons lNil
          cases e ρ σ₁ <;> rfl
        rw [e0] at key
        exact key.of fun Q E h => getMethod_list_of F.slot_list_append F.type_list_append (isList_of hk) ⟨_, hk, rfl⟩ (callWith_method1 h (h1 _) rfl)
      · split
        · rename_i v
          refine box fun GZ kZ => ?_
          obtain ⟨w, rfl, hw⟩ := relL_one r₂ rfl
          refine kZ ?_
          clear kZ GZ
          unfold opAppend
          split
          · rename_i xs' hx'
            split
            · rename_i hl
              refine box fun GZ kZ => ?_
              obtain ⟨b', vs', k', hb', hbb, hk', r'⟩ := S₂.list C hx' (e₂.relV r₁)
              refine kZ ?_
              clear kZ GZ
              cases hbb
              intro E
              refine append_at hk' (fun h' hs' ho' => ?_) (by simp only [List.size_toArray]; rw [r'.length]; exact maxLen_le hl.2)
              have ho2 : h'.get? b = some (listOf (List.toArray (vs' ++ [w])) (k' + 1)) := by rw [ho']; simp
              refine box fun GZ kZ => ?_
              obtain ⟨news', S', e'⟩ := S₂.update C (tk := s₂.toks) (ys := xs' ++ [v]) hx' hl.1 hb' hk' hs' ho2 (r'.append ⟨hw, trivial⟩)
              refine kZ ?_
              clear kZ GZ
              exact ⟨m, news', am₂, S', e'.more, ⟨_, _, rfl⟩, trivial⟩
            · trivial
          · trivial
        · trivial
    · trivial
  | _ => trivial
theorem storesAll (c : Act) (C : c.Ok g n) (V : EnvOk c sc false c.fenv) : ∀ (xs : List String) (vs : List MV) (us : List Value) (ts : List (Value → Sem Unit)) (s : Shared) (m : Str → Option Value) (news : List (Addr × Obj)) (am : AM) (ρ : MEnv) (σ : MH) (Q : Unit → Shared → Prop) (E : Value → Shared → Prop),
    Sim g c c.fenv m news am ρ σ s → RelL am vs us → vs.length = xs.length → (∀ x ∈ xs, Stores sc x) → ts.length = xs.length →
    (∀ (i : Nat) (x : String) (t : Value → Sem Unit), xs[i]? = some x → ts[i]? = some t → ∀ u Q E s, wpAny (model g.prog g.w) c.A (storeName c.fenv (Str.ofString x) u) Q E s → wpAny (model g.prog g.w) c.A (t u) Q E s) →
    (∀ m' news' s', Sim g c c.fenv m' news' am (updAll ρ xs vs) σ s' → Evolve (cellsX c) news am news' am → Only s s' → Q () s') → wpAny (model g.prog g.w) c.A (assignInOrder ts us) Q E s := by
  intro xs
  induction xs with
  | nil =>
    intro vs us ts s m news am ρ σ Q E S r hl hx ht hst h
    obtain rfl := List.eq_nil_of_length_eq_zero hl
    obtain rfl := List.eq_nil_of_length_eq_zero ht
    obtain rfl := List.eq_nil_of_length_eq_zero r.length
    exact assignInOrder_nil (h m news s S .refl (.refl s))
  | cons x xs ih =>
    intro vs us ts s m news am ρ σ Q E S r hl hx ht hst h
    refine box fun G0 k0 => ?_
    refine box fun GZ kZ => ?_
    obtain ⟨v, vs, rfl⟩ := List.exists_cons_of_length_eq_add_one hl
    obtain ⟨t, ts, rfl⟩ := List.exists_cons_of_length_eq_add_one ht
    obtain ⟨u, us, rfl⟩ := List.exists_cons_of_length_eq_add_one r.length
    refine kZ ?_
    clear kZ GZ
    refine k0 ?_
    clear k0 G0
    refine assignInOrder_cons (hst 0 x t rfl rfl u _ E s (store_ok C V S r.1 (hx x (.head _)) _ E fun m' news' s' S' e' o' => ?_))
    exact ih vs us ts s' m' news' am (upd ρ x v) σ Q E S' r.2 (Nat.succ.inj hl) (fun y hy => hx y (.tail _ hy)) (Nat.succ.inj ht) (fun i y t' h1 h2 => hst (i + 1) y t' h1 h2)
      fun m2 news2 s2 S2 e2 o2 => h m2 news2 s2 S2 (e'.trans e2 S2.amOk) (o'.trans o2)
noncomputable def Targets (g : Gl) (sc : Scope) (xs : List String) (elts : List Expr) : Prop :=
  ∀ env : Env, (assignEach elts env).length = xs.length ∧ (assignEach elts env).findIdx? (·.1) = none ∧
    ∀ (c : Act) (i : Nat) (x : String) (t : Value → Sem Unit), xs[i]? = some x → ((assignEach elts env).map (·.2))[i]? = some t → ∀ u Q E s, wpAny (model g.prog g.w) c.A (storeName env (Str.ofString x) u) Q E s → wpAny (model g.prog g.w) c.A (t u) Q E s
theorem okS_unpack {xs : List String} {a : ED} {ea : Expr} {elts : List Expr} {k : Nat} {tpos pos : Pos} (ha : OkE g n sc false a ea) (hx : ∀ x ∈ xs, Stores sc x) (ht : Targets g sc xs elts)
    (h1 : ∀ env, swapsWithSole [.Tuple elts k tpos] ea pos.line env = pure false) (h2 : ∀ env, swappedStores [.Tuple elts k tpos] ea env = pure none) (hq : g.loud = false := by rfl) :
    OkS g n sc (sUnpack xs a) (.Assign [.Tuple elts k tpos] ea pos) := by
  intro c s m news am ρ σ C V S
  refine ((ha c c.fenv s m news am ρ σ C V S).bindS (f := fun u Q E s₁ => wpAny (model g.prog g.w) c.A (assign (.Tuple elts k tpos) c.fenv u) (fun _ => Q .next) E s₁)
    (k := fun v σ₁ => match v with
      | .ref i => match σ₁[i]? with
        | some (.tup vs) => if vs.length = xs.length then .ok (.next, updAll ρ xs vs) σ₁ else .stuck
        | _ => .stuck
      | _ => .stuck) (fun v σ₁ u news₁ am₁ s₁ S₁ e₁ o₁ r₁ => ?_) fun _ _ _ _ _ _ h p q => wpAny_mono h (fun _ _ h3 => p _ _ h3) q).of fun Q E h => Assign_Tuple h (h1 _) (h2 _)
  induction v with
  | ref i =>
    dsimp only
    split
    · rename_i vs hv
      split
      · rename_i hlen
        refine box fun GZ kZ => ?_
        obtain ⟨b, us, k', rfl, hk, r⟩ := S₁.tup C hv r₁
        refine kZ ?_
        clear kZ GZ
        intro E
        refine box fun GZ kZ => ?_
        obtain ⟨t1, t2, t3⟩ := ht c.fenv
        refine kZ ?_
        clear kZ GZ
        refine unpackN_ S₁.F S₁.N (isTup_of hk) (C.quiet hq) (by simp only [List.size_toArray]; rw [t1, r.length, hlen]) t2 fun h' F' N' => ?_
        have S' : Sim g c c.fenv m news₁ am₁ ρ σ₁ { s₁ with heap := h' } := ⟨F', N', S₁.H, S₁.V, S₁.Ce, S₁.Ap⟩
        refine storesAll c C V xs vs us _ _ m news₁ am₁ ρ σ₁ _ E S' r hlen hx (by rw [List.length_map, t1]) (fun i x t h1 h2 => t3 c i x t h1 h2) fun m2 news2 s2 S2 e2 o2 => ?_
        exact ⟨m2, news2, am₁, S2, e2, Only.trans ⟨h', s₁.toks, rfl⟩ o2, trivial⟩
      · trivial
    · trivial
  | _ => trivial
theorem updAll_comm (ρ : MEnv) : ∀ (xs : List String) (vs : List MV) (x : String) (v : MV), x ∉ xs → updAll (upd ρ x v) xs vs = upd (updAll ρ xs vs) x v
  | [], vs, x, v, _ => by cases vs <;> rfl
  | y :: ys, [], x, v, _ => rfl
  | y :: ys, w :: ws, x, v, h => by
    have hne : x ≠ y := fun e => h (by rw [e]; exact .head _)
    show updAll (upd (upd ρ x v) y w) ys ws = upd (updAll (upd ρ y w) ys ws) x v
    rw [← updAll_comm (upd ρ y w) ys ws x v fun hm => h (.tail _ hm)]
    congr 1
    funext z
    unfold upd
    by_cases h1 : z = x
    · subst h1; rw [if_neg hne, if_pos rfl, if_pos rfl]
    · by_cases h2 : z = y
      · rw [if_pos h2, if_neg h1, if_pos h2]
      · rw [if_neg h2, if_neg h1, if_neg h1, if_neg h2]
theorem updAll_append (ρ : MEnv) : ∀ (xs ys : List String) (vs ws : List MV), vs.length = xs.length → updAll ρ (xs ++ ys) (vs ++ ws) = updAll (updAll ρ xs vs) ys ws
  | [], ys, [], ws, _ => rfl
  | x :: xs, ys, v :: vs, ws, h => updAll_append (upd ρ x v) xs ys vs ws (by simpa using h)
  | [], _, _ :: _, _, h => by cases h
  | _ :: _, _, [], _, h => by cases h
theorem updAll_reverse (ρ : MEnv) : ∀ (xs : List String) (vs : List MV), xs.Nodup → vs.length = xs.length → updAll ρ xs.reverse vs.reverse = updAll ρ xs vs
  | [], [], _, _ => rfl
  | x :: xs, v :: vs, hn, h => by
    obtain ⟨h1, h2⟩ := List.nodup_cons.mp hn
    have hl : vs.length = xs.length := by simpa using h
    rw [List.reverse_cons, List.reverse_cons, updAll_append _ _ _ _ _ (by simpa using hl), updAll_reverse ρ xs vs h2 hl]
    show upd (updAll ρ xs vs) x v = updAll (upd ρ x v) xs vs
    rw [updAll_comm _ _ _ _ _ h1]
  | [], _ :: _, _, h => by cases h
  | _ :: _, [], _, h => by cases h
theorem RelL.reverse {am : AM} {xs : List MV} {vs : List Value} (h : RelL am xs vs) : RelL am xs.reverse vs.reverse :=
  RelL.ind (P := fun xs vs => RelL am xs.reverse vs.reverse) trivial (fun _ _ _ _ h _ ih => by rw [List.reverse_cons, List.reverse_cons]; exact ih.append ⟨h, trivial⟩) h
theorem okS_pairS {xs : List String} {l : LD} {es elts : List Expr} {k k' : Nat} {tpos vpos pos : Pos} (hl : OkL g n sc false l es) (hx : ∀ x ∈ xs, Stores sc x) (hnd : xs.Nodup) (hle : xs.length ≤ 100)
    (h1 : ∀ env, swapsWithSole [.Tuple elts k tpos] (.Tuple es k' vpos) pos.line env = pure false) (h2 : ∀ env, env.scope = sc → swappedStores [.Tuple elts k tpos] (.Tuple es k' vpos) env = pure (some (xs.map Str.ofString))) (hq : g.loud = false := by rfl) :
    OkS g n sc (sPair xs l) (.Assign [.Tuple elts k tpos] (.Tuple es k' vpos) pos) := by
  intro c s m news am ρ σ C V S
  refine ((hl c c.fenv s m news am ρ σ vpos C V S).bindS (f := fun us Q E s₁ => wpAny (model g.prog g.w) c.A (newTuple us) (fun v s₂ => wpAny (model g.prog g.w) c.A (unpackItems v (xs.map Str.ofString).length none) (fun items s₃ => wpAny (model g.prog g.w) c.A (assignInOrder ((xs.map Str.ofString).reverse.map fun n => bindName c.fenv n) items.reverse) (fun _ => Q .next) E s₃) E s₂) E s₁)
    (k := fun vs σ₁ => if vs.length = xs.length then .ok (.next, updAll ρ xs vs) σ₁ else .stuck) (fun vs σ₁ us news₁ am₁ s₁ S₁ e₁ o₁ r₁ => ?_) fun _ _ _ _ _ _ h p q => wpAny_mono h (fun _ _ h' => wpAny_mono h' (fun _ _ h'' => wpAny_mono h'' (fun _ _ h3 => p _ _ h3) q) q) q).of fun Q E h => Assign_Tuple_swapped (Tuple_ h) (h1 _) (h2 _ V.scope)
  split
  · rename_i hlen
    intro E
    have hul := r₁.length
    have hsz : us.length ≤ sizeLine := by rw [hul, hlen, sizeLine_eq]; lia
    refine newTuple_N S₁.F S₁.N (fun h' F N => ?_) hsz
    refine unpackItemsN_ F N (News.isTup N (.head _)) (C.quiet hq) (by simp only [List.size_toArray, List.length_map]; rw [hul, hlen]) fun h'' F' N' => ?_
    have N2 : News c.h₀ c.L h'' news₁ := fun p hp => N' p (.tail _ hp)
    have S' : Sim g c c.fenv m news₁ am₁ ρ σ₁ { s₁ with heap := h'' } := ⟨F', N2, S₁.H, S₁.V, S₁.Ce, S₁.Ap⟩
    refine storesAll c C V xs.reverse vs.reverse us.reverse _ _ m news₁ am₁ ρ σ₁ _ E S' r₁.reverse (by simpa using hlen) (fun x hx' => hx x (List.mem_reverse.mp hx')) (by simp) ?_ fun m2 news2 s2 S2 e2 o2 => ?_
    · intro i x t h1 h2 u Q E s h
      rw [← List.map_reverse, List.map_map, List.getElem?_map, h1] at h2
      cases h2
      exact wpAny_bindName h
    · rw [updAll_reverse ρ xs vs hnd hlen] at S2
      exact ⟨m2, news2, am₁, S2, e2, Only.trans ⟨h'', s₁.toks, rfl⟩ o2, trivial⟩
  · trivial
theorem okS_pairT {xs : List String} {l : LD} {es elts : List Expr} {k k' : Nat} {tpos vpos pos : Pos} (hl : OkL g n sc false l es) (hx : ∀ x ∈ xs, Stores sc x) (ht : Targets g sc xs elts) (hle : xs.length ≤ 100)
    (h1 : ∀ env, swapsWithSole [.Tuple elts k tpos] (.Tuple es k' vpos) pos.line env = pure false) (h2 : ∀ env, env.scope = sc → swappedStores [.Tuple elts k tpos] (.Tuple es k' vpos) env = pure none) (hq : g.loud = false := by rfl) :
    OkS g n sc (sPair xs l) (.Assign [.Tuple elts k tpos] (.Tuple es k' vpos) pos) := by
  intro c s m news am ρ σ C V S
  refine ((hl c c.fenv s m news am ρ σ vpos C V S).bindS (f := fun us Q E s₁ => wpAny (model g.prog g.w) c.A (newTuple us) (fun v s₂ => wpAny (model g.prog g.w) c.A (assign (.Tuple elts k tpos) c.fenv v) (fun _ => Q .next) E s₂) E s₁)
    (k := fun vs σ₁ => if vs.length = xs.length then .ok (.next, updAll ρ xs vs) σ₁ else .stuck) (fun vs σ₁ us news₁ am₁ s₁ S₁ e₁ o₁ r₁ => ?_) fun _ _ _ _ _ _ h p q => wpAny_mono h (fun _ _ h' => wpAny_mono h' (fun _ _ h3 => p _ _ h3) q) q).of fun Q E h => Assign_Tuple (Tuple_ h) (h1 _) (h2 _ V.scope)
  split
  · rename_i hlen
    intro E
    have hul := r₁.length
    have hsz : us.length ≤ sizeLine := by rw [hul, hlen, sizeLine_eq]; lia
    refine newTuple_N S₁.F S₁.N (fun h' F N => ?_) hsz
    refine box fun GZ kZ => ?_
    obtain ⟨t1, t2, t3⟩ := ht c.fenv
    refine kZ ?_
    clear kZ GZ
    refine unpackN_ F N (News.isTup N (.head _)) (C.quiet hq) (by simp only [List.size_toArray]; rw [t1, hul, hlen]) t2 fun h'' F' N' => ?_
    have N2 : News c.h₀ c.L h'' news₁ := fun p hp => N' p (.tail _ hp)
    have S' : Sim g c c.fenv m news₁ am₁ ρ σ₁ { s₁ with heap := h'' } := ⟨F', N2, S₁.H, S₁.V, S₁.Ce, S₁.Ap⟩
    refine storesAll c C V xs vs us _ _ m news₁ am₁ ρ σ₁ _ E S' r₁ hlen hx (by rw [List.length_map, t1]) (fun i x t h1 h2 => t3 c i x t h1 h2) fun m2 news2 s2 S2 e2 o2 => ?_
    exact ⟨m2, news2, am₁, S2, e2, Only.trans ⟨h'', s₁.toks, rfl⟩ o2, trivial⟩
  · trivial
end
structure Iter (g : Gl) (c : Act) (r : Src) (am₀ : AM) (I : Addr) (St : Nat → Heap → Prop) : Prop where
  frame : ∀ i h h', St i h → (∀ o, h.get? I = some o → h'.get? I = some o) → St i h'
  there : ∀ i h, St i h → ∃ o vs, h.get? I = some o ∧ o.data = .fields vs
  item : ∀ i (s : Shared) env m news am ρ σ x, Sim g c env m news am ρ σ s → (∃ ext, am = am₀ ++ ext) → r.stands σ = true → St i s.heap → r.items[i]? = some x → ∀ Q E,
    (∀ v h' tk, RelV am x v → St (i + 1) h' → (∀ b o, b ≠ I → s.heap.get? b = some o → h'.get? b = some o) → Q (some v) { s with heap := h', toks := tk }) → wpAny (model g.prog g.w) c.A (pyNext (.ref I)) Q E s
  done : ∀ i (s : Shared) env m news am ρ σ, Sim g c env m news am ρ σ s → (∃ ext, am = am₀ ++ ext) → r.stands σ = true → St i s.heap → r.items.length ≤ i → i ≤ r.items.length → ∀ Q E,
    (∀ h' tk, (∀ b o, b ≠ I → s.heap.get? b = some o → h'.get? b = some o) → Q none { s with heap := h', toks := tk }) → wpAny (model g.prog g.w) c.A (pyNext (.ref I)) Q E s
  fresh : I ≠ c.L ∧ c.h₀.get? I = none
  self : ∀ i (s : Shared) Q E, St i s.heap → Q (.ref I) s → wpAny (model g.prog g.w) c.A (pyIter (.ref I)) Q E s
noncomputable def OkR (g : Gl) (n : Nat) (sc : Scope) (inner : Bool) (d : RD) (e : Expr) : Prop :=
  ∀ (c : Act) (env : Env) (s : Shared) (m : Str → Option Value) (news : List (Addr × Obj)) (am : AM) (ρ : MEnv) (σ : MH),
    c.Ok g n → EnvOk c sc inner env → Sim g c env m news am ρ σ s →
    match d ρ σ with
    | .stuck => True
    | .ok r σ' => ∀ Q E, (∀ I St s' news' am', Sim g c env m news' am' ρ σ' s' → Evolve [] news am news' am' → Only s s' → Iter g c r am' I St → St 0 s'.heap → r.stands σ' = true → (∀ p ∈ news', p.1 ≠ I) → ¬ InAm I am' → Q (.ref I) s') →
        wpAny (model g.prog g.w) c.A (eval e env) (fun x s₁ => wpAny (model g.prog g.w) c.A (pyIter x) Q E s₁) E s
    | .exc cl msg σ' => ∀ Q E, (∀ x s', Fly g c cl msg (fun m' => m' = m) [] news am s σ' x s' → E x s') → wpAny (model g.prog g.w) c.A (eval e env) (fun x s₁ => wpAny (model g.prog g.w) c.A (pyIter x) Q E s₁) E s
section
variable {g : Gl} {n : Nat} {c : Act} {env : Env} {m : Str → Option Value} {news : List (Addr × Obj)} {am : AM} {ρ : MEnv} {σ : MH} {s : Shared}
theorem Sim.keeps (S : Sim g c env m news am ρ σ s) {h' : Heap} {tk : Nat} (hk : ∀ b o, s.heap.get? b = some o → h'.get? b = some o) : Sim g c env m news am ρ σ { s with heap := h', toks := tk } :=
  ⟨S.F.keeps hk, fun p hp => ⟨hk _ _ (S.N p hp).1, (S.N p hp).2⟩, S.H, S.V, S.Ce, S.Ap⟩
theorem Sim.not_size (C : c.Ok g n) (S : Sim g c env m news am ρ σ s) {I : Addr} (hI : s.heap.get? I = none) : (∀ p ∈ news, p.1 ≠ I) ∧ ¬ InAm I am ∧ I ≠ c.L ∧ c.h₀.get? I = none := by
  refine ⟨fun p hp e => ?_, ?_, ?_, ?_⟩
  · have := (S.N p hp).1; rw [e, hI] at this; cases this
  · rintro hb1
    refine box fun G0 k0 => ?_
    obtain ⟨i, q, hq, hr⟩ := hb1
    obtain ⟨⟨o1, h1⟩, ⟨o2, h2⟩⟩ := S.held C hq
    refine k0 ?_
    clear k0 G0
    rcases hr with e | e
    · rw [e, hI] at h1; cases h1
    · rw [e, hI] at h2; cases h2
  · intro e
    refine box fun G0 k0 => ?_
    obtain ⟨oL, _, _, hL, _⟩ := S.F.ns
    refine k0 ?_
    clear k0 G0
    rw [← e, hI] at hL; cases hL
  · cases q : c.h₀.get? I with
    | none => rfl
    | some o => have := S.F.keep _ _ q; rw [hI] at this; cases this
theorem iter_of_walks {r : Src} {I : Addr} {P : Nat → Value → Prop} {St : Nat → Heap → Prop} {k : Nat} (W : Walks g.prog g.w c.A I [I] [I] k P St) (hk : k = r.items.length)
    (hP : ∀ i v x am, P i v → r.items[i]? = some x → RelV am x v) (hth : ∀ i h, St i h → ∃ o vs, h.get? I = some o ∧ o.data = .fields vs) (hf : I ≠ c.L ∧ c.h₀.get? I = none) : Iter g c r am I St where
  frame := fun i h h' st hh => W.frame i h h' st fun b hb o e => by rw [List.mem_singleton.mp hb] at e ⊢; exact hh o e
  there := hth
  item := fun i s env m news am ρ σ x S hx hs st hi Q E h => by
    have hl : i < k := by
      rw [hk]
      rcases Nat.lt_or_ge i r.items.length with h' | h'
      · exact h'
      · rw [List.getElem?_eq_none h'] at hi; cases hi
    exact W.item i s Q E hl st fun v h' tk hp st' hkk => h v h' tk (hP i v x am hp hi) st' fun b o hb e => hkk b o (fun hm => hb (List.mem_singleton.mp hm)) e
  done := fun i s env m news am ρ σ S hx hs st h1 h2 Q E h => by
    obtain rfl : i = k := by lia
    exact W.done s Q E st fun h' tk hkk => h h' tk fun b o hb e => hkk b o (fun hm => hb (List.mem_singleton.mp hm)) e
  fresh := hf
  self := fun i s Q E st h => W.self i s Q E st h
theorem rangeSize_up {x y : Int} : Builtin.Range.rangeSize x y 1 = ((y - x).toNat : Int) := rangeSize_nat x y
theorem rangeSize_down {x : Int} : Builtin.Range.rangeSize x (-1) (-1) = ((x + 1).toNat : Int) := by
  unfold Builtin.Range.rangeSize
  rw [if_neg (by decide)]
  split
  · rename_i h
    have e : (x - -1 - 1) / - -1 = x := by rw [show (- -1 : Int) = 1 from rfl, Int.ediv_one]; lia
    rw [e]; lia
  · rename_i h; lia
theorem fits_of {x : Int} (h1 : -10000000 ≤ x) (h2 : x ≤ 10000000) : Builtin.Range.rangeFitsLong x = true := by
  unfold Builtin.Range.rangeFitsLong
  rw [Bool.and_eq_true, decide_eq_true_eq, decide_eq_true_eq]
  lia
theorem small_up {x y : Int} (hx : -1000000 ≤ x ∧ x ≤ 1000000) (hy : -1000000 ≤ y ∧ y ≤ 1000000) : Builtin.Range.small x y 1 = true := by
  unfold Builtin.Range.small
  rw [rangeSize_up, fits_of (by lia) (by lia), fits_of (by lia) (by lia), fits_of (by lia) (by lia), fits_of (by lia) (by lia), if_pos (by decide), fits_of (by lia) (by lia)]
  simp
theorem small_down {x : Int} (hx : -1000000 ≤ x ∧ x ≤ 1000000) : Builtin.Range.small x (-1) (-1) = true := by
  unfold Builtin.Range.small
  rw [rangeSize_down, fits_of (by lia) (by lia), fits_of (by lia) (by lia), fits_of (by lia) (by lia), if_neg (by decide), fits_of (by lia) (by lia)]
  simp
theorem den_range (hq : g.loud = false) {x y z : Int} {k : Nat} {R : Addr} {t u v : Tok} (C : c.Ok g n) (S : Sim g c env m news am ρ σ s) (hR : IsRange s.heap R x y z t u v) (hs : Builtin.Range.small x y z = true) (hk : Builtin.Range.rangeSize x y z = (k : Int))
    (Q : Value → Shared → Prop) (E : Value → Shared → Prop)
    (h : ∀ I St s', Sim g c env m news am ρ σ s' → Only s s' → Iter g c (.range x z k) am I St → St 0 s'.heap → (∀ p ∈ news, p.1 ≠ I) → ¬ InAm I am → Q (.ref I) s') : wpAny (model g.prog g.w) c.A (pyIter (.ref R)) Q E s := by
  refine wpAny_pyIter_range hR hs ?_
  refine box fun G0 k0 => ?_
  obtain ⟨n1, n2, n3, n4⟩ := S.not_size C (get_size_none s.heap)
  refine k0 ?_
  clear k0 G0
  refine h s.heap.objs.size _ _ (S.keeps (tk := s.toks) fun b o e => Heap.get?_push_of_some _ e) ⟨_, _, rfl⟩ (iter_of_walks (Walks.range (C.quiet hq) s.heap.objs.size x z k) (by simp [Src.items]) ?_ ?_ ⟨n3, n4⟩) ?_ n1 n2
  · rintro i v x' am ⟨t, rfl⟩ hx
    simp only [Src.items, List.getElem?_map] at hx
    cases hi : (List.range k)[i]? with
    | none => rw [hi] at hx; cases hx
    | some j =>
      rw [hi] at hx
      cases hx
      have : j = i := by
        rcases Nat.lt_or_ge i k with h' | h'
        · rw [List.getElem?_range h'] at hi; exact (Option.some.inj hi).symm
        · rw [List.getElem?_eq_none (by simpa using h')] at hi; cases hi
      subst this
      exact ⟨t, rfl⟩
  · intro i h st; exact ⟨_, _, st, rfl⟩
  · show IsRangeIter _ _ _ _ _
    unfold IsRangeIter
    rw [Heap.get?_push_size _ rfl, hk]
    simp
end
section
variable {g : Gl} {n : Nat} {sc : Scope} {inner : Bool}
theorem okR_range1 {a : ED} {ea : Expr} {pos xp : Pos} (ha : OkE g n sc inner a ea) (hx : NameIs g n sc inner "range" (.type "range"))
    (h1 : ∀ env, starEach [ea] env = (false, eval ea env) :: starEach [] env)
    (h3 : ∀ env, eval (.Call (.Name "range" xp) [ea] [] pos) env = (do callWith pos (← eval (.Name "range" xp) env) [] (backTo pos (starEach [ea] env)) (backToKw pos (keywordEach [] env)))) (hq : g.loud = false := by rfl) : OkR g n sc inner (rRange1 a) (.Call (.Name "range" xp) [ea] [] pos) := by
  intro c env s m news am ρ σ C V S
  have hl : OkL g n sc inner (lCons a lNil) [ea] := okL_cons ha okL_nil h1
  have H := hl c env s m news am ρ σ pos C V S
  have e0 : lCons a lNil ρ σ = (a ρ σ).bind fun v σ₁ => .ok [v] σ₁ := rfl
  rw [e0] at H
  have enter : ∀ Q E, wpAny (model g.prog g.w) c.A (spliced (backTo pos (starEach [ea] env))) (fun us s₁ => wpAny (model g.prog g.w) c.A (call (.type "range") us) (fun x s₂ => wpAny (model g.prog g.w) c.A (pyIter x) Q E s₂) E s₁) E s →
      wpAny (model g.prog g.w) c.A (eval (.Call (.Name "range" xp) [ea] [] pos) env) (fun x s₁ => wpAny (model g.prog g.w) c.A (pyIter x) Q E s₁) E s := fun Q E h =>
    Call_ (hx c env s m news am ρ σ xp _ E C V S (PyProof.Rows.callWith_type1 h (h1 env) rfl)) (h3 env)
  unfold rRange1
  revert H
  cases a ρ σ with
  | stuck => intro _; trivial
  | exc cl msg σ' => intro H Q E hE; exact enter Q E (H _ _ hE)
  | ok v σ₁ =>
    intro H
    induction v with
    | int y =>
      dsimp only [R.bind_ok]
      by_cases hs : small y = true
      · rw [if_pos hs]
        have hs' := small_bd hs
        intro Q E hQ
        refine enter Q E (wpAny_mono (H E) (fun us s₁ hb2 => ?_) fun _ _ x => x)
        refine box fun G0 k0 => ?_
        obtain ⟨news₁, am₁, S₁, e₁, o₁, r₁⟩ := hb2
        obtain ⟨u, rfl, t, rfl⟩ := relL_one r₁ rfl
        refine k0 ?_
        clear k0 G0
        refine range1_rows S₁.F S₁.N fun h' tk t₁ u₁ v₁ hR F N hk => ?_
        have S₂ : Sim g c env m news₁ am₁ ρ σ₁ { s₁ with heap := h', toks := tk } := ⟨F, N, S₁.H, S₁.V, S₁.Ce, S₁.Ap⟩
        refine den_range hq C S₂ hR (small_up ⟨by lia, by lia⟩ hs') (by rw [rangeSize_up, Int.sub_zero]) Q E fun I St s' S' o' It st n1 n2 => ?_
        exact hQ I St s' news₁ am₁ S' e₁ ((o₁.trans ⟨_, _, rfl⟩).trans o') It st rfl n1 n2
      · rw [if_neg hs]; trivial
    | _ => trivial
theorem okR_range {a b : ED} {ea eb : Expr} {pos xp : Pos} (ha : OkE g n sc inner a ea) (hb : OkE g n sc inner b eb) (hx : NameIs g n sc inner "range" (.type "range"))
    (h1 : ∀ env, starEach [ea, eb] env = (false, eval ea env) :: starEach [eb] env) (h1' : ∀ env, starEach [eb] env = (false, eval eb env) :: starEach [] env) (h2 : ∀ env, (backTo pos (starEach [eb] env)).any (·.1) = false)
    (h3 : ∀ env, eval (.Call (.Name "range" xp) [ea, eb] [] pos) env = (do callWith pos (← eval (.Name "range" xp) env) [] (backTo pos (starEach [ea, eb] env)) (backToKw pos (keywordEach [] env)))) (hq : g.loud = false := by rfl) : OkR g n sc inner (rRange a b) (.Call (.Name "range" xp) [ea, eb] [] pos) := by
  intro c env s m news am ρ σ C V S
  have hl : OkL g n sc inner (lCons a (lCons b lNil)) [ea, eb] := okL_cons ha (okL_cons hb okL_nil h1') h1
  have H := hl c env s m news am ρ σ pos C V S
  have e0 : lCons a (lCons b lNil) ρ σ = (a ρ σ).bind fun v σ₁ => (b ρ σ₁).bind fun w σ₂ => .ok [v, w] σ₂ := by
    unfold lCons lNil
    cases a ρ σ with
    | ok v σ₁ => show ((b ρ σ₁).bind _).bind _ = (b ρ σ₁).bind _; cases b ρ σ₁ <;> rfl
    | _ => rfl
  rw [e0] at H
  have enter : ∀ Q E, wpAny (model g.prog g.w) c.A (spliced (backTo pos (starEach [ea, eb] env))) (fun us s₁ => wpAny (model g.prog g.w) c.A (call (.type "range") us) (fun x s₂ => wpAny (model g.prog g.w) c.A (pyIter x) Q E s₂) E s₁) E s →
      wpAny (model g.prog g.w) c.A (eval (.Call (.Name "range" xp) [ea, eb] [] pos) env) (fun x s₁ => wpAny (model g.prog g.w) c.A (pyIter x) Q E s₁) E s := fun Q E h =>
    Call_ (hx c env s m news am ρ σ xp _ E C V S (PyProof.Rows.callWith_type1 h (h1 env) (h2 env))) (h3 env)
  unfold rRange
  revert H
  cases a ρ σ with
  | stuck => intro _; trivial
  | exc cl msg σ' => intro H Q E hE; exact enter Q E (H _ _ hE)
  | ok v σ₁ =>
    simp only [R.bind_ok]
    cases b ρ σ₁ with
    | stuck => intro _; trivial
    | exc cl msg σ' => intro H Q E hE; exact enter Q E (H _ _ hE)
    | ok w σ₂ =>
      intro H
      simp only [R.bind_ok] at H ⊢
      induction v with
      | int x =>
        induction w with
        | int y =>
          dsimp only
          by_cases hs : (small x && small y) = true
          · rw [if_pos hs]
            rw [Bool.and_eq_true] at hs
            have hx' := small_bd hs.1
            have hy' := small_bd hs.2
            intro Q E hQ
            refine enter Q E (wpAny_mono (H E) (fun us s₁ hb3 => ?_) fun _ _ x => x)
            refine box fun G0 k0 => ?_
            obtain ⟨news₁, am₁, S₁, e₁, o₁, r₁⟩ := hb3
            obtain ⟨u, u', rfl, ⟨t, rfl⟩, t', rfl⟩ := relL_two r₁ rfl
            refine k0 ?_
            clear k0 G0
            refine range2_rows S₁.F S₁.N fun h' tk t₁ u₁ v₁ hR F N hk => ?_
            have S₂ : Sim g c env m news₁ am₁ ρ σ₂ { s₁ with heap := h', toks := tk } := ⟨F, N, S₁.H, S₁.V, S₁.Ce, S₁.Ap⟩
            refine den_range hq C S₂ hR (small_up hx' hy') rangeSize_up Q E fun I St s' S' o' It st n1 n2 => ?_
            exact hQ I St s' news₁ am₁ S' e₁ ((o₁.trans ⟨_, _, rfl⟩).trans o') It st rfl n1 n2
          · rw [if_neg hs]; trivial
        | _ => trivial
      | _ => cases w <;> trivial
theorem okR_down {a : ED} {ea e1 e2 : Expr} {pos xp : Pos} (ha : OkE g n sc inner a ea) (hb1 : OkE g n sc inner (eVal (.int (-1))) e1) (hb2 : OkE g n sc inner (eVal (.int (-1))) e2) (hx : NameIs g n sc inner "range" (.type "range"))
    (h1 : ∀ env, starEach [ea, e1, e2] env = (false, eval ea env) :: starEach [e1, e2] env) (h1' : ∀ env, starEach [e1, e2] env = (false, eval e1 env) :: starEach [e2] env) (h1'' : ∀ env, starEach [e2] env = (false, eval e2 env) :: starEach [] env)
    (h2 : ∀ env, (backTo pos (starEach [e1, e2] env)).any (·.1) = false)
    (h3 : ∀ env, eval (.Call (.Name "range" xp) [ea, e1, e2] [] pos) env = (do callWith pos (← eval (.Name "range" xp) env) [] (backTo pos (starEach [ea, e1, e2] env)) (backToKw pos (keywordEach [] env)))) (hq : g.loud = false := by rfl) : OkR g n sc inner (rDown a) (.Call (.Name "range" xp) [ea, e1, e2] [] pos) := by
  intro c env s m news am ρ σ C V S
  have hl : OkL g n sc inner (lCons a (lCons (eVal (.int (-1))) (lCons (eVal (.int (-1))) lNil))) [ea, e1, e2] := okL_cons ha (okL_cons hb1 (okL_cons hb2 okL_nil h1'') h1') h1
  have H := hl c env s m news am ρ σ pos C V S
  have e0 : lCons a (lCons (eVal (.int (-1))) (lCons (eVal (.int (-1))) lNil)) ρ σ = (a ρ σ).bind fun v σ₁ => .ok [v, .int (-1), .int (-1)] σ₁ := rfl
  rw [e0] at H
  have enter : ∀ Q E, wpAny (model g.prog g.w) c.A (spliced (backTo pos (starEach [ea, e1, e2] env))) (fun us s₁ => wpAny (model g.prog g.w) c.A (call (.type "range") us) (fun x s₂ => wpAny (model g.prog g.w) c.A (pyIter x) Q E s₂) E s₁) E s →
      wpAny (model g.prog g.w) c.A (eval (.Call (.Name "range" xp) [ea, e1, e2] [] pos) env) (fun x s₁ => wpAny (model g.prog g.w) c.A (pyIter x) Q E s₁) E s := fun Q E h =>
    Call_ (hx c env s m news am ρ σ xp _ E C V S (PyProof.Rows.callWith_type1 h (h1 env) (h2 env))) (h3 env)
  unfold rDown
  revert H
  cases a ρ σ with
  | stuck => intro _; trivial
  | exc cl msg σ' => intro H Q E hE; exact enter Q E (H _ _ hE)
  | ok v σ₁ =>
    intro H
    simp only [R.bind_ok] at H ⊢
    induction v with
    | int y =>
      dsimp only
      by_cases hs : small y = true
      · rw [if_pos hs]
        have hs' := small_bd hs
        intro Q E hQ
        refine enter Q E (wpAny_mono (H E) (fun us s₁ hb4 => ?_) fun _ _ x => x)
        refine box fun G0 k0 => ?_
        obtain ⟨news₁, am₁, S₁, e₁, o₁, r₁⟩ := hb4
        refine k0 ?_
        clear k0 G0
        induction us with
        | nil => exact r₁.elim
        | cons u us =>
          refine box fun G0 k0 => ?_
          obtain ⟨⟨t, rfl⟩, r₁⟩ := r₁
          obtain ⟨u', u'', rfl, ⟨t', rfl⟩, t'', rfl⟩ := relL_two r₁ rfl
          refine k0 ?_
          clear k0 G0
          refine range3_rows S₁.F S₁.N (by decide) fun h' tk t₁ u₁ v₁ hR F N hk => ?_
          have S₂ : Sim g c env m news₁ am₁ ρ σ₁ { s₁ with heap := h', toks := tk } := ⟨F, N, S₁.H, S₁.V, S₁.Ce, S₁.Ap⟩
          refine den_range hq C S₂ hR (small_down hs') rangeSize_down Q E fun I St s' S' o' It st n1 n2 => ?_
          exact hQ I St s' news₁ am₁ S' e₁ ((o₁.trans ⟨_, _, rfl⟩).trans o') It st rfl n1 n2
      · rw [if_neg hs]; trivial
    | _ => trivial
theorem str_items {z : Str} {i : Nat} {x : MV} (h : (Src.chars z).items[i]? = some x) : ∃ cp, z.cps[i]? = some cp ∧ x = .str ⟨#[cp]⟩ := by
  simp only [Src.items, List.getElem?_map] at h
  rw [Array.getElem?_toList] at h
  cases hc : z.cps[i]? with
  | none => rw [hc] at h; cases h
  | some cp => rw [hc] at h; cases h; exact ⟨cp, rfl, rfl⟩
theorem okR_list {a : ED} {ea : Expr} (ha : OkE g n sc inner a ea) (hq : g.loud = false := by rfl) : OkR g n sc inner (rList a) ea := by
  intro c env s m news am ρ σ C V S
  have H := ha c env s m news am ρ σ C V S
  unfold rList
  revert H
  cases a ρ σ with
  | stuck => intro _; trivial
  | exc cl msg σ' => intro H Q E hE; exact H _ _ hE
  | ok v σ₁ =>
    intro H
    simp only [R.bind_ok]
    induction v with
    | ref id =>
      dsimp only
      cases hi : σ₁[id]? with
      | none => trivial
      | some o =>
        induction o with
        | list xs =>
          dsimp only
          intro Q E hQ
          refine wpAny_mono (H E) (fun u s₁ hb5 => ?_) fun _ _ x => x
          refine box fun G0 k0 => ?_
          obtain ⟨news₁, am₁, S₁, e₁, o₁, r₁⟩ := hb5
          have r₀ := r₁
          obtain ⟨b, vs, k, hb, rfl, hk, r⟩ := S₁.list C hi r₁
          obtain ⟨n1, n2, n3, n4⟩ := S₁.not_size C (get_size_none s₁.heap)
          refine k0 ?_
          clear k0 G0
          have hne : b ≠ s₁.heap.objs.size := Nat.ne_of_lt (Heap.lt_size hk)
          refine wpAny_pyIter_list (isList_of hk) (hQ s₁.heap.objs.size (fun i h => h.IsListIter s₁.heap.objs.size b i) _ news₁ am₁ (S₁.keeps (tk := s₁.toks) fun b o e => Heap.get?_push_of_some _ e) e₁ (o₁.trans ⟨_, _, rfl⟩) ⟨?_, ?_, ?_, ?_, ⟨n3, n4⟩, fun i s Q E st h => wpAny_pyIter_listiter st h⟩ ⟨_, Heap.get?_push_size _ rfl, rfl, rfl⟩ (by simp [Src.stands, hi]) n1 n2)
          · rintro i h h' ⟨o, ho, r⟩ hh; exact ⟨o, hh o ho, r⟩
          · rintro i h ⟨o, ho, hc, hd⟩; exact ⟨o, _, ho, hd⟩
          · intro i s2 env2 m2 news2 am2 ρ2 σ2 x S2 hext hst st hx Q2 E2 h2
            refine box fun G0 k0 => ?_
            obtain ⟨ext, rfl⟩ := hext
            have hst' : σ2[id]? = some (.list xs) := by simpa [Src.stands] using hst
            obtain ⟨b', vs', k', hb', hu', hk', r'⟩ := S2.list C hst' r₀.grow
            refine k0 ?_
            clear k0 G0
            cases hu'
            refine box fun G0 k0 => ?_
            obtain ⟨v', hv', rv'⟩ := r'.get hx
            refine k0 ?_
            clear k0 G0
            refine wpAny_pyNext_list_item st (isList_of hk') (x := v') (by simpa using hv') fun h' hit' hs' => ?_
            exact h2 v' h' s2.toks rv' hit' fun b o hb e => (hs'.2 b hb).trans e
          · intro i s2 env2 m2 news2 am2 ρ2 σ2 S2 hext hst st h1 h2' Q2 E2 h2
            refine box fun G0 k0 => ?_
            obtain ⟨ext, rfl⟩ := hext
            have hst' : σ2[id]? = some (.list xs) := by simpa [Src.stands] using hst
            obtain ⟨b', vs', k', hb', hu', hk', r'⟩ := S2.list C hst' r₀.grow
            refine k0 ?_
            clear k0 G0
            cases hu'
            refine wpAny_pyNext_list_end (C.quiet hq) st (isList_of hk') (by have := r'.length; simp only [Src.items] at h1; simp; lia) fun h' he' => ?_
            exact h2 h' s2.toks fun b o hb e => he' b o hb e
        | _ => trivial
    | str z =>
      dsimp only
      intro Q E hQ
      refine wpAny_mono (H E) (fun u s₁ hb6 => ?_) fun _ _ x => x
      refine box fun G0 k0 => ?_
      obtain ⟨news₁, am₁, S₁, e₁, o₁, r₁⟩ := hb6
      obtain ⟨t, rfl⟩ := r₁
      obtain ⟨n1, n2, n3, n4⟩ := S₁.not_size C (get_size_none s₁.heap)
      refine k0 ?_
      clear k0 G0
      refine wpAny_pyIter_strU (hQ s₁.heap.objs.size (fun i h => h.IsStrIter s₁.heap.objs.size (strIterType z) z t i) _ news₁ am₁ (S₁.keeps (tk := s₁.toks) fun b o e => Heap.get?_push_of_some _ e) e₁ (o₁.trans ⟨_, _, rfl⟩) ?_ ⟨_, Heap.get?_push_size _ rfl, rfl, rfl⟩ rfl n1 n2)
      have hsz : z.cps.size = (Src.chars z).items.length := by simp [Src.items]
      have hP : ∀ i v x am, SignAt z i v → (Src.chars z).items[i]? = some x → RelV am x v := by
        rintro i v x am hb7 hx
        refine box fun G0 k0 => ?_
        obtain ⟨cp, u, hcp, rfl⟩ := hb7
        obtain ⟨cp', hcp', rfl⟩ := str_items hx
        refine k0 ?_
        clear k0 G0
        rw [hcp] at hcp'
        cases hcp'
        exact ⟨u, rfl⟩
      cases ha : z.cps.all (· < 128)
      · have e : strIterType z = "str_iterator" := by unfold strIterType; rw [ha]; rfl
        rw [e]
        exact iter_of_walks (Walks.strWide (C.quiet hq) s₁.heap.objs.size z t) hsz hP (fun i h ⟨o, ho, hc, hd⟩ => ⟨o, _, ho, hd⟩) ⟨n3, n4⟩
      · have e : strIterType z = "str_ascii_iterator" := by unfold strIterType; rw [ha]; rfl
        rw [e]
        exact iter_of_walks (Walks.strAscii (C.quiet hq) s₁.heap.objs.size z t) hsz hP (fun i h ⟨o, ho, hc, hd⟩ => ⟨o, _, ho, hd⟩) ⟨n3, n4⟩
    | _ => trivial
end
section
variable {M : Model} {A : Around} {E : Value → Shared → Prop} {s : Shared}
theorem note_first {base : Heap} {env : Env} {outer : List Env} {L e : Addr} {oe : Obj} {vs : Array Value} {a0 : Value} {Q : Unit → Shared → Prop}
    (hfr : A.frames = some (env :: outer)) (hl : s.heap.FunFrames base (env :: outer)) (hf : env.frame = some L)
    (he : s.heap.get? e = some oe) (hkb : base.StaysIn s.heap) (hen : base.get? e = none) (hd : oe.data = .fields vs) (h1 : vs[1]? = some .none) (h0 : vs[0]? = some a0)
    (h : ∀ h', Heap.NotedW base (env :: outer) e oe.cls a0 (rawInt L) s.heap h' → Q () { s with heap := h' }) : wpAny M A (noteFrame (.ref e) env) Q E s := by
  unfold noteFrame
  simp only [hf]
  refine wpAny_bind (wpAny_field he hd h1 ?_)
  rw [if_neg (by decide)]
  exact wpAny_entryW hfr hl hf he hkb hen hd (Array.getElem?_eq_some_iff.mp h1).1 h0 h
theorem flight_some {base : Heap} {l : List Env} {e L : Addr} {cls a0 fl : Value} {Q : Unit → Shared → Prop}
    (hkb : base.StaysIn s.heap) (hl : s.heap.FunFrames base l) (ht : s.heap.TracedAtW base e cls a0 fl)
    (h : ∀ h', base.StaysIn h' → h'.FunFrames base l → h'.TracedAtW base e cls a0 (rawInt L) → s.heap.UpToSlots h' → Q () { s with heap := h' }) :
    wpAny M A (do
      if (← field (.ref e) 1) == .none then unsupported "frame.own-activation:exception-without-traceback"
      setFlight (.ref e) (some L)) Q E s := by
  refine box fun G0 k0 => ?_
  obtain ⟨oe, vs, T, oT, ts, he, hcls, hd, h1, hnT, hTe, hT, hdT, h3⟩ := ht
  refine k0 ?_
  clear k0 G0
  have hsz3 : 3 < ts.size := (Array.getElem?_eq_some_iff.mp h3).1
  have other : ∀ b, b ≠ T → (s.heap.update T (Obj.mapFields (·.setIfInBounds 3 ((some L).elim Value.none fun f => rawInt f)))).get? b = s.heap.get? b :=
    fun b hb => Heap.get?_update_other _ _ (Ne.symm hb)
  have noRecord : ∀ b o, s.heap.get? b = some o → (∀ vs, o.data ≠ .fields vs) → b ≠ T := fun b o hb hnf q => by
    rw [q, hT] at hb; injection hb with hb; subst hb; exact hnf ts hdT
  refine wpAny_bind (wpAny_field he hd h1 ?_)
  rw [if_neg (show ¬ ((Value.ref T == Value.none) = true) from by simp)]
  unfold setFlight
  refine wpAny_bind (wpAny_field he hd h1 ?_)
  rw [if_pos (show (Value.ref T != Value.none) = true from by simp)]
  refine wpAny_setField hT hdT hsz3 (h _ (fun b o hbo => (other b fun q => by rw [q, hnT] at hbo; cases hbo).trans (hkb b o hbo))
    (hl.of_keeps fun b o hb hnf => ⟨o, (other b (noRecord b o hb hnf)).trans hb, rfl⟩) ?_ fun b o hb hnf => ⟨o.slots, (other b (noRecord b o hb hnf)).trans hb⟩)
  exact ⟨oe, vs, T, _, _, (other e (Ne.symm hTe)).trans he, hcls, hd, h1, hnT, hTe, Heap.get?_update_self _ hT (Obj.isFreed_of_fields (Obj.data_mapFields hdT _)), Obj.data_mapFields hdT _, by simp [hsz3]⟩
end
section
variable {g : Gl} {n : Nat} {c : Act} {cl : Bool} {msg : Str} {news : List (Addr × Obj)} {e t : Addr} {tk : Tok} {G B : Heap} {m : Str → Option Value} {h h' : Heap}
theorem FlyAt.step {fl : Value} (f : FlyAt g c cl msg news e t tk G B m h) (k1 : B.StaysIn h') (k2 : h'.FunFrames B (c.fenv :: c.outer)) (k3 : h'.TracedAtW B e (.ref (g.ec cl)) (.ref t) fl) (k4 : h.UpToSlots h') (hfl : fl = .none ∨ fl = rawInt c.L) :
    FlyAt g c cl msg news e t tk G B m h' :=
  ⟨f.fr, f.upTo.trans k4, f.tup.of_slots k4, f.tNew, f.bStays, f.below, f.led, k1, f.eNew, k2, .inr ⟨fl, hfl, k3⟩⟩
theorem FlyAt.note {M : Model} {E : Value → Shared → Prop} {s : Shared} {Q : Unit → Shared → Prop} (C : c.Ok g n) (f : FlyAt g c cl msg news e t tk G B m s.heap)
    (hQ : ∀ h', FlyAt g c cl msg news e t tk G B m h' → h'.TracedAtW B e (.ref (g.ec cl)) (.ref t) (rawInt c.L) → Q () { s with heap := h' }) : wpAny M c.A (noteFrame (.ref e) c.fenv) Q E s := by
  have fin : ∀ h', Heap.NotedW B (c.fenv :: c.outer) e (.ref (g.ec cl)) (.ref t) (rawInt c.L) s.heap h' → Q () { s with heap := h' } := fun h' ⟨k1, k2, k3, k4⟩ => hQ h' (f.step k1 k2 k3 k4 (.inr rfl)) k3
  rcases f.exc with he | ⟨fl, rfl | rfl, ht⟩
  · exact note_first C.frames f.frames C.frame he f.stays f.eNew rfl rfl rfl fin
  · exact wpAny_noteFrame_onW C.frames f.frames C.frame ht f.stays f.eNew fin
  · exact wpAny_noteFrame_againW C.frame ht (hQ s.heap f ht)
theorem FlyAt.back {M : Model} {E : Value → Shared → Prop} {s : Shared} (C : c.Ok g n) (f : FlyAt g c cl msg news e t tk G B m s.heap) (ht : s.heap.TracedAtW B e (.ref (g.ec cl)) (.ref t) (rawInt c.L))
    (hE : ∀ h', FlyAt g c cl msg news e t tk G B m h' → E (.ref e) { s with heap := h' }) : cameBackBy M c.A c.fenv E (.ref e) s := by
  unfold cameBackBy
  rw [C.frame]
  exact flight_some f.stays f.frames ht fun h' k1 k2 k3 k4 => hE h' (f.step k1 k2 k3 k4 (.inr rfl))
theorem FlyAt.leave {M : Model} {E : Value → Shared → Prop} {s : Shared} {Q : Unit → Shared → Prop} (C : c.Ok g n) (f : FlyAt g c cl msg news e t tk G B m s.heap)
    (hQ : ∀ h', FlyAt g c cl msg news e t tk G B m h' → h'.TracedAtW B e (.ref (g.ec cl)) (.ref t) .none → Q () { s with heap := h' }) : wpAny M c.A (leaving c.fenv (.ref e)) Q E s := by
  have fin : ∀ h', Heap.LeftW B (c.fenv :: c.outer) e (.ref (g.ec cl)) (.ref t) s.heap h' → Q () { s with heap := h' } := fun h' ⟨k1, k2, k3, k4⟩ => hQ h' (f.step k1 k2 k3.at k4 (.inl rfl)) k3.at
  rcases f.exc with he | ⟨fl, rfl | rfl, ht⟩
  · exact wpAny_leaving_firstW C.frames f.frames C.frame he f.stays f.eNew rfl rfl rfl fin
  · exact wpAny_leaving_nextW C.frames f.frames C.frame ht f.stays f.eNew fin
  · unfold leaving
    refine wpAny_bind (wpAny_noteFrame_againW C.frame ht ?_)
    exact wpAny_setFlight_noneW f.stays f.frames ht fun h' k1 k2 k3 k4 => fin h' ⟨k1, k2, k3, fun b o hb hn => ⟨o.slots, k4 b o hb hn⟩⟩
theorem FlyAt.core {s : Shared} {hh : Heap} {M : (Str → Option Value) → Prop} (f : FlyAt g c cl msg news e t tk G B m hh) (hM : M m) (e' : s.heap = hh) : FlyCore g c cl msg M news (.ref e) s := ⟨e, t, tk, G, B, m, rfl, hM, e' ▸ f⟩
theorem FlyAt.made {env : Env} {am : AM} {ρ : MEnv} {σ : MH} {s : Shared} (C : c.Ok g n) (S : Sim g c env m news am ρ σ s) {tk : Tok} (x : Heap.MadeExcOf s.heap h' e (.ref (g.ec cl)) [.str msg tk]) :
    ∃ t B, FlyAt g c cl msg news e t tk s.heap B m h' := by
  refine box fun G0 k0 => ?_
  obtain ⟨A₀, BB⟩ := C.below
  obtain ⟨t, he, htn, ht⟩ := x.there
  refine k0 ?_
  clear k0 G0
  have K' := pushX BB S.F C.frame C.kind
  have hin : ∀ env ∈ (c.fenv :: c.outer), ∀ b, env.frame = some b → b ∈ (c.fenv :: c.outer).filterMap (·.frame) := fun env he b hb => List.mem_filterMap.mpr ⟨env, he, hb⟩
  have none_of : ∀ b, s.heap.get? b = none → (hideAll s.heap ((c.fenv :: c.outer).filterMap (·.frame))).get? b = none := fun b hb => by
    cases q : (hideAll s.heap ((c.fenv :: c.outer).filterMap (·.frame))).get? b with
    | none => rfl
    | some o => have := of_hideAll _ q; rw [hb] at this; cases this
  refine ⟨t, hideAll s.heap ((c.fenv :: c.outer).filterMap (·.frame)), S.F, Heap.UpToSlots.of_keeps x.keeps, ⟨_, _, ht, rfl, rfl⟩, none_of t htn, fun b o q => hideAll_get _ (K'.stays b o q) fun hm => (by
    rw [(K'.frames.mem hm).1] at q; cases q), fun b o q nm => hideAll_get _ q nm, fun q hq => ⟨hideAll_get _ (S.N q hq).1 fun hm => ?_, (S.N q hq).2⟩, fun b o q => x.keeps b o (of_hideAll _ q), none_of e x.new, ?_, .inl he⟩
  · refine box fun G0 k0 => ?_
    obtain ⟨env', he', hf⟩ := List.mem_filterMap.mp hm
    refine k0 ?_
    clear k0 G0
    rcases List.mem_cons.mp he' with rfl | he'
    · exact (S.N q hq).2.1 (Option.some.inj (hf.symm.trans C.frame))
    · obtain ⟨o, ho, _⟩ := (BB.frames.mem (List.mem_filterMap.mpr ⟨env', he', hf⟩)).2
      rw [(S.N q hq).2.2] at ho; cases ho
  · exact (funFrames_hide K'.frames hin).of_keeps fun b o hb _ => ⟨o, x.keeps b o hb, rfl⟩
theorem fly_turn {M : (Str → Option Value) → Prop} {X : List Addr} {am : AM} {s : Shared} {σ' : MH} {x : Value} {s' : Shared} {E : Value → Shared → Prop} (C : c.Ok g n) (h : Fly g c cl msg M X news am s σ' x s')
    (hE : ∀ x s', Fly g c cl msg M X news am s σ' x s' → E x s') : notedBy (model g.prog g.w) c.A c.fenv (fun e s'' => cameBackBy (model g.prog g.w) c.A c.fenv E e s'') x s' := by
  refine box fun G0 k0 => ?_
  obtain ⟨news', am', H, ev, o, e, t, tk, G, B, m, rfl, hM, f⟩ := h
  refine k0 ?_
  clear k0 G0
  refine f.note C fun h₁ f₁ t₁ => ?_
  exact FlyAt.back (s := { s' with heap := h₁ }) C f₁ t₁ fun h₂ f₂ => hE _ _ ⟨news', am', H, ev, (o.trans (Only.mk' s' h₁ s'.toks)).trans (Only.mk' _ h₂ _), f₂.core hM rfl⟩
end
section
variable {g : Gl} {n : Nat} {c : Act} {env : Env} {m : Str → Option Value} {news : List (Addr × Obj)} {am : AM} {ρ : MEnv} {σ : MH} {s : Shared}
theorem Sim.keepsBut (S : Sim g c env m news am ρ σ s) {h' : Heap} {tk : Nat} {I : Addr} (hk : ∀ b o, b ≠ I → s.heap.get? b = some o → h'.get? b = some o) (h1 : I ≠ c.L) (h2 : c.h₀.get? I = none) (h3 : ∀ p ∈ news, p.1 ≠ I) :
    Sim g c env m news am ρ σ { s with heap := h', toks := tk } := by
  refine ⟨⟨?_, fun b o e => hk b o (fun q => by rw [q, h2] at e; cases e) (S.F.keep b o e), S.F.above⟩, fun p hp => ⟨hk _ _ (h3 p hp) (S.N p hp).1, (S.N p hp).2⟩, S.H, S.V, S.Ce, S.Ap⟩
  exact S.F.ns.at' fun o e => hk _ o (Ne.symm h1) e
structure Own (c : Act) (h : Heap) (news : List (Addr × Obj)) (am : AM) (own : List (Addr × Obj)) : Prop where
  at' : ∀ p ∈ own, h.get? p.1 = some p.2
  off : ∀ p ∈ own, p.1 ≠ c.L ∧ c.h₀.get? p.1 = none
  apart : ∀ p ∈ own, ¬ InAm p.1 am
  new : ∀ p ∈ own, ∀ q ∈ news, q.1 ≠ p.1
  noCell : ∀ p ∈ own, ∀ v, p.2.data ≠ .cell v
theorem Sim.withOwn {own : List (Addr × Obj)} (S : Sim g c env m news am ρ σ s) (O : Own c s.heap news am own) : Sim g c env m (own ++ news) am ρ σ s := by
  have hs : ∀ p ∈ news, p ∈ own ++ news := fun p hp => List.mem_append_right _ hp
  refine ⟨S.F, fun p hp => ?_, ⟨S.H.len, S.H.ok, fun i o hi => ?_⟩, ?_, fun x cc hx => let ⟨o, v, hm, hd⟩ := S.Ce x cc hx; ⟨o, v, hs _ hm, hd⟩, S.Ap.imp id fun ⟨⟨o, hm⟩, hn⟩ => ⟨⟨o, hs _ hm⟩, hn⟩⟩
  · rcases List.mem_append.mp hp with h | h
    · exact ⟨O.at' p h, O.off p h⟩
    · exact S.N p h
  · refine box fun G0 k0 => ?_
    obtain ⟨a, ob, ha, k, r⟩ := S.H.obj i o hi
    refine k0 ?_
    clear k0 G0
    refine ⟨a, ob, ha, k.elim (fun h => .inl (hs _ h)) .inr, ?_⟩
    have := r.grow (ext := []) hs
    rwa [List.append_nil] at this
  · intro x mv hx
    refine box fun G0 k0 => ?_
    obtain ⟨v, hv, hn⟩ := S.V x mv hx
    refine k0 ?_
    clear k0 G0
    exact ⟨v, hv, hn.more hs⟩
noncomputable def dropOwn (own news : List (Addr × Obj)) : List (Addr × Obj) := news.filter fun q => own.all fun p => decide (q.1 ≠ p.1)
theorem mem_dropOwn {own news : List (Addr × Obj)} {q : Addr × Obj} : q ∈ dropOwn own news ↔ q ∈ news ∧ ∀ p ∈ own, q.1 ≠ p.1 := by
  unfold dropOwn
  rw [List.mem_filter, List.all_eq_true]
  simp
theorem Sim.dropOwn {own : List (Addr × Obj)} (C : c.Ok g n) (S : Sim g c c.fenv m news am ρ σ s) (hat : ∀ p ∈ own, s.heap.get? p.1 = some p.2) (hap : ∀ p ∈ own, ¬ InAm p.1 am) (hnc : ∀ p ∈ own, ∀ v, p.2.data ≠ .cell v) :
    Sim g c c.fenv m (dropOwn own news) am ρ σ s := by
  have cell : ∀ cc o v, (cc, o) ∈ news → o.data = .cell v → (cc, o) ∈ Mine.dropOwn own news := fun cc o v hm hd => mem_dropOwn.mpr ⟨hm, fun p hp e => by
    have h1 := (S.N _ hm).1
    dsimp only at e h1
    rw [e, hat p hp] at h1
    cases h1
    exact hnc p hp v hd⟩
  refine ⟨S.F, fun p hp => S.N p (mem_dropOwn.mp hp).1, ⟨S.H.len, S.H.ok, fun i o hi => ?_⟩, ?_, fun x cc hx => let ⟨o, v, hm, hd⟩ := S.Ce x cc hx; ⟨o, v, cell _ _ _ hm hd, hd⟩, .inl C.locs⟩
  · refine box fun G0 k0 => ?_
    obtain ⟨a, ob, ha, k, r⟩ := S.H.obj i o hi
    refine k0 ?_
    clear k0 G0
    have k1 : ∀ b, (a.1, b) ∈ news → (a.1, b) ∈ Mine.dropOwn own news := fun b hm => mem_dropOwn.mpr ⟨hm, fun p hp e => hap p hp ⟨i, a, ha, .inl e⟩⟩
    have k2 : ∀ b, (a.2, b) ∈ news → (a.2, b) ∈ Mine.dropOwn own news := fun b hm => mem_dropOwn.mpr ⟨hm, fun p hp e => hap p hp ⟨i, a, ha, .inr e⟩⟩
    refine ⟨a, ob, ha, k.elim (fun h => .inl (k1 _ h)) .inr, ?_⟩
    induction o with
    | list xs => exact r
    | tup xs => exact r
    | inst as => obtain ⟨es, k, e, hm, r⟩ := r; exact ⟨es, k, e, k2 _ hm, r⟩
  · intro x mv hx
    refine box fun G0 k0 => ?_
    obtain ⟨v, hv, hn⟩ := S.V x mv hx
    refine k0 ?_
    clear k0 G0
    refine ⟨v, hv, ?_⟩
    rcases hn with ⟨hl, hx⟩ | ⟨hl, cc, o, hc, hm, hd⟩
    · refine .inl ⟨hl, ?_⟩
      rcases hx with h | ⟨o, es, ep, hm, _⟩
      · exact .inl h
      · exact absurd C.locs (S.N _ hm).2.1
    · exact .inr ⟨hl, cc, o, hc, cell _ _ _ hm hd, hd⟩
theorem Evolve.dropOwn {own : List (Addr × Obj)} {X : List Addr} {news' : List (Addr × Obj)} {am' : AM} (e : Evolve X (own ++ news) am news' am') (O : ∀ p ∈ own, ∀ q ∈ news, q.1 ≠ p.1) : Evolve X news am (dropOwn own news') am' := by
  refine ⟨e.pre, fun p hp hn => ?_, fun i q hi hq p hp => e.fresh i q hi hq p (List.mem_append_right _ hp)⟩
  refine box fun G0 k0 => ?_
  obtain ⟨o', hm, hk⟩ := e.keep p (List.mem_append_right _ hp) hn
  refine k0 ?_
  clear k0 G0
  exact ⟨o', mem_dropOwn.mpr ⟨hm, fun q hq => O q hq p hp⟩, hk⟩
theorem own_stays {own : List (Addr × Obj)} {X : List Addr} {news' : List (Addr × Obj)} {am' : AM} {s' : Shared} (e : Evolve X (own ++ news) am news' am') (hap : ∀ p ∈ own, ¬ InAm p.1 am) (hX : ∀ p ∈ own, p.1 ∉ X) (N : News c.h₀ c.L s'.heap news') :
    (∀ p ∈ own, s'.heap.get? p.1 = some p.2) ∧ ∀ p ∈ own, ¬ InAm p.1 am' := by
  refine ⟨fun p hp => ?_, fun p hp => ?_⟩
  · refine box fun G0 k0 => ?_
    obtain ⟨o', hm, hk⟩ := e.keep p (List.mem_append_left _ hp) (hap p hp)
    refine k0 ?_
    clear k0 G0
    rw [← hk (hX p hp)]
    exact (N _ hm).1
  · rintro hb1
    refine box fun G0 k0 => ?_
    obtain ⟨i, q, hq, hr⟩ := hb1
    refine k0 ?_
    clear k0 G0
    rcases Nat.lt_or_ge i am.length with hi | hi
    · refine hap p hp ⟨i, q, ?_, hr⟩
      obtain ⟨ext, rfl⟩ := e.pre
      rw [List.getElem?_append_left hi] at hq; exact hq
    · have := e.fresh i q hi hq p (List.mem_append_left _ hp)
      rcases hr with hr | hr
      · exact this.1 hr.symm
      · exact this.2 hr.symm
theorem own_notCell {own : List (Addr × Obj)} (S : Sim g c env m news am ρ σ s) (hat : ∀ p ∈ own, s.heap.get? p.1 = some p.2) (hnc : ∀ p ∈ own, ∀ v, p.2.data ≠ .cell v) : ∀ p ∈ own, p.1 ∉ cellsX c := by
  intro p hp hm
  refine box fun G0 k0 => ?_
  obtain ⟨⟨x, cc⟩, hx, he⟩ := List.mem_filterMap.mp hm
  obtain ⟨o, v, hm', hd⟩ := S.Ce _ _ he
  refine k0 ?_
  clear k0 G0
  have h1 := (S.N _ hm').1
  dsimp only at h1
  rw [hat p hp] at h1
  cases h1
  exact hnc p hp v hd
end
section
variable {g : Gl} {n : Nat} {sc : Scope}
theorem DenS.all {g : Gl} {c : Act} {news : List (Addr × Obj)} {am : AM} {s : Shared} {W : PT Flow} {r : R (MF × MEnv)}
    (h : r ≠ .stuck → ∀ Q E, (∀ f ρ' σ', r = .ok (f, ρ') σ' → ∀ u s', SPost g c news am s f ρ' σ' u s' → Q u s') → (∀ cl msg σ', r = .exc cl msg σ' → ∀ x s', Fly g c cl msg AnyM (cellsX c) news am s σ' x s' → E x s') → W Q E s) : DenS g c news am s W r := by
  cases r with
  | stuck => trivial
  | ok fr σ' =>
    obtain ⟨f, ρ'⟩ := fr
    exact fun E => h (fun e => by cases e) _ E (fun f₁ ρ₁ σ₁ e u s' p => by cases e; exact p) (fun _ _ _ e => by cases e)
  | exc cl msg σ' => exact fun Q E hE => h (fun e => by cases e) Q E (fun _ _ _ e => by cases e) (fun cl₁ m₁ σ₁ e x s' p => by cases e; exact hE x s' p)
noncomputable def forK (r : Src) (x : String) (body : SD) (vs : List MV) (fr : MF × MEnv) (σ₁ : MH) : R (MF × MEnv) := match fr.1 with
  | .next => if r.stands σ₁ then forGo r x body vs fr.2 σ₁ else .stuck
  | .brk => .ok (.next, fr.2) σ₁
  | .ret v => .ok (.ret v, fr.2) σ₁
theorem forGo_ok {r : Src} {x : String} {body : SD} {v : MV} {vs : List MV} {ρ : MEnv} {σ σ₁ : MH} {fr : MF × MEnv} (h : body (upd ρ x v) σ = .ok fr σ₁) : forGo r x body (v :: vs) ρ σ = forK r x body vs fr σ₁ := by
  show (match body (upd ρ x v) σ with
    | .ok (.next, ρ₁) σ₁ => if r.stands σ₁ then forGo r x body vs ρ₁ σ₁ else .stuck
    | .ok (.brk, ρ₁) σ₁ => .ok (.next, ρ₁) σ₁
    | .ok (.ret v, ρ₁) σ₁ => .ok (.ret v, ρ₁) σ₁
    | _ => R.stuck) = _
  rw [h]
  obtain ⟨f, ρ₁⟩ := fr
  induction f <;> rfl
theorem forGo_no {r : Src} {x : String} {body : SD} {v : MV} {vs : List MV} {ρ : MEnv} {σ : MH} {o : R (MF × MEnv)} (h : body (upd ρ x v) σ = o) (ho : o = .stuck ∨ ∃ cl msg σ', o = .exc cl msg σ') : forGo r x body (v :: vs) ρ σ = .stuck := by
  show (match body (upd ρ x v) σ with
    | .ok (.next, ρ₁) σ₁ => if r.stands σ₁ then forGo r x body vs ρ₁ σ₁ else .stuck
    | .ok (.brk, ρ₁) σ₁ => .ok (.next, ρ₁) σ₁
    | .ok (.ret v, ρ₁) σ₁ => .ok (.ret v, ρ₁) σ₁
    | _ => R.stuck) = _
  rw [h]
  rcases ho with rfl | ⟨cl, msg, σ', rfl⟩ <;> rfl
inductive ForI (g : Gl) (c : Act) (news : List (Addr × Obj)) (am am₁ : AM) (s : Shared) (St : Nat → Heap → Prop) (I : Addr) (r : Src) (x : String) (body : SD) (out : R (MF × MEnv)) (k : Nat) (s' : Shared) : Prop
  | mk (i : Nat) (m' : Str → Option Value) (news' : List (Addr × Obj)) (am' : AM) (ρ' : MEnv) (σ' : MH) (S' : Sim g c c.fenv m' news' am' ρ' σ' s') (e' : Evolve (cellsX c) news am news' am') (hext : ∃ ext, am' = am₁ ++ ext) (o' : Only s s')
    (hst : St i s'.heap) (hstand : r.stands σ' = true) (hnI : ∀ p ∈ news', p.1 ≠ I) (haI : ¬ InAm I am') (hi : i ≤ r.items.length) (hk : k = r.items.length + 1 - i) (hgo : forGo r x body (r.items.drop i) ρ' σ' = out) : ForI g c news am am₁ s St I r x body out k s'
inductive WhileI (g : Gl) (c : Act) (news : List (Addr × Obj)) (am : AM) (s : Shared) (t : TD) (body : SD) (out : R (MF × MEnv)) (k : Nat) (s' : Shared) : Prop
  | mk (m' : Str → Option Value) (news' : List (Addr × Obj)) (am' : AM) (ρ' : MEnv) (σ' : MH) (S' : Sim g c c.fenv m' news' am' ρ' σ' s') (e' : Evolve (cellsX c) news am news' am') (o' : Only s s') (hgo : whileGo t body k ρ' σ' = out) : WhileI g c news am s t body out k s'
theorem okS_for {x : String} {src : RD} {body : SD} {xp pos : Pos} {iter : Expr} {sts : List Stmt} (hr : OkR g n sc false src iter) (hx : Stores sc x) (hb : OkB g n sc body sts)
    (hs : ∀ env x, foldedSetIterable iter env x = pure x) : OkS g n sc (sFor x src body) (.For (.Name (Str.ofString x) xp) iter sts [] pos) := by
  intro c s m news am ρ σ C V S
  have H := hr c c.fenv s m news am ρ σ C V S
  unfold sFor
  revert H
  cases src ρ σ with
  | stuck => intro _; trivial
  | exc cl msg σ' => exact fun H Q E hE => wpAny_For (H _ E fun x s' ⟨news', am', h1, e, o, fl⟩ => hE x s' ⟨news', am', h1, e.more, o, fl.any⟩) (hs _)
  | ok r σ₁ =>
    intro H
    rw [R.bind_ok]
    refine DenS.all fun hns Q E hQ hE => ?_
    generalize hres : forGo r x body r.items ρ σ₁ = out at hns hQ hE
    refine wpAny_For (H _ _ fun I St s₁ news₁ am₁ S₁ e₁ o₁ It hst hstand hnI haI => ?_) (hs _)
    refine codeAny_forLoop (ForI g c news am am₁ s St I r x body out) ?_ (r.items.length + 1)
      ⟨0, m, news₁, am₁, ρ, σ₁, S₁, e₁.more, ⟨[], (List.append_nil _).symm⟩, o₁, hst, hstand, hnI, haI, Nat.zero_le _, rfl, hres⟩
    clear H hE hst hstand hnI haI S₁ e₁ o₁ hres
    rintro k s' hb2
    refine box fun G0 k0 => ?_
    obtain ⟨i, m', news', am', ρ', σ', S', e', hext, o', hst', hstand', hnI', haI', hi, rfl, hgo⟩ := hb2
    refine k0 ?_
    clear k0 G0
    rcases Nat.lt_or_ge i r.items.length with hlt | hge
    · refine It.item i s' c.fenv m' news' am' ρ' σ' r.items[i] S' hext hstand' hst' (List.getElem?_eq_getElem hlt) _ _ fun v h₁ tk₁ hv hst₁ hk₁ => ?_
      have S₂ := S'.keepsBut (tk := tk₁) hk₁ It.fresh.1 It.fresh.2 hnI'
      refine box fun G0 k0 => ?_
      obtain ⟨oI, vsI, hgI, hdI⟩ := It.there _ _ hst₁
      refine k0 ?_
      clear k0 G0
      have hnc : ∀ p ∈ [(I, oI)], ∀ v, p.2.data ≠ .cell v := fun p hp v => by
        cases List.mem_singleton.mp hp; dsimp only; rw [hdI]; intro h; cases h
      have O : Own c h₁ news' am' [(I, oI)] := ⟨fun p hp => by cases List.mem_singleton.mp hp; exact hgI, fun p hp => by cases List.mem_singleton.mp hp; exact It.fresh, fun p hp => by cases List.mem_singleton.mp hp; exact haI',
        fun p hp q hq => by cases List.mem_singleton.mp hp; exact hnI' q hq, hnc⟩
      refine wpAny_assign_Name (store_ok C V (S₂.withOwn O) hv hx _ _ fun m₃ news₃ s₃ S₃ e₃ o₃ => ?_)
      rw [List.drop_eq_getElem_cons hlt] at hgo
      have HB := hb c s₃ m₃ news₃ am' (upd ρ' x r.items[i]) σ' C V S₃
      revert HB
      generalize hbd : body (upd ρ' x r.items[i]) σ' = cb
      intro HB
      induction cb with
      | stuck => exact absurd (hgo.symm.trans (forGo_no hbd (.inl rfl))) hns
      | exc cl msg σ'' => exact absurd (hgo.symm.trans (forGo_no hbd (.inr ⟨_, _, _, rfl⟩))) hns
      | ok fr₄ σ₄ =>
        obtain ⟨f₄, ρ₄⟩ := fr₄
        rw [forGo_ok hbd] at hgo
        refine wpAny_mono (HB _) (fun u s₄ hb3 => ?_) fun _ _ x => x
        refine box fun G0 k0 => ?_
        obtain ⟨m₄, news₄, am₄, S₄, e₄, o₄, r₄⟩ := hb3
        have e₅ := e₃.trans e₄ S₄.amOk
        have hX : ∀ p ∈ [(I, oI)], p.1 ∉ cellsX c := own_notCell (S₂.withOwn O) O.at' hnc
        obtain ⟨hst5, hap5⟩ := own_stays e₅ O.apart hX S₄.N
        refine k0 ?_
        clear k0 G0
        have S₅ := S₄.dropOwn C hst5 hap5 hnc
        have e₆ : Evolve (cellsX c) news am (dropOwn [(I, oI)] news₄) am₄ := e'.trans (e₅.dropOwn O.new) S₄.amOk
        have o₆ := ((o'.trans (Only.mk' s' h₁ tk₁)).trans o₃).trans o₄
        induction f₄ with
        | next =>
          by_cases hstd : r.stands σ₄ = true
          · replace hgo := (if_pos hstd).symm.trans hgo
            induction u with
            | next =>
              refine ⟨r.items.length + 1 - (i + 1), Nat.sub_lt_sub_left (Nat.lt_succ_of_lt hlt) (Nat.lt_succ_self i), i + 1, m₄, _, am₄, ρ₄, σ₄, S₅, e₆, ?_, o₆, ?_, hstd, ?_, hap5 _ (List.mem_singleton.mpr rfl), hlt, rfl, hgo⟩
              · refine box fun G0 k0 => ?_
                obtain ⟨x1, h1⟩ := hext
                obtain ⟨x2, h2⟩ := e₅.pre
                refine k0 ?_
                clear k0 G0
                exact ⟨x1 ++ x2, by rw [h2, h1, List.append_assoc]⟩
              · exact It.frame _ _ _ hst₁ fun o ho => by
                  rw [hgI] at ho
                  cases ho
                  exact hst5 _ (List.mem_singleton.mpr rfl)
              · intro p hp
                exact (mem_dropOwn.mp hp).2 _ (List.mem_singleton.mpr rfl)
            | _ => exact r₄.elim
          · exact absurd (hgo.symm.trans (if_neg hstd)) hns
        | brk =>
          induction u with
          | brk => exact hQ _ _ _ hgo.symm _ _ ⟨m₄, _, am₄, S₅, e₆, o₆, trivial⟩
          | _ => exact r₄.elim
        | ret v =>
          induction u with
          | ret v => exact hQ _ _ _ hgo.symm _ _ ⟨m₄, _, am₄, S₅, e₆, o₆, r₄⟩
          | _ => exact r₄.elim
    · have hin : i = r.items.length := Nat.le_antisymm hi hge
      subst hin
      rw [List.drop_length] at hgo
      refine It.done _ s' c.fenv m' news' am' _ _ S' hext hstand' hst' (Nat.le_refl _) (Nat.le_refl _) _ _ fun h₁ tk₁ hk₁ => wpAny_execs_nil ?_
      exact hQ _ _ _ hgo.symm _ _ ⟨m', news', am', S'.keepsBut (tk := tk₁) hk₁ It.fresh.1 It.fresh.2 hnI', e', o'.trans ⟨_, _, rfl⟩, trivial⟩
end
section
variable {g : Gl} {n : Nat} {sc : Scope}
noncomputable def whileK (c : TD) (body : SD) (n : Nat) (r : MF × MEnv) (σ₂ : MH) : R (MF × MEnv) := match r with
  | (.next, ρ₂) => whileGo c body n ρ₂ σ₂
  | (.brk, ρ₂) => .ok (.next, ρ₂) σ₂
  | r => .ok r σ₂
theorem whileGo_succ {c : TD} {body : SD} {n : Nat} {ρ : MEnv} {σ : MH} : whileGo c body (n + 1) ρ σ = (c ρ σ).bind fun t σ₁ => if t then (body ρ σ₁).bind (whileK c body n) else .ok (.next, ρ) σ₁ := rfl
theorem fly_near {g : Gl} {n : Nat} {c : Act} {news news₁ : List (Addr × Obj)} {am am₁ : AM} {s s₁ s₂ : Shared} {x : Value} {cl : Bool} {msg : Str} {σf : MH} {M : (Str → Option Value) → Prop} {X : List Addr} {E : Value → Shared → Prop} (C : c.Ok g n)
    (e₁ : Evolve (cellsX c) news am news₁ am₁) (o₁ : Only s s₁) (hX : X = [] ∨ X = cellsX c) (hfl : Fly g c cl msg M X news₁ am₁ s₁ σf x s₂) (hE : ∀ x s', Fly g c cl msg AnyM (cellsX c) news am s σf x s' → E x s') :
    notedBy (model g.prog g.w) c.A c.fenv (fun e s'' => cameBackBy (model g.prog g.w) c.A c.fenv E e s'') x s₂ := by
  refine box fun G0 k0 => ?_
  obtain ⟨news₂, am₂, H₂, e₂, o₂, f₂⟩ := hfl
  refine k0 ?_
  clear k0 G0
  have e₂' : Evolve (cellsX c) news₁ am₁ news₂ am₂ := by
    rcases hX with rfl | rfl
    · exact e₂.more
    · exact e₂
  exact fly_turn C ⟨news₂, am₂, H₂, e₁.trans e₂' H₂.ok, o₁.trans o₂, f₂.any⟩ hE
theorem okS_while {t : TD} {body : SD} {et : Expr} {sts : List Stmt} {pos : Pos} (ht : OkT g n sc false t et) (hb : OkB g n sc body sts) : OkS g n sc (sWhile t body) (.While et sts [] pos) := by
  intro c s m news am ρ σ C V S
  unfold sWhile
  refine DenS.all fun hst Q E hQ hE => ?_
  generalize hres : whileGo t body 40 ρ σ = r at hst hQ hE
  refine wpAny_While (codeAny_whileLoop (WhileI g c news am s t body r) ?_ 40 ⟨m, news, am, ρ, σ, S, .refl, .refl s, hres⟩)
  rintro k s' hb4
  refine box fun G0 k0 => ?_
  obtain ⟨m', news', am', ρ', σ', S', e', o', hgo⟩ := hb4
  refine k0 ?_
  clear k0 G0
  obtain _ | k := k
  · exact absurd hgo.symm hst
  have HT := ht c c.fenv s' m' news' am' ρ' σ' C V S'
  rw [whileGo_succ] at hgo
  revert HT hgo
  generalize t ρ' σ' = ct
  intro hgo HT
  induction ct with
  | stuck => exact absurd hgo.symm hst
  | exc cl msg σ'' => exact HT _ _ fun x s₂ hfl => fly_near C e' o' (.inl rfl) hfl (hE _ _ _ hgo.symm)
  | ok b σ₁ =>
    rw [R.bind_ok] at hgo
    refine wpAny_mono (HT _) (fun u s₁ hb5 => ?_) fun _ _ x => x
    refine box fun G0 k0 => ?_
    obtain ⟨news₁, am₁, S₁, e₁, o₁, r₁⟩ := hb5
    refine k0 ?_
    clear k0 G0
    subst r₁
    have e₁' : Evolve (cellsX c) news am news₁ am₁ := e'.trans e₁.more S₁.amOk
    induction b with
    | false =>
      rw [if_neg Bool.false_ne_true] at hgo ⊢
      exact wpAny_execs_nil (hQ _ _ _ hgo.symm _ _ ⟨m', news₁, am₁, S₁, e₁', o'.trans o₁, trivial⟩)
    | true =>
      rw [if_pos rfl] at hgo ⊢
      have HB := hb c s₁ m' news₁ am₁ ρ' σ₁ C V S₁
      revert HB hgo
      generalize body ρ' σ₁ = cb
      intro hgo HB
      induction cb with
      | stuck => exact absurd hgo.symm hst
      | exc cl msg σ'' => exact HB _ _ fun x s₂ hfl => fly_near C e₁' (o'.trans o₁) (.inr rfl) hfl (hE _ _ _ hgo.symm)
      | ok fr₂ σ₂ =>
        obtain ⟨f₂, ρ₂⟩ := fr₂
        rw [R.bind_ok] at hgo
        refine wpAny_mono (HB _) (fun u s₂ hb6 => ?_) fun _ _ x => x
        refine box fun G0 k0 => ?_
        obtain ⟨m₂, news₂, am₂, S₂, e₂, o₂, r₂⟩ := hb6
        refine k0 ?_
        clear k0 G0
        have e₃ := e₁'.trans e₂ S₂.amOk
        have o₃ := (o'.trans o₁).trans o₂
        induction f₂ with
        | next =>
          induction u with
          | next => exact ⟨k, Nat.lt_succ_self _, m₂, news₂, am₂, ρ₂, σ₂, S₂, e₃, o₃, hgo⟩
          | _ => exact r₂.elim
        | brk =>
          induction u with
          | brk => exact hQ _ _ _ hgo.symm _ _ ⟨m₂, news₂, am₂, S₂, e₃, o₃, trivial⟩
          | _ => exact r₂.elim
        | ret v =>
          induction u with
          | ret v => exact hQ _ _ _ hgo.symm _ _ ⟨m₂, news₂, am₂, S₂, e₃, o₃, r₂⟩
          | _ => exact r₂.elim
end
noncomputable def relabelS (scope sc : Scope) : Scope :=
  { scope with names := scope.names.map fun (n, k) => if (k == .free && sc.kind == .function && sc.names.lookup n == some .cell) then (n, .cell) else (n, k) }
theorem relabel_eq {scope sc : Scope} {env : Env} (h : env.scope = sc) : relabel scope env = relabelS scope sc := by subst h; rfl
theorem closure_of {scope : Scope} {env : Env} (h : ∀ p ∈ scope.names, p.2 = .free → ∃ cc, env.cells.lookup p.1 = some cc) :
    ∃ cl, closureFor scope env = pure cl ∧ ∀ x cc, (x, NameKind.free) ∈ scope.names → env.cells.lookup x = some cc → cl.lookup x = some cc := by
  unfold closureFor
  have key : ∀ (l : List (Str × NameKind)) (cs : List (Str × Addr)), (∀ p ∈ l, p.2 = .free → ∃ cc, env.cells.lookup p.1 = some cc) →
      (∀ x cc, cs.lookup x = some cc → ∀ cc', env.cells.lookup x = some cc' → cc = cc') →
      ∃ cl, (forIn l cs fun (p : Str × NameKind) r => (if (p.2 == .free) = true then (do let a ← cellOf env p.1; pure (ForInStep.yield ((p.1, a) :: r))) else pure (ForInStep.yield r) : Sem _)) = (pure cl : Sem _) ∧
        (∀ x cc, (x, NameKind.free) ∈ l ∨ (∃ c', cs.lookup x = some c') → env.cells.lookup x = some cc → cl.lookup x = some cc) := by
    intro l
    induction l with
    | nil =>
      intro cs _ hcs
      refine ⟨cs, by rw [List.forIn_nil], fun x cc hx hc => ?_⟩
      rcases hx with hx | ⟨c', hx⟩
      · cases hx
      · rw [hx, hcs _ _ hx _ hc]
    | cons p l ih =>
      intro cs hp hcs
      obtain ⟨y, k⟩ := p
      by_cases hk : (k == NameKind.free) = true
      · have hk' : k = .free := by cases k <;> first | rfl | cases hk
        subst hk'
        obtain ⟨cc, hcc⟩ := hp (y, .free) (.head _) rfl
        obtain ⟨cl, h1, h2⟩ := ih ((y, cc) :: cs) (fun q hq => hp q (.tail _ hq)) (fun x c1 hx c2 hc => by
          rw [List.lookup_cons] at hx
          split at hx
          · rename_i he
            rw [eq_of_beq he, hcc] at hc
            cases hc; cases hx; rfl
          · exact hcs _ _ hx _ hc)
        refine ⟨cl, ?_, fun x c1 hx hc => h2 x c1 ?_ hc⟩
        · rw [List.forIn_cons, if_pos hk]
          simp only [cellOf, hcc, pure_bind]
          exact h1
        · rcases hx with hx | ⟨c', hx⟩
          · rcases List.mem_cons.mp hx with e | hx
            · cases e
              exact .inr ⟨cc, by rw [List.lookup_cons, show (y == y) = true from beq_self_eq_true y]⟩
            · exact .inl hx
          · refine .inr ?_
            rw [List.lookup_cons]
            split
            · exact ⟨_, rfl⟩
            · exact ⟨_, hx⟩
      · obtain ⟨cl, h1, h2⟩ := ih cs (fun q hq => hp q (.tail _ hq)) hcs
        refine ⟨cl, ?_, fun x c1 hx hc => h2 x c1 ?_ hc⟩
        · rw [List.forIn_cons, if_neg hk, pure_bind]
          exact h1
        · rcases hx with hx | hx
          · rcases List.mem_cons.mp hx with e | hx
            · cases e; exact absurd rfl hk
            · exact .inl hx
          · exact .inr hx
  obtain ⟨cl, h1, h2⟩ := key scope.names [] h (fun x cc hx => by cases hx)
  refine ⟨cl, ?_, fun x cc hx hc => h2 x cc (.inl hx) hc⟩
  have e : (forIn scope.names ([] : List (Str × Addr)) fun (p : Str × NameKind) r => (if (p.2 == .free) = true then (do let a ← cellOf env p.1; pure (ForInStep.yield ((p.1, a) :: r))) else pure (ForInStep.yield r) : Sem _)) >>= (fun r => (pure r : Sem _)) = pure cl := by rw [h1]; rfl
  refine Eq.trans ?_ e
  congr 1
noncomputable def OkI (g : Gl) (n : Nat) (sc : Scope) (inner : Bool) (t : TD) (ifs : List Expr) : Prop :=
  ∀ (c : Act) (env : Env) (s : Shared) (m : Str → Option Value) (news : List (Addr × Obj)) (am : AM) (ρ : MEnv) (σ : MH),
    c.Ok g n → EnvOk c sc inner env → Sim g c env m news am ρ σ s → Den g c env m ρ (fun _ (b b' : Bool) => b = b') news am s
      (forIn ifs true fun c r => if r = true then do let ok ← isTrue c env (eval c env); pure (ForInStep.yield ok) else pure (ForInStep.yield r)) (t ρ σ)
section
variable {g : Gl} {n : Nat} {sc : Scope} {inner : Bool}
theorem okI_nil : OkI g n sc inner tTrue [] := by
  intro c env s m news am ρ σ C V S
  exact DenW.now S fun Q h E => wpAny_tests_nil (h _ _ s.toks S.F S.N rfl)
theorem okI_one {t : TD} {e : Expr} (h : OkT g n sc inner t e) : OkI g n sc inner t [e] := by
  intro c env s m news am ρ σ C V S
  exact (h c env s m news am ρ σ C V S).of fun Q E h => wpAny_tests_one h
end
theorem compGo_noexc {r : Src} {x : String} {t : TD} {e : ED} {ρ : MEnv} : ∀ (vs acc : List MV) (σ : MH) (cl : Bool) (msg : Str) (σ' : MH), compGo r x t e ρ vs acc σ ≠ .exc cl msg σ' := by
  intro vs
  induction vs with
  | nil => intro acc σ cl msg σ' h; cases (show R.ok acc σ = .exc cl msg σ' from h)
  | cons v vs ih =>
    intro acc σ cl msg σ' h
    have h : (match t (upd ρ x v) σ with
      | .ok true σ₁ => match e (upd ρ x v) σ₁ with
        | .ok y σ₂ => if r.stands σ₂ then compGo r x t e ρ vs (acc ++ [y]) σ₂ else .stuck
        | _ => .stuck
      | .ok false σ₁ => if r.stands σ₁ then compGo r x t e ρ vs acc σ₁ else .stuck
      | _ => R.stuck) = .exc cl msg σ' := h
    revert h
    generalize t (upd ρ x v) σ = ct
    induction ct with
    | stuck => intro h; cases h
    | exc => intro h; cases h
    | ok b σ₁ =>
      induction b with
      | false =>
        intro h
        by_cases hs : r.stands σ₁ = true
        · exact ih _ _ _ _ _ ((if_pos hs).symm.trans h)
        · cases (if_neg hs).symm.trans h
      | true =>
        dsimp only
        generalize e (upd ρ x v) σ₁ = ce
        induction ce with
        | stuck => intro h; cases h
        | exc => intro h; cases h
        | ok y σ₂ =>
          intro h
          by_cases hs : r.stands σ₂ = true
          · exact ih _ _ _ _ _ ((if_pos hs).symm.trans h)
          · cases (if_neg hs).symm.trans h
section
variable {g : Gl} {n : Nat} {c : Act} {env : Env} {m : Str → Option Value} {news : List (Addr × Obj)} {am : AM} {ρ : MEnv} {σ : MH} {s : Shared}
theorem Sim.back {env' : Env} {ρ' : MEnv} {σ' : MH} {news' : List (Addr × Obj)} {am' : AM} {s' : Shared} (C : c.Ok g n) (S : Sim g c env m news am ρ σ s) (S' : Sim g c env' m news' am' ρ' σ' s') (e : Evolve [] news am news' am') (hl : env.locals = c.L) :
    Sim g c env m news' am' ρ σ' s' := by
  refine ⟨S'.F, S'.N, S'.H, fun x mv hx => ?_, S'.Ce, .inl hl⟩
  obtain ⟨v, hv, hn⟩ := S.V x mv hx
  refine ⟨v, e.relV hv, ?_⟩
  rcases hn with ⟨hk, h⟩ | ⟨hk, cc, o, hc, hm, hd⟩
  · refine .inl ⟨hk, ?_⟩
    rcases h with h | ⟨o, es, ep, hm, _⟩
    · exact .inl h
    · exact absurd hl (S.N _ hm).2.1
  · refine .inr ⟨hk, cc, o, hc, ?_, hd⟩
    have hna : ¬ InAm cc am := S.apart C (S.N _ hm).1 (fun its k e => by dsimp only at e; rw [e] at hd; cases hd) (fun its k e => by dsimp only at e; rw [e] at hd; cases hd) (fun d e => by dsimp only at e; rw [e] at hd; cases hd) (fun es k e => by dsimp only at e; rw [e] at hd; cases hd)
    obtain ⟨o', hm', hk'⟩ := e.keep _ hm hna
    rw [hk' List.not_mem_nil] at hm'
    exact hm'
theorem Sim.adopt (C : c.Ok g n) (S : Sim g c env m news am ρ σ s) {D : Addr} {xs : List MV} {vs : List Value} {k : Nat} (hD : s.heap.get? D = some (listOf (List.toArray vs) k)) (h1 : D ≠ c.L) (h2 : c.h₀.get? D = none) (h3 : ∀ p ∈ news, p.1 ≠ D) (h4 : ¬ InAm D am) (r : RelL am xs vs) :
    Sim g c env m ((D, listOf (List.toArray vs) k) :: news) (am ++ [(D, D)]) ρ (σ ++ [.list xs]) s ∧ Evolve [] news am ((D, listOf (List.toArray vs) k) :: news) (am ++ [(D, D)]) := by
  have hs : ∀ p ∈ news, p ∈ (D, listOf (List.toArray vs) k) :: news := fun p hp => .tail _ hp
  refine ⟨⟨S.F, fun p hp => ?_, ⟨?_, ?_, ?_⟩, ?_, fun x cc hx => let ⟨o, v, hm', hd⟩ := S.Ce x cc hx; ⟨o, v, hs _ hm', hd⟩, ?_⟩, ⟨⟨_, rfl⟩, fun p hp _ => ⟨p.2, hs p hp, fun _ => rfl⟩, ?_⟩⟩
  · rcases List.mem_cons.mp hp with rfl | h
    · exact ⟨hD, h1, h2⟩
    · exact S.N p h
  · rw [List.length_append, List.length_append, S.H.len]; rfl
  · have key : ∀ (i : Nat) (q : Addr × Addr), am[i]? = some q → q.1 ≠ D ∧ q.2 ≠ D := fun i q hq => ⟨fun e => h4 ⟨i, q, hq, .inl e⟩, fun e => h4 ⟨i, q, hq, .inr e⟩⟩
    intro i j p q hp hq hij
    rcases Nat.lt_or_ge i am.length with hi | hi
    · rw [List.getElem?_append_left hi] at hp
      rcases Nat.lt_or_ge j am.length with hj | hj
      · rw [List.getElem?_append_left hj] at hq
        exact S.H.ok i j p q hp hq hij
      · rw [List.getElem?_append_right hj] at hq
        obtain ⟨e1, e2⟩ := key i p hp
        cases hjz : j - am.length with
        | zero => rw [hjz] at hq; cases hq; exact ⟨e1, e1, e2, e2⟩
        | succ z => rw [hjz] at hq; cases hq
    · rw [List.getElem?_append_right hi] at hp
      cases hiz : i - am.length with
      | zero =>
        rw [hiz] at hp
        cases hp
        rcases Nat.lt_or_ge j am.length with hj | hj
        · rw [List.getElem?_append_left hj] at hq
          obtain ⟨e1, e2⟩ := key j q hq
          exact ⟨e1.symm, e2.symm, e1.symm, e2.symm⟩
        · rw [List.getElem?_append_right hj] at hq
          cases hjz : j - am.length with
          | zero => exact (off_one hij hi hiz hj hjz).elim
          | succ z => rw [hjz] at hq; cases hq
      | succ z => rw [hiz] at hp; cases hp
  · intro i o hi
    rcases Nat.lt_or_ge i σ.length with hl | hl
    · rw [List.getElem?_append_left hl] at hi
      obtain ⟨a, ob, ha, kn, q⟩ := S.H.obj i o hi
      exact ⟨a, ob, get_grow ha, kn.elim (fun h => .inl (hs _ h)) .inr, q.grow hs⟩
    · rw [List.getElem?_append_right hl] at hi
      cases hz : i - σ.length with
      | succ z => rw [hz] at hi; cases hi
      | zero =>
        rw [hz] at hi
        cases hi
        refine ⟨(D, D), listOf (List.toArray vs) k, ?_, .inl (.head _), vs, k, rfl, r.grow, rfl⟩
        rw [List.getElem?_append_right (by rw [S.H.len]; exact hl), S.H.len, hz]; rfl
  · intro x mv hx
    obtain ⟨v, hv, hn⟩ := S.V x mv hx
    exact ⟨v, hv.grow, hn.more hs⟩
  · rcases S.Ap with h | ⟨⟨o, hmo⟩, hn⟩
    · exact .inl h
    · refine .inr ⟨⟨o, hs _ hmo⟩, ?_⟩
      rintro ⟨i, q, hq, hr⟩
      rcases Nat.lt_or_ge i am.length with hi | hi
      · rw [List.getElem?_append_left hi] at hq; exact hn ⟨i, q, hq, hr⟩
      · rw [List.getElem?_append_right hi] at hq
        cases hz : i - am.length with
        | succ z => rw [hz] at hq; cases hq
        | zero =>
          rw [hz] at hq
          cases hq
          rcases hr with hr | hr <;> exact h3 _ hmo hr.symm
  · intro i q hi hq p hp
    rw [List.getElem?_append_right hi] at hq
    cases hz : i - am.length with
    | succ z => rw [hz] at hq; cases hq
    | zero => rw [hz] at hq; cases hq; exact ⟨h3 p hp, h3 p hp⟩
end
structure CompScope (sc scope : Scope) (x : String) (fv : List String) : Prop where
  kind : scope.kind = .function
  noCell : ∀ y ∈ scope.names, y.2 ≠ .cell
  once : ∀ y ∈ scope.names, y.2 = .local → scope.names.lookup y.1 = some .local
  var : (relabelS scope sc).names.lookup (Str.ofString x) = some .local
  free : ∀ p ∈ scope.names, p.2 = .free → sc.names.lookup p.1 = some .cell
  seen : ∀ y ∈ fv, (relabelS scope sc).names.lookup (Str.ofString y) = some .cell ∧ sc.names.lookup (Str.ofString y) = some .cell ∧ (Str.ofString y, NameKind.free) ∈ scope.names
section
variable {g : Gl} {n : Nat} {c : Act} {m : Str → Option Value} {news : List (Addr × Obj)} {am : AM} {ρ : MEnv} {σ : MH} {s : Shared} {sc scope : Scope} {x : String} {fv : List String}
theorem Sim.inside {C : Addr} {cl : List (Str × Addr)} {v : MV} {u : Value} {o : Obj} {mC : Str → Option Value} (hC : c.Ok g n) (V : EnvOk c sc false c.fenv) (K : CompScope sc scope x fv) (S : Sim g c c.fenv m news am ρ σ s)
    (hcl : ∀ x cc, (x, NameKind.free) ∈ scope.names → c.fenv.cells.lookup x = some cc → cl.lookup x = some cc)
    (hm : (C, o) ∈ news) (hn : s.heap.Ns C mC) (hx : mC (Str.ofString x) = some u) (hv : RelV am v u) (hap : ¬ InAm C am) :
    Sim g c (compEnvC scope cl C c.fenv) m news am (upd (seen ρ fv) x v) σ s := by
  refine ⟨S.F, S.N, S.H, fun y mv hy => ?_, S.Ce, .inr ⟨⟨o, hm⟩, hap⟩⟩
  unfold upd at hy
  by_cases e : y = x
  · subst e
    rw [if_pos rfl] at hy
    cases hy
    refine ⟨u, hv, .inl ⟨?_, .inr ?_⟩⟩
    · show (relabel scope c.fenv).names.lookup _ = _
      rw [relabel_eq V.scope]; exact K.var
    · obtain ⟨o', es, ep, ho, hd, hs, hf⟩ := hn
      have h1 := (S.N _ hm).1
      dsimp only at h1
      rw [ho] at h1
      cases h1
      exact ⟨o, es, ep, hm, hd, hs, (hf _).trans hx⟩
  · rw [if_neg e] at hy
    unfold seen at hy
    split at hy
    · rename_i hfv
      obtain ⟨k1, k2, k3⟩ := K.seen y (by simpa using hfv)
      obtain ⟨w, hw, hn'⟩ := S.V y mv hy
      refine ⟨w, hw, ?_⟩
      have hk : c.fenv.kindOf (Str.ofString y) = some .cell := by show List.lookup _ c.fenv.scope.names = _; rw [V.scope]; exact k2
      rcases hn' with ⟨hk', _⟩ | ⟨_, cc, o', hc, hm', hd⟩
      · rw [hk] at hk'; cases hk'
      · refine .inr ⟨?_, cc, o', hcl _ _ k3 hc, hm', hd⟩
        show (relabel scope c.fenv).names.lookup _ = _
        rw [relabel_eq V.scope]; exact k1
    · cases hy
end
structure Off (c : Act) (news : List (Addr × Obj)) (am : AM) (A : Addr) : Prop where
  notL : A ≠ c.L
  new : c.h₀.get? A = none
  notIn : ∀ p ∈ news, p.1 ≠ A
  apart : ¬ InAm A am
section
variable {g : Gl} {n : Nat} {c : Act} {m : Str → Option Value} {news : List (Addr × Obj)} {am : AM} {ρ : MEnv} {σ : MH} {s : Shared} {sc scope : Scope} {x : String} {fv : List String}
theorem own_of_off {h : Heap} {own : List (Addr × Obj)} (hat : ∀ p ∈ own, h.get? p.1 = some p.2) (ho : ∀ p ∈ own, Off c news am p.1) (hc : ∀ p ∈ own, ∀ v, p.2.data ≠ .cell v) : Own c h news am own :=
  ⟨hat, fun p hp => ⟨(ho p hp).notL, (ho p hp).new⟩, fun p hp => (ho p hp).apart, fun p hp q hq => (ho p hp).notIn q hq, hc⟩
inductive CompI (g : Gl) (c : Act) (m : Str → Option Value) (news : List (Addr × Obj)) (am : AM) (ρ : MEnv) (s : Shared) (St : Nat → Heap → Prop) (I D CC : Addr) (r : Src) (x : String) (t : TD) (e : ED) (fv : List String) (out : R (List MV)) (k : Nat) (s' : Shared) : Prop
  | mk (i : Nat) (news' : List (Addr × Obj)) (am' : AM) (σ₁ : MH) (ys : List Value) (accM : List MV) (kk : Nat) (mC : Str → Option Value) (S' : Sim g c c.fenv m news' am' ρ σ₁ s') (e' : Evolve [] news am news' am') (o' : Only s s') (hst : St i s'.heap) (hstand : r.stands σ₁ = true)
    (hacc : s'.heap.get? D = some (listOf (List.toArray ys) kk)) (hn : s'.heap.Ns CC mC) (hr : RelL am' accM ys) (hac : accM.length ≤ i) (hoff : ∀ a, a = I ∨ a = D ∨ a = CC → Off c news' am' a) (hi : i ≤ r.items.length) (hk : k = r.items.length + 1 - i)
    (hgo : compGo r x t e (seen ρ fv) (r.items.drop i) accM σ₁ = out) : CompI g c m news am ρ s St I D CC r x t e fv out k s'
theorem compGo_step {r : Src} {x : String} {t : TD} {e : ED} {ρ : MEnv} {v : MV} {vs acc ys : List MV} {σ σ' : MH} (h : compGo r x t e ρ (v :: vs) acc σ = .ok ys σ') : ∃ b σ₁, t (upd ρ x v) σ = .ok b σ₁ ∧
    ((b = false ∧ r.stands σ₁ = true ∧ compGo r x t e ρ vs acc σ₁ = .ok ys σ') ∨ (b = true ∧ ∃ y σ₂, e (upd ρ x v) σ₁ = .ok y σ₂ ∧ r.stands σ₂ = true ∧ compGo r x t e ρ vs (acc ++ [y]) σ₂ = .ok ys σ')) := by
  have h : (match t (upd ρ x v) σ with
    | .ok true σ₁ => match e (upd ρ x v) σ₁ with
      | .ok y σ₂ => if r.stands σ₂ then compGo r x t e ρ vs (acc ++ [y]) σ₂ else .stuck
      | _ => .stuck
    | .ok false σ₁ => if r.stands σ₁ then compGo r x t e ρ vs acc σ₁ else .stuck
    | _ => R.stuck) = .ok ys σ' := h
  revert h
  generalize t (upd ρ x v) σ = ct
  induction ct with
  | stuck => intro h; cases h
  | exc => intro h; cases h
  | ok b σ₁ =>
    intro h
    refine ⟨b, σ₁, rfl, ?_⟩
    induction b with
    | false =>
      by_cases hs : r.stands σ₁ = true
      · exact .inl ⟨rfl, hs, (if_pos hs).symm.trans h⟩
      · cases (if_neg hs).symm.trans h
    | true =>
      refine .inr ⟨rfl, ?_⟩
      revert h
      dsimp only
      generalize e (upd ρ x v) σ₁ = ce
      induction ce with
      | stuck => intro h; cases h
      | exc => intro h; cases h
      | ok y σ₂ =>
        intro h
        refine ⟨y, σ₂, rfl, ?_⟩
        by_cases hs : r.stands σ₂ = true
        · exact ⟨hs, (if_pos hs).symm.trans h⟩
        · cases (if_neg hs).symm.trans h
theorem comp_core {r : Src} {t : TD} {e : ED} {elt iter : Expr} {ifs : List Expr} {px pos : Pos} {cl : List (Str × Addr)} {I : Addr} {St : Nat → Heap → Prop} {RR : Value → Addr → Result → Shared → Prop} {E : Value → Shared → Prop} {ysM : List MV} {σ' : MH}
    (hC : c.Ok g n) (V : EnvOk c sc false c.fenv) (K : CompScope sc scope x fv) (hi : OkI g n (relabelS scope sc) true t ifs) (he : OkE g n (relabelS scope sc) true e elt)
    (hcl : ∀ x cc, (x, NameKind.free) ∈ scope.names → c.fenv.cells.lookup x = some cc → cl.lookup x = some cc)
    (S : Sim g c c.fenv m news am ρ σ s) (It : Iter g c r am I St) (hst : St 0 s.heap) (hstand : r.stands σ = true) (hnI : ∀ p ∈ news, p.1 ≠ I) (haI : ¬ InAm I am) (hlen : r.items.length ≤ 1000)
    (hgo : compGo r x t e (seen ρ fv) r.items [] σ = .ok ysM σ')
    (hRR : ∀ C D s' news' am' ys k mC, Sim g c c.fenv m news' am' ρ σ' s' → Evolve [] news am news' am' → Only s s' → s'.heap.Ns C mC → s'.heap.get? D = some (listOf (List.toArray ys) k) → RelL am' ysM ys → D ≠ C → Off c news' am' D → Off c news' am' C → RR (.ref D) C (.ok .next) s') :
    wpAny (model g.prog g.w) c.A (newList []) (fun acc s₃ => wpAny (model g.prog g.w) c.A (newFunctionEnv scope c.fenv.globals cl [] c.fenv.qual none .none (some c.fenv)) (fun cenv s₄ =>
      codeAny (model g.prog g.w) c.A (.compStart (.ListComp elt [⟨.Name (Str.ofString x) px, iter, ifs, 0⟩] scope pos) 0 (.ref I) acc { cenv with scope := relabel scope c.fenv }) (RR acc cenv.locals) s₄) E s₃) E s := by
  have hI0 : I < s.heap.objs.size := by obtain ⟨o, vs, ho, _⟩ := It.there _ _ hst; exact Heap.lt_size ho
  refine wpAny_newObj_type (wpAny_newFunctionEnv K.noCell (by intro y hy; simp at hy) (fun h₁ hns₁ hsb₁ => ?_) K.kind)
  dsimp only at hns₁ hsb₁ ⊢
  generalize hH2 : s.heap.push { cls := .type "list", dict := none, data := .seq ([] : List Value).toArray } = H2 at hns₁ hsb₁ ⊢
  have hCs : H2.objs.size = s.heap.objs.size + 1 := by rw [← hH2, Heap.size_push]
  refine box fun G0 k0 => ?_
  obtain ⟨D, hD⟩ : ∃ D, D = s.heap.objs.size := ⟨_, rfl⟩
  obtain ⟨CC, hCC⟩ : ∃ CC, CC = H2.objs.size := ⟨_, rfl⟩
  rw [← hCC] at hns₁ hsb₁
  have hDC : D ≠ CC := by rw [hD, hCC, hCs]; exact Nat.ne_of_lt (Nat.lt_succ_self _)
  have hID : I ≠ D := by rw [hD]; exact Nat.ne_of_lt hI0
  have hIC : I ≠ CC := by rw [hCC, hCs]; exact Nat.ne_of_lt (Nat.lt_succ_of_lt hI0)
  have old : ∀ b o, s.heap.get? b = some o → h₁.get? b = some o := fun b o e => hsb₁.extBut b o (by rw [hCC, hCs]; exact Nat.ne_of_lt (Nat.lt_succ_of_lt (Heap.lt_size e))) (Heap.get?_push_of_some _ (hH2 ▸ Heap.get?_push_of_some _ e))
  have hacc : ∃ k, h₁.get? D = some (listOf (List.toArray []) k) := ⟨_, by
    rw [hD]
    exact hsb₁.extBut _ _ (hD ▸ hDC) (Heap.get?_push_of_some _ (hH2 ▸ Heap.get?_push_size _ rfl))⟩
  have fresh : ∀ a, s.heap.objs.size ≤ a → s.heap.get? a = none := fun a ha => by
    cases e : s.heap.get? a with
    | none => rfl
    | some o' => exact absurd (Heap.lt_size e) (Nat.not_lt.mpr ha)
  have off : ∀ a, s.heap.objs.size ≤ a → Off c news am a := fun a ha => by
    refine box fun G0 k0 => ?_
    obtain ⟨n1, n2, n3, n4⟩ := S.not_size hC (fresh a ha)
    refine k0 ?_
    clear k0 G0
    exact ⟨n3, n4, n1, n2⟩
  have offD : Off c news am D := off D (by rw [hD]; exact Nat.le_refl _)
  have offC : Off c news am CC := off CC (by rw [hCC, hCs]; exact Nat.le_succ _)
  have offI : Off c news am I := ⟨It.fresh.1, It.fresh.2, hnI, haI⟩
  have V' : EnvOk c (relabelS scope sc) true (compEnvC scope cl CC c.fenv) :=
    ⟨relabel_eq V.scope, K.kind, V.glob, V.blt, fun h => Bool.noConfusion h, .inr fun a o ho e => by
      have : CC = a := e
      rw [← this, offC.new] at ho; cases ho⟩
  have hx : (compEnvC scope cl CC c.fenv).kindOf (Str.ofString x) = some .local := by
    show (relabel scope c.fenv).names.lookup _ = _
    rw [relabel_eq V.scope]; exact K.var
  obtain ⟨k₀, hacc⟩ := hacc
  refine k0 ?_
  clear k0 G0
  have loop : ∀ s₃ : Shared, s₃ = { s with heap := h₁, toks := s.toks + ([] : List (Str × Value)).length } →
      codeAny (model g.prog g.w) c.A (.compLoop (.ListComp elt [⟨.Name (Str.ofString x) px, iter, ifs, 0⟩] scope pos) 0 (.ref I) (.ref D) (compEnvC scope cl CC c.fenv)) (RR (.ref D) CC) s₃ := by
    rintro s₃ rfl
    refine codeAny_compLoop_tests
      (CompI g c m news am ρ s St I D CC r x t e fv (.ok ysM σ')) ?_ (r.items.length + 1)
      ⟨0, news, am, σ, [], [], k₀, _, S.keeps (tk := s.toks + ([] : List (Str × Value)).length) old, .refl, ⟨_, _, rfl⟩, It.frame _ _ _ hst fun o e => old _ o e, hstand, hacc, hns₁, trivial, Nat.le_refl _,
        by rintro a (rfl | rfl | rfl) <;> first | exact offI | exact offD | exact offC, Nat.zero_le _, rfl, hgo⟩
    rintro k s' hb1
    refine box fun G0 k0 => ?_
    obtain ⟨i, news', am', σ₁, ys, accM, kk, mC, S', e', o', hst', hstand', hacc', hn', hr', hac, hoff, hi', rfl, hgo'⟩ := hb1
    refine k0 ?_
    clear k0 G0
    rcases Nat.lt_or_ge i r.items.length with hlt | hge
    · refine It.item i s' c.fenv m news' am' ρ σ₁ r.items[i] S' e'.pre hstand' hst' (List.getElem?_eq_getElem hlt) _ _ fun v h₂ tk₂ hv hst₂ hk₂ => ?_
      have S₂ := S'.keepsBut (tk := tk₂) hk₂ It.fresh.1 It.fresh.2 (hoff I (.inl rfl)).notIn
      have offC' := hoff CC (.inr (.inr rfl))
      refine wpAny_assign_Name (wpAny_storeName_local hx (hn'.at' fun o e => hk₂ _ o (Ne.symm hIC) e) (fun h₃ hn₃ hs₃ => ?_) (by simp [compEnvC, relabel, K.kind]))
      have hs₃' : Heap.SameBut CC h₂ h₃ := hs₃
      have hn₃' : h₃.Ns CC _ := hn₃
      have S₃ : Sim g c c.fenv m news' am' ρ σ₁ _ := S₂.keepsBut (tk := tk₂ + 1) (fun b o hb e => (hs₃'.2 b hb).trans e) offC'.notL offC'.new offC'.notIn
      refine box fun G0 k0 => ?_
      obtain ⟨oI, vsI, hgI, hdI⟩ := It.there _ _ hst₂
      have hgI₃ : h₃.get? I = some oI := (hs₃'.2 I hIC).trans hgI
      have hD₃ : h₃.get? D = some (listOf (List.toArray ys) kk) := (hs₃'.2 D hDC).trans (hk₂ _ _ (Ne.symm hID) hacc')
      have hn₄ := hn₃'
      obtain ⟨oC, esC, epC, hgC, hdC, _⟩ := hn₃'
      obtain ⟨own, hown⟩ : ∃ own, own = [(I, oI), (D, listOf (List.toArray ys) kk), (CC, oC)] := ⟨_, rfl⟩
      refine k0 ?_
      clear k0 G0
      have hat : ∀ p ∈ own, h₃.get? p.1 = some p.2 := by
        rw [hown]; intro p hp
        simp only [List.mem_cons, List.not_mem_nil, or_false] at hp
        rcases hp with rfl | rfl | rfl <;> first | exact hgI₃ | exact hD₃ | exact hgC
      have hof : ∀ p ∈ own, Off c news' am' p.1 := by
        rw [hown]; intro p hp
        simp only [List.mem_cons, List.not_mem_nil, or_false] at hp
        rcases hp with rfl | rfl | rfl <;> first | exact hoff _ (.inl rfl) | exact hoff _ (.inr (.inl rfl)) | exact hoff _ (.inr (.inr rfl))
      have hnc : ∀ p ∈ own, ∀ v, p.2.data ≠ .cell v := by
        rw [hown]; intro p hp v
        simp only [List.mem_cons, List.not_mem_nil, or_false] at hp
        rcases hp with rfl | rfl | rfl
        · dsimp only; rw [hdI]; intro h; cases h
        · intro h; cases h
        · dsimp only; rw [hdC]; intro h; cases h
      have mI : (I, oI) ∈ own := by rw [hown]; simp
      have mD : (D, listOf (List.toArray ys) kk) ∈ own := by rw [hown]; simp
      have mC' : (CC, oC) ∈ own := by rw [hown]; simp
      have O : Own c h₃ news' am' own := own_of_off hat hof hnc
      have SW := S₃.withOwn O
      have S₄ := SW.inside (cl := cl) (mC := fun z => if z = Str.ofString x then some v else mC z) hC V K hcl (List.mem_append_left _ mC') hn₄ (by simp) hv offC'.apart
      rw [List.drop_eq_getElem_cons hlt] at hgo'
      refine box fun GZ kZ => ?_
      obtain ⟨b, σ₂, htt, hcase⟩ := compGo_step hgo'
      refine kZ ?_
      clear kZ GZ hgo'
      have HT := hi c _ _ m _ _ _ _ hC V' S₄
      rw [htt] at HT
      refine wpAny_mono (HT _) (fun u s₄ hb2 => ?_) fun _ _ x => x
      clear HT htt
      refine box fun GZ kZ => ?_
      obtain ⟨news₂, am₂, S₅, e₅, o₅, r₅⟩ := hb2
      refine kZ ?_
      clear kZ GZ
      subst r₅
      rcases hcase with ⟨hb, hstd, hgo'⟩ | ⟨hb, y, σ₃, hee, hstd, hgo'⟩
      · rw [if_neg (by rw [hb]; exact Bool.false_ne_true)]
        refine box fun GZ kZ => ?_
        obtain ⟨hat₅, hap₅⟩ := own_stays e₅ O.apart (fun p hp => List.not_mem_nil) S₅.N
        refine kZ ?_
        clear kZ GZ
        have S₆ := (SW.back hC S₅ e₅ hC.locs).dropOwn hC hat₅ hap₅ O.noCell
        refine ⟨r.items.length + 1 - (i + 1), Nat.sub_lt_sub_left (Nat.lt_succ_of_lt hlt) (Nat.lt_succ_self i), i + 1, _, am₂, σ₂, ys, accM, kk, (fun z => if z = Str.ofString x then some v else mC z), S₆, e'.trans (e₅.dropOwn O.new) S₅.amOk, (o'.trans ⟨_, _, rfl⟩).trans o₅, ?_, hstd, hat₅ _ mD, ?_, e₅.relL hr', by lia, ?_, hlt, rfl, hgo'⟩
        · exact It.frame _ _ _ hst₂ fun o ho => by rw [hgI] at ho; cases ho; exact hat₅ _ mI
        · exact hn₄.at' fun o ho => by rw [hgC] at ho; cases ho; exact hat₅ _ mC'
        · rintro a ha
          obtain ⟨oa, hma⟩ : ∃ oa, (a, oa) ∈ own := by rcases ha with rfl | rfl | rfl <;> first | exact ⟨_, mI⟩ | exact ⟨_, mD⟩ | exact ⟨_, mC'⟩
          exact ⟨(O.off _ hma).1, (O.off _ hma).2, fun p hp => (mem_dropOwn.mp hp).2 _ hma, hap₅ _ hma⟩
      · rw [if_pos hb]
        have HE := he c _ s₄ m _ _ _ _ hC V' S₅
        rw [hee] at HE
        refine wpAny_mono (HE _) (fun u s₅ hb3 => ?_) fun _ _ x => x
        clear HE hee
        refine box fun GZ kZ => ?_
        obtain ⟨news₃, am₃, S₇, e₇, o₇, r₇⟩ := hb3
        have e₈ := e₅.trans e₇ S₇.amOk
        obtain ⟨hat₅, hap₅⟩ := own_stays e₈ O.apart (fun p hp => List.not_mem_nil) S₇.N
        refine kZ ?_
        clear kZ GZ
        have S₆ := (SW.back hC S₇ e₈ hC.locs).dropOwn hC hat₅ hap₅ O.noCell
        have offN : ∀ a, a = I ∨ a = D ∨ a = CC → Off c (dropOwn own news₃) am₃ a := by
          rintro a ha
          obtain ⟨oa, hma⟩ : ∃ oa, (a, oa) ∈ own := by rcases ha with rfl | rfl | rfl <;> first | exact ⟨_, mI⟩ | exact ⟨_, mD⟩ | exact ⟨_, mC'⟩
          exact ⟨(O.off _ hma).1, (O.off _ hma).2, fun p hp => (mem_dropOwn.mp hp).2 _ hma, hap₅ _ hma⟩
        have hysz : ys.length ≤ 1000 := by have := hr'.length; lia
        refine wpAny_list_append_plain (items := List.toArray ys) (hsz := maxLen_le (by simp [maxLen]; lia)) ⟨_, hat₅ _ mD⟩ fun h₆ hl₆ hs₆ => ?_
        obtain ⟨kk', hkk'⟩ := hl₆
        have offD' := offN D (.inr (.inl rfl))
        refine ⟨r.items.length + 1 - (i + 1), Nat.sub_lt_sub_left (Nat.lt_succ_of_lt hlt) (Nat.lt_succ_self i), i + 1, _, am₃, σ₃, ys ++ [u], accM ++ [y], kk', (fun z => if z = Str.ofString x then some v else mC z), S₆.keepsBut (tk := s₅.toks) (fun b o hb e => (hs₆.2 b hb).trans e) offD'.notL offD'.new offD'.notIn,
          e'.trans (e₈.dropOwn O.new) S₇.amOk, (((o'.trans ⟨_, _, rfl⟩).trans o₅).trans o₇).trans ⟨_, _, rfl⟩, ?_, hstd, ?_, ?_, (e₈.relL hr').append ⟨r₇, trivial⟩, by rw [List.length_append, List.length_singleton]; lia, offN, hlt, rfl, hgo'⟩
        · exact It.frame _ _ _ hst₂ fun o ho => by rw [hgI] at ho; cases ho; exact (hs₆.2 I hID).trans (hat₅ _ mI)
        · rw [hkk']; simp [PySem.W.listOf]
        · exact hn₄.at' fun o ho => by rw [hgC] at ho; cases ho; exact (hs₆.2 CC (Ne.symm hDC)).trans (hat₅ _ mC')
    · have hin : i = r.items.length := Nat.le_antisymm hi' hge
      subst hin
      rw [List.drop_length] at hgo'
      obtain ⟨q1, q2⟩ := R.ok.inj hgo'
      rw [q1] at hr'
      rw [q2] at S' hstand'
      refine It.done _ s' c.fenv m news' am' _ _ S' e'.pre hstand' hst' (Nat.le_refl _) (Nat.le_refl _) _ _ fun h₂ tk₂ hk₂ => ?_
      exact hRR CC D _ news' am' ys kk mC (S'.keepsBut (tk := tk₂) hk₂ It.fresh.1 It.fresh.2 (hoff I (.inl rfl)).notIn) e' (o'.trans ⟨_, _, rfl⟩) (hn'.at' fun o e => hk₂ _ o (Ne.symm hIC) e) (hk₂ _ _ (Ne.symm hID) hacc') hr' hDC (hoff D (.inr (.inl rfl))) (hoff CC (.inr (.inr rfl)))
  subst hD
  subst hCC
  exact codeAny_compStart_list (loop _ rfl) (It.self 0 _ _ _ (It.frame _ _ _ hst fun o e => old _ o e) (loop _ rfl))
end
section
variable {g : Gl} {n : Nat} {sc scope : Scope} {x : String} {fv : List String}
theorem Off.consD {c : Act} {news : List (Addr × Obj)} {am : AM} {D C : Addr} {o : Obj} (h : Off c news am C) (hne : D ≠ C) : Off c ((D, o) :: news) (am ++ [(D, D)]) C := by
  refine ⟨h.notL, h.new, fun p hp => ?_, ?_⟩
  · rcases List.mem_cons.mp hp with rfl | hp
    · exact hne
    · exact h.notIn p hp
  · rintro hb1
    refine box fun G0 k0 => ?_
    obtain ⟨i, q, hq, hr⟩ := hb1
    refine k0 ?_
    clear k0 G0
    rcases Nat.lt_or_ge i am.length with hi | hi
    · rw [List.getElem?_append_left hi] at hq; exact h.apart ⟨i, q, hq, hr⟩
    · rw [List.getElem?_append_right hi] at hq
      cases hz : i - am.length with
      | zero => rw [hz] at hq; cases hq; rcases hr with hr | hr <;> exact hne hr
      | succ z => rw [hz] at hq; cases hq
theorem ok_comp {src : RD} {t : TD} {e : ED} {elt iter : Expr} {ifs : List Expr} {px pos : Pos} (hr : OkR g n sc false src iter) (K : CompScope sc scope x fv) (hi : OkI g n (relabelS scope sc) true t ifs) (he : OkE g n (relabelS scope sc) true e elt)
    (hs : ∀ env x, foldedSetIterable iter env x = pure x) : OkE g n sc false (eComp e x fv src t) (.ListComp elt [⟨.Name (Str.ofString x) px, iter, ifs, 0⟩] scope pos) := by
  intro c env s m news am ρ σ C V S
  obtain rfl := V.own rfl
  have H := hr c c.fenv s m news am ρ σ C V S
  refine box fun G0 k0 => ?_
  obtain ⟨cl, hclos, hcl⟩ := closure_of (scope := scope) (env := c.fenv) fun p hp hf => C.cel _ (by rw [V.scope]; exact K.free p hp hf)
  refine k0 ?_
  clear k0 G0
  have enter : ∀ Q E, wpAny (model g.prog g.w) c.A (eval iter c.fenv) (fun xv s₁ => wpAny (model g.prog g.w) c.A (pyIter xv) (fun it s₂ => wpAny (model g.prog g.w) c.A (newList []) (fun acc s₃ =>
      wpAny (model g.prog g.w) c.A (newFunctionEnv scope c.fenv.globals cl [] c.fenv.qual none .none (some c.fenv)) (fun cenv s₄ =>
        codeAny (model g.prog g.w) c.A (.compStart (.ListComp elt [⟨.Name (Str.ofString x) px, iter, ifs, 0⟩] scope pos) 0 it acc { cenv with scope := relabel scope c.fenv }) (compPost (model g.prog g.w) c.A E none Q acc cenv.locals) s₄) E s₃) E s₂) E s₁) E s →
      wpAny (model g.prog g.w) c.A (eval (.ListComp elt [⟨.Name (Str.ofString x) px, iter, ifs, 0⟩] scope pos) c.fenv) Q E s := fun Q E h => by
    rw [eval_ListComp]
    exact wpAny_comprehension_free (use := none) rfl (hs _) hclos K.kind K.once h
  unfold eComp
  revert H
  cases src ρ σ with
  | stuck => intro _; trivial
  | exc cl msg σ' => exact fun H Q E hE => enter Q E (H _ E hE)
  | ok r σ₁ =>
    intro H
    simp only [R.bind_ok]
    by_cases hl : r.items.length ≤ 1000
    · rw [if_pos hl]
      cases hgo : compGo r x t e (Mine.seen ρ fv) r.items [] σ₁ with
      | stuck => trivial
      | exc cl msg σ' => exact absurd hgo (compGo_noexc _ _ _ _ _ _)
      | ok ysM σ₂ =>
        simp only [R.bind_ok]
        intro E
        refine enter _ E (H _ E fun I St s₂ news₂ am₂ S₂ e₂ o₂ It hst hstand hnI haI => ?_)
        refine comp_core (RR := fun acc CC => compPost (model g.prog g.w) c.A E none _ acc CC) C V K hi he hcl S₂ It hst hstand hnI haI hl hgo ?_
        intro CC D s' news' am' ys k mC S' e' o' hn hD hrel hDC offD offC
        refine ⟨mC, hn, fun h' hs' => ?_⟩
        obtain ⟨S₃, e₃⟩ := S'.adopt C hD offD.notL offD.new offD.notIn offD.apart hrel
        have offC' := offC.consD (o := W.listOf (List.toArray ys) k) hDC
        have S₄ := S₃.keepsBut (tk := s'.toks) (fun b o hb e => (hs'.2 b hb).trans e) offC'.notL offC'.new offC'.notIn
        exact ⟨_, _, S₄, (e₂.trans e' S'.amOk).trans e₃ S₃.amOk, (o₂.trans o').trans ⟨_, _, rfl⟩, (D, D), by rw [List.getElem?_append_right (by rw [S'.H.len]; exact Nat.le_refl _), S'.H.len]; simp, rfl⟩
    · rw [if_neg hl]; trivial
theorem okS_comp {y : String} {src : RD} {t : TD} {e : ED} {elt iter : Expr} {ifs : List Expr} {px py pos spos : Pos} (hr : OkR g n sc false src iter) (K : CompScope sc scope x fv) (hi : OkI g n (relabelS scope sc) true t ifs) (he : OkE g n (relabelS scope sc) true e elt)
    (hy : Stores sc y) (hsw : ∀ env, env.scope = sc → swapsWith (.ListComp elt [⟨.Name (Str.ofString x) px, iter, ifs, 0⟩] scope pos) (some (.Name (Str.ofString y) py)) spos.line env = pure true)
    (hs : ∀ env x, foldedSetIterable iter env x = pure x) : OkS g n sc (sAssign y (eComp e x fv src t)) (.Assign [.Name (Str.ofString y) py] (.ListComp elt [⟨.Name (Str.ofString x) px, iter, ifs, 0⟩] scope pos) spos) := by
  intro c s m news am ρ σ C V S
  have H := hr c c.fenv s m news am ρ σ C V S
  refine box fun G0 k0 => ?_
  obtain ⟨cl, hclos, hcl⟩ := closure_of (scope := scope) (env := c.fenv) fun p hp hf => C.cel _ (by rw [V.scope]; exact K.free p hp hf)
  refine k0 ?_
  clear k0 G0
  have enter : ∀ (Q : Flow → Shared → Prop) E, wpAny (model g.prog g.w) c.A (eval iter c.fenv) (fun xv s₁ => wpAny (model g.prog g.w) c.A (pyIter xv) (fun it s₂ => wpAny (model g.prog g.w) c.A (newList []) (fun acc s₃ =>
      wpAny (model g.prog g.w) c.A (newFunctionEnv scope c.fenv.globals cl [] c.fenv.qual none .none (some c.fenv)) (fun cenv s₄ =>
        codeAny (model g.prog g.w) c.A (.compStart (.ListComp elt [⟨.Name (Str.ofString x) px, iter, ifs, 0⟩] scope pos) 0 it acc { cenv with scope := relabel scope c.fenv }) (compPost (model g.prog g.w) c.A E (some (assign (.Name (Str.ofString y) py) c.fenv)) (fun _ s' => Q .next s') acc cenv.locals) s₄) E s₃) E s₂) E s₁) E s →
      wpAny (model g.prog g.w) c.A (exec (.Assign [.Name (Str.ofString y) py] (.ListComp elt [⟨.Name (Str.ofString x) px, iter, ifs, 0⟩] scope pos) spos) c.fenv) Q E s := fun Q E h => by
    rw [exec_Assign_Name_used _ _ _ _ (hsw _ V.scope)]
    refine wpAny_bind (wpAny_standAt (wpAny_bind ?_))
    show wpAny _ c.A (do let _ ← comprehension (.ListComp elt [⟨.Name (Str.ofString x) px, iter, ifs, 0⟩] scope pos) scope c.fenv _ (newList []) false (eval iter c.fenv) (some (assign (.Name (Str.ofString y) py) c.fenv))) _ _ s
    refine wpAny_bind (wpAny_mono (wpAny_comprehension_free (use := some (assign (.Name (Str.ofString y) py) c.fenv)) (Q := fun _ s' => Q .next s') rfl (hs _) hclos K.kind K.once h) (fun _ s' hq => wpAny_pure (wpAny_pure hq)) fun _ _ e => e)
  unfold sAssign eComp
  revert H
  cases src ρ σ with
  | stuck => intro _; trivial
  | exc cl msg σ' => exact fun H Q E hE => enter Q E (H _ E fun x s' ⟨news', am', h1, e, o, fl⟩ => hE x s' ⟨news', am', h1, e.more, o, fl.any⟩)
  | ok r σ₁ =>
    intro H
    simp only [R.bind_ok]
    by_cases hl : r.items.length ≤ 1000
    · rw [if_pos hl]
      cases hgo : compGo r x t e (Mine.seen ρ fv) r.items [] σ₁ with
      | stuck => trivial
      | exc cl msg σ' => exact absurd hgo (compGo_noexc _ _ _ _ _ _)
      | ok ysM σ₂ =>
        simp only [R.bind_ok]
        intro E
        refine enter _ E (H _ E fun I St s₂ news₂ am₂ S₂ e₂ o₂ It hst hstand hnI haI => ?_)
        refine comp_core (RR := fun acc CC => compPost (model g.prog g.w) c.A E (some (assign (.Name (Str.ofString y) py) c.fenv)) _ acc CC) C V K hi he hcl S₂ It hst hstand hnI haI hl hgo ?_
        intro CC D s' news' am' ys k mC S' e' o' hn hD hrel hDC offD offC
        refine box fun G0 k0 => ?_
        obtain ⟨S₃, e₃⟩ := S'.adopt C hD offD.notL offD.new offD.notIn offD.apart hrel
        have offC' := offC.consD (o := W.listOf (List.toArray ys) k) hDC
        have hn' := hn
        obtain ⟨oC, es, ep, hgC, hdC, _⟩ := hn
        refine k0 ?_
        clear k0 G0
        have O : Own c s'.heap ((D, W.listOf (List.toArray ys) k) :: news') (am' ++ [(D, D)]) [(CC, oC)] := own_of_off (fun p hp => by cases List.mem_singleton.mp hp; exact hgC) (fun p hp => by cases List.mem_singleton.mp hp; exact offC')
          (fun p hp v => by cases List.mem_singleton.mp hp; dsimp only; rw [hdC]; intro h; cases h)
        have SW := S₃.withOwn O
        show wpAny _ c.A (assign (.Name (Str.ofString y) py) c.fenv (.ref D)) _ _ _
        have hv : RelV (am' ++ [(D, D)]) (.ref σ₂.length) (.ref D) := ⟨(D, D), by rw [List.getElem?_append_right (by rw [S'.H.len]; exact Nat.le_refl _), S'.H.len]; simp, rfl⟩
        refine wpAny_assign_Name (store_ok C V SW hv hy _ _ fun m₄ news₄ s₄ S₄ e₄ o₄ => ?_)
        obtain ⟨hat₅, hap₅⟩ := own_stays e₄ O.apart (own_notCell SW O.at' O.noCell) S₄.N
        have S₅ := S₄.dropOwn C hat₅ hap₅ O.noCell
        refine ⟨mC, hn'.at' fun o ho => by rw [hgC] at ho; cases ho; exact hat₅ _ (List.mem_singleton.mpr rfl), fun h' hs' => ?_⟩
        have S₆ := S₅.keepsBut (tk := s₄.toks) (fun b o hb e => (hs'.2 b hb).trans e) offC'.notL offC'.new fun p hp => (mem_dropOwn.mp hp).2 _ (List.mem_singleton.mpr rfl)
        exact ⟨_, _, _, S₆, (((e₂.trans e' S'.amOk).trans e₃ S₃.amOk).more).trans (e₄.dropOwn O.new) S₄.amOk, ((o₂.trans o').trans o₄).trans ⟨_, _, rfl⟩, trivial⟩
    · rw [if_neg hl]; trivial
end
theorem inAm_step {X : List Addr} {news news' : List (Addr × Obj)} {am am' : AM} {p : Addr × Obj} (e : Evolve X news am news' am') (hp : p ∈ news) (hn : ¬ InAm p.1 am) : ¬ InAm p.1 am' := by
  rintro hb1
  refine box fun G0 k0 => ?_
  obtain ⟨i, q, hq, hr⟩ := hb1
  refine k0 ?_
  clear k0 G0
  rcases Nat.lt_or_ge i am.length with hi | hi
  · refine hn ⟨i, q, ?_, hr⟩
    obtain ⟨ext, rfl⟩ := e.pre
    rw [List.getElem?_append_left hi] at hq; exact hq
  · have := e.fresh i q hi hq p hp
    rcases hr with hr | hr
    · exact this.1 hr.symm
    · exact this.2 hr.symm
section
variable {g : Gl} {n : Nat} {c : Act} {env : Env} {m : Str → Option Value} {news : List (Addr × Obj)} {am : AM} {ρ : MEnv} {σ : MH} {s : Shared}
theorem Sim.after {σ' : MH} {news' : List (Addr × Obj)} {am' : AM} {s' : Shared} (C : c.Ok g n) (S : Sim g c env m news am ρ σ s) (F : Fr c.h₀ c.L s'.heap m) (N : News c.h₀ c.L s'.heap news') (H : HeapRel g.wc c.base news' am' σ') (e : Evolve [] news am news' am') :
    Sim g c env m news' am' ρ σ' s' := by
  have cell : ∀ cc o v, (cc, o) ∈ news → o.data = .cell v → (cc, o) ∈ news' := fun cc o v hm hd => by
    have hna : ¬ InAm cc am := S.apart C (S.N _ hm).1 (fun its k e => by dsimp only at e; rw [e] at hd; cases hd) (fun its k e => by dsimp only at e; rw [e] at hd; cases hd) (fun d e => by dsimp only at e; rw [e] at hd; cases hd) (fun es k e => by dsimp only at e; rw [e] at hd; cases hd)
    refine box fun G0 k0 => ?_
    obtain ⟨o', hm', hk'⟩ := e.keep _ hm hna
    refine k0 ?_
    clear k0 G0
    rw [hk' List.not_mem_nil] at hm'
    exact hm'
  refine ⟨F, N, H, fun x mv hx => ?_, fun x cc hx => ?_, ?_⟩
  · refine box fun G0 k0 => ?_
    obtain ⟨v, hv, hn⟩ := S.V x mv hx
    refine k0 ?_
    clear k0 G0
    refine ⟨v, e.relV hv, ?_⟩
    rcases hn with ⟨hk, h⟩ | ⟨hk, cc, o, hc, hm, hd⟩
    · refine .inl ⟨hk, ?_⟩
      rcases h with h | ⟨o, es, ep, hm, r⟩
      · exact .inl h
      · rcases S.Ap with h1 | ⟨_, h2⟩
        · exact absurd h1 (S.N _ hm).2.1
        · refine box fun G0 k0 => ?_
          obtain ⟨o', hm', hk'⟩ := e.keep _ hm h2
          refine k0 ?_
          clear k0 G0
          rw [hk' List.not_mem_nil] at hm'
          exact .inr ⟨o, es, ep, hm', r⟩
    · exact .inr ⟨hk, cc, o, hc, cell _ _ _ hm hd, hd⟩
  · refine box fun G0 k0 => ?_
    obtain ⟨o, v, hm, hd⟩ := S.Ce x cc hx
    refine k0 ?_
    clear k0 G0
    exact ⟨o, v, cell _ _ _ hm hd, hd⟩
  · rcases S.Ap with h1 | ⟨⟨o, hm⟩, h2⟩
    · exact .inl h1
    · refine box fun G0 k0 => ?_
      obtain ⟨o', hm', _⟩ := e.keep _ hm h2
      refine k0 ?_
      clear k0 G0
      exact .inr ⟨⟨o', hm'⟩, inAm_step e hm h2⟩
end
noncomputable def Act.callee (c : Act) (env' : Env) (g' : Heap) (L' : Addr) : Act := ⟨c.A.deeper env', c.base, c.fenv :: c.outer, env', g', L'⟩
theorem fly_leave {g : Gl} {n n' : Nat} {c : Act} {env' : Env} {g' : Heap} {L' : Addr} {m : Str → Option Value} {cl : Bool} {msg : Str} {M : (Str → Option Value) → Prop} {X : List Addr} {news : List (Addr × Obj)} {am : AM} {s s₁ : Shared} {σ' : MH} {x : Value} {s' : Shared} {E : Value → Shared → Prop}
    (C : c.Ok g n) (C' : (c.callee env' g' L').Ok g.sub n') (FG : Fr c.h₀ c.L g' m) (o : Only s s₁) (hX : X = [])
    (h : Fly g.sub (c.callee env' g' L') cl msg M X news am s₁ σ' x s') (hE : ∀ x s', Fly g c cl msg (fun m' => m' = m) [] news am s σ' x s' → E x s') :
    wpAny (model g.prog g.w) (c.A.deeper env') (leaving env' x) (fun _ s'' => E x s'') (fun e' s'' => E e' s'') s' := by
  subst hX
  refine box fun G0 k0 => ?_
  obtain ⟨news', am', H, ev, o', e, t, tk, G, B, m', rfl, _, f⟩ := h
  refine k0 ?_
  clear k0 G0
  refine f.leave C' fun h₁ f₁ t₁ => hE _ _ ⟨news', am', H, ev, (o.trans o').trans (Only.mk' s' h₁ s'.toks), e, t, tk, g', B, m, rfl, rfl, ?_⟩
  have hfr : Fr g' L' G m' := f.fr
  have hL : env'.frame = some L' := C'.frame
  refine ⟨FG, (Heap.UpToSlots.of_keeps hfr.keep).trans f₁.upTo, f₁.tup, f.tNew, f.bStays, fun b o hb nm => f.below b o (hfr.keep b o hb) fun hm => ?_, fun q hq => ⟨(f.led q hq).1, fun e => ?_, ?_⟩, f₁.stays, f.eNew, f₁.frames.2.2, .inr ⟨.none, .inl rfl, t₁⟩⟩
  · refine box fun G0 k0 => ?_
    obtain ⟨env, he, hf⟩ := List.mem_filterMap.mp hm
    refine k0 ?_
    clear k0 G0
    rcases List.mem_cons.mp he with rfl | he
    · have hb' : b = L' := Option.some.inj (hf.symm.trans hL)
      rw [hb', kts_self hfr] at hb; cases hb
    · exact nm (List.mem_filterMap.mpr ⟨env, he, hf⟩)
  · have h1 := (f.led q hq).1
    have hm : c.L ∈ ((c.callee env' g' L').fenv :: (c.callee env' g' L').outer).filterMap (·.frame) := List.mem_filterMap.mpr ⟨c.fenv, .tail _ (.head _), C.frame⟩
    rw [e, (f.frames.mem hm).1] at h1; cases h1
  · cases q' : c.h₀.get? q.1 with
    | none => rfl
    | some o => have h1 : g'.get? q.1 = none := (f.led q hq).2.2; rw [FG.keep _ _ q'] at h1; cases h1
theorem binds_rel {am : AM} : ∀ (ps : List String) (xs : List MV) (us : List Value) (ρ : MEnv) (M : Str → Option Value), RelL am xs us → xs.length = ps.length →
    (∀ y mv, ρ y = some mv → ∃ v, RelV am mv v ∧ M (Str.ofString y) = some v) → ∀ y mv, updAll ρ ps xs y = some mv →
    ∃ v, RelV am mv v ∧ ((((ps.map Str.ofString).zip us).reverse.lookup (Str.ofString y)).or (M (Str.ofString y))) = some v
  | [], [], us, ρ, M, r, _, h => fun y mv hy => by
    refine box fun G0 k0 => ?_
    obtain ⟨v, hv, hm⟩ := h y mv (by simpa [updAll] using hy)
    refine k0 ?_
    clear k0 G0
    refine ⟨v, hv, ?_⟩
    simpa using hm
  | p :: ps, x :: xs, [], ρ, M, r, _, h => r.elim
  | p :: ps, x :: xs, u :: us, ρ, M, ⟨r, rs⟩, hl, h => fun y mv hy => by
    have ih := binds_rel ps xs us (upd ρ p x) (fun z => if z = Str.ofString p then some u else M z) rs (by simpa using hl) (fun z w hz => by
      unfold upd at hz
      by_cases e : z = p
      · subst e; rw [if_pos rfl] at hz; cases hz; exact ⟨u, r, by simp⟩
      · rw [if_neg e] at hz
        refine box fun G0 k0 => ?_
        obtain ⟨v, hv, hm⟩ := h z w hz
        refine k0 ?_
        clear k0 G0
        exact ⟨v, hv, by rw [if_neg fun q => e (ofString_inj q)]; exact hm⟩) y mv (by simpa [updAll] using hy)
    refine box fun G0 k0 => ?_
    obtain ⟨v, hv, hm⟩ := ih
    refine k0 ?_
    clear k0 G0
    refine ⟨v, hv, ?_⟩
    simp only [List.map_cons, List.zip_cons_cons, List.reverse_cons]
    rw [List.lookup_append]
    cases hl2 : (((ps.map Str.ofString).zip us).reverse.lookup (Str.ofString y)) with
    | some w => rw [hl2] at hm; simpa using hm
    | none =>
      rw [hl2] at hm
      simp only [Option.none_or] at hm ⊢
      by_cases e : Str.ofString y = Str.ofString p
      · rw [if_pos e] at hm
        simp [List.lookup_cons, e, hm]
      · rw [if_neg e] at hm
        have : (Str.ofString y == Str.ofString p) = false := by simpa using e
        simp [List.lookup_cons, this, hm]
section
variable {gl : Gl} {n : Nat} {fa : Addr} {name qual : Str} {params : Arguments} {body : List Stmt} {scope : Scope} {dV kV doc pm cdv ct oc : Value} {an od : Option Addr} {osl : Array (Option Value)} {ps : List String} {B : SD}
noncomputable def callPost (Q : Value → Shared → Prop) (E : Value → Shared → Prop) (r : Result) (s' : Shared) : Prop := match r with
  | .ok (.ret v) => Q v s'
  | .ok _ => False
  | .error e => E e s'
noncomputable def DoesC (g : Gl) (n : Nat) (fa : Addr) (f : List MV → MH → R MV) : Prop :=
  ∀ (c : Act) (env : Env) (s : Shared) (m : Str → Option Value) (news : List (Addr × Obj)) (am : AM) (ρ : MEnv) (σ : MH) (xs : List MV) (us : List Value),
    c.Ok g n → Sim g c env m news am ρ σ s → RelL am xs us → DenW g c env m ρ RelV news am s (fun Q E s => codeAny (model g.prog g.w) c.A (.call (.ref fa) ⟨us, []⟩) (callPost Q E) s) (f xs σ)
theorem DoesC.does {g : Gl} {n : Nat} {fa : Addr} {f : List MV → MH → R MV} (h : DoesC g n fa f) : Does g n (.ref fa) f := by
  intro c env s m news am ρ σ xs us C S r
  exact (h c env s m news am ρ σ xs us C S r).of fun Q E h => wpAny_call h
theorem does_plain (hK : gl.K.lookup fa = some ⟨oc, od, .func (fnX name qual params body scope [] dV kV doc pm an cdv ct), osl⟩) (hcd : codeIn gl.K cdv qual = true)
    (hb : OkB gl.sub n scope B body) (hbind : ∀ s us, us.length = ps.length → BindsTo s (fnX name qual params body scope [] dV kV doc pm an cdv ct) ⟨us, []⟩ ((ps.map Str.ofString).zip us))
    (hloc : ∀ x ∈ ps, scope.names.lookup (Str.ofString x) = some .local) (hcell : ∀ x ∈ scope.names, x.2 ≠ .cell) (hnc : ∀ x, scope.names.lookup x ≠ some .cell)
    (hco : scope.isCoroutine = false := by rfl) (hgen : scope.isGenerator = false := by rfl) (hk : scope.kind = .function := by rfl) : DoesC gl (n + 1) fa (defCall ps B) := by
  intro c env s m news am ρ σ xs us C S r
  unfold defCall
  by_cases hl : xs.length = ps.length
  · rw [if_pos hl]
    obtain ⟨A₀, BB⟩ := C.below
    have hul : us.length = ps.length := r.length.trans hl
    have enter : ∀ (Q : Value → Shared → Prop) (E : Value → Shared → Prop),
        (∀ g L' h₁, Fr c.h₀ c.L g m → Fr g L' h₁ (fun y => ((ps.map Str.ofString).zip us).reverse.lookup y) → News g L' h₁ news → Below c.A c.base (c.fenv :: c.outer) g → c.h₀.StaysIn g → (∀ p ∈ news, p.1 < L') →
          wpAny (model gl.prog gl.w) (c.A.deeper (envX qual scope L' fa cdv [])) (execs body (envX qual scope L' fa cdv []))
            (fun fl s' => LeaveK c.h₀ c.L m g (callPost Q E) (match fl with | .ret v => v | _ => .none) s')
            (fun e s' => wpAny (model gl.prog gl.w) (c.A.deeper (envX qual scope L' fa cdv [])) (leaving (envX qual scope L' fa cdv []) e) (fun _ s'' => E e s'') (fun e' s'' => E e' s'') s')
            { s with heap := h₁, toks := s.toks + ((ps.map Str.ofString).zip us).length }) →
        codeAny (model gl.prog gl.w) c.A (.call (.ref fa) ⟨us, []⟩) (callPost Q E) s := fun Q E h => by
      exact callX_plain BB S.F S.N C.top.nolimit C.frames C.frame C.kind ((C.inK.keeps S.F.keep) _ _ hK) rfl (codeRec_of (C.inK.keeps S.F.keep) hcd) (by have := C.depth; lia) (hbind s us hul)
        (fun y hy => by
          refine box fun G0 k0 => ?_
          obtain ⟨a, b⟩ := y
          have := (List.of_mem_zip hy).1
          obtain ⟨x, hx, rfl⟩ := List.mem_map.mp this
          refine k0 ?_
          clear k0 G0
          exact hloc x hx) h hcell hco hgen hk
    have inner : ∀ g L' h₁ tk, Fr c.h₀ c.L g m → Fr g L' h₁ (fun y => ((ps.map Str.ofString).zip us).reverse.lookup y) → News g L' h₁ news → Below c.A c.base (c.fenv :: c.outer) g → c.h₀.StaysIn g →
        (c.callee (envX qual scope L' fa cdv []) g L').Ok gl.sub n ∧ EnvOk (c.callee (envX qual scope L' fa cdv []) g L') scope false (envX qual scope L' fa cdv []) ∧
        Sim gl.sub (c.callee (envX qual scope L' fa cdv []) g L') (envX qual scope L' fa cdv []) (fun y => ((ps.map Str.ofString).zip us).reverse.lookup y) news am (updAll (fun _ => none) ps xs) σ { s with heap := h₁, toks := tk } := by
      intro g L' h₁ tk FG FL NL BG st
      refine ⟨⟨⟨_, BG⟩, Around.frames_deeper C.frames, rfl, hk, rfl, rfl, rfl, C.inK.keeps st, C.top.keeps st, C.quiet, (fun h => by cases h), ?_, ?_, ?_, ?_⟩, ⟨rfl, hk, rfl, rfl, fun _ => rfl, .inl rfl⟩, ⟨FL, NL, ?_, ?_, ?_, .inl rfl⟩⟩
      · have := C.depth
        show c.A.depth + 1 + 4 * n + 4 < _
        lia
      · have := C.units
        show c.A.units + 3 + 12 * n + 80 < _
        lia
      · intro x hx; exact absurd hx (hnc x)
      · intro x y cx cy hx; cases hx
      · exact S.H
      · intro y mv hy
        refine box fun G0 k0 => ?_
        obtain ⟨v, hv, hm⟩ := binds_rel ps xs us (fun _ => none) (fun _ => none) r hl (fun _ _ h => by cases h) y mv hy
        refine k0 ?_
        clear k0 G0
        rw [Option.or_none] at hm
        refine ⟨v, hv, .inl ⟨?_, .inl ⟨rfl, hm⟩⟩⟩
        have hyp : y ∈ ps := by
          have : ∀ (ps : List String) (xs : List MV) (ρ : MEnv), updAll ρ ps xs y = some mv → y ∈ ps ∨ ρ y = some mv := by
            intro ps
            induction ps with
            | nil => intro xs ρ h; exact .inr (by simpa [updAll] using h)
            | cons p ps ih =>
              intro xs ρ h
              induction xs with
              | nil => exact .inr (by simpa [updAll] using h)
              | cons x xs =>
                rcases ih xs (upd ρ p x) (by simpa [updAll] using h) with h | h
                · exact .inl (.tail _ h)
                · unfold upd at h
                  by_cases e : y = p
                  · exact .inl (e ▸ .head _)
                  · rw [if_neg e] at h; exact .inr h
          rcases this ps xs _ hy with h | h
          · exact h
          · cases h
        exact hloc y hyp
      · intro x cc hx; cases hx
    have HB := fun g L' h₁ tk FG FL NL BG st => let ⟨C', V', S'⟩ := inner g L' h₁ tk FG FL NL BG st; hb _ _ _ _ _ _ _ C' V' S'
    revert HB
    cases B (updAll (fun _ => none) ps xs) σ with
    | stuck => intro _; trivial
    | exc cl msg σ' =>
      intro HB Q E hE
      refine enter Q E fun g L' h₁ FG FL NL BG st hlt => ?_
      refine HB g L' h₁ _ FG FL NL BG st _ _ fun x s' hfl => ?_
      exact fly_leave (C := C) (C' := (inner g L' h₁ 0 FG FL NL BG st).1) FG ⟨_, _, rfl⟩ rfl hfl hE
    | ok fr σ' =>
      obtain ⟨f, ρ'⟩ := fr
      intro HB
      simp only [R.bind_ok]
      have fin : ∀ (mv : MV), (∀ am' u, RelF am' f u → RelV am' mv (match (u : Flow) with | .ret v => v | _ => .none)) → DenW gl c env m ρ RelV news am s (fun Q E s => codeAny (model gl.prog gl.w) c.A (.call (.ref fa) ⟨us, []⟩) (callPost Q E) s) (.ok mv σ') := fun mv hmv E => by
        refine enter _ E fun g L' h₁ FG FL NL BG st hlt => ?_
        refine wpAny_mono (HB g L' h₁ _ FG FL NL BG st _) (fun u s' hb2 => ?_) fun _ _ x => x
        refine box fun G0 k0 => ?_
        obtain ⟨m', news', am', S', e', o', r'⟩ := hb2
        refine k0 ?_
        clear k0 G0
        refine leaveK_ S'.F S'.N fun F' N' => ?_
        have e'' : Evolve [] news am news' am' := e'
        exact ⟨news', am', S.after C F' N' S'.H e'', e'', (Only.mk' s h₁ _).trans o', hmv am' u r'⟩
      induction f with
      | next => exact fin .none fun am' u r => by cases u <;> first | rfl | exact r.elim
      | brk => trivial
      | ret v => exact fin v fun am' u r => by cases u <;> first | exact r | exact r.elim
  · rw [if_neg hl]; trivial
end
theorem lookup_mem {x : Str} {cc : Addr} : ∀ {l : List (Str × Addr)}, l.lookup x = some cc → (x, cc) ∈ l
  | (a, b) :: l, h => by
    rw [List.lookup_cons] at h
    split at h
    · cases h; rename_i he; rw [eq_of_beq he]; exact .head _
    · exact .tail _ (lookup_mem h)
theorem mem_lookup {x : Str} {cc : Addr} : ∀ {l : List (Str × Addr)}, (x, cc) ∈ l → ∃ c', l.lookup x = some c'
  | (a, b) :: l, h => by
    rw [List.lookup_cons]
    split
    · exact ⟨_, rfl⟩
    · rcases List.mem_cons.mp h with e | h
      · cases e; rename_i hne; simp at hne
      · exact mem_lookup h
theorem lookupK_mem {x : Str} {k : NameKind} : ∀ {l : List (Str × NameKind)}, l.lookup x = some k → (x, k) ∈ l
  | (a, b) :: l, h => by
    rw [List.lookup_cons] at h
    split at h
    · cases h; rename_i he; rw [eq_of_beq he]; exact .head _
    · exact .tail _ (lookupK_mem h)
theorem cellsFrom_acc : ∀ (names : List (Str × NameKind)) (n : Nat) (acc : List (Str × Addr)) (p : Str × Addr), p ∈ acc → p ∈ cellsFrom n names acc
  | [], _, _, _, h => h
  | (a, k) :: r, n, acc, p, h => by
    unfold cellsFrom
    split
    · exact cellsFrom_acc r _ _ _ (.tail _ h)
    · exact cellsFrom_acc r _ _ _ h
theorem cellsFrom_has : ∀ (names : List (Str × NameKind)) (n : Nat) (acc : List (Str × Addr)) (x : Str), (x, NameKind.cell) ∈ names → ∃ cc, (x, cc) ∈ cellsFrom n names acc
  | (a, k) :: r, n, acc, x, h => by
    unfold cellsFrom
    rcases List.mem_cons.mp h with e | h
    · cases e
      exact ⟨n, cellsFrom_acc r _ _ _ (.head _)⟩
    · split
      · exact cellsFrom_has r _ _ _ h
      · exact cellsFrom_has r _ _ _ h
theorem cellsFrom_ge : ∀ (names : List (Str × NameKind)) (n : Nat) (acc : List (Str × Addr)) (p : Str × Addr), p ∈ cellsFrom n names acc → p ∈ acc ∨ n ≤ p.2
  | [], _, _, _, h => .inl h
  | (a, k) :: r, n, acc, p, h => by
    unfold cellsFrom at h
    split at h
    · rcases cellsFrom_ge r _ _ _ h with h | h
      · rcases List.mem_cons.mp h with rfl | h
        · exact .inr (Nat.le_refl _)
        · exact .inl h
      · exact .inr (Nat.le_of_succ_le h)
    · exact cellsFrom_ge r _ _ _ h
theorem cellsFrom_apart : ∀ (names : List (Str × NameKind)) (n : Nat) (acc : List (Str × Addr)), (acc.Pairwise fun x y => x.2 ≠ y.2) → (∀ p ∈ acc, p.2 < n) → (cellsFrom n names acc).Pairwise fun x y => x.2 ≠ y.2
  | [], _, _, h, _ => h
  | (a, k) :: r, n, acc, h, hl => by
    unfold cellsFrom
    split
    · refine cellsFrom_apart r _ _ (List.pairwise_cons.mpr ⟨fun p hp e => ?_, h⟩) fun p hp => ?_
      · dsimp only at e; exact Nat.ne_of_lt (hl p hp) e.symm
      · rcases List.mem_cons.mp hp with rfl | hp
        · exact Nat.lt_succ_self _
        · exact Nat.lt_succ_of_lt (hl p hp)
    · exact cellsFrom_apart r _ _ h hl
theorem pairwise_apart {x y : Str} {cx cy : Addr} : ∀ {l : List (Str × Addr)}, (l.Pairwise fun x y => x.2 ≠ y.2) → (x, cx) ∈ l → (y, cy) ∈ l → x ≠ y → cx ≠ cy
  | p :: l, h, hx, hy, hne => by
    obtain ⟨h1, h2⟩ := List.pairwise_cons.mp h
    rcases List.mem_cons.mp hx with rfl | hx'
    · rcases List.mem_cons.mp hy with e | hy'
      · cases e; exact absurd rfl hne
      · exact h1 _ hy'
    · rcases List.mem_cons.mp hy with rfl | hy'
      · exact fun e => h1 (x, cx) hx' e.symm
      · exact pairwise_apart h2 hx' hy' hne
theorem cellsAre_mem {cm : Str → Option Value} : ∀ {cs : List (Str × Addr)} {cells : List (Addr × Obj)}, CellsAre cm cs cells → ∀ {x : Str} {cc : Addr}, (x, cc) ∈ cs → ∃ o, (cc, o) ∈ cells ∧ o.data = .cell (cm x)
  | _, _, .cons hd r, x, cc, h => by
    rcases List.mem_cons.mp h with e | h
    · cases e; exact ⟨_, .head _, hd⟩
    · obtain ⟨o, hm, h⟩ := cellsAre_mem r h; exact ⟨o, .tail _ hm, h⟩
theorem bindsC_rel {am : AM} {K : Str → Option NameKind} : ∀ (ps : List String) (xs : List MV) (us : List Value) (ρ : MEnv) (ML MC : Str → Option Value), RelL am xs us → xs.length = ps.length →
    (∀ y mv, ρ y = some mv → ∃ v, RelV am mv v ∧ (if K (Str.ofString y) = some .local then ML (Str.ofString y) = some v else MC (Str.ofString y) = some v)) → ∀ y mv, updAll ρ ps xs y = some mv →
    ∃ v, RelV am mv v ∧ (if K (Str.ofString y) = some .local then bindL K ((ps.map Str.ofString).zip us) ML (Str.ofString y) = some v else bindC K ((ps.map Str.ofString).zip us) MC (Str.ofString y) = some v)
  | [], [], us, ρ, ML, MC, r, _, h => fun y mv hy => h y mv (by simpa [updAll] using hy)
  | p :: ps, x :: xs, [], ρ, ML, MC, r, _, h => r.elim
  | p :: ps, x :: xs, u :: us, ρ, ML, MC, ⟨r, rs⟩, hl, h => fun y mv hy => by
    refine bindsC_rel ps xs us (upd ρ p x) (if K (Str.ofString p) = some .local then fun y => if y = Str.ofString p then some u else ML y else ML) (if K (Str.ofString p) = some .local then MC else fun y => if y = Str.ofString p then some u else MC y) rs (by simpa using hl) (fun z w hz => ?_) y mv (by simpa [updAll] using hy)
    unfold upd at hz
    by_cases e : z = p
    · subst e
      rw [if_pos rfl] at hz
      cases hz
      refine ⟨u, r, ?_⟩
      split
      · simp
      · simp
    · rw [if_neg e] at hz
      refine box fun G0 k0 => ?_
      obtain ⟨v, hv, hm⟩ := h z w hz
      refine k0 ?_
      clear k0 G0
      refine ⟨v, hv, ?_⟩
      have hne : Str.ofString z ≠ Str.ofString p := fun q => e (ofString_inj q)
      split
      · rename_i hk
        rw [if_pos hk] at hm
        split
        · dsimp only; rw [if_neg hne]; exact hm
        · exact hm
      · rename_i hk
        rw [if_neg hk] at hm
        split
        · exact hm
        · dsimp only; rw [if_neg hne]; exact hm
section
variable {gl : Gl} {n : Nat} {fa : Addr} {name qual : Str} {params : Arguments} {body : List Stmt} {scope : Scope} {dV kV doc pm cdv ct oc : Value} {an od : Option Addr} {osl : Array (Option Value)} {ps : List String} {B : SD}
theorem updAll_mem {y : String} {mv : MV} : ∀ (ps : List String) (xs : List MV) (ρ : MEnv), updAll ρ ps xs y = some mv → y ∈ ps ∨ ρ y = some mv
  | [], xs, ρ, h => .inr (by simpa [updAll] using h)
  | p :: ps, [], ρ, h => .inr (by simpa [updAll] using h)
  | p :: ps, x :: xs, ρ, h => by
    rcases updAll_mem ps xs (upd ρ p x) (by simpa [updAll] using h) with h | h
    · exact .inl (.tail _ h)
    · unfold upd at h
      by_cases e : y = p
      · exact .inl (e ▸ .head _)
      · rw [if_neg e] at h; exact .inr h
theorem callee_cells {c : Act} {news cells : List (Addr × Obj)} {am : AM} {σ : MH} {s : Shared} {xs : List MV} {us : List Value} {g : Heap} {L' : Addr} {h₁ : Heap} {tk : Nat}
    (C : c.Ok gl (n + 1)) (H : HeapRel gl.wc c.base news am σ) (r : RelL am xs us) (hl : xs.length = ps.length)
    (hk : scope.kind = .function) (hloc : ∀ x ∈ ps, scope.names.lookup (Str.ofString x) = some .local ∨ scope.names.lookup (Str.ofString x) = some .cell)
    (FL : Fr g L' h₁ (bindL (envOfC qual scope L' fa cdv).kindOf ((ps.map Str.ofString).zip us) fun _ => none)) (NL : News g L' h₁ (cells ++ news))
    (Y : CellsAre (bindC (envOfC qual scope L' fa cdv).kindOf ((ps.map Str.ofString).zip us) fun _ => none) (cellsFrom (L' + 1) scope.names []) cells)
    (BG : Below c.A c.base (c.fenv :: c.outer) g) (st : c.h₀.StaysIn g) :
    (c.callee (envOfC qual scope L' fa cdv) g L').Ok gl.sub n ∧ EnvOk (c.callee (envOfC qual scope L' fa cdv) g L') scope false (envOfC qual scope L' fa cdv) ∧
      Sim gl.sub (c.callee (envOfC qual scope L' fa cdv) g L') (envOfC qual scope L' fa cdv) (bindL (envOfC qual scope L' fa cdv).kindOf ((ps.map Str.ofString).zip us) fun _ => none) (cells ++ news) am (updAll (fun _ => none) ps xs) σ { s with heap := h₁, toks := tk } := by
  have hcel : ∀ x, scope.names.lookup x = some .cell → ∃ cc, (cellsFrom (L' + 1) scope.names []).lookup x = some cc := fun x hx => by
    obtain ⟨cc, hcc⟩ := cellsFrom_has scope.names (L' + 1) [] x (lookupK_mem hx)
    exact mem_lookup hcc
  refine ⟨⟨⟨_, BG⟩, Around.frames_deeper C.frames, rfl, hk, rfl, rfl, rfl, C.inK.keeps st, C.top.keeps st, C.quiet, (fun h => by cases h), ?_, ?_, hcel, ?_⟩, ⟨rfl, hk, rfl, rfl, fun _ => rfl, .inl rfl⟩, ⟨FL, NL, ?_, ?_, ?_, .inl rfl⟩⟩
  · have := C.depth
    show c.A.depth + 1 + 4 * n + 4 < _
    lia
  · have := C.units
    show c.A.units + 3 + 12 * n + 80 < _
    lia
  · intro x y cx cy hx hy hne
    exact pairwise_apart (cellsFrom_apart scope.names (L' + 1) [] .nil (fun p hp => nomatch hp)) (lookup_mem hx) (lookup_mem hy) hne
  · have hs : ∀ p ∈ news, p ∈ cells ++ news := fun p hp => List.mem_append_right _ hp
    refine ⟨H.len, H.ok, fun i o hi => ?_⟩
    refine box fun G0 k0 => ?_
    obtain ⟨a, ob, ha, k, q⟩ := H.obj i o hi
    refine k0 ?_
    clear k0 G0
    have := q.grow (ext := []) hs
    rw [List.append_nil] at this
    exact ⟨a, ob, ha, k.elim (fun h => .inl (hs _ h)) .inr, this⟩
  · intro y mv hy
    refine box fun G0 k0 => ?_
    obtain ⟨v, hv, hm⟩ := bindsC_rel (K := (envOfC qual scope L' fa cdv).kindOf) ps xs us (fun _ => none) (fun _ => none) (fun _ => none) r hl (fun _ _ h => by cases h) y mv hy
    refine k0 ?_
    clear k0 G0
    have hyp : y ∈ ps := by
      rcases updAll_mem ps xs _ hy with h | h
      · exact h
      · cases h
    refine ⟨v, hv, ?_⟩
    have hkk : (envOfC qual scope L' fa cdv).kindOf (Str.ofString y) = scope.names.lookup (Str.ofString y) := rfl
    rcases hloc y hyp with h | h
    · rw [hkk, h, if_pos rfl] at hm
      exact .inl ⟨hkk.trans h, .inl ⟨rfl, hm⟩⟩
    · rw [hkk, h, if_neg (by intro q; cases q)] at hm
      refine box fun G0 k0 => ?_
      obtain ⟨cc, hcc⟩ := hcel _ h
      obtain ⟨o, hmo, hdo⟩ := cellsAre_mem Y (lookup_mem hcc)
      refine k0 ?_
      clear k0 G0
      exact .inr ⟨hkk.trans h, cc, o, hcc, List.mem_append_left _ hmo, by rw [hdo, hm]⟩
  · intro x cc hx
    refine box fun G0 k0 => ?_
    obtain ⟨o, hmo, hdo⟩ := cellsAre_mem Y (lookup_mem hx)
    refine k0 ?_
    clear k0 G0
    exact ⟨o, _, List.mem_append_left _ hmo, hdo⟩
theorem does_cells (hK : gl.K.lookup fa = some ⟨oc, od, .func (fnX name qual params body scope [] dV kV doc pm an cdv ct), osl⟩) (hcd : codeIn gl.K cdv qual = true)
    (hb : OkB gl.sub n scope B body) (hbind : ∀ s us, us.length = ps.length → BindsTo s (fnX name qual params body scope [] dV kV doc pm an cdv ct) ⟨us, []⟩ ((ps.map Str.ofString).zip us))
    (hloc : ∀ x ∈ ps, scope.names.lookup (Str.ofString x) = some .local ∨ scope.names.lookup (Str.ofString x) = some .cell) (hnd : ((cellsFrom 0 scope.names []).map (·.1)).Nodup)
    (hco : scope.isCoroutine = false := by rfl) (hgen : scope.isGenerator = false := by rfl) (hk : scope.kind = .function := by rfl) : Does gl (n + 1) (.ref fa) (noExc (defCall ps B)) := by
  intro c env s m news am ρ σ xs us C S r
  unfold noExc defCall
  by_cases hl : xs.length = ps.length
  · rw [if_pos hl]
    obtain ⟨A₀, BB⟩ := C.below
    have hul : us.length = ps.length := r.length.trans hl
    have enter : ∀ (Q : Value → Shared → Prop) (E : Value → Shared → Prop),
        (∀ g L' h₁ tk cells, Fr c.h₀ c.L g m → Fr g L' h₁ (bindL (envOfC qual scope L' fa cdv).kindOf ((ps.map Str.ofString).zip us) fun _ => none) → News g L' h₁ (cells ++ news) →
          CellsAre (bindC (envOfC qual scope L' fa cdv).kindOf ((ps.map Str.ofString).zip us) fun _ => none) (cellsFrom (L' + 1) scope.names []) cells → Below c.A c.base (c.fenv :: c.outer) g → c.h₀.StaysIn g → (∀ p ∈ news, p.1 < L') →
          wpAny (model gl.prog gl.w) (c.A.deeper (envOfC qual scope L' fa cdv)) (execs body (envOfC qual scope L' fa cdv))
            (fun fl s' => LeaveK c.h₀ c.L m g (fun r s' => match r with | .ok (.ret v) => Q v s' | .ok _ => False | .error e => E e s') (match fl with | .ret v => v | _ => .none) s')
            (fun e s' => wpAny (model gl.prog gl.w) (c.A.deeper (envOfC qual scope L' fa cdv)) (leaving (envOfC qual scope L' fa cdv) e) (fun _ s'' => E e s'') (fun e' s'' => E e' s'') s')
            { s with heap := h₁, toks := tk }) →
        wpAny (model gl.prog gl.w) c.A (call (.ref fa) us) Q E s := fun Q E h => by
      refine wpAny_call ?_
      refine callX_cells BB S.F S.N C.top.nolimit C.frames C.frame C.kind ((C.inK.keeps S.F.keep) _ _ hK) rfl (codeRec_of (C.inK.keeps S.F.keep) hcd) (by have := C.depth; lia) (hbind s us hul)
        (fun n y hy => ?_) hnd h hco hgen hk
      refine box fun G0 k0 => ?_
      obtain ⟨a, b⟩ := y
      have := (List.of_mem_zip hy).1
      obtain ⟨x, hx, rfl⟩ := List.mem_map.mp this
      refine k0 ?_
      clear k0 G0
      refine (hloc x hx).imp id fun h => ⟨h, ?_⟩
      refine box fun G0 k0 => ?_
      obtain ⟨cc, hcc⟩ := cellsFrom_has scope.names n [] _ (lookupK_mem h)
      obtain ⟨c', hc'⟩ := mem_lookup hcc
      refine k0 ?_
      clear k0 G0
      rw [hc']; rfl
    cases hB : B (updAll (fun _ => none) ps xs) σ with
    | stuck => trivial
    | exc cl msg σ' => trivial
    | ok fr σ' =>
      obtain ⟨f, ρ'⟩ := fr
      simp only [R.bind_ok]
      have fin : ∀ (mv : MV), (∀ am' u, RelF am' f u → RelV am' mv (match (u : Flow) with | .ret v => v | _ => .none)) → DenW gl c env m ρ RelV news am s (wpT gl c (call (.ref fa) us)) (.ok mv σ') := fun mv hmv E => by
        refine enter _ E fun g L' h₁ tk cells FG FL NL Y BG st hlt => ?_
        refine box fun G0 k0 => ?_
        obtain ⟨C', V', S₁⟩ := callee_cells (s := s) (tk := tk) C S.H r hl hk hloc FL NL Y BG st
        refine k0 ?_
        clear k0 G0
        have HB := hb _ _ _ _ _ _ _ C' V' S₁
        rw [hB] at HB
        refine wpAny_mono (HB _) (fun u s' hb1 => ?_) fun _ _ x => x
        refine box fun G0 k0 => ?_
        obtain ⟨m', news', am', S', e', o', r'⟩ := hb1
        refine k0 ?_
        clear k0 G0
        refine leaveK_ S'.F S'.N fun F' N' => ?_
        have e'' : Evolve [] news am news' am' := by
          refine ⟨e'.pre, fun p hp hn => ?_, fun i q hi hq p hp => e'.fresh i q hi hq p (List.mem_append_right _ hp)⟩
          refine box fun G0 k0 => ?_
          obtain ⟨o1, h1, h2⟩ := e'.keep p (List.mem_append_right _ hp) hn
          refine k0 ?_
          clear k0 G0
          refine ⟨o1, h1, fun _ => h2 fun hm => ?_⟩
          refine box fun G0 k0 => ?_
          obtain ⟨⟨x, cc⟩, hx, he⟩ := List.mem_filterMap.mp hm
          refine k0 ?_
          clear k0 G0
          have := cellsFrom_ge scope.names (L' + 1) [] _ (lookup_mem he)
          rcases this with h | h
          · cases h
          · exact Nat.lt_irrefl _ (Nat.lt_of_lt_of_le (Nat.lt_of_lt_of_le (hlt p hp) (Nat.le_succ _)) h)
        exact ⟨news', am', S.after C F' N' S'.H e'', e'', (Only.mk' s h₁ _).trans o', hmv am' u r'⟩
      induction f with
      | next => exact fin .none fun am' u r => by cases u <;> first | rfl | exact r.elim
      | brk => trivial
      | ret v => exact fin v fun am' u r => by cases u <;> first | exact r | exact r.elim
  · rw [if_neg hl]; trivial
end
theorem Act.Ok.mono {g : Gl} {n k : Nat} {c : Act} (C : c.Ok g n) (h : k ≤ n) : c.Ok g k :=
  ⟨C.below, C.frames, C.frame, C.kind, C.locs, C.glob, C.blt, C.inK, C.top, C.quiet, C.flatOk, by have := C.depth; lia, by have := C.units; lia, C.cel, C.celApart⟩
theorem Does.mono {g : Gl} {n k : Nat} {fv : Value} {f : List MV → MH → R MV} (D : Does g n fv f) (h : n ≤ k) : Does g k fv f :=
  fun c env s m news am ρ σ xs us C S r => D c env s m news am ρ σ xs us (C.mono h) S r
section
variable {g : Gl} {n : Nat} {sc : Scope} {inner : Bool}
theorem ok_call {x : Str} {fa : Addr} {f : List MV → MH → R MV} {l : LD} {e : Expr} {es : List Expr} {pos xp : Pos} (hx : NameIs g n sc inner x (.ref fa)) (hl : OkL g n sc inner l (e :: es)) (hf : Does g n (.ref fa) f) (hk : keepIn g.K (.ref fa) = true)
    (h1 : ∀ env, starEach (e :: es) env = (false, eval e env) :: starEach es env) (h2 : ∀ env, (backTo pos (starEach es env)).any (·.1) = false)
    (h3 : ∀ env, eval (.Call (.Name x xp) (e :: es) [] pos) env = (do callWith pos (← eval (.Name x xp) env) [] (backTo pos (starEach (e :: es) env)) (backToKw pos (keywordEach [] env)))) : OkE g n sc inner (eCall f l) (.Call (.Name x xp) (e :: es) [] pos) := by
  intro c env s m news am ρ σ C V S
  refine ((hl c env s m news am ρ σ pos C V S).bind (f := fun us Q E s₁ => g.K.In s₁.heap ∧ wpAny (model g.prog g.w) c.A (call (.ref fa) ([] ++ us)) Q E s₁) (rel' := RelV) (k := f) (fun xs σ₁ us news₁ am₁ s₁ S₁ e₁ o₁ r₁ => ?_) fun _ _ _ _ _ _ h p q => ⟨h.1, wpAny_mono h.2 p q⟩).of fun Q E h => ?_
  · exact (hf c env s₁ m news₁ am₁ ρ σ₁ xs us C S₁ r₁).of fun Q E h => ⟨C.inK.keeps S₁.F.keep, h⟩
  · exact Call_ (hx c env s m news am ρ σ xp _ E C V S (callWith_K C.inK hk h (h1 env) (h2 env))) (h3 env)
end
theorem isStr_eq {k : Value} {x y : Str} (h : k.isStr x = true) (h' : k.isStr y = true) : x = y := by
  unfold Value.isStr at h h'
  induction k with
  | str z t => exact (eq_of_beq h).symm.trans (eq_of_beq h')
  | _ => cases h
theorem getL_clean {x : Str} : ∀ {es : List DictEntry}, es.any (·.refKey) = false → getL x es = match es.find? (·.key.isStr x) with | some e => some (some e.val) | none => some none := by
  intro es h
  unfold getL
  cases es.find? (·.key.isStr x) with
  | some e => rfl
  | none => dsimp only; rw [h]; rfl
theorem putL_keys {name : Str} {hsh : Int} {t : Tok} {v : Value} : ∀ {es : List DictEntry}, es.any (·.refKey) = false → (putL name hsh (.str name t) v es).any (·.refKey) = false
  | [], _ => rfl
  | e :: r, h => by
    rw [List.any_cons, Bool.or_eq_false_iff] at h
    unfold putL
    split
    · rw [List.any_cons, Bool.or_eq_false_iff]; exact ⟨h.1, h.2⟩
    · rw [List.any_cons, Bool.or_eq_false_iff]; exact ⟨h.1, putL_keys h.2⟩
theorem putL_len {name : Str} {hsh : Int} {k v : Value} : ∀ {es : List DictEntry}, (putL name hsh k v es).length ≤ es.length + 1
  | [] => Nat.le_refl _
  | e :: r => by
    unfold putL
    split
    · simp
    · have := putL_len (name := name) (hsh := hsh) (k := k) (v := v) (es := r)
      simp only [List.length_cons]; lia
theorem putL_same {name : Str} {hsh : Int} {t : Tok} {v : Value} : ∀ {es : List DictEntry}, (putL name hsh (.str name t) v es).find? (·.key.isStr name) = some ((putL name hsh (.str name t) v es).find? (·.key.isStr name) |>.getD ⟨0, .none, .none⟩) ∧ ((putL name hsh (.str name t) v es).find? (·.key.isStr name)).map (·.val) = some v
  | [] => by simp [putL, List.find?, Value.isStr]
  | e :: r => by
    unfold putL
    split
    · rename_i h
      simp [List.find?, h]
    · rename_i h
      have ih := putL_same (name := name) (hsh := hsh) (t := t) (v := v) (es := r)
      have h' : e.key.isStr name = false := by simpa using h
      simp only [List.find?, h']
      exact ih
theorem putL_other {name x : Str} {hsh : Int} {t : Tok} {v : Value} (hne : x ≠ name) : ∀ {es : List DictEntry}, ((putL name hsh (.str name t) v es).find? (·.key.isStr x)).map (·.val) = (es.find? (·.key.isStr x)).map (·.val)
  | [] => by
    have : (name == x) = false := by simpa using fun e => hne e.symm
    simp [putL, List.find?, Value.isStr, this]
  | e :: r => by
    unfold putL
    split
    · rename_i h
      have hx : e.key.isStr x = false := by
        cases q : e.key.isStr x with
        | false => rfl
        | true => exact absurd (isStr_eq q h) hne
      simp [List.find?, hx]
    · simp only [List.find?]
      split
      · rfl
      · exact putL_other hne
theorem getL_map {x : Str} {es : List DictEntry} (h : es.any (·.refKey) = false) : getL x es = some ((es.find? (·.key.isStr x)).map (·.val)) := by
  rw [getL_clean h]
  cases es.find? (·.key.isStr x) <;> rfl
theorem lookup_snoc {a : String} {v : MV} {x : String} : ∀ {as : List (String × MV)}, as.lookup a = none → (as ++ [(a, v)]).lookup x = if x = a then some v else as.lookup x
  | [], _ => by
    by_cases e : x = a
    · subst e; simp [List.lookup]
    · have : (x == a) = false := by simpa using e
      simp [List.lookup, this, e]
  | (b, w) :: as, h => by
    rw [List.lookup_cons] at h
    split at h
    · cases h
    · rename_i hb
      rw [List.cons_append, List.lookup_cons, List.lookup_cons, lookup_snoc h]
      by_cases e : x = a
      · subst e; simp [hb]
      · simp [e]
theorem InstEs.put {am : AM} {as : List (String × MV)} {es : List DictEntry} {a : String} {mv : MV} {v : Value} {hsh : Int} {t : Tok} (h : InstEs am as es) (hn : as.lookup a = none) (r : RelV am mv v) :
    InstEs am (as ++ [(a, mv)]) (putL (Str.ofString a) hsh (.str (Str.ofString a) t) v es) := by
  refine ⟨fun x => ?_, putL_keys h.keys, ?_⟩
  · rw [lookup_snoc hn, getL_map (putL_keys h.keys)]
    by_cases e : x = a
    · subst e
      rw [if_pos rfl]
      exact ⟨v, by rw [putL_same.2], r⟩
    · rw [if_neg e]
      have hx := h.attrs x
      rw [getL_map h.keys] at hx
      rw [putL_other fun q => e (ofString_inj q)]
      exact hx
  · have := putL_len (name := Str.ofString a) (hsh := hsh) (k := .str (Str.ofString a) t) (v := v) (es := es)
    have := h.len
    simp only [List.length_append, List.length_singleton]; lia
theorem handed_of {am : AM} {x : MV} {v : Value} (r : RelV am x v) : handedIn v = true := by
  induction x with
  | none => rw [show v = .none from r]; rfl
  | bool b => rw [show v = .bool b from r]; rfl
  | int i => obtain ⟨t, rfl⟩ := r; rfl
  | str z => obtain ⟨t, rfl⟩ := r; rfl
  | ref i => obtain ⟨a, _, rfl⟩ := r; rfl
structure AttrK (g : Gl) (a : Str) : Prop where
  get : plainGet g.K g.wc a = true
  dict : hasDictIn g.K g.wc = true
  find : ∃ attr, findIn g.K (.ref g.wc) a = some attr ∧ noGet g.K attr = true
structure SetK (g : Gl) (a : Str) : Prop where
  set : findIn g.K (.ref g.wc) "__setattr__" = some (some (.builtin "object.__setattr__"))
  over : plainOver g.K g.wc = true
  taker : takerIn g.K g.wc a = some none
  dict : hasDictIn g.K g.wc = true
section
variable {g : Gl} {n : Nat} {c : Act} {env : Env} {m : Str → Option Value} {news : List (Addr × Obj)} {am : AM} {ρ : MEnv} {σ : MH} {s : Shared}
theorem Sim.inst (C : c.Ok g n) (S : Sim g c env m news am ρ σ s) {i : Nat} {as : List (String × MV)} {u : Value} (h : σ[i]? = some (.inst as)) (hu : RelV am (.ref i) u) :
    ∃ a es k, am[i]? = some a ∧ u = .ref a.1 ∧ PySem.W.InstAt s.heap a.1 (instObj g.wc a.2) g.wc (some (dictOf es k)) ∧ Known c.base news i a.1 (instObj g.wc a.2) ∧ (a.2, dictOf es k) ∈ news ∧ InstEs am as es := by
  refine box fun G0 k0 => ?_
  obtain ⟨a, ob, ha, hk, es, k, e, hm, r⟩ := S.H.obj i _ h
  refine k0 ?_
  clear k0 G0
  subst e
  refine box fun G0 k0 => ?_
  obtain ⟨a', ha', hu'⟩ := hu
  obtain rfl : a = a' := Option.some.inj (ha.symm.trans ha')
  refine k0 ?_
  clear k0 G0
  exact ⟨a, es, k, ha, hu', ⟨hk.get C S, rfl, rfl, S.N.get hm⟩, hk, hm, r⟩
theorem den_attr {x : MV} {u : Value} {a : String} (C : c.Ok g n) (S : Sim g c env m news am ρ σ s) (hx : RelV am x u) (K : AttrK g (Str.ofString a)) : Den g c env m ρ RelV news am s (getAttr u (Str.ofString a) true) (opAttr a x σ) := by
  unfold opAttr attr?
  induction x with
  | ref i =>
    dsimp only
    cases h : σ[i]? with
    | none => trivial
    | some o =>
      induction o with
      | inst as =>
        dsimp only
        cases hl : as.lookup a with
        | none => trivial
        | some mv =>
          refine box fun G0 k0 => ?_
          obtain ⟨b, es, k, hb, rfl, I, hk, hm, r⟩ := S.inst C h hx
          have hr := r.attrs a
          rw [hl] at hr
          obtain ⟨v, hv, rv⟩ := hr
          obtain ⟨attr, f1, f2⟩ := K.find
          refine k0 ?_
          clear k0 G0
          exact DenW.now S fun Q h E => get_own S.F C.inK I K.get K.dict f1 f2 hv (handed_of rv) (h _ _ _ S.F S.N rv)
      | _ => trivial
  | _ => trivial
end
section
variable {g : Gl} {n : Nat} {sc : Scope} {inner : Bool}
theorem ok_attr {e : ED} {ee : Expr} {a : String} {pos : Pos} (he : OkE g n sc inner e ee) (K : AttrK g (Str.ofString a))
    (h3 : ∀ env, eval (.Attribute ee (Str.ofString a) pos) env = (do
      let o ← eval ee env
      standAt pos.atName
      let r ← holding [o] (getAttr o (Str.ofString a) true)
      letTemporaryGo ee o r
      pure r)) : OkE g n sc inner (eAttr e a) (.Attribute ee (Str.ofString a) pos) := by
  intro c env s m news am ρ σ C V S
  exact ((he c env s m news am ρ σ C V S).bind1 (f := fun u => getAttr u (Str.ofString a) true) (rel' := RelV) (k := opAttr a) fun x σ₁ u news₁ am₁ s₁ S₁ e₁ o₁ r₁ => den_attr C S₁ r₁ K).of fun Q E h => Attribute_any_ h (h3 env)
theorem okS_setAttr {a e : ED} {ea ee : Expr} {nm : String} {p pos : Pos} (ha : OkE g n sc false a ea) (he : OkE g n sc false e ee) (K : SetK g (Str.ofString nm)) (hs : ∀ env, swapsWith ee (some (.Attribute ea (Str.ofString nm) p)) pos.line env = pure false) :
    OkS g n sc (sSetAttr a nm e) (.Assign [.Attribute ea (Str.ofString nm) p] ee pos) := by
  intro c s m news am ρ σ C V S
  refine ((he c c.fenv s m news am ρ σ C V S).bindS (f := fun v Q E s₁ => wpAny (model g.prog g.w) c.A (eval ea c.fenv) (fun ov s₂ => wpAny (model g.prog g.w) c.A (setAttr ov (Str.ofString nm) v) (fun _ => Q .next) E s₂) E s₁)
    (k := fun v σ₁ => (a ρ σ₁).bind fun va σ₂ => match va with
      | .ref j => match σ₂[j]? with
        | some (.inst as) => if j ≠ 0 ∧ as.lookup nm = none ∧ as.length < 900 then .ok (.next, ρ) (σ₂.set j (.inst (as ++ [(nm, v)]))) else .stuck
        | _ => .stuck
      | _ => .stuck) (fun v σ₁ u news₁ am₁ s₁ S₁ e₁ o₁ r₁ => ?_) fun _ _ _ _ _ _ h p q => wpAny_mono h (fun _ _ h' => wpAny_mono h' (fun _ _ h3 => p _ _ h3) q) q).of fun Q E h => plainObj_wpAny_Assign_Attribute h (hs _)
  refine (ha c c.fenv s₁ m news₁ am₁ ρ σ₁ C V S₁).bindS (f := fun ov Q E s₂ => wpAny (model g.prog g.w) c.A (setAttr ov (Str.ofString nm) u) (fun _ => Q .next) E s₂) (fun va σ₂ ov news₂ am₂ s₂ S₂ e₂ o₂ r₂ => ?_) fun _ _ _ _ _ _ h p q => wpAny_mono h (fun _ _ h3 => p _ _ h3) q
  have r₁ := e₂.relV r₁
  induction va with
  | ref j =>
    dsimp only
    split
    · rename_i as h1
      split
      · rename_i hl
        refine box fun G0 k0 => ?_
        obtain ⟨b, es, k, hb, rfl, I, hkn, hm, ri⟩ := S₂.inst C h1 r₂
        refine k0 ?_
        clear k0 G0
        intro E
        have hg : getL (Str.ofString nm) es = some none := by have := ri.attrs nm; rw [hl.2.1] at this; exact this
        have hN := S₂.N _ hm
        have N₂ : News c.h₀ c.L s₂.heap ((b.2, dictOf es k) :: news₂.filter fun p => decide (p.1 ≠ b.2)) := fun p hp => by
          rcases List.mem_cons.mp hp with rfl | hp
          · exact hN
          · exact S₂.N p (List.mem_filter.mp hp).1
        have hput := ri.put (hsh := PyData.keyHash g.w.params (Str.ofString nm)) (t := s₂.toks + 1) hl.2.1 r₁
        refine set_dict S₂.F C.inK N₂ I rfl K.set K.over K.taker K.dict (by rw [hg]; rfl) rfl (Upd.head fun p hp => by simpa using (List.mem_filter.mp hp).2)
          (by have := hput.len; simp only [List.length_append, List.length_singleton] at this; lia) fun h' F' N' => ?_
        have hmf : ∀ (o' : Obj), ∀ p ∈ news₂, p.1 ≠ b.2 → p ∈ (b.2, o') :: news₂.filter (fun p => decide (p.1 ≠ b.2)) := fun o' p hp hne => .tail _ (List.mem_filter.mpr ⟨hp, by simpa using hne⟩)
        have il : j < σ₂.length := by
          rcases Nat.lt_or_ge j σ₂.length with h' | h'
          · exact h'
          · rw [List.getElem?_eq_none h'] at h1; cases h1
        have b12 : b.1 ≠ b.2 := fun e => by
          have := I.at_
          rw [e, hN.1] at this
          cases this
        refine ⟨m, _, am₂, ⟨F', N', ⟨?_, S₂.H.ok, ?_⟩, ?_, ?_, .inl C.locs⟩, ⟨⟨[], (List.append_nil _).symm⟩, fun p hp hn => ⟨p.2, hmf _ p hp fun e => hn ⟨j, b, hb, .inr e.symm⟩, fun _ => rfl⟩, fun i q hi e => by rw [List.getElem?_eq_none hi] at e; cases e⟩, ⟨_, _, rfl⟩, trivial⟩
        · rw [List.length_set]; exact S₂.H.len
        · intro i o hi
          by_cases hij : j = i
          · subst hij
            rw [List.getElem?_set_self il] at hi
            cases hi
            exact ⟨b, _, hb, hkn.imp (fun h => hmf _ _ h b12) id, _, _, rfl, .head _, hput⟩
          · rw [List.getElem?_set_ne hij] at hi
            refine box fun G0 k0 => ?_
            obtain ⟨q, oq, hq, hkq, hoq⟩ := S₂.H.obj i o hi
            obtain ⟨u1, u2, u3, u4⟩ := S₂.H.ok j i b q hb hq hij
            refine k0 ?_
            clear k0 G0
            refine ⟨q, oq, hq, hkq.imp (fun h => hmf _ _ h (Ne.symm u3)) id, ?_⟩
            induction o with
            | list _ => exact hoq
            | tup _ => exact hoq
            | inst as =>
              refine box fun G0 k0 => ?_
              obtain ⟨es', kk, e, hm', ra⟩ := hoq
              refine k0 ?_
              clear k0 G0
              exact ⟨es', kk, e, hmf _ _ hm' (Ne.symm u4), ra⟩
        · intro x mv hx
          refine box fun G0 k0 => ?_
          obtain ⟨w, hw, hn⟩ := S₂.V x mv hx
          refine k0 ?_
          clear k0 G0
          refine ⟨w, hw, hn.swap fun p hp hd => hmf _ p hp fun e => ?_⟩
          have h1 := S₂.N p hp
          rw [e, hN.1] at h1
          have h2 : dictOf es k = p.2 := Option.some.inj h1.1
          rcases hd with ⟨es', ep, hloc, hd⟩ | ⟨w', hd⟩
          · exact (S₂.N p hp).2.1 (hloc.trans C.locs)
          · rw [← h2] at hd; cases hd
        · intro x cc hx
          refine box fun G0 k0 => ?_
          obtain ⟨o, w, hmc, hd⟩ := S₂.Ce x cc hx
          refine k0 ?_
          clear k0 G0
          refine ⟨o, w, hmf _ _ hmc fun e => ?_, hd⟩
          have h1 := (S₂.N _ hmc).1
          dsimp only at e h1
          rw [e, hN.1] at h1
          cases h1
          cases hd
      · trivial
    · trivial
  | _ => trivial
end
structure MethK (g : Gl) (a : Str) (fm : Addr) : Prop where
  get : plainGet g.K g.wc a = true
  find : findIn g.K (.ref g.wc) a = some (some (.ref fm))
  isF : isFn g.K (.ref fm) = true
  keep : keepIn g.K (.ref fm) = true
section
variable {g : Gl} {n : Nat} {sc : Scope} {inner : Bool}
theorem ok_instM {nm : String} {fm : Addr} {f : List MV → MH → R MV} {a : ED} {l : LD} {eo e : Expr} {es : List Expr} {ap pos : Pos} {pl : Env → Sem Bool} (ha : OkE g n sc inner a eo) (hl : OkL g n sc inner l (e :: es)) (hf : Does g n (.ref fm) f) (K : MethK g (Str.ofString nm) fm)
    (h1 : ∀ env, starEach (e :: es) env = (false, eval e env) :: starEach es env) (h2 : ∀ env, (backTo pos (starEach es env)).any (·.1) = false)
    (h3 : ∀ env, eval (.Call (.Attribute eo (Str.ofString nm) ap) (e :: es) [] pos) env = (do
          let ov ← eval eo env
          standAt ap.atName
          let (f, first) ← holding [ov] (getMethod ov (Str.ofString nm) (pl env))
          callWith pos f first (backTo pos (starEach (e :: es) env)) [])) : OkE g n sc inner (eInstM nm f a l) (.Call (.Attribute eo (Str.ofString nm) ap) (e :: es) [] pos) := by
  intro c env s m news am ρ σ C V S
  refine ((ha c env s m news am ρ σ C V S).bind (f := fun u Q E s₁ => wpAny (model g.prog g.w) c.A (getMethod u (Str.ofString nm) (pl env)) (fun fx s₂ => wpAny (model g.prog g.w) c.A (callWith pos fx.1 fx.2 (backTo pos (starEach (e :: es) env)) []) Q E s₂) E s₁) (rel' := RelV)
    (k := fun va σ₁ => match va with
      | .ref j => match σ₁[j]? with
        | some (.inst as) => if as.lookup nm = none then (l ρ σ₁).bind fun vs σ₂ => f (.ref j :: vs) σ₂ else .stuck
        | _ => .stuck
      | _ => .stuck) (fun x σ₁ u news₁ am₁ s₁ S₁ e₁ o₁ r₁ => ?_) fun _ _ _ _ _ _ h p q => wpAny_mono h (fun _ _ h' => wpAny_mono h' p q) q).of fun Q E h => MethodCall_ h (h3 env)
  induction x with
  | ref j =>
    dsimp only
    split
    · rename_i as hx
      split
      · rename_i hn
        refine box fun G0 k0 => ?_
        obtain ⟨b, des, k, hb, rfl, I, hkn, hm, ri⟩ := S₁.inst C hx r₁
        refine k0 ?_
        clear k0 G0
        have hg : getL (Str.ofString nm) des = some none := by have := ri.attrs nm; rw [hn] at this; exact this
        refine ((hl c env s₁ m news₁ am₁ ρ σ₁ pos C V S₁).bind (f := fun us Q E s₂ => g.K.In s₂.heap ∧ wpAny (model g.prog g.w) c.A (call (.ref fm) ([.ref b.1] ++ us)) Q E s₂) (rel' := RelV) (k := fun vs σ₂ => f (.ref j :: vs) σ₂)
          (fun xs σ₂ us news₂ am₂ s₂ S₂ e₂ o₂ r₂ => ?_) fun _ _ _ _ _ _ h p q => ⟨h.1, wpAny_mono h.2 p q⟩).of fun Q E h => method_inst S₁.F C.inK I K.get K.find K.isF hg (callWith_K C.inK K.keep h (h1 env) (h2 env))
        exact (hf c env s₂ m news₂ am₂ ρ σ₂ (.ref j :: xs) (.ref b.1 :: us) C S₂ ⟨e₂.relV r₁, r₂⟩).of fun Q E h => ⟨C.inK.keeps S₂.F.keep, h⟩
      · trivial
    · trivial
  | _ => trivial
theorem ok_instM0 {nm : String} {fm : Addr} {f : List MV → MH → R MV} {a : ED} {eo : Expr} {ap pos : Pos} {pl : Env → Sem Bool} (ha : OkE g n sc inner a eo) (hf : Does g n (.ref fm) f) (K : MethK g (Str.ofString nm) fm)
    (h3 : ∀ env, eval (.Call (.Attribute eo (Str.ofString nm) ap) [] [] pos) env = (do
          let ov ← eval eo env
          standAt ap.atName
          let (f, first) ← holding [ov] (getMethod ov (Str.ofString nm) (pl env))
          callWith pos f first (backTo pos (starEach [] env)) [])) : OkE g n sc inner (eInstM nm f a lNil) (.Call (.Attribute eo (Str.ofString nm) ap) [] [] pos) := by
  intro c env s m news am ρ σ C V S
  refine ((ha c env s m news am ρ σ C V S).bind (f := fun u Q E s₁ => wpAny (model g.prog g.w) c.A (getMethod u (Str.ofString nm) (pl env)) (fun fx s₂ => wpAny (model g.prog g.w) c.A (callWith pos fx.1 fx.2 (backTo pos (starEach [] env)) []) Q E s₂) E s₁) (rel' := RelV)
    (k := fun va σ₁ => match va with
      | .ref j => match σ₁[j]? with
        | some (.inst as) => if as.lookup nm = none then (lNil ρ σ₁).bind fun vs σ₂ => f (.ref j :: vs) σ₂ else .stuck
        | _ => .stuck
      | _ => .stuck) (fun x σ₁ u news₁ am₁ s₁ S₁ e₁ o₁ r₁ => ?_) fun _ _ _ _ _ _ h p q => wpAny_mono h (fun _ _ h' => wpAny_mono h' p q) q).of fun Q E h => MethodCall_ h (h3 env)
  induction x with
  | ref j =>
    dsimp only
    split
    · rename_i as hx
      split
      · rename_i hn
        refine box fun G0 k0 => ?_
        obtain ⟨b, des, k, hb, rfl, I, hkn, hm, ri⟩ := S₁.inst C hx r₁
        refine k0 ?_
        clear k0 G0
        have hg : getL (Str.ofString nm) des = some none := by have := ri.attrs nm; rw [hn] at this; exact this
        show DenW g c env m ρ RelV news₁ am₁ s₁ _ (f [.ref j] σ₁)
        exact (hf c env s₁ m news₁ am₁ ρ σ₁ [.ref j] [.ref b.1] C S₁ ⟨r₁, trivial⟩).of fun Q E h => method_inst S₁.F C.inK I K.get K.find K.isF hg (callWith_K0 (C.inK.keeps S₁.F.keep) K.keep h)
      · trivial
    · trivial
  | _ => trivial
theorem ok_clsStr {x a : Str} {z : Str} {t : Tok} {mc : Value} {xp pos : Pos} (hx : NameIs g n sc inner x (.ref g.wc)) (hm : typeIn g.K (.ref g.wc) = some mc) (hr : readsIn g.K g.wc mc = true) (e : findCls g.K (.ref g.wc) mc a = some (.val (.str z t))) :
    OkE g n sc inner (eVal (.str z)) (.Attribute (.Name x xp) a pos) := by
  intro c env s m news am ρ σ C V S
  exact DenW.now S fun Q h E => Attribute_name (hx c env s m news am ρ σ xp _ E C V S (cls_val S.F C.inK hm hr e rfl (h _ _ _ S.F S.N ⟨t, rfl⟩)))
noncomputable def TabIs : List DictEntry → List (Str × Int) → Prop
  | [], [] => True
  | e :: es, p :: ps => (∃ t, e.key = .str p.1 t) ∧ (∃ u, e.val = .int p.2 u) ∧ TabIs es ps
  | _, _ => False
theorem TabIs.find {x : Str} : ∀ {es : List DictEntry} {tab : List (Str × Int)}, TabIs es tab → match tab.lookup x with
    | some i => ∃ e u, es.find? (·.key.isStr x) = some e ∧ e.val = .int i u
    | none => es.find? (·.key.isStr x) = none ∧ es.any (·.refKey) = false
  | [], [], _ => ⟨rfl, rfl⟩
  | e :: es, p :: ps, ⟨⟨t, hk⟩, ⟨u, hv⟩, r⟩ => by
    obtain ⟨p1, p2⟩ := p
    dsimp only at hk hv
    rw [List.lookup_cons, List.find?_cons]
    have e1 : e.key.isStr x = (p1 == x) := by rw [hk]; rfl
    have e3 : (x == p1) = (p1 == x) := by
      by_cases q : x = p1
      · subst q; rfl
      · have h1 : (x == p1) = false := by simpa using q
        have h2 : (p1 == x) = false := by simpa using fun z => q z.symm
        rw [h1, h2]
    rw [e1, e3]
    cases hh : (p1 == x) with
    | true => exact ⟨e, u, rfl, hv⟩
    | false =>
      have ih := r.find (x := x)
      dsimp only
      cases hl : ps.lookup x with
      | some i => rw [hl] at ih; exact ih
      | none =>
        rw [hl] at ih
        refine ⟨ih.1, ?_⟩
        rw [List.any_cons, ih.2, Bool.or_false]
        unfold DictEntry.refKey
        rw [hk]
structure TabK (g : Gl) (x : Str) (ta : Addr) : Prop where
  at' : ∃ (es : Array DictEntry) (k : Nat), g.K.lookup ta = some ⟨.type "dict", none, .dict es k, #[]⟩ ∧ KeysLit g.w.params es.toList ∧ TabIs es.toList tokTab
  low : (ta == sysModules) = false
theorem TabK.nsIn {x : Str} {ta : Addr} {z : Str} (T : TabK g x ta) : ∃ (es : Array DictEntry) (k : Nat), g.K.lookup ta = some ⟨.type "dict", none, .dict es k, #[]⟩ ∧ KeysLit g.w.params es.toList ∧ (match tokTab.lookup z with | some i => ∃ u, PySem.W.nsIn g.K ta z = some (some (.int i u)) | none => PySem.W.nsIn g.K ta z = some none) := by
  refine box fun G0 k0 => ?_
  obtain ⟨⟨es, k, h1, h2, h3⟩, _⟩ := T
  refine k0 ?_
  clear k0 G0
  refine ⟨es, k, h1, h2, ?_⟩
  have h4 := h3.find (x := z)
  unfold PySem.W.nsIn
  rw [h1]
  dsimp only
  cases hl : tokTab.lookup z with
  | some i =>
    rw [hl] at h4
    refine box fun G0 k0 => ?_
    obtain ⟨e, u, he, hv⟩ := h4
    refine k0 ?_
    clear k0 G0
    exact ⟨u, by rw [he]; dsimp only; rw [hv]⟩
  | none =>
    rw [hl] at h4
    dsimp only
    rw [h4.1]
    dsimp only
    rw [h4.2]
    rfl
theorem okT_inTab {x : Str} {ta : Addr} {a : ED} {ea : Expr} {xp pos : Pos} (ha : OkE g n sc inner a ea) (hx : NameIs g n sc inner x (.ref ta)) (T : TabK g x ta) (hm : behindInMarks .In (.Name x xp) = false) : OkT g n sc inner (tOf (eInTab a)) (.Compare ea [.In] [.Name x xp] pos) := by
  intro c env s m news am ρ σ C V S
  have e : tOf (eInTab a) ρ σ = (a ρ σ).bind fun va σ => match va with
      | .str x => .ok (tokTab.lookup x).isSome σ
      | _ => .stuck := by
    unfold tOf eInTab eUn
    cases a ρ σ with
    | ok v σ₁ => cases v <;> rfl
    | _ => rfl
  rw [e]
  refine ((ha c env s m news am ρ σ C V S).bind (f := fun u Q E s₁ => wpAny (model g.prog g.w) c.A (eval (.Name x xp) env) (fun v s₂ => wpAny (model g.prog g.w) c.A (compareOp .In u v) (fun r s₃ => wpAny (model g.prog g.w) c.A (truthy r) Q E s₃) E s₂) E s₁) (rel' := fun _ (b b' : Bool) => b = b')
    (fun v σ₁ u news₁ am₁ s₁ S₁ e₁ o₁ r₁ => ?_) fun _ _ _ _ _ _ h p q => wpAny_mono h (fun _ _ h' => wpAny_mono h' (fun _ _ h'' => wpAny_mono h'' p q) q) q).of fun Q E h => wpAny_isTrue_Compare1 h hm
  induction v with
  | str z =>
    refine box fun G0 k0 => ?_
    obtain ⟨t, rfl⟩ := r₁
    obtain ⟨es, k, h1, h2, h3⟩ := T.nsIn (z := z)
    refine k0 ?_
    clear k0 G0
    refine DenW.now S₁ fun Q h E => hx c env s₁ m news₁ am₁ ρ σ₁ xp _ E C V S₁ ?_
    cases hl : tokTab.lookup z with
    | some i =>
      rw [hl] at h3 h
      obtain ⟨u, h3⟩ := h3
      exact topIn_K S₁.F C.inK h1 h2 h3 T.low (wpAny_truthy_bool (h _ _ _ S₁.F S₁.N rfl))
    | none =>
      rw [hl] at h3 h
      exact topIn_K S₁.F C.inK h1 h2 h3 T.low (wpAny_truthy_bool (h _ _ _ S₁.F S₁.N rfl))
  | _ => trivial
theorem ok_tab {x : Str} {ta : Addr} {a : ED} {ea : Expr} {xp pos : Pos} (ha : OkE g n sc inner a ea) (hx : NameIs g n sc inner x (.ref ta)) (T : TabK g x ta)
    (hs : ∀ o i, subscripted ea false o i = operate [o, i] (PySem.getItem o i)) : OkE g n sc inner (eTab a) (.Subscript (.Name x xp) ea pos) := by
  intro c env s m news am ρ σ C V S
  refine ((ha c env s m news am ρ σ C V S).bind (f := fun u Q E s₁ => wpAny (model g.prog g.w) c.A (subscriptTail (.Name x xp) ea (.ref ta) u) Q E s₁) (rel' := RelV)
    (fun v σ₁ u news₁ am₁ s₁ S₁ e₁ o₁ r₁ => ?_) fun _ _ _ _ _ _ h p q => wpAny_mono h p q).of fun Q E h => Subscript_ (hx c env s m news am ρ σ xp _ E C V S h)
  induction v with
  | str z =>
    obtain ⟨t, rfl⟩ := r₁
    dsimp only
    refine box fun G0 k0 => ?_
    obtain ⟨es, k, h1, h2, h3⟩ := T.nsIn (z := z)
    refine k0 ?_
    clear k0 G0
    cases hl : tokTab.lookup z with
    | some i =>
      rw [hl] at h3
      obtain ⟨u, h3⟩ := h3
      exact DenW.now S₁ fun Q h E => topItem_K S₁.F C.inK h1 h2 h3 (h _ _ _ S₁.F S₁.N ⟨u, rfl⟩) (hs _ _)
    | none => trivial
  | _ => trivial
end
section
variable {g : Gl} {n : Nat} {c : Act} {env : Env} {m : Str → Option Value} {news : List (Addr × Obj)} {am : AM} {ρ : MEnv} {σ : MH} {s : Shared}
theorem Sim.make (S : Sim g c env m news am ρ σ s) {a : Addr × Addr} {o : MO} {ob : Obj} {own : List (Addr × Obj)} {h' : Heap} {tk : Nat}
    (h1 : ¬ InAm a.1 am) (h2 : ¬ InAm a.2 am) (h3 : ∀ p ∈ news, p.1 ≠ a.1 ∧ p.1 ≠ a.2) (F : Fr c.h₀ c.L h' m) (N : News c.h₀ c.L h' (own ++ news)) (hm : (a.1, ob) ∈ own) (ho : ObjIs g.wc (own ++ news) (am ++ [a]) a ob o) :
    Sim g c env m (own ++ news) (am ++ [a]) ρ (σ ++ [o]) { s with heap := h', toks := tk } ∧ Evolve [] news am (own ++ news) (am ++ [a]) := by
  have hs : ∀ p ∈ news, p ∈ own ++ news := fun p hp => List.mem_append_right _ hp
  refine ⟨⟨F, N, ⟨?_, ?_, ?_⟩, ?_, fun x cc hx => let ⟨o, v, hm', hd⟩ := S.Ce x cc hx; ⟨o, v, hs _ hm', hd⟩, ?_⟩, ⟨⟨_, rfl⟩, fun p hp _ => ⟨p.2, hs p hp, fun _ => rfl⟩, ?_⟩⟩
  · rw [List.length_append, List.length_append, S.H.len]; rfl
  · have key : ∀ (i : Nat) (q : Addr × Addr), am[i]? = some q → q.1 ≠ a.1 ∧ q.1 ≠ a.2 ∧ q.2 ≠ a.1 ∧ q.2 ≠ a.2 := fun i q hq => ⟨fun e => h1 ⟨i, q, hq, .inl e⟩, fun e => h2 ⟨i, q, hq, .inl e⟩, fun e => h1 ⟨i, q, hq, .inr e⟩, fun e => h2 ⟨i, q, hq, .inr e⟩⟩
    intro i j p q hp hq hij
    rcases Nat.lt_or_ge i am.length with hi | hi
    · rw [List.getElem?_append_left hi] at hp
      rcases Nat.lt_or_ge j am.length with hj | hj
      · rw [List.getElem?_append_left hj] at hq
        exact S.H.ok i j p q hp hq hij
      · rw [List.getElem?_append_right hj] at hq
        cases hjz : j - am.length with
        | zero => rw [hjz] at hq; cases hq; exact key i p hp
        | succ z => rw [hjz] at hq; cases hq
    · rw [List.getElem?_append_right hi] at hp
      cases hiz : i - am.length with
      | zero =>
        rw [hiz] at hp
        cases hp
        rcases Nat.lt_or_ge j am.length with hj | hj
        · rw [List.getElem?_append_left hj] at hq
          refine box fun G0 k0 => ?_
          obtain ⟨u1, u2, u3, u4⟩ := key j q hq
          refine k0 ?_
          clear k0 G0
          exact ⟨u1.symm, u3.symm, u2.symm, u4.symm⟩
        · rw [List.getElem?_append_right hj] at hq
          cases hjz : j - am.length with
          | zero => exact (off_one hij hi hiz hj hjz).elim
          | succ z => rw [hjz] at hq; cases hq
      | succ z => rw [hiz] at hp; cases hp
  · intro i o' hi
    rcases Nat.lt_or_ge i σ.length with hl | hl
    · rw [List.getElem?_append_left hl] at hi
      refine box fun G0 k0 => ?_
      obtain ⟨b, ob', hb, kn, q⟩ := S.H.obj i o' hi
      refine k0 ?_
      clear k0 G0
      exact ⟨b, ob', get_grow hb, kn.imp (hs _) id, q.grow hs⟩
    · rw [List.getElem?_append_right hl] at hi
      cases hz : i - σ.length with
      | succ z => rw [hz] at hi; cases hi
      | zero =>
        rw [hz] at hi
        cases hi
        refine ⟨a, ob, ?_, .inl (List.mem_append_left _ hm), ho⟩
        rw [List.getElem?_append_right (by rw [S.H.len]; exact hl), S.H.len, hz]; rfl
  · intro x mv hx
    refine box fun G0 k0 => ?_
    obtain ⟨v, hv, hn⟩ := S.V x mv hx
    refine k0 ?_
    clear k0 G0
    exact ⟨v, hv.grow, hn.more hs⟩
  · rcases S.Ap with h | ⟨⟨o, hmo⟩, hn⟩
    · exact .inl h
    · refine .inr ⟨⟨o, hs _ hmo⟩, ?_⟩
      rintro hb1
      refine box fun G0 k0 => ?_
      obtain ⟨i, q, hq, hr⟩ := hb1
      refine k0 ?_
      clear k0 G0
      rcases Nat.lt_or_ge i am.length with hi | hi
      · rw [List.getElem?_append_left hi] at hq; exact hn ⟨i, q, hq, hr⟩
      · rw [List.getElem?_append_right hi] at hq
        cases hz : i - am.length with
        | succ z => rw [hz] at hq; cases hq
        | zero =>
          rw [hz] at hq
          cases hq
          rcases hr with hr | hr
          · exact (h3 _ hmo).1 hr.symm
          · exact (h3 _ hmo).2 hr.symm
  · intro i q hi hq p hp
    rw [List.getElem?_append_right hi] at hq
    cases hz : i - am.length with
    | succ z => rw [hz] at hq; cases hq
    | zero => rw [hz] at hq; cases hq; exact h3 p hp
theorem Sim.above (C : c.Ok g n) (S : Sim g c env m news am ρ σ s) {x : Addr} (h1 : c.h₀.get? x = none) (h2 : ∀ p ∈ news, p.1 ≠ x) : ¬ InAm x am := by
  rintro hb2
  refine box fun G0 k0 => ?_
  obtain ⟨i, q, hq, hr⟩ := hb2
  have hl : i < σ.length := by
    rw [← S.H.len]
    rcases Nat.lt_or_ge i am.length with h' | h'
    · exact h'
    · rw [List.getElem?_eq_none h'] at hq; cases hq
  obtain ⟨b, ob, hb, hk, ho⟩ := S.H.obj i _ (List.getElem?_eq_getElem hl)
  obtain rfl : b = q := Option.some.inj (hb.symm.trans hq)
  refine k0 ?_
  clear k0 G0
  have k1 : b.1 ≠ x := by
    rcases hk with hk | ⟨_, hk⟩
    · exact h2 _ hk
    · intro e
      have := C.stays _ _ hk
      rw [e, h1] at this; cases this
  rcases hr with hr | hr
  · exact k1 hr
  · revert ho
    cases σ[i] with
    | list xs => rintro ⟨vs, k, e, _, e2⟩; exact k1 (e2 ▸ hr)
    | tup xs => rintro ⟨vs, k, e, _, e2⟩; exact k1 (e2 ▸ hr)
    | inst as => rintro ⟨es, k, e, hm, _⟩; exact h2 _ hm hr
end
structure MakeK (g : Gl) (fi : Addr) : Prop where
  makes : makesIn g.K g.wc = true
  init : findIn g.K (.ref g.wc) "__init__" = some (some (.ref fi))
  isF : isFn g.K (.ref fi) = true
theorem does_new {g : Gl} {n : Nat} {fi : Addr} (D : DoesC g n fi initF) (K : MakeK g fi) : Does g (n + 1) (.ref g.wc) newF := by
  intro c env s m news am ρ σ xs us C S r
  unfold newF
  split
  · rename_i σ₁ hi
    intro E
    refine call_cls S.F C.inK S.N K.makes K.init K.isF fun x dx h' F' N' hlt hxd => ?_
    have hx0 := (N' _ (.head _)).2.2
    have hd0 := (N' _ (.tail _ (.head _))).2.2
    have nd : ∀ p ∈ news, p.1 ≠ dx := fun p hp => Nat.ne_of_lt (hlt p hp)
    have nx : ∀ p ∈ news, p.1 ≠ x := fun p hp => Nat.ne_of_lt (Nat.lt_trans (hlt p hp) hxd)
    refine box fun G0 k0 => ?_
    obtain ⟨S', e'⟩ := S.make (a := (x, dx)) (own := [(x, instObj g.wc dx), (dx, dictOf [] 0)]) (o := .inst []) (ob := instObj g.wc dx) (tk := s.toks) (S.above C hx0 nx) (S.above C hd0 nd) (fun p hp => ⟨nx p hp, nd p hp⟩) F' N' (.head _)
      ⟨[], 0, rfl, .tail _ (.head _), fun y => rfl, rfl, Nat.le_refl _⟩
    obtain ⟨c₂, hc₂⟩ : ∃ c₂ : Act, c₂ = ⟨c.A.under (.builtin "type.__call__" ⟨.ref g.wc :: us, []⟩), c.base, c.outer, c.fenv, c.h₀, c.L⟩ := ⟨_, rfl⟩
    refine k0 ?_
    clear k0 G0
    have C₂ : c₂.Ok g n := by
      subst hc₂
      refine ⟨C.below, C.frames, C.frame, C.kind, C.locs, C.glob, C.blt, C.inK, C.top, C.quiet, C.flatOk, ?_, ?_, C.cel, C.celApart⟩
      · have := C.depth
        show c.A.depth + _ + 4 * n + 4 < _
        have hw : Code.weight (.builtin "type.__call__" ⟨.ref g.wc :: us, []⟩) = 1 := by rfl
        lia
      · have := C.units
        show c.A.units + _ + 12 * n + 80 < _
        have hw : Code.cUnits (.builtin "type.__call__" ⟨.ref g.wc :: us, []⟩) = 1 := by rfl
        lia
    have S₂ : Sim g c₂ env m ([(x, instObj g.wc dx), (dx, dictOf [] 0)] ++ news) (am ++ [(x, dx)]) ρ (σ ++ [.inst []]) { s with heap := h', toks := s.toks } := by subst hc₂; exact ⟨S'.F, S'.N, S'.H, S'.V, S'.Ce, S'.Ap⟩
    have HD := D c₂ env { s with heap := h', toks := s.toks } m ([(x, instObj g.wc dx), (dx, dictOf [] 0)] ++ news) (am ++ [(x, dx)]) ρ (σ ++ [.inst []]) (.ref σ.length :: xs) (.ref x :: us) C₂ S₂ ⟨⟨(x, dx), by rw [List.getElem?_append_right (by rw [S.H.len]; exact Nat.le_refl _), S.H.len]; simp, rfl⟩, e'.relL r⟩
    rw [hi] at HD
    subst hc₂
    refine codeAny_mono (HD fun _ _ => False) fun r s₂ hr => ?_
    induction r with
    | error e => exact hr.elim
    | ok f =>
      induction f with
      | ret v =>
        refine box fun G0 k0 => ?_
        obtain ⟨news₂, am₂, S₃, e₃, o₃, r₃⟩ := hr
        refine k0 ?_
        clear k0 G0
        refine ⟨r₃, news₂, am₂, ⟨S₃.F, S₃.N, S₃.H, S₃.V, S₃.Ce, S₃.Ap⟩, e'.trans e₃ S₃.amOk, (Only.mk' s h' s.toks).trans o₃, e₃.relV ⟨(x, dx), by rw [List.getElem?_append_right (by rw [S.H.len]; exact Nat.le_refl _), S.H.len]; simp, rfl⟩⟩
      | _ => exact hr.elim
  · trivial
section
variable {g : Gl} {n : Nat} {sc : Scope} {inner : Bool}
section
variable {a b : ED} {ea eb : Expr} {pos : Pos}
theorem ok_add (ha : OkE g n sc inner a ea) (hb : OkE g n sc inner b eb) : OkE g n sc inner (eBin opAdd a b) (.BinOp ea .Add eb pos) := ok_bin ha hb fun c env s m news am ρ σ x y u v C S hx hy => den_add C S hx hy
theorem ok_sub (ha : OkE g n sc inner a ea) (hb : OkE g n sc inner b eb) : OkE g n sc inner (eBin opSub a b) (.BinOp ea .Sub eb pos) := ok_bin ha hb fun c env s m news am ρ σ x y u v C S hx hy => den_sub C S hx hy
theorem ok_mul (ha : OkE g n sc inner a ea) (hb : OkE g n sc inner b eb) : OkE g n sc inner (eBin opMul a b) (.BinOp ea .Mult eb pos) := ok_bin ha hb fun c env s m news am ρ σ x y u v C S hx hy => den_mul C S hx hy
theorem ok_div (ha : OkE g n sc inner a ea) (hb : OkE g n sc inner b eb) : OkE g n sc inner (eBin opDiv a b) (.BinOp ea .FloorDiv eb pos) := ok_bin ha hb fun c env s m news am ρ σ x y u v C S hx hy => den_div C S hx hy
theorem ok_mod (ha : OkE g n sc inner a ea) (hb : OkE g n sc inner b eb) : OkE g n sc inner (eBin opMod a b) (.BinOp ea .Mod eb pos) := ok_bin ha hb fun c env s m news am ρ σ x y u v C S hx hy => den_mod C S hx hy
theorem ok_pow (ha : OkE g n sc inner a ea) (hb : OkE g n sc inner b eb) : OkE g n sc inner (eBin opPow a b) (.BinOp ea .Pow eb pos) := ok_bin ha hb fun c env s m news am ρ σ x y u v C S hx hy => den_pow C S hx hy
end
theorem ok_cmp' {cm : Cm} {op : CmpOp} {a b : ED} {ea eb : Expr} {pos : Pos} (ho : cm.op = op) (hm : behindInMarks op eb = false) (ha : OkE g n sc inner a ea) (hb : OkE g n sc inner b eb) : OkE g n sc inner (eCmp cm a b) (.Compare ea [op] [eb] pos) := by
  subst ho; exact ok_cmp ha hb hm
theorem okT_cmp' {cm : Cm} {op : CmpOp} {a b : ED} {ea eb : Expr} {pos : Pos} (ho : cm.op = op) (hm : behindInMarks op eb = false) (ha : OkE g n sc inner a ea) (hb : OkE g n sc inner b eb) : OkT g n sc inner (tOf (eCmp cm a b)) (.Compare ea [op] [eb] pos) := by
  subst ho; exact okT_cmp ha hb hm
theorem ok_neg {i : Int} {k : Nat} {p pos : Pos} : OkE g n sc inner (eVal (.int (-i))) (.UnaryOp .USub (.Constant (.int i) k p) pos) := by
  intro c env s m news am ρ σ C V S
  exact DenW.now S fun Q h E => wpAny_UnaryOp (wpAny_Constant_int (neg_int (h _ _ _ S.F S.N ⟨_, rfl⟩)))
section
variable {x : Str} {id : String} {f : MV → MH → R MV} {f2 : MV → MV → MH → R MV} {a b : ED} {ea eb : Expr} {pos xp : Pos}
theorem ok_un (hx : NameIs g n sc inner x (.builtin id)) (hf : Does g n (.builtin id) (on1 f)) (ha : OkE g n sc inner a ea)
    (h1 : ∀ env, starEach [ea] env = (false, eval ea env) :: starEach [] env)
    (h3 : ∀ env, eval (.Call (.Name x xp) [ea] [] pos) env = (do callWith pos (← eval (.Name x xp) env) [] (backTo pos (starEach [ea] env)) (backToKw pos (keywordEach [] env)))) : OkE g n sc inner (eUn f a) (.Call (.Name x xp) [ea] [] pos) := by
  rw [eUn_call]
  exact ok_call_builtin hx (okL_cons ha okL_nil h1) hf h1 (fun _ => rfl) h3
theorem ok_unT (hx : NameIs g n sc inner x (.type id)) (hf : Does g n (.type id) (on1 f)) (ha : OkE g n sc inner a ea)
    (h1 : ∀ env, starEach [ea] env = (false, eval ea env) :: starEach [] env)
    (h3 : ∀ env, eval (.Call (.Name x xp) [ea] [] pos) env = (do callWith pos (← eval (.Name x xp) env) [] (backTo pos (starEach [ea] env)) (backToKw pos (keywordEach [] env)))) : OkE g n sc inner (eUn f a) (.Call (.Name x xp) [ea] [] pos) := by
  rw [eUn_call]
  exact ok_call_type hx (okL_cons ha okL_nil h1) hf h1 (fun _ => rfl) h3
theorem ok_bi (hx : NameIs g n sc inner x (.builtin id)) (hf : Does g n (.builtin id) (on2 f2)) (ha : OkE g n sc inner a ea) (hb : OkE g n sc inner b eb)
    (h1 : ∀ env, starEach [ea, eb] env = (false, eval ea env) :: starEach [eb] env) (h2 : ∀ env, starEach [eb] env = (false, eval eb env) :: starEach [] env) (h4 : ∀ env, (backTo pos (starEach [eb] env)).any (·.1) = false)
    (h3 : ∀ env, eval (.Call (.Name x xp) [ea, eb] [] pos) env = (do callWith pos (← eval (.Name x xp) env) [] (backTo pos (starEach [ea, eb] env)) (backToKw pos (keywordEach [] env)))) : OkE g n sc inner (eBin f2 a b) (.Call (.Name x xp) [ea, eb] [] pos) := by
  rw [eBin_call]
  exact ok_call_builtin hx (okL_cons ha (okL_cons hb okL_nil h2) h1) hf h1 h4 h3
end
section
variable {a : ED} {l : LD} {eo e : Expr} {es : List Expr} {apos pos : Pos} {pl : Env → Sem Bool}
theorem ok_find (ha : OkE g n sc inner a eo) (hl : OkL g n sc inner l (e :: es))
    (h1 : ∀ env, starEach (e :: es) env = (false, eval e env) :: starEach es env) (h2 : ∀ env, (backTo pos (starEach es env)).any (·.1) = false)
    (h3 : ∀ env, eval (.Call (.Attribute eo "find" apos) (e :: es) [] pos) env = (do
          let ov ← eval eo env
          standAt apos.atName
          let (f, first) ← holding [ov] (getMethod ov "find" (pl env))
          callWith pos f first (backTo pos (starEach (e :: es) env)) [])) : OkE g n sc inner (eMeth mFind a l) (.Call (.Attribute eo "find" apos) (e :: es) [] pos) :=
  ok_meth ha hl (fun A E s x t Q pl h => GM.find h) (fun c env s m news am ρ σ x t ys us C S r => den_find C S r) h1 h2 h3
theorem ok_find3 (ha : OkE g n sc inner a eo) (hl : OkL g n sc inner l (e :: es))
    (h1 : ∀ env, starEach (e :: es) env = (false, eval e env) :: starEach es env) (h2 : ∀ env, (backTo pos (starEach es env)).any (·.1) = false)
    (h3 : ∀ env, eval (.Call (.Attribute eo "find" apos) (e :: es) [] pos) env = (do
          let ov ← eval eo env
          standAt apos.atName
          let (f, first) ← holding [ov] (getMethod ov "find" (pl env))
          callWith pos f first (backTo pos (starEach (e :: es) env)) [])) : OkE g n sc inner (eMeth mFind3 a l) (.Call (.Attribute eo "find" apos) (e :: es) [] pos) :=
  ok_meth ha hl (fun A E s x t Q pl h => GM.find h) (fun c env s m news am ρ σ x t ys us C S r => den_find3 C S r) h1 h2 h3
theorem ok_split (ha : OkE g n sc inner a eo) (hl : OkL g n sc inner l (e :: es))
    (h1 : ∀ env, starEach (e :: es) env = (false, eval e env) :: starEach es env) (h2 : ∀ env, (backTo pos (starEach es env)).any (·.1) = false)
    (h3 : ∀ env, eval (.Call (.Attribute eo "split" apos) (e :: es) [] pos) env = (do
          let ov ← eval eo env
          standAt apos.atName
          let (f, first) ← holding [ov] (getMethod ov "split" (pl env))
          callWith pos f first (backTo pos (starEach (e :: es) env)) [])) : OkE g n sc inner (eMeth mSplit a l) (.Call (.Attribute eo "split" apos) (e :: es) [] pos) :=
  ok_meth ha hl (fun A E s x t Q pl h => GM.split h) (fun c env s m news am ρ σ x t ys us C S r => den_split C S r) h1 h2 h3
theorem ok_join (ha : OkE g n sc inner a eo) (hl : OkL g n sc inner l (e :: es))
    (h1 : ∀ env, starEach (e :: es) env = (false, eval e env) :: starEach es env) (h2 : ∀ env, (backTo pos (starEach es env)).any (·.1) = false)
    (h3 : ∀ env, eval (.Call (.Attribute eo "join" apos) (e :: es) [] pos) env = (do
          let ov ← eval eo env
          standAt apos.atName
          let (f, first) ← holding [ov] (getMethod ov "join" (pl env))
          callWith pos f first (backTo pos (starEach (e :: es) env)) [])) : OkE g n sc inner (eMeth mJoin a l) (.Call (.Attribute eo "join" apos) (e :: es) [] pos) :=
  ok_meth ha hl (fun A E s x t Q pl h => GM.join h) (fun c env s m news am ρ σ x t ys us C S r => den_join C S r) h1 h2 h3
end
end
section
variable {g : Gl} {sc : Scope}
theorem targets_nil : Targets g sc [] [] := by
  intro env
  refine ⟨rfl, rfl, fun c i x t hx => ?_⟩
  cases hx
theorem targets_cons {x : String} {xs : List String} {p : Pos} {es : List Expr} (h : Targets g sc xs es)
    (he : ∀ env, assignEach (.Name (Str.ofString x) p :: es) env = (false, assign (.Name (Str.ofString x) p) env) :: assignEach es env) : Targets g sc (x :: xs) (.Name (Str.ofString x) p :: es) := by
  intro env
  obtain ⟨h1, h2, h3⟩ := h env
  rw [he]
  refine ⟨by rw [List.length_cons, List.length_cons, h1], by rw [List.findIdx?_cons, h2]; rfl, fun c i y t hy ht u Q E s hw => ?_⟩
  induction i with
  | zero =>
    cases hy
    cases ht
    exact wpAny_assign_Name hw
  | succ i => exact h3 c i y t hy ht u Q E s hw
end
section
variable {g : Gl} {n : Nat} {sc : Scope} {inner : Bool}
theorem ok_slFromS {a b : ED} {ea eb : Expr} {p pos : Pos} (ha : OkE g n sc inner a ea) (hb : OkE g n sc inner b eb) : OkE g n sc inner (eSlFromS a b) (.Subscript ea (.Slice (some eb) none none p) pos) := by
  intro c env s m news am ρ σ C V S
  refine ((ha c env s m news am ρ σ C V S).bind (f := fun u Q E s₁ => wpAny (model g.prog g.w) c.A (eval (.Slice (some eb) none none p) env) (fun i s₂ => wpAny (model g.prog g.w) c.A (subscriptTail ea (.Slice (some eb) none none p) u i) Q E s₂) E s₁) (rel' := RelV)
    (k := fun va σ₁ => (b ρ σ₁).bind fun vb σ₂ => opSlFromS va vb σ₂) (fun x σ₁ u news₁ am₁ s₁ S₁ e₁ o₁ r₁ => ?_) fun _ _ _ _ _ _ h p q => wpAny_mono h (fun _ _ h' => wpAny_mono h' p q) q).of fun Q E h => Subscript_ h
  refine ((hb c env s₁ m news₁ am₁ ρ σ₁ C V S₁).bind (f := fun v Q E s₂ => wpAny (model g.prog g.w) c.A (subscriptTail ea (.Slice (some eb) none none p) u (.ref s₂.heap.objs.size)) Q E { s₂ with heap := s₂.heap.push { cls := .type "slice", data := .fields #[v, .none, .none] } }) (rel' := RelV)
    (k := fun vb σ₂ => opSlFromS x vb σ₂) (fun y σ₂ v news₂ am₂ s₂ S₂ e₂ o₂ r₂ => ?_) fun _ _ _ _ _ _ h p q => wpAny_mono h p q).of fun Q E h => wpAny_Slice (evalPart_some_step (wpAny_mono h (fun _ _ h' => evalPart_none_step (evalPart_none_step h')) fun _ _ x => x))
  have r₁ := e₂.relV r₁
  induction y with
  | int j =>
    obtain ⟨t, rfl⟩ := r₂
    induction x with
    | str z =>
      obtain ⟨t', rfl⟩ := r₁
      unfold opSlFromS; dsimp only
      split
      · rename_i hl
        have hz := maxLen_le (okB_spec hl).2.2
        exact DenW.now S₂ fun Q h E => slice_strN_sn S₂.F S₂.N (fun h' t k F N => h _ _ _ F N ⟨_, rfl⟩) rfl (fun r => by cases ea <;> rfl) hz
      · trivial
    | _ => trivial
  | _ => cases x <;> trivial
end
structure ExcK (g : Gl) (x : Str) (cl : Bool) : Prop where
  nm : nsIn g.K mainGlobals x = some (some (.ref (g.ec cl)))
  ex : ∃ B newId initId bm, ExcBaseFacts B newId initId bm ∧ excIn g.K (g.ec cl) bm newId = true
section
variable {g : Gl} {n : Nat} {sc : Scope}
theorem okS_raise {cl : Bool} {x : Str} {a : ED} {e₀ : Expr} {np cpos pos : Pos} (ha : OkE g n sc false a e₀) (hx : NameIs g n sc false x (.ref (g.ec cl))) (K : ExcK g x cl)
    (he : ∀ env, starEach [e₀] env = (false, eval e₀ env) :: starEach [] env) (hq : g.loud = false := by rfl) :
    OkS g n sc (sRaise cl a) (.Raise (some (.Call (.Name x np) [e₀] [] cpos)) none pos) := by
  intro c s m news am ρ σ C V S
  have hl : OkL g n sc false (lCons a lNil) [e₀] := okL_cons ha okL_nil he
  have H := hl c c.fenv s m news am ρ σ cpos C V S
  have e0 : lCons a lNil ρ σ = (a ρ σ).bind fun v σ₁ => .ok [v] σ₁ := rfl
  rw [e0] at H
  refine box fun GZ kZ => ?_
  obtain ⟨B, newId, initId, bm, FB, hex⟩ := K.ex
  obtain ⟨tl, N, nm, q, bs, hdct, sn, sub, ab, col, dd, k0, k1, k2, k3, k5, mN, hC, hN, hni, T⟩ := (own_of_in C.inK (topRead_of C.top) K.nm hex).obj
  refine kZ ?_
  clear kZ GZ
  have enter : ∀ (Q : Flow → Shared → Prop) (E : Value → Shared → Prop), wpAny (model g.prog g.w) c.A (spliced (backTo cpos (starEach [e₀] c.fenv))) (fun vs s₂ => vs.length ≤ sizeLine ∧ (∀ b o, c.h₀.get? b = some o → s₂.heap.get? b = some o) ∧
      ∀ h' e, Heap.MadeExcOf s₂.heap h' e (.ref (g.ec cl)) vs → E (.ref e) { s₂ with heap := h' }) E s → wpAny (model g.prog g.w) c.A (exec (.Raise (some (.Call (.Name x np) [e₀] [] cpos)) none pos) c.fenv) Q E s := fun Q E h => by
    refine wpAny_Raise_call_subT (C := g.ec cl) (nm := nm) (q := q) (N := N) (bs := bs) (bm := tl) (hdct := hdct) (sn := sn) (sub := sub) (ab := ab) (col := col) (dd := dd) (k0 := k0) (k1 := k1) (k2 := k2) (k3 := k3) (k5 := k5)
      FB (mN := mN) (T.hasType FB.hasBase) (C.quiet hq) (by rw [he]; rfl) hni (hx c c.fenv s m news am ρ σ np _ E C V S ⟨rfl, ?_⟩)
    rw [he] at h ⊢
    exact Calls.evalArgs_plain (wpAny_mono h (fun vs s₂ h₂ => ⟨rfl, h₂.1, h₂.2.1 _ _ hC, hN.keeps h₂.2.1, T.keeps h₂.2.1, h₂.2.2⟩) fun _ _ y => y)
  unfold sRaise
  revert H
  cases a ρ σ with
  | stuck => intro _; trivial
  | exc cl' msg σ' => intro H Q E hE; exact enter Q E (H _ _ fun x s' ⟨news', am', h1, e, o, fl⟩ => hE x s' ⟨news', am', h1, e.more, o, fl.any⟩)
  | ok v σ₁ =>
    intro H
    simp only [R.bind_ok]
    induction v with
    | str msg =>
      intro Q E hE
      refine enter Q E (wpAny_mono (H E) (fun us s₁ hb1 => ?_) fun _ _ x => x)
      refine box fun GZ kZ => ?_
      obtain ⟨news₁, am₁, S₁, e₁, o₁, r₁⟩ := hb1
      obtain ⟨u, rfl, tk, rfl⟩ := relL_one r₁ rfl
      refine kZ ?_
      clear kZ GZ
      refine ⟨by show 1 ≤ sizeLine; rw [sizeLine_eq]; decide, S₁.F.keep, fun h' e hx' => ?_⟩
      refine box fun GZ kZ => ?_
      obtain ⟨t, B, f⟩ := FlyAt.made C S₁ hx'
      refine kZ ?_
      clear kZ GZ
      exact hE _ _ ⟨news₁, am₁, S₁.H, e₁.more, o₁.trans ⟨h', s₁.toks, rfl⟩, f.core trivial rfl⟩
    | _ => trivial
end
open Builtin Builtin.Str Builtin.BaseException Builtin.Exceptions
noncomputable def ExcAtC (h : Heap) (e C t0 : Addr) : Prop := ∃ o vs, h.get? e = some o ∧ o.cls = .ref C ∧ o.data = .fields vs ∧ vs[0]? = some (.ref t0)
noncomputable def ClsAtC (h : Heap) (C : Addr) (bm : List Value) : Prop := ∃ nm q N bs hdct sn sub ab col dd k0 k1 k2 k3 k5 newId, h.get? C = some (excClassObj nm q C N bs bm hdct sn sub ab col dd k0 k1 k2 k3 k5 newId) ∧ bm.contains (.type "BaseException") = true
section
variable {prog : Program} {w : World} {A : Around} {E : Value → Shared → Prop} {s : Shared} {e t0 C : Addr} {bm : List Value}
theorem bexcArgs_own {M : Model} {items : List Value} {Q : Value × List Value → Shared → Prop} (x : ExcAtC s.heap e C t0) (ht : s.heap.TupAt t0 items) (hq : Q (.ref t0, items) s) :
    wpAny M A (bexcArgs (.ref e)) Q E s := by
  refine box fun GZ kZ => ?_
  obtain ⟨o, vs, ho, _, hd, h0⟩ := x
  obtain ⟨ot, k, hto, _, htd⟩ := ht
  refine kZ ?_
  clear kZ GZ
  unfold bexcArgs
  refine wpAny_bind (wpAny_field ho hd h0 (wpAny_bind (wpAny_seqItems hto htd ?_)))
  have : items.toArray.toList = items := by simp
  show wpAny M A (pure (Value.ref t0, items.toArray.toList)) Q E s
  rw [this]; exact wpAny_pure hq
theorem bexcStr_own {m : Str} {tk : Tok} {Q : Fin → Shared → Prop} (x : ExcAtC s.heap e C t0) (ht : s.heap.TupAt t0 [.str m tk]) (hq : Q (.done (.ret (.str m tk))) s) :
    wpAny (model prog w) A (Builtin.«BaseException.__str__» ⟨[.ref e], []⟩) Q E s := by
  unfold Builtin.«BaseException.__str__»
  repeat (first | with_reducible refine bexcArgs_own x ht ?_ | wp_step)
  exact hq
theorem check_str_own {M : Model} {h : Heap} {g : Array GenState} {d : Drawn} {t : Nat} {os : OsState} {Q : Unit → Shared → Prop} (hC : ClsAtC h C bm) (x : ExcAtC h e C t0) (hq : Q () ⟨h, g, d, t, os⟩) :
    wpAny M A (checkBuiltinCall "BaseException.__str__" ⟨[.ref e], []⟩) Q E ⟨h, g, d, t, os⟩ := by
  refine box fun GZ kZ => ?_
  obtain ⟨nm, q, N, bs, hdct, sn, sub, ab, col, dd, k0, k1, k2, k3, k5, newId, hC, hb⟩ := hC
  obtain ⟨o, vs, hx, hc, hd, h0⟩ := x
  refine kZ ?_
  clear kZ GZ
  have hk : builtinKind "BaseException.__str__" = some .slot := by decide +kernel
  have hsplit : splitId "BaseException.__str__" = some ("BaseException", "__str__") := by decide +kernel
  have hcB : (Value.ref C :: bm).contains (.type "BaseException") = true := by rw [List.contains_cons, hb]; rfl
  have ha := F.args_bexc_str (.ref e)
  simp only [checkBuiltinCall, hk, hsplit]
  refine wpAny_bind ?_
  · unfold isInstance
    repeat (first | (with_reducible refine wpAny_loadPart_at hx ?_; rw [hc]) | (with_reducible refine wpAny_isSubtype_exc hC ?_; rw [hcB]) | wp_step)
    exact hq
theorem call_str_own {m : Str} {tk : Tok} {Q : Value → Shared → Prop} (hC : ClsAtC s.heap C bm) (x : ExcAtC s.heap e C t0) (ht : s.heap.TupAt t0 [.str m tk]) (hq : Q (.str m tk) s) :
    wpAny (model prog w) A (call (.builtin "BaseException.__str__") [.ref e]) Q E s := by
  refine wpAny_call (codeAny_call_builtin PySem.F.excStr_Exception.str.plain F.entry_bexc_str ?_)
  refine box fun GZ kZ => ?_
  obtain ⟨h, g, d, tk', os⟩ := s
  refine kZ ?_
  clear kZ GZ
  exact check_str_own hC x (bexcStr_own x ht hq)
theorem strOf_own {K : Frag} (X : K.In s.heap) (hs : findIn K (.ref C) "__str__" = some (some (.builtin "BaseException.__str__"))) (hu : A.units < cLine) {m : Str} {tk : Tok} {Q : Value → Shared → Prop}
    (hC : ClsAtC s.heap C bm) (x : ExcAtC s.heap e C t0) (ht : s.heap.TupAt t0 [.str m tk]) (hq : Q (.str m tk) s) : wpAny (model prog w) A (Builtin.Str.strOf (.ref e)) Q E s := by
  have hsp : ∀ {Q : Option Value → Shared → Prop}, Q (some (.str m tk)) s → wpAny (model prog w) A (callSpecial? (.ref e) "__str__") Q E s := fun hq => by
    refine box fun GZ kZ => ?_
    obtain ⟨o, vs, ho, hc, hd, h0⟩ := id x
    refine kZ ?_
    clear kZ GZ
    have hT : Looks (model prog w) s.heap (typeOf (.ref e)) (.ref C) := hc ▸ (Looks.ld ho).andThen .now
    unfold callSpecial? specialOf
    refine wpAny_bind (wpAny_bind (hT.here ((looks_findIn X hs).here ?_)))
    dsimp only
    rw [PySem.F.excStr_Exception.str.bind]
    exact wpAny_holding (wpAny_bind (wpAny_pure (wpAny_bind (wpAny_mono (call_str_own hC x ht (Q := fun v s' => v = .str m tk ∧ s' = s) ⟨rfl, rfl⟩) (fun v s' ⟨h1, h2⟩ => wpAny_pure (by subst h1 h2; exact hq)) fun _ _ h' => h'))))
  unfold Builtin.Str.strOf
  repeat (first | with_reducible refine wpAny_cRoomFor hu ?_ | with_reducible refine hsp ?_ | wp_step)
  exact hq
theorem str_own {K : Frag} (X : K.In s.heap) (hs : findIn K (.ref C) "__str__" = some (some (.builtin "BaseException.__str__"))) (hu : A.units + 2 < cLine) {m : Str} {tk : Tok} {Q : Value → Shared → Prop}
    (hC : ClsAtC s.heap C bm) (x : ExcAtC s.heap e C t0) (ht : s.heap.TupAt t0 [.str m tk]) (hq : Q (.str m tk) s) : wpAny (model prog w) A (call (.type "str") [.ref e]) Q E s :=
  callType_new F.called_str (by decide) (F.typeCall_str_1 _) (F.newCall_str_1 _) (fun obj => F.args_object_init_2 obj _) F.entry_str_new
    (meets_str_new (S := fun A' R s' => A'.units + 1 < cLine ∧ K.In s'.heap ∧ ClsAtC s'.heap C bm ∧ ExcAtC s'.heap e C t0 ∧ s'.heap.TupAt t0 [.str m tk] ∧ R (.ok (.ret (.str m tk))) s')
      fun _ _ A' _ _ hq => strOf_own (A := A'.in1) hq.2.1 hs hq.1 hq.2.2.1 hq.2.2.2.1 hq.2.2.2.2.1 hq.2.2.2.2.2)
    ⟨(show A.units + 1 + 1 < cLine from hu), X, hC, x, ht, typeIs_str _ _ _, hq⟩
theorem excMatches_self {M : Model} {Q : Bool → Shared → Prop} (hC : ClsAtC s.heap C bm) (x : ExcAtC s.heap e C t0) (hq : Q true s) : wpAny M A (excMatches (.ref e) (.ref C)) Q E s := by
  refine box fun GZ kZ => ?_
  obtain ⟨nm, q, N, bs, hdct, sn, sub, ab, col, dd, k0, k1, k2, k3, k5, newId, hC, hb⟩ := hC
  obtain ⟨o, vs, hx, hc, hd, h0⟩ := x
  obtain ⟨h, g, d, tk', os⟩ := s
  refine kZ ?_
  clear kZ GZ
  exact wpAny_excMatches_sub_self hC hx hc hb hq
theorem excMatches_miss {M : Model} {D : Addr} {bmD : List Value} {Q : Bool → Shared → Prop} (hC : ClsAtC s.heap C bm) (hD : ClsAtC s.heap D bmD) (x : ExcAtC s.heap e C t0) (hno : (Value.ref C :: bm).contains (.ref D) = false) (hq : Q false s) :
    wpAny M A (excMatches (.ref e) (.ref D)) Q E s := by
  refine box fun GZ kZ => ?_
  obtain ⟨nm, q, N, bs, hdct, sn, sub, ab, col, dd, k0, k1, k2, k3, k5, newId, hC, hb⟩ := hC
  obtain ⟨nm', q', N', bs', hdct', sn', sub', ab', col', dd', k0', k1', k2', k3', k5', newId', hD, hb'⟩ := hD
  obtain ⟨o, vs, hx, hc, hd, h0⟩ := x
  obtain ⟨h, g, d, tk', os⟩ := s
  refine kZ ?_
  clear kZ GZ
  have hcB : (Value.ref D :: bmD).contains (.type "BaseException") = true := by rw [List.contains_cons, hb', Bool.or_true]
  have f := tc_notTuple
  unfold excMatches
  repeat (first | (with_reducible refine wpAny_loadPart_at hx ?_; rw [hc]) | with_reducible refine wpAny_loadPart_at hD ?_ | (with_reducible refine wpAny_isSubtype_exc hD ?_; rw [hcB]) | (with_reducible refine wpAny_isSubtype_exc hC ?_; rw [hno]) | wp_step)
  exact hq
end
section
variable {g : Gl} {n : Nat} {sc : Scope} {c : Act} {m : Str → Option Value} {ρ : MEnv} {P : List (Addr × Obj) → AM → Prop}
noncomputable def At (g : Gl) (c : Act) (m : Str → Option Value) (ρ : MEnv) (P : List (Addr × Obj) → AM → Prop) (d : ED) (e : Expr) : Prop :=
  ∀ (s : Shared) (news : List (Addr × Obj)) (am : AM) (σ : MH), P news am → Sim g c c.fenv m news am ρ σ s → Den g c c.fenv m ρ RelV news am s (eval e c.fenv) (d ρ σ)
noncomputable def AtL (g : Gl) (c : Act) (m : Str → Option Value) (ρ : MEnv) (P : List (Addr × Obj) → AM → Prop) (d : LD) (es : List Expr) : Prop :=
  ∀ (pos : Pos) (s : Shared) (news : List (Addr × Obj)) (am : AM) (σ : MH), P news am → Sim g c c.fenv m news am ρ σ s → Den g c c.fenv m ρ RelL news am s (spliced (backTo pos (starEach es c.fenv))) (d ρ σ)
noncomputable def Kept (P : List (Addr × Obj) → AM → Prop) : Prop := ∀ news am news' am', P news am → Evolve [] news am news' am' → P news' am'
theorem at_of {d : ED} {e : Expr} (C : c.Ok g n) (V : EnvOk c sc false c.fenv) (h : OkE g n sc false d e) : At g c m ρ P d e := fun s news am σ _ S => h c c.fenv s m news am ρ σ C V S
theorem atL_nil : AtL g c m ρ P lNil [] := fun pos s news am σ _ S => DenW.now S fun Q h E => spliced_nil (h _ _ s.toks S.F S.N trivial)
theorem atL_cons {a : ED} {l : LD} {e : Expr} {es : List Expr} (hP : Kept P) (ha : At g c m ρ P a e) (hl : AtL g c m ρ P l es) (hst : ∀ env, starEach (e :: es) env = (false, eval e env) :: starEach es env) : AtL g c m ρ P (lCons a l) (e :: es) := by
  intro pos s news am σ p S
  refine ((ha s news am σ p S).bind (f := fun v Q E s₁ => wpAny (model g.prog g.w) c.A (spliced (backTo pos (starEach es c.fenv))) (fun vs s₂ => Q (v :: vs) s₂) E s₁) (rel' := RelL) (k := fun v σ₁ => (l ρ σ₁).bind fun vs σ₂ => .ok (v :: vs) σ₂)
    (fun x σ₁ u news₁ am₁ s₁ S₁ e₁ o₁ r₁ => ?_) fun _ _ _ _ _ _ h p q => wpAny_mono h (fun _ _ h' => p _ _ h') q).of fun Q E h => spliced_more h (hst c.fenv)
  refine (hl pos s₁ news₁ am₁ σ₁ (hP _ _ _ _ p e₁) S₁).bind (f := fun vs Q E s₂ => Q (u :: vs) s₂) (fun xs σ₂ us news₂ am₂ s₂ S₂ e₂ o₂ r₂ => ?_) fun _ _ _ _ _ _ h p q => p _ _ h
  exact DenW.now S₂ fun Q h E => h _ _ s₂.toks S₂.F S₂.N ⟨e₂.relV r₁, r₂⟩
theorem at_tup {l : LD} {es : List Expr} {k : Nat} {pos : Pos} (C : c.Ok g n) (hl : AtL g c m ρ P l es) : At g c m ρ P (eTup l) (.Tuple es k pos) := by
  intro s news am σ p S
  refine ((hl pos s news am σ p S).bind1 (f := newTuple) (rel' := RelV) (k := allocN .tup) fun xs σ₁ us news₁ am₁ s₁ S₁ e₁ o₁ r₁ => ?_).of fun Q E h => Tuple_ h
  unfold allocN
  split
  · rename_i hlen
    exact DenW.makes C S₁ fun Q h E => newTuple_N S₁.F S₁.N (fun h' F N => h _ _ [(_, _)] h' _ (get_size_none _) F N (.head _) (makes_tup r₁)) (by rw [r₁.length]; exact maxLen_le hlen)
  · trivial
noncomputable def HasExc (e t C : Addr) (msg : Str) (tk : Tok) (news : List (Addr × Obj)) (am : AM) : Prop :=
  (∃ oe vs, (e, oe) ∈ news ∧ oe.cls = .ref C ∧ oe.data = .fields vs ∧ vs[0]? = some (.ref t)) ∧ (∃ ot k, (t, ot) ∈ news ∧ ot.cls = .type "tuple" ∧ ot.data = .seq [Value.str msg tk].toArray k) ∧ ¬ InAm e am ∧ ¬ InAm t am
theorem HasExc.kept {e t C : Addr} {msg : Str} {tk : Tok} : Kept (HasExc e t C msg tk) := by
  rintro news am news' am' hb1 ev
  refine box fun GZ kZ => ?_
  obtain ⟨⟨oe, vs, h1, h2, h3, h4⟩, ⟨ot, k, h5, h6, h7⟩, n1, n2⟩ := hb1
  refine kZ ?_
  clear kZ GZ
  refine ⟨⟨oe, vs, ?_, h2, h3, h4⟩, ⟨ot, k, ?_, h6, h7⟩, inAm_step ev h1 n1, inAm_step ev h5 n2⟩
  · refine box fun GZ kZ => ?_
    obtain ⟨o', hm, hk⟩ := ev.keep _ h1 n1
    refine kZ ?_
    clear kZ GZ
    rw [hk List.not_mem_nil] at hm; exact hm
  · obtain ⟨o', hm, hk⟩ := ev.keep _ h5 n2
    rw [hk List.not_mem_nil] at hm; exact hm
theorem at_str {e t Cc : Addr} {msg : Str} {tk : Tok} {fn : Str} {xp np pos : Pos} {bm : List Value} (C : c.Ok g n) (V : EnvOk c sc false c.fenv) (hm : m fn = some (.ref e)) (hloc : sc.names.lookup fn = some .local) (hd : (fn == ("__debug__" : Str)) = false)
    (hs : findIn g.K (.ref Cc) "__str__" = some (some (.builtin "BaseException.__str__"))) (hcls : ∀ h, g.K.In h → ClsAtC h Cc bm) (hxs : NameIs g n sc false "str" (.type "str"))
    (he : ∀ env, starEach [.Name fn np] env = (false, eval (.Name fn np) env) :: starEach [] env)
    (h3 : ∀ env, eval (.Call (.Name "str" xp) [.Name fn np] [] pos) env = (do callWith pos (← eval (.Name "str" xp) env) [] (backTo pos (starEach [.Name fn np] env)) (backToKw pos (keywordEach [] env)))) :
    At g c m ρ (HasExc e t Cc msg tk) (eVal (.str msg)) (.Call (.Name "str" xp) [.Name fn np] [] pos) := by
  intro s news am σ ⟨⟨oe, vs, h1, h2, h3', h4⟩, ⟨ot, k, h5, h6, h7⟩, _, _⟩ S
  refine DenW.now S fun Q h E => Call_ (hxs c c.fenv s m news am ρ σ xp _ E C V S (PyProof.Rows.callWith_type1 (spliced_more ?_ (he _)) (he _) rfl)) (h3 _)
  have hk : c.fenv.scope.kind = .function := C.kind
  refine wpAny_Name (wpAny_loadName_local hk (by show List.lookup _ c.fenv.scope.names = _; rw [V.scope]; exact hloc) (C.locs ▸ S.F.ns) hm ?_) hd
  refine spliced_nil ?_
  have X := C.inK.keeps S.F.keep
  exact str_own X hs (by have := C.units; lia) (hcls _ X) ⟨oe, vs, S.N.get h1, h2, h3', h4⟩ ⟨ot, k, S.N.get h5, h6, h7⟩ (h _ _ _ S.F S.N ⟨tk, rfl⟩)
end
theorem inAm_B {wc : Addr} {base B : Heap} {news : List (Addr × Obj)} {am : AM} {σ : MH} {a : Addr} (H : HeapRel wc base news am σ) (led : ∀ q ∈ news, B.get? q.1 = some q.2) (bs : base.StaysIn B) (hb : B.get? a = none) : ¬ InAm a am := by
  rintro hb2
  refine box fun GZ kZ => ?_
  obtain ⟨i, q, hq, hr⟩ := hb2
  have hl : i < σ.length := by
    rw [← H.len]
    rcases Nat.lt_or_ge i am.length with h | h
    · exact h
    · rw [List.getElem?_eq_none h] at hq; cases hq
  obtain ⟨b, ob, hb', hk, ho⟩ := H.obj i _ (List.getElem?_eq_getElem hl)
  obtain rfl : b = q := Option.some.inj (hb'.symm.trans hq)
  refine kZ ?_
  clear kZ GZ
  have k1 : B.get? b.1 = some ob := by
    rcases hk with hk | ⟨_, hk⟩
    · exact led _ hk
    · exact bs _ _ hk
  rcases hr with hr | hr
  · rw [hr, hb] at k1; cases k1
  · revert ho
    cases σ[i] with
    | list xs => rintro ⟨vs, k, e, _, e2⟩; rw [e2.symm.trans hr, hb] at k1; cases k1
    | tup xs => rintro ⟨vs, k, e, _, e2⟩; rw [e2.symm.trans hr, hb] at k1; cases k1
    | inst as => rintro ⟨es, k, e, hm, _⟩; have := led _ hm; dsimp only at this; rw [hr, hb] at this; cases this
structure Under (g : Gl) (c : Act) (Lo : Addr) (h00 : Heap) : Prop where
  out : ∃ o₁, c.outer = [o₁] ∧ o₁.frame = some Lo
  dict : ∃ o es ep, c.h₀.get? Lo = some o ∧ o.data = .dict es ep
  stays : h00.StaysIn c.h₀
  none : h00.get? Lo = none
  inK : g.K.In h00
  top : Top g.p g.loose g.mean g.mg g.mb h00
section
variable {g : Gl} {n : Nat} {sc : Scope} {c : Act} {cl : Bool} {msg : Str} {news : List (Addr × Obj)} {am : AM} {σ : MH} {ρ : MEnv} {e t : Addr} {tk : Tok} {G B : Heap} {m : Str → Option Value} {s : Shared} {Lo : Addr} {h00 : Heap} {fl : Value}
theorem FlyAt.land (C : c.Ok g n) (V : EnvOk c sc false c.fenv) (hcells : c.fenv.cells = []) (U : Under g c Lo h00)
    (f : FlyAt g c cl msg news e t tk G B m s.heap) (ht : s.heap.TracedAtW B e (.ref (g.ec cl)) (.ref t) fl) (H : HeapRel g.wc c.base news am σ) (hV : EnvRel c.fenv c.L m news am ρ) :
    ∃ g' c₂ news₂, KtsTurn [Lo] c.h₀ g' ∧ c₂ = (⟨c.A.mark (some (.ref e)), c.base, c.outer, c.fenv, g', c.L⟩ : Act) ∧ c₂.Ok g.hear n ∧ EnvOk c₂ sc false c.fenv ∧ Sim g.hear c₂ c.fenv m news₂ am ρ σ s ∧ Evolve [] news am news₂ am ∧
      HasExc e t (g.ec cl) msg tk news₂ am := by
  refine box fun GZ kZ => ?_
  obtain ⟨⟨o₁, hout, ho₁⟩, ⟨od, es, ep, hd, hdd⟩, k0, n0, X0, T0⟩ := U
  have hmL : c.L ∈ (c.fenv :: c.outer).filterMap (·.frame) := List.mem_filterMap.mpr ⟨c.fenv, .head _, C.frame⟩
  have hmLo : Lo ∈ (c.fenv :: c.outer).filterMap (·.frame) := List.mem_filterMap.mpr ⟨o₁, by rw [hout]; exact .tail _ (.head _), ho₁⟩
  have hmem : ∀ b, b ∈ (c.fenv :: c.outer).filterMap (·.frame) → b = c.L ∨ b = Lo := fun b hb => by
    refine box fun GZ kZ => ?_
    obtain ⟨env, he, hf⟩ := List.mem_filterMap.mp hb
    refine kZ ?_
    clear kZ GZ
    rw [hout] at he
    rcases List.mem_cons.mp he with rfl | he
    · exact .inl (Option.some.inj (hf.symm.trans C.frame))
    · rw [List.mem_singleton.mp he] at hf
      exact .inr (Option.some.inj (hf.symm.trans ho₁))
  have hself := kts_self f.fr
  obtain ⟨T, Sx⟩ := kts_turn_at (h := s.heap) (fs := [Lo]) (g := c.h₀)
    (fun b hb => by rw [List.mem_singleton.mp hb]; exact ⟨_, hd⟩)
    (fun b o q nm => f.stays b o (f.below b o (f.fr.keep b o q) fun hm => by
      rcases hmem b hm with rfl | rfl
      · rw [hself] at q; cases q
      · exact nm (.head _)))
    (fun b o q hm => by
      obtain rfl := List.mem_singleton.mp hm
      rw [hd] at q
      cases q
      exact f.upTo _ _ (f.fr.keep _ _ hd) (fun vs q => by rw [hdd] at q; cases q))
  obtain ⟨A₀, BB⟩ := C.below
  have nbase : c.base.get? Lo = none := (BB.frames.mem (List.mem_filterMap.mpr ⟨o₁, by rw [hout]; exact .head _, ho₁⟩)).1
  have k00 : ∀ b o, h00.get? b = some o → (ktsHeap s.heap [Lo] c.h₀).get? b = some o := fun b o q => T.other b o (k0 b o q) fun hm => by
    rw [List.mem_singleton.mp hm, n0] at q; cases q
  have F' : Fr (ktsHeap s.heap [Lo] c.h₀) c.L s.heap m := ⟨f.upTo.ns f.fr.ns, Sx, by rw [T.size]; exact f.fr.above⟩
  have fresh : ∀ (a : Addr) (oa : Obj), B.get? a = none → s.heap.get? a = some oa → (∀ es n, oa.data ≠ .dict es n) → a ≠ c.L ∧ (ktsHeap s.heap [Lo] c.h₀).get? a = none := fun a oa hB ha hda => by
    have h1 : a ≠ c.L := fun q => by
      refine box fun GZ kZ => ?_
      obtain ⟨oL, a1, a2, hL, hLd, _⟩ := F'.ns
      refine kZ ?_
      clear kZ GZ
      rw [q, hL] at ha
      cases ha
      exact hda _ _ hLd
    refine ⟨h1, T.none_ _ ?_⟩
    cases q : c.h₀.get? a with
    | none => rfl
    | some o =>
      by_cases hm : a ∈ (c.fenv :: c.outer).filterMap (·.frame)
      · rcases hmem a hm with rfl | rfl
        · exact absurd rfl h1
        · rw [hd] at q
          cases q
          obtain ⟨sl, hs⟩ := f.upTo _ _ (f.fr.keep _ _ hd) (fun vs q => by rw [hdd] at q; cases q)
          rw [ha] at hs
          cases hs
          exact absurd hdd (hda _ _)
      · have := f.below a o (f.fr.keep _ _ q) hm
        rw [hB] at this; cases this
  obtain ⟨oe, vs, Tb, oT, ts, he, ⟨hec, he0⟩, hed, _⟩ := ht
  obtain ⟨ot, k, hot, hotc, hotd⟩ := f.tup
  refine kZ ?_
  clear kZ GZ
  have fe := fresh e oe f.eNew he (fun es n q => by rw [hed] at q; cases q)
  have ft := fresh t ot f.tNew hot (fun es n q => by rw [hotd] at q; cases q)
  have hs : ∀ p ∈ news, p ∈ (e, oe) :: (t, ot) :: news := fun p hp => .tail _ (.tail _ hp)
  have BB' : Below A₀ c.base c.outer (ktsHeap s.heap [Lo] c.h₀) := by
    refine ⟨BB.stack, fun b o q => T.other b o (BB.stays b o q) fun hm => ?_, BB.frames.of_keeps fun b o q _ => ?_⟩
    · rw [List.mem_singleton.mp hm, nbase] at q; cases q
    · obtain ⟨sl, hs⟩ := T.up q
      exact ⟨_, hs, rfl⟩
  refine ⟨_, _, (e, oe) :: (t, ot) :: news, T, rfl, ⟨⟨A₀, BB'⟩, C.frames, C.frame, C.kind, C.locs, C.glob, C.blt, X0.keeps k00, T0.keeps k00, (fun h => by cases h), C.flatOk, C.depth, C.units, C.cel, C.celApart⟩, ⟨V.scope, V.kind, V.glob, V.blt, fun _ => rfl, .inl C.locs⟩, ⟨F', ?_, ?_, ?_, fun x cc hx => ?_, .inl C.locs⟩, ?_, ⟨oe, vs, .head _, hec, hed, he0⟩, ⟨ot, k, .tail _ (.head _), hotc, hotd⟩, ?_, ?_⟩
  · intro p hp
    rcases List.mem_cons.mp hp with rfl | hp
    · exact ⟨he, fe⟩
    rcases List.mem_cons.mp hp with rfl | hp
    · exact ⟨hot, ft⟩
    · exact ⟨f.stays _ _ (f.led p hp).1, (f.led p hp).2.1, T.none_ _ (f.led p hp).2.2⟩
  · refine ⟨H.len, H.ok, fun i o hi => ?_⟩
    refine box fun GZ kZ => ?_
    obtain ⟨a, ob, ha, kn, q⟩ := H.obj i o hi
    refine kZ ?_
    clear kZ GZ
    have := q.grow (ext := []) hs
    rw [List.append_nil] at this
    exact ⟨a, ob, ha, kn.elim (fun h => .inl (hs _ h)) .inr, this⟩
  · intro x mv hx
    refine box fun GZ kZ => ?_
    obtain ⟨v, hv, hn⟩ := hV x mv hx
    refine kZ ?_
    clear kZ GZ
    exact ⟨v, hv, hn.more hs⟩
  · have hx' : c.fenv.cells.lookup x = some cc := hx
    rw [hcells] at hx'; cases hx'
  · exact ⟨⟨[], (List.append_nil _).symm⟩, fun p hp _ => ⟨p.2, hs p hp, fun _ => rfl⟩, fun i q hi e => by rw [List.getElem?_eq_none hi] at e; cases e⟩
  · exact inAm_B H (fun q hq => (f.led q hq).1) f.bStays f.eNew
  · exact inAm_B H (fun q hq => (f.led q hq).1) f.bStays f.tNew
end
noncomputable def dropN (ρ : MEnv) (x : String) : MEnv := fun y => if y = x then none else ρ y
section
variable {g : Gl} {n : Nat} {sc : Scope} {c : Act} {cl : Bool} {msg : Str} {news : List (Addr × Obj)} {am : AM} {σ σ' : MH} {ρ : MEnv} {e t : Addr} {tk : Tok} {G B : Heap} {m : Str → Option Value} {s : Shared} {Lo : Addr} {h00 : Heap} {fl : Value}
  {x : Str} {np rp hp : Pos} {bm bmD : List Value} {D : Addr} {rest : List ExceptHandler} {Q : Flow → Shared → Prop} {E : Value → Shared → Prop}
theorem HasExc.at {h₀ h : Heap} {L C : Addr} (X : HasExc e t C msg tk news am) (N : News h₀ L h news) : ExcAtC h e C t := by
  refine box fun G0 k0 => ?_
  obtain ⟨⟨oe, vs, h1, h2, h3, h4⟩, _⟩ := X
  refine k0 ?_
  clear k0 G0
  exact ⟨oe, vs, N.get h1, h2, h3, h4⟩
theorem try_miss (C : c.Ok g n) (V : EnvOk c sc false c.fenv) (hcells : c.fenv.cells = []) (U : Under g c Lo h00)
    (f : FlyAt g c cl msg news e t tk G B m s.heap) (ht : s.heap.TracedAtW B e (.ref (g.ec cl)) (.ref t) fl) (H : HeapRel g.wc c.base news am σ) (hV : EnvRel c.fenv c.L m news am ρ)
    {nm : Option Str} {body : List Stmt} (hx : NameIs g.hear n sc false x (.ref D)) (hcls : ∀ h, g.K.In h → ClsAtC h (g.ec cl) bm) (hclsD : ∀ h, g.K.In h → ClsAtC h D bmD) (hno : (Value.ref (g.ec cl) :: bm).contains (.ref D) = false)
    (k : wpAny (model g.prog g.w) c.A (handleBy (.ref e) c.fenv rest) Q E s) : wpAny (model g.prog g.w) c.A (handleBy (.ref e) c.fenv (.ExceptHandler (some (.Name x np)) nm body hp :: rest)) Q E s := by
  refine box fun G0 k0 => ?_
  obtain ⟨g₂, c₂, news₂, T₂, hc₂, C₂, V₂, S₂, ev₂, X₂⟩ := f.land C V hcells U ht H hV
  refine k0 ?_
  clear k0 G0
  subst hc₂
  refine wpAny_handleBy_cons (codeAny_handlers_test ?_) (by intro q; cases q)
  have X := C₂.inK.keeps S₂.F.keep
  exact hx _ c.fenv s m news₂ am ρ σ np _ _ C₂ V₂ S₂ (excMatches_miss (hcls _ X) (hclsD _ X) (X₂.at S₂.N) hno k)
theorem try_hit (C : c.Ok g n) (V : EnvOk c sc false c.fenv) (hcells : c.fenv.cells = []) (U : Under g c Lo h00)
    (f : FlyAt g c cl msg news e t tk G B m s.heap) (ht : s.heap.TracedAtW B e (.ref (g.ec cl)) (.ref t) fl) (H : HeapRel g.wc c.base news am σ) (hV : EnvRel c.fenv c.L m news am ρ)
    {fn : String} (hfn : sc.names.lookup (Str.ofString fn) = some .local) (hx : NameIs g.hear n sc false x (.ref (g.ec cl))) (hcls : ∀ h, g.K.In h → ClsAtC h (g.ec cl) bm) {d : ED} {eh : Expr}
    (hh : ∀ c₂ m₂ ρ₂, c₂.Ok g.hear n → EnvOk c₂ sc false c₂.fenv → m₂ (Str.ofString fn) = some (.ref e) → At g.hear c₂ m₂ ρ₂ (HasExc e t (g.ec cl) msg tk) d eh) {v : MV} (hres : d (dropN ρ fn) σ = .ok v σ')
    (hQ : ∀ u g' m' news' am' s', KtsTurn [Lo] c.h₀ g' → Fr g' c.L s'.heap m' → News g' c.L s'.heap news' → HeapRel g.wc c.base news' am' σ' → Evolve [] news am news' am' → Only s s' → RelV am' v u → Q (.ret u) s') :
    wpAny (model g.prog g.w) c.A (handleBy (.ref e) c.fenv (.ExceptHandler (some (.Name x np)) (some (Str.ofString fn)) [.Return (some eh) rp] hp :: rest)) Q E s := by
  have hl : c.fenv.kindOf (Str.ofString fn) = some .local := by show List.lookup _ c.fenv.scope.names = _; rw [V.scope]; exact hfn
  have hk : c.fenv.scope.kind = .function := C.kind
  refine box fun G0 k0 => ?_
  obtain ⟨g₂, c₂, news₂, T₂, hc₂, C₂, V₂, S₂, ev₂, X₂⟩ := f.land C V hcells U ht H hV
  refine k0 ?_
  clear k0 G0
  subst hc₂
  refine wpAny_handleBy_cons (codeAny_handlers_test ?_) (by intro q; cases q)
  have X := C₂.inK.keeps S₂.F.keep
  refine hx _ c.fenv s m news₂ am ρ σ np _ _ C₂ V₂ S₂ (excMatches_self (hcls _ X) (X₂.at S₂.N) (codeAny_handlers_suite_as ?_))
  refine wpAny_setFlight_noneW f.stays f.frames ht fun h₄ k1 k2 k3 k4 => ?_
  have f₄ := f.step k1 k2 k3.at (fun b o hb hn => ⟨o.slots, k4 b o hb hn⟩) (.inl rfl)
  refine box fun G0 k0 => ?_
  obtain ⟨g₄, c₄, news₄, T₄, hc₄, C₄, V₄, S₄, ev₄, X₄⟩ := FlyAt.land (s := { s with heap := h₄ }) C V hcells U f₄ k3.at H hV
  refine k0 ?_
  clear k0 G0
  subst hc₄
  refine wpAny_storeName_local hl (C.locs ▸ S₄.F.ns) (fun h₅ hn hs => ?_) (by rw [hk]; rfl)
  rw [C.locs] at hn hs
  have S₅ : Sim g.hear ⟨c.A.mark (some (.ref e)), c.base, c.outer, c.fenv, g₄, c.L⟩ c.fenv (fun y => if y = Str.ofString fn then some (.ref e) else m y) news₄ am (dropN ρ fn) σ { s with heap := h₅, toks := s.toks + 1 } := by
    refine ⟨S₄.F.set hn hs, S₄.N.set hs, S₄.H, fun y mv hy => ?_, S₄.Ce, .inl C.locs⟩
    unfold dropN at hy
    by_cases q : y = fn
    · rw [if_pos q] at hy; cases hy
    · rw [if_neg q] at hy
      refine box fun G0 k0 => ?_
      obtain ⟨u, hu, hn'⟩ := S₄.V y mv hy
      refine k0 ?_
      clear k0 G0
      refine ⟨u, hu, ?_⟩
      rcases hn' with ⟨k, ⟨h1, h2⟩ | h1⟩ | h1
      · exact .inl ⟨k, .inl ⟨h1, by show (if Str.ofString y = Str.ofString fn then some _ else m (Str.ofString y)) = some u; rw [if_neg (fun z => q (ofString_inj z))]; exact h2⟩⟩
      · exact .inl ⟨k, .inr h1⟩
      · exact .inr h1
  refine wpAny_execs_cons (wpAny_Return_some ?_)
  have HD := hh _ _ (dropN ρ fn) C₄ V₄ (by simp) _ news₄ am σ X₄ S₅
  rw [hres] at HD
  refine wpAny_mono (HD _) (fun u s₆ hb1 => ?_) fun _ _ x => x
  refine box fun G0 k0 => ?_
  obtain ⟨news₆, am₆, S₆, e₆, o₆, r₆⟩ := hb1
  refine k0 ?_
  clear k0 G0
  refine wpAny_nameGoes hl (C.locs ▸ S₆.F.ns) (by rw [hk]; rfl) fun h₇ m₇ hn₇ hs₇ => ?_
  rw [C.locs] at hn₇ hs₇
  exact hQ u g₄ m₇ news₆ am₆ _ T₄ (S₆.F.set hn₇ hs₇) (S₆.N.set hs₇) S₆.H (ev₄.trans e₆ S₆.amOk) (((Only.mk' s h₄ s.toks).trans (Only.mk' _ h₅ _)).trans (o₆.trans (Only.mk' _ h₇ _))) r₆
end
section
variable {g : Gl} {n : Nat} {sc : Scope} {c : Act} {Lo : Addr} {h00 : Heap} {a h0 h1 : ED} {ea : Expr} {fn : String} {x : Bool → Str} {eh : Bool → Expr} {np rp hp : Bool → Pos} {rp0 tp : Pos} {bm : Bool → List Value} {dh : Bool → Str → ED}
theorem sTry_inv {a h0 h1 : ED} {fn : String} {ρ ρ' : MEnv} {σ σ' : MH} {v : MV} (hr : sTry a fn h0 h1 ρ σ = .ok (.ret v, ρ') σ') :
    a ρ σ = .ok v σ' ∨ ∃ cl msg σ₁, a ρ σ = .exc cl msg σ₁ ∧ (if cl then h1 else h0) (upd ρ fn (.str msg)) σ₁ = .ok v σ' := by
  revert hr
  unfold sTry
  generalize a ρ σ = o
  induction o with
  | stuck => intro h; cases h
  | ok w σ₁ => intro h; cases h; exact .inl rfl
  | exc cl msg σ₁ =>
    dsimp only
    intro h
    refine .inr ⟨cl, msg, σ₁, rfl, ?_⟩
    revert h
    generalize (if cl then h1 else h0) (upd ρ fn (.str msg)) σ₁ = o
    induction o with
    | stuck => intro h; cases h
    | ok w σ₂ => intro h; cases h; rfl
    | exc => intro h; cases h
theorem try_told (C : c.Ok g n) (V : EnvOk c sc false c.fenv) (hcells : c.fenv.cells = []) (U : Under g c Lo h00) (ha : OkE g n sc false a ea) (hfn : sc.names.lookup (Str.ofString fn) = some .local)
    (hx : ∀ cl, NameIs g.hear n sc false (x cl) (.ref (g.ec cl))) (hcls : ∀ cl h, g.K.In h → ClsAtC h (g.ec cl) (bm cl)) (hno : (Value.ref (g.ec true) :: bm true).contains (.ref (g.ec false)) = false)
    (hh : ∀ cl msg e t tk c₂ m₂ ρ₂, c₂.Ok g.hear n → EnvOk c₂ sc false c₂.fenv → m₂ (Str.ofString fn) = some (.ref e) → At g.hear c₂ m₂ ρ₂ (HasExc e t (g.ec cl) msg tk) (dh cl msg) (eh cl))
    (hsame : ∀ cl msg ρ σ, (if cl then h1 else h0) (upd ρ fn (.str msg)) σ = dh cl msg (dropN ρ fn) σ)
    (hnc : ∀ y, sc.names.lookup y ≠ some .cell)
    {s : Shared} {m : Str → Option Value} {news : List (Addr × Obj)} {am : AM} {ρ : MEnv} {σ : MH} (S : Sim g c c.fenv m news am ρ σ s) {v : MV} {ρ' : MEnv} {σ' : MH} (hr : sTry a fn h0 h1 ρ σ = .ok (.ret v, ρ') σ') (Q : Flow → Shared → Prop) (E : Value → Shared → Prop)
    (hQ : ∀ u g' m' news' am' s', KtsTurn [Lo] c.h₀ g' → Fr g' c.L s'.heap m' → News g' c.L s'.heap news' → HeapRel g.wc c.base news' am' σ' → Evolve [] news am news' am' → Only s s' → RelV am' v u → Q (.ret u) s') :
    wpAny (model g.prog g.w) c.A (exec (.Try [.Return (some ea) rp0] [.ExceptHandler (some (.Name (x false) (np false))) (some (Str.ofString fn)) [.Return (some (eh false)) (rp false)] (hp false), .ExceptHandler (some (.Name (x true) (np true))) (some (Str.ofString fn)) [.Return (some (eh true)) (rp true)] (hp true)] [] [] tp) c.fenv) Q E s := by
  have HA := ha c c.fenv s m news am ρ σ C V S
  rcases sTry_inv hr with hav | ⟨cl, msg, σ₁, hav, hres⟩
  · rw [hav] at HA
    refine wpAny_Try_except (wpAny_execs_cons (wpAny_Return_some (wpAny_mono (HA _) (fun u s₁ hb2 => ?_) fun _ _ x => x)))
    clear HA hav hr
    refine box fun G0 k0 => ?_
    obtain ⟨news₁, am₁, S₁, e₁, o₁, r₁⟩ := hb2
    refine k0 ?_
    clear k0 G0
    exact hQ u c.h₀ m news₁ am₁ s₁ .refl S₁.F S₁.N S₁.H e₁ o₁ r₁
  · rw [hav] at HA
    rw [hsame] at hres
    clear hav hr
    refine wpAny_Try_except (wpAny_execs_cons (wpAny_Return_some (HA _ _ fun y s' hfl => ?_)))
    refine box fun G0 k0 => ?_
    obtain ⟨news₁, am₁, H₁, ev₁, o₁, e, t, tk, G, B, m₁, rfl, hm₁, f⟩ := hfl
    refine k0 ?_
    clear k0 G0
    subst hm₁
    have hV : EnvRel c.fenv c.L m₁ news₁ am₁ ρ := fun y mv hy => by
      refine box fun G0 k0 => ?_
      obtain ⟨u, hu, hn'⟩ := S.V y mv hy
      refine k0 ?_
      clear k0 G0
      refine ⟨u, ev₁.relV hu, ?_⟩
      rcases hn' with ⟨k, h1 | ⟨o, es, ep, hm, _⟩⟩ | ⟨k, _⟩
      · exact .inl ⟨k, .inl h1⟩
      · exact absurd C.locs (S.N _ hm).2.1
      · have k' : List.lookup _ c.fenv.scope.names = some .cell := k
        rw [V.scope] at k'
        exact absurd k' (hnc _)
    refine f.note C fun h₂ f₂ t₂ => ?_
    refine wpAny_setFlight_noneW (s := { s' with heap := h₂ }) f₂.stays f₂.frames t₂ fun h₃ k1 k2 k3 k4 => ?_
    have f₃ := f₂.step k1 k2 k3.at (fun b o hb hn => ⟨o.slots, k4 b o hb hn⟩) (.inl rfl)
    have oo : Only s { s' with heap := h₃ } := o₁.trans ⟨h₃, s'.toks, rfl⟩
    have fin : ∀ u g' m' news' am' s'', KtsTurn [Lo] c.h₀ g' → Fr g' c.L s''.heap m' → News g' c.L s''.heap news' → HeapRel g.wc c.base news' am' σ' → Evolve [] news₁ am₁ news' am' → Only { s' with heap := h₃ } s'' → RelV am' v u → Q (.ret u) s'' :=
      fun u g' m' news' am' s'' p1 p2 p3 p4 p5 p6 p7 => hQ u g' m' news' am' s'' p1 p2 p3 p4 (ev₁.trans p5 p4.ok) (oo.trans p6) p7
    induction cl with
    | false => exact try_hit (s := { s' with heap := h₃ }) C V hcells U f₃ k3.at H₁ hV hfn (hx false) (hcls false) (hh false msg e t tk) hres fin
    | true =>
      refine try_miss (s := { s' with heap := h₃ }) C V hcells U f₃ k3.at H₁ hV (hx false) (hcls true) (hcls false) hno ?_
      exact try_hit (s := { s' with heap := h₃ }) C V hcells U f₃ k3.at H₁ hV hfn (hx true) (hcls true) (hh true msg e t tk) hres fin
end
section
variable {gl : Gl} {n : Nat} {c : Act} {env : Env} {s : Shared} {m : Str → Option Value} {news : List (Addr × Obj)} {am : AM} {ρ : MEnv} {σ : MH} {R : Result → Shared → Prop}
  {fa : Addr} {name qual : Str} {params : Arguments} {body : List Stmt} {scope : Scope} {dV kV doc pm cdv ct oc : Value} {an od : Option Addr} {osl : Array (Option Value)} {binds : List (Str × Value)} {us : List Value}
theorem callX_turn (C : c.Ok gl n) (S : Sim gl c env m news am ρ σ s) (hK : gl.K.lookup fa = some ⟨oc, od, .func (fnX name qual params body scope [] dV kV doc pm an cdv ct), osl⟩) (hcd : codeIn gl.K cdv qual = true)
    (hroom : c.A.depth < recursionLimit) (hbind : BindsTo s (fnX name qual params body scope [] dV kV doc pm an cdv ct) ⟨us, []⟩ binds) (hloc : ∀ y ∈ binds, scope.names.lookup y.1 = some .local)
    (h : ∀ g L' h₁, Fr c.h₀ c.L g m → Fr g L' h₁ (fun y => binds.reverse.lookup y) → News g L' h₁ news → Below c.A c.base (c.fenv :: c.outer) g → c.h₀.StaysIn g → (∃ o es ep, g.get? c.L = some o ∧ o.data = .dict es ep) →
      wpAny (model gl.prog gl.w) (c.A.deeper (envX qual scope L' fa cdv [])) (execs body (envX qual scope L' fa cdv []))
        (fun fl s' => ∃ g' m' news', KtsTurn [c.L] g g' ∧ Fr g' L' s'.heap m' ∧ News g' L' s'.heap news' ∧ (Fr c.h₀ c.L s'.heap m → News c.h₀ c.L s'.heap news' → R (.ok (.ret (match fl with | .ret v => v | _ => .none))) s'))
        (fun e s' => wpAny (model gl.prog gl.w) (c.A.deeper (envX qual scope L' fa cdv [])) (leaving (envX qual scope L' fa cdv []) e) (fun _ s'' => R (.error e) s'') (fun e' s'' => R (.error e') s'') s')
        { s with heap := h₁, toks := s.toks + binds.length })
    (hcell : ∀ x ∈ scope.names, x.2 ≠ .cell) (hco : scope.isCoroutine = false := by rfl) (hgen : scope.isGenerator = false := by rfl) (hk : scope.kind = .function := by rfl) : codeAny (model gl.prog gl.w) c.A (.call (.ref fa) ⟨us, []⟩) R s := by
  refine box fun G0 k0 => ?_
  obtain ⟨A₀, BB⟩ := C.below
  have X := C.inK.keeps S.F.keep
  obtain ⟨FG, BG, st, lv⟩ := groundX (R := R) BB S.F S.N C.frames C.frame C.kind
  obtain ⟨oL, es, ep, hL, hLd, hLk, hLf⟩ := S.F.ns
  refine k0 ?_
  clear k0 G0
  have nL : c.L ∉ news.map (·.1) := fun q => by
    refine box fun G0 k0 => ?_
    obtain ⟨p, hp, e⟩ := List.mem_map.mp q
    refine k0 ?_
    clear k0 G0
    exact (S.N p hp).2.1 e
  have hLg := hideAll_get (news.map (·.1)) hL nL
  refine codeAny_call_def (fd := fnX name qual params body scope [] dV kV doc pm an cdv ct) (body := body) (binds := binds) hroom (X _ _ hK) rfl (C.top.nolimit.keeps S.F.keep) (codeRec_of X hcd) rfl hbind hcell hloc (fun h₁ hns hk₁ => ?_) hco hgen hk
  refine wpAny_mono (h _ s.heap.objs.size h₁ FG ⟨hns, fun b o e => hk₁ b o (of_hideAll _ e), Nat.le_of_eq (hideAll_size _ _)⟩
    (fun p hp => ⟨hk₁ _ _ (S.N p hp).1, Nat.ne_of_lt (Heap.lt_size (S.N p hp).1), hideAll_none _ (List.mem_map_of_mem hp)⟩) BG st ⟨oL, es, ep, hLg, hLd⟩) (fun fl s' hl => ?_) fun _ _ y => y
  refine box fun G0 k0 => ?_
  obtain ⟨g', m', news', T', F', N', k⟩ := hl
  have nL₀ : c.h₀.get? c.L = none := kts_self S.F
  obtain ⟨sl, hs⟩ := T'.up hLg
  refine k0 ?_
  clear k0 G0
  refine k ⟨⟨_, es, ep, F'.keep _ _ hs, hLd, hLk, hLf⟩, fun b o e => F'.keep b o (T'.other b o (st b o e) fun q => ?_), S.F.above⟩ fun p hp => ⟨(N' p hp).1, fun q => ?_, ?_⟩
  · rw [List.mem_singleton.mp q, nL₀] at e; cases e
  · have := (N' p hp).2.2; rw [q, hs] at this; cases this
  · cases q : c.h₀.get? p.1 with
    | none => rfl
    | some o =>
      obtain ⟨sl', hs'⟩ := T'.up (st _ _ q)
      have := (N' p hp).2.2
      rw [hs'] at this; cases this
theorem callee_plain {ps : List String} {xs : List MV} {g : Heap} {L' : Addr} {h₁ : Heap} {tk : Nat} (C : c.Ok gl (n + 1)) (S : Sim gl c env m news am ρ σ s) (r : RelL am xs us) (hl : xs.length = ps.length)
    (hloc : ∀ x ∈ ps, scope.names.lookup (Str.ofString x) = some .local) (hnc : ∀ x, scope.names.lookup x ≠ some .cell) (hk : scope.kind = .function)
    (FL : Fr g L' h₁ (fun y => ((ps.map Str.ofString).zip us).reverse.lookup y)) (NL : News g L' h₁ news) (BG : Below c.A c.base (c.fenv :: c.outer) g) (st : c.h₀.StaysIn g) :
    (c.callee (envX qual scope L' fa cdv []) g L').Ok gl.sub n ∧ EnvOk (c.callee (envX qual scope L' fa cdv []) g L') scope false (envX qual scope L' fa cdv []) ∧
      Sim gl.sub (c.callee (envX qual scope L' fa cdv []) g L') (envX qual scope L' fa cdv []) (fun y => ((ps.map Str.ofString).zip us).reverse.lookup y) news am (updAll (fun _ => none) ps xs) σ { s with heap := h₁, toks := tk } := by
  refine ⟨⟨⟨_, BG⟩, Around.frames_deeper C.frames, rfl, hk, rfl, rfl, rfl, C.inK.keeps st, C.top.keeps st, C.quiet, (fun h => by cases h), ?_, ?_, ?_, ?_⟩, ⟨rfl, hk, rfl, rfl, fun _ => rfl, .inl rfl⟩, ⟨FL, NL, S.H, ?_, ?_, .inl rfl⟩⟩
  · have := C.depth
    show c.A.depth + 1 + 4 * n + 4 < _
    lia
  · have := C.units
    show c.A.units + 3 + 12 * n + 80 < _
    lia
  · intro x hx; exact absurd hx (hnc x)
  · intro x y cx cy hx; cases hx
  · intro y mv hy
    refine box fun G0 k0 => ?_
    obtain ⟨v, hv, hm⟩ := binds_rel ps xs us (fun _ => none) (fun _ => none) r hl (fun _ _ h => by cases h) y mv hy
    refine k0 ?_
    clear k0 G0
    rw [Option.or_none] at hm
    refine ⟨v, hv, .inl ⟨?_, .inl ⟨rfl, hm⟩⟩⟩
    rcases updAll_mem ps xs _ hy with h | h
    · exact hloc y h
    · cases h
  · intro x cc hx; cases hx
end
section
variable {gl : Gl} {n : Nat} {fa : Addr} {name qual : Str} {params : Arguments} {st0 : Stmt} {scope : Scope} {dV kV doc pm cdv ct oc : Value} {an od : Option Addr} {osl : Array (Option Value)} {ps : List String} {d0 : SD}
  {a h0 h1 : ED} {ea : Expr} {fn : String} {x : Bool → Str} {eh : Bool → Expr} {np rp hp : Bool → Pos} {rp0 tp : Pos} {bm : Bool → List Value} {dh : Bool → Str → ED}
theorem does_told (hK : gl.K.lookup fa = some ⟨oc, od, .func (fnX name qual params [st0, .Try [.Return (some ea) rp0] [.ExceptHandler (some (.Name (x false) (np false))) (some (Str.ofString fn)) [.Return (some (eh false)) (rp false)] (hp false), .ExceptHandler (some (.Name (x true) (np true))) (some (Str.ofString fn)) [.Return (some (eh true)) (rp true)] (hp true)] [] [] tp] scope [] dV kV doc pm an cdv ct), osl⟩)
    (hcd : codeIn gl.K cdv qual = true) (hflat : gl.flat = true) (hd0 : ∀ ρ σ, ∃ ρ₁ σ₁, d0 ρ σ = .ok (.next, ρ₁) σ₁) (hs0 : OkS gl.sub n scope d0 st0) (ha : OkE gl.sub n scope false a ea)
    (hbind : ∀ s us, us.length = ps.length → BindsTo s (fnX name qual params [st0, .Try [.Return (some ea) rp0] [.ExceptHandler (some (.Name (x false) (np false))) (some (Str.ofString fn)) [.Return (some (eh false)) (rp false)] (hp false), .ExceptHandler (some (.Name (x true) (np true))) (some (Str.ofString fn)) [.Return (some (eh true)) (rp true)] (hp true)] [] [] tp] scope [] dV kV doc pm an cdv ct) ⟨us, []⟩ ((ps.map Str.ofString).zip us))
    (hloc : ∀ x ∈ ps, scope.names.lookup (Str.ofString x) = some .local) (hcell : ∀ x ∈ scope.names, x.2 ≠ .cell) (hfn : scope.names.lookup (Str.ofString fn) = some .local)
    (hx : ∀ cl, NameIs gl.sub.hear n scope false (x cl) (.ref (gl.ec cl))) (hcls : ∀ cl h, gl.K.In h → ClsAtC h (gl.ec cl) (bm cl)) (hno : (Value.ref (gl.ec true) :: bm true).contains (.ref (gl.ec false)) = false)
    (hh : ∀ cl msg e t tk c₂ m₂ ρ₂, c₂.Ok gl.sub.hear n → EnvOk c₂ scope false c₂.fenv → m₂ (Str.ofString fn) = some (.ref e) → At gl.sub.hear c₂ m₂ ρ₂ (HasExc e t (gl.ec cl) msg tk) (dh cl msg) (eh cl))
    (hsame : ∀ cl msg ρ σ, (if cl then h1 else h0) (upd ρ fn (.str msg)) σ = dh cl msg (dropN ρ fn) σ)
    (hco : scope.isCoroutine = false) (hgen : scope.isGenerator = false) (hk : scope.kind = .function) : DoesC gl (n + 1) fa (defCall ps (sSeq d0 (sTry a fn h0 h1))) := by
  intro c env s m news am ρ σ xs us C S r
  have hnc : ∀ x, scope.names.lookup x ≠ some .cell := fun x h => hcell _ (lookupK_mem h) rfl
  have hout := C.flatOk hflat
  unfold defCall
  by_cases hl : xs.length = ps.length
  · rw [if_pos hl]
    have hul : us.length = ps.length := r.length.trans hl
    refine box fun G0 k0 => ?_
    obtain ⟨ρ₁, σ₁, e0⟩ := hd0 (updAll (fun _ => none) ps xs) σ
    refine k0 ?_
    clear k0 G0
    have eB : sSeq d0 (sTry a fn h0 h1) (updAll (fun _ => none) ps xs) σ = sTry a fn h0 h1 ρ₁ σ₁ := by unfold sSeq; rw [e0]; rfl
    rw [eB]
    have fin : ∀ v ρ' σ', sTry a fn h0 h1 ρ₁ σ₁ = .ok (.ret v, ρ') σ' → DenW gl c env m ρ RelV news am s (fun Q E s => codeAny (model gl.prog gl.w) c.A (.call (.ref fa) ⟨us, []⟩) (callPost Q E) s) (.ok v σ') := fun v ρ' σ' hr E => by
      refine callX_turn C S hK hcd (by have := C.depth; lia) (hbind s us hul) (fun y hy => ?_) (fun g L' h₁ FG FL NL BG st hdict => ?_) hcell hco hgen hk
      · refine box fun G0 k0 => ?_
        obtain ⟨a, b⟩ := y
        have := (List.of_mem_zip hy).1
        obtain ⟨x, hx, rfl⟩ := List.mem_map.mp this
        refine k0 ?_
        clear k0 G0
        exact hloc x hx
      · refine box fun G0 k0 => ?_
        obtain ⟨C', V', S'⟩ := callee_plain (fa := fa) (qual := qual) (cdv := cdv) (tk := s.toks + ((ps.map Str.ofString).zip us).length) C S r hl hloc hnc hk FL NL BG st
        refine k0 ?_
        clear k0 G0
        have H0 := hs0 _ _ _ _ _ _ _ C' V' S'
        rw [e0] at H0
        refine wpAny_execs_cons (wpAny_mono (H0 _) (fun u s₁ hb1 => ?_) fun _ _ x => x)
        refine box fun G0 k0 => ?_
        obtain ⟨m₁, news₁, am₁, S₁, e₁, o₁, r₁⟩ := hb1
        refine k0 ?_
        clear k0 G0
        induction u with
        | next =>
          have U : Under gl.sub (c.callee (envX qual scope L' fa cdv []) g L') c.L c.h₀ := ⟨⟨c.fenv, by show c.fenv :: c.outer = [c.fenv]; rw [hout], C.frame⟩, hdict, st, kts_self S.F, C.inK, C.top⟩
          refine wpAny_execs_cons (try_told C' V' rfl U ha hfn hx hcls hno hh hsame hnc S₁ hr _ _ fun u g' m' news' am' s' T' F' N' H' e' o' r' => ?_)
          exact ⟨g', m', news', T', F', N', fun F'' N'' => ⟨news', am', S.after C F'' N'' H' (Evolve.trans (X := []) e₁ e' H'.ok), Evolve.trans (X := []) e₁ e' H'.ok, ((Only.mk' s h₁ _).trans o₁).trans o', r'⟩⟩
        | _ => exact r₁.elim
    cases hr : sTry a fn h0 h1 ρ₁ σ₁ with
    | stuck => trivial
    | exc cl msg σ' =>
      unfold sTry at hr
      split at hr
      · cases hr
      · split at hr <;> cases hr
      · cases hr
    | ok fr σ' =>
      obtain ⟨f, ρ'⟩ := fr
      simp only [R.bind_ok]
      induction f with
      | ret v => exact fin v ρ' σ' hr
      | next =>
        unfold sTry at hr
        split at hr
        · cases hr
        · split at hr <;> cases hr
        · cases hr
      | brk => trivial
  · rw [if_neg hl]; trivial
end
noncomputable def mroTail (K : Frag) (C : Addr) : List Value := match K.lookup C with
  | some ⟨_, _, .cls cd, _⟩ => cd.mro.tail
  | _ => []
noncomputable def clsOkIn (K : Frag) (C : Addr) : Prop := ∃ nm qn ns bs hd sn sub ab col dd k0 k1 k2 k3 k5 n,
  K.lookup C = some ⟨.type "type", dd, .cls ⟨nm, bs, .ref C :: mroTail K C, ns, qn, hd, sn, sub, ab, col, false⟩, #[k0, k1, k2, k3, some (.builtin n), k5]⟩ ∧ (mroTail K C).contains (.type "BaseException") = true
theorem clsAt_of {K : Frag} {h : Heap} {C : Addr} (X : K.In h) (q : clsOkIn K C) : ClsAtC h C (mroTail K C) := by
  refine box fun GZ kZ => ?_
  obtain ⟨nm, qn, ns, bs, hd, sn, sub, ab, col, dd, k0, k1, k2, k3, k5, n, ho, hb⟩ := q
  refine kZ ?_
  clear kZ GZ
  exact ⟨nm, qn, ns, bs, hd, sn, sub, ab, col, dd, k0, k1, k2, k3, k5, n, X _ _ ho, hb⟩
section
variable {gl : Gl} {n : Nat} {fa : Addr} {name qual : Str} {params : Arguments} {st0 : Stmt} {scope : Scope} {dV kV doc pm cdv ct oc : Value} {an od : Option Addr} {osl : Array (Option Value)} {ps : List String} {d0 : SD}
  {a h0 h1 d1 d2 : ED} {ea eh0 eh1 : Expr} {fn : String} {x0 x1 : Str} {np0 rp0 hp0 np1 rp1 hp1 : Pos} {rp tp : Pos} {dh0 dh1 : Str → ED}
theorem does_told2 (hK : gl.K.lookup fa = some ⟨oc, od, .func (fnX name qual params [st0, .Try [.Return (some ea) rp] [.ExceptHandler (some (.Name x0 np0)) (some (Str.ofString fn)) [.Return (some eh0) rp0] hp0, .ExceptHandler (some (.Name x1 np1)) (some (Str.ofString fn)) [.Return (some eh1) rp1] hp1] [] [] tp] scope [] dV kV doc pm an cdv ct), osl⟩)
    (hcd : codeIn gl.K cdv qual = true) (hflat : gl.flat = true)
    (hbind : ∀ s us, us.length = ps.length → BindsTo s (fnX name qual params [st0, .Try [.Return (some ea) rp] [.ExceptHandler (some (.Name x0 np0)) (some (Str.ofString fn)) [.Return (some eh0) rp0] hp0, .ExceptHandler (some (.Name x1 np1)) (some (Str.ofString fn)) [.Return (some eh1) rp1] hp1] [] [] tp] scope [] dV kV doc pm an cdv ct) ⟨us, []⟩ ((ps.map Str.ofString).zip us))
    (hloc : ∀ x ∈ ps, scope.names.lookup (Str.ofString x) = some .local) (hcell : ∀ x ∈ scope.names, x.2 ≠ .cell) (hfn : scope.names.lookup (Str.ofString fn) = some .local)
    (hco : scope.isCoroutine = false) (hgen : scope.isGenerator = false) (hk : scope.kind = .function)
    (hx0 : NameIs gl.sub.hear n scope false x0 (.ref (gl.ec false))) (hx1 : NameIs gl.sub.hear n scope false x1 (.ref (gl.ec true))) (hc0 : clsOkIn gl.K (gl.ec false)) (hc1 : clsOkIn gl.K (gl.ec true))
    (hno : (Value.ref (gl.ec true) :: mroTail gl.K (gl.ec true)).contains (.ref (gl.ec false)) = false)
    (hd0 : ∀ ρ σ, ∃ ρ₁ σ₁, d0 ρ σ = .ok (.next, ρ₁) σ₁) 
    (hsame0 : ∀ msg ρ σ, h0 (upd ρ fn (.str msg)) σ = dh0 msg (dropN ρ fn) σ) (hsame1 : ∀ msg ρ σ, h1 (upd ρ fn (.str msg)) σ = dh1 msg (dropN ρ fn) σ)
    (hh0 : ∀ msg e t tk c₂ m₂ ρ₂, c₂.Ok gl.sub.hear n → EnvOk c₂ scope false c₂.fenv → m₂ (Str.ofString fn) = some (.ref e) → At gl.sub.hear c₂ m₂ ρ₂ (HasExc e t (gl.ec false) msg tk) (dh0 msg) eh0)
    (hh1 : ∀ msg e t tk c₂ m₂ ρ₂, c₂.Ok gl.sub.hear n → EnvOk c₂ scope false c₂.fenv → m₂ (Str.ofString fn) = some (.ref e) → At gl.sub.hear c₂ m₂ ρ₂ (HasExc e t (gl.ec true) msg tk) (dh1 msg) eh1)
    (hs0 : OkS gl.sub n scope d0 st0) (ha : OkE gl.sub n scope false a ea) : DoesC gl (n + 1) fa (defCall ps (sSeq d0 (sTry a fn h0 h1))) :=
  does_told (x := fun b => cond b x1 x0) (eh := fun b => cond b eh1 eh0) (np := fun b => cond b np1 np0) (rp := fun b => cond b rp1 rp0) (hp := fun b => cond b hp1 hp0) (rp0 := rp) (bm := fun b => mroTail gl.K (gl.ec b)) (dh := fun b => cond b dh1 dh0)
    hK hcd hflat hd0 hs0 ha hbind hloc hcell hfn (fun cl => by cases cl; exact hx0; exact hx1) (fun cl h X => by cases cl; exact clsAt_of X hc0; exact clsAt_of X hc1) hno
    (fun cl msg e t tk c₂ m₂ ρ₂ C V hm => by cases cl; exact hh0 msg e t tk c₂ m₂ ρ₂ C V hm; exact hh1 msg e t tk c₂ m₂ ρ₂ C V hm) (fun cl msg ρ σ => by cases cl; exact hsame0 msg ρ σ; exact hsame1 msg ρ σ) hco hgen hk
end
theorem relL_ints {am : AM} {P : Params} {h : Heap} : ∀ {ns : List Int} {vs : List Value}, WellAll P h vs (ns.map WData.int) → RelL am (ns.map MV.int) vs := by
  intro ns
  induction ns with
  | nil => intro vs H; cases H; trivial
  | cons n r ih =>
    intro vs H
    cases H with
    | cons h t =>
      refine ⟨?_, ih t⟩
      cases h with
      | int i t => exact ⟨t, rfl⟩
theorem well_ints {P : Params} {h : Heap} {l : Addr} {ns : List Int} (W : Well P h (.ref l) (.list (ns.map WData.int))) (am : AM) : ∃ vs, h.get? l = some (listOf (List.toArray vs) 0) ∧ RelL am (ns.map MV.int) vs := by
  cases W with
  | list ha hall => exact ⟨_, ha, relL_ints hall⟩
section
variable {gl : Gl} {n : Nat} {s₁ : Shared} {fa l : Addr} {name qual : Str} {params : Arguments} {body : List Stmt} {scope : Scope} {dV kV doc pm cdv ct oc : Value} {an od : Option Addr} {osl : Array (Option Value)} {p0 : String} {B : SD}
theorem enter_law (hK : gl.K.lookup fa = some ⟨oc, od, .func (fnX name qual params body scope [] dV kV doc pm an cdv ct), osl⟩) (hcd : codeIn gl.K cdv qual = true)
    (hbind : ∀ s us, us.length = [p0].length → BindsTo s (fnX name qual params body scope [] dV kV doc pm an cdv ct) ⟨us, []⟩ (([p0].map Str.ofString).zip us))
    (hloc : ∀ x ∈ [p0], scope.names.lookup (Str.ofString x) = some .local ∨ scope.names.lookup (Str.ofString x) = some .cell) (hnd : ((cellsFrom 0 scope.names []).map (·.1)).Nodup)
    (hco : scope.isCoroutine = false) (hgen : scope.isGenerator = false) (hk : scope.kind = .function) (hb : OkB gl n scope B body)
    (X : gl.K.In s₁.heap) (T : Top gl.p gl.loose gl.mean gl.mg gl.mb s₁.heap) {xs : List MV} {vs : List Value} {k : Nat} (hL : s₁.heap.get? l = some (listOf (List.toArray vs) k)) (hR : RelL [(l, l)] xs vs)
    (hdep : callerA.depth + 1 + 4 * n + 4 < recursionLimit) (hun : callerA.units + 3 + 12 * n + 80 < cLine) {v : MV} {σ' : MH} (run : defCall [p0] B [.ref 0] [.list xs] = .ok v σ') {R : Result → Shared → Prop}
    (hQ : ∀ s' L m u am, Fr s₁.heap L s'.heap m → Only s₁ s' → RelV am v u → R (.ok (.ret u)) s') :
    codeAny (model gl.prog gl.w) callerA (.call (.ref fa) ⟨[.ref l], []⟩) R s₁ := by
  have K0 : Below callerA s₁.heap [] s₁.heap := below_caller _
  refine codeAny_call_function (by lia) (X _ _ hK) rfl hco hgen rfl (codeRec_of X hcd) (hbind s₁ [.ref l] rfl _ _ _ _ ?_)
  have hkind : ∀ n, ∀ x ∈ (([p0].map Str.ofString).zip [Value.ref l]), scope.names.lookup x.1 = some .local ∨ (scope.names.lookup x.1 = some .cell ∧ ((cellsFrom n scope.names []).lookup x.1).isSome = true) := fun n y hy => by
    refine box fun G0 k0 => ?_
    obtain ⟨a, b⟩ := y
    have := (List.of_mem_zip hy).1
    obtain ⟨x, hx, rfl⟩ := List.mem_map.mp this
    refine k0 ?_
    clear k0 G0
    refine (hloc x hx).imp id fun h => ⟨h, ?_⟩
    refine box fun G0 k0 => ?_
    obtain ⟨cc, hcc⟩ := cellsFrom_has scope.names n [] _ (lookupK_mem h)
    obtain ⟨c', hc'⟩ := mem_lookup hcc
    refine k0 ?_
    clear k0 G0
    rw [hc']; rfl
  refine wpAny_newFunctionEnv_cells hk (hkind _) fun env' he s' x => ?_
  subst he
  refine ⟨T.nolimit.keeps x.toInCall.keep, codeAny_func ?_⟩
  refine box fun G0 k0 => ?_
  obtain ⟨h₁, tk, rfl, _⟩ := x.done
  have hk₁ := x.toInCall.keep
  obtain ⟨cells, NC, Y⟩ := Cl.news (h₀ := s₁.heap) (Nat.le_refl _) fun n c hm => ⟨x.cell n c (lookup_of_mem_nodup (cellsFrom_names scope.names 0 (s₁.heap.objs.size + 1) [] [] rfl ▸ hnd) hm), x.above n c hm⟩
  have FL : Fr s₁.heap s₁.heap.objs.size h₁ (bindL (envOfC qual scope s₁.heap.objs.size fa cdv).kindOf (([p0].map Str.ofString).zip [Value.ref l]) fun _ => none) := ⟨x.toInCall.ns, hk₁, Nat.le_refl _⟩
  obtain ⟨c, hc⟩ : ∃ c : Act, c = ⟨callerA.deeper (envOfC qual scope s₁.heap.objs.size fa cdv), s₁.heap, [], envOfC qual scope s₁.heap.objs.size fa cdv, s₁.heap, s₁.heap.objs.size⟩ := ⟨_, rfl⟩
  refine k0 ?_
  clear k0 G0
  have hcel : ∀ x, scope.names.lookup x = some .cell → ∃ cc, (cellsFrom (s₁.heap.objs.size + 1) scope.names []).lookup x = some cc := fun x hx => by
    obtain ⟨cc, hcc⟩ := cellsFrom_has scope.names (s₁.heap.objs.size + 1) [] x (lookupK_mem hx)
    exact mem_lookup hcc
  have C : c.Ok gl n := by
    subst hc
    refine ⟨⟨_, K0⟩, Around.frames_deeper K0.stack, rfl, hk, rfl, rfl, rfl, X, T, fun _ => rfl, fun _ => rfl, ?_, ?_, hcel, fun x y cx cy hx hy hne => pairwise_apart (cellsFrom_apart scope.names (s₁.heap.objs.size + 1) [] .nil (fun p hp => nomatch hp)) (lookup_mem hx) (lookup_mem hy) hne⟩
    · show callerA.depth + 1 + 4 * n + 4 < _
      exact hdep
    · show callerA.units + 3 + 12 * n + 80 < _
      exact hun
  have V : EnvOk c scope false c.fenv := by subst hc; exact ⟨rfl, hk, rfl, rfl, fun _ => rfl, .inl rfl⟩
  have r : RelL [(l, l)] [MV.ref 0] [Value.ref l] := ⟨⟨(l, l), rfl, rfl⟩, trivial⟩
  have S : Sim gl c c.fenv (bindL (envOfC qual scope s₁.heap.objs.size fa cdv).kindOf (([p0].map Str.ofString).zip [Value.ref l]) fun _ => none) cells [(l, l)] (updAll (fun _ => none) [p0] [.ref 0]) [.list xs] { s₁ with heap := h₁, toks := tk } := by
    subst hc
    refine ⟨FL, NC, ⟨rfl, ?_, ?_⟩, ?_, ?_, .inl rfl⟩
    · intro i j p q hp hq hij
      induction i with
      | succ i => cases hp
      | zero => induction j with
        | succ j => cases hq
        | zero => exact absurd rfl hij
    · intro i o hi
      induction i with
      | succ i => cases hi
      | zero =>
        cases hi
        exact ⟨(l, l), _, rfl, .inr ⟨rfl, hL⟩, vs, k, rfl, hR, rfl⟩
    · intro y mv hy
      refine box fun G0 k0 => ?_
      obtain ⟨v, hv, hm⟩ := bindsC_rel (K := (envOfC qual scope s₁.heap.objs.size fa cdv).kindOf) [p0] [.ref 0] [.ref l] (fun _ => none) (fun _ => none) (fun _ => none) r rfl (fun _ _ h => by cases h) y mv hy
      refine k0 ?_
      clear k0 G0
      have hyp : y ∈ [p0] := by
        rcases updAll_mem [p0] [.ref 0] _ hy with h | h
        · exact h
        · cases h
      refine ⟨v, hv, ?_⟩
      have hkk : (envOfC qual scope s₁.heap.objs.size fa cdv).kindOf (Str.ofString y) = scope.names.lookup (Str.ofString y) := rfl
      rcases hloc y hyp with h | h
      · rw [hkk, h, if_pos rfl] at hm
        exact .inl ⟨hkk.trans h, .inl ⟨rfl, hm⟩⟩
      · rw [hkk, h, if_neg (by intro q; cases q)] at hm
        refine box fun G0 k0 => ?_
        obtain ⟨cc, hcc⟩ := hcel _ h
        obtain ⟨o, hmo, hdo⟩ := cellsAre_mem Y (lookup_mem hcc)
        refine k0 ?_
        clear k0 G0
        exact .inr ⟨hkk.trans h, cc, o, hcc, hmo, hdo.trans (congrArg Data.cell hm)⟩
    · intro x cc hx
      refine box fun G0 k0 => ?_
      obtain ⟨o, hmo, hdo⟩ := cellsAre_mem Y (lookup_mem hx)
      refine k0 ?_
      clear k0 G0
      exact ⟨o, _, hmo, hdo⟩
  have HB := hb _ _ _ _ _ _ _ C V S
  unfold defCall at run
  rw [if_pos (show [MV.ref 0].length = [p0].length from rfl)] at run
  revert HB
  cases hB : B (updAll (fun _ => none) [p0] [.ref 0]) [.list xs] with
  | stuck => rw [hB] at run; cases run
  | exc cl msg σ => rw [hB] at run; cases run
  | ok fr σ =>
    obtain ⟨f, ρ'⟩ := fr
    rw [hB, Mine.R.bind_ok] at run
    intro HB
    subst hc
    refine wpAny_mono (HB _) (fun u s' hb1 => ?_) fun _ _ y => y
    refine box fun G0 k0 => ?_
    obtain ⟨m', news', am', S', e', o', r'⟩ := hb1
    refine k0 ?_
    clear k0 G0
    have oo := (Only.mk' s₁ h₁ tk).trans o'
    induction f with
    | next =>
      cases run
      induction u with
      | next => exact hQ s' _ _ .none am' S'.F oo rfl
      | _ => exact r'.elim
    | brk => cases run
    | ret w =>
      cases run
      induction u with
      | ret u => exact hQ s' _ _ u am' S'.F oo r'
      | _ => exact r'.elim
end
end Mine
end
section
set_option genInjectivity false
set_option genSizeOf false
open PySem PySem.W PyProof.Rows
namespace Mine
noncomputable def Wp {α : Type} (r : R α) (Q : α → MH → Prop) (X : Bool → Str → MH → Prop) : Prop := match r with
  | .ok a σ => Q a σ
  | .exc c m σ => X c m σ
  | .stuck => False
section
variable {α β : Type} {r : R α} {a : α} {σ σ' : MH} {Q Q' : α → MH → Prop} {X X' : Bool → Str → MH → Prop}
theorem wp_eq (h : r = .ok a σ) (q : Q a σ) : Wp r Q X := by rw [h]; exact q
theorem wp_exc {c : Bool} {m : Str} (h : r = .exc c m σ) (q : X c m σ) : Wp r Q X := by rw [h]; exact q
theorem wp_mono (h : Wp r Q X) (hq : ∀ a σ, Q a σ → Q' a σ) (hx : ∀ c m σ, X c m σ → X' c m σ) : Wp r Q' X' := by
  cases r with
  | ok a σ => exact hq _ _ h
  | exc c m σ => exact hx _ _ _ h
  | stuck => exact h
theorem boxQ (h : ∀ G : α → MH → Prop, (∀ a σ, Q a σ → G a σ) → Wp r G X) : Wp r Q X := h Q fun _ _ h => h
theorem wp_bind {f : α → MH → R β} {Q : β → MH → Prop} (h : Wp r (fun a σ => Wp (f a σ) Q X) X) : Wp (r.bind f) Q X := by
  cases r with
  | ok a σ => exact h
  | exc c m σ => exact h
  | stuck => exact h
theorem wp_out (h : Wp r Q fun _ _ _ => False) : ∃ a σ, r = .ok a σ ∧ Q a σ := by
  cases r with
  | ok a σ => exact ⟨a, σ, rfl, h⟩
  | exc c m σ => exact h.elim
  | stuck => exact h.elim
end
theorem upd_eq {ρ : MEnv} {x : String} {v : MV} : upd ρ x v x = some v := by unfold upd; rw [if_pos rfl]
theorem upd_go {ρ : MEnv} {x y : String} {v : MV} {o : Option MV} (h : y ≠ x) (q : ρ y = o) : upd ρ x v y = o := by unfold upd; rw [if_neg h]; exact q
theorem upd_skip {ρ : MEnv} {x y : String} {v : MV} (h : y ≠ x) : upd ρ x v y = ρ y := by unfold upd; rw [if_neg h]
theorem get_last {σ : MH} {o : MO} : (σ ++ [o])[σ.length]? = some o := by rw [List.getElem?_append_right (Nat.le_refl _), Nat.sub_self]; rfl
theorem get_old {σ l : MH} {j : Nat} {o : MO} (h : σ[j]? = some o) : (σ ++ l)[j]? = some o := by
  have hl : j < σ.length := by
    rcases Nat.lt_or_ge j σ.length with h' | h'
    · exact h'
    · rw [List.getElem?_eq_none h'] at h; cases h
  rw [List.getElem?_append_left hl]; exact h
theorem get_set_ne {σ : MH} {i j : Nat} {o o' : MO} (h : i ≠ j) (q : σ[j]? = some o) : (σ.set i o')[j]? = some o := by rw [List.getElem?_set_ne h]; exact q
theorem get_set_eq {σ : MH} {i : Nat} {o o' : MO} (q : σ[i]? = some o) : (σ.set i o')[i]? = some o' := by
  have hl : i < σ.length := by
    rcases Nat.lt_or_ge i σ.length with h' | h'
    · exact h'
    · rw [List.getElem?_eq_none h'] at q; cases q
  rw [List.getElem?_set_self hl]
section
variable {ρ : MEnv} {σ : MH} {X : Bool → Str → MH → Prop}
section
variable {Q : MV → MH → Prop} {x : String} {v : MV} {f : MV → MV → MH → R MV} {f1 : MV → MH → R MV} {fl : List MV → MH → R MV} {a b c : ED} {l : LD} {t : TD}
theorem wp_var (h : ρ x = some v) (q : Q v σ) : Wp (eVar x ρ σ) Q X := by unfold eVar; rw [h]; exact q
theorem wp_val (q : Q v σ) : Wp (eVal v ρ σ) Q X := q
theorem wp_bin (h : Wp (a ρ σ) (fun va σ₁ => Wp (b ρ σ₁) (fun vb σ₂ => Wp (f va vb σ₂) Q X) X) X) : Wp (eBin f a b ρ σ) Q X := wp_bind (wp_mono h (fun _ _ h => wp_bind h) fun _ _ _ h => h)
theorem wp_cmp {cm : Cm} (h : Wp (eBin (cmpOp cm) a b ρ σ) Q X) : Wp (eCmp cm a b ρ σ) Q X := h
theorem wp_un (h : Wp (a ρ σ) (fun va σ₁ => Wp (f1 va σ₁) Q X) X) : Wp (eUn f1 a ρ σ) Q X := wp_bind h
theorem wp_idx (h : Wp (eBin mGet a b ρ σ) Q X) : Wp (eIdx a b ρ σ) Q X := h
theorem wp_eslTo (h : Wp (eBin opSlTo a b ρ σ) Q X) : Wp (eSlTo a b ρ σ) Q X := h
theorem wp_eslFrom (h : Wp (eBin opSlFrom a b ρ σ) Q X) : Wp (eSlFrom a b ρ σ) Q X := h
theorem wp_eslBy9 (h : Wp (eBin opSlBy9 a b ρ σ) Q X) : Wp (eSlBy9 a b ρ σ) Q X := h
theorem wp_call (h : Wp (l ρ σ) (fun vs σ₁ => Wp (fl vs σ₁) Q X) X) : Wp (eCall fl l ρ σ) Q X := wp_bind h
theorem wp_list (h : Wp (l ρ σ) (fun vs σ₁ => vs.length ≤ maxLen ∧ Q (.ref σ₁.length) (σ₁ ++ [.list vs])) X) : Wp (eList l ρ σ) Q X :=
  wp_bind (wp_mono h (fun vs σ₁ ⟨h1, h2⟩ => by unfold allocN; rw [if_pos h1]; exact h2) fun _ _ _ h => h)
theorem wp_tup (h : Wp (l ρ σ) (fun vs σ₁ => vs.length ≤ maxLen ∧ Q (.ref σ₁.length) (σ₁ ++ [.tup vs])) X) : Wp (eTup l ρ σ) Q X :=
  wp_bind (wp_mono h (fun vs σ₁ ⟨h1, h2⟩ => by unfold allocN; rw [if_pos h1]; exact h2) fun _ _ _ h => h)
theorem wp_eif (h : Wp (t ρ σ) (fun u σ₁ => if u then Wp (a ρ σ₁) Q X else Wp (b ρ σ₁) Q X) X) : Wp (eIf t a b ρ σ) Q X :=
  wp_bind (wp_mono h (fun u σ₁ h => by cases u <;> exact h) fun _ _ _ h => h)
theorem wp_eand (h : Wp (a ρ σ) (fun u σ₁ => match u with | .bool true => Wp (b ρ σ₁) Q X | .bool false => Q (.bool false) σ₁ | _ => False) X) : Wp (eAnd a b ρ σ) Q X :=
  wp_bind (wp_mono h (fun u σ₁ h => by
    cases u with
    | bool u => cases u <;> exact h
    | _ => exact h) fun _ _ _ h => h)
theorem wp_getL {j : Nat} {k : Int} {p : Nat} {xs : List MV} (h : σ[j]? = some (.list xs)) (hk : place? k xs.length = some p) (hv : xs[p]? = some v) (q : Q v σ) : Wp (mGet (.ref j) (.int k) σ) Q X := by
  unfold mGet; dsimp only; rw [h]; dsimp only; rw [hk, Option.bind_some, hv]; exact q
theorem wp_getT {j : Nat} {k : Int} {p : Nat} {xs : List MV} (h : σ[j]? = some (.tup xs)) (hk : place? k xs.length = some p) (hv : xs[p]? = some v) (q : Q v σ) : Wp (mGet (.ref j) (.int k) σ) Q X := by
  unfold mGet; dsimp only; rw [h]; dsimp only; rw [hk, Option.bind_some, hv]; exact q
theorem wp_getS {s : Str} {k : Int} (hk : 0 ≤ k ∧ k < s.length ∧ k < 1000000) (q : Q (.str (Txt.item s k)) σ) : Wp (mGet (.str s) (.int k) σ) Q X := by
  unfold mGet; dsimp only; rw [if_pos hk]; exact q
theorem wp_opAttr {n : String} {j : Nat} {as : List (String × MV)} (h : σ[j]? = some (.inst as)) (hv : as.lookup n = some v) (q : Q v σ) : Wp (opAttr n (.ref j) σ) Q X := by
  unfold opAttr attr?; dsimp only; rw [h]; dsimp only; rw [hv]; exact q
theorem wp_lenL {j : Nat} {xs : List MV} (h : σ[j]? = some (.list xs)) (hl : xs.length ≤ maxLen) (q : Q (.int xs.length) σ) : Wp (fLen (.ref j) σ) Q X := by
  unfold fLen; dsimp only; rw [h]; dsimp only; rw [if_pos hl]; exact q
theorem wp_lenT {j : Nat} {xs : List MV} (h : σ[j]? = some (.tup xs)) (hl : xs.length ≤ maxLen) (q : Q (.int xs.length) σ) : Wp (fLen (.ref j) σ) Q X := by
  unfold fLen; dsimp only; rw [h]; dsimp only; rw [if_pos hl]; exact q
theorem wp_addS {x y : Str} (h : x.length + y.length ≤ maxLen) (q : Q (.str (x ++ y)) σ) : Wp (opAdd (.str x) (.str y) σ) Q X := by
  unfold opAdd; dsimp only; rw [if_pos h]; exact q
theorem wp_addL {i j : Nat} {xs ys : List MV} (hx : σ[i]? = some (.list xs)) (hy : σ[j]? = some (.list ys)) (h : xs.length + ys.length ≤ maxLen) (q : Q (.ref σ.length) (σ ++ [.list (xs ++ ys)])) : Wp (opAdd (.ref i) (.ref j) σ) Q X := by
  unfold opAdd; dsimp only; rw [hx, hy]; dsimp only; rw [if_pos h]; exact q
theorem wp_div {x y : Int} (hx : small x = true) (hy : small y = true) (h0 : y ≠ 0) (q : Q (.int (Int.fdiv x y)) σ) : Wp (opDiv (.int x) (.int y) σ) Q X := by
  unfold opDiv; dsimp only; rw [if_pos (by rw [hx, hy]; simpa using h0)]; exact q
theorem wp_mod {x y : Int} (h0 : y ≠ 0) (q : Q (.int (Int.fmod x y)) σ) : Wp (opMod (.int x) (.int y) σ) Q X := by
  unfold opMod; dsimp only; rw [if_pos h0]; exact q
theorem wp_mul {x y : Int} (hx : small x = true) (hy : small y = true) (q : Q (.int (x * y)) σ) : Wp (opMul (.int x) (.int y) σ) Q X := by
  unfold opMul; dsimp only; rw [hx, hy]; exact q
theorem wp_slToL {i : Nat} {j : Int} {xs : List MV} (h : σ[i]? = some (.list xs)) (hk : (okB xs.length j && decide (j ≤ xs.length)) = true) (q : Q (.ref σ.length) (σ ++ [.list (xs.take j.toNat)])) : Wp (opSlTo (.ref i) (.int j) σ) Q X := by
  unfold opSlTo; dsimp only; rw [h]; dsimp only; rw [if_pos hk]; exact q
theorem wp_slFromL {i : Nat} {j : Int} {xs : List MV} (h : σ[i]? = some (.list xs)) (hk : (okB xs.length j && decide (j ≤ xs.length)) = true) (q : Q (.ref σ.length) (σ ++ [.list (xs.drop j.toNat)])) : Wp (opSlFrom (.ref i) (.int j) σ) Q X := by
  unfold opSlFrom; dsimp only; rw [h]; dsimp only; rw [if_pos hk]; exact q
theorem wp_slBy9 {i : Nat} {j : Int} {xs : List MV} (h : σ[i]? = some (.list xs)) (hk : okB xs.length j = true) (q : Q (.ref σ.length) (σ ++ [.list (pick9 xs j)])) : Wp (opSlBy9 (.ref i) (.int j) σ) Q X := by
  unfold opSlBy9; dsimp only; rw [h]; dsimp only; rw [if_pos hk]; exact q
theorem wp_slToS {x : Str} {j : Int} (hk : okB x.length j = true) (q : Q (.str (Txt.slice x none (some j))) σ) : Wp (opSlTo (.str x) (.int j) σ) Q X := by
  unfold opSlTo; dsimp only; rw [if_pos hk]; exact q
theorem wp_slFromS {x : Str} {j : Int} (hk : okB x.length j = true) (q : Q (.str (Txt.slice x (some j) none)) σ) : Wp (opSlFromS (.str x) (.int j) σ) Q X := by
  unfold opSlFromS; dsimp only; rw [if_pos hk]; exact q
theorem wp_slS {x : Str} {i j : Int} (hk : (okB x.length i && okB x.length j) = true) (q : Q (.str (Txt.slice x (some i) (some j))) σ) : Wp (opSl (.str x) (.int i) (.int j) σ) Q X := by
  unfold opSl; dsimp only; rw [if_pos hk]; exact q
theorem wp_split {x y : Str} (h : y.length ≠ 0 ∧ x.length ≤ maxLen) (q : Q (.ref σ.length) (σ ++ [.list ((Txt.split x y).map .str)])) : Wp (mSplit x [.str y] σ) Q X := by
  unfold mSplit; dsimp only; rw [if_pos h]; exact q
theorem wp_intS {s : Str} {d : Int} (h : digitOf? s = some d) (q : Q (.int d) σ) : Wp (fInt (.str s) σ) Q X := by
  unfold fInt; dsimp only; rw [h]; exact q
theorem wp_tupleL {i : Nat} {xs : List MV} (h : σ[i]? = some (.list xs)) (hl : xs.length ≤ maxLen) (q : Q (.ref σ.length) (σ ++ [.tup xs])) : Wp (fTuple (.ref i) σ) Q X := by
  unfold fTuple; dsimp only; rw [h]; dsimp only; rw [if_pos hl]; exact q
theorem wp_listL {i : Nat} {xs : List MV} (h : σ[i]? = some (.list xs)) (hl : xs.length ≤ maxLen) (q : Q (.ref σ.length) (σ ++ [.list xs])) : Wp (fList (.ref i) σ) Q X := by
  unfold fList; dsimp only; rw [h]; dsimp only; rw [if_pos hl]; exact q
theorem wp_over {f : List Int → Option Int} {i : Nat} {xs : List MV} {ns : List Int} {r : Int} (h : σ[i]? = some (.list xs)) (hn : ints? xs = some ns) (hf : f ns = some r) (hl : xs.length ≤ maxLen) (q : Q (.int r) σ) : Wp (overInts f (.ref i) σ) Q X := by
  unfold overInts; dsimp only; rw [h]; dsimp only; rw [hn, Option.bind_some, hf]; dsimp only; rw [if_pos hl]; exact q
theorem wp_mulL {i : Nat} {y : Int} {v : MV} (h : σ[i]? = some (.list [v])) (hy : 0 ≤ y ∧ y ≤ 1000) (q : Q (.ref σ.length) (σ ++ [.list (List.replicate y.toNat v)])) : Wp (opMul (.ref i) (.int y) σ) Q X := by
  unfold opMul; dsimp only; rw [h]; dsimp only; rw [if_pos hy]; exact q
theorem wp_pop {k : Nat} {v : MV} {xs : List MV} (h : σ[k + 1]? = some (.list xs)) (hv : xs.getLast? = some v) (hl : xs.length ≤ maxLen) (q : Q v (σ.set (k + 1) (.list xs.dropLast))) : Wp (opPop (.ref (k + 1)) σ) Q X := by
  unfold opPop; dsimp only; rw [h]; dsimp only; rw [hv]; dsimp only; rw [if_pos hl]; exact q
theorem wp_ceq {x y : MV} {r : Bool} (h : cmpEq? x y σ = some r) (q : Q (.bool r) σ) : Wp (cmpOp .eq x y σ) Q X := by
  unfold cmpOp; dsimp only; rw [h]; exact q
theorem wp_cne {x y : MV} {r : Bool} (h : cmpEq? x y σ = some r) (q : Q (.bool (!r)) σ) : Wp (cmpOp .ne x y σ) Q X := by
  unfold cmpOp; dsimp only; rw [h]; exact q
theorem wp_strI {i : Int} (h : 0 ≤ i ∧ i < 10) (q : Q (.str (digit i)) σ) : Wp (fStr (.int i) σ) Q X := by
  unfold fStr; dsimp only; rw [if_pos h]; exact q
theorem wp_join {s : Str} {j : Nat} {ys : List MV} {zs : List Str} (h : σ[j]? = some (.list ys)) (hz : strs? ys = some zs) (hl : s.length ≤ 64 ∧ (zs.map (·.length)).sum + zs.length * 64 ≤ 16777216) (q : Q (.str (Txt.join s zs)) σ) : Wp (mJoin s [.ref j] σ) Q X := by
  unfold mJoin; dsimp only; rw [h]; dsimp only; rw [hz]; dsimp only; rw [if_pos hl]; exact q
end
section
variable {Q : Bool → MH → Prop} {a b c : ED} {t u : TD}
theorem wp_tOf (h : Wp (a ρ σ) (fun v σ₁ => ∃ b, v = .bool b ∧ Q b σ₁) X) : Wp (tOf a ρ σ) Q X := wp_bind (wp_mono h (fun v σ₁ ⟨b, e, q⟩ => by subst e; exact q) fun _ _ _ h => h)
theorem wp_tTrue (q : Q true σ) : Wp (tTrue ρ σ) Q X := q
theorem wp_tAnd (h : Wp (t ρ σ) (fun v σ₁ => if v then Wp (u ρ σ₁) Q X else Q false σ₁) X) : Wp (tAnd t u ρ σ) Q X := wp_bind (wp_mono h (fun v σ₁ q => by cases v <;> exact q) fun _ _ _ h => h)
theorem wp_tOr (h : Wp (t ρ σ) (fun v σ₁ => if v then Q true σ₁ else Wp (u ρ σ₁) Q X) X) : Wp (tOr t u ρ σ) Q X := wp_bind (wp_mono h (fun v σ₁ q => by cases v <;> exact q) fun _ _ _ h => h)
end
section
variable {Q : List MV → MH → Prop} {a : ED} {l : LD}
theorem wp_lnil (q : Q [] σ) : Wp (lNil ρ σ) Q X := q
theorem wp_lcons (h : Wp (a ρ σ) (fun v σ₁ => Wp (l ρ σ₁) (fun vs σ₂ => Q (v :: vs) σ₂) X) X) : Wp (lCons a l ρ σ) Q X := wp_bind (wp_mono h (fun _ _ h => wp_bind h) fun _ _ _ h => h)
end
section
variable {Q : MF × MEnv → MH → Prop} {a b e : ED} {l : LD} {s u : SD} {t : TD} {x : String} {xs : List String}
theorem wp_pass (q : Q (.next, ρ) σ) : Wp (sPass ρ σ) Q X := q
theorem wp_seq (h : Wp (s ρ σ) (fun r σ₁ => match r.1 with | .next => Wp (u r.2 σ₁) Q X | f => Q (f, r.2) σ₁) X) : Wp (sSeq s u ρ σ) Q X :=
  wp_bind (wp_mono h (fun r σ₁ q => by obtain ⟨f, ρ₁⟩ := r; cases f <;> exact q) fun _ _ _ h => h)
theorem wp_assign (h : Wp (a ρ σ) (fun v σ₁ => Q (.next, upd ρ x v) σ₁) X) : Wp (sAssign x a ρ σ) Q X := wp_bind h
theorem wp_unpack (h : Wp (a ρ σ) (fun v σ₁ => ∃ i vs, v = .ref i ∧ σ₁[i]? = some (.tup vs) ∧ vs.length = xs.length ∧ Q (.next, updAll ρ xs vs) σ₁) X) : Wp (sUnpack xs a ρ σ) Q X :=
  wp_bind (wp_mono h (fun v σ₁ ⟨i, vs, e, h1, h2, q⟩ => by subst e; dsimp only; rw [h1]; dsimp only; rw [if_pos h2]; exact q) fun _ _ _ h => h)
theorem wp_pair (h : Wp (l ρ σ) (fun vs σ₁ => vs.length = xs.length ∧ Q (.next, updAll ρ xs vs) σ₁) X) : Wp (sPair xs l ρ σ) Q X :=
  wp_bind (wp_mono h (fun vs σ₁ ⟨h1, q⟩ => by rw [if_pos h1]; exact q) fun _ _ _ h => h)
theorem wp_sif (h : Wp (t ρ σ) (fun v σ₁ => if v then Wp (s ρ σ₁) Q X else Wp (u ρ σ₁) Q X) X) : Wp (sIf t s u ρ σ) Q X := wp_bind (wp_mono h (fun v σ₁ q => by cases v <;> exact q) fun _ _ _ h => h)
theorem wp_ret (h : Wp (a ρ σ) (fun v σ₁ => Q (.ret v, ρ) σ₁) X) : Wp (sRet a ρ σ) Q X := wp_bind h
theorem wp_raise {c : Bool} (h : Wp (a ρ σ) (fun v σ₁ => ∃ m, v = .str m ∧ X c m σ₁) X) : Wp (sRaise c a ρ σ) Q X := wp_bind (wp_mono h (fun v σ₁ ⟨m, e, q⟩ => by subst e; exact q) fun _ _ _ h => h)
theorem wp_setItem (h : Wp (e ρ σ) (fun v σ₁ => Wp (a ρ σ₁) (fun va σ₂ => Wp (b ρ σ₂) (fun vi σ₃ => ∃ j k xs, va = .ref j ∧ vi = .int k ∧ σ₃[j]? = some (.list xs) ∧ (j ≠ 0 ∧ 0 ≤ k ∧ k < xs.length ∧ k < 1000000) ∧ Q (.next, ρ) (σ₃.set j (.list (xs.set k.toNat v)))) X) X) X) :
    Wp (sSetItem a b e ρ σ) Q X :=
  wp_bind (wp_mono h (fun v σ₁ h => wp_bind (wp_mono h (fun va σ₂ h => wp_bind (wp_mono h (fun vi σ₃ ⟨j, k, xs, e1, e2, h1, h2, q⟩ => by subst e1 e2; dsimp only; rw [h1]; dsimp only; rw [if_pos h2]; exact q) fun _ _ _ h => h)) fun _ _ _ h => h)) fun _ _ _ h => h)
theorem wp_setAttr {n : String} (h : Wp (e ρ σ) (fun v σ₁ => Wp (a ρ σ₁) (fun va σ₂ => ∃ j as, va = .ref j ∧ σ₂[j]? = some (.inst as) ∧ (j ≠ 0 ∧ as.lookup n = none ∧ as.length < 900) ∧ Q (.next, ρ) (σ₂.set j (.inst (as ++ [(n, v)])))) X) X) : Wp (sSetAttr a n e ρ σ) Q X :=
  wp_bind (wp_mono h (fun v σ₁ h => wp_bind (wp_mono h (fun va σ₂ ⟨j, as, e1, h1, h2, q⟩ => by subst e1; dsimp only; rw [h1]; dsimp only; rw [if_pos h2]; exact q) fun _ _ _ h => h)) fun _ _ _ h => h)
theorem wp_append (h : Wp (a ρ σ) (fun va σ₁ => ∃ j xs, va = .ref j ∧ σ₁[j]? = some (.list xs) ∧ Wp (e ρ σ₁) (fun v σ₂ => ∃ xs', σ₂[j]? = some (.list xs') ∧ (j ≠ 0 ∧ xs'.length ≤ maxLen) ∧ Q (.next, ρ) (σ₂.set j (.list (xs' ++ [v])))) X) X) : Wp (sAppend a e ρ σ) Q X :=
  wp_bind (wp_mono h (fun va σ₁ ⟨j, xs, e1, h1, h⟩ => by
    subst e1; dsimp only; rw [h1]; dsimp only
    exact wp_bind (wp_mono h (fun v σ₂ ⟨xs', h2, h3, q⟩ => by unfold opAppend; rw [h2]; dsimp only; rw [if_pos h3]; exact q) fun _ _ _ h => h)) fun _ _ _ h => h)
end
theorem wp_unpackT {Q : MF × MEnv → MH → Prop} {a : ED} {xs : List String} {i : Nat} {vs : List MV} {τ : MH} (h : Wp (a ρ σ) (fun v σ' => (v, σ') = (MV.ref i, τ)) fun _ _ _ => False) (h1 : τ[i]? = some (.tup vs)) (h2 : vs.length = xs.length) (q : Q (.next, updAll ρ xs vs) τ) : Wp (sUnpack xs a ρ σ) Q X := by
  refine wp_unpack (wp_mono h (fun v σ' e => ?_) fun _ _ _ h => h.elim)
  cases e
  exact ⟨i, vs, rfl, h1, h2, q⟩
theorem wp_goCons {Q : MF × MEnv → MH → Prop} {r : Src} {x : String} {body : SD} {v : MV} {vs : List MV} (h : Wp (body (upd ρ x v) σ) (fun fr σ' => match fr.1 with | .next => r.stands σ' = true ∧ Wp (forGo r x body vs fr.2 σ') Q X | .brk => Q (.next, fr.2) σ' | .ret w => Q (.ret w, fr.2) σ') fun _ _ _ => False) : Wp (forGo r x body (v :: vs) ρ σ) Q X := by
  unfold forGo
  revert h
  cases body (upd ρ x v) σ with
  | stuck => exact fun h => h.elim
  | exc c m σ' => exact fun h => h.elim
  | ok fr σ' =>
    obtain ⟨f, ρ'⟩ := fr
    intro T
    cases f with
    | next => dsimp only; rw [if_pos T.1]; exact T.2
    | brk => exact T
    | ret w => exact T
theorem wp_for {Q : MF × MEnv → MH → Prop} {x : String} {src : RD} {body : SD} (h : Wp (src ρ σ) (fun r σ₁ => Wp (forGo r x body r.items ρ σ₁) Q X) X) : Wp (sFor x src body ρ σ) Q X := wp_bind h
theorem wp_range {Q : Src → MH → Prop} {a b : ED} (h : Wp (a ρ σ) (fun va σ₁ => Wp (b ρ σ₁) (fun vb σ₂ => ∃ x y, va = .int x ∧ vb = .int y ∧ small x = true ∧ small y = true ∧ Q (.range x 1 (y - x).toNat) σ₂) X) X) : Wp (rRange a b ρ σ) Q X :=
  wp_bind (wp_mono h (fun v σ₁ h => wp_bind (wp_mono h (fun w σ₂ ⟨x, y, e1, e2, h1, h2, q⟩ => by subst e1 e2; dsimp only; rw [h1, h2]; exact q) fun _ _ _ h => h)) fun _ _ _ h => h)
theorem wp_rList {Q : Src → MH → Prop} {b : ED} (h : Wp (b ρ σ) (fun vb σ₂ => (∃ i xs, vb = .ref i ∧ σ₂[i]? = some (.list xs) ∧ Q (.list i xs) σ₂) ∨ ∃ s, vb = .str s ∧ Q (.chars s) σ₂) X) : Wp (rList b ρ σ) Q X :=
  wp_bind (wp_mono h (fun v σ₁ q => by
    rcases q with ⟨i, xs, e, h1, q⟩ | ⟨s, e, q⟩
    · subst e; dsimp only; rw [h1]; exact q
    · subst e; exact q) fun _ _ _ h => h)
theorem wp_while {Q : MF × MEnv → MH → Prop} {c : TD} {body : SD} (h : Wp (whileGo c body 40 ρ σ) Q X) : Wp (sWhile c body ρ σ) Q X := h
theorem wp_compGo {Q : List MV → MH → Prop} {r : Src} {x : String} {t : TD} {e : ED} {ρ : MEnv} (I : Nat → List MV → MH → Prop) {vs₀ : List MV}
    (turn : ∀ k v acc σ, vs₀[k]? = some v → I k acc σ → Wp (t (upd ρ x v) σ) (fun b σ₁ => if b then Wp (e (upd ρ x v) σ₁) (fun y σ₂ => r.stands σ₂ = true ∧ I (k + 1) (acc ++ [y]) σ₂) fun _ _ _ => False else r.stands σ₁ = true ∧ I (k + 1) acc σ₁) fun _ _ _ => False)
    (done : ∀ acc σ, I vs₀.length acc σ → Q acc σ) : ∀ (k : Nat) (acc : List MV) (σ : MH), k ≤ vs₀.length → I k acc σ → Wp (compGo r x t e ρ (vs₀.drop k) acc σ) Q X := by
  intro k
  obtain ⟨n, hn⟩ : ∃ n, n = vs₀.length - k := ⟨_, rfl⟩
  induction n generalizing k with
  | zero =>
    intro acc σ hk h
    have : k = vs₀.length := Nat.le_antisymm hk (Nat.le_of_sub_eq_zero hn.symm)
    subst this
    rw [List.drop_length]
    exact done acc σ h
  | succ n ih =>
    intro acc σ hk h
    have hlt : k < vs₀.length := Nat.lt_of_sub_eq_succ hn.symm
    have hn' : n = vs₀.length - (k + 1) := by rw [Nat.sub_succ, ← hn]; rfl
    rw [List.drop_eq_getElem_cons hlt]
    have T := turn k vs₀[k] acc σ (List.getElem?_eq_getElem hlt) h
    unfold compGo
    revert T
    cases t (upd ρ x vs₀[k]) σ with
    | stuck => exact fun h => h.elim
    | exc c m σ' => exact fun h => h.elim
    | ok b σ₁ =>
      intro T
      cases b with
      | false =>
        dsimp only
        have T' : r.stands σ₁ = true ∧ I (k + 1) acc σ₁ := T
        rw [if_pos T'.1]
        exact ih (k + 1) hn' acc σ₁ hlt T'.2
      | true =>
        dsimp only
        have T' : Wp (e (upd ρ x vs₀[k]) σ₁) (fun y σ₂ => r.stands σ₂ = true ∧ I (k + 1) (acc ++ [y]) σ₂) fun _ _ _ => False := T
        revert T'
        cases e (upd ρ x vs₀[k]) σ₁ with
        | stuck => exact fun h => h.elim
        | exc c m σ' => exact fun h => h.elim
        | ok y σ₂ =>
          intro T'
          dsimp only
          have T'' : r.stands σ₂ = true ∧ I (k + 1) (acc ++ [y]) σ₂ := T'
          rw [if_pos T''.1]
          exact ih (k + 1) hn' (acc ++ [y]) σ₂ hlt T''.2
theorem wp_comp {Q : MV → MH → Prop} {e : ED} {x : String} {fv : List String} {src : RD} {t : TD} (h : Wp (src ρ σ) (fun r σ₁ => r.items.length ≤ 1000 ∧ Wp (compGo r x t e (seen ρ fv) r.items [] σ₁) (fun ys σ₂ => Q (.ref σ₂.length) (σ₂ ++ [.list ys])) X) X) :
    Wp (eComp e x fv src t ρ σ) Q X :=
  wp_bind (wp_mono h (fun r σ₁ ⟨h1, q⟩ => by rw [if_pos h1]; exact wp_bind q) fun _ _ _ h => h)
theorem wp_def {Q : MV → MH → Prop} {ps : List String} {body : SD} {vs : List MV} (hl : vs.length = ps.length) (h : Wp (body (updAll (fun _ => none) ps vs) σ) (fun r σ₁ => match r.1 with | .ret v => Q v σ₁ | .next => Q .none σ₁ | .brk => False) X) : Wp (defCall ps body vs σ) Q X := by
  unfold defCall
  rw [if_pos hl]
  refine wp_bind (wp_mono h (fun r σ₁ q => ?_) fun _ _ _ h => h)
  obtain ⟨f, ρ₁⟩ := r
  cases f <;> exact q
end
theorem seen_skip {ρ : MEnv} {fv : List String} {x : String} (h : fv.contains x = true) : seen ρ fv x = ρ x := by unfold seen; rw [if_pos h]
theorem seen_go {ρ : MEnv} {fv : List String} {x : String} {o : Option MV} (h : fv.contains x = true) (q : ρ x = o) : seen ρ fv x = o := by unfold seen; rw [if_pos h]; exact q
section
variable {ρ : MEnv} {σ σ₁ σ₂ σ₃ σ₄ : MH}
section
variable {x : String} {v va vb vc : MV} {vs : List MV} {f : MV → MV → MH → R MV} {f1 : MV → MH → R MV} {fl : List MV → MH → R MV} {a b c : ED} {l : LD} {s t : TD} {u w : Bool}
theorem ev_var (h : ρ x = some v) : eVar x ρ σ = .ok v σ := by unfold eVar; rw [h]
theorem ev_val : eVal v ρ σ = .ok v σ := rfl
theorem ev_bin (ha : a ρ σ = .ok va σ₁) (hb : b ρ σ₁ = .ok vb σ₂) (h : f va vb σ₂ = .ok v σ₃) : eBin f a b ρ σ = .ok v σ₃ := by unfold eBin; rw [ha, R.bind_ok, hb, R.bind_ok, h]
theorem ev_cmp {k : Cm} (ha : a ρ σ = .ok va σ₁) (hb : b ρ σ₁ = .ok vb σ₂) (h : cmpOp k va vb σ₂ = .ok v σ₃) : eCmp k a b ρ σ = .ok v σ₃ := ev_bin ha hb h
theorem ev_idx (ha : a ρ σ = .ok va σ₁) (hb : b ρ σ₁ = .ok vb σ₂) (h : mGet va vb σ₂ = .ok v σ₃) : eIdx a b ρ σ = .ok v σ₃ := ev_bin ha hb h
theorem ev_slTo (ha : a ρ σ = .ok va σ₁) (hb : b ρ σ₁ = .ok vb σ₂) (h : opSlTo va vb σ₂ = .ok v σ₃) : eSlTo a b ρ σ = .ok v σ₃ := ev_bin ha hb h
theorem ev_slFrom (ha : a ρ σ = .ok va σ₁) (hb : b ρ σ₁ = .ok vb σ₂) (h : opSlFrom va vb σ₂ = .ok v σ₃) : eSlFrom a b ρ σ = .ok v σ₃ := ev_bin ha hb h
theorem ev_slFromS (ha : a ρ σ = .ok va σ₁) (hb : b ρ σ₁ = .ok vb σ₂) (h : opSlFromS va vb σ₂ = .ok v σ₃) : eSlFromS a b ρ σ = .ok v σ₃ := ev_bin ha hb h
theorem ev_un (ha : a ρ σ = .ok va σ₁) (h : f1 va σ₁ = .ok v σ₂) : eUn f1 a ρ σ = .ok v σ₂ := by unfold eUn; rw [ha, R.bind_ok, h]
theorem ev_attr {n : String} (ha : a ρ σ = .ok va σ₁) (h : opAttr n va σ₁ = .ok v σ₂) : eAttr a n ρ σ = .ok v σ₂ := ev_un ha h
theorem ev_call (hl : l ρ σ = .ok vs σ₁) (h : fl vs σ₁ = .ok v σ₂) : eCall fl l ρ σ = .ok v σ₂ := by unfold eCall; rw [hl, R.bind_ok, h]
theorem ev_list (hl : l ρ σ = .ok vs σ₁) (hn : vs.length ≤ maxLen) : eList l ρ σ = .ok (.ref σ₁.length) (σ₁ ++ [.list vs]) := by unfold eList allocN; rw [hl, R.bind_ok, if_pos hn]; rfl
theorem ev_tup (hl : l ρ σ = .ok vs σ₁) (hn : vs.length ≤ maxLen) : eTup l ρ σ = .ok (.ref σ₁.length) (σ₁ ++ [.tup vs]) := by unfold eTup allocN; rw [hl, R.bind_ok, if_pos hn]; rfl
theorem ev_lnil : lNil ρ σ = .ok [] σ := rfl
theorem ev_lcons (ha : a ρ σ = .ok v σ₁) (hl : l ρ σ₁ = .ok vs σ₂) : lCons a l ρ σ = .ok (v :: vs) σ₂ := by unfold lCons; rw [ha, R.bind_ok, hl, R.bind_ok]
theorem ev_meth {g : Str → List MV → MH → R MV} {z : Str} (ha : a ρ σ = .ok (.str z) σ₁) (hl : l ρ σ₁ = .ok vs σ₂) (h : g z vs σ₂ = .ok v σ₃) : eMeth g a l ρ σ = .ok v σ₃ := by unfold eMeth; rw [ha, R.bind_ok]; dsimp only; rw [hl, R.bind_ok, h]
theorem ev_instM {n : String} {j : Nat} {as : List (String × MV)} (ha : a ρ σ = .ok (.ref j) σ₁) (h1 : σ₁[j]? = some (.inst as)) (h2 : as.lookup n = none) (hl : l ρ σ₁ = .ok vs σ₂) (h : fl (.ref j :: vs) σ₂ = .ok v σ₃) : eInstM n fl a l ρ σ = .ok v σ₃ := by
  unfold eInstM; rw [ha, R.bind_ok]; dsimp only; rw [h1]; dsimp only; rw [if_pos h2, hl, R.bind_ok, h]
theorem ev_sl3 (ha : a ρ σ = .ok va σ₁) (hb : b ρ σ₁ = .ok vb σ₂) (hc : c ρ σ₂ = .ok vc σ₃) (h : opSl va vb vc σ₃ = .ok v σ₄) : eSl a b c ρ σ = .ok v σ₄ := by unfold eSl; rw [ha, R.bind_ok, hb, R.bind_ok, hc, R.bind_ok, h]
theorem ev_eif (ht : t ρ σ = .ok u σ₁) (h : (if u then a ρ σ₁ else b ρ σ₁) = .ok v σ₂) : eIf t a b ρ σ = .ok v σ₂ := by unfold eIf; rw [ht, R.bind_ok, h]
theorem ev_tOf (h : a ρ σ = .ok (.bool u) σ₁) : tOf a ρ σ = .ok u σ₁ := by unfold tOf; rw [h, R.bind_ok]; rfl
theorem ev_tAnd (h : s ρ σ = .ok u σ₁) (q : (if u then t ρ σ₁ else .ok false σ₁) = .ok w σ₂) : tAnd s t ρ σ = .ok w σ₂ := by unfold tAnd; rw [h, R.bind_ok, q]
theorem ev_tOr (h : s ρ σ = .ok u σ₁) (q : (if u then .ok true σ₁ else t ρ σ₁) = .ok w σ₂) : tOr s t ρ σ = .ok w σ₂ := by unfold tOr; rw [h, R.bind_ok, q]
theorem ev_tNot (h : t ρ σ = .ok u σ₁) : tNot t ρ σ = .ok (!u) σ₁ := by unfold tNot; rw [h, R.bind_ok]
end
theorem ev_T {c : Prop} [Decidable c] {α : Type} {a b r : α} (hc : c) (h : a = r) : (if c then a else b) = r := by rw [if_pos hc, h]
theorem ev_F {c : Prop} [Decidable c] {α : Type} {a b r : α} (hc : ¬ c) (h : b = r) : (if c then a else b) = r := by rw [if_neg hc, h]
section
variable {x : String} {v : MV} {a : ED} {l : LD} {s u : SD} {t : TD} {w : Bool} {r : MF × MEnv} {ρ₁ : MEnv} {xs : List String} {vs : List MV}
theorem ev_pass : sPass ρ σ = .ok (.next, ρ) σ := rfl
theorem ev_assign (h : a ρ σ = .ok v σ₁) : sAssign x a ρ σ = .ok (.next, upd ρ x v) σ₁ := by unfold sAssign; rw [h, R.bind_ok]
theorem ev_assign3 {y z : String} (h : a ρ σ = .ok v σ₁) : sAssign3 x y z a ρ σ = .ok (.next, upd (upd (upd ρ x v) y v) z v) σ₁ := by unfold sAssign3; rw [h, R.bind_ok]
theorem ev_pair (h : l ρ σ = .ok vs σ₁) (hn : vs.length = xs.length) (hu : updAll ρ xs vs = ρ₁) : sPair xs l ρ σ = .ok (.next, ρ₁) σ₁ := by unfold sPair; rw [h, R.bind_ok, if_pos hn, hu]
theorem ev_unpack {i : Nat} (h : a ρ σ = .ok (.ref i) σ₁) (h1 : σ₁[i]? = some (.tup vs)) (hn : vs.length = xs.length) (hu : updAll ρ xs vs = ρ₁) : sUnpack xs a ρ σ = .ok (.next, ρ₁) σ₁ := by
  unfold sUnpack; rw [h, R.bind_ok]; dsimp only; rw [h1]; dsimp only; rw [if_pos hn, hu]
theorem ev_sif (ht : t ρ σ = .ok w σ₁) (h : (if w then s ρ σ₁ else u ρ σ₁) = .ok r σ₂) : sIf t s u ρ σ = .ok r σ₂ := by unfold sIf; rw [ht, R.bind_ok, h]
theorem ev_ret (h : a ρ σ = .ok v σ₁) : sRet a ρ σ = .ok (.ret v, ρ) σ₁ := by unfold sRet; rw [h, R.bind_ok]
end
end
section
variable {ρ ρ₁ : MEnv} {σ σ₁ : MH} {X : Bool → Str → MH → Prop}
theorem wp_seqV {Q : MF × MEnv → MH → Prop} {s u : SD} {r : MF × MEnv} (h : s ρ σ = .ok r σ₁) (q : match r.1 with | .next => Wp (u r.2 σ₁) Q X | f => Q (f, r.2) σ₁) : Wp (sSeq s u ρ σ) Q X := wp_seq (wp_eq h q)
theorem wp_retV {Q : MF × MEnv → MH → Prop} {a : ED} {v : MV} (h : a ρ σ = .ok v σ₁) (q : Q (.ret v, ρ) σ₁) : Wp (sRet a ρ σ) Q X := wp_ret (wp_eq h q)
end
theorem eq_wp {α : Type} {r : R α} {a : α} {σ : MH} (h : Wp r (fun b τ => b = a ∧ τ = σ) fun _ _ _ => False) : r = .ok a σ := by
  obtain ⟨b, τ, e, rfl, rfl⟩ := wp_out h; exact e
section
variable {σ : MH} {v : MV}
theorem op_getL {j : Nat} {k : Int} {p : Nat} {xs : List MV} (h : σ[j]? = some (.list xs)) (hk : place? k xs.length = some p) (hv : xs[p]? = some v) : mGet (.ref j) (.int k) σ = .ok v σ := eq_wp (wp_getL h hk hv ⟨rfl, rfl⟩)
theorem op_getT {j : Nat} {k : Int} {p : Nat} {xs : List MV} (h : σ[j]? = some (.tup xs)) (hk : place? k xs.length = some p) (hv : xs[p]? = some v) : mGet (.ref j) (.int k) σ = .ok v σ := eq_wp (wp_getT h hk hv ⟨rfl, rfl⟩)
theorem op_getS {s : Str} {k : Int} (hk : 0 ≤ k ∧ k < s.length ∧ k < 1000000) : mGet (.str s) (.int k) σ = .ok (.str (Txt.item s k)) σ := eq_wp (wp_getS hk ⟨rfl, rfl⟩)
theorem op_opAttr {n : String} {j : Nat} {as : List (String × MV)} (h : σ[j]? = some (.inst as)) (hv : as.lookup n = some v) : opAttr n (.ref j) σ = .ok v σ := eq_wp (wp_opAttr h hv ⟨rfl, rfl⟩)
theorem op_lenL {j : Nat} {xs : List MV} (h : σ[j]? = some (.list xs)) (hl : xs.length ≤ maxLen) : fLen (.ref j) σ = .ok (.int xs.length) σ := eq_wp (wp_lenL h hl ⟨rfl, rfl⟩)
theorem op_lenT {j : Nat} {xs : List MV} (h : σ[j]? = some (.tup xs)) (hl : xs.length ≤ maxLen) : fLen (.ref j) σ = .ok (.int xs.length) σ := eq_wp (wp_lenT h hl ⟨rfl, rfl⟩)
theorem op_addS {x y : Str} (h : x.length + y.length ≤ maxLen) : opAdd (.str x) (.str y) σ = .ok (.str (x ++ y)) σ := eq_wp (wp_addS h ⟨rfl, rfl⟩)
theorem op_addL {i j : Nat} {xs ys : List MV} (hx : σ[i]? = some (.list xs)) (hy : σ[j]? = some (.list ys)) (h : xs.length + ys.length ≤ maxLen) : opAdd (.ref i) (.ref j) σ = .ok (.ref σ.length) (σ ++ [.list (xs ++ ys)]) := eq_wp (wp_addL hx hy h ⟨rfl, rfl⟩)
theorem op_div {x y : Int} (hx : small x = true) (hy : small y = true) (h0 : y ≠ 0) : opDiv (.int x) (.int y) σ = .ok (.int (Int.fdiv x y)) σ := eq_wp (wp_div hx hy h0 ⟨rfl, rfl⟩)
theorem op_mod {x y : Int} (h0 : y ≠ 0) : opMod (.int x) (.int y) σ = .ok (.int (Int.fmod x y)) σ := eq_wp (wp_mod h0 ⟨rfl, rfl⟩)
theorem op_mul {x y : Int} (hx : small x = true) (hy : small y = true) : opMul (.int x) (.int y) σ = .ok (.int (x * y)) σ := eq_wp (wp_mul hx hy ⟨rfl, rfl⟩)
theorem op_slToL {i : Nat} {j : Int} {xs : List MV} (h : σ[i]? = some (.list xs)) (hk : (okB xs.length j && decide (j ≤ xs.length)) = true) : opSlTo (.ref i) (.int j) σ = .ok (.ref σ.length) (σ ++ [.list (xs.take j.toNat)]) := eq_wp (wp_slToL h hk ⟨rfl, rfl⟩)
theorem op_slFromL {i : Nat} {j : Int} {xs : List MV} (h : σ[i]? = some (.list xs)) (hk : (okB xs.length j && decide (j ≤ xs.length)) = true) : opSlFrom (.ref i) (.int j) σ = .ok (.ref σ.length) (σ ++ [.list (xs.drop j.toNat)]) := eq_wp (wp_slFromL h hk ⟨rfl, rfl⟩)
theorem op_slToS {x : Str} {j : Int} (hk : okB x.length j = true) : opSlTo (.str x) (.int j) σ = .ok (.str (Txt.slice x none (some j))) σ := eq_wp (wp_slToS hk ⟨rfl, rfl⟩)
theorem op_slFromS {x : Str} {j : Int} (hk : okB x.length j = true) : opSlFromS (.str x) (.int j) σ = .ok (.str (Txt.slice x (some j) none)) σ := eq_wp (wp_slFromS hk ⟨rfl, rfl⟩)
theorem op_slS {x : Str} {i j : Int} (hk : (okB x.length i && okB x.length j) = true) : opSl (.str x) (.int i) (.int j) σ = .ok (.str (Txt.slice x (some i) (some j))) σ := eq_wp (wp_slS hk ⟨rfl, rfl⟩)
theorem op_split {x y : Str} (h : y.length ≠ 0 ∧ x.length ≤ maxLen) : mSplit x [.str y] σ = .ok (.ref σ.length) (σ ++ [.list ((Txt.split x y).map .str)]) := eq_wp (wp_split h ⟨rfl, rfl⟩)
theorem op_intS {s : Str} {d : Int} (h : digitOf? s = some d) : fInt (.str s) σ = .ok (.int d) σ := eq_wp (wp_intS h ⟨rfl, rfl⟩)
theorem op_tupleL {i : Nat} {xs : List MV} (h : σ[i]? = some (.list xs)) (hl : xs.length ≤ maxLen) : fTuple (.ref i) σ = .ok (.ref σ.length) (σ ++ [.tup xs]) := eq_wp (wp_tupleL h hl ⟨rfl, rfl⟩)
theorem op_mulL {i : Nat} {y : Int} {v : MV} (h : σ[i]? = some (.list [v])) (hy : 0 ≤ y ∧ y ≤ 1000) : opMul (.ref i) (.int y) σ = .ok (.ref σ.length) (σ ++ [.list (List.replicate y.toNat v)]) := eq_wp (wp_mulL h hy ⟨rfl, rfl⟩)
theorem op_strI {i : Int} (h : 0 ≤ i ∧ i < 10) : fStr (.int i) σ = .ok (.str (digit i)) σ := eq_wp (wp_strI h ⟨rfl, rfl⟩)
theorem op_join {s : Str} {j : Nat} {ys : List MV} {zs : List Str} (h : σ[j]? = some (.list ys)) (hz : strs? ys = some zs) (hl : s.length ≤ 64 ∧ (zs.map (·.length)).sum + zs.length * 64 ≤ 16777216) : mJoin s [.ref j] σ = .ok (.str (Txt.join s zs)) σ := eq_wp (wp_join h hz hl ⟨rfl, rfl⟩)
end
noncomputable abbrev noX : Bool → Str → MH → Prop := fun _ _ _ => False
theorem ite_t {c : Prop} [Decidable c] {a b : Prop} (hc : c) (h : a) : if c then a else b := by rw [if_pos hc]; exact h
theorem ite_f {c : Prop} [Decidable c] {a b : Prop} (hc : ¬ c) (h : b) : if c then a else b := by rw [if_neg hc]; exact h
theorem run_lt (a b : Int) (σ : MH) : ltF [.int a, .int b] σ = .ok (.bool (decide (a < b))) σ := by rfl
theorem run_gt (a b : Int) (σ : MH) : gtF [.int a, .int b] σ = .ok (.bool (decide (a > b))) σ := by rfl
theorem run_sub (a b : Int) (σ : MH) : subF [.int a, .int b] σ = .ok (.int (a - b)) σ := by rfl
theorem run_isT (a : Int) (σ : MH) : isTerminalF [.int a] σ = .ok (.bool (decide (a < 256))) σ := by rfl
theorem run_isN (a : Int) (σ : MH) : isNonterminalF [.int a] σ = .ok (.bool (decide (a ≥ 256))) σ := by rfl
theorem run_isE (a : Int) (σ : MH) : isEofF [.int a] σ = .ok (.bool (a == 0)) σ := by rfl
set_option compiler.extract_closed false
local macro_rules | `(tactic| walk_at $s:str) => do
  let f := fun (s : String) => Lean.mkIdent (.mkSimple s)
  let ap := fun (s : String) => (s.splitOn " ").foldrM (fun n t => `(tactic| first | apply $(f n) | $t:tactic)) =<< `(tactic| fail)
  let nm ← `(tactic| with_reducible first | exact upd_eq | assumption | (repeat first | assumption | exact upd_eq | refine upd_go (by decide) ?_ | refine seen_go (by with_unfolding_all rfl) ?_) <;> done)
  let gt ← `(tactic| with_reducible first | assumption | (repeat first | exact get_last | assumption | refine get_old ?_) <;> done)
  match s.getString with
  | "p:x" => do
    let a ← ap "ev_var ev_val ev_cmp ev_bin ev_idx ev_slTo ev_slFrom ev_slFromS ev_un ev_attr ev_call ev_list ev_tup ev_lnil ev_lcons ev_meth ev_sl3 ev_instM ev_eif ev_tOf ev_tAnd ev_tOr ev_tNot ev_pass ev_assign ev_assign3 ev_pair ev_unpack ev_sif ev_ret op_getS op_div op_mul op_opAttr op_mulL op_strI op_join op_split op_intS op_slToL op_slFromL op_slToS op_slFromS op_slS op_tupleL op_addS op_mod op_addL run_lt run_gt run_sub run_isT run_isN run_isE"
    let e ← `(tactic| first | $nm:tactic | $gt:tactic | (dsimp only [updAll]; done) | with_unfolding_all first | rfl | assumption | decide | exact Nat.le_of_ble_eq_true rfl | walk_at "p:len")
    let e ← ("ev_T ev_F op_lenT op_lenL op_getT op_getL".splitOn " ").foldlM (fun t n => `(tactic| first | (with_reducible apply $(f n) <;> walk_at "p:x") | $t:tactic)) e
    `(tactic| first | with_reducible assumption | ((with_reducible $a:tactic) <;> walk_at "p:x") | $e:tactic)
  | "pn" => pure nm
  | "p:get" => pure gt
  | "ps" => do
    let a ← ap "wp_cmp wp_idx wp_bin wp_un wp_call wp_list wp_tup wp_eif wp_eand wp_lcons wp_tOf wp_tAnd wp_tOr wp_seq wp_assign wp_sif wp_ret wp_pair wp_range wp_rList"
    `(tactic| repeat (with_reducible first
  | refine' wp_eq (by walk_at "p:x") ?_
  | $a:tactic
  | (refine' ⟨_, ?h, ?_⟩; (case h => with_unfolding_all rfl))
  | (refine' And.intro ?h ?_; (case h => with_unfolding_all first | exact rfl | exact Nat.le_of_ble_eq_true rfl | assumption); try dsimp only [updAll])
  | refine' ite_f (by with_unfolding_all first | assumption | decide) ?_
  | refine' ite_t (by with_unfolding_all first | assumption | decide) ?_
  | dsimp only))
  | "p:len" => Lean.Macro.throwUnsupported
  | t => do
    let some n := [("pt", "wp_seqV"), ("p:ret", "wp_retV"), ("p:last", "wp_eq")].lookup t | Lean.Macro.throwUnsupported
    `(tactic| (refine' $(f n) (by walk_at "p:x") ?_; try dsimp only))
theorem run_sorted (k : Int) (σ : MH) (h1 : k ≠ 1) (h2 : k ≠ -1) : sortedF [.int k] σ = .ok (.bool true) σ := by
  have e1 : (k - 1 == 0) = false := by simp; lia
  have e2 : (k + 1 == 0) = false := by simp; lia
  have e3 : decide (k ≥ 256) = decide (k > 255) := by simp; lia
  have e4 : decide (511 - k < 256) = decide (k > 255) := by simp; lia
  have e5 : decide (511 - k ≥ 256) = decide (k < 256) := by simp; lia
  have f1 : ¬ (!((k - 1 == 0) == false)) = true := by rw [e1]; decide
  have f2 : ¬ (!((k + 1 == 0) == false)) = true := by rw [e2]; decide
  have f3 : ¬ (!(decide (k < 256) == decide (k < 256))) = true := by simp
  have f4 : ¬ (!((k == 0) == (k == 0))) = true := by simp
  have f5 : ¬ (!(decide (k ≥ 256) == decide (k > 255))) = true := by rw [e3]; simp
  have f6 : (decide (511 - k < 256) == decide (k > 255)) = true := by rw [e4]; simp
  suffices h : Wp (sortedF [.int k] σ) (fun v σ' => v = .bool true ∧ σ' = σ) noX by
    obtain ⟨v, σ', e, rfl, rfl⟩ := wp_out h; exact e
  refine wp_def rfl ?_
  unfold sortedB
  dsimp only [updAll]
  walk_at "pt"
  walk_at "pt"
  walk_at "pt"
  refine wp_ret ?_
  walk_at "ps"
  rw [f6]
  dsimp only
  walk_at "ps"
  rw [e5]
  simp
theorem len_app (x y : Str) : (x ++ y).length = x.length + y.length := by
  show (x.cps ++ y.cps).size = _
  rw [Array.size_append]; rfl
theorem len_join (m : Str) (zs : List Str) : (Txt.join m zs).length ≤ (zs.map (·.length)).sum + zs.length * m.length := by
  have := StrLaws.join_length_le m zs
  rwa [← StrLaws.glued_eq_join] at this
theorem len_up {x y : Str} {a b : Nat} (hx : x.length ≤ a) (hy : y.length ≤ b) : (x ++ y).length ≤ a + b := by rw [len_app]; exact Nat.add_le_add hx hy
section
local macro_rules | `(tactic| walk_at "p:len") => `(tactic| with_reducible first | exact Nat.le_trans (Nat.add_le_add (by walk_at "p:lb") (by walk_at "p:lb")) (by with_unfolding_all decide) | exact ⟨Nat.le_trans (by walk_at "p:lb") (by decide), by assumption⟩)
local macro_rules | `(tactic| walk_at "p:lb") => `(tactic| with_reducible first | assumption | exact Nat.le_of_eq (by assumption) | exact len_up (by walk_at "p:lb") (by walk_at "p:lb"))
noncomputable def replyS (m s1 s2 d : Str) (f : Int) : Str :=
  let fields := if f = 5 then [Str.ofString "", s1, s2, d] else if f = 7 then [s2, d] else [s1, s2, d]
  let body := m ++ Txt.join m fields ++ m
  if f = 3 then Str.ofString "229 a2" ++ d ++ Str.ofString "2) b"
  else if f = 4 then Str.ofString "229 a) (" ++ body ++ Str.ofString "x"
  else (if f = 0 then Str.ofString "129" else if f = 1 then Str.ofString "219" else if f = 2 then Str.ofString "228" else Str.ofString "229") ++ Str.ofString " a) (" ++ (if f = 6 then body ++ Str.ofString "x" else body) ++ Str.ofString ") (b)"
namespace hkp20
noncomputable abbrev hS (p : Int) (sh : Int) (f : Int) (σ : MH) (b : Nat) (c : Nat) (s1 : PySem.Str) (s2 : PySem.Str) : Prop := ∀ (hp : 0 ≤ p ∧ p < 10) (hsh : small sh = true) (hf : 0 ≤ f ∧ f ≤ 8) (ha : 0 ≤ Int.fmod sh 4 ∧ Int.fmod sh 4 < ((Str.ofString "|!<\"").length : Int) ∧ Int.fmod sh 4 < 1000000) (hb : place? (Int.fmod (Int.fdiv sh 4) 2) 2 = some b) (hc : place? (Int.fmod (Int.fdiv sh 8) 2) 2 = some c) (h1 : ([.str (Str.ofString ""), .str (Str.ofString "7")] : List MV)[b]? = some (.str s1)) (h2 : ([.str (Str.ofString ""), .str (Str.ofString "2")] : List MV)[c]? = some (.str s2)) (l1 : s1.length ≤ 1) (l2 : s2.length ≤ 1), ∃ ext, replyF [.int p, .int sh, .int f] σ = .ok (.str (replyS (Txt.item (Str.ofString "|!<\"") (Int.fmod sh 4)) s1 s2 (digit p) f)) (σ ++ ext)
noncomputable abbrev hP := fun p : Int × Int × Int × MH × Nat × Nat × PySem.Str × PySem.Str => hS p.1 p.2.1 p.2.2.1 p.2.2.2.1 p.2.2.2.2.1 p.2.2.2.2.2.1 p.2.2.2.2.2.2.1 p.2.2.2.2.2.2.2
noncomputable def hW := ce (default, default, default, default, default, default, ⟨#[]⟩, ⟨#[]⟩) hP
noncomputable def p : Int := hW.1
noncomputable def sh : Int := hW.2.1
noncomputable def f : Int := hW.2.2.1
noncomputable def σ : MH := hW.2.2.2.1
noncomputable def b : Nat := hW.2.2.2.2.1
noncomputable def c : Nat := hW.2.2.2.2.2.1
noncomputable def s1 : PySem.Str := hW.2.2.2.2.2.2.1
noncomputable def s2 : PySem.Str := hW.2.2.2.2.2.2.2
theorem hT : hS p sh f σ b c s1 s2 := by
  intro hp hsh hf ha hb hc h1 h2 l1 l2
  suffices h : Wp (replyF [.int p, .int sh, .int f] σ) (fun v σ' => v = .str (replyS (Txt.item (Str.ofString "|!<\"") (Int.fmod sh 4)) s1 s2 (digit p) f) ∧ ∃ ext, σ' = σ ++ ext) noX by
    obtain ⟨v, σ', e, rfl, ext, rfl⟩ := wp_out h; exact ⟨ext, e⟩
  refine wp_def rfl ?_
  unfold replyB
  dsimp only [updAll]
  walk_at "pt"
  walk_at "pt"
  have hl : ∀ zs : List Str, zs.length ≤ 4 → (zs.map (·.length)).sum ≤ 4 → (Txt.join (Txt.item (Str.ofString "|!<\"") (sh.fmod 4)) zs).length ≤ 20 := fun zs h1 h2 => by
    have := len_join (Txt.item (Str.ofString "|!<\"") (sh.fmod 4)) zs
    have e : (Txt.item (Str.ofString "|!<\"") (sh.fmod 4)).length = 1 := rfl
    rw [e] at this; lia
  have ld : (digit p).length = 1 := rfl
  have lm : (Txt.item (Str.ofString "|!<\"") (sh.fmod 4)).length = 1 := rfl
  have le : (Str.ofString "").length = 0 := by decide +kernel
  have j3 := hl [s1, s2, digit p] (by simp) (by simp [ld]; lia)
  have j4 := hl [Str.ofString "", s1, s2, digit p] (by simp) (by simp [ld, le]; lia)
  have j2 := hl [s2, digit p] (by simp) (by simp [ld]; lia)
  have k1 : (Str.ofString "229 a2").length = 6 := by decide +kernel
  have k2 : (Str.ofString "2) b").length = 4 := by decide +kernel
  have k3 : (Str.ofString "229 a) (").length = 8 := by decide +kernel
  have k4 : (Str.ofString "x").length = 1 := by decide +kernel
  have k5 : (Str.ofString "129").length = 3 := by decide +kernel
  have k6 : (Str.ofString "219").length = 3 := by decide +kernel
  have k7 : (Str.ofString "228").length = 3 := by decide +kernel
  have k8 : (Str.ofString "229").length = 3 := by decide +kernel
  have k9 : (Str.ofString " a) (").length = 5 := by decide +kernel
  have k10 : (Str.ofString ") (b)").length = 5 := by decide +kernel
  have m3 : ([s1, s2, digit p].map (·.length)).sum + [s1, s2, digit p].length * 64 ≤ 16777216 := by simp [ld]; lia
  have m4 : ([Str.ofString "", s1, s2, digit p].map (·.length)).sum + [Str.ofString "", s1, s2, digit p].length * 64 ≤ 16777216 := by simp [ld, le]; lia
  have m2 : ([s2, digit p].map (·.length)).sum + [s2, digit p].length * 64 ≤ 16777216 := by simp [ld]; lia
  have hf' : f = 0 ∨ f = 1 ∨ f = 2 ∨ f = 3 ∨ f = 4 ∨ f = 5 ∨ f = 6 ∨ f = 7 ∨ f = 8 := by
    obtain ⟨n, e⟩ := Int.eq_ofNat_of_zero_le hf.1
    have h := hf.2
    rw [e] at h ⊢
    exact (by decide : ∀ n : Nat, n < 9 → (n : Int) = 0 ∨ (n : Int) = 1 ∨ (n : Int) = 2 ∨ (n : Int) = 3 ∨ (n : Int) = 4 ∨ (n : Int) = 5 ∨ (n : Int) = 6 ∨ (n : Int) = 7 ∨ (n : Int) = 8) n (Nat.lt_succ_of_le (Int.ofNat_le.mp h))
  generalize hm : Txt.item (Str.ofString "|!<\"") (sh.fmod 4) = mk at *
  generalize f = f at *
  rcases hf' with rfl | rfl | rfl | rfl | rfl | rfl | rfl | rfl | rfl
  case inr.inr.inr.inl =>
    iterate 4 (walk_at "pt")
    exact ⟨rfl, _, by simp only [List.append_assoc]; rfl⟩
  case inr.inr.inr.inr.inl =>
    iterate 5 (walk_at "pt")
    exact ⟨rfl, _, by simp only [List.append_assoc]; rfl⟩
  all_goals
    iterate 6 (walk_at "pt")
    walk_at "p:ret"
    exact ⟨rfl, _, by simp only [List.append_assoc]; rfl⟩
end hkp20
theorem run_reply : ∀ (p : Int) (sh : Int) (f : Int) (σ : MH) (b : Nat) (c : Nat) (s1 : PySem.Str) (s2 : PySem.Str), hkp20.hS p sh f σ b c s1 s2 := @fun p sh f σ b c s1 s2 => ce_all (P := hkp20.hP) (default, default, default, default, default, default, ⟨#[]⟩, ⟨#[]⟩) (@hkp20.hT) (p, sh, f, σ, b, c, s1, s2)
end
noncomputable def parseL (ps : List Str) : Option (Except Bool Int) := match ps with
  | [_, _, _, d, _] => (match digitOf? d with
    | some p => some (.ok p)
    | none => none)
  | ps => if ps.length ≤ maxLen ∧ (!((ps.length : Int) == 5)) = true then some (.error true) else none
theorem parse_last {P : Prop} {ps : List Str} {o : Option (Except Bool Int)} {e : Except Bool Int} (ho : o = parseL ps) (H : o = some e) (h1 : ∀ a b c d f p, ps = [a, b, c, d, f] → digitOf? d = some p → e = .ok p → P)
    (h2 : (ps.length ≤ maxLen ∧ (!((ps.length : Int) == 5)) = true) → e = .error true → P) : P := by
  subst ho
  have K : (if ps.length ≤ maxLen ∧ (!((ps.length : Int) == 5)) = true then some (Except.error true) else none) = some e → P := fun H => by
    by_cases hc : ps.length ≤ maxLen ∧ (!((ps.length : Int) == 5)) = true
    · rw [if_pos hc] at H; exact h2 hc (Option.some.inj H).symm
    · rw [if_neg hc] at H; cases H
  rcases ps with _ | ⟨a, _ | ⟨b, _ | ⟨c, _ | ⟨d, _ | ⟨f, _ | ⟨g, r⟩⟩⟩⟩⟩⟩
  · exact K H
  · exact K H
  · exact K H
  · exact K H
  · exact K H
  · have H' : (match digitOf? d with
      | some p => some (Except.ok p)
      | none => none) = some e := H
    revert H'
    cases hd : digitOf? d with
    | none => exact fun h => by cases h
    | some p => exact fun h => h1 a b c d f p rfl hd (Option.some.inj h).symm
  · exact K H
noncomputable def parseM (x : Str) : Option (Except Bool Int) :=
  if okB x.length 3 = true then
    if (!(Txt.slice x none (some 3) == Str.ofString "229")) = true then some (.error false)
    else if decide (Txt.find x (Str.ofString "(") < 0) = true then some (.error true)
    else if decide (Txt.find3 x (Str.ofString ")") (Txt.find x (Str.ofString "(") + 1) < 0) = true then some (.error true)
    else if 0 ≤ Txt.find x (Str.ofString "(") + 1 ∧ Txt.find x (Str.ofString "(") + 1 < x.length ∧ Txt.find x (Str.ofString "(") + 1 < 1000000 then
      if 0 ≤ Txt.find3 x (Str.ofString ")") (Txt.find x (Str.ofString "(") + 1) - 1 ∧ Txt.find3 x (Str.ofString ")") (Txt.find x (Str.ofString "(") + 1) - 1 < x.length ∧ Txt.find3 x (Str.ofString ")") (Txt.find x (Str.ofString "(") + 1) - 1 < 1000000 then
        if (!(Txt.item x (Txt.find x (Str.ofString "(") + 1) == Txt.item x (Txt.find3 x (Str.ofString ")") (Txt.find x (Str.ofString "(") + 1) - 1))) = true then some (.error true)
        else if (okB x.length (Txt.find x (Str.ofString "(") + 1) && okB x.length (Txt.find3 x (Str.ofString ")") (Txt.find x (Str.ofString "(") + 1))) = true then
          let y := Txt.slice x (some (Txt.find x (Str.ofString "(") + 1)) (some (Txt.find3 x (Str.ofString ")") (Txt.find x (Str.ofString "(") + 1)))
          let z := Txt.item x (Txt.find x (Str.ofString "(") + 1)
          if z.length ≠ 0 ∧ y.length ≤ maxLen then
            match Txt.split y z with
            | [_, _, _, d, _] => (match digitOf? d with
              | some p => some (.ok p)
              | none => none)
            | ps => if ps.length ≤ maxLen ∧ (!((ps.length : Int) == 5)) = true then some (.error true) else none
          else none
        else none
      else none
    else none
  else none
namespace hkp30
noncomputable abbrev hS (x : PySem.Str) (t : Nat) (h : MV) (r : List MV) (σ : MH) : Prop := ∀ {e : Except Bool Int} (ht : σ[t]? = some (.tup (h :: r))) (hp : place? 0 (h :: r).length = some 0) (H : parseM x = some e), match e with
    | .ok p => ∃ ext j, parse229F [.str x, .ref t] σ = .ok (.ref j) (σ ++ ext) ∧ (σ ++ ext)[j]? = some (.tup [h, .int p])
    | .error cl => ∃ ext, parse229F [.str x, .ref t] σ = .exc cl x (σ ++ ext)
noncomputable abbrev hP := fun p : PySem.Str × Nat × MV × (List MV) × MH => hS p.1 p.2.1 p.2.2.1 p.2.2.2.1 p.2.2.2.2
noncomputable def hW := ce (⟨#[]⟩, default, .none, default, default) hP
noncomputable def x : PySem.Str := hW.1
noncomputable def t : Nat := hW.2.1
noncomputable def h : MV := hW.2.2.1
noncomputable def r : List MV := hW.2.2.2.1
noncomputable def σ : MH := hW.2.2.2.2
theorem hT : hS x t h r σ := by
  intro e ht hp H
  have key : Wp (parse229F [.str x, .ref t] σ) (fun v σ' => ∃ p ext j, e = .ok p ∧ v = .ref j ∧ σ' = σ ++ ext ∧ (σ ++ ext)[j]? = some (.tup [h, .int p])) (fun c m σ' => e = .error c ∧ m = x ∧ ∃ ext, σ' = σ ++ ext) := by
    refine wp_def rfl ?_
    unfold parse229B
    dsimp only [updAll]
    unfold parseM at H
    split at H
    rotate_left
    · cases H
    split at H
    · cases H
      refine wp_seq (wp_sif ?_)
      walk_at "ps"
      refine wp_raise ?_
      walk_at "ps"
      exact ⟨[], (List.append_nil σ).symm⟩
    iterate 2 (walk_at "pt")
    generalize hi : Txt.find x (Str.ofString "(") = i at H ⊢
    split at H
    · cases H
      refine wp_seq (wp_sif ?_)
      walk_at "ps"
      refine wp_raise ?_
      walk_at "ps"
      exact ⟨[], (List.append_nil σ).symm⟩
    iterate 2 (walk_at "pt")
    generalize hj : Txt.find3 x (Str.ofString ")") (i + 1) = j at H ⊢
    split at H
    · cases H
      refine wp_seq (wp_sif ?_)
      walk_at "ps"
      refine wp_raise ?_
      walk_at "ps"
      exact ⟨[], (List.append_nil σ).symm⟩
    walk_at "pt"
    split at H
    rotate_left
    · cases H
    split at H
    rotate_left
    · cases H
    split at H
    · cases H
      refine wp_seq (wp_sif ?_)
      walk_at "ps"
      refine wp_raise ?_
      walk_at "ps"
      exact ⟨[], (List.append_nil σ).symm⟩
    walk_at "pt"
    split at H
    rotate_left
    · cases H
    dsimp only at H
    split at H
    rotate_left
    · cases H
    rename_i hz
    walk_at "pt"
    generalize Txt.split (Txt.slice x (some (i + 1)) (some j)) (Txt.item x (i + 1)) = ps at H ⊢
    refine parse_last rfl H ?_ ?_
    · intro a b c d f p hs hd he
      subst hs
      subst he
      dsimp only [List.map]
      have hn : ¬ (!((([MV.str a, MV.str b, MV.str c, MV.str d, MV.str f] : List MV).length : Int) == 5)) = true := by simp
      iterate 3 (walk_at "pt")
      walk_at "p:ret"
      refine ⟨_, _, _, rfl, rfl, List.append_assoc _ _ _, ?_⟩
      rw [← List.append_assoc]
      exact get_last
    · intro hl he
      subst he
      have l1 : (ps.map MV.str).length ≤ maxLen := by rw [List.length_map]; exact hl.1
      have l2 : (!(((ps.map MV.str).length : Int) == 5)) = true := by rw [List.length_map]; exact hl.2
      refine wp_seq (wp_sif ?_)
      walk_at "ps"
      refine wp_raise ?_
      walk_at "ps"
      exact ⟨_, rfl⟩
  revert key
  unfold Wp
  cases parse229F [.str x, .ref t] σ with
  | stuck => exact fun h => h.elim
  | ok v σ' =>
    rintro ⟨p, ext, j, rfl, rfl, rfl, hj⟩
    exact ⟨ext, j, rfl, hj⟩
  | exc c m σ' =>
    rintro ⟨rfl, rfl, ext, rfl⟩
    exact ⟨ext, rfl⟩
end hkp30
theorem run_parse : ∀ {x : PySem.Str} {t : Nat} {h : MV} {r : List MV} {σ : MH}, hkp30.hS x t h r σ := @fun x t h r σ => ce_all (P := hkp30.hP) (⟨#[]⟩, default, .none, default, default) (@hkp30.hT) (x, t, h, r, σ)
theorem o0 : Str.ofString "" = ⟨#[]⟩ := by decide +kernel
theorem o1 : Str.ofString "229 a2" = ⟨#[50, 50, 57, 32, 97, 50]⟩ := by decide +kernel
theorem o2 : Str.ofString "2) b" = ⟨#[50, 41, 32, 98]⟩ := by decide +kernel
theorem o3 : Str.ofString "229 a) (" = ⟨#[50, 50, 57, 32, 97, 41, 32, 40]⟩ := by decide +kernel
theorem o4 : Str.ofString "x" = ⟨#[120]⟩ := by decide +kernel
theorem o5 : Str.ofString "129" = ⟨#[49, 50, 57]⟩ := by decide +kernel
theorem o6 : Str.ofString "219" = ⟨#[50, 49, 57]⟩ := by decide +kernel
theorem o7 : Str.ofString "228" = ⟨#[50, 50, 56]⟩ := by decide +kernel
theorem o8 : Str.ofString "229" = ⟨#[50, 50, 57]⟩ := by decide +kernel
theorem o9 : Str.ofString " a) (" = ⟨#[32, 97, 41, 32, 40]⟩ := by decide +kernel
theorem o10 : Str.ofString ") (b)" = ⟨#[41, 32, 40, 98, 41]⟩ := by decide +kernel
theorem o11 : Str.ofString "(" = ⟨#[40]⟩ := by decide +kernel
theorem o12 : Str.ofString ")" = ⟨#[41]⟩ := by decide +kernel
noncomputable def markOf (a : Nat) : Str := ⟨#[[124, 33, 60, 34].getD a 0]⟩
noncomputable def f1Of (b : Nat) : Str := if b = 0 then ⟨#[]⟩ else ⟨#[55]⟩
noncomputable def f2Of (c : Nat) : Str := if c = 0 then ⟨#[]⟩ else ⟨#[50]⟩
noncomputable def replyS' (m s1 s2 d : Str) (f : Nat) : Str :=
  let fields := if f = 5 then [⟨#[]⟩, s1, s2, d] else if f = 7 then [s2, d] else [s1, s2, d]
  let body := m ++ Txt.join m fields ++ m
  if f = 3 then ⟨#[50, 50, 57, 32, 97, 50]⟩ ++ d ++ ⟨#[50, 41, 32, 98]⟩
  else if f = 4 then ⟨#[50, 50, 57, 32, 97, 41, 32, 40]⟩ ++ body ++ ⟨#[120]⟩
  else (if f = 0 then ⟨#[49, 50, 57]⟩ else if f = 1 then ⟨#[50, 49, 57]⟩ else if f = 2 then ⟨#[50, 50, 56]⟩ else ⟨#[50, 50, 57]⟩) ++ ⟨#[32, 97, 41, 32, 40]⟩ ++ (if f = 6 then body ++ ⟨#[120]⟩ else body) ++ ⟨#[41, 32, 40, 98, 41]⟩
theorem replyS_eq {m s1 s2 d : Str} {f : Nat} (hf : f ≤ 8) : replyS m s1 s2 d (f : Int) = replyS' m s1 s2 d f := by
  unfold replyS replyS'
  rw [o0, o1, o2, o3, o4, o5, o6, o7, o8, o9, o10]
  have : f = 0 ∨ f = 1 ∨ f = 2 ∨ f = 3 ∨ f = 4 ∨ f = 5 ∨ f = 6 ∨ f = 7 ∨ f = 8 := (by decide : ∀ f, f < 9 → f = 0 ∨ f = 1 ∨ f = 2 ∨ f = 3 ∨ f = 4 ∨ f = 5 ∨ f = 6 ∨ f = 7 ∨ f = 8) f (Nat.lt_succ_of_le hf)
  rcases this with rfl | rfl | rfl | rfl | rfl | rfl | rfl | rfl | rfl <;> rfl
noncomputable def replyT (p a b c f : Nat) : Str := replyS' (markOf a) (f1Of b) (f2Of c) (digit (p : Int)) f
noncomputable def parseM' (x : Str) : Option (Except Bool Int) :=
  if okB x.length 3 = true then
    if (!(Txt.slice x none (some 3) == ⟨#[50, 50, 57]⟩)) = true then some (.error false)
    else
    let l := Txt.find x ⟨#[40]⟩
    if decide (l < 0) = true then some (.error true)
    else
    let r := Txt.find3 x ⟨#[41]⟩ (l + 1)
    if decide (r < 0) = true then some (.error true)
    else if 0 ≤ l + 1 ∧ l + 1 < x.length ∧ l + 1 < 1000000 then
      if 0 ≤ r - 1 ∧ r - 1 < x.length ∧ r - 1 < 1000000 then
        if (!(Txt.item x (l + 1) == Txt.item x (r - 1))) = true then some (.error true)
        else if (okB x.length (l + 1) && okB x.length r) = true then
          let y := Txt.slice x (some (l + 1)) (some r)
          let z := Txt.item x (l + 1)
          if z.length ≠ 0 ∧ y.length ≤ maxLen then
            match Txt.split y z with
            | [_, _, _, d, _] => (match digitOf? d with
              | some p => some (.ok p)
              | none => none)
            | ps => if ps.length ≤ maxLen ∧ (!((ps.length : Int) == 5)) = true then some (.error true) else none
          else none
        else none
      else none
    else none
  else none
theorem parseM_eq (x : Str) : parseM x = parseM' x := by
  unfold parseM parseM'
  rw [o8, o11, o12]; try rfl
noncomputable def replyOk (p a b c f : Nat) : Bool := match parseM' (replyT p a b c f) with
  | some (.ok q) => f == 8 && q == (p : Int)
  | some (.error e) => decide (f < 8) && e == decide (3 ≤ f)
  | none => false
noncomputable def replyAll (f : Nat) : Bool := (List.range 10).all fun p => (List.range 4).all fun a => (List.range 2).all fun b => (List.range 2).all fun c => replyOk p a b c f
theorem reply_ok0 : replyAll 0 = true := by decide +kernel
theorem reply_ok1 : replyAll 1 = true := by decide +kernel
theorem reply_ok2 : replyAll 2 = true := by decide +kernel
theorem reply_ok3 : replyAll 3 = true := by decide +kernel
theorem reply_ok4 : replyAll 4 = true := by decide +kernel
theorem reply_ok5 : replyAll 5 = true := by decide +kernel
theorem reply_ok6 : replyAll 6 = true := by decide +kernel
theorem reply_ok7 : replyAll 7 = true := by decide +kernel
theorem reply_ok8 : replyAll 8 = true := by decide +kernel
theorem reply_ok {p a b c f : Nat} (hp : p < 10) (ha : a < 4) (hb : b < 2) (hc : c < 2) (hf : f ≤ 8) : replyOk p a b c f = true := by
  have : replyAll f = true := by
    have : f = 0 ∨ f = 1 ∨ f = 2 ∨ f = 3 ∨ f = 4 ∨ f = 5 ∨ f = 6 ∨ f = 7 ∨ f = 8 := by lia
    rcases this with h | h | h | h | h | h | h | h | h <;> rw [h]
    · exact reply_ok0
    · exact reply_ok1
    · exact reply_ok2
    · exact reply_ok3
    · exact reply_ok4
    · exact reply_ok5
    · exact reply_ok6
    · exact reply_ok7
    · exact reply_ok8
  exact List.all_eq_true.mp (List.all_eq_true.mp (List.all_eq_true.mp (List.all_eq_true.mp this p (List.mem_range.mpr hp)) a (List.mem_range.mpr ha)) b (List.mem_range.mpr hb)) c (List.mem_range.mpr hc)
structure WS where
  count : List Nat
  b : Nat
  n : Nat
  nt : Nat
noncomputable def wsTab (w : WS) : WS :=
  let c := if w.count.length ≤ w.b then w.count ++ List.replicate (w.b - w.count.length + 1) 0 else w.count
  ⟨c.set w.b (c.getD w.b 0 + 1), 0, w.n + 1, w.nt + 1⟩
noncomputable def wsGo : List Nat → WS → WS
  | [], w => w
  | c :: r, w => if c = 32 then wsGo r ⟨w.count, w.b + 1, w.n + 1, w.nt⟩ else if c = 9 then wsGo r (wsTab w) else w
noncomputable def wsOf (l : List Nat) : WS := wsGo l ⟨[], 0, 0, 0⟩
noncomputable def natL (l : List Nat) : List MV := l.map fun (k : Nat) => .int (k : Int)
noncomputable def wsAttrs (raw : Str) (w : WS) (nr : Nat) : List (String × MV) :=
  [("raw", .str raw), ("n", .int (w.n : Int)), ("nt", .int (w.nt : Int)), ("norm", .ref nr), ("is_simple", .bool (decide ((w.count.length : Int) ≤ 1)))]
noncomputable def HasWs (σ : MH) (j : Nat) (w : WS) : Prop := ∃ raw nr nc, σ[j]? = some (.inst (wsAttrs raw w nr)) ∧ σ[nr]? = some (.tup [.ref nc, .int (w.b : Int)]) ∧ σ[nc]? = some (.tup (natL w.count))
theorem natL_get {l : List Nat} {p : Nat} (h : p < l.length) : (natL l)[p]? = some (.int ((l.getD p 0 : Nat) : Int)) := by
  unfold natL
  rw [List.getElem?_map, List.getElem?_eq_getElem h, List.getD_eq_getElem?_getD, List.getElem?_eq_getElem h]; rfl
theorem natL_len (l : List Nat) : (natL l).length = l.length := List.length_map ..
theorem natL_set {l : List Nat} {p v : Nat} : (natL l).set p (.int (v : Int)) = natL (l.set p v) := by
  unfold natL; rw [List.map_set]
theorem place_nat {p n : Nat} (h : p < n) (hn : n ≤ 1000) : place? (p : Int) n = some p := by
  unfold place?
  rw [if_pos (Int.natCast_nonneg _), if_pos ⟨Int.ofNat_lt.mpr h, Int.ofNat_lt.mpr (Nat.lt_of_lt_of_le h (Nat.le_trans hn (by decide)))⟩, Int.toNat_natCast]
noncomputable def WsInv (σ₀ : MH) (self : Nat) (raw : Str) (w : WS) (ρ : MEnv) (σ : MH) : Prop :=
  ρ "self" = some (.ref self) ∧ ρ "S" = some (.str (Str.ofString " ")) ∧ ρ "T" = some (.str (Str.ofString "\t")) ∧ ρ "b" = some (.int (w.b : Int)) ∧ ρ "n" = some (.int (w.n : Int)) ∧ ρ "nt" = some (.int (w.nt : Int)) ∧
  (∃ c, ρ "count" = some (.ref c) ∧ c ≠ 0 ∧ c ≠ self ∧ σ₀.length ≤ c ∧ σ[c]? = some (.list (natL w.count))) ∧ σ[self]? = some (.inst [("raw", .str raw)]) ∧ (∃ ext, σ = σ₀ ++ ext)
noncomputable def wsSmall (w : WS) (k : Nat) : Prop := w.count.length ≤ k ∧ w.b ≤ k ∧ w.n ≤ k ∧ w.nt ≤ k
theorem get_lt {σ : MH} {i : Nat} {o : MO} (h : σ[i]? = some o) : i < σ.length := by
  rcases Nat.lt_or_ge i σ.length with h' | h'
  · exact h'
  · rw [List.getElem?_eq_none h'] at h; cases h
theorem ext_app {σ₀ σ l : MH} (h : ∃ ext, σ = σ₀ ++ ext) : ∃ ext, σ ++ l = σ₀ ++ ext := by
  obtain ⟨e, rfl⟩ := h; exact ⟨_, List.append_assoc _ _ _⟩
theorem ext_len {σ₀ σ : MH} (h : ∃ ext, σ = σ₀ ++ ext) : σ₀.length ≤ σ.length := by
  obtain ⟨e, rfl⟩ := h; rw [List.length_append]; lia
theorem ext_set {σ₀ ext : MH} {i : Nat} {o : MO} (h : σ₀.length ≤ i) : ∃ ext', (σ₀ ++ ext).set i o = σ₀ ++ ext' := ⟨_, List.set_append_right _ _ h⟩
theorem ws_space {σ₀ : MH} {self : Nat} {raw : Str} {w : WS} {ρ : MEnv} {σ : MH} (hI : WsInv σ₀ self raw w ρ σ) :
    Wp ((sSeq (sAssign "n" (eBin opAdd (eVar "n") (eVal (.int 1)))) (sAssign "b" (eBin opAdd (eVar "b") (eVal (.int 1))))) ρ σ) (fun r σ' => r.1 = .next ∧ WsInv σ₀ self raw ⟨w.count, w.b + 1, w.n + 1, w.nt⟩ r.2 σ') noX := by
  refine box fun GZ kZ => ?_
  obtain ⟨h1, h2, h3, h4, h5, h6, ⟨c, h7, h8, h8', h8'', h9⟩, h10, h11⟩ := hI
  refine kZ ?_
  clear kZ GZ
  walk_at "pt"
  walk_at "p:last"
  refine ⟨rfl, ?_, ?_, ?_, ?_, ?_, ?_, ⟨c, ?_, h8, h8', h8'', h9⟩, h10, h11⟩
  all_goals first | walk_at "pn" | (push_cast; walk_at "pn")
theorem ws_tail {σ₀ : MH} {self c : Nat} {raw : Str} {b n nt : Nat} {l : List Nat} {ρ : MEnv} {σ : MH} (hb : b < l.length) (hl : l.length ≤ 1000)
    (h1 : ρ "self" = some (.ref self)) (h2 : ρ "S" = some (.str (Str.ofString " "))) (h3 : ρ "T" = some (.str (Str.ofString "\t"))) (h4 : ρ "b" = some (.int (b : Int))) (h5 : ρ "n" = some (.int (n : Int))) (h6 : ρ "nt" = some (.int (nt : Int)))
    (h7 : ρ "count" = some (.ref c)) (h8 : c ≠ 0) (h8' : c ≠ self) (h8'' : σ₀.length ≤ c) (h9 : σ[c]? = some (.list (natL l))) (h10 : σ[self]? = some (.inst [("raw", .str raw)])) (h11 : ∃ ext, σ = σ₀ ++ ext) :
    Wp ((sSeq (sSetItem (eVar "count") (eVar "b") (eBin opAdd (eIdx (eVar "count") (eVar "b")) (eVal (.int 1))))
        (sAssign "b" (eVal (.int 0)))) ρ σ) (fun r σ' => r.1 = .next ∧ WsInv σ₀ self raw ⟨l.set b (l.getD b 0 + 1), 0, n, nt⟩ r.2 σ') noX := by
  have hp' := natL_get hb
  have hq : place? (b : Int) (natL l).length = some b := by rw [natL_len]; exact place_nat hb hl
  refine wp_seq (wp_setItem ?_)
  walk_at "ps"
  refine ⟨_, _, _, rfl, rfl, h9, ⟨h8, ?_, ?_, ?_⟩, ?_⟩
  · lia
  · rw [natL_len]; lia
  · lia
  walk_at "p:last"
  obtain ⟨ext, rfl⟩ := h11
  refine ⟨rfl, ?_, ?_, ?_, ?_, ?_, ?_, ⟨c, ?_, h8, h8', h8'', (get_set_eq h9).trans (by rw [Int.toNat_natCast]; exact congrArg (fun z => some (MO.list z)) natL_set)⟩, get_set_ne h8' h10, ext_set h8''⟩
  all_goals first | walk_at "pn" | (push_cast; walk_at "pn")
namespace hkp50
noncomputable abbrev hS (σ₀ : MH) (self : Nat) (raw : PySem.Str) (w : WS) (ρ : MEnv) (σ : MH) : Prop := ∀ (hs : wsSmall w 100) (hI : WsInv σ₀ self raw w ρ σ), Wp ((sSeq (sAssign "n" (eBin opAdd (eVar "n") (eVal (.int 1))))
        (sSeq (sAssign "nt" (eBin opAdd (eVar "nt") (eVal (.int 1))))
        (sSeq (sIf (tOf (eCmp .ge (eVar "b") (eUn fLen (eVar "count"))))
          (sAssign "count" (eBin opAdd (eVar "count") (eBin opMul (eList (lCons (eVal (.int 0)) lNil)) (eBin opAdd (eBin opSub (eVar "b") (eUn fLen (eVar "count"))) (eVal (.int 1))))))
          sPass)
        (sSeq (sSetItem (eVar "count") (eVar "b") (eBin opAdd (eIdx (eVar "count") (eVar "b")) (eVal (.int 1))))
        (sAssign "b" (eVal (.int 0))))))) ρ σ) (fun r σ' => r.1 = .next ∧ WsInv σ₀ self raw (wsTab w) r.2 σ') noX
noncomputable abbrev hP := fun p : MH × Nat × PySem.Str × WS × MEnv × MH => hS p.1 p.2.1 p.2.2.1 p.2.2.2.1 p.2.2.2.2.1 p.2.2.2.2.2
noncomputable def hW := ce (default, default, ⟨#[]⟩, ⟨[], 0, 0, 0⟩, default, default) hP
noncomputable def σ₀ : MH := hW.1
noncomputable def self : Nat := hW.2.1
noncomputable def raw : PySem.Str := hW.2.2.1
noncomputable def w : WS := hW.2.2.2.1
noncomputable def ρ : MEnv := hW.2.2.2.2.1
noncomputable def σ : MH := hW.2.2.2.2.2
theorem hT : hS σ₀ self raw w ρ σ := by
  intro hs hI
  refine box fun GZ kZ => ?_
  obtain ⟨h1, h2, h3, h4, h5, h6, ⟨c, h7, h8, h8', h8'', h9⟩, h10, h11⟩ := hI
  obtain ⟨s1, s2, s3, s4⟩ := hs
  refine kZ ?_
  clear kZ GZ
  have hl : (natL w.count).length ≤ maxLen := by rw [natL_len]; exact Nat.le_trans s1 (by decide)
  have hsl := get_lt h10
  walk_at "pt"
  walk_at "pt"
  unfold wsTab
  by_cases hb : w.count.length ≤ w.b
  · have hb' : decide ((w.b : Int) ≥ ((natL w.count).length : Int)) = true := by rw [natL_len]; exact decide_eq_true (Int.ofNat_le.mpr hb)
    have hc : (w.b : Int) - ((natL w.count).length : Int) + 1 = ((w.b - w.count.length + 1 : Nat) : Int) := by rw [natL_len, ← Int.ofNat_sub hb]; rfl
    have hd : w.b - w.count.length + 1 ≤ 101 := Nat.succ_le_succ (Nat.le_trans (Nat.sub_le ..) s2)
    have hy : 0 ≤ (w.b : Int) - ((natL w.count).length : Int) + 1 ∧ (w.b : Int) - ((natL w.count).length : Int) + 1 ≤ 1000 := by rw [hc]; exact ⟨Int.natCast_nonneg _, Int.ofNat_le.mpr (Nat.le_trans hd (by decide))⟩
    have ha : (natL w.count).length + (List.replicate ((w.b : Int) - ((natL w.count).length : Int) + 1).toNat (MV.int 0)).length ≤ maxLen := by
      rw [hc, Int.toNat_natCast, natL_len, List.length_replicate]; exact Nat.le_trans (Nat.add_le_add s1 hd) (by decide)
    walk_at "pt"
    have hn : (natL w.count ++ List.replicate ((w.b : Int) - ((natL w.count).length : Int) + 1).toNat (MV.int 0)) = natL (w.count ++ List.replicate (w.b - w.count.length + 1) 0) := by
      rw [hc, Int.toNat_natCast]
      unfold natL
      rw [List.map_append, List.map_replicate]; rfl
    rw [hn, if_pos hb]
    have hp : w.b < (w.count ++ List.replicate (w.b - w.count.length + 1) 0).length := by rw [List.length_append, List.length_replicate, ← Nat.add_assoc, Nat.add_sub_of_le hb]; exact Nat.lt_succ_self _
    have hel := ext_len h11
    refine ws_tail (n := w.n + 1) (nt := w.nt + 1) hp (by rw [List.length_append, List.length_replicate, ← Nat.add_assoc, Nat.add_sub_of_le hb]; exact Nat.le_trans (Nat.succ_le_succ s2) (by decide)) ?_ ?_ ?_ ?_ ?_ ?_ upd_eq (by simp) (by simp; lia) (by simp; lia) get_last (get_old (get_old (get_old h10))) (ext_app (ext_app (ext_app h11)))
    all_goals first | walk_at "pn" | (push_cast; walk_at "pn")
  · have hb' : ¬ decide ((w.b : Int) ≥ ((natL w.count).length : Int)) = true := by rw [natL_len]; exact fun h => hb (Int.ofNat_le.mp (of_decide_eq_true h))
    walk_at "pt"
    rw [if_neg hb]
    refine ws_tail (n := w.n + 1) (nt := w.nt + 1) (Nat.lt_of_not_le hb) (Nat.le_trans s1 (by decide)) ?_ ?_ ?_ ?_ ?_ ?_ ?_ h8 h8' h8'' h9 h10 h11
    all_goals first | walk_at "pn" | (push_cast; walk_at "pn")
end hkp50
theorem ws_tab : ∀ {σ₀ : MH} {self : Nat} {raw : PySem.Str} {w : WS} {ρ : MEnv} {σ : MH}, hkp50.hS σ₀ self raw w ρ σ := @fun σ₀ self raw w ρ σ => ce_all (P := hkp50.hP) (default, default, ⟨#[]⟩, ⟨[], 0, 0, 0⟩, default, default) (@hkp50.hT) (σ₀, self, raw, w, ρ, σ)
theorem ws_ch {σ₀ : MH} {self : Nat} {raw : Str} {w : WS} {ρ : MEnv} {σ : MH} {v : MV} (hI : WsInv σ₀ self raw w ρ σ) : WsInv σ₀ self raw w (upd ρ "ch" v) σ := by
  refine box fun GZ kZ => ?_
  obtain ⟨h1, h2, h3, h4, h5, h6, ⟨c, h7, h8, h8', h8'', h9⟩, h10, h11⟩ := hI
  refine kZ ?_
  clear kZ GZ
  refine ⟨?_, ?_, ?_, ?_, ?_, ?_, ⟨c, ?_, h8, h8', h8'', h9⟩, h10, h11⟩
  all_goals walk_at "pn"
theorem is_space (c : Nat) : ((⟨#[c]⟩ : Str) == Str.ofString " ") = decide (c = 32) := by
  rw [show Str.ofString " " = ⟨#[32]⟩ by decide +kernel]
  by_cases h : c = 32
  · subst h; decide
  · rw [decide_eq_false h]; exact beq_false_of_ne (fun e => h (by injection e with e; injection e with e; injection e))
theorem is_tab (c : Nat) : ((⟨#[c]⟩ : Str) == Str.ofString "\t") = decide (c = 9) := by
  rw [show Str.ofString "\t" = ⟨#[9]⟩ by decide +kernel]
  by_cases h : c = 9
  · subst h; decide
  · rw [decide_eq_false h]; exact beq_false_of_ne (fun e => h (by injection e with e; injection e with e; injection e))
theorem wsSmall_space {w : WS} {k : Nat} (h : wsSmall w k) : wsSmall ⟨w.count, w.b + 1, w.n + 1, w.nt⟩ (k + 1) := by
  obtain ⟨a, b, c, d⟩ := h; exact ⟨Nat.le_succ_of_le a, Nat.succ_le_succ b, Nat.succ_le_succ c, Nat.le_succ_of_le d⟩
theorem wsSmall_tab {w : WS} {k : Nat} (h : wsSmall w k) : wsSmall (wsTab w) (k + 1) := by
  refine box fun GZ kZ => ?_
  obtain ⟨a, b, c, d⟩ := h
  refine kZ ?_
  clear kZ GZ
  refine ⟨?_, Nat.zero_le _, ?_, ?_⟩
  · unfold wsTab; dsimp only; rw [List.length_set]
    split
    · next h => rw [List.length_append, List.length_replicate, ← Nat.add_assoc, Nat.add_sub_of_le h]; exact Nat.succ_le_succ b
    · exact Nat.le_succ_of_le a
  · exact Nat.succ_le_succ c
  · exact Nat.succ_le_succ d
noncomputable def wsBody : SD := sIf (tOf (eCmp .eq (eVar "ch") (eVar "S")))
      (sSeq (sAssign "n" (eBin opAdd (eVar "n") (eVal (.int 1))))
      (sAssign "b" (eBin opAdd (eVar "b") (eVal (.int 1)))))
      (sIf (tOf (eCmp .eq (eVar "ch") (eVar "T")))
        (sSeq (sAssign "n" (eBin opAdd (eVar "n") (eVal (.int 1))))
        (sSeq (sAssign "nt" (eBin opAdd (eVar "nt") (eVal (.int 1))))
        (sSeq (sIf (tOf (eCmp .ge (eVar "b") (eUn fLen (eVar "count"))))
          (sAssign "count" (eBin opAdd (eVar "count") (eBin opMul (eList (lCons (eVal (.int 0)) lNil)) (eBin opAdd (eBin opSub (eVar "b") (eUn fLen (eVar "count"))) (eVal (.int 1))))))
          sPass)
        (sSeq (sSetItem (eVar "count") (eVar "b") (eBin opAdd (eIdx (eVar "count") (eVar "b")) (eVal (.int 1))))
        (sAssign "b" (eVal (.int 0)))))))
        sBreak)
theorem ws_loop {σ₀ : MH} {self : Nat} {raw : Str} : ∀ (cs : List Nat) (k : Nat) (w : WS) (ρ : MEnv) (σ : MH), k + cs.length ≤ 100 → wsSmall w k → WsInv σ₀ self raw w ρ σ →
    Wp (forGo (.chars raw) "ch" wsBody (cs.map fun c => .str ⟨#[c]⟩) ρ σ) (fun r σ' => r.1 = .next ∧ WsInv σ₀ self raw (wsGo cs w) r.2 σ') noX
  | [], k, w, ρ, σ, hk, hs, hI => ⟨rfl, hI⟩
  | c :: cs, k, w, ρ, σ, hk, hs, hI => by
    rw [List.length_cons] at hk
    rw [List.map_cons]
    refine wp_goCons ?_
    have hI' := ws_ch (v := .str ⟨#[c]⟩) hI
    have hS := hI'.2.1
    have hT := hI'.2.2.1
    have hC : upd ρ "ch" (.str ⟨#[c]⟩) "ch" = some (.str ⟨#[c]⟩) := upd_eq
    revert hI' hS hT hC
    generalize upd ρ "ch" (.str ⟨#[c]⟩) = ρ'
    intro hI' hS hT hC
    refine wp_sif ?_
    walk_at "ps"
    rw [is_space]
    unfold wsGo
    by_cases h32 : c = 32
    · rw [if_pos h32, if_pos (decide_eq_true h32)]
      refine wp_mono (ws_space hI') (fun r σ' ⟨h1, h2⟩ => ?_) (fun _ _ _ h => h)
      rw [h1]
      exact ⟨rfl, ws_loop cs (k + 1) _ _ _ (by lia) (wsSmall_space hs) h2⟩
    · rw [if_neg h32, if_neg (by rw [decide_eq_false h32]; decide)]
      refine wp_sif ?_
      walk_at "ps"
      rw [is_tab]
      by_cases h9 : c = 9
      · rw [if_pos h9, if_pos (decide_eq_true h9)]
        refine wp_mono (ws_tab (by obtain ⟨a, b, c, d⟩ := hs; exact ⟨by lia, by lia, by lia, by lia⟩) hI') (fun r σ' ⟨h1, h2⟩ => ?_) (fun _ _ _ h => h)
        rw [h1]
        exact ⟨rfl, ws_loop cs (k + 1) _ _ _ (by lia) (wsSmall_tab hs) h2⟩
      · rw [if_neg h9, if_neg (by rw [decide_eq_false h9]; decide)]
        exact ⟨rfl, hI'⟩
theorem wsSmall_go : ∀ (cs : List Nat) (w : WS) (k : Nat), wsSmall w k → wsSmall (wsGo cs w) (k + cs.length)
  | [], w, k, h => h
  | c :: cs, w, k, h => by
    refine box fun GZ kZ => ?_
    obtain ⟨a, b, d, e⟩ := h
    refine kZ ?_
    clear kZ GZ
    unfold wsGo
    rw [List.length_cons]
    split
    · have := wsSmall_go cs _ (k + 1) (wsSmall_space ⟨a, b, d, e⟩)
      rw [show k + (cs.length + 1) = k + 1 + cs.length by lia]; exact this
    · split
      · have := wsSmall_go cs _ (k + 1) (wsSmall_tab ⟨a, b, d, e⟩)
        rw [show k + (cs.length + 1) = k + 1 + cs.length by lia]; exact this
      · exact ⟨by lia, by lia, by lia, by lia⟩
namespace hkp51
noncomputable abbrev hS (σ₀ : MH) (raw : PySem.Str) : Prop := ∀ (h0 : σ₀.length ≠ 0) (hr : raw.cps.toList.length ≤ 100), ∃ ext, initF [.ref σ₀.length, .str raw] (σ₀ ++ [.inst []]) = .ok .none (σ₀ ++ ext) ∧ HasWs (σ₀ ++ ext) σ₀.length (wsOf raw.cps.toList)
noncomputable abbrev hP := fun p : MH × PySem.Str => hS p.1 p.2
noncomputable def hW := ce (default, ⟨#[]⟩) hP
noncomputable def σ₀ : MH := hW.1
noncomputable def raw : PySem.Str := hW.2
theorem hT : hS σ₀ raw := by
  intro h0 hr
  suffices h : Wp (initF [.ref σ₀.length, .str raw] (σ₀ ++ [.inst []])) (fun v σ' => v = .none ∧ ∃ ext, σ' = σ₀ ++ ext ∧ HasWs (σ₀ ++ ext) σ₀.length (wsOf raw.cps.toList)) noX by
    obtain ⟨v, σ', e, rfl, ext, rfl, h⟩ := wp_out h; exact ⟨ext, e, h⟩
  refine wp_def rfl ?_
  unfold initB
  dsimp only [updAll]
  refine wp_seq (wp_setAttr ?_)
  walk_at "ps"
  refine ⟨_, _, rfl, get_last, ⟨h0, rfl, Nat.le_of_ble_eq_true rfl⟩, ?_⟩
  rw [show (σ₀ ++ [MO.inst []]).set σ₀.length (.inst ([] ++ [("raw", .str raw)])) = σ₀ ++ [MO.inst [("raw", .str raw)]] by rw [List.set_append_right _ _ (Nat.le_refl _), Nat.sub_self]; rfl]
  iterate 3 walk_at "pt"
  refine wp_seq (wp_for ?_)
  refine wp_rList ?_
  walk_at "ps"
  refine Or.inr ⟨_, rfl, ?_⟩
  refine wp_mono (ws_loop (σ₀ := σ₀) (self := σ₀.length) raw.cps.toList 0 ⟨[], 0, 0, 0⟩ _ _ (by lia) ⟨Nat.le_refl _, Nat.le_refl _, Nat.le_refl _, Nat.le_refl _⟩ ?_) ?_ (fun _ _ _ h => h)
  · refine ⟨?_, ?_, ?_, ?_, ?_, ?_, ⟨_, ?_, ?_, ?_, ?_, get_last⟩, get_old get_last, ext_app ⟨_, rfl⟩⟩
    case refine_7 => walk_at "pn"
    case refine_8 => simp
    case refine_9 => simp
    case refine_10 => simp
    all_goals first | walk_at "pn" | (show _ = some (MV.int 0); walk_at "pn")
  intro r σ ⟨hr1, hI⟩
  rw [hr1]
  have hw := wsSmall_go raw.cps.toList ⟨[], 0, 0, 0⟩ 0 ⟨Nat.le_refl _, Nat.le_refl _, Nat.le_refl _, Nat.le_refl _⟩
  rw [show wsGo raw.cps.toList ⟨[], 0, 0, 0⟩ = wsOf raw.cps.toList from rfl] at hI hw
  generalize wsOf raw.cps.toList = w at hI hw
  generalize r.2 = ρ at hI
  refine box fun GZ kZ => ?_
  obtain ⟨h1, h2, h3, h4, h5, h6, ⟨c, h7, h8, h8', h8'', h9⟩, h10, h11⟩ := hI
  obtain ⟨w1, w2, w3, w4⟩ := hw
  refine kZ ?_
  clear kZ GZ
  try dsimp only
  refine wp_seq (wp_setAttr ?_)
  walk_at "ps"
  refine ⟨_, _, rfl, h10, ⟨h0, rfl, Nat.le_of_ble_eq_true rfl⟩, ?_⟩
  have g10 := get_set_eq (o' := .inst ([("raw", .str raw)] ++ [("n", .int (w.n : Int))])) h10
  have g9 := get_set_ne (o' := .inst ([("raw", .str raw)] ++ [("n", .int (w.n : Int))])) h8'.symm h9
  have g11 : ∃ ext, σ.set σ₀.length (.inst ([("raw", .str raw)] ++ [("n", .int (w.n : Int))])) = σ₀ ++ ext := by
    obtain ⟨e, rfl⟩ := h11; exact ext_set (Nat.le_refl _)
  generalize σ.set σ₀.length _ = σ at g10 g9 g11
  clear h10 h9 h11
  try dsimp only
  refine wp_seq (wp_setAttr ?_)
  walk_at "ps"
  refine ⟨_, _, rfl, g10, ⟨h0, rfl, Nat.le_of_ble_eq_true rfl⟩, ?_⟩
  have h10 := get_set_eq (o' := .inst (([("raw", .str raw)] ++ [("n", .int (w.n : Int))]) ++ [("nt", .int (w.nt : Int))])) g10
  have h9 := get_set_ne (o' := .inst (([("raw", .str raw)] ++ [("n", .int (w.n : Int))]) ++ [("nt", .int (w.nt : Int))])) h8'.symm g9
  have h11 : ∃ ext, σ.set σ₀.length (.inst (([("raw", .str raw)] ++ [("n", .int (w.n : Int))]) ++ [("nt", .int (w.nt : Int))])) = σ₀ ++ ext := by
    obtain ⟨e, rfl⟩ := g11; exact ext_set (Nat.le_refl _)
  generalize σ.set σ₀.length _ = σ at h10 h9 h11
  clear g10 g9 g11
  have hl : (natL w.count).length ≤ maxLen := by rw [natL_len]; unfold maxLen; lia
  try dsimp only
  refine wp_seq (wp_setAttr ?_)
  walk_at "ps"
  refine ⟨_, _, rfl, get_old (get_old h10), ⟨h0, rfl, Nat.le_of_ble_eq_true rfl⟩, ?_⟩
  have hle := ext_len h11
  have hsl := get_lt h10
  generalize hA : (([("raw", MV.str raw)] ++ [("n", .int (w.n : Int))]) ++ [("nt", .int (w.nt : Int))] : List (String × MV)) ++ [("norm", .ref (σ ++ [MO.tup (natL w.count)]).length)] = A
  have g10 := get_set_eq (o' := .inst A) (get_old (l := [MO.tup [MV.ref σ.length, MV.int ↑w.b]]) (get_old (l := [MO.tup (natL w.count)]) h10))
  have g9 := get_set_ne (o' := .inst A) h8'.symm (get_old (l := [MO.tup [MV.ref σ.length, MV.int ↑w.b]]) (get_old (l := [MO.tup (natL w.count)]) h9))
  have g1 := get_set_ne (o' := .inst A) (by lia : σ₀.length ≠ σ.length) (get_old (l := [MO.tup [MV.ref σ.length, MV.int ↑w.b]]) (get_last (σ := σ) (o := MO.tup (natL w.count))))
  have g2 := get_set_ne (o' := .inst A) (by simp; lia : σ₀.length ≠ (σ ++ [MO.tup (natL w.count)]).length) (get_last (σ := σ ++ [MO.tup (natL w.count)]) (o := MO.tup [MV.ref σ.length, MV.int ↑w.b]))
  have g11 : ∃ ext, (σ ++ [MO.tup (natL w.count)] ++ [MO.tup [MV.ref σ.length, MV.int ↑w.b]]).set σ₀.length (.inst A) = σ₀ ++ ext := by
    obtain ⟨e, rfl⟩ := h11; rw [List.append_assoc, List.append_assoc]; exact ext_set (Nat.le_refl _)
  generalize (σ ++ [MO.tup (natL w.count)] ++ [MO.tup [MV.ref σ.length, MV.int ↑w.b]]).set σ₀.length _ = τ at g10 g9 g1 g2 g11
  try dsimp only
  refine wp_setAttr ?_
  walk_at "ps"
  refine ⟨_, _, rfl, g10, ⟨h0, by subst hA; rfl, by subst hA; exact Nat.le_of_ble_eq_true rfl⟩, ?_⟩
  refine ⟨rfl, ?_⟩
  refine box fun GZ kZ => ?_
  obtain ⟨e, rfl⟩ := g11
  obtain ⟨e', he'⟩ := ext_set (σ₀ := σ₀) (ext := e) (o := .inst (A ++ [("is_simple", .bool (decide (((natL w.count).length : Int) ≤ 1)))])) (Nat.le_refl _)
  refine kZ ?_
  clear kZ GZ
  refine ⟨e', he', ?_⟩
  rw [← he']
  refine ⟨raw, _, _, (get_set_eq g10).trans ?_, get_set_ne ?_ g2, get_set_ne ?_ g1⟩
  · subst hA; rw [natL_len]; rfl
  · simp; lia
  · lia
end hkp51
theorem run_init : ∀ {σ₀ : MH} {raw : PySem.Str}, hkp51.hS σ₀ raw := @fun σ₀ raw => ce_all (P := hkp51.hP) (default, ⟨#[]⟩) (@hkp51.hT) (σ₀, raw)
theorem run_new {σ : MH} {raw : Str} (h0 : σ.length ≠ 0) (hr : raw.cps.toList.length ≤ 100) : ∃ ext, newF [.str raw] σ = .ok (.ref σ.length) (σ ++ ext) ∧ HasWs (σ ++ ext) σ.length (wsOf raw.cps.toList) := by
  refine box fun GZ kZ => ?_
  obtain ⟨ext, h1, h2⟩ := run_init h0 hr
  refine kZ ?_
  clear kZ GZ
  refine ⟨ext, ?_, h2⟩
  unfold newF
  rw [h1]
noncomputable def longP (w : WS) : Int := if (w.b : Int) > (w.count.length : Int) - 1 then (w.b : Int) else (w.count.length : Int) - 1
noncomputable def ilGo (l : List Nat) (ts : Int) : List Int → Int → Option Int
  | [], il => some il
  | i :: r, il => if (small i = true ∧ small ts = true ∧ ts ≠ 0) ∧ small (i.fdiv ts) = true ∧ (0 ≤ i ∧ i < l.length ∧ i < 1000000) ∧ small (l.getD i.toNat 0) = true then ilGo l ts r (il + i.fdiv ts * (l.getD i.toNat 0 : Nat)) else none
noncomputable def ups (x y : Int) : List Int := (List.range (y - x).toNat).map fun (k : Nat) => x + (k : Int) * 1
noncomputable def indentP (w : WS) (ts : Int) : Option Int :=
  if (small ts = true ∧ small w.count.length = true) ∧ w.count.length ≤ maxLen then
    (ilGo w.count ts (ups ts w.count.length) 0).bind fun il => if small ts = true ∧ small (il + w.nt) = true then some (w.b + ts * (il + w.nt)) else none
  else none
noncomputable def lessGo (w v : WS) : List Int → Option Bool
  | [] => some true
  | ts :: r => (indentP w ts).bind fun a => (indentP v ts).bind fun b => if a ≥ b then some false else lessGo w v r
noncomputable def lessP (w v : WS) : Option Bool :=
  if (w.n : Int) ≥ v.n then some false
  else if (w.count.length : Int) ≤ 1 ∧ (v.count.length : Int) ≤ 1 then some (decide ((w.nt : Int) ≤ v.nt))
  else if (small ((if longP v > longP w then longP v else longP w) + 1 + 1) = true ∧ w.count.length ≤ maxLen) ∧ v.count.length ≤ maxLen then lessGo w v (ups 2 ((if longP v > longP w then longP v else longP w) + 1 + 1))
  else none
theorem ups_items {x y : Int} : (Src.range x 1 (y - x).toNat).items = (ups x y).map .int := by
  unfold Src.items ups
  rw [List.map_map]; rfl
theorem hasWs_app {σ l : MH} {j : Nat} {w : WS} (h : HasWs σ j w) : HasWs (σ ++ l) j w := by
  refine box fun GZ kZ => ?_
  obtain ⟨raw, nr, nc, h1, h2, h3⟩ := h
  refine kZ ?_
  clear kZ GZ
  exact ⟨raw, nr, nc, get_old h1, get_old h2, get_old h3⟩
theorem run_longest {σ : MH} {j : Nat} {w : WS} (h : HasWs σ j w) (hl : w.count.length ≤ maxLen) : longestF [.ref j] σ = .ok (.int (longP w)) σ := by
  refine box fun GZ kZ => ?_
  obtain ⟨raw, nr, nc, h1, h2, h3⟩ := h
  refine kZ ?_
  clear kZ GZ
  suffices h : Wp (longestF [.ref j] σ) (fun v σ' => v = .int (longP w) ∧ σ' = σ) noX by
    obtain ⟨v, σ', e, rfl, rfl⟩ := wp_out h; exact e
  have hl' : (natL w.count).length ≤ maxLen := by rw [natL_len]; exact hl
  refine wp_def rfl ?_
  unfold longestB
  dsimp only [updAll]
  walk_at "pt"
  walk_at "p:ret"
  rw [natL_len]
  exact ⟨rfl, rfl⟩
noncomputable def ilBody : SD := sAssign "il" (eBin opAdd (eVar "il") (eBin opMul (eBin opDiv (eVar "i") (eVar "tabsize")) (eIdx (eVar "count") (eVar "i"))))
theorem il_loop {w : WS} {σ : MH} {nc : Nat} {ts : Int} {r : Src} (hst : r.stands σ = true) (h3 : σ[nc]? = some (.tup (natL w.count))) : ∀ (is : List Int) (il : Int) (ρ : MEnv) (il' : Int), ilGo w.count ts is il = some il' → ρ "il" = some (.int il) → ρ "tabsize" = some (.int ts) → ρ "count" = some (.ref nc) →
    Wp (forGo r "i" ilBody (is.map .int) ρ σ) (fun r σ' => r.1 = .next ∧ σ' = σ ∧ r.2 "il" = some (.int il') ∧ ∀ y, y ≠ "i" → y ≠ "il" → r.2 y = ρ y) noX
  | [], il, ρ, il', hg, h4, h5, h6 => by
    cases hg; exact ⟨rfl, rfl, h4, fun _ _ _ => rfl⟩
  | i :: is, il, ρ, il', hg, h4, h5, h6 => by
    rw [List.map_cons]
    refine wp_goCons ?_
    unfold ilGo at hg
    split at hg
    · rename_i hc
      refine box fun GZ kZ => ?_
      obtain ⟨⟨c1, c2, c3⟩, c4, ⟨c5, c6, c7⟩, c8⟩ := hc
      refine kZ ?_
      clear kZ GZ
      unfold ilBody
      have hp : place? i (natL w.count).length = some i.toNat := by
        unfold place?
        rw [natL_len, if_pos c5, if_pos ⟨c6, c7⟩]
      have hv := natL_get (l := w.count) (p := i.toNat) ((Int.toNat_lt c5).mpr c6)
      walk_at "p:last"
      refine ⟨hst, ?_⟩
      refine wp_mono (il_loop hst h3 is _ _ il' hg upd_eq (by walk_at "pn") (by walk_at "pn")) (fun r σ' ⟨q1, q2, q3, q4⟩ => ⟨q1, q2, q3, fun y h1 h2 => ?_⟩) (fun _ _ _ h => h)
      rw [q4 y h1 h2, upd_skip h2, upd_skip h1]
    · cases hg
namespace hkp60
noncomputable abbrev hS (σ : MH) (j : Nat) (w : WS) (ts : Int) : Prop := ∀ {k : Int} (h : HasWs σ j w) (hi : indentP w ts = some k), indentF [.ref j, .int ts] σ = .ok (.int k) σ
noncomputable abbrev hP := fun p : MH × Nat × WS × Int => hS p.1 p.2.1 p.2.2.1 p.2.2.2
noncomputable def hW := ce (default, default, ⟨[], 0, 0, 0⟩, default) hP
noncomputable def σ : MH := hW.1
noncomputable def j : Nat := hW.2.1
noncomputable def w : WS := hW.2.2.1
noncomputable def ts : Int := hW.2.2.2
theorem hT : hS σ j w ts := by
  intro k h hi
  refine box fun GZ kZ => ?_
  obtain ⟨raw, nr, nc, h1, h2, h3⟩ := h
  refine kZ ?_
  clear kZ GZ
  suffices h : Wp (indentF [.ref j, .int ts] σ) (fun v σ' => v = .int k ∧ σ' = σ) noX by
    obtain ⟨v, σ', e, rfl, rfl⟩ := wp_out h; exact e
  unfold indentP at hi
  split at hi
  · rename_i hc
    refine box fun GZ kZ => ?_
    obtain ⟨⟨c1, c2⟩, hl⟩ := hc
    refine kZ ?_
    clear kZ GZ
    have hl' : (natL w.count).length ≤ maxLen := by rw [natL_len]; exact hl
    refine wp_def rfl ?_
    unfold indentB
    dsimp only [updAll]
    walk_at "pt"
    walk_at "pt"
    refine wp_seq (wp_for (wp_range ?_))
    walk_at "ps"
    rw [natL_len]
    refine ⟨_, _, rfl, rfl, c1, c2, ?_⟩
    cases hil : ilGo w.count ts (ups ts w.count.length) 0 with
    | none => rw [hil] at hi; cases hi
    | some il =>
      rw [hil, Option.bind_some] at hi
      split at hi
      · rename_i hc
        obtain ⟨c3, c4⟩ := hc
        cases hi
        rw [ups_items]
        refine wp_mono (il_loop rfl h3 _ 0 _ il hil ?_ ?_ ?_) ?_ (fun _ _ _ h => h)
        case refine_4 =>
          intro r σ' ⟨q1, q2, q3, q4⟩
          subst q2
          rw [q1]
          dsimp only
          have g1 : r.2 "trailing" = some (.int (w.b : Int)) := (q4 _ (by decide) (by decide)).trans (by walk_at "pn")
          have g2 : r.2 "tabsize" = some (.int ts) := (q4 _ (by decide) (by decide)).trans (by walk_at "pn")
          have g3 : r.2 "self" = some (.ref j) := (q4 _ (by decide) (by decide)).trans (by walk_at "pn")
          generalize r.2 = ρ at *
          walk_at "p:ret"
          exact ⟨rfl, rfl⟩
        all_goals walk_at "pn"
      · cases hi
  · cases hi
end hkp60
theorem run_indent : ∀ {σ : MH} {j : Nat} {w : WS} {ts : Int}, hkp60.hS σ j w ts := @fun σ j w ts => ce_all (P := hkp60.hP) (default, default, ⟨[], 0, 0, 0⟩, default) (@hkp60.hT) (σ, j, w, ts)
noncomputable def lessBody : SD := sIf (tOf (eCmp .ge (eInstM "indent_level" indentF (eVar "self") (lCons (eVar "ts") lNil)) (eInstM "indent_level" indentF (eVar "other") (lCons (eVar "ts") lNil))))
      (sRet (eVal (.bool false)))
      sPass
theorem less_loop {w v : WS} {σ : MH} {i j : Nat} {r : Src} (hst : r.stands σ = true) (hw : HasWs σ i w) (hv : HasWs σ j v) : ∀ (is : List Int) (ρ : MEnv) (b : Bool), lessGo w v is = some b → ρ "self" = some (.ref i) → ρ "other" = some (.ref j) →
    Wp (forGo r "ts" lessBody (is.map .int) ρ σ) (fun r σ' => σ' = σ ∧ r.1 = (if b then .next else .ret (.bool false))) noX
  | [], ρ, b, hg, h4, h5 => by
    cases hg; exact ⟨rfl, rfl⟩
  | t :: is, ρ, b, hg, h4, h5 => by
    rw [List.map_cons]
    refine wp_goCons ?_
    unfold lessGo at hg
    cases ha : indentP w t with
    | none => rw [ha] at hg; cases hg
    | some a =>
      cases hb : indentP v t with
      | none => rw [ha, hb] at hg; cases hg
      | some c =>
        rw [ha, hb, Option.bind_some, Option.bind_some] at hg
        have r1 := run_indent hw ha
        have r2 := run_indent hv hb
        refine box fun GZ kZ => ?_
        obtain ⟨raw, nr, nc, g1, g2, g3⟩ := id hw
        obtain ⟨raw', nr', nc', g1', g2', g3'⟩ := id hv
        refine kZ ?_
        clear kZ GZ
        unfold lessBody
        split at hg
        · rename_i hc
          cases hg
          have hc' : decide (a ≥ c) = true := decide_eq_true hc
          refine wp_sif ?_
          walk_at "ps"
          exact rfl
        · rename_i hc
          have hc' : ¬ decide (a ≥ c) = true := fun h => hc (of_decide_eq_true h)
          refine wp_sif ?_
          walk_at "ps"
          exact less_loop hst hw hv is _ b hg (by walk_at "pn") (by walk_at "pn")
namespace hkp61
noncomputable abbrev hS (σ : MH) (i : Nat) (j : Nat) (w : WS) (v : WS) : Prop := ∀ {b : Bool} (hw : HasWs σ i w) (hv : HasWs σ j v) (hb : lessP w v = some b), lessF [.ref i, .ref j] σ = .ok (.bool b) σ
noncomputable abbrev hP := fun p : MH × Nat × Nat × WS × WS => hS p.1 p.2.1 p.2.2.1 p.2.2.2.1 p.2.2.2.2
noncomputable def hW := ce (default, default, default, ⟨[], 0, 0, 0⟩, ⟨[], 0, 0, 0⟩) hP
noncomputable def σ : MH := hW.1
noncomputable def i : Nat := hW.2.1
noncomputable def j : Nat := hW.2.2.1
noncomputable def w : WS := hW.2.2.2.1
noncomputable def v : WS := hW.2.2.2.2
theorem hT : hS σ i j w v := by
  intro b hw hv hb
  suffices h : Wp (lessF [.ref i, .ref j] σ) (fun r σ' => r = .bool b ∧ σ' = σ) noX by
    obtain ⟨v, σ', e, rfl, rfl⟩ := wp_out h; exact e
  refine box fun GZ kZ => ?_
  obtain ⟨raw, nr, nc, g1, g2, g3⟩ := id hw
  obtain ⟨raw', nr', nc', g1', g2', g3'⟩ := id hv
  refine kZ ?_
  clear kZ GZ
  refine wp_def rfl ?_
  unfold lessB
  dsimp only [updAll]
  unfold lessP at hb
  split at hb
  · rename_i h
    cases hb
    have h' : decide ((w.n : Int) ≥ v.n) = true := decide_eq_true h
    walk_at "pt"
    exact ⟨rfl, rfl⟩
  · rename_i h
    have h' : ¬ decide ((w.n : Int) ≥ v.n) = true := fun e => h (of_decide_eq_true e)
    walk_at "pt"
    split at hb
    · rename_i h
      cases hb
      have k1 : decide ((w.count.length : Int) ≤ 1) = true := decide_eq_true h.1
      have k2 : decide ((v.count.length : Int) ≤ 1) = true := decide_eq_true h.2
      walk_at "pt"
      exact ⟨rfl, rfl⟩
    · rename_i h
      have hs : (if decide ((w.count.length : Int) ≤ 1) = true then decide ((v.count.length : Int) ≤ 1) else false) = false := by
        split
        · rename_i k1
          exact decide_eq_false (fun k2 => h ⟨of_decide_eq_true k1, k2⟩)
        · rfl
      have hs' : ∀ {Q : MF × MEnv → MH → Prop} {X : Bool → Str → MH → Prop} {ρ : MEnv} {s u : SD}, ρ "self" = some (.ref i) → ρ "other" = some (.ref j) → Wp (u ρ σ) Q X → Wp (sIf (tAnd (tOf (eAttr (eVar "self") "is_simple")) (tOf (eAttr (eVar "other") "is_simple"))) s u ρ σ) Q X := by
        intro Q X ρ s u e1 e2 q
        refine wp_sif (wp_tAnd ?_)
        walk_at "ps"
        by_cases k1 : (w.count.length : Int) ≤ 1
        · rw [if_pos (decide_eq_true k1)]
          have k2 : ¬ decide ((v.count.length : Int) ≤ 1) = true := fun k2 => h ⟨k1, of_decide_eq_true k2⟩
          walk_at "ps"
          exact q
        · rw [if_neg (by rw [decide_eq_false k1]; decide)]
          exact q
      refine wp_seq (hs' (by walk_at "pn") (by walk_at "pn") ?_)
      refine wp_pass ?_
      dsimp only
      generalize hm : (if longP v > longP w then longP v else longP w) = m at hb
      split at hb
      · rename_i hc
        refine box fun GZ kZ => ?_
        obtain ⟨⟨c1, c2⟩, c3⟩ := hc
        refine kZ ?_
        clear kZ GZ
        subst hm
        have r1 := run_longest hw c2
        have r2 := run_longest hv c3
        walk_at "pt"
        refine wp_seq (wp_for (wp_range ?_))
        walk_at "ps"
        refine ⟨_, _, rfl, rfl, by decide, c1, ?_⟩
        rw [ups_items]
        refine wp_mono (less_loop rfl hw hv _ _ b hb (by walk_at "pn") (by walk_at "pn")) ?_ (fun _ _ _ h => h)
        intro r σ' ⟨q1, q2⟩
        subst q1
        rw [q2]
        cases b with
        | false => exact ⟨rfl, rfl⟩
        | true =>
          rw [if_pos rfl]
          dsimp only
          walk_at "p:ret"
          exact ⟨rfl, rfl⟩
      · cases hb
end hkp61
theorem run_less : ∀ {σ : MH} {i : Nat} {j : Nat} {w : WS} {v : WS}, hkp61.hS σ i j w v := @fun σ i j w v => ce_all (P := hkp61.hP) (default, default, default, ⟨[], 0, 0, 0⟩, ⟨[], 0, 0, 0⟩) (@hkp61.hT) (σ, i, j, w, v)
noncomputable def nearL (e : Nat) : List Nat := match e with | 0 => [9] | 1 => [32, 9] | 2 => [32, 32, 9] | _ => [32, 32, 32]
noncomputable def deepL (e : Nat) : List Nat := match e with | 0 => [32, 32, 32, 9] | 1 => [32, 32, 9, 32, 32] | 2 => [9, 9] | _ => [32, 32, 32, 32, 32]
noncomputable def deepsL : List Nat → List Nat
  | [] => []
  | e :: r => deepL e ++ deepsL r
noncomputable def leadL : List Nat → List Nat
  | [] => []
  | e :: r => nearL e ++ deepsL r
noncomputable def four (n : Nat) : List (List Nat) := match n with
  | 0 => [[]]
  | n + 1 => (four n).flatMap fun q => [q ++ [0], q ++ [1], q ++ [2], q ++ [3]]
theorem in_four : ∀ (n : Nat) (q : List Nat), q.length = n → (∀ x ∈ q, x < 4) → q ∈ four n
  | 0, q, h, _ => by rw [List.length_eq_zero_iff.mp h]; exact List.mem_singleton.mpr rfl
  | n + 1, q, h, hx => by
    have hne : q ≠ [] := by rintro rfl; cases h
    obtain ⟨p, e, rfl⟩ : ∃ p e, q = p ++ [e] := ⟨q.dropLast, q.getLast hne, (List.dropLast_concat_getLast hne).symm⟩
    rw [List.length_append] at h
    have he := hx e (List.mem_append_right _ (List.mem_singleton.mpr rfl))
    have hp := in_four n p (by simpa using h) (fun x hm => hx x (List.mem_append_left _ hm))
    refine List.mem_flatMap.mpr ⟨p, hp, ?_⟩
    have : e = 0 ∨ e = 1 ∨ e = 2 ∨ e = 3 := by lia
    rcases this with rfl | rfl | rfl | rfl <;> simp
noncomputable def upOk (q : List Nat) : Bool := [0, 1, 2, 3].all fun e => lessP (wsOf (leadL q)) (wsOf (leadL (q ++ [e]))) == some true
noncomputable def offOk (q : List Nat) (i : Nat) : Bool := (List.range i).all fun d => [0, 1, 2, 3].all fun e => lessP (wsOf (leadL q)) (wsOf (leadL (q.take d ++ [e]))) == some false
theorem up0 : (four 0).all upOk = true := by decide +kernel
theorem up1 : (four 1).all upOk = true := by decide +kernel
theorem up2 : (four 2).all upOk = true := by decide +kernel
theorem up3 : (four 3).all upOk = true := by decide +kernel
theorem off1 : (four 1).all (offOk · 1) = true := by decide +kernel
theorem off2 : (four 2).all (offOk · 2) = true := by decide +kernel
theorem off3 : (four 3).all (offOk · 3) = true := by decide +kernel
theorem off4 : (four 4).all (offOk · 4) = true := by decide +kernel
theorem in4 {e : Nat} (h : e < 4) : e ∈ [0, 1, 2, 3] := by
  have : e = 0 ∨ e = 1 ∨ e = 2 ∨ e = 3 := by lia
  rcases this with rfl | rfl | rfl | rfl <;> simp
theorem less_up {q : List Nat} {e : Nat} (hl : q.length ≤ 3) (hq : ∀ x ∈ q, x < 4) (he : e < 4) : lessP (wsOf (leadL q)) (wsOf (leadL (q ++ [e]))) = some true := by
  have key : upOk q = true := by
    have : q.length = 0 ∨ q.length = 1 ∨ q.length = 2 ∨ q.length = 3 := by lia
    rcases this with h | h | h | h
    · exact List.all_eq_true.mp up0 q (in_four _ q h hq)
    · exact List.all_eq_true.mp up1 q (in_four _ q h hq)
    · exact List.all_eq_true.mp up2 q (in_four _ q h hq)
    · exact List.all_eq_true.mp up3 q (in_four _ q h hq)
  exact eq_of_beq (List.all_eq_true.mp key e (in4 he))
theorem less_off {q : List Nat} {d e : Nat} (hl : q.length ≤ 4) (hd : d < q.length) (hq : ∀ x ∈ q, x < 4) (he : e < 4) : lessP (wsOf (leadL q)) (wsOf (leadL (q.take d ++ [e]))) = some false := by
  have key : offOk q q.length = true := by
    have : q.length = 1 ∨ q.length = 2 ∨ q.length = 3 ∨ q.length = 4 := by lia
    rcases this with h | h | h | h
    · rw [h]; exact List.all_eq_true.mp off1 q (in_four _ q h hq)
    · rw [h]; exact List.all_eq_true.mp off2 q (in_four _ q h hq)
    · rw [h]; exact List.all_eq_true.mp off3 q (in_four _ q h hq)
    · rw [h]; exact List.all_eq_true.mp off4 q (in_four _ q h hq)
  exact eq_of_beq (List.all_eq_true.mp (List.all_eq_true.mp key d (List.mem_range.mpr hd)) e (in4 he))
theorem near_blank (e : Nat) : ∀ x ∈ nearL e, x = 32 ∨ x = 9 := by
  unfold nearL; split <;> simp
theorem deep_blank (e : Nat) : ∀ x ∈ deepL e, x = 32 ∨ x = 9 := by
  unfold deepL; split <;> simp
theorem deeps_blank : ∀ q, ∀ x ∈ deepsL q, x = 32 ∨ x = 9
  | [], x, h => nomatch h
  | e :: r, x, h => by
    rcases List.mem_append.mp h with h | h
    · exact deep_blank e x h
    · exact deeps_blank r x h
theorem lead_blank : ∀ q, ∀ x ∈ leadL q, x = 32 ∨ x = 9
  | [], x, h => nomatch h
  | e :: r, x, h => by
    rcases List.mem_append.mp h with h | h
    · exact near_blank e x h
    · exact deeps_blank r x h
theorem near_len (e : Nat) : (nearL e).length ≤ 5 := by unfold nearL; split <;> simp
theorem deep_len (e : Nat) : (deepL e).length ≤ 5 := by unfold deepL; split <;> simp
theorem deeps_len : ∀ q, (deepsL q).length ≤ 5 * q.length
  | [] => Nat.le_refl _
  | e :: r => by
    unfold deepsL
    rw [List.length_append, List.length_cons]
    have := deep_len e; have := deeps_len r; lia
theorem lead_len : ∀ q, (leadL q).length ≤ 5 * q.length
  | [] => Nat.le_refl _
  | e :: r => by
    unfold leadL
    rw [List.length_append, List.length_cons]
    have := near_len e; have := deeps_len r; lia
theorem deeps_app : ∀ q e, deepsL (q ++ [e]) = deepsL q ++ deepL e
  | [], e => List.append_nil _
  | a :: r, e => by rw [List.cons_append]; unfold deepsL; rw [deeps_app r e, List.append_assoc]
theorem lead_app : ∀ q e, leadL (q ++ [e]) = leadL q ++ (if q.length = 0 then nearL e else deepL e)
  | [], e => List.append_nil _
  | a :: r, e => by
    rw [List.cons_append, if_neg (by simp)]
    show nearL a ++ deepsL (r ++ [e]) = (nearL a ++ deepsL r) ++ deepL e
    rw [deeps_app, List.append_assoc]
theorem wsGo_app {c : Nat} {r : List Nat} (h1 : c ≠ 32) (h2 : c ≠ 9) : ∀ (l : List Nat) (w : WS), (∀ x ∈ l, x = 32 ∨ x = 9) → wsGo (l ++ c :: r) w = wsGo l w ∧ (wsGo l w).n = w.n + l.length
  | [], w, _ => by
    refine ⟨?_, rfl⟩
    show wsGo (c :: r) w = w
    unfold wsGo
    rw [if_neg h1, if_neg h2]
  | a :: l, w, h => by
    have hl : ∀ x ∈ l, x = 32 ∨ x = 9 := fun x hx => h x (List.mem_cons_of_mem _ hx)
    rw [List.cons_append, List.length_cons]
    unfold wsGo
    rcases h a (List.mem_cons_self ..) with rfl | rfl
    · rw [if_pos rfl, if_pos rfl]
      obtain ⟨i1, i2⟩ := wsGo_app h1 h2 l ⟨w.count, w.b + 1, w.n + 1, w.nt⟩ hl
      exact ⟨i1, i2.trans (by dsimp only; lia)⟩
    · rw [if_neg (by decide), if_pos rfl, if_neg (by decide), if_pos rfl]
      obtain ⟨i1, i2⟩ := wsGo_app h1 h2 l (wsTab w) hl
      exact ⟨i1, i2.trans (by unfold wsTab; dsimp only; lia)⟩
noncomputable def Solid (s : Str) : Prop := ∃ c r, s.cps.toList = c :: r ∧ c ≠ 32 ∧ c ≠ 9
noncomputable def leadS (q : List Nat) : Str := ⟨(leadL q).toArray⟩
theorem wsOf_row {q : List Nat} {s : Str} (h : Solid s) : wsOf (leadS q ++ s).cps.toList = wsOf (leadL q) ∧ (wsOf (leadL q)).n = (leadL q).length := by
  obtain ⟨c, r, h1, h2, h3⟩ := h
  have e : (leadS q ++ s).cps.toList = leadL q ++ c :: r := by
    rw [← h1]
    show (Array.append (leadL q).toArray s.cps).toList = _
    simp
  rw [e]
  obtain ⟨i1, i2⟩ := wsGo_app (r := r) h2 h3 (leadL q) ⟨[], 0, 0, 0⟩ (lead_blank q)
  exact ⟨i1, i2.trans (Nat.zero_add _)⟩
theorem run_comp {e : ED} {x : String} {fv : List String} {src : RD} {t : TD} {ρ : MEnv} {σ : MH} {r : Src} (f : MV → Option MV) (hs : src ρ σ = .ok r σ) (hl : r.items.length ≤ 1000) (hst : r.stands σ = true)
    (H : ∀ v ∈ r.items, Wp (t (upd (seen ρ fv) x v) σ) (fun b σ₁ => σ₁ = σ ∧ if b then Wp (e (upd (seen ρ fv) x v) σ) (fun y σ₂ => σ₂ = σ ∧ f v = some y) noX else f v = none) noX) :
    eComp e x fv src t ρ σ = .ok (.ref σ.length) (σ ++ [.list (r.items.filterMap f)]) := by
  have go : ∀ (vs acc : List MV), (∀ v ∈ vs, v ∈ r.items) → compGo r x t e (seen ρ fv) vs acc σ = .ok (acc ++ vs.filterMap f) σ := by
    intro vs
    induction vs with
    | nil => intro acc _; rw [List.filterMap_nil, List.append_nil]; rfl
    | cons v vs ih =>
      intro acc hm
      have Hv := H v (hm v (List.mem_cons_self ..))
      unfold compGo
      revert Hv
      cases t (upd (seen ρ fv) x v) σ with
      | stuck => exact fun h => h.elim
      | exc c m σ' => exact fun h => h.elim
      | ok b σ₁ =>
        rintro ⟨rfl, h⟩
        cases b with
        | false =>
          have h' : f v = none := h
          dsimp only
          rw [if_pos hst, ih _ (fun v hv => hm v (List.mem_cons_of_mem _ hv)), List.filterMap_cons_none h']
        | true =>
          have h' : Wp (e (upd (seen ρ fv) x v) σ₁) (fun y σ₂ => σ₂ = σ₁ ∧ f v = some y) noX := h
          revert h'
          dsimp only
          cases e (upd (seen ρ fv) x v) σ₁ with
          | stuck => exact fun h => h.elim
          | exc c m σ' => exact fun h => h.elim
          | ok y σ₂ =>
            rintro ⟨rfl, h'⟩
            dsimp only
            rw [if_pos hst, ih _ (fun v hv => hm v (List.mem_cons_of_mem _ hv)), List.filterMap_cons_some h', List.append_assoc]
            rfl
  unfold eComp
  rw [hs, R.bind_ok, if_pos hl, go r.items [] (fun _ h => h), R.bind_ok]
  rfl
theorem run_compX {e : ED} {x : String} {fv : List String} {src : RD} {t : TD} {ρ : MEnv} {σ : MH} {r : Src} (f : MV → Option MV) (hs : src ρ σ = .ok r σ) (hl : r.items.length ≤ 1000) (hst : ∀ ext, r.stands (σ ++ ext) = true)
    (H : ∀ v ∈ r.items, ∀ ext, Wp (t (upd (seen ρ fv) x v) (σ ++ ext)) (fun b σ₁ => ∃ ext', σ₁ = σ ++ ext' ∧ if b then Wp (e (upd (seen ρ fv) x v) σ₁) (fun y σ₂ => (∃ ext'', σ₂ = σ ++ ext'') ∧ f v = some y) noX else f v = none) noX) :
    ∃ ext, eComp e x fv src t ρ σ = .ok (.ref (σ ++ ext).length) (σ ++ (ext ++ [.list (r.items.filterMap f)])) := by
  have go : ∀ (vs acc : List MV) (ext : MH), (∀ v ∈ vs, v ∈ r.items) → ∃ ext', compGo r x t e (seen ρ fv) vs acc (σ ++ ext) = .ok (acc ++ vs.filterMap f) (σ ++ ext') := by
    intro vs
    induction vs with
    | nil => intro acc ext _; exact ⟨ext, by rw [List.filterMap_nil, List.append_nil]; rfl⟩
    | cons v vs ih =>
      intro acc ext hm
      have Hv := H v (hm v (List.mem_cons_self ..)) ext
      unfold compGo
      revert Hv
      cases t (upd (seen ρ fv) x v) (σ ++ ext) with
      | stuck => exact fun h => h.elim
      | exc c m σ' => exact fun h => h.elim
      | ok b σ₁ =>
        rintro ⟨ext', rfl, h⟩
        cases b with
        | false =>
          have h' : f v = none := h
          dsimp only
          rw [if_pos (hst _), List.filterMap_cons_none h']
          exact ih _ _ (fun v hv => hm v (List.mem_cons_of_mem _ hv))
        | true =>
          have h' : Wp (e (upd (seen ρ fv) x v) (σ ++ ext')) (fun y σ₂ => (∃ ext'', σ₂ = σ ++ ext'') ∧ f v = some y) noX := h
          revert h'
          dsimp only
          cases e (upd (seen ρ fv) x v) (σ ++ ext') with
          | stuck => exact fun h => h.elim
          | exc c m σ' => exact fun h => h.elim
          | ok y σ₂ =>
            rintro ⟨⟨ext'', rfl⟩, h'⟩
            dsimp only
            rw [if_pos (hst _)]
            obtain ⟨e3, he3⟩ := ih (acc ++ [y]) ext'' (fun v hv => hm v (List.mem_cons_of_mem _ hv))
            refine ⟨e3, ?_⟩
            rw [he3, List.filterMap_cons_some h', List.append_assoc]
            rfl
  obtain ⟨ext, he⟩ := go r.items [] [] (fun _ h => h)
  refine ⟨ext, ?_⟩
  unfold eComp
  rw [List.append_nil] at he
  rw [hs, R.bind_ok, if_pos hl, he, R.bind_ok]
  show R.ok (MV.ref (σ ++ ext).length) ((σ ++ ext) ++ _) = _
  rw [List.append_assoc]
  rfl
theorem run_range1 {b : ED} {ρ : MEnv} {σ : MH} {n : Nat} (h : b ρ σ = .ok (.int (n : Int)) σ) (hs : small (n : Int) = true) : rRange1 b ρ σ = .ok (.range 0 1 n) σ := by
  unfold rRange1
  rw [h, R.bind_ok]
  dsimp only
  rw [if_pos hs, Int.toNat_natCast]
theorem items0 {n : Nat} : (Src.range 0 1 n).items = natL (List.range n) := by
  unfold Src.items natL
  exact List.map_congr_left fun k _ => by rw [Int.zero_add, Int.mul_one]
theorem small_nat {n : Nat} (h : n ≤ 1000000) : small (n : Int) = true := by
  unfold small
  rw [decide_eq_true (by lia), decide_eq_true (by lia)]; rfl
noncomputable def optN (f : Nat → Option Nat) : MV → Option MV
  | .int i => (f i.toNat).map fun (k : Nat) => .int (k : Int)
  | _ => none
theorem filterMap_natL (f : Nat → Option Nat) : ∀ l : List Nat, (natL l).filterMap (optN f) = natL (l.filterMap f)
  | [] => rfl
  | a :: l => by
    have ih := filterMap_natL f l
    have e : natL (a :: l) = .int (a : Int) :: natL l := rfl
    rw [e]
    have e2 : optN f (.int (a : Int)) = (f a).map fun (k : Nat) => MV.int (k : Int) := by
      show (f ((a : Int).toNat)).map _ = _
      rw [Int.toNat_natCast]
    cases h : f a with
    | none =>
      rw [h] at e2
      rw [List.filterMap_cons_none e2, List.filterMap_cons_none h, ih]
    | some b =>
      rw [h] at e2
      rw [List.filterMap_cons_some e2, List.filterMap_cons_some h, ih]; rfl
theorem filterMap_ite (p : Nat → Bool) : ∀ l : List Nat, l.filterMap (fun j => if p j = true then some j else none) = l.filter p
  | [] => rfl
  | a :: l => by
    rw [List.filter_cons]
    by_cases h : p a = true
    · rw [List.filterMap_cons_some (by rw [if_pos h]), if_pos h, filterMap_ite p l]
    · rw [List.filterMap_cons_none (by rw [if_neg h]), if_neg h, filterMap_ite p l]
theorem mem_natL {v : MV} {l : List Nat} (h : v ∈ natL l) : ∃ k, k ∈ l ∧ v = .int (k : Int) := by
  obtain ⟨k, h1, rfl⟩ := List.mem_map.mp h; exact ⟨k, h1, rfl⟩
noncomputable def nextQ (q : List Nat) (c : Nat) : List Nat := q.take (c % (min q.length 3 + 1)) ++ [c / 12 % 4]
noncomputable def qAt (cs : List Nat) : Nat → List Nat
  | 0 => []
  | k + 1 => nextQ (qAt cs k) (cs.getD (k + 1) 0)
noncomputable def dAt (cs : List Nat) (k : Nat) : Nat := (qAt cs k).length
noncomputable def dsOf (cs : List Nat) : List Nat := (List.range 9).map (dAt cs)
noncomputable def kidsL (ds : List Nat) (k : Nat) : List Nat := (List.range k).filter fun j => ds.getD j 0 == ds.getD k 0 - 1
noncomputable def parentL (ds : List Nat) (k : Nat) : Nat := (kidsL ds k).getLast?.getD 0
noncomputable def partsL (ds : List Nat) : Nat → List (List Nat)
  | 0 => [[]]
  | k + 1 => (partsL ds k).set (parentL ds (k + 1)) ((partsL ds k).getD (parentL ds (k + 1)) [] ++ [k + 1]) ++ [[]]
noncomputable def shapes : Nat → List (List Nat)
  | 0 => [[0]]
  | n + 1 => (shapes n).flatMap fun ds => (List.range (min (ds.getLastD 0) 3 + 1)).map fun i => ds ++ [i + 1]
theorem mod_le {c a d : Nat} (hd : c % (min a 3 + 1) = d) : d ≤ a := hd ▸ Nat.le_trans (Nat.le_of_lt_succ (Nat.mod_lt c (Nat.succ_pos _))) (Nat.min_le_left ..)
theorem mod_le3 {c a d : Nat} (hd : c % (min a 3 + 1) = d) : d ≤ 3 := hd ▸ Nat.le_trans (Nat.le_of_lt_succ (Nat.mod_lt c (Nat.succ_pos _))) (Nat.min_le_right ..)
theorem nextQ_len (q : List Nat) (c : Nat) : (nextQ q c).length = c % (min q.length 3 + 1) + 1 := by
  unfold nextQ
  rw [List.length_append, List.length_take]
  rw [Nat.min_eq_left (mod_le rfl)]; rfl
theorem in_shapes (cs : List Nat) : ∀ n, (List.range (n + 1)).map (dAt cs) ∈ shapes n
  | 0 => List.mem_singleton.mpr rfl
  | n + 1 => by
    rw [List.range_succ, List.map_append]
    refine List.mem_flatMap.mpr ⟨_, in_shapes cs n, ?_⟩
    refine List.mem_map.mpr ⟨cs.getD (n + 1) 0 % (min (dAt cs n) 3 + 1), ?_, ?_⟩
    · rw [show ((List.range (n + 1)).map (dAt cs)).getLastD 0 = dAt cs n by rw [List.range_succ, List.map_append]; simp]
      exact List.mem_range.mpr (Nat.mod_lt _ (by lia))
    · show _ = _ ++ [dAt cs (n + 1)]
      unfold dAt
      rw [show qAt cs (n + 1) = nextQ (qAt cs n) (cs.getD (n + 1) 0) from rfl, nextQ_len]
theorem ds_in (cs : List Nat) : dsOf cs ∈ shapes 8 := in_shapes cs 8
theorem dsOf_get {cs : List Nat} {k : Nat} (h : k < 9) : (dsOf cs).getD k 0 = dAt cs k := by
  unfold dsOf
  rw [List.getD_eq_getElem?_getD, List.getElem?_map, List.getElem?_range h]; rfl
theorem dAt_succ (cs : List Nat) (k : Nat) : dAt cs (k + 1) = cs.getD (k + 1) 0 % (min (dAt cs k) 3 + 1) + 1 := nextQ_len _ _
theorem dAt_up (cs : List Nat) (k : Nat) : dAt cs (k + 1) ≤ dAt cs k + 1 := Nat.le_trans (Nat.le_of_eq (dAt_succ cs k)) (Nat.succ_le_succ (mod_le rfl))
theorem dAt_le (cs : List Nat) (k : Nat) : dAt cs k ≤ 4 := by
  cases k with
  | zero => exact Nat.zero_le _
  | succ m => exact Nat.le_trans (Nat.le_of_eq (dAt_succ cs m)) (Nat.succ_le_succ (mod_le3 rfl))
theorem ex_depth (cs : List Nat) : ∀ k i, i ≤ dAt cs k → ∃ j, j ≤ k ∧ dAt cs j = i
  | 0, i, h => ⟨0, Nat.le_refl _, (Nat.le_zero.mp h).symm⟩
  | k + 1, i, h => by
    by_cases e : i = dAt cs (k + 1)
    · exact ⟨k + 1, Nat.le_refl _, e.symm⟩
    · obtain ⟨j, hj, hd⟩ := ex_depth cs k i (Nat.le_of_lt_succ (Nat.lt_of_lt_of_le (Nat.lt_of_le_of_ne h e) (dAt_up cs k)))
      exact ⟨j, Nat.le_succ_of_le hj, hd⟩
theorem kids_last {cs : List Nat} {k : Nat} (h : k < 8) : ∃ p, (kidsL (dsOf cs) (k + 1)).getLast? = some p ∧ p = parentL (dsOf cs) (k + 1) ∧ p ≤ k ∧ dAt cs p = dAt cs (k + 1) - 1 := by
  obtain ⟨j, hj, hd⟩ := ex_depth cs k (dAt cs (k + 1) - 1) (Nat.sub_le_of_le_add (dAt_up cs k))
  have hm : j ∈ kidsL (dsOf cs) (k + 1) := by
    refine List.mem_filter.mpr ⟨List.mem_range.mpr (Nat.lt_succ_of_le hj), ?_⟩
    rw [dsOf_get (Nat.lt_of_le_of_lt hj (Nat.lt_succ_of_lt h)), dsOf_get (Nat.succ_lt_succ h), hd]; exact beq_self_eq_true _
  cases e : (kidsL (dsOf cs) (k + 1)).getLast? with
  | none => rw [List.getLast?_eq_none_iff] at e; rw [e] at hm; cases hm
  | some p =>
    have hp := List.mem_of_getLast? e
    obtain ⟨p1, p2⟩ := List.mem_filter.mp hp
    have p1 := List.mem_range.mp p1
    rw [dsOf_get (Nat.lt_of_lt_of_le p1 (Nat.succ_le_succ (Nat.le_of_lt h))), dsOf_get (Nat.succ_lt_succ h)] at p2
    exact ⟨p, rfl, by unfold parentL; rw [e]; rfl, Nat.le_of_lt_succ p1, eq_of_beq p2⟩
theorem parts_len (ds : List Nat) : ∀ k, (partsL ds k).length = k + 1
  | 0 => rfl
  | k + 1 => by unfold partsL; rw [List.length_append, List.length_set, parts_len ds k]; rfl
noncomputable def wrOf (k : Nat) : Nat := if k = 1 then 3 else 5 * k
noncomputable def rsOf (i : Nat) : Nat := if i = 0 then 4 else 6 + 5 * i
noncomputable def waysL (q : List Nat) : List MV := (List.range (q.length + 1)).map fun i => .str (leadS (q.take i))
noncomputable def outBody : SD := sSeq (sAssign "deep" (eBin opAdd (eVal (.int 1)) (eBin opMod (eIdx (eVar "cells") (eVar "k")) (eBin opAdd (eBin opMin2 (eIdx (eVar "depths") (eBin opSub (eVar "k") (eVal (.int 1)))) (eVal (.int 3))) (eVal (.int 1))))))
    (sSeq (sAppend (eIdx (eVar "parts") (eIdx (eComp (eVar "j") "j" ["depths", "deep"] (rRange1 (eVar "k")) (tOf (eCmp .eq (eIdx (eVar "depths") (eVar "j")) (eBin opSub (eVar "deep") (eVal (.int 1)))))) (eVal (.int (-1))))) (eVar "k"))
    (sSeq (sAssign "ways" (eBin opAdd (eSlTo (eVar "ways") (eVar "deep")) (eList (lCons (eBin opAdd (eIdx (eVar "ways") (eBin opSub (eVar "deep") (eVal (.int 1)))) (eIdx (eIf (tOf (eCmp .eq (eVar "deep") (eVal (.int 1)))) (eVar "near") (eVar "deeper")) (eBin opMod (eBin opDiv (eIdx (eVar "cells") (eVar "k")) (eVal (.int 12))) (eVal (.int 4))))) lNil))))
    (sSeq (sAppend (eVar "leads") (eIdx (eVar "ways") (eVar "deep")))
    (sSeq (sAppend (eVar "depths") (eVar "deep"))
    (sAppend (eVar "parts") (eList lNil))))))
noncomputable def nearV : List MV := [.str (Str.ofString "\t"), .str (Str.ofString " \t"), .str (Str.ofString "  \t"), .str (Str.ofString "   ")]
noncomputable def deepV : List MV := [.str (Str.ofString "   \t"), .str (Str.ofString "  \t  "), .str (Str.ofString "\t\t"), .str (Str.ofString "     ")]
theorem nearV_eq : nearV = (List.range 4).map fun e => .str ⟨(nearL e).toArray⟩ := by decide +kernel
theorem deepV_eq : deepV = (List.range 4).map fun e => .str ⟨(deepL e).toArray⟩ := by decide +kernel
structure OutInv (σ₀ : MH) (cr : Nat) (cs : List Nat) (k : Nat) (ρ : MEnv) (σ : MH) : Prop where
  vc : ρ "cells" = some (.ref cr)
  vn : ρ "near" = some (.ref σ₀.length)
  vd : ρ "deeper" = some (.ref (σ₀.length + 1))
  vs : ρ "depths" = some (.ref (σ₀.length + 2))
  vw : ρ "ways" = some (.ref (σ₀.length + wrOf k))
  vp : ρ "parts" = some (.ref (σ₀.length + 5))
  vl : ρ "leads" = some (.ref (σ₀.length + 6))
  len : σ.length = σ₀.length + 2 + 5 * k
  ext : ∃ ext, σ = σ₀ ++ ext
  hn : σ[σ₀.length]? = some (.list nearV)
  hd : σ[σ₀.length + 1]? = some (.list deepV)
  hs : σ[σ₀.length + 2]? = some (.list (natL ((List.range k).map (dAt cs))))
  hw : σ[σ₀.length + wrOf k]? = some (.list (waysL (qAt cs (k - 1))))
  hp : σ[σ₀.length + 5]? = some (.list ((List.range k).map fun i => .ref (σ₀.length + rsOf i)))
  hl : σ[σ₀.length + 6]? = some (.list ((List.range k).map fun i => .str (leadS (qAt cs i))))
  hr : ∀ i, i < k → σ[σ₀.length + rsOf i]? = some (.list (natL ((partsL (dsOf cs) (k - 1)).getD i [])))
theorem small_mono {n : Nat} {m : Nat} (h : n ≤ m) (hm : m ≤ 1000000) : small (n : Int) = true := small_nat (by lia)
theorem fmod_nat (m n : Nat) : Int.fmod (m : Int) (n : Int) = ((m % n : Nat) : Int) := (Int.ofNat_fmod m n).symm
theorem fdiv_nat (m n : Nat) : Int.fdiv (m : Int) (n : Int) = ((m / n : Nat) : Int) := (Int.ofNat_fdiv m n).symm
theorem natL_map {f : Nat → Nat} {l : List Nat} : natL (l.map f) = l.map fun i => .int ((f i : Nat) : Int) := List.map_map ..
theorem natL_range_get {f : Nat → Nat} {n i : Nat} (h : i < n) : (natL ((List.range n).map f))[i]? = some (.int ((f i : Nat) : Int)) := by
  rw [natL_map, List.getElem?_map, List.getElem?_range h]; rfl
theorem natL_range_len {f : Nat → Nat} {n : Nat} : (natL ((List.range n).map f)).length = n := by rw [natL_len, List.length_map, List.length_range]
theorem out_comp {cs : List Nat} {m dr : Nat} {ρ : MEnv} {σ : MH} (hm : m < 8) (h1 : ρ "depths" = some (.ref dr)) (h2 : ρ "deep" = some (.int ((dAt cs (m + 1) : Nat) : Int))) (h3 : ρ "k" = some (.int ((m + 1 : Nat) : Int)))
    (hs : σ[dr]? = some (.list (natL ((List.range (m + 1)).map (dAt cs))))) :
    eComp (eVar "j") "j" ["depths", "deep"] (rRange1 (eVar "k")) (tOf (eCmp .eq (eIdx (eVar "depths") (eVar "j")) (eBin opSub (eVar "deep") (eVal (.int 1))))) ρ σ = .ok (.ref σ.length) (σ ++ [.list (natL (kidsL (dsOf cs) (m + 1)))]) := by
  have key := run_comp (e := eVar "j") (x := "j") (fv := ["depths", "deep"]) (src := rRange1 (eVar "k")) (t := tOf (eCmp .eq (eIdx (eVar "depths") (eVar "j")) (eBin opSub (eVar "deep") (eVal (.int 1))))) (ρ := ρ) (σ := σ) (r := .range 0 1 (m + 1))
    (optN fun j => if dAt cs j == dAt cs (m + 1) - 1 then some j else none) (run_range1 (by unfold eVar; rw [h3]) (small_nat (by lia))) (by rw [items0, natL_len, List.length_range]; lia) rfl ?_
  · rw [key, items0, filterMap_natL]
    congr 4
    unfold kidsL
    rw [show (List.range (m + 1)).filter (fun j => (dsOf cs).getD j 0 == (dsOf cs).getD (m + 1) 0 - 1) = (List.range (m + 1)).filter (fun j => dAt cs j == dAt cs (m + 1) - 1) from List.filter_congr fun j hj => by
      rw [dsOf_get (by have := List.mem_range.mp hj; lia), dsOf_get (by lia)]]
    exact congrArg natL (filterMap_ite _ _)
  · intro v hv
    rw [items0] at hv
    obtain ⟨j, hj, rfl⟩ := mem_natL hv
    have hj := List.mem_range.mp hj
    have hpl : place? (j : Int) (natL ((List.range (m + 1)).map (dAt cs))).length = some j := place_nat (by rw [natL_range_len]; exact hj) (by rw [natL_range_len]; lia)
    have hget := natL_range_get (f := dAt cs) hj
    have hd : 1 ≤ dAt cs (m + 1) := by rw [dAt_succ]; lia
    have hb : (((dAt cs j : Nat) : Int) == ((dAt cs (m + 1) : Nat) : Int) - 1) = (dAt cs j == dAt cs (m + 1) - 1) := by
      rw [Bool.eq_iff_iff, beq_iff_eq, beq_iff_eq, show ((dAt cs (m + 1) : Nat) : Int) - 1 = ((dAt cs (m + 1) - 1 : Nat) : Int) from (Int.ofNat_sub hd).symm]; exact Int.ofNat_inj
    refine wp_tOf ?_
    walk_at "ps"
    rw [hb]
    show if (dAt cs j == dAt cs (m + 1) - 1) = true then _ else _
    have ho : optN (fun j => if (dAt cs j == dAt cs (m + 1) - 1) = true then some j else none) (.int (j : Int)) = (if (dAt cs j == dAt cs (m + 1) - 1) = true then some j else none).map fun (k : Nat) => MV.int (k : Int) := by
      show ((fun j => if (dAt cs j == dAt cs (m + 1) - 1) = true then some j else none) ((j : Int).toNat)).map _ = _
      rw [Int.toNat_natCast]
    split
    · rename_i h
      rw [if_pos h] at ho
      walk_at "ps"
      exact ho
    · rename_i h
      rw [if_neg h] at ho
      exact ho
theorem parts_succ (ds : List Nat) (k : Nat) : partsL ds (k + 1) = (partsL ds k).set (parentL ds (k + 1)) ((partsL ds k).getD (parentL ds (k + 1)) [] ++ [k + 1]) ++ [[]] := rfl
theorem parts_get (ds : List Nat) {k i : Nat} (h : i ≤ k) : (partsL ds (k + 1)).getD i [] = if i = parentL ds (k + 1) then (partsL ds k).getD i [] ++ [k + 1] else (partsL ds k).getD i [] := by
  have hl := parts_len ds k
  rw [parts_succ, List.getD_eq_getElem?_getD, List.getElem?_append_left (by rw [List.length_set]; lia), List.getElem?_set]
  by_cases e : parentL ds (k + 1) = i
  · subst e
    rw [if_pos rfl, if_pos (by lia), if_pos rfl]; rfl
  · rw [if_neg e, if_neg (fun h => e h.symm), List.getD_eq_getElem?_getD]
theorem parts_new (ds : List Nat) (k : Nat) : (partsL ds k).getD k [] = [] := by
  cases k with
  | zero => rfl
  | succ k =>
    unfold partsL
    rw [List.getD_eq_getElem?_getD, List.getElem?_append_right (by rw [List.length_set, parts_len]; lia), List.length_set, parts_len, Nat.sub_self]; rfl
theorem parts_small (ds : List Nat) : ∀ k i, ((partsL ds k).getD i []).length ≤ k
  | 0, i => by
    cases i with
    | zero => exact Nat.le_refl _
    | succ i => exact Nat.zero_le _
  | k + 1, i => by
    rcases Nat.lt_or_ge k i with h | h
    · rcases Nat.lt_or_ge (k + 1) i with h' | h'
      · rw [List.getD_eq_getElem?_getD, List.getElem?_eq_none (by rw [parts_len]; lia)]; exact Nat.zero_le _
      · rw [show i = k + 1 by lia, parts_new]; exact Nat.zero_le _
    · rw [parts_get ds h]
      have := parts_small ds k i
      split
      · rw [List.length_append]; exact Nat.succ_le_succ this
      · lia
theorem ways_len (q : List Nat) : (waysL q).length = q.length + 1 := by unfold waysL; rw [List.length_map, List.length_range]
theorem ways_get {q : List Nat} {i : Nat} (h : i ≤ q.length) : (waysL q)[i]? = some (.str (leadS (q.take i))) := by
  unfold waysL
  rw [List.getElem?_map, List.getElem?_range (by lia)]; rfl
theorem leadS_len (q : List Nat) : (leadS q).length = (leadL q).length := rfl
theorem piece_get {V : List MV} {L : Nat → List Nat} (hV : V = (List.range 4).map fun e => .str ⟨(L e).toArray⟩) {e : Nat} (h : e < 4) : place? (e : Int) V.length = some e ∧ V[e]? = some (.str ⟨(L e).toArray⟩) := by
  subst hV
  refine ⟨place_nat (by rw [List.length_map, List.length_range]; exact h) (by rw [List.length_map, List.length_range]; lia), ?_⟩
  rw [List.getElem?_map, List.getElem?_range h]; rfl
theorem lead_next {q : List Nat} {c d : Nat} (hd : c % (min q.length 3 + 1) = d) : leadS (q.take d) ++ (if d = 0 then ⟨(nearL (c / 12 % 4)).toArray⟩ else ⟨(deepL (c / 12 % 4)).toArray⟩ : Str) = leadS (nextQ q c) := by
  unfold nextQ leadS
  rw [hd, lead_app]
  have : (q.take d).length = d := by rw [List.length_take, Nat.min_eq_left (mod_le hd)]
  rw [this]
  split
  · exact congrArg Str.mk (by show Array.append _ _ = _; simp)
  · exact congrArg Str.mk (by show Array.append _ _ = _; simp)
theorem ways_next {q : List Nat} {c d : Nat} (hd : c % (min q.length 3 + 1) = d) : (waysL q).take (d + 1) ++ [.str (leadS (nextQ q c))] = waysL (nextQ q c) := by
  have hl : (nextQ q c).length = d + 1 := by rw [nextQ_len, hd]
  unfold waysL
  rw [hl, List.range_succ (n := d + 1), List.map_append, ← List.map_take, List.take_range, Nat.min_eq_left (Nat.succ_le_succ (mod_le hd))]
  congr 1
  · refine List.map_congr_left fun i hi => ?_
    have hi := List.mem_range.mp hi
    unfold nextQ
    rw [hd, List.take_append_of_le_length (by rw [List.length_take, Nat.min_eq_left (mod_le hd)]; exact Nat.le_of_lt_succ hi), List.take_take, Nat.min_eq_left (Nat.le_of_lt_succ hi)]
  · rw [List.map_singleton, List.take_of_length_le (Nat.le_of_eq hl)]
namespace hkp90
noncomputable abbrev hS (σ₀ : MH) (cr : Nat) (cs : List Nat) (m : Nat) (ρ : MEnv) (σ : MH) : Prop := ∀ (hcs : cs.length = 9) (hb : ∀ i, cs.getD i 0 ≤ 1000000) (hcr : σ₀[cr]? = some (.list (natL cs))) (h0 : σ₀.length ≠ 0) (hm : m < 8) (hI : OutInv σ₀ cr cs (m + 1) ρ σ), Wp (outBody (upd ρ "k" (.int ((m + 1 : Nat) : Int))) σ) (fun r σ' => r.1 = .next ∧ OutInv σ₀ cr cs (m + 2) r.2 σ') noX
noncomputable abbrev hP := fun p : MH × Nat × (List Nat) × Nat × MEnv × MH => hS p.1 p.2.1 p.2.2.1 p.2.2.2.1 p.2.2.2.2.1 p.2.2.2.2.2
noncomputable def hW := ce (default, default, default, default, default, default) hP
noncomputable def σ₀ : MH := hW.1
noncomputable def cr : Nat := hW.2.1
noncomputable def cs : List Nat := hW.2.2.1
noncomputable def m : Nat := hW.2.2.2.1
noncomputable def ρ : MEnv := hW.2.2.2.2.1
noncomputable def σ : MH := hW.2.2.2.2.2
theorem hT : hS σ₀ cr cs m ρ σ := by
  intro hcs hb hcr h0 hm hI
  obtain ⟨vc, vn, vd, vs, vw, vp, vl, len, ext, hn, hd, hs, hw, hp, hl, hr⟩ := hI
  have hcr' : σ[cr]? = some (.list (natL cs)) := by obtain ⟨e, he⟩ := ext; rw [he]; exact get_old hcr
  have vk : upd ρ "k" (.int ((m + 1 : Nat) : Int)) "k" = some (.int ((m + 1 : Nat) : Int)) := upd_eq
  replace vc := (upd_skip (ρ := ρ) (x := "k") (v := .int ((m + 1 : Nat) : Int)) (y := "cells") (by decide)).trans vc
  replace vn := (upd_skip (ρ := ρ) (x := "k") (v := .int ((m + 1 : Nat) : Int)) (y := "near") (by decide)).trans vn
  replace vd := (upd_skip (ρ := ρ) (x := "k") (v := .int ((m + 1 : Nat) : Int)) (y := "deeper") (by decide)).trans vd
  replace vs := (upd_skip (ρ := ρ) (x := "k") (v := .int ((m + 1 : Nat) : Int)) (y := "depths") (by decide)).trans vs
  replace vw := (upd_skip (ρ := ρ) (x := "k") (v := .int ((m + 1 : Nat) : Int)) (y := "ways") (by decide)).trans vw
  replace vp := (upd_skip (ρ := ρ) (x := "k") (v := .int ((m + 1 : Nat) : Int)) (y := "parts") (by decide)).trans vp
  replace vl := (upd_skip (ρ := ρ) (x := "k") (v := .int ((m + 1 : Nat) : Int)) (y := "leads") (by decide)).trans vl
  generalize upd ρ "k" (.int ((m + 1 : Nat) : Int)) = ρ at *
  refine boxQ fun G0 k0 => ?_
  unfold outBody
  have p1 : place? ((m + 1 : Nat) : Int) (natL cs).length = some (m + 1) := place_nat (by rw [natL_len]; lia) (by rw [natL_len]; lia)
  have g1 := natL_get (l := cs) (p := m + 1) (by lia)
  have p2 : place? (((m + 1 : Nat) : Int) - 1) (natL ((List.range (m + 1)).map (dAt cs))).length = some m := by
    rw [show ((m + 1 : Nat) : Int) - 1 = (m : Int) by lia]; exact place_nat (by rw [natL_range_len]; lia) (by rw [natL_range_len]; lia)
  have g2 := natL_range_get (f := dAt cs) (n := m + 1) (i := m) (by lia)
  have n1 : (if (3 : Int) < ((dAt cs m : Nat) : Int) then (3 : Int) else ((dAt cs m : Nat) : Int)) + 1 ≠ 0 := by split <;> lia
  have hdeep : (1 : Int) + Int.fmod ((cs.getD (m + 1) 0 : Nat) : Int) ((if (3 : Int) < ((dAt cs m : Nat) : Int) then (3 : Int) else ((dAt cs m : Nat) : Int)) + 1) = ((dAt cs (m + 1) : Nat) : Int) := by
    rw [show (if (3 : Int) < ((dAt cs m : Nat) : Int) then (3 : Int) else ((dAt cs m : Nat) : Int)) + 1 = ((min (dAt cs m) 3 + 1 : Nat) : Int) by split <;> lia, fmod_nat, dAt_succ]; lia
  walk_at "pt"
  rw [hdeep]
  clear hdeep n1 p2 g2
  have d1 := dAt_succ cs m
  obtain ⟨p, hp1, hp2, hp3, hp4⟩ := kids_last (cs := cs) (k := m) hm
  refine wp_seq (wp_append ?_)
  walk_at "ps"
  refine wp_eq (out_comp hm (by walk_at "pn") (by walk_at "pn") (by walk_at "pn") hs) ?_
  have hkl : 0 < (kidsL (dsOf cs) (m + 1)).length ∧ (kidsL (dsOf cs) (m + 1)).length ≤ m + 1 := by
    refine ⟨List.length_pos_of_mem (List.mem_of_getLast? hp1), ?_⟩
    exact Nat.le_trans (List.length_filter_le ..) (by rw [List.length_range]; exact Nat.le_refl _)
  have q1 : place? (-1) (natL (kidsL (dsOf cs) (m + 1))).length = some ((kidsL (dsOf cs) (m + 1)).length - 1) := by
    unfold place?
    rw [natL_len, if_neg (by decide), if_pos ⟨rfl, by lia, by lia⟩]
  have q2 : (natL (kidsL (dsOf cs) (m + 1)))[(kidsL (dsOf cs) (m + 1)).length - 1]? = some (.int ((p : Nat) : Int)) := by
    rw [List.getLast?_eq_getElem?] at hp1
    unfold natL
    rw [List.getElem?_map, hp1]; rfl
  have q3 : place? ((p : Nat) : Int) ((List.range (m + 1)).map fun i => MV.ref (σ₀.length + rsOf i)).length = some p := place_nat (by rw [List.length_map, List.length_range]; lia) (by rw [List.length_map, List.length_range]; lia)
  have q4 : ((List.range (m + 1)).map fun i => MV.ref (σ₀.length + rsOf i))[p]? = some (.ref (σ₀.length + rsOf p)) := by
    rw [List.getElem?_map, List.getElem?_range (by lia)]; rfl
  walk_at "ps"
  refine ⟨_, _, rfl, get_old (hr p (by lia)), ?_⟩
  walk_at "ps"
  refine ⟨_, get_old (hr p (by lia)), ⟨by lia, ?_⟩, ?_⟩
  · rw [natL_len]
    have := parts_small (dsOf cs) m p
    unfold maxLen
    simp only [Nat.add_sub_cancel]; lia
  have hrs : ∀ i, i < m + 1 → rsOf i < 6 + 5 * (m + 1) ∧ rsOf i ≠ 2 ∧ rsOf i ≠ 5 ∧ rsOf i ≠ 6 ∧ rsOf i ≠ wrOf (m + 1) ∧ 4 ≤ rsOf i := by
    intro i hi; unfold rsOf wrOf; split <;> split <;> lia
  have hinj : ∀ i j, rsOf i = rsOf j → i = j := by intro i j; unfold rsOf; split <;> split <;> lia
  have hp' := hrs p (by lia)
  have K : ∀ x o, x ≠ σ₀.length + rsOf p → σ[x]? = some o → ((σ ++ [MO.list (natL (kidsL (dsOf cs) (m + 1)))]).set (σ₀.length + rsOf p) (.list (natL ((partsL (dsOf cs) (m + 1 - 1)).getD p []) ++ [.int ((m + 1 : Nat) : Int)])))[x]? = some o :=
    fun x o hx h => get_set_ne (Ne.symm hx) (get_old h)
  have hcr'' : cr < σ₀.length := get_lt hcr
  replace hcr' := K _ _ (by lia) hcr'
  replace hn := K _ _ (by lia) hn
  replace hd := K _ _ (by lia) hd
  replace hs := K _ _ (by lia) hs
  replace hp := K _ _ (by lia) hp
  replace hl := K _ _ (by lia) hl
  replace hw := K _ _ (by lia) hw
  replace hr : ∀ i, i < m + 1 → ((σ ++ [MO.list (natL (kidsL (dsOf cs) (m + 1)))]).set (σ₀.length + rsOf p) (.list (natL ((partsL (dsOf cs) (m + 1 - 1)).getD p []) ++ [.int ((m + 1 : Nat) : Int)])))[σ₀.length + rsOf i]? = some (.list (natL ((partsL (dsOf cs) (m + 1)).getD i []))) := by
    intro i hi
    rw [parts_get _ (by lia : i ≤ m)]
    by_cases e : i = p
    · subst e
      rw [if_pos hp2, get_set_eq (get_old (hr i hi))]
      unfold natL
      rw [List.map_append]; rfl
    · rw [if_neg (by rw [← hp2]; exact e)]
      exact K _ _ (fun h => e (hinj _ _ (by lia))) (hr i hi)
  have hlen : ((σ ++ [MO.list (natL (kidsL (dsOf cs) (m + 1)))]).set (σ₀.length + rsOf p) (.list (natL ((partsL (dsOf cs) (m + 1 - 1)).getD p []) ++ [.int ((m + 1 : Nat) : Int)]))).length = σ₀.length + 3 + 5 * (m + 1) := by
    rw [List.length_set, List.length_append, len]; simp only [List.length_cons, List.length_nil]; lia
  replace ext : ∃ ext, ((σ ++ [MO.list (natL (kidsL (dsOf cs) (m + 1)))]).set (σ₀.length + rsOf p) (.list (natL ((partsL (dsOf cs) (m + 1 - 1)).getD p []) ++ [.int ((m + 1 : Nat) : Int)]))) = σ₀ ++ ext := by
    obtain ⟨e, he⟩ := ext; rw [he, List.append_assoc]; exact ext_set (Nat.le_add_right _ _)
  clear K len
  generalize (σ ++ [MO.list (natL (kidsL (dsOf cs) (m + 1)))]).set (σ₀.length + rsOf p) _ = σ at *
  rw [show m + 1 - 1 = m from rfl] at hw
  have hdl : dAt cs m = (qAt cs m).length := rfl
  generalize hD : cs.getD (m + 1) 0 % (min (dAt cs m) 3 + 1) = D at d1
  have h4 : D ≤ 3 := mod_le3 hD
  have hDq : D ≤ (qAt cs m).length := mod_le hD
  have hq4 : (qAt cs m).length ≤ 4 := dAt_le cs m
  have hD' : cs.getD (m + 1) 0 % (min (qAt cs m).length 3 + 1) = D := hD
  have w1 : (okB (waysL (qAt cs m)).length ((dAt cs (m + 1) : Nat) : Int) && decide (((dAt cs (m + 1) : Nat) : Int) ≤ (waysL (qAt cs m)).length)) = true := by
    rw [ways_len, d1]
    have h5 : (qAt cs m).length + 1 ≤ maxLen := Nat.le_trans (Nat.succ_le_succ hq4) (by decide)
    unfold okB
    rw [decide_eq_true (by lia), decide_eq_true (by lia), decide_eq_true h5, decide_eq_true (by lia)]; rfl
  have w2 : place? (((dAt cs (m + 1) : Nat) : Int) - 1) (waysL (qAt cs m)).length = some D := by
    rw [d1, show ((D + 1 : Nat) : Int) - 1 = (D : Int) by lia, ways_len]
    exact place_nat (Nat.lt_succ_of_le hDq) (Nat.le_trans (Nat.succ_le_succ hq4) (by decide))
  have w3 := ways_get (q := qAt cs m) (i := D) hDq
  have w4 : small ((cs.getD (m + 1) 0 : Nat) : Int) = true := small_nat (hb _)
  have w5 : Int.fmod (Int.fdiv ((cs.getD (m + 1) 0 : Nat) : Int) 12) 4 = ((cs.getD (m + 1) 0 / 12 % 4 : Nat) : Int) := by
    rw [show (12 : Int) = ((12 : Nat) : Int) from rfl, fdiv_nat, show (4 : Int) = ((4 : Nat) : Int) from rfl, fmod_nat]
  have he : cs.getD (m + 1) 0 / 12 % 4 < 4 := Nat.mod_lt _ (by decide)
  obtain ⟨v1, v2⟩ := piece_get nearV_eq he
  obtain ⟨v3, v4⟩ := piece_get deepV_eq he
  rw [← w5] at v1 v3
  have hln := lead_next hD'
  have hwn := ways_next hD'
  have hq : qAt cs (m + 1) = nextQ (qAt cs m) (cs.getD (m + 1) 0) := rfl
  have htl : (leadS ((qAt cs m).take D)).length ≤ 100 := by
    rw [leadS_len]; exact Nat.le_trans (lead_len _) (by rw [List.length_take]; exact Nat.le_trans (Nat.mul_le_mul_left 5 (Nat.le_trans (Nat.min_le_left ..) h4)) (by decide))
  have hways : ∀ Q : MF × MEnv → MH → Prop, (∀ A B, Q (.next, upd (upd ρ "deep" (MV.int ((dAt cs (m + 1) : Nat) : Int))) "ways" (.ref (σ.length + 2))) (σ ++ [A] ++ [B] ++ [.list (waysL (qAt cs (m + 1)))])) → Wp ((sAssign "ways"
        (eBin opAdd (eSlTo (eVar "ways") (eVar "deep"))
          (eList
            (lCons
              (eBin opAdd (eIdx (eVar "ways") (eBin opSub (eVar "deep") (eVal (MV.int 1))))
                (eIdx (eIf (tOf (eCmp Cm.eq (eVar "deep") (eVal (MV.int 1)))) (eVar "near") (eVar "deeper"))
                  (eBin opMod (eBin opDiv (eIdx (eVar "cells") (eVar "k")) (eVal (MV.int 12))) (eVal (MV.int 4)))))
              lNil)))) (upd ρ "deep" (MV.int ((dAt cs (m + 1) : Nat) : Int))) σ) Q noX := by
    intro Q hQ
    have htk : ∀ x : MV, ((waysL (qAt cs m)).take ((dAt cs (m + 1) : Nat) : Int).toNat).length + [x].length ≤ maxLen := by
      intro x
      rw [List.length_take, Int.toNat_natCast, d1]
      exact Nat.le_trans (Nat.succ_le_succ (Nat.le_trans (Nat.min_le_left ..) (Nat.succ_le_succ h4))) (by decide)
    have htn : (waysL (qAt cs m)).take ((dAt cs (m + 1) : Nat) : Int).toNat = (waysL (qAt cs m)).take (D + 1) := by rw [Int.toNat_natCast, d1]
    have hwn' : (waysL (qAt cs m)).take (D + 1) ++ [.str (leadS (qAt cs (m + 1)))] = waysL (qAt cs (m + 1)) := hwn
    have hQ' : ∀ A B, Q (.next, upd (upd ρ "deep" (MV.int ((dAt cs (m + 1) : Nat) : Int))) "ways" (.ref (σ ++ [A] ++ [B]).length)) (σ ++ [A] ++ [B] ++ [.list (waysL (qAt cs (m + 1)))]) := fun A B => by
      have := hQ A B
      rw [show (σ ++ [A] ++ [B]).length = σ.length + 2 by simp]; exact this
    by_cases hz : D = 0
    · have hz' : ((((dAt cs (m + 1) : Nat) : Int) == 1) : Bool) = true := by rw [beq_iff_eq, d1, hz]; rfl
      have ha : (leadS ((qAt cs m).take D)).length + (⟨(nearL (cs.getD (m + 1) 0 / 12 % 4)).toArray⟩ : Str).length ≤ maxLen := by
        have := near_len (cs.getD (m + 1) 0 / 12 % 4)
        show _ + (nearL (cs.getD (m + 1) 0 / 12 % 4)).length ≤ _
        unfold maxLen; lia
      rw [if_pos hz] at hln
      have hal := htk (.str (leadS ((qAt cs m).take D) ++ ⟨(nearL (cs.getD (m + 1) 0 / 12 % 4)).toArray⟩))
      walk_at "p:last"
      rw [hln, ← hq, htn, hwn']
      exact hQ' _ _
    · have hz' : ¬ ((((dAt cs (m + 1) : Nat) : Int) == 1) : Bool) = true := by rw [beq_iff_eq, d1]; lia
      have ha : (leadS ((qAt cs m).take D)).length + (⟨(deepL (cs.getD (m + 1) 0 / 12 % 4)).toArray⟩ : Str).length ≤ maxLen := by
        have := deep_len (cs.getD (m + 1) 0 / 12 % 4)
        show _ + (deepL (cs.getD (m + 1) 0 / 12 % 4)).length ≤ _
        unfold maxLen; lia
      rw [if_neg hz] at hln
      have hal := htk (.str (leadS ((qAt cs m).take D) ++ ⟨(deepL (cs.getD (m + 1) 0 / 12 % 4)).toArray⟩))
      walk_at "p:last"
      rw [hln, ← hq, htn, hwn']
      exact hQ' _ _
  refine wp_seq (hways _ fun A B => ?_)
  clear hways
  dsimp only
  have hwr : σ.length + 2 = σ₀.length + wrOf (m + 2) := by unfold wrOf; rw [if_neg (by lia)]; lia
  have hw' : (σ ++ [A] ++ [B] ++ [MO.list (waysL (qAt cs (m + 1)))])[σ₀.length + wrOf (m + 2)]? = some (.list (waysL (qAt cs (m + 1)))) := by
    rw [← hwr, show σ.length + 2 = (σ ++ [A] ++ [B]).length by simp]; exact get_last
  rw [hwr]
  have K : ∀ x o, σ[x]? = some o → (σ ++ [A] ++ [B] ++ [MO.list (waysL (qAt cs (m + 1)))])[x]? = some o := fun x o h => get_old (get_old (get_old h))
  replace hcr' := K _ _ hcr'
  replace hn := K _ _ hn
  replace hd := K _ _ hd
  replace hs := K _ _ hs
  replace hp := K _ _ hp
  replace hl := K _ _ hl
  replace hr := fun i hi => K _ _ (hr i hi)
  have hlen' : (σ ++ [A] ++ [B] ++ [MO.list (waysL (qAt cs (m + 1)))]).length = σ₀.length + 6 + 5 * (m + 1) := by simp; lia
  replace ext := ext_app (l := [MO.list (waysL (qAt cs (m + 1)))]) (ext_app (l := [B]) (ext_app (l := [A]) ext))
  clear K hlen hw hwr
  generalize σ ++ [A] ++ [B] ++ [MO.list (waysL (qAt cs (m + 1)))] = σ at *
  have hd3 : dAt cs (m + 1) = (qAt cs (m + 1)).length := rfl
  have hw5 : wrOf (m + 2) = 5 * m + 10 := by unfold wrOf; rw [if_neg (by lia)]; lia
  have u1 : place? ((dAt cs (m + 1) : Nat) : Int) (waysL (qAt cs (m + 1))).length = some (dAt cs (m + 1)) := place_nat (by rw [ways_len]; lia) (by rw [ways_len]; lia)
  have u2 : (waysL (qAt cs (m + 1)))[dAt cs (m + 1)]? = some (.str (leadS (qAt cs (m + 1)))) := by
    rw [ways_get (by lia), hd3, List.take_of_length_le (Nat.le_refl _)]
  refine wp_seq (wp_append ?_)
  walk_at "ps"
  refine ⟨_, _, rfl, hl, ?_⟩
  walk_at "ps"
  refine ⟨_, hl, ⟨by lia, by rw [List.length_map, List.length_range]; unfold maxLen; lia⟩, ?_⟩
  have K : ∀ x o, x ≠ σ₀.length + 6 → σ[x]? = some o → (σ.set (σ₀.length + 6) (.list (((List.range (m + 1)).map fun i => MV.str (leadS (qAt cs i))) ++ [.str (leadS (qAt cs (m + 1)))])))[x]? = some o :=
    fun x o hx h => get_set_ne (Ne.symm hx) h
  replace hl : (σ.set (σ₀.length + 6) (.list (((List.range (m + 1)).map fun i => MV.str (leadS (qAt cs i))) ++ [.str (leadS (qAt cs (m + 1)))])))[σ₀.length + 6]? = some (.list ((List.range (m + 2)).map fun i => MV.str (leadS (qAt cs i)))) :=
    (get_set_eq hl).trans (by rw [List.range_succ (n := m + 1), List.map_append]; rfl)
  replace hn := K _ _ (by lia) hn
  replace hd := K _ _ (by lia) hd
  replace hs := K _ _ (by lia) hs
  replace hp := K _ _ (by lia) hp
  replace hw' := K _ _ (by lia) hw'
  replace hr := fun i hi => K _ _ (by have := hrs i hi; lia) (hr i hi)
  replace hlen' : (σ.set (σ₀.length + 6) (.list (((List.range (m + 1)).map fun i => MV.str (leadS (qAt cs i))) ++ [.str (leadS (qAt cs (m + 1)))]))).length = σ₀.length + 6 + 5 * (m + 1) := by rw [List.length_set]; exact hlen'
  replace ext : ∃ ext, (σ.set (σ₀.length + 6) (.list (((List.range (m + 1)).map fun i => MV.str (leadS (qAt cs i))) ++ [.str (leadS (qAt cs (m + 1)))]))) = σ₀ ++ ext := by
    obtain ⟨e, he⟩ := ext; rw [he]; exact ext_set (Nat.le_add_right _ _)
  clear K hcr'
  generalize σ.set (σ₀.length + 6) _ = σ at *
  try dsimp only
  refine wp_seq (wp_append ?_)
  walk_at "ps"
  refine ⟨_, _, rfl, hs, ?_⟩
  walk_at "ps"
  refine ⟨_, hs, ⟨by lia, by rw [natL_range_len]; unfold maxLen; lia⟩, ?_⟩
  have K : ∀ x o, x ≠ σ₀.length + 2 → σ[x]? = some o → (σ.set (σ₀.length + 2) (.list (natL ((List.range (m + 1)).map (dAt cs)) ++ [.int ((dAt cs (m + 1) : Nat) : Int)])))[x]? = some o :=
    fun x o hx h => get_set_ne (Ne.symm hx) h
  replace hs : (σ.set (σ₀.length + 2) (.list (natL ((List.range (m + 1)).map (dAt cs)) ++ [.int ((dAt cs (m + 1) : Nat) : Int)])))[σ₀.length + 2]? = some (.list (natL ((List.range (m + 2)).map (dAt cs)))) :=
    (get_set_eq hs).trans (by unfold natL; rw [List.range_succ (n := m + 1), List.map_append, List.map_append]; rfl)
  replace hn := K _ _ (by lia) hn
  replace hd := K _ _ (by lia) hd
  replace hl := K _ _ (by lia) hl
  replace hp := K _ _ (by lia) hp
  replace hw' := K _ _ (by lia) hw'
  replace hr := fun i hi => K _ _ (by have := hrs i hi; lia) (hr i hi)
  replace hlen' : (σ.set (σ₀.length + 2) (.list (natL ((List.range (m + 1)).map (dAt cs)) ++ [.int ((dAt cs (m + 1) : Nat) : Int)]))).length = σ₀.length + 6 + 5 * (m + 1) := by rw [List.length_set]; exact hlen'
  replace ext : ∃ ext, (σ.set (σ₀.length + 2) (.list (natL ((List.range (m + 1)).map (dAt cs)) ++ [.int ((dAt cs (m + 1) : Nat) : Int)]))) = σ₀ ++ ext := by
    obtain ⟨e, he⟩ := ext; rw [he]; exact ext_set (Nat.le_add_right _ _)
  clear K
  generalize σ.set (σ₀.length + 2) _ = σ at *
  try dsimp only
  refine wp_append ?_
  walk_at "ps"
  refine ⟨_, _, rfl, hp, ?_⟩
  walk_at "ps"
  refine ⟨_, get_old hp, ⟨by lia, by rw [List.length_map, List.length_range]; unfold maxLen; lia⟩, ?_⟩
  have K : ∀ x o, x ≠ σ₀.length + 5 → σ[x]? = some o → ((σ ++ [MO.list []]).set (σ₀.length + 5) (.list (((List.range (m + 1)).map fun i => MV.ref (σ₀.length + rsOf i)) ++ [.ref σ.length])))[x]? = some o :=
    fun x o hx h => get_set_ne (Ne.symm hx) (get_old h)
  have hrn : rsOf (m + 1) = 5 * m + 11 := by unfold rsOf; rw [if_neg (by lia)]; lia
  refine k0 _ _ ⟨rfl, by walk_at "pn", by walk_at "pn", by walk_at "pn", by walk_at "pn", by walk_at "pn", by walk_at "pn", by walk_at "pn", ?_, ?_, K _ _ (by lia) hn, K _ _ (by lia) hd, K _ _ (by lia) hs, K _ _ (by lia) hw', ?_, K _ _ (by lia) hl, ?_⟩
  · rw [List.length_set, List.length_append, hlen']; simp only [List.length_cons, List.length_nil]; lia
  · obtain ⟨e, he⟩ := ext; rw [he, List.append_assoc]; exact ext_set (Nat.le_add_right _ _)
  · refine (get_set_eq (get_old hp)).trans ?_
    rw [List.range_succ (n := m + 1), List.map_append, show σ.length = σ₀.length + rsOf (m + 1) by lia]; rfl
  · intro i hi
    rcases Nat.lt_or_ge i (m + 1) with h | h
    · exact K _ _ (by have := hrs i h; lia) (hr i h)
    · rw [show i = m + 1 by lia]
      refine get_set_ne (by lia) ?_
      rw [show σ₀.length + rsOf (m + 1) = σ.length by lia]
      refine get_last.trans ?_
      rw [show m + 2 - 1 = m + 1 from rfl, parts_new]; rfl
end hkp90
theorem out_turn : ∀ {σ₀ : MH} {cr : Nat} {cs : List Nat} {m : Nat} {ρ : MEnv} {σ : MH}, hkp90.hS σ₀ cr cs m ρ σ := @fun σ₀ cr cs m ρ σ => ce_all (P := hkp90.hP) (default, default, default, default, default, default) (@hkp90.hT) (σ₀, cr, cs, m, ρ, σ)
noncomputable def PartsAt (σ : MH) (pr : Nat) (ps : Nat → List Nat) : Prop := ∃ rs : Nat → Nat, σ[pr]? = some (.list ((List.range 9).map fun i => .ref (rs i))) ∧ ∀ i, i < 9 → σ[rs i]? = some (.list (natL (ps i)))
theorem partsAt_app {σ l : MH} {pr : Nat} {ps : Nat → List Nat} (h : PartsAt σ pr ps) : PartsAt (σ ++ l) pr ps := by
  refine box fun GZ kZ => ?_
  obtain ⟨rs, h1, h2⟩ := h
  refine kZ ?_
  clear kZ GZ
  exact ⟨rs, get_old h1, fun i hi => get_old (h2 i hi)⟩
theorem get_at {σ l : MH} {i : Nat} : (σ ++ l)[σ.length + i]? = l[i]? := by rw [List.getElem?_append_right (Nat.le_add_right _ _), Nat.add_sub_cancel_left]
theorem get_at0 {σ l : MH} : (σ ++ l)[σ.length]? = l[0]? := get_at (i := 0)
theorem out_loop {σ₀ : MH} {cr : Nat} {cs : List Nat} (hcs : cs.length = 9) (hb : ∀ i, cs.getD i 0 ≤ 1000000) (hcr : σ₀[cr]? = some (.list (natL cs))) (h0 : σ₀.length ≠ 0) :
    ∀ (n m : Nat) (ρ : MEnv) (σ : MH), m + n = 8 → OutInv σ₀ cr cs (m + 1) ρ σ → Wp (forGo (.range 1 1 8) "k" outBody ((List.range' m n).map fun i => .int ((i + 1 : Nat) : Int)) ρ σ) (fun r σ' => r.1 = .next ∧ OutInv σ₀ cr cs 9 r.2 σ') noX
  | 0, m, ρ, σ, h, hI => by
    have : m = 8 := by lia
    subst this
    exact ⟨rfl, hI⟩
  | n + 1, m, ρ, σ, h, hI => by
    rw [List.range'_succ, List.map_cons]
    refine wp_goCons (wp_mono (out_turn hcs hb hcr h0 (by lia) hI) (fun r σ' ⟨h1, h2⟩ => ?_) (fun _ _ _ h => h))
    rw [h1]
    exact ⟨rfl, out_loop hcs hb hcr h0 n (m + 1) _ _ (by lia) h2⟩
namespace hkp100
noncomputable abbrev hS (σ₀ : MH) (cr : Nat) (cs : List Nat) : Prop := ∀ (hcs : cs.length = 9) (hb : ∀ i, cs.getD i 0 ≤ 1000000) (hcr : σ₀[cr]? = some (.list (natL cs))) (h0 : σ₀.length ≠ 0), ∃ ext t lr pr, outlineF [.ref cr] σ₀ = .ok (.ref t) (σ₀ ++ ext) ∧ (σ₀ ++ ext)[t]? = some (.tup [.ref lr, .ref pr]) ∧ (σ₀ ++ ext)[lr]? = some (.list ((List.range 9).map fun i => .str (leadS (qAt cs i)))) ∧ PartsAt (σ₀ ++ ext) pr (fun i => (partsL (dsOf cs) 8).getD i [])
noncomputable abbrev hP := fun p : MH × Nat × (List Nat) => hS p.1 p.2.1 p.2.2
noncomputable def hW := ce (default, default, default) hP
noncomputable def σ₀ : MH := hW.1
noncomputable def cr : Nat := hW.2.1
noncomputable def cs : List Nat := hW.2.2
theorem hT : hS σ₀ cr cs := by
  intro hcs hb hcr h0
  suffices h : Wp (defCall ["cells"] outlineB [.ref cr] σ₀) (fun v σ' => ∃ t lr pr, v = .ref t ∧ (∃ ext, σ' = σ₀ ++ ext) ∧ σ'[t]? = some (.tup [.ref lr, .ref pr]) ∧ σ'[lr]? = some (.list ((List.range 9).map fun i => .str (leadS (qAt cs i)))) ∧ PartsAt σ' pr (fun i => (partsL (dsOf cs) 8).getD i [])) noX by
    refine box fun GZ kZ => ?_
    obtain ⟨v, σ', e, t, lr, pr, rfl, ⟨ext, rfl⟩, h1, h2, h3⟩ := wp_out h
    refine kZ ?_
    clear kZ GZ
    exact ⟨ext, t, lr, pr, by unfold outlineF noExc; rw [e], h1, h2, h3⟩
  refine boxQ fun G0 k0 => ?_
  refine wp_def rfl ?_
  unfold outlineB
  dsimp only [updAll]
  iterate 2 walk_at "pt"
  refine wp_seq (wp_for (wp_range ?_))
  walk_at "ps"
  refine ⟨_, _, rfl, rfl, by decide, by decide, ?_⟩
  simp only [List.append_assoc, List.cons_append, List.nil_append, List.length_append, List.length_cons, List.length_nil, Nat.zero_add, Nat.reduceAdd]
  refine wp_mono (out_loop hcs hb hcr h0 8 0 _ _ rfl ?_) ?_ (fun _ _ _ h => h)
  · refine ⟨by walk_at "pn", by walk_at "pn", by walk_at "pn", by walk_at "pn", (show _ = some (MV.ref (σ₀.length + 3)) by walk_at "pn"), by walk_at "pn", by walk_at "pn", ?_, ⟨_, rfl⟩, get_at0, get_at, get_at, ?_, get_at, get_at, ?_⟩
    · rw [List.length_append]; rfl
    · refine get_at.trans ?_
      exact congrArg some (congrArg MO.list (show _ = waysL [] by decide +kernel))
    · intro i hi
      have : i = 0 := by lia
      subst this
      exact get_at
  · intro r σ ⟨q1, hI⟩
    refine box fun GZ kZ => ?_
    obtain ⟨vc, vn, vd, vs, vw, vp, vl, len, ext, hn, hd, hs, hw, hp, hl, hr⟩ := hI
    refine kZ ?_
    clear kZ GZ
    rw [q1]
    generalize r.2 = ρ at *
    dsimp only
    walk_at "p:ret"
    exact k0 _ _ ⟨_, _, _, rfl, ext_app ext, get_last, get_old hl, partsAt_app ⟨_, hp, hr⟩⟩
end hkp100
theorem run_outline : ∀ {σ₀ : MH} {cr : Nat} {cs : List Nat}, hkp100.hS σ₀ cr cs := @fun σ₀ cr cs => ce_all (P := hkp100.hP) (default, default, default) (@hkp100.hT) (σ₀, cr, cs)
theorem toPy_int (σ : MH) (n : Nat) (i : Int) : toPy σ n (.int i) = some (.int i) := by cases n <;> rfl
theorem toPy_str (σ : MH) (n : Nat) (s : Str) : toPy σ n (.str s) = some (.str s) := by cases n <;> rfl
theorem mapM_some {α β : Type} {f : α → Option β} {g : α → β} : ∀ l : List α, (∀ a ∈ l, f a = some (g a)) → l.mapM f = some (l.map g)
  | [], _ => rfl
  | a :: l, h => by
    rw [List.mapM_cons, h a (List.mem_cons_self ..), mapM_some l (fun b hb => h b (List.mem_cons_of_mem _ hb))]; rfl
theorem toPy_ints (σ : MH) (n : Nat) (l : List Nat) : (natL l).mapM (toPy σ n) = some (l.map fun (k : Nat) => PyData.int (k : Int)) := by
  unfold natL
  rw [List.mapM_map]
  exact mapM_some l fun a _ => toPy_int σ n a
theorem flat_ints : ∀ l : List Nat, PyData.canLayAll0 (l.map fun (k : Nat) => PyData.int (k : Int)) = true ∧ PyData.depthAll (l.map fun (k : Nat) => PyData.int (k : Int)) = 0
  | [] => ⟨rfl, rfl⟩
  | a :: l => by
    obtain ⟨h1, h2⟩ := flat_ints l
    rw [List.map_cons]
    refine ⟨?_, ?_⟩
    · unfold PyData.canLayAll0 PyData.canLay0; rw [h1]; rfl
    · unfold PyData.depthAll PyData.depth; rw [h2]; rfl
theorem eq_nil {i j : Nat} {l : List Nat} {σ : MH} (h : σ[i]? = some (.list (natL l))) (h' : σ[j]? = some (.list [])) : cmpEq? (.ref i) (.ref j) σ = some l.isEmpty := by
  obtain ⟨f1, f2⟩ := flat_ints l
  have e1 : toPy σ 4 (.ref i) = some (.list (l.map fun (k : Nat) => PyData.int (k : Int))) := by
    unfold toPy; rw [h]; dsimp only; rw [toPy_ints]; rfl
  have e2 : toPy σ 4 (.ref j) = some (.list []) := by
    unfold toPy; rw [h']; rfl
  have s1 : SeqAt.shaped (.list (l.map fun (k : Nat) => PyData.int (k : Int))) = true := by
    unfold SeqAt.shaped PyData.canLay0 PyData.depth; rw [f1, f2]; rfl
  unfold cmpEq?
  dsimp only
  rw [e1, e2]
  dsimp only
  rw [s1, show SeqAt.shaped (PyData.list []) = true from rfl, if_pos (show (true && true) = true from rfl)]
  cases l with
  | nil => rfl
  | cons a l => rfl
theorem run_filled {x : ED} {i : Nat} {l : List Nat} {ρ : MEnv} {σ : MH} (hx : x ρ σ = .ok (.ref i) σ) (h : σ[i]? = some (.list (natL l))) :
    tOf (eCmp .ne x (eList lNil)) ρ σ = .ok (!l.isEmpty) (σ ++ [.list []]) := by
  suffices h : Wp (tOf (eCmp .ne x (eList lNil)) ρ σ) (fun b σ' => b = (!l.isEmpty) ∧ σ' = σ ++ [.list []]) noX by
    obtain ⟨v, σ', e, rfl, rfl⟩ := wp_out h; exact e
  refine wp_tOf (wp_cmp (wp_bin (wp_eq hx ?_)))
  refine wp_list (wp_lnil ⟨Nat.zero_le _, ?_⟩)
  exact wp_cne (eq_nil (get_old h) get_last) ⟨_, rfl, rfl, rfl⟩
theorem run_empty {x : ED} {i : Nat} {l : List Nat} {ρ : MEnv} {σ : MH} (hx : x ρ σ = .ok (.ref i) σ) (h : σ[i]? = some (.list (natL l))) :
    tOf (eCmp .eq x (eList lNil)) ρ σ = .ok l.isEmpty (σ ++ [.list []]) := by
  suffices h : Wp (tOf (eCmp .eq x (eList lNil)) ρ σ) (fun b σ' => b = l.isEmpty ∧ σ' = σ ++ [.list []]) noX by
    obtain ⟨v, σ', e, rfl, rfl⟩ := wp_out h; exact e
  refine wp_tOf (wp_cmp (wp_bin (wp_eq hx ?_)))
  refine wp_list (wp_lnil ⟨Nat.zero_le _, ?_⟩)
  exact wp_ceq (eq_nil (get_old h) get_last) ⟨_, rfl, rfl, rfl⟩
noncomputable def pathAt (ds : List Nat) : Nat → List Nat
  | 0 => []
  | k + 1 => (pathAt ds k).take (ds.getD k 0) ++ [k]
noncomputable def endsAt (ds : List Nat) : Nat → List Nat
  | 0 => []
  | k + 1 => ((pathAt ds k).drop (ds.getD k 0)).foldr (fun i es => es.set i k) (endsAt ds k) ++ [9]
noncomputable def repsAt (kd : Nat → Option Int) (k : Nat) : Nat := ((List.range k).filter fun j => (kd j).isNone).length
noncomputable def kindAt (kd : Nat → Option Int) (k : Nat) : Int := match kd k with
  | some i => i
  | none => 256 + (repsAt kd k : Int)
theorem qAt_lt (cs : List Nat) : ∀ k, ∀ x ∈ qAt cs k, x < 4
  | 0, x, h => nomatch h
  | k + 1, x, h => by
    rcases List.mem_append.mp h with h | h
    · exact qAt_lt cs k x (List.mem_of_mem_take h)
    · rw [List.mem_singleton.mp h]; exact Nat.mod_lt _ (by decide)
theorem path_spec (cs : List Nat) : ∀ k, k < 9 → (pathAt (dsOf cs) (k + 1)).length = dAt cs k + 1 ∧ ∀ i, i ≤ dAt cs k → ∃ r, (pathAt (dsOf cs) (k + 1))[i]? = some r ∧ r ≤ k ∧ qAt cs r = (qAt cs k).take i
  | 0, _ => ⟨rfl, fun i hi => by have : i = 0 := Nat.le_zero.mp hi; subst this; exact ⟨0, rfl, Nat.le_refl _, rfl⟩⟩
  | k + 1, hk => by
    obtain ⟨h1, h2⟩ := path_spec cs k (Nat.lt_of_succ_lt hk)
    have e : pathAt (dsOf cs) (k + 2) = (pathAt (dsOf cs) (k + 1)).take (dAt cs (k + 1)) ++ [k + 1] := by
      rw [show pathAt (dsOf cs) (k + 2) = (pathAt (dsOf cs) (k + 1)).take ((dsOf cs).getD (k + 1) 0) ++ [k + 1] from rfl, dsOf_get hk]
    have hl : ((pathAt (dsOf cs) (k + 1)).take (dAt cs (k + 1))).length = dAt cs (k + 1) := by rw [List.length_take, h1, Nat.min_eq_left (dAt_up cs k)]
    refine ⟨by rw [e, List.length_append, hl]; rfl, fun i hi => ?_⟩
    by_cases hz : i = dAt cs (k + 1)
    · subst hz
      refine ⟨k + 1, ?_, Nat.le_refl _, ?_⟩
      · rw [e, List.getElem?_append_right (Nat.le_of_eq hl), hl, Nat.sub_self]; rfl
      · exact (List.take_of_length_le (Nat.le_refl (qAt cs (k + 1)).length)).symm
    · have hi' : i < dAt cs (k + 1) := Nat.lt_of_le_of_ne hi hz
      have hik : i ≤ dAt cs k := Nat.le_of_lt_succ (Nat.lt_of_lt_of_le hi' (dAt_up cs k))
      have him : i ≤ cs.getD (k + 1) 0 % (min (dAt cs k) 3 + 1) := Nat.le_of_lt_succ (Nat.lt_of_lt_of_eq hi' (dAt_succ cs k))
      obtain ⟨r, r1, r2, r3⟩ := h2 i hik
      refine ⟨r, ?_, Nat.le_succ_of_le r2, ?_⟩
      · rw [e, List.getElem?_append_left (Nat.lt_of_lt_of_eq hi' hl.symm), List.getElem?_take_of_lt hi']; exact r1
      · rw [r3, show qAt cs (k + 1) = (qAt cs k).take (cs.getD (k + 1) 0 % (min (qAt cs k).length 3 + 1)) ++ [cs.getD (k + 1) 0 / 12 % 4] from rfl]
        have hdk : (qAt cs k).length = dAt cs k := rfl
        rw [hdk]
        rw [List.take_append_of_le_length (by rw [List.length_take]; exact Nat.le_min.mpr ⟨him, hik⟩), List.take_take, Nat.min_eq_left him]
theorem slice_row {q : List Nat} {s : Str} : Txt.slice (leadS q ++ s) (some ((leadL q).length : Int)) none = s := by
  have e : (leadS q ++ s).cps.toList = leadL q ++ s.cps.toList := by
    show (Array.append (leadL q).toArray s.cps).toList = _
    simp
  have hl : ((leadS q ++ s).length : Int) = (leadL q).length + s.cps.toList.length := by
    show (((leadS q ++ s).cps.size : Nat) : Int) = _
    rw [← Array.length_toList, e, List.length_append]; exact Int.natCast_add ..
  rw [slice_from_eq (b := (leadL q).length + s.cps.toList.length) (by lia) (by rw [hl]; lia) hl.symm, e, Int.toNat_natCast, List.drop_left, List.take_of_length_le (by rw [Int.add_comm, Int.add_sub_cancel, Int.toNat_natCast]; exact Nat.le_refl _)]
theorem hasWs_set {σ : MH} {x j : Nat} {xs : List MV} {o : MO} {w : WS} (hx : σ[x]? = some (.list xs)) (h : HasWs σ j w) : HasWs (σ.set x o) j w := by
  obtain ⟨raw, nr, nc, h1, h2, h3⟩ := h
  refine ⟨raw, nr, nc, get_set_ne ?_ h1, get_set_ne ?_ h2, get_set_ne ?_ h3⟩
  · rintro rfl; rw [hx] at h1; cases h1
  · rintro rfl; rw [hx] at h2; cases h2
  · rintro rfl; rw [hx] at h3; cases h3
theorem wp_turn {c : TD} {body : SD} {n : Nat} {ρ : MEnv} {σ : MH} {Q : MF × MEnv → MH → Prop} {X : Bool → Str → MH → Prop}
    (h : Wp (c ρ σ) (fun t σ₁ => if t then Wp (body ρ σ₁) (fun fr σ₂ => match fr.1 with | .next => Wp (whileGo c body n fr.2 σ₂) Q X | .brk => Q (.next, fr.2) σ₂ | .ret w => Q (.ret w, fr.2) σ₂) X else Q (.next, ρ) σ₁) X) : Wp (whileGo c body (n + 1) ρ σ) Q X := by
  unfold whileGo
  refine wp_bind (wp_mono h (fun t σ₁ q => ?_) fun _ _ _ h => h)
  cases t with
  | false => exact q
  | true =>
    refine wp_bind (wp_mono q (fun fr σ₂ q => ?_) fun _ _ _ h => h)
    obtain ⟨f, ρ₂⟩ := fr
    cases f <;> exact q
noncomputable def rdC : TD := tAnd (tOf (eCmp .ne (eVar "line") (eList lNil))) (tOf (eCmp .is (eVar "under") (eVal (.bool false))))
noncomputable def rdW : SD := sSeq (sAssign "under" (eInstM "less" lessF (eIdx (eVar "leads") (eIdx (eVar "line") (eVal (.int (-1))))) (lCons (eVar "lead") lNil)))
      (sIf (tOf (eCmp .is (eVar "under") (eVal (.bool false))))
        (sSetItem (eVar "ends") (ePop (eVar "line")) (eVar "k"))
        sPass)
noncomputable def endsTo (path es : List Nat) (k n : Nat) : List Nat := (path.drop n).foldr (fun i es => es.set i k) es
theorem endsTo_len (path es : List Nat) (k n : Nat) : (endsTo path es k n).length = es.length := by
  unfold endsTo
  induction path.drop n with
  | nil => rfl
  | cons a l ih => rw [List.foldr_cons, List.length_set, ih]
theorem endsTo_step {path es : List Nat} {k n r : Nat} (h : path[n]? = some r) : endsTo path es k n = (endsTo path es k (n + 1)).set r k := by
  have hl : n < path.length := (List.getElem?_eq_some_iff.mp h).1
  unfold endsTo
  rw [List.drop_eq_getElem_cons hl, List.foldr_cons, (List.getElem?_eq_some_iff.mp h).2]
theorem natL_dropLast (l : List Nat) : (natL l).dropLast = natL l.dropLast := by unfold natL; rw [List.map_dropLast]
theorem natL_last {l : List Nat} {r : Nat} (h : l.getLast? = some r) : (natL l).getLast? = some (.int (r : Int)) := by
  unfold natL; rw [List.getLast?_map, h]; rfl
namespace hkp120
noncomputable abbrev hS (σ₀ : MH) (cs : List Nat) (m : Nat) (D : Nat) (j : Nat) (es : List Nat) (ir : Nat → Nat) : Prop := ∀ (h0 : σ₀.length ≠ 0) (hm : m < 8) (hD : dAt cs (m + 1) = D + 1) (hD' : cs.getD (m + 1) 0 % (min (dAt cs m) 3 + 1) = D) (hDm : D ≤ dAt cs m) (hes : es.length = m + 1), ∀ (f n : Nat) (ρ : MEnv) (σ : MH), n ≤ dAt cs m + 1 → D + 1 ≤ n → n + 1 ≤ f + D →
      ρ "line" = some (.ref (σ₀.length + 4)) → ρ "leads" = some (.ref σ₀.length) → ρ "ends" = some (.ref (σ₀.length + 2)) → ρ "lead" = some (.ref j) → ρ "k" = some (.int ((m + 1 : Nat) : Int)) → ρ "under" = some (.bool false) →
      σ[σ₀.length]? = some (.list ((List.range (m + 1)).map fun i => .ref (ir i))) → (∀ i, i < m + 1 → HasWs σ (ir i) (wsOf (leadL (qAt cs i)))) → HasWs σ j (wsOf (leadL (qAt cs (m + 1)))) →
      σ[σ₀.length + 2]? = some (.list (natL (endsTo (pathAt (dsOf cs) (m + 1)) es (m + 1) n))) → σ[σ₀.length + 4]? = some (.list (natL ((pathAt (dsOf cs) (m + 1)).take n))) → (∃ ext, σ = σ₀ ++ ext) →
      Wp (whileGo rdC rdW f ρ σ) (fun r σ' => r.1 = .next ∧ r.2 "under" = some (.bool true) ∧ (∀ y, y ≠ "under" → r.2 y = ρ y) ∧
        σ'[σ₀.length + 2]? = some (.list (natL (endsTo (pathAt (dsOf cs) (m + 1)) es (m + 1) (D + 1)))) ∧ σ'[σ₀.length + 4]? = some (.list (natL ((pathAt (dsOf cs) (m + 1)).take (D + 1)))) ∧
        (∃ ext, σ' = σ₀ ++ ext) ∧ (∀ x o, x ≠ σ₀.length + 2 → x ≠ σ₀.length + 4 → σ[x]? = some o → σ'[x]? = some o) ∧ (∀ j w, HasWs σ j w → HasWs σ' j w)) noX
noncomputable abbrev hP := fun p : MH × (List Nat) × Nat × Nat × Nat × (List Nat) × (Nat → Nat) => hS p.1 p.2.1 p.2.2.1 p.2.2.2.1 p.2.2.2.2.1 p.2.2.2.2.2.1 p.2.2.2.2.2.2
noncomputable def hW := ce (default, default, default, default, default, default, default) hP
noncomputable def σ₀ : MH := hW.1
noncomputable def cs : List Nat := hW.2.1
noncomputable def m : Nat := hW.2.2.1
noncomputable def D : Nat := hW.2.2.2.1
noncomputable def j : Nat := hW.2.2.2.2.1
noncomputable def es : List Nat := hW.2.2.2.2.2.1
noncomputable def ir : Nat → Nat := hW.2.2.2.2.2.2
theorem hT : hS σ₀ cs m D j es ir := by
  intro h0 hm hD hD' hDm hes
  obtain ⟨P1, P2⟩ := path_spec cs m (Nat.lt_succ_of_lt hm)
  intro f
  induction f with
  | zero => intro n ρ σ h1 h2 h3; exact absurd (Nat.le_trans h2 (Nat.le_trans (Nat.le_succ n) (Nat.le_trans h3 (Nat.le_of_eq (Nat.zero_add D))))) (Nat.not_succ_le_self D)
  | succ f ih =>
    intro n
    cases n with
    | zero => intro _ _ _ h2; exact absurd h2 (Nat.not_succ_le_zero _)
    | succ p =>
    intro ρ σ hn1 hn2 hf v1 v2 v3 v4 v5 v6 g1 hir hj g2 g4 ext
    refine wp_turn ?_
    have hne : (!((pathAt (dsOf cs) (m + 1)).take (p + 1)).isEmpty) = true := by
      cases e : (pathAt (dsOf cs) (m + 1)).take (p + 1) with
      | nil => have := congrArg List.length e; rw [List.length_take, P1, Nat.min_eq_left hn1] at this; exact absurd this (Nat.succ_ne_zero p)
      | cons a l => rfl
    refine wp_tAnd (wp_eq (run_filled (by unfold eVar; rw [v1]) g4) ?_)
    rw [if_pos hne]
    refine wp_tOf ?_
    walk_at "ps"
    refine box fun GZ kZ => ?_
    obtain ⟨r, r1, r2, r3⟩ := P2 p (Nat.le_of_succ_le_succ hn1)
    have hlast : ((pathAt (dsOf cs) (m + 1)).take (p + 1)).getLast? = some r := by
      rw [List.getLast?_eq_getElem?, List.length_take, P1, Nat.min_eq_left hn1, Nat.add_sub_cancel, List.getElem?_take_of_lt (Nat.lt_succ_self p)]; exact r1
    have tl : (natL ((pathAt (dsOf cs) (m + 1)).take (p + 1))).length = (p + 1) := by rw [natL_len, List.length_take, P1, Nat.min_eq_left hn1]
    have p1 : place? (-1) (natL ((pathAt (dsOf cs) (m + 1)).take (p + 1))).length = some p := by
      have := dAt_le cs m
      unfold place?
      rw [tl, if_neg (by decide), if_pos ⟨rfl, Nat.succ_pos p, Nat.lt_of_le_of_lt hn1 (Nat.lt_of_le_of_lt (Nat.succ_le_succ this) (by decide))⟩]; rfl
    have p2 : (natL ((pathAt (dsOf cs) (m + 1)).take (p + 1)))[p]? = some (.int (r : Int)) := by
      have := natL_last hlast
      rw [List.getLast?_eq_getElem?, tl] at this; exact this
    have p3 : place? (r : Int) ((List.range (m + 1)).map fun i => MV.ref (ir i)).length = some r := place_nat (by rw [List.length_map, List.length_range]; exact Nat.lt_succ_of_le r2) (by rw [List.length_map, List.length_range]; exact Nat.le_trans hm (by decide))
    have p4 : ((List.range (m + 1)).map fun i => MV.ref (ir i))[r]? = some (.ref (ir r)) := by
      rw [List.getElem?_map, List.getElem?_range (Nat.lt_succ_of_le r2)]; rfl
    have hirr := hir r (Nat.lt_succ_of_le r2)
    have hq : qAt cs (m + 1) = (qAt cs m).take D ++ [cs.getD (m + 1) 0 / 12 % 4] := by
      rw [← hD']; rfl
    have hln : (qAt cs m).length = dAt cs m := rfl
    have h4 := dAt_le cs m
    have hlt : ∀ x ∈ (qAt cs m).take p, x < 4 := fun x hx => qAt_lt cs m x (List.mem_of_mem_take hx)
    have he : cs.getD (m + 1) 0 / 12 % 4 < 4 := Nat.mod_lt _ (by decide)
    have K : ∀ x o, σ[x]? = some o → (σ ++ [MO.list []])[x]? = some o := fun x o h => get_old h
    obtain ⟨raw, nr, nc, gi1, gi2, gi3⟩ := id hirr
    refine kZ ?_
    clear kZ GZ
    by_cases hz : p = D
    · subst hz
      have hless : lessP (wsOf (leadL (qAt cs r))) (wsOf (leadL (qAt cs (m + 1)))) = some true := by
        rw [r3, hq]
        exact less_up (by rw [List.length_take]; exact Nat.le_trans (Nat.min_le_left ..) (mod_le3 hD')) hlt he
      have hrun := run_less (hasWs_app (l := [.list []]) hirr) (hasWs_app (l := [.list []]) hj) hless
      refine wp_seq ?_
      walk_at "ps"
      cases f with
      | zero => exact absurd (Nat.le_trans hf (Nat.le_of_eq (Nat.add_comm ..))) (Nat.not_succ_le_self _)
      | succ f =>
      refine wp_turn (wp_tAnd (wp_eq (run_filled (i := σ₀.length + 4) (by unfold eVar; rw [upd_skip (by decide), v1]) (get_old g4)) ?_))
      rw [if_pos hne]
      refine wp_tOf ?_
      walk_at "ps"
      refine ⟨fun y hy => upd_skip hy, get_old (get_old g2), get_old (get_old g4), ext_app (ext_app ext), fun x o _ _ h => get_old (get_old h), fun j w h => hasWs_app (hasWs_app h)⟩
    · have hDp : D < p := Nat.lt_of_le_of_ne (Nat.le_of_succ_le_succ hn2) (Ne.symm hz)
      have hl2 : ((qAt cs m).take p).length = p := by rw [List.length_take]; exact Nat.min_eq_left (Nat.le_of_succ_le_succ hn1)
      have hless : lessP (wsOf (leadL (qAt cs r))) (wsOf (leadL (qAt cs (m + 1)))) = some false := by
        rw [r3, hq, show (qAt cs m).take D = ((qAt cs m).take p).take D by rw [List.take_take, Nat.min_eq_left (Nat.le_of_lt hDp)]]
        exact less_off (by rw [hl2]; exact Nat.le_trans (Nat.le_of_succ_le_succ hn1) h4) (by rw [hl2]; exact hDp) hlt he
      have hrun := run_less (hasWs_app (l := [.list []]) hirr) (hasWs_app (l := [.list []]) hj) hless
      refine wp_seq ?_
      walk_at "ps"
      refine wp_setItem ?_
      walk_at "ps"
      refine wp_un ?_
      walk_at "ps"
      refine wp_pop (get_old g4) (natL_last hlast) (by rw [tl]; exact Nat.le_trans hn1 (Nat.le_trans (Nat.succ_le_succ h4) (by decide))) ?_
      have hdl : ((pathAt (dsOf cs) (m + 1)).take (p + 1)).dropLast = (pathAt (dsOf cs) (m + 1)).take p := by
        rw [List.dropLast_eq_take, List.length_take, P1, Nat.min_eq_left hn1, List.take_take, Nat.add_sub_cancel, Nat.min_eq_left (Nat.le_succ p)]
      rw [natL_dropLast, hdl]
      have k2 : ((σ ++ [MO.list []]).set (σ₀.length + 3 + 1) (.list (natL ((pathAt (dsOf cs) (m + 1)).take p))))[σ₀.length + 2]? = some (.list (natL (endsTo (pathAt (dsOf cs) (m + 1)) es (m + 1) (p + 1)))) := get_set_ne (by lia) (get_old g2)
      have k4 : ((σ ++ [MO.list []]).set (σ₀.length + 3 + 1) (.list (natL ((pathAt (dsOf cs) (m + 1)).take p))))[σ₀.length + 4]? = some (.list (natL ((pathAt (dsOf cs) (m + 1)).take p))) := get_set_eq (get_old g4)
      have kx : ∀ x o, x ≠ σ₀.length + 4 → σ[x]? = some o → ((σ ++ [MO.list []]).set (σ₀.length + 3 + 1) (.list (natL ((pathAt (dsOf cs) (m + 1)).take p))))[x]? = some o := fun x o hx h => get_set_ne (by lia) (get_old h)
      have kw : ∀ j w, HasWs σ j w → HasWs ((σ ++ [MO.list []]).set (σ₀.length + 3 + 1) (.list (natL ((pathAt (dsOf cs) (m + 1)).take p)))) j w := fun j w h => hasWs_set (get_old g4) (hasWs_app h)
      have ke : ∃ ext, (σ ++ [MO.list []]).set (σ₀.length + 3 + 1) (.list (natL ((pathAt (dsOf cs) (m + 1)).take p))) = σ₀ ++ ext := by
        obtain ⟨e, rfl⟩ := ext; rw [List.append_assoc]; exact ext_set (by lia)
      generalize (σ ++ [MO.list []]).set (σ₀.length + 3 + 1) (.list (natL ((pathAt (dsOf cs) (m + 1)).take p))) = τ at *
      have hel := endsTo_len (pathAt (dsOf cs) (m + 1)) es (m + 1) (p + 1)
      refine ⟨_, _, _, rfl, rfl, k2, ⟨by lia, by lia, by rw [natL_len]; lia, by lia⟩, ?_⟩
      rw [Int.toNat_natCast, natL_set]
      have hst : (endsTo (pathAt (dsOf cs) (m + 1)) es (m + 1) (p + 1)).set r (m + 1) = endsTo (pathAt (dsOf cs) (m + 1)) es (m + 1) p := by
        have := endsTo_step (es := es) (k := m + 1) r1
        rw [this]
      rw [hst]
      have kx' : ∀ x o, x ≠ σ₀.length + 2 → x ≠ σ₀.length + 4 → σ[x]? = some o → (τ.set (σ₀.length + 2) (.list (natL (endsTo (pathAt (dsOf cs) (m + 1)) es (m + 1) p))))[x]? = some o := fun x o h1 h2 h => get_set_ne (Ne.symm h1) (kx x o h2 h)
      have kw' : ∀ j w, HasWs σ j w → HasWs (τ.set (σ₀.length + 2) (.list (natL (endsTo (pathAt (dsOf cs) (m + 1)) es (m + 1) p)))) j w := fun j w h => hasWs_set k2 (kw j w h)
      refine wp_mono (ih p (upd ρ "under" (.bool false)) _ (Nat.le_of_succ_le hn1) hDp (Nat.le_of_succ_le_succ (Nat.le_trans hf (Nat.le_of_eq (Nat.succ_add f D)))) (by walk_at "pn") (by walk_at "pn") (by walk_at "pn") (by walk_at "pn") (by walk_at "pn") upd_eq
        (kx' _ _ (by lia) (by lia) g1) (fun i hi => kw' _ _ (hir i hi)) (kw' _ _ hj) (get_set_eq k2) (get_set_ne (by lia) k4) (by obtain ⟨e, rfl⟩ := ke; exact ext_set (by lia))) ?_ (fun _ _ _ h => h)
      rintro r' σ' hb1
      refine box fun GZ kZ => ?_
      obtain ⟨a1, a2, a3, a4, a5, a6, a7, a8⟩ := hb1
      refine kZ ?_
      clear kZ GZ
      exact ⟨a1, a2, fun y hy => (a3 y hy).trans (upd_skip hy), a4, a5, a6, fun x o h1 h2 h => a7 x o h1 h2 (kx' x o h1 h2 h), fun j w h => a8 j w (kw' j w h)⟩
end hkp120
theorem rd_while : ∀ {σ₀ : MH} {cs : List Nat} {m : Nat} {D : Nat} {j : Nat} {es : List Nat} {ir : Nat → Nat}, hkp120.hS σ₀ cs m D j es ir := @fun σ₀ cs m D j es ir => ce_all (P := hkp120.hP) (default, default, default, default, default, default, default) (@hkp120.hT) (σ₀, cs, m, D, j, es, ir)
noncomputable def rowS (cs : List Nat) (tx : Nat → Str) (k : Nat) : Str := leadS (qAt cs k) ++ tx k
structure RdInv (σ₀ : MH) (rr : Nat) (cs : List Nat) (tx : Nat → Str) (kd : Nat → Option Int) (k : Nat) (ρ : MEnv) (σ : MH) : Prop where
  vr : ρ "rows" = some (.ref rr)
  vl : ρ "leads" = some (.ref σ₀.length)
  vk : ρ "kinds" = some (.ref (σ₀.length + 1))
  ve : ρ "ends" = some (.ref (σ₀.length + 2))
  vt : ρ "texts" = some (.ref (σ₀.length + 3))
  vi : ρ "line" = some (.ref (σ₀.length + 4))
  vp : ρ "replies" = some (.int (repsAt kd k : Int))
  ext : ∃ ext, σ = σ₀ ++ ext
  hl : ∃ ir : Nat → Nat, σ[σ₀.length]? = some (.list ((List.range k).map fun i => .ref (ir i))) ∧ ∀ i, i < k → HasWs σ (ir i) (wsOf (leadL (qAt cs i)))
  hk : σ[σ₀.length + 1]? = some (.list ((List.range k).map fun i => .int (kindAt kd i)))
  he : σ[σ₀.length + 2]? = some (.list (natL (endsAt (dsOf cs) k)))
  ht : σ[σ₀.length + 3]? = some (.list ((List.range k).map fun i => .str (tx i)))
  hi : σ[σ₀.length + 4]? = some (.list (natL (pathAt (dsOf cs) k)))
theorem endsAt_len (ds : List Nat) : ∀ k, (endsAt ds k).length = k
  | 0 => rfl
  | k + 1 => by
    show (endsTo (pathAt ds k) (endsAt ds k) k (ds.getD k 0) ++ [9]).length = _
    rw [List.length_append, endsTo_len, endsAt_len ds k]; rfl
theorem rd_while' {σ₀ : MH} {cs : List Nat} {k j : Nat} {ir : Nat → Nat} {ρ : MEnv} {σ : MH} (h0 : σ₀.length ≠ 0) (hk : k < 9)
    (v1 : ρ "line" = some (.ref (σ₀.length + 4))) (v2 : ρ "leads" = some (.ref σ₀.length)) (v3 : ρ "ends" = some (.ref (σ₀.length + 2))) (v4 : ρ "lead" = some (.ref j)) (v5 : ρ "k" = some (.int (k : Int))) (v6 : ρ "under" = some (.bool false))
    (g1 : σ[σ₀.length]? = some (.list ((List.range k).map fun i => .ref (ir i)))) (hir : ∀ i, i < k → HasWs σ (ir i) (wsOf (leadL (qAt cs i)))) (hj : HasWs σ j (wsOf (leadL (qAt cs k))))
    (g2 : σ[σ₀.length + 2]? = some (.list (natL (endsAt (dsOf cs) k)))) (g4 : σ[σ₀.length + 4]? = some (.list (natL (pathAt (dsOf cs) k)))) (ext : ∃ ext, σ = σ₀ ++ ext) :
    Wp (whileGo rdC rdW 40 ρ σ) (fun r σ' => r.1 = .next ∧ r.2 "under" = some (.bool (decide (0 < k))) ∧ (∀ y, y ≠ "under" → r.2 y = ρ y) ∧
        σ'[σ₀.length + 2]? = some (.list (natL (endsTo (pathAt (dsOf cs) k) (endsAt (dsOf cs) k) k (dAt cs k)))) ∧ σ'[σ₀.length + 4]? = some (.list (natL ((pathAt (dsOf cs) k).take (dAt cs k)))) ∧
        (∃ ext, σ' = σ₀ ++ ext) ∧ (∀ x o, x ≠ σ₀.length + 2 → x ≠ σ₀.length + 4 → σ[x]? = some o → σ'[x]? = some o) ∧ (∀ j w, HasWs σ j w → HasWs σ' j w)) noX := by
  cases k with
  | zero =>
    refine wp_turn (wp_tAnd (wp_eq (run_filled (by unfold eVar; rw [v1]) g4) ?_))
    exact ⟨rfl, v6, fun _ _ => rfl, get_old g2, get_old g4, ext_app ext, fun x o _ _ h => get_old h, fun j w h => hasWs_app h⟩
  | succ m =>
    obtain ⟨P1, P2⟩ := path_spec cs m (Nat.lt_of_succ_lt hk)
    have d1 := dAt_succ cs m
    have d4 := dAt_le cs m
    rw [d1]
    refine rd_while (es := endsAt (dsOf cs) (m + 1)) h0 (Nat.lt_of_succ_lt_succ hk) d1 rfl (mod_le rfl) (endsAt_len _ _) 40 (dAt cs m + 1) ρ σ (Nat.le_refl _) (Nat.succ_le_succ (mod_le rfl)) (Nat.le_trans (Nat.succ_le_succ (Nat.succ_le_succ d4)) (Nat.le_trans (by decide : 6 ≤ 40) (Nat.le_add_right ..))) v1 v2 v3 v4 v5 v6 g1 hir hj ?_ ?_ ext
    · unfold endsTo
      rw [List.drop_eq_nil_of_le (Nat.le_of_eq P1)]; exact g2
    · rw [List.take_of_length_le (Nat.le_of_eq P1)]; exact g4
noncomputable def rdBody : SD := (sSeq (sAssign "lead" (eCall newF (lCons (eIdx (eVar "rows") (eVar "k")) lNil)))
    (sSeq (sAssign "text" (eSlFromS (eIdx (eVar "rows") (eVar "k")) (eAttr (eVar "lead") "n")))
    (sSeq (sIf (tOf (eInTab (eVar "text")))
      (sAppend (eVar "kinds") (eTab (eVar "text")))
      (sSeq (sAppend (eVar "kinds") (eBin opAdd (eVal (.int 256)) (eVar "replies")))
      (sAssign "replies" (eBin opAdd (eVar "replies") (eVal (.int 1))))))
    (sSeq (sAssign "under" (eVal (.bool false)))
    (sSeq (sWhile rdC rdW)
    (sSeq (sIf (tAnd (tOf (eCmp .ne (eVar "line") (eList lNil))) (tOf (eCmp .isnot (eVar "under") (eVal (.bool true)))))
      (sRet (eTup (lCons (eList lNil) (lCons (eList lNil) (lCons (eList lNil) lNil)))))
      sPass)
    (sSeq (sAppend (eVar "line") (eVar "k"))
    (sSeq (sAppend (eVar "leads") (eVar "lead"))
    (sSeq (sAppend (eVar "ends") (eUn fLen (eVar "rows")))
    (sAppend (eVar "texts") (eVar "text")))))))))))
theorem reps_succ (kd : Nat → Option Int) (k : Nat) : repsAt kd (k + 1) = repsAt kd k + if (kd k).isNone then 1 else 0 := by
  unfold repsAt
  rw [List.range_succ, List.filter_append, List.length_append, List.filter_cons]
  split <;> rfl
theorem rd_kind {B k : Nat} {kd : Nat → Option Int} {s : Str} {ρ : MEnv} {σ : MH} {xs : List MV} (hk : xs.length ≤ maxLen) (v1 : ρ "text" = some (.str s)) (v2 : ρ "kinds" = some (.ref (B + 1))) (v3 : ρ "replies" = some (.int (repsAt kd k : Int))) (hs : tokTab.lookup s = kd k)
    (h : σ[B + 1]? = some (.list xs)) :
    Wp ((sIf (tOf (eInTab (eVar "text"))) (sAppend (eVar "kinds") (eTab (eVar "text"))) (sSeq (sAppend (eVar "kinds") (eBin opAdd (eVal (.int 256)) (eVar "replies"))) (sAssign "replies" (eBin opAdd (eVar "replies") (eVal (.int 1)))))) ρ σ)
      (fun r σ' => σ' = σ.set (B + 1) (.list (xs ++ [.int (kindAt kd k)])) ∧ r.1 = .next ∧ r.2 "replies" = some (.int (repsAt kd (k + 1) : Int)) ∧ ∀ y, y ≠ "replies" → r.2 y = ρ y) noX := by
  refine wp_sif (wp_tOf ?_)
  unfold eInTab eTab
  walk_at "ps"
  rw [reps_succ]
  unfold kindAt
  cases e : kd k with
  | some i =>
    rw [e] at hs
    rw [hs]
    refine (show if (true : Bool) = true then _ else _ from ?_)
    rw [if_pos rfl]
    refine wp_append ?_
    walk_at "ps"
    refine ⟨_, _, rfl, h, ?_⟩
    walk_at "ps"
    refine wp_eq (a := .int i) (σ := σ) (by simp only [hs]) ?_
    exact ⟨_, h, ⟨by lia, hk⟩, rfl, rfl, v3, fun _ _ => rfl⟩
  | none =>
    rw [e] at hs
    rw [hs]
    refine (show if (false : Bool) = true then _ else _ from ?_)
    rw [if_neg (by decide)]
    refine wp_seq (wp_append ?_)
    walk_at "ps"
    refine ⟨_, _, rfl, h, ?_⟩
    walk_at "ps"
    refine ⟨_, h, ⟨by lia, hk⟩, ?_⟩
    walk_at "p:last"
    exact ⟨rfl, rfl, upd_eq, fun y hy => upd_skip hy⟩
namespace hkp130
noncomputable abbrev hS (σ₀ : MH) (rr : Nat) (cs : List Nat) (tx : Nat → PySem.Str) (kd : Nat → Option Int) (k : Nat) (ρ : MEnv) (σ : MH) : Prop := ∀ (h0 : σ₀.length ≠ 0) (hk : k < 9) (hrr : σ₀[rr]? = some (.list ((List.range 9).map fun i => .str (rowS cs tx i)))) (hs : ∀ i, i < 9 → Solid (tx i) ∧ (tx i).cps.toList.length ≤ 80) (hkd : ∀ i, i < 9 → tokTab.lookup (tx i) = kd i) (hI : RdInv σ₀ rr cs tx kd k ρ σ), Wp (rdBody (upd ρ "k" (.int (k : Int))) σ) (fun r σ' => r.1 = .next ∧ RdInv σ₀ rr cs tx kd (k + 1) r.2 σ') noX
noncomputable abbrev hP := fun p : MH × Nat × (List Nat) × (Nat → PySem.Str) × (Nat → Option Int) × Nat × MEnv × MH => hS p.1 p.2.1 p.2.2.1 p.2.2.2.1 p.2.2.2.2.1 p.2.2.2.2.2.1 p.2.2.2.2.2.2.1 p.2.2.2.2.2.2.2
noncomputable def hW := ce (default, default, default, default, default, default, default, default) hP
noncomputable def σ₀ : MH := hW.1
noncomputable def rr : Nat := hW.2.1
noncomputable def cs : List Nat := hW.2.2.1
noncomputable def tx : Nat → PySem.Str := hW.2.2.2.1
noncomputable def kd : Nat → Option Int := hW.2.2.2.2.1
noncomputable def k : Nat := hW.2.2.2.2.2.1
noncomputable def ρ : MEnv := hW.2.2.2.2.2.2.1
noncomputable def σ : MH := hW.2.2.2.2.2.2.2
theorem hT : hS σ₀ rr cs tx kd k ρ σ := by
  intro h0 hk hrr hs hkd hI
  refine box fun GZ kZ => ?_
  obtain ⟨vr, vl, vk, ve, vt, vi, vp, ext, ⟨ir, hl, hir⟩, hkk, he, ht, hi⟩ := hI
  obtain ⟨hso, hsl⟩ := hs k hk
  obtain ⟨ww1, ww2⟩ := wsOf_row (q := qAt cs k) hso
  refine kZ ?_
  clear kZ GZ
  have hrr' : σ[rr]? = some (.list ((List.range 9).map fun i => .str (rowS cs tx i))) := by obtain ⟨e, he⟩ := ext; rw [he]; exact get_old hrr
  have hrlen : rr < σ₀.length := get_lt hrr
  have vK : upd ρ "k" (.int (k : Int)) "k" = some (.int (k : Int)) := upd_eq
  replace vr := (upd_skip (ρ := ρ) (x := "k") (v := .int (k : Int)) (y := "rows") (by decide)).trans vr
  replace vl := (upd_skip (ρ := ρ) (x := "k") (v := .int (k : Int)) (y := "leads") (by decide)).trans vl
  replace vk := (upd_skip (ρ := ρ) (x := "k") (v := .int (k : Int)) (y := "kinds") (by decide)).trans vk
  replace ve := (upd_skip (ρ := ρ) (x := "k") (v := .int (k : Int)) (y := "ends") (by decide)).trans ve
  replace vt := (upd_skip (ρ := ρ) (x := "k") (v := .int (k : Int)) (y := "texts") (by decide)).trans vt
  replace vi := (upd_skip (ρ := ρ) (x := "k") (v := .int (k : Int)) (y := "line") (by decide)).trans vi
  replace vp := (upd_skip (ρ := ρ) (x := "k") (v := .int (k : Int)) (y := "replies") (by decide)).trans vp
  generalize upd ρ "k" (.int (k : Int)) = ρ at *
  refine boxQ fun G0 k0 => ?_
  have hll := lead_len (qAt cs k)
  have hdl : (qAt cs k).length ≤ 4 := dAt_le cs k
  have hrowl : (rowS cs tx k).cps.toList.length = (leadL (qAt cs k)).length + (tx k).cps.toList.length := by
    show (Array.append (leadL (qAt cs k)).toArray (tx k).cps).toList.length = _
    simp
  have hel := ext_len ext
  refine box fun GZ kZ => ?_
  obtain ⟨e1, hnew, hws⟩ := run_new (σ := σ) (raw := rowS cs tx k) (by lia) (by lia)
  refine kZ ?_
  clear kZ GZ
  have p1 : place? (k : Int) ((List.range 9).map fun i => MV.str (rowS cs tx i)).length = some k := place_nat (by rw [List.length_map, List.length_range]; lia) (by rw [List.length_map, List.length_range]; lia)
  have p2 : ((List.range 9).map fun i => MV.str (rowS cs tx i))[k]? = some (.str (rowS cs tx k)) := by rw [List.getElem?_map, List.getElem?_range hk]; rfl
  unfold rdBody
  walk_at "pt"
  have hn' : ((wsOf (leadL (qAt cs k))).n : Int) = ((leadL (qAt cs k)).length : Int) := by rw [ww2]
  rw [show wsOf (rowS cs tx k).cps.toList = wsOf (leadL (qAt cs k)) from ww1] at hws
  replace hrr' := get_old (l := e1) hrr'
  replace hl := get_old (l := e1) hl
  replace hkk := get_old (l := e1) hkk
  replace he := get_old (l := e1) he
  replace ht := get_old (l := e1) ht
  replace hi := get_old (l := e1) hi
  replace hir := fun i h => hasWs_app (l := e1) (hir i h)
  replace ext := ext_app (l := e1) ext
  clear hnew
  generalize σ ++ e1 = τ at *
  generalize σ.length = j at *
  refine box fun GZ kZ => ?_
  obtain ⟨raw, nr, nc, gi1, gi2, gi3⟩ := id hws
  refine kZ ?_
  clear kZ GZ
  have ok : okB (rowS cs tx k).length ((wsOf (leadL (qAt cs k))).n : Int) = true := by
    have : (rowS cs tx k).length = (rowS cs tx k).cps.toList.length := rfl
    unfold okB maxLen
    rw [ww2, decide_eq_true (by lia), decide_eq_true (by lia), decide_eq_true (by lia)]; rfl
  walk_at "pt"
  rw [hn', show Txt.slice (rowS cs tx k) (some ((leadL (qAt cs k)).length : Int)) none = tx k from slice_row]
  refine wp_seq (wp_mono (rd_kind (k := k) (kd := kd) (B := σ₀.length) (by rw [List.length_map, List.length_range]; unfold maxLen; lia) upd_eq (by walk_at "pn") (by walk_at "pn") (hkd k hk) hkk) ?_ (fun _ _ _ h => h))
  rintro ⟨f, ρ₁⟩ σ₁ hb1
  refine box fun GZ kZ => ?_
  obtain ⟨hσ, hf, hrep, hsame⟩ := hb1
  refine kZ ?_
  clear kZ GZ
  dsimp only at hf hrep hsame
  subst hf
  have K : ∀ x o, x ≠ σ₀.length + 1 → τ[x]? = some o → σ₁[x]? = some o := fun x o hx h => by rw [hσ]; exact get_set_ne (Ne.symm hx) h
  have hkk0 := hkk
  replace hkk : σ₁[σ₀.length + 1]? = some (.list ((List.range (k + 1)).map fun i => .int (kindAt kd i))) := by
    rw [hσ, List.range_succ, List.map_append]; exact get_set_eq hkk
  have n0 : ρ₁ "rows" = some (.ref rr) := (hsame _ (by decide)).trans (by walk_at "pn")
  have n1 : ρ₁ "leads" = some (.ref σ₀.length) := (hsame _ (by decide)).trans (by walk_at "pn")
  have n2 : ρ₁ "kinds" = some (.ref (σ₀.length + 1)) := (hsame _ (by decide)).trans (by walk_at "pn")
  have n3 : ρ₁ "ends" = some (.ref (σ₀.length + 2)) := (hsame _ (by decide)).trans (by walk_at "pn")
  have n4 : ρ₁ "texts" = some (.ref (σ₀.length + 3)) := (hsame _ (by decide)).trans (by walk_at "pn")
  have n5 : ρ₁ "line" = some (.ref (σ₀.length + 4)) := (hsame _ (by decide)).trans (by walk_at "pn")
  have n6 : ρ₁ "k" = some (.int (k : Int)) := (hsame _ (by decide)).trans (by walk_at "pn")
  have n7 : ρ₁ "lead" = some (.ref j) := (hsame _ (by decide)).trans (by walk_at "pn")
  have n8 : ρ₁ "text" = some (.str (tx k)) := (hsame _ (by decide)).trans (by walk_at "pn")
  replace hl := K _ _ (by lia) hl
  replace he := K _ _ (by lia) he
  replace ht := K _ _ (by lia) ht
  replace hi := K _ _ (by lia) hi
  replace hrr' := K _ _ (by lia) hrr'
  have KW : ∀ j w, HasWs τ j w → HasWs σ₁ j w := fun j w h => by
    refine box fun GZ kZ => ?_
    obtain ⟨raw, nr, nc, a1, a2, a3⟩ := h
    refine kZ ?_
    clear kZ GZ
    refine ⟨raw, nr, nc, K _ _ ?_ a1, K _ _ ?_ a2, K _ _ ?_ a3⟩
    all_goals (rintro rfl; rw [hkk0] at *; simp_all)
  replace hir := fun i h => KW _ _ (hir i h)
  replace hws := KW _ _ hws
  replace ext : ∃ ext, σ₁ = σ₀ ++ ext := by rw [hσ]; obtain ⟨e, he⟩ := ext; rw [he]; exact ext_set (by lia)
  clear K KW hσ hkk0 vr vl vk ve vt vi vp hsame
  dsimp only
  walk_at "pt"
  refine wp_seq (wp_while (wp_mono (rd_while' (j := j) (k := k) (ir := ir) h0 hk (by walk_at "pn") (by walk_at "pn") (by walk_at "pn") (by walk_at "pn") (by walk_at "pn") upd_eq hl hir hws he hi ext) ?_ (fun _ _ _ h => h)))
  rintro ⟨f, ρ₂⟩ σ₂ hb2
  refine box fun GZ kZ => ?_
  obtain ⟨a1, a2, a3, a4, a5, a6, a7, a8⟩ := hb2
  refine kZ ?_
  clear kZ GZ
  dsimp only at a1 a2 a3
  subst a1
  have m0 : ρ₂ "rows" = some (.ref rr) := (a3 _ (by decide)).trans (by walk_at "pn")
  have m1 : ρ₂ "leads" = some (.ref σ₀.length) := (a3 _ (by decide)).trans (by walk_at "pn")
  have m2 : ρ₂ "kinds" = some (.ref (σ₀.length + 1)) := (a3 _ (by decide)).trans (by walk_at "pn")
  have m3 : ρ₂ "ends" = some (.ref (σ₀.length + 2)) := (a3 _ (by decide)).trans (by walk_at "pn")
  have m4 : ρ₂ "texts" = some (.ref (σ₀.length + 3)) := (a3 _ (by decide)).trans (by walk_at "pn")
  have m5 : ρ₂ "line" = some (.ref (σ₀.length + 4)) := (a3 _ (by decide)).trans (by walk_at "pn")
  have m6 : ρ₂ "k" = some (.int (k : Int)) := (a3 _ (by decide)).trans (by walk_at "pn")
  have m7 : ρ₂ "lead" = some (.ref j) := (a3 _ (by decide)).trans (by walk_at "pn")
  have m8 : ρ₂ "text" = some (.str (tx k)) := (a3 _ (by decide)).trans (by walk_at "pn")
  have m9 : ρ₂ "replies" = some (.int (repsAt kd (k + 1) : Int)) := (a3 _ (by decide)).trans (by walk_at "pn")
  replace hl := a7 _ _ (by lia) (by lia) hl
  replace hkk := a7 _ _ (by lia) (by lia) hkk
  replace ht := a7 _ _ (by lia) (by lia) ht
  replace hrr' := a7 _ _ (by lia) (by lia) hrr'
  replace hir := fun i h => a8 _ _ (hir i h)
  replace hws := a8 _ _ hws
  clear a7 a8 a3 he hi ext
  dsimp only
  replace hl := get_old (l := [MO.list []]) hl
  replace hkk := get_old (l := [MO.list []]) hkk
  replace ht := get_old (l := [MO.list []]) ht
  replace hrr' := get_old (l := [MO.list []]) hrr'
  replace hir := fun i h => hasWs_app (l := [MO.list []]) (hir i h)
  replace hws := hasWs_app (l := [MO.list []]) hws
  have g2 := get_old (l := [MO.list []]) a4
  have g4 := get_old (l := [MO.list []]) a5
  have g6 := ext_app (l := [MO.list []]) a6
  have cont : Wp ((sSeq (sAppend (eVar "line") (eVar "k"))
        (sSeq (sAppend (eVar "leads") (eVar "lead"))
          (sSeq (sAppend (eVar "ends") (eUn fLen (eVar "rows"))) (sAppend (eVar "texts") (eVar "text"))))) ρ₂ (σ₂ ++ [.list []])) G0 noX := by
    clear a4 a5 a6 a2
    generalize σ₂ ++ [MO.list []] = σ₃ at *
    have hpl : ((pathAt (dsOf cs) k).take (dAt cs k)).length ≤ 4 := by
      rw [List.length_take]; have := dAt_le cs k; lia
    have l0 : ((List.range 9).map fun i => MV.str (rowS cs tx i)).length ≤ maxLen := by rw [List.length_map, List.length_range]; decide
    have l9 : (((List.range 9).map fun i => MV.str (rowS cs tx i)).length : Int) = 9 := by rw [List.length_map, List.length_range]; rfl
    refine wp_seq (wp_append ?_)
    walk_at "ps"
    refine ⟨_, _, rfl, g4, ?_⟩
    walk_at "ps"
    refine ⟨_, g4, ⟨by lia, by rw [natL_len]; unfold maxLen; lia⟩, ?_⟩
    try dsimp only
    have q4 : (σ₃.set (σ₀.length + 4) (.list (natL ((pathAt (dsOf cs) k).take (dAt cs k)) ++ [.int (k : Int)])))[σ₀.length + 4]? = some (.list (natL (pathAt (dsOf cs) (k + 1)))) := by
      rw [get_set_eq g4, show pathAt (dsOf cs) (k + 1) = (pathAt (dsOf cs) k).take ((dsOf cs).getD k 0) ++ [k] from rfl, dsOf_get hk]
      unfold natL; rw [List.map_append]; rfl
    have K : ∀ x o, x ≠ σ₀.length + 4 → σ₃[x]? = some o → (σ₃.set (σ₀.length + 4) (.list (natL ((pathAt (dsOf cs) k).take (dAt cs k)) ++ [.int (k : Int)])))[x]? = some o := fun x o hx h => get_set_ne (Ne.symm hx) h
    have KW : ∀ j w, HasWs σ₃ j w → HasWs (σ₃.set (σ₀.length + 4) (.list (natL ((pathAt (dsOf cs) k).take (dAt cs k)) ++ [.int (k : Int)]))) j w := fun j w h => hasWs_set g4 h
    replace hl := K _ _ (by lia) hl
    replace hkk := K _ _ (by lia) hkk
    replace ht := K _ _ (by lia) ht
    replace hrr' := K _ _ (by lia) hrr'
    replace g2 := K _ _ (by lia) g2
    replace hir := fun i h => KW _ _ (hir i h)
    replace hws := KW _ _ hws
    replace g6 : ∃ ext, σ₃.set (σ₀.length + 4) (.list (natL ((pathAt (dsOf cs) k).take (dAt cs k)) ++ [.int (k : Int)])) = σ₀ ++ ext := by obtain ⟨e, rfl⟩ := g6; exact ext_set (by lia)
    clear K KW g4
    generalize σ₃.set (σ₀.length + 4) (.list (natL ((pathAt (dsOf cs) k).take (dAt cs k)) ++ [.int (k : Int)])) = σ₄ at *
    refine wp_seq (wp_append ?_)
    walk_at "ps"
    refine ⟨_, _, rfl, hl, ?_⟩
    walk_at "ps"
    refine ⟨_, hl, ⟨h0, by rw [List.length_map, List.length_range]; unfold maxLen; lia⟩, ?_⟩
    try dsimp only
    have q0 : (σ₄.set σ₀.length (.list (((List.range k).map fun i => MV.ref (ir i)) ++ [.ref j])))[σ₀.length]? = some (.list ((List.range (k + 1)).map fun i => MV.ref (if i = k then j else ir i))) := by
      rw [get_set_eq hl, List.range_succ, List.map_append, List.map_singleton, if_pos rfl]
      refine congrArg some (congrArg MO.list (congrArg (· ++ [MV.ref j]) (List.map_congr_left fun i hi => ?_)))
      rw [if_neg (by have := List.mem_range.mp hi; lia)]
    have K : ∀ x o, x ≠ σ₀.length → σ₄[x]? = some o → (σ₄.set σ₀.length (.list (((List.range k).map fun i => MV.ref (ir i)) ++ [.ref j])))[x]? = some o := fun x o hx h => get_set_ne (Ne.symm hx) h
    have KW : ∀ j' w, HasWs σ₄ j' w → HasWs (σ₄.set σ₀.length (.list (((List.range k).map fun i => MV.ref (ir i)) ++ [.ref j]))) j' w := fun j' w h => hasWs_set hl h
    replace hkk := K _ _ (by lia) hkk
    replace ht := K _ _ (by lia) ht
    replace hrr' := K _ _ (by lia) hrr'
    replace g2 := K _ _ (by lia) g2
    replace q4 := K _ _ (by lia) q4
    replace hir := fun i h => KW _ _ (hir i h)
    replace hws := KW _ _ hws
    replace g6 : ∃ ext, σ₄.set σ₀.length (.list (((List.range k).map fun i => MV.ref (ir i)) ++ [.ref j])) = σ₀ ++ ext := by obtain ⟨e, rfl⟩ := g6; exact ext_set (Nat.le_refl _)
    clear K KW hl
    generalize σ₄.set σ₀.length (.list (((List.range k).map fun i => MV.ref (ir i)) ++ [.ref j])) = σ₅ at *
    refine wp_seq (wp_append ?_)
    walk_at "ps"
    refine ⟨_, _, rfl, g2, ?_⟩
    walk_at "ps"
    have hel2 := endsTo_len (pathAt (dsOf cs) k) (endsAt (dsOf cs) k) k (dAt cs k)
    have hel3 := endsAt_len (dsOf cs) k
    refine ⟨_, g2, ⟨by lia, by rw [natL_len]; unfold maxLen; lia⟩, ?_⟩
    rw [l9]
    try dsimp only
    have q2 : (σ₅.set (σ₀.length + 2) (.list (natL (endsTo (pathAt (dsOf cs) k) (endsAt (dsOf cs) k) k (dAt cs k)) ++ [.int 9])))[σ₀.length + 2]? = some (.list (natL (endsAt (dsOf cs) (k + 1)))) := by
      rw [get_set_eq g2, show endsAt (dsOf cs) (k + 1) = endsTo (pathAt (dsOf cs) k) (endsAt (dsOf cs) k) k ((dsOf cs).getD k 0) ++ [9] from rfl, dsOf_get hk]
      unfold natL; rw [List.map_append]; rfl
    have K : ∀ x o, x ≠ σ₀.length + 2 → σ₅[x]? = some o → (σ₅.set (σ₀.length + 2) (.list (natL (endsTo (pathAt (dsOf cs) k) (endsAt (dsOf cs) k) k (dAt cs k)) ++ [.int 9])))[x]? = some o := fun x o hx h => get_set_ne (Ne.symm hx) h
    have KW : ∀ j w, HasWs σ₅ j w → HasWs (σ₅.set (σ₀.length + 2) (.list (natL (endsTo (pathAt (dsOf cs) k) (endsAt (dsOf cs) k) k (dAt cs k)) ++ [.int 9]))) j w := fun j w h => hasWs_set g2 h
    replace hkk := K _ _ (by lia) hkk
    replace ht := K _ _ (by lia) ht
    replace q4 := K _ _ (by lia) q4
    replace q0 := K _ _ (by lia) q0
    replace hir := fun i h => KW _ _ (hir i h)
    replace hws := KW _ _ hws
    replace g6 : ∃ ext, σ₅.set (σ₀.length + 2) (.list (natL (endsTo (pathAt (dsOf cs) k) (endsAt (dsOf cs) k) k (dAt cs k)) ++ [.int 9])) = σ₀ ++ ext := by obtain ⟨e, rfl⟩ := g6; exact ext_set (by lia)
    clear K KW hrr' g2
    generalize σ₅.set (σ₀.length + 2) (.list (natL (endsTo (pathAt (dsOf cs) k) (endsAt (dsOf cs) k) k (dAt cs k)) ++ [.int 9])) = σ₆ at *
    refine wp_append ?_
    walk_at "ps"
    refine ⟨_, _, rfl, ht, ?_⟩
    walk_at "ps"
    refine ⟨_, ht, ⟨by lia, by rw [List.length_map, List.length_range]; unfold maxLen; lia⟩, ?_⟩
    refine k0 _ _ ⟨rfl, m0, m1, m2, m3, m4, m5, m9, by obtain ⟨e, rfl⟩ := g6; exact ext_set (by lia), ⟨_, get_set_ne (by lia) q0, fun i hi => ?_⟩, get_set_ne (by lia) hkk, get_set_ne (by lia) q2, ?_, get_set_ne (by lia) q4⟩
    · by_cases e : i = k
      · subst e; rw [if_pos rfl]; exact hasWs_set ht hws
      · rw [if_neg e]; exact hasWs_set ht (hir i (by lia))
    · rw [get_set_eq ht, List.range_succ, List.map_append]; rfl
  refine wp_seq (wp_sif (wp_tAnd (wp_eq (run_filled (i := σ₀.length + 4) (by unfold eVar; rw [m5]) a5) ?_)))
  by_cases hb : (!((pathAt (dsOf cs) k).take (dAt cs k)).isEmpty) = true
  · rw [if_pos hb]
    have hk0 : 0 < k := by
      rcases Nat.eq_zero_or_pos k with h | h
      · exact absurd hb (by rw [h, show pathAt (dsOf cs) 0 = [] from rfl, List.take_nil]; decide)
      · exact h
    have a2' : ρ₂ "under" = some (.bool true) := by rw [a2, decide_eq_true hk0]
    refine wp_eq (a := false) (σ := σ₂ ++ [.list []]) (by unfold tOf eCmp eBin eVar eVal; rw [a2']; rfl) ?_
    exact cont
  · rw [if_neg hb, if_neg (by decide)]
    exact cont
end hkp130
theorem rd_turn : ∀ {σ₀ : MH} {rr : Nat} {cs : List Nat} {tx : Nat → PySem.Str} {kd : Nat → Option Int} {k : Nat} {ρ : MEnv} {σ : MH}, hkp130.hS σ₀ rr cs tx kd k ρ σ := @fun σ₀ rr cs tx kd k ρ σ => ce_all (P := hkp130.hP) (default, default, default, default, default, default, default, default) (@hkp130.hT) (σ₀, rr, cs, tx, kd, k, ρ, σ)
theorem run_len {x : ED} {i n : Nat} {xs : List MV} {ρ : MEnv} {σ : MH} (hx : x ρ σ = .ok (.ref i) σ) (h : σ[i]? = some (.list xs)) (hn : xs.length = n) (hm : n ≤ maxLen) : eUn fLen x ρ σ = .ok (.int (n : Int)) σ := by
  unfold eUn
  rw [hx, R.bind_ok]
  unfold fLen
  dsimp only
  rw [h]
  dsimp only
  rw [hn, if_pos hm]
theorem run_var {x : String} {ρ : MEnv} {σ : MH} {v : MV} (h : ρ x = some v) : eVar x ρ σ = .ok v σ := by unfold eVar; rw [h]
theorem rd_loop {σ₀ : MH} {rr : Nat} {cs : List Nat} {tx : Nat → Str} {kd : Nat → Option Int} (h0 : σ₀.length ≠ 0)
    (hrr : σ₀[rr]? = some (.list ((List.range 9).map fun i => .str (rowS cs tx i)))) (hs : ∀ i, i < 9 → Solid (tx i) ∧ (tx i).cps.toList.length ≤ 80) (hkd : ∀ i, i < 9 → tokTab.lookup (tx i) = kd i) :
    ∀ (n k : Nat) (ρ : MEnv) (σ : MH), k + n = 9 → RdInv σ₀ rr cs tx kd k ρ σ → Wp (forGo (.range 0 1 9) "k" rdBody ((List.range' k n).map fun (i : Nat) => .int (i : Int)) ρ σ) (fun r σ' => r.1 = .next ∧ RdInv σ₀ rr cs tx kd 9 r.2 σ') noX
  | 0, k, ρ, σ, h, hI => by
    have : k = 9 := by lia
    subst this
    exact ⟨rfl, hI⟩
  | n + 1, k, ρ, σ, h, hI => by
    rw [List.range'_succ, List.map_cons]
    refine wp_goCons (wp_mono (rd_turn h0 (by lia) hrr hs hkd hI) (fun r σ' ⟨h1, h2⟩ => ?_) (fun _ _ _ h => h))
    rw [h1]
    exact ⟨rfl, rd_loop h0 hrr hs hkd n (k + 1) _ _ (by lia) h2⟩
namespace hkp140
noncomputable abbrev hS (σ₀ : MH) (rr : Nat) (cs : List Nat) (tx : Nat → PySem.Str) (kd : Nat → Option Int) : Prop := ∀ (h0 : σ₀.length ≠ 0) (hrr : σ₀[rr]? = some (.list ((List.range 9).map fun i => .str (rowS cs tx i)))) (hs : ∀ i, i < 9 → Solid (tx i) ∧ (tx i).cps.toList.length ≤ 80) (hkd : ∀ i, i < 9 → tokTab.lookup (tx i) = kd i), ∃ ext t kr er xr, readF [.ref rr] σ₀ = .ok (.ref t) (σ₀ ++ ext) ∧ (σ₀ ++ ext)[t]? = some (.tup [.ref kr, .ref er, .ref xr]) ∧ (σ₀ ++ ext)[kr]? = some (.list ((List.range 9).map fun i => .int (kindAt kd i))) ∧
      (σ₀ ++ ext)[er]? = some (.list (natL (endsAt (dsOf cs) 9))) ∧ (σ₀ ++ ext)[xr]? = some (.list ((List.range 9).map fun i => .str (tx i)))
noncomputable abbrev hP := fun p : MH × Nat × (List Nat) × (Nat → PySem.Str) × (Nat → Option Int) => hS p.1 p.2.1 p.2.2.1 p.2.2.2.1 p.2.2.2.2
noncomputable def hW := ce (default, default, default, default, default) hP
noncomputable def σ₀ : MH := hW.1
noncomputable def rr : Nat := hW.2.1
noncomputable def cs : List Nat := hW.2.2.1
noncomputable def tx : Nat → PySem.Str := hW.2.2.2.1
noncomputable def kd : Nat → Option Int := hW.2.2.2.2
theorem hT : hS σ₀ rr cs tx kd := by
  intro h0 hrr hs hkd
  suffices h : Wp (readF [.ref rr] σ₀) (fun v σ' => ∃ t kr er xr, v = .ref t ∧ (∃ ext, σ' = σ₀ ++ ext) ∧ σ'[t]? = some (.tup [.ref kr, .ref er, .ref xr]) ∧ σ'[kr]? = some (.list ((List.range 9).map fun i => .int (kindAt kd i))) ∧ σ'[er]? = some (.list (natL (endsAt (dsOf cs) 9))) ∧ σ'[xr]? = some (.list ((List.range 9).map fun i => .str (tx i)))) noX by
    refine box fun GZ kZ => ?_
    obtain ⟨v, σ', e, t, kr, er, xr, rfl, ⟨ext, rfl⟩, h1, h2, h3, h4⟩ := wp_out h
    refine kZ ?_
    clear kZ GZ
    exact ⟨ext, t, kr, er, xr, e, h1, h2, h3, h4⟩
  refine boxQ fun G0 k0 => ?_
  refine wp_def rfl ?_
  unfold readB
  dsimp only [updAll]
  walk_at "pt"
  walk_at "pt"
  simp only [List.append_assoc, List.cons_append, List.nil_append, List.length_append, List.length_cons, List.length_nil, Nat.zero_add, Nat.reduceAdd]
  refine wp_seq (wp_for (wp_eq (run_range1 (n := 9) (run_len (i := rr) (run_var (by walk_at "pn")) (get_old hrr) (by rw [List.length_map, List.length_range]) (by decide)) (by decide)) ?_))
  refine wp_mono (rd_loop h0 hrr hs hkd 9 0 _ _ rfl ?_) ?_ (fun _ _ _ h => h)
  · exact ⟨by walk_at "pn", by walk_at "pn", by walk_at "pn", by walk_at "pn", by walk_at "pn", by walk_at "pn", (show _ = some (MV.int 0) by walk_at "pn"), ⟨_, rfl⟩, ⟨fun _ => 0, get_at0, fun i hi => absurd hi (Nat.not_lt_zero _)⟩, get_at, get_at, get_at, get_at⟩
  · intro r σ ⟨q1, hI⟩
    refine box fun GZ kZ => ?_
    obtain ⟨vr, vl, vk, ve, vt, vi, vp, ext, hl, hkk, he, ht, hi⟩ := hI
    refine kZ ?_
    clear kZ GZ
    rw [q1]
    generalize r.2 = ρ at *
    dsimp only
    walk_at "p:ret"
    exact k0 _ _ ⟨_, _, _, _, rfl, ext_app ext, get_last, get_old hkk, get_old he, get_old ht⟩
end hkp140
theorem run_read : ∀ {σ₀ : MH} {rr : Nat} {cs : List Nat} {tx : Nat → PySem.Str} {kd : Nat → Option Int}, hkp140.hS σ₀ rr cs tx kd := @fun σ₀ rr cs tx kd => ce_all (P := hkp140.hP) (default, default, default, default, default) (@hkp140.hT) (σ₀, rr, cs, tx, kd)
noncomputable def chg {α : Type} (f : Nat → α) (k : Nat) (v : α) : Nat → α := fun i => if i = k then v else f i
theorem range_set {α : Type} (f : Nat → α) (n k : Nat) (v : α) : ((List.range n).map f).set k v = (List.range n).map (chg f k v) := by
  refine List.ext_getElem? fun i => ?_
  rw [List.getElem?_set, List.getElem?_map, List.length_map, List.length_range]
  by_cases h : k = i
  · subst h
    rw [if_pos rfl]
    by_cases hk : k < n
    · rw [if_pos hk, List.getElem?_map, List.getElem?_range hk]; show _ = some (chg f k v k); unfold chg; rw [if_pos rfl]
    · rw [if_neg hk, List.getElem?_map, List.getElem?_eq_none (by rw [List.length_range]; lia)]; rfl
  · rw [if_neg h, List.getElem?_map]
    by_cases hi : i < n
    · rw [List.getElem?_range hi]; show some (f i) = some (chg f k v i); unfold chg; rw [if_neg (Ne.symm h)]
    · rw [List.getElem?_eq_none (by rw [List.length_range]; lia)]; rfl
noncomputable def ups9 {α : Type} (step : (Nat → α) → Nat → α) (init : Nat → α) : Nat → (Nat → α)
  | 0 => init
  | n + 1 => chg (ups9 step init n) (8 - n) (step (ups9 step init n) (8 - n))
theorem ups9_stays {α : Type} (step : (Nat → α) → Nat → α) (init : Nat → α) : ∀ m n k, n + m ≤ 9 → 9 - n ≤ k → ups9 step init (n + m) k = ups9 step init n k
  | 0, n, k, _, _ => rfl
  | m + 1, n, k, h, hk => by
    show (if k = 8 - (n + m) then _ else ups9 step init (n + m) k) = _
    have h1 : n ≤ 8 := Nat.le_of_lt_succ (Nat.lt_of_lt_of_le (Nat.lt_add_of_pos_right (Nat.succ_pos m)) h)
    rw [if_neg (fun e => absurd hk (Nat.not_le.mpr (Nat.lt_of_le_of_lt (Nat.le_trans (Nat.le_of_eq e) (Nat.sub_le_sub_left (Nat.le_add_right n m) 8)) (Nat.sub_lt_sub_right h1 (Nat.lt_succ_self 8)))))]
    exact ups9_stays step init m n k (Nat.le_of_succ_le h) hk
theorem fuel_le {N k c n : Nat} (h : N - k ≤ n + 1) (hc : k < c) : N - c ≤ n := Nat.le_trans (Nat.sub_le_sub_left hc N) (Nat.sub_le_of_le_add (by rw [Nat.add_succ, ← Nat.succ_add]; exact Nat.le_add_of_sub_le h))
theorem nine : ∀ k, k < 9 → 9 - k + k = 9 ∧ 9 - (9 - k) ≤ k ∧ 9 - k = 8 - k + 1 ∧ 8 - (8 - k) = k ∧ 8 - k + (k + 1) = 9 ∧ 9 - (8 - k) = k + 1 := by decide
theorem ups9_eq {α : Type} {step : (Nat → α) → Nat → α} {init : Nat → α} (h : ∀ f g k, (∀ j, k < j → j < 9 → f j = g j) → step f k = step g k) {k : Nat} (hk : k < 9) : ups9 step init 9 k = step (ups9 step init 9) k := by
  obtain ⟨n1, n2, n3, n4, n5, n6⟩ := nine k hk
  have h1 := ups9_stays step init k (9 - k) k (Nat.le_of_eq n1) n2
  rw [n1] at h1
  rw [h1, n3]
  show chg (ups9 step init (8 - k)) (8 - (8 - k)) (step (ups9 step init (8 - k)) (8 - (8 - k))) k = _
  rw [n4]
  show (if k = k then _ else _) = _
  rw [if_pos rfl]
  refine h _ _ _ fun j hj1 hj2 => ?_
  have h2 := ups9_stays step init (k + 1) (8 - k) j (Nat.le_of_eq n5) (by rw [n6]; exact hj1)
  rw [n5] at h2
  exact h2.symm
noncomputable def maxN : Nat → List Nat → Nat
  | m, [] => m
  | m, x :: r => maxN (if x > m then x else m) r
noncomputable def minN : Nat → List Nat → Nat
  | m, [] => m
  | m, x :: r => minN (if x < m then x else m) r
theorem maxI_nat : ∀ (l : List Nat) (m : Nat), maxI (m : Int) (l.map fun (k : Nat) => (k : Int)) = ((maxN m l : Nat) : Int)
  | [], m => rfl
  | x :: r, m => by
    rw [List.map_cons]
    unfold maxI maxN
    rw [← maxI_nat r]
    congr 1
    by_cases h : x > m
    · rw [if_pos h, if_pos (Int.ofNat_lt.mpr h)]
    · rw [if_neg h, if_neg (fun h' => h (Int.ofNat_lt.mp h'))]
theorem minI_nat : ∀ (l : List Nat) (m : Nat), minI (m : Int) (l.map fun (k : Nat) => (k : Int)) = ((minN m l : Nat) : Int)
  | [], m => rfl
  | x :: r, m => by
    rw [List.map_cons]
    unfold minI minN
    rw [← minI_nat r]
    congr 1
    by_cases h : x < m
    · rw [if_pos h, if_pos (Int.ofNat_lt.mpr h)]
    · rw [if_neg h, if_neg (fun h' => h (Int.ofNat_lt.mp h'))]
theorem ints_natL : ∀ l : List Nat, ints? (natL l) = some (l.map fun (k : Nat) => (k : Int))
  | [] => rfl
  | a :: l => by
    show ints? (.int (a : Int) :: natL l) = _
    unfold ints?
    rw [ints_natL l]; rfl
noncomputable def wStep (ps : Nat → List Nat) (dd pt : Nat → Nat) (f : Nat → Nat) (k : Nat) : Nat := match ps k with
  | [] => pt k
  | x :: r => if dd k = 1 then maxN (f x) (r.map f) else minN (f x) (r.map f)
noncomputable def wUp (ps : Nat → List Nat) (dd pt : Nat → Nat) (n : Nat) : Nat → Nat := ups9 (wStep ps dd pt) pt n
noncomputable def wOf (ps : Nat → List Nat) (dd pt : Nat → Nat) : Nat → Nat := wUp ps dd pt 9
structure Tree (ps : Nat → List Nat) : Prop where
  up : ∀ k j, j ∈ ps k → k < j ∧ j < 9
  one : ∀ k k' j, j ∈ ps k → j ∈ ps k' → k = k'
theorem wOf_eq {ps : Nat → List Nat} {dd pt : Nat → Nat} (hT : Tree ps) {k : Nat} (hk : k < 9) : wOf ps dd pt k = wStep ps dd pt (wOf ps dd pt) k := by
  refine ups9_eq (fun f g k h => ?_) hk
  unfold wStep
  cases e : ps k with
  | nil => rfl
  | cons x r =>
    have hx : ∀ j, j ∈ x :: r → f j = g j := fun j hj => by
      have := hT.up k j (by rw [e]; exact hj); exact h j this.1 this.2
    dsimp only
    rw [hx x (List.mem_cons_self ..), List.map_congr_left (f := f) (g := g) fun j hj => hx j (List.mem_cons_of_mem _ hj)]
noncomputable def bNext (ps : Nat → List Nat) (dd : Nat → Nat) (W : Nat → Nat) (b : Nat → Int × Int) (k j : Nat) : Int × Int :=
  let elder : List Int := ((ps k).filter fun i => decide (i < j)).map fun i => ((W i : Nat) : Int)
  if dd k = 1 then (maxI (b k).1 elder, (b k).2) else ((b k).1, minI (b k).2 elder)
noncomputable def bDown (ps : Nat → List Nat) (dd : Nat → Nat) (W : Nat → Nat) (lo hi : Int) : Nat → (Nat → Int × Int)
  | 0 => fun _ => (lo, hi)
  | k + 1 => fun j => if j ∈ ps k then bNext ps dd W (bDown ps dd W lo hi k) k j else bDown ps dd W lo hi k j
noncomputable def bOf (ps : Nat → List Nat) (dd : Nat → Nat) (W : Nat → Nat) (lo hi : Int) : Nat → Int × Int := bDown ps dd W lo hi 9
theorem bDown_stays {ps : Nat → List Nat} {dd W : Nat → Nat} {lo hi : Int} : ∀ m k j, (∀ k', k ≤ k' → j ∉ ps k') → bDown ps dd W lo hi (k + m) j = bDown ps dd W lo hi k j
  | 0, k, j, _ => rfl
  | m + 1, k, j, h => by
    show (if j ∈ ps (k + m) then _ else _) = _
    rw [if_neg (h _ (Nat.le_add_right k m))]
    exact bDown_stays m k j h
theorem bOf_zero {ps : Nat → List Nat} {dd W : Nat → Nat} {lo hi : Int} (hT : Tree ps) : bOf ps dd W lo hi 0 = (lo, hi) :=
  bDown_stays 9 0 0 fun k' _ h => absurd (hT.up k' 0 h).1 (Nat.not_lt_zero _)
theorem bOf_eq {ps : Nat → List Nat} {dd W : Nat → Nat} {lo hi : Int} (hT : Tree ps) {k j : Nat} (h : j ∈ ps k) : bOf ps dd W lo hi j = bNext ps dd W (bOf ps dd W lo hi) k j := by
  have hk := hT.up k j h
  have h1 : bOf ps dd W lo hi j = bDown ps dd W lo hi (k + 1) j := by
    have := bDown_stays (dd := dd) (W := W) (lo := lo) (hi := hi) (8 - k) (k + 1) j (fun k' hk' h' => Nat.not_succ_le_self k (Nat.le_trans hk' (Nat.le_of_eq (hT.one k k' j h h').symm)))
    rw [(by decide : ∀ k, k < 9 → k + 1 + (8 - k) = 9) k (Nat.lt_trans hk.1 hk.2)] at this; exact this
  have h2 : bOf ps dd W lo hi k = bDown ps dd W lo hi k k := by
    have := bDown_stays (dd := dd) (W := W) (lo := lo) (hi := hi) (9 - k) k k (fun k' hk' h' => Nat.not_le.mpr (hT.up k' k h').1 hk')
    rw [Nat.add_sub_cancel' (Nat.le_of_lt (Nat.lt_trans hk.1 hk.2))] at this; exact this
  rw [h1]
  show (if j ∈ ps k then _ else _) = _
  rw [if_pos h]
  unfold bNext
  rw [h2]
noncomputable def pStep (ps : Nat → List Nat) (W : Nat → Nat) (f : Nat → Nat) (k : Nat) : Nat := match (ps k).find? (fun j => W j == W k) with
  | some j => f j
  | none => k
noncomputable def pOf (ps : Nat → List Nat) (W : Nat → Nat) : Nat → Nat := ups9 (pStep ps W) (fun k => k) 9
theorem pOf_eq {ps : Nat → List Nat} {W : Nat → Nat} (hT : Tree ps) {k : Nat} (hk : k < 9) : pOf ps W k = pStep ps W (pOf ps W) k := by
  refine ups9_eq (fun f g k h => ?_) hk
  unfold pStep
  cases e : (ps k).find? (fun j => W j == W k) with
  | none => rfl
  | some j => have := hT.up k j (List.mem_of_find?_eq_some e); exact h j this.1 this.2
theorem range_get {α : Type} {f : Nat → α} {n k : Nat} (h : k < n) : ((List.range n).map f)[k]? = some (f k) := by rw [List.getElem?_map, List.getElem?_range h]; rfl
theorem range_len {α : Type} {f : Nat → α} {n : Nat} : ((List.range n).map f).length = n := by rw [List.length_map, List.length_range]
theorem place9 {α : Type} {f : Nat → α} {k : Nat} (h : k < 9) : place? (k : Int) ((List.range 9).map f).length = some k := place_nat (by rw [range_len]; exact h) (by rw [range_len]; decide)
theorem run_idx {a b : ED} {i k : Nat} {xs : List MV} {v : MV} {ρ : MEnv} {σ : MH} (ha : a ρ σ = .ok (.ref i) σ) (hb : b ρ σ = .ok (.int (k : Int)) σ) (h : σ[i]? = some (.list xs)) (hl : xs.length ≤ 1000) (hv : xs[k]? = some v) : eIdx a b ρ σ = .ok v σ := by
  have hk : k < xs.length := (List.getElem?_eq_some_iff.mp hv).1
  unfold eIdx eBin
  rw [ha, R.bind_ok, hb, R.bind_ok]
  unfold mGet
  dsimp only
  rw [h]
  dsimp only
  rw [place_nat hk hl, Option.bind_some, hv]
theorem run_rList {b : ED} {i : Nat} {xs : List MV} {ρ : MEnv} {σ : MH} (hb : b ρ σ = .ok (.ref i) σ) (h : σ[i]? = some (.list xs)) : rList b ρ σ = .ok (.list i xs) σ := by
  unfold rList
  rw [hb, R.bind_ok]
  dsimp only
  rw [h]
noncomputable def PartsRs (σ : MH) (pr : Nat) (rs : Nat → Nat) (ps : Nat → List Nat) : Prop := σ[pr]? = some (.list ((List.range 9).map fun i => .ref (rs i))) ∧ ∀ i, i < 9 → σ[rs i]? = some (.list (natL (ps i)))
theorem partsRs_app {σ l : MH} {pr : Nat} {rs : Nat → Nat} {ps : Nat → List Nat} (h : PartsRs σ pr rs ps) : PartsRs (σ ++ l) pr rs ps := ⟨get_old h.1, fun i hi => get_old (h.2 i hi)⟩
theorem partsRs_ext {σ σ' : MH} {pr : Nat} {rs : Nat → Nat} {ps : Nat → List Nat} (h : PartsRs σ pr rs ps) (e : ∃ ext, σ' = σ ++ ext) : PartsRs σ' pr rs ps := by
  obtain ⟨e, rfl⟩ := e; exact partsRs_app h
theorem get_ext {σ σ' : MH} {i : Nat} {o : MO} (h : σ[i]? = some o) (e : ∃ ext, σ' = σ ++ ext) : σ'[i]? = some o := by
  obtain ⟨e, rfl⟩ := e; exact get_old h
theorem run_part {a b : ED} {pr k : Nat} {rs : Nat → Nat} {ps : Nat → List Nat} {ρ : MEnv} {σ : MH} (hP : PartsRs σ pr rs ps) (hk : k < 9) (ha : a ρ σ = .ok (.ref pr) σ) (hb : b ρ σ = .ok (.int (k : Int)) σ) : eIdx a b ρ σ = .ok (.ref (rs k)) σ :=
  run_idx ha hb hP.1 (by rw [range_len]; decide) (range_get hk)
theorem filterMap_itemap (p : Nat → Bool) (W : Nat → Nat) : ∀ l : List Nat, l.filterMap (fun j => if p j = true then some (W j) else none) = (l.filter p).map W
  | [] => rfl
  | a :: l => by
    by_cases h : p a = true
    · rw [List.filterMap_cons_some (by rw [if_pos h]), List.filter_cons, if_pos h, List.map_cons, filterMap_itemap p W l]
    · rw [List.filterMap_cons_none (by rw [if_neg h]), List.filter_cons, if_neg h, filterMap_itemap p W l]
theorem run_some {t : TD} {fv : List String} {x : String} {pr wr k : Nat} {rs : Nat → Nat} {ps : Nat → List Nat} {W : Nat → Nat} {ρ : MEnv} {σ : MH} (p : Nat → Bool) (hP : PartsRs σ pr rs ps) (hk : k < 9) (hx : x ≠ "worths") (hfv : fv.contains "worths" = true) (hlt : ∀ j ∈ ps k, j < 9) (hsz : (ps k).length ≤ 9)
    (vp : ρ "parts" = some (.ref pr)) (vk : ρ "k" = some (.int (k : Int))) (vw : ρ "worths" = some (.ref wr)) (hw : σ[wr]? = some (.list (natL ((List.range 9).map W))))
    (ht : ∀ j ∈ ps k, t (upd (seen ρ fv) x (.int (j : Int))) σ = .ok (p j) σ) :
    eComp (eIdx (eVar "worths") (eVar x)) x fv (rList (eIdx (eVar "parts") (eVar "k"))) t ρ σ = .ok (.ref σ.length) (σ ++ [.list (natL (((ps k).filter p).map W))]) := by
  have hsrc : rList (eIdx (eVar "parts") (eVar "k")) ρ σ = .ok (.list (rs k) (natL (ps k))) σ := run_rList (run_part hP hk (run_var vp) (run_var vk)) (hP.2 k hk)
  have key := run_comp (e := eIdx (eVar "worths") (eVar x)) (x := x) (fv := fv) (t := t) (ρ := ρ) (σ := σ) (optN fun j => if p j = true then some (W j) else none) hsrc (by show (natL (ps k)).length ≤ 1000; rw [natL_len]; lia) (by show decide _ = true; rw [hP.2 k hk]; exact decide_eq_true rfl) ?_
  · rw [key]
    show R.ok _ (σ ++ [.list ((natL (ps k)).filterMap _)]) = _
    rw [filterMap_natL, filterMap_itemap]
  · intro v hv
    obtain ⟨j, hj, rfl⟩ := mem_natL hv
    refine wp_eq (ht j hj) ⟨rfl, ?_⟩
    have ho : optN (fun j => if p j = true then some (W j) else none) (.int (j : Int)) = (if p j = true then some (W j) else none).map fun (k : Nat) => MV.int (k : Int) := by
      show ((fun j => if p j = true then some (W j) else none) ((j : Int).toNat)).map _ = _
      rw [Int.toNat_natCast]
    split
    · rename_i h
      rw [if_pos h] at ho
      refine wp_eq (run_idx (k := j) (v := .int ((W j : Nat) : Int)) (run_var ?_) (run_var upd_eq) hw (by rw [natL_len, range_len]; decide) (natL_range_get (hlt j hj))) ⟨rfl, ho⟩
      rw [upd_skip (Ne.symm hx), seen_skip hfv]; exact vw
    · rename_i h
      rw [if_neg h] at ho
      exact ho
theorem ups9_init {α : Type} {step : (Nat → α) → Nat → α} {init : Nat → α} : ∀ n k, k + n ≤ 8 → ups9 step init n k = init k
  | 0, k, _ => rfl
  | n + 1, k, h => by
    show (if k = 8 - n then _ else ups9 step init n k) = _
    rw [if_neg (Nat.ne_of_lt (Nat.lt_sub_of_add_lt h))]; exact ups9_init n k (Nat.le_of_succ_le h)
theorem chg_same {α : Type} (f : Nat → α) (k : Nat) (v : α) (h : f k = v) : chg f k v = f := by
  funext i; unfold chg; split
  · rename_i e; rw [e, h]
  · rfl
noncomputable def wBody : SD := sIf (tOf (eCmp .ne (eIdx (eVar "parts") (eVar "k")) (eList lNil)))
      (sSeq (sAssign "some" (eComp (eIdx (eVar "worths") (eVar "j")) "j" ["worths"] (rList (eIdx (eVar "parts") (eVar "k"))) tTrue))
      (sSetItem (eVar "worths") (eVar "k") (eIf (tOf (eCmp .eq (eIdx (eVar "deeds") (eVar "k")) (eVal (.int 1)))) (eUn fMax (eVar "some")) (eUn fMin (eVar "some")))))
      sPass
theorem fMax_nat {σ : MH} {i x : Nat} {l : List Nat} (h : σ[i]? = some (.list (natL (x :: l)))) (hl : (x :: l).length ≤ 9) : fMax (.ref i) σ = .ok (.int ((maxN x l : Nat) : Int)) σ := by
  unfold fMax overInts
  dsimp only
  rw [h]
  dsimp only
  rw [ints_natL, Option.bind_some, List.map_cons]
  dsimp only
  rw [if_pos (by rw [natL_len]; unfold maxLen; lia), maxI_nat]
theorem fMin_nat {σ : MH} {i x : Nat} {l : List Nat} (h : σ[i]? = some (.list (natL (x :: l)))) (hl : (x :: l).length ≤ 9) : fMin (.ref i) σ = .ok (.int ((minN x l : Nat) : Int)) σ := by
  unfold fMin overInts
  dsimp only
  rw [h]
  dsimp only
  rw [ints_natL, Option.bind_some, List.map_cons]
  dsimp only
  rw [if_pos (by rw [natL_len]; unfold maxLen; lia), minI_nat]
structure Env (σ₀ : MH) (pr dr : Nat) (rs : Nat → Nat) (ps : Nat → List Nat) (dd : Nat → Nat) : Prop where
  h0 : σ₀.length ≠ 0
  T : Tree ps
  sz : ∀ k, (ps k).length ≤ 9
  P : PartsRs σ₀ pr rs ps
  D : σ₀[dr]? = some (.list (natL ((List.range 9).map dd)))
theorem tTrue_run {ρ : MEnv} {σ : MH} : tTrue ρ σ = .ok true σ := rfl
theorem w_turn {σ₀ : MH} {pr dr wr : Nat} {rs : Nat → Nat} {ps : Nat → List Nat} {dd pt : Nat → Nat} (E : Env σ₀ pr dr rs ps dd) {n : Nat} (hn : n < 9) {ρ : MEnv} {σ : MH} (hwr : σ₀.length ≤ wr)
    (vk : ρ "k" = some (.int ((8 - n : Nat) : Int))) (vp : ρ "parts" = some (.ref pr)) (vd : ρ "deeds" = some (.ref dr)) (vw : ρ "worths" = some (.ref wr)) (ext : ∃ ext, σ = σ₀ ++ ext) (hw : σ[wr]? = some (.list (natL ((List.range 9).map (wUp ps dd pt n))))) :
    Wp (wBody ρ σ) (fun r σ' => r.1 = .next ∧ (∀ y, y ≠ "some" → r.2 y = ρ y) ∧ (∃ ext, σ' = σ₀ ++ ext) ∧ σ'[wr]? = some (.list (natL ((List.range 9).map (wUp ps dd pt (n + 1))))) ∧ ∀ x o, x ≠ wr → σ[x]? = some o → σ'[x]? = some o) noX := by
  have hk : 8 - n < 9 := Nat.lt_succ_of_le (Nat.sub_le ..)
  have hP := partsRs_ext E.P ext
  have hD := get_ext E.D ext
  have hx : wUp ps dd pt (n + 1) = chg (wUp ps dd pt n) (8 - n) (wStep ps dd pt (wUp ps dd pt n) (8 - n)) := rfl
  refine wp_sif (wp_eq (run_filled (run_part hP hk (run_var vp) (run_var vk)) (hP.2 _ hk)) ?_)
  cases e : ps (8 - n) with
  | nil =>
    refine ⟨rfl, fun _ _ => rfl, ext_app ext, ?_, fun x o _ h => get_old h⟩
    rw [hx, chg_same]
    · exact get_old hw
    · unfold wStep; rw [e]; exact ups9_init n (8 - n) (Nat.le_of_eq (Nat.sub_add_cancel (Nat.le_of_lt_succ hn)))
  | cons a l =>
    refine (show if (true : Bool) = true then _ else _ from ?_)
    rw [if_pos rfl]
    have hP1 := partsRs_app (l := [MO.list []]) hP
    have hw1 := get_old (l := [MO.list []]) hw
    have hcomp := run_some (t := tTrue) (fv := ["worths"]) (x := "j") (ρ := ρ) (fun _ => true) hP1 hk (by decide) (by decide +kernel) (fun j hj => (E.T.up _ j hj).2) (E.sz _) vp vk vw hw1 (fun _ _ => rfl)
    rw [e, List.filter_eq_self.mpr (fun _ _ => rfl), List.map_cons] at hcomp
    refine wp_seq (wp_assign (wp_eq hcomp ?_))
    dsimp only
    refine wp_setItem ?_
    have hd1 := get_old (l := [MO.list (natL (wUp ps dd pt n a :: l.map (wUp ps dd pt n)))]) (get_old (l := [MO.list []]) hD)
    have hw2 := get_old (l := [MO.list (natL (wUp ps dd pt n a :: l.map (wUp ps dd pt n)))]) hw1
    have hsz : (wUp ps dd pt n a :: l.map (wUp ps dd pt n)).length ≤ 9 := by have := E.sz (8 - n); rw [e] at this; rw [List.length_cons, List.length_map]; exact this
    have hlast := get_last (σ := σ ++ [MO.list []]) (o := MO.list (natL (wUp ps dd pt n a :: l.map (wUp ps dd pt n))))
    have hel := ext_len ext
    have hval : Wp ((eIf (tOf (eCmp .eq (eIdx (eVar "deeds") (eVar "k")) (eVal (.int 1)))) (eUn fMax (eVar "some")) (eUn fMin (eVar "some"))) (upd ρ "some" (.ref (σ ++ [MO.list []]).length)) (σ ++ [MO.list []] ++ [MO.list (natL (wUp ps dd pt n a :: l.map (wUp ps dd pt n)))]))
        (fun v σ' => v = .int ((wStep ps dd pt (wUp ps dd pt n) (8 - n) : Nat) : Int) ∧ σ' = σ ++ [MO.list []] ++ [MO.list (natL (wUp ps dd pt n a :: l.map (wUp ps dd pt n)))]) noX := by
      refine wp_eif (wp_tOf (wp_cmp (wp_bin (wp_eq (run_idx (run_var (upd_go (by decide) vd)) (run_var (upd_go (by decide) vk)) hd1 (by rw [natL_len, range_len]; decide) (natL_range_get hk)) ?_))))
      refine wp_val (wp_ceq (r := (((dd (8 - n) : Nat) : Int) == 1)) rfl ⟨_, rfl, ?_⟩)
      unfold wStep
      rw [e]
      dsimp only
      by_cases h1 : dd (8 - n) = 1
      · rw [if_pos h1, if_pos (by rw [h1]; rfl)]
        exact wp_un (wp_var upd_eq (wp_eq (fMax_nat hlast hsz) ⟨rfl, rfl⟩))
      · rw [if_neg h1, if_neg (by rw [beq_iff_eq]; lia)]
        exact wp_un (wp_var upd_eq (wp_eq (fMin_nat hlast hsz) ⟨rfl, rfl⟩))
    refine wp_mono hval ?_ (fun _ _ _ h => h)
    rintro v σ' ⟨rfl, rfl⟩
    refine wp_var (upd_go (by decide) vw) (wp_var (upd_go (by decide) vk) ?_)
    refine ⟨_, _, _, rfl, rfl, hw2, ⟨by have := E.h0; lia, by lia, by rw [natL_len, range_len]; lia, by lia⟩, ?_⟩
    rw [Int.toNat_natCast, natL_set, range_set, ← hx]
    refine ⟨rfl, fun y hy => upd_skip hy, ?_, get_set_eq hw2, fun x o hx h => get_set_ne (Ne.symm hx) (get_old (get_old h))⟩
    obtain ⟨e, rfl⟩ := ext; rw [List.append_assoc, List.append_assoc]; exact ext_set hwr
noncomputable def BndAt (σ : MH) (br : Nat) (b : Nat → Int × Int) : Prop := ∃ ts : Nat → Nat, σ[br]? = some (.list ((List.range 9).map fun i => .ref (ts i))) ∧ ∀ i, i < 9 → σ[ts i]? = some (.tup [.int (b i).1, .int (b i).2])
theorem bndAt_app {σ l : MH} {br : Nat} {b : Nat → Int × Int} (h : BndAt σ br b) : BndAt (σ ++ l) br b := by
  obtain ⟨ts, h1, h2⟩ := h; exact ⟨ts, get_old h1, fun i hi => get_old (h2 i hi)⟩
theorem run_tupGet {a b : ED} {i k : Nat} {xs : List MV} {v : MV} {ρ : MEnv} {σ : MH} (ha : a ρ σ = .ok (.ref i) σ) (hb : b ρ σ = .ok (.int (k : Int)) σ) (h : σ[i]? = some (.tup xs)) (hl : xs.length ≤ 1000) (hv : xs[k]? = some v) : eIdx a b ρ σ = .ok v σ := by
  have hk : k < xs.length := (List.getElem?_eq_some_iff.mp hv).1
  unfold eIdx eBin
  rw [ha, R.bind_ok, hb, R.bind_ok]
  unfold mGet
  dsimp only
  rw [h]
  dsimp only
  rw [place_nat hk hl, Option.bind_some, hv]
theorem run_bnd {σ : MH} {br k : Nat} {b : Nat → Int × Int} {ρ : MEnv} {x y : ED} (h : BndAt σ br b) (hk : k < 9) (vx : x ρ σ = .ok (.ref br) σ) (vy : y ρ σ = .ok (.int (k : Int)) σ) :
    eIdx (eIdx x y) (eVal (.int 0)) ρ σ = .ok (.int (b k).1) σ ∧ eIdx (eIdx x y) (eVal (.int 1)) ρ σ = .ok (.int (b k).2) σ := by
  refine box fun GZ kZ => ?_
  obtain ⟨ts, h1, h2⟩ := h
  refine kZ ?_
  clear kZ GZ
  have e1 : eIdx x y ρ σ = .ok (.ref (ts k)) σ := run_idx vx vy h1 (by rw [range_len]; decide) (range_get hk)
  exact ⟨run_tupGet (k := 0) e1 rfl (h2 k hk) (by simp) rfl, run_tupGet (k := 1) e1 rfl (h2 k hk) (by simp) rfl⟩
theorem ints_cons (x : Int) (l : List Nat) : ints? ([.int x] ++ natL l) = some (x :: l.map fun (k : Nat) => (k : Int)) := by
  show ints? (.int x :: natL l) = _
  unfold ints?
  rw [ints_natL]; rfl
theorem fMax_cons {σ : MH} {i : Nat} {x : Int} {l : List Nat} (h : σ[i]? = some (.list ([.int x] ++ natL l))) (hl : l.length ≤ 9) : fMax (.ref i) σ = .ok (.int (maxI x (l.map fun (k : Nat) => (k : Int)))) σ := by
  unfold fMax overInts
  dsimp only
  rw [h]
  dsimp only
  rw [ints_cons, Option.bind_some]
  dsimp only
  rw [if_pos (by rw [List.length_append, natL_len]; unfold maxLen; simp; lia)]
theorem fMin_cons {σ : MH} {i : Nat} {x : Int} {l : List Nat} (h : σ[i]? = some (.list ([.int x] ++ natL l))) (hl : l.length ≤ 9) : fMin (.ref i) σ = .ok (.int (minI x (l.map fun (k : Nat) => (k : Int)))) σ := by
  unfold fMin overInts
  dsimp only
  rw [h]
  dsimp only
  rw [ints_cons, Option.bind_some]
  dsimp only
  rw [if_pos (by rw [List.length_append, natL_len]; unfold maxLen; simp; lia)]
noncomputable def bBody : SD := (sSeq (sAssign "elder" (eComp (eIdx (eVar "worths") (eVar "i")) "i" ["worths", "j"] (rList (eIdx (eVar "parts") (eVar "k"))) (tOf (eCmp .lt (eVar "i") (eVar "j")))))
      (sIf (tOf (eCmp .eq (eIdx (eVar "deeds") (eVar "k")) (eVal (.int 1))))
        (sSetItem (eVar "bounds") (eVar "j") (eTup (lCons (eUn fMax (eBin opAdd (eList (lCons (eIdx (eIdx (eVar "bounds") (eVar "k")) (eVal (.int 0))) lNil)) (eVar "elder"))) (lCons (eIdx (eIdx (eVar "bounds") (eVar "k")) (eVal (.int 1))) lNil))))
        (sSetItem (eVar "bounds") (eVar "j") (eTup (lCons (eIdx (eIdx (eVar "bounds") (eVar "k")) (eVal (.int 0))) (lCons (eUn fMin (eBin opAdd (eList (lCons (eIdx (eIdx (eVar "bounds") (eVar "k")) (eVal (.int 1))) lNil)) (eVar "elder"))) lNil))))))
theorem b_set {σ₀ σ : MH} {br j t : Nat} {b : Nat → Int × Int} {v : Int × Int} (hj : j < 9) (h : BndAt σ br b) (hv : σ[t]? = some (.tup [.int v.1, .int v.2])) :
    ∃ xs, σ[br]? = some (.list xs) ∧ xs.length = 9 ∧ BndAt (σ.set br (.list (xs.set j (.ref t)))) br (chg b j v) := by
  refine box fun GZ kZ => ?_
  obtain ⟨ts, h1, h2⟩ := h
  refine kZ ?_
  clear kZ GZ
  refine ⟨_, h1, range_len, chg ts j t, ?_, fun i hi => ?_⟩
  · rw [get_set_eq h1, range_set]
    refine congrArg some (congrArg MO.list (List.map_congr_left fun i _ => ?_))
    unfold chg; split <;> rfl
  · unfold chg
    split
    · refine get_set_ne ?_ hv
      rintro rfl; rw [h1] at hv; cases hv
    · refine get_set_ne ?_ (h2 i hi)
      rintro rfl
      have := h2 i hi
      rw [h1] at this; cases this
namespace hkp170
noncomputable abbrev hS (σ₀ : MH) (pr : Nat) (dr : Nat) (wr : Nat) (br : Nat) (rs : Nat → Nat) (ps : Nat → List Nat) (dd : Nat → Nat) (W : Nat → Nat) (b : Nat → Prod Int Int) (k : Nat) (j : Nat) (ρ : MEnv) (σ : MH) : Prop := ∀ (E : Env σ₀ pr dr rs ps dd) (hk : k < 9) (hj : j < 9) (hbr : σ₀.length ≤ br) (hne : wr ≠ br) (vk : ρ "k" = some (.int (k : Int))) (vj : ρ "j" = some (.int (j : Int))) (vp : ρ "parts" = some (.ref pr)) (vd : ρ "deeds" = some (.ref dr)) (vw : ρ "worths" = some (.ref wr)) (vb : ρ "bounds" = some (.ref br)) (ext : ∃ ext, σ = σ₀ ++ ext) (hw : σ[wr]? = some (.list (natL ((List.range 9).map W)))) (hb : BndAt σ br b), Wp (bBody ρ σ) (fun r σ' => r.1 = .next ∧ (∀ y, y ≠ "elder" → r.2 y = ρ y) ∧ (∃ ext, σ' = σ₀ ++ ext) ∧ BndAt σ' br (chg b j (bNext ps dd W b k j)) ∧ σ'[wr]? = some (.list (natL ((List.range 9).map W)))) noX
noncomputable abbrev hP := fun p : MH × Nat × Nat × Nat × Nat × (Nat → Nat) × (Nat → List Nat) × (Nat → Nat) × (Nat → Nat) × (Nat → Prod Int Int) × Nat × Nat × MEnv × MH => hS p.1 p.2.1 p.2.2.1 p.2.2.2.1 p.2.2.2.2.1 p.2.2.2.2.2.1 p.2.2.2.2.2.2.1 p.2.2.2.2.2.2.2.1 p.2.2.2.2.2.2.2.2.1 p.2.2.2.2.2.2.2.2.2.1 p.2.2.2.2.2.2.2.2.2.2.1 p.2.2.2.2.2.2.2.2.2.2.2.1 p.2.2.2.2.2.2.2.2.2.2.2.2.1 p.2.2.2.2.2.2.2.2.2.2.2.2.2
noncomputable def hW := ce (default, default, default, default, default, default, default, default, default, default, default, default, default, default) hP
noncomputable def σ₀ : MH := hW.1
noncomputable def pr : Nat := hW.2.1
noncomputable def dr : Nat := hW.2.2.1
noncomputable def wr : Nat := hW.2.2.2.1
noncomputable def br : Nat := hW.2.2.2.2.1
noncomputable def rs : Nat → Nat := hW.2.2.2.2.2.1
noncomputable def ps : Nat → List Nat := hW.2.2.2.2.2.2.1
noncomputable def dd : Nat → Nat := hW.2.2.2.2.2.2.2.1
noncomputable def W : Nat → Nat := hW.2.2.2.2.2.2.2.2.1
noncomputable def b : Nat → Prod Int Int := hW.2.2.2.2.2.2.2.2.2.1
noncomputable def k : Nat := hW.2.2.2.2.2.2.2.2.2.2.1
noncomputable def j : Nat := hW.2.2.2.2.2.2.2.2.2.2.2.1
noncomputable def ρ : MEnv := hW.2.2.2.2.2.2.2.2.2.2.2.2.1
noncomputable def σ : MH := hW.2.2.2.2.2.2.2.2.2.2.2.2.2
theorem hT : hS σ₀ pr dr wr br rs ps dd W b k j ρ σ := by
  intro E hk hj hbr hne vk vj vp vd vw vb ext hw hb
  have hP := partsRs_ext E.P ext
  have hD := get_ext E.D ext
  have hcomp := run_some (t := tOf (eCmp .lt (eVar "i") (eVar "j"))) (fv := ["worths", "j"]) (x := "i") (ρ := ρ) (σ := σ) (fun i => decide (i < j)) hP hk (by decide) (by decide +kernel) (fun j hj => (E.T.up _ j hj).2) (E.sz _) vp vk vw hw (fun i _ => by
    have e1 : upd (seen ρ ["worths", "j"]) "i" (.int (i : Int)) "j" = some (.int (j : Int)) := upd_go (by decide) ((seen_skip (by decide +kernel)).trans vj)
    unfold tOf eCmp eBin
    rw [run_var upd_eq, R.bind_ok, run_var e1, R.bind_ok]
    show R.ok (decide ((i : Int) < (j : Int))) σ = _
    congr 1
    rw [Bool.eq_iff_iff, decide_eq_true_iff, decide_eq_true_iff]; lia)
  refine wp_seq (wp_assign (wp_eq hcomp ?_))
  dsimp only
  have hel : (((ps k).filter fun i => decide (i < j)).map W).length ≤ 9 := by rw [List.length_map]; exact Nat.le_trans (List.length_filter_le ..) (E.sz k)
  have hb' := bndAt_app (l := [MO.list (natL (((ps k).filter fun i => decide (i < j)).map W))]) hb
  have hw' := get_old (l := [MO.list (natL (((ps k).filter fun i => decide (i < j)).map W))]) hw
  have hD' := get_old (l := [MO.list (natL (((ps k).filter fun i => decide (i < j)).map W))]) hD
  have hlast := get_last (σ := σ) (o := MO.list (natL (((ps k).filter fun i => decide (i < j)).map W)))
  have ext' := ext_app (l := [MO.list (natL (((ps k).filter fun i => decide (i < j)).map W))]) ext
  generalize σ ++ [MO.list (natL (((ps k).filter fun i => decide (i < j)).map W))] = τ at *
  generalize σ.length = el at *
  have n1 : upd ρ "elder" (.ref el) "k" = some (.int (k : Int)) := upd_go (by decide) vk
  have n2 : upd ρ "elder" (.ref el) "j" = some (.int (j : Int)) := upd_go (by decide) vj
  have n3 : upd ρ "elder" (.ref el) "deeds" = some (.ref dr) := upd_go (by decide) vd
  have n4 : upd ρ "elder" (.ref el) "bounds" = some (.ref br) := upd_go (by decide) vb
  have n5 : upd ρ "elder" (.ref el) "elder" = some (.ref el) := upd_eq
  have n6 : ∀ y, y ≠ "elder" → upd ρ "elder" (.ref el) y = ρ y := fun y hy => upd_skip hy
  generalize upd ρ "elder" (.ref el) = ρ' at *
  have fin : ∀ (l : MH) (τ' : MH) (v : Int × Int) (t : Nat), τ' = τ ++ l → v = bNext ps dd W b k j → τ'[t]? = some (.tup [.int v.1, .int v.2]) → ∃ i q xs, MV.ref br = .ref i ∧ MV.int (j : Int) = .int q ∧ τ'[i]? = some (.list xs) ∧ (i ≠ 0 ∧ 0 ≤ q ∧ q < xs.length ∧ q < 1000000) ∧
      ((MF.next, ρ').1 = .next ∧ (∀ y, y ≠ "elder" → (MF.next, ρ').2 y = ρ y) ∧ (∃ ext, τ'.set i (.list (xs.set q.toNat (.ref t))) = σ₀ ++ ext) ∧ BndAt (τ'.set i (.list (xs.set q.toNat (.ref t)))) br (chg b j (bNext ps dd W b k j)) ∧ (τ'.set i (.list (xs.set q.toNat (.ref t))))[wr]? = some (.list (natL ((List.range 9).map W)))) := by
    rintro l _ v t rfl rfl ht
    refine box fun GZ kZ => ?_
    obtain ⟨xs, x1, x2, x3⟩ := b_set (σ₀ := σ₀) hj (bndAt_app (l := l) hb') ht
    refine kZ ?_
    clear kZ GZ
    refine ⟨_, _, xs, rfl, rfl, x1, ⟨by have := E.h0; lia, by lia, by lia, by lia⟩, rfl, n6, ?_, ?_, ?_⟩
    · obtain ⟨e, rfl⟩ := ext'; rw [List.append_assoc]; exact ext_set hbr
    · rw [Int.toNat_natCast]; exact x3
    · exact get_set_ne (Ne.symm hne) (get_old hw')
  refine wp_sif (wp_tOf (wp_cmp (wp_bin (wp_eq (run_idx (run_var n3) (run_var n1) hD' (by rw [natL_len, range_len]; decide) (natL_range_get hk)) ?_))))
  refine wp_val (wp_ceq (r := (((dd k : Nat) : Int) == 1)) rfl ⟨_, rfl, ?_⟩)
  obtain ⟨b1, b2⟩ := run_bnd hb' hk (run_var n4) (run_var n1)
  have hsz : ∀ x : MV, [x].length + (natL (((ps k).filter fun i => decide (i < j)).map W)).length ≤ maxLen := fun x => by
    rw [natL_len]; exact Nat.le_trans (Nat.add_le_add_left hel 1) (by decide)
  by_cases h1 : dd k = 1
  · rw [if_pos (by rw [h1]; rfl)]
    refine wp_setItem (wp_tup (wp_lcons (wp_un (wp_bin (wp_list (wp_lcons (wp_eq b1 (wp_lnil ⟨by simp [maxLen], wp_var n5 ?_⟩))))))))
    refine wp_addL get_last (get_old hlast) (hsz _) (wp_eq (fMax_cons get_last hel) ?_)
    obtain ⟨c1, c2⟩ := run_bnd (bndAt_app (bndAt_app (l := [MO.list [.int (b k).1]]) hb') (l := [MO.list ([.int (b k).1] ++ natL (((ps k).filter fun i => decide (i < j)).map W))])) hk (run_var n4) (run_var n1)
    refine wp_lcons (wp_eq c2 (wp_lnil ⟨by simp [maxLen], wp_var n4 (wp_var n2 ?_)⟩))
    refine fin ([MO.list [.int (b k).1]] ++ [MO.list ([.int (b k).1] ++ natL (((ps k).filter fun i => decide (i < j)).map W))] ++ [MO.tup [.int (maxI (b k).1 ((((ps k).filter fun i => decide (i < j)).map W).map fun (k : Nat) => (k : Int))), .int (b k).2]]) _ (maxI (b k).1 ((((ps k).filter fun i => decide (i < j)).map W).map fun (k : Nat) => (k : Int)), (b k).2) _ (by simp only [List.append_assoc]) ?_ get_last
    unfold bNext
    dsimp only
    rw [if_pos h1, List.map_map]; rfl
  · rw [if_neg (by rw [beq_iff_eq]; lia)]
    refine wp_setItem (wp_tup (wp_lcons (wp_eq b1 (wp_lcons (wp_un (wp_bin (wp_list (wp_lcons (wp_eq b2 (wp_lnil ⟨by simp [maxLen], wp_var n5 ?_⟩))))))))))
    refine wp_addL get_last (get_old hlast) (hsz _) (wp_eq (fMin_cons get_last hel) ?_)
    refine wp_lnil ⟨by simp [maxLen], wp_var n4 (wp_var n2 ?_)⟩
    refine fin ([MO.list [.int (b k).2]] ++ [MO.list ([.int (b k).2] ++ natL (((ps k).filter fun i => decide (i < j)).map W))] ++ [MO.tup [.int (b k).1, .int (minI (b k).2 ((((ps k).filter fun i => decide (i < j)).map W).map fun (k : Nat) => (k : Int)))]]) _ ((b k).1, minI (b k).2 ((((ps k).filter fun i => decide (i < j)).map W).map fun (k : Nat) => (k : Int))) _ (by simp only [List.append_assoc]) ?_ get_last
    unfold bNext
    dsimp only
    rw [if_neg h1, List.map_map]; rfl
end hkp170
theorem b_turn : ∀ {σ₀ : MH} {pr : Nat} {dr : Nat} {wr : Nat} {br : Nat} {rs : Nat → Nat} {ps : Nat → List Nat} {dd : Nat → Nat} {W : Nat → Nat} {b : Nat → Prod Int Int} {k : Nat} {j : Nat} {ρ : MEnv} {σ : MH}, hkp170.hS σ₀ pr dr wr br rs ps dd W b k j ρ σ := @fun σ₀ pr dr wr br rs ps dd W b k j ρ σ => ce_all (P := hkp170.hP) (default, default, default, default, default, default, default, default, default, default, default, default, default, default) (@hkp170.hT) (σ₀, pr, dr, wr, br, rs, ps, dd, W, b, k, j, ρ, σ)
theorem b_inner {σ₀ : MH} {pr dr wr br : Nat} {rs : Nat → Nat} {ps : Nat → List Nat} {dd W : Nat → Nat} (E : Env σ₀ pr dr rs ps dd) {k : Nat} (hk : k < 9) (hbr : σ₀.length ≤ br) (hne : wr ≠ br) (b₀ : Nat → Int × Int) :
    ∀ (l2 l1 : List Nat) (ρ : MEnv) (σ : MH), ps k = l1 ++ l2 → ρ "k" = some (.int (k : Int)) → ρ "parts" = some (.ref pr) → ρ "deeds" = some (.ref dr) → ρ "worths" = some (.ref wr) → ρ "bounds" = some (.ref br) → (∃ ext, σ = σ₀ ++ ext) →
      σ[wr]? = some (.list (natL ((List.range 9).map W))) → BndAt σ br (fun j => if j ∈ l1 then bNext ps dd W b₀ k j else b₀ j) →
      Wp (forGo (.list (rs k) (natL (ps k))) "j" bBody (natL l2) ρ σ) (fun r σ' => r.1 = .next ∧ (∀ y, y ≠ "elder" → y ≠ "j" → r.2 y = ρ y) ∧ (∃ ext, σ' = σ₀ ++ ext) ∧ BndAt σ' br (fun j => if j ∈ ps k then bNext ps dd W b₀ k j else b₀ j) ∧ σ'[wr]? = some (.list (natL ((List.range 9).map W)))) noX
  | [], l1, ρ, σ, e, vk, vp, vd, vw, vb, ext, hw, hb => by
    rw [List.append_nil] at e
    rw [e]
    exact ⟨rfl, fun _ _ _ => rfl, ext, hb, hw⟩
  | j :: l2, l1, ρ, σ, e, vk, vp, vd, vw, vb, ext, hw, hb => by
    have hjm : j ∈ ps k := by rw [e]; exact List.mem_append_right _ (List.mem_cons_self ..)
    have hj := E.T.up k j hjm
    have hkk : k ∉ l1 := fun h => by
      have := E.T.up k k (by rw [e]; exact List.mem_append_left _ h); lia
    refine wp_goCons (wp_mono (b_turn (k := k) (j := j) (ρ := upd ρ "j" (.int (j : Int))) E hk hj.2 hbr hne (upd_go (by decide) vk) upd_eq (upd_go (by decide) vp) (upd_go (by decide) vd) (upd_go (by decide) vw) (upd_go (by decide) vb) ext hw hb) ?_ (fun _ _ _ h => h))
    rintro ⟨f, ρ₁⟩ σ₁ hb1
    refine box fun GZ kZ => ?_
    obtain ⟨h1, h2, h3, h4, h5⟩ := hb1
    refine kZ ?_
    clear kZ GZ
    dsimp only at h1 h2
    subst h1
    refine ⟨by show decide _ = true; rw [(partsRs_ext E.P h3).2 k hk]; exact decide_eq_true rfl, ?_⟩
    have g : ∀ y, y ≠ "elder" → y ≠ "j" → ρ₁ y = ρ y := fun y a c => (h2 y a).trans (upd_skip c)
    refine wp_mono (b_inner E hk hbr hne b₀ l2 (l1 ++ [j]) ρ₁ σ₁ (by rw [e, List.append_assoc]; rfl) ((g _ (by decide) (by decide)).trans vk) ((g _ (by decide) (by decide)).trans vp) ((g _ (by decide) (by decide)).trans vd) ((g _ (by decide) (by decide)).trans vw) ((g _ (by decide) (by decide)).trans vb) h3 h5 ?_) ?_ (fun _ _ _ h => h)
    · have : (fun j' => if j' ∈ l1 ++ [j] then bNext ps dd W b₀ k j' else b₀ j') = chg (fun j => if j ∈ l1 then bNext ps dd W b₀ k j else b₀ j) j (bNext ps dd W (fun j => if j ∈ l1 then bNext ps dd W b₀ k j else b₀ j) k j) := by
        funext j'
        unfold chg
        by_cases hj' : j' = j
        · subst hj'
          rw [if_pos rfl, if_pos (List.mem_append_right _ (List.mem_singleton.mpr rfl))]
          unfold bNext
          dsimp only
          rw [if_neg hkk]
        · rw [if_neg hj']
          show _ = if j' ∈ l1 then bNext ps dd W b₀ k j' else b₀ j'
          by_cases hm : j' ∈ l1
          · rw [if_pos hm, if_pos (List.mem_append_left _ hm)]
          · rw [if_neg hm, if_neg (fun h => by rcases List.mem_append.mp h with h | h; exact hm h; exact hj' (List.mem_singleton.mp h))]
      rw [this]; exact h4
    · rintro r σ' hb2
      refine box fun GZ kZ => ?_
      obtain ⟨q1, q2, q3⟩ := hb2
      refine kZ ?_
      clear kZ GZ
      exact ⟨q1, fun y a c => (q2 y a c).trans (g y a c), q3⟩
theorem chg_at {α : Type} {f : Nat → α} {k : Nat} {v : α} : chg f k v k = v := by unfold chg; rw [if_pos rfl]
theorem chg_ne {α : Type} {f : Nat → α} {k i : Nat} {v : α} (h : i ≠ k) : chg f k v i = f i := by unfold chg; rw [if_neg h]
theorem run_bcomp {lo hi : Int} {ρ : MEnv} {σ : MH} (vl : ρ "low" = some (.int lo)) (vh : ρ "high" = some (.int hi)) :
    Wp (eComp (eTup (lCons (eVar "low") (lCons (eVar "high") lNil))) "k" ["low", "high"] (rRange1 (eVal (.int 9))) tTrue ρ σ) (fun v σ' => ∃ br, v = .ref br ∧ σ.length ≤ br ∧ (∃ ext, σ' = σ ++ ext) ∧ BndAt σ' br (fun _ => (lo, hi))) noX := by
  refine wp_comp (wp_eq (run_range1 (n := 9) rfl (by decide)) ⟨by decide, ?_⟩)
  have := wp_compGo (r := .range 0 1 9) (x := "k") (t := tTrue) (e := eTup (lCons (eVar "low") (lCons (eVar "high") lNil))) (ρ := seen ρ ["low", "high"]) (X := noX)
    (Q := fun ys σ₂ => ∃ br, (MV.ref σ₂.length) = .ref br ∧ σ.length ≤ br ∧ (∃ ext, σ₂ ++ [.list ys] = σ ++ ext) ∧ BndAt (σ₂ ++ [.list ys]) br (fun _ => (lo, hi)))
    (fun k acc σ' => (∃ ts : Nat → Nat, acc = (List.range k).map (fun i => .ref (ts i)) ∧ ∀ i, i < k → σ'[ts i]? = some (.tup [.int lo, .int hi])) ∧ ∃ ext, σ' = σ ++ ext) (vs₀ := (Src.range 0 1 9).items) ?_ ?_ 0 [] σ (Nat.zero_le _) ⟨⟨fun _ => 0, rfl, fun i hi => absurd hi (Nat.not_lt_zero _)⟩, [], (List.append_nil σ).symm⟩
  · exact this
  · rintro k v acc σ' _ hb1
    refine box fun GZ kZ => ?_
    obtain ⟨⟨ts, t1, t2⟩, ext⟩ := hb1
    refine kZ ?_
    clear kZ GZ
    refine wp_tTrue ?_
    rw [if_pos rfl]
    refine wp_tup (wp_lcons (wp_var (upd_go (by decide) ((seen_skip (by decide +kernel)).trans vl)) (wp_lcons (wp_var (upd_go (by decide) ((seen_skip (by decide +kernel)).trans vh)) (wp_lnil ⟨by simp [maxLen], rfl, ⟨chg ts k σ'.length, ?_, fun i hi => ?_⟩, ext_app ext⟩)))))
    · rw [t1, List.range_succ, List.map_append, List.map_singleton, chg_at]
      exact congrArg (· ++ [MV.ref σ'.length]) (List.map_congr_left fun i hi => by rw [chg_ne (by have := List.mem_range.mp hi; lia)])
    · by_cases e : i = k
      · rw [e, chg_at]; exact get_last
      · rw [chg_ne e]; exact get_old (t2 i (by lia))
  · rintro acc σ' hb2
    refine box fun GZ kZ => ?_
    obtain ⟨⟨ts, t1, t2⟩, ext⟩ := hb2
    refine kZ ?_
    clear kZ GZ
    have e9 : (Src.range 0 1 9).items.length = 9 := rfl
    rw [e9] at t1 t2
    exact ⟨_, rfl, ext_len ext, ext_app ext, ts, by rw [t1]; exact get_last, fun i hi => get_old (t2 i hi)⟩
theorem w_loop {σ₀ : MH} {pr dr wr : Nat} {rs : Nat → Nat} {ps : Nat → List Nat} {dd pt : Nat → Nat} (E : Env σ₀ pr dr rs ps dd) (hwr : σ₀.length ≤ wr) :
    ∀ (m n : Nat) (ρ : MEnv) (σ : MH), n + m = 9 → ρ "parts" = some (.ref pr) → ρ "deeds" = some (.ref dr) → ρ "worths" = some (.ref wr) → (∃ ext, σ = σ₀ ++ ext) → σ[wr]? = some (.list (natL ((List.range 9).map (wUp ps dd pt n)))) →
      Wp (forGo (.range 8 (-1) 9) "k" wBody ((List.range' n m).map fun n => .int ((8 - n : Nat) : Int)) ρ σ) (fun r σ' => r.1 = .next ∧ (∀ y, y ≠ "some" → y ≠ "k" → r.2 y = ρ y) ∧ (∃ ext, σ' = σ₀ ++ ext) ∧ σ'[wr]? = some (.list (natL ((List.range 9).map (wOf ps dd pt)))) ∧ ∀ x o, x ≠ wr → σ[x]? = some o → σ'[x]? = some o) noX
  | 0, n, ρ, σ, h, vp, vd, vw, ext, hw => by
    have : n = 9 := by lia
    subst this
    exact ⟨rfl, fun _ _ _ => rfl, ext, hw, fun _ _ _ h => h⟩
  | m + 1, n, ρ, σ, h, vp, vd, vw, ext, hw => by
    rw [List.range'_succ, List.map_cons]
    refine wp_goCons (wp_mono (w_turn (n := n) (ρ := upd ρ "k" (.int ((8 - n : Nat) : Int))) E (by lia) hwr upd_eq (upd_go (by decide) vp) (upd_go (by decide) vd) (upd_go (by decide) vw) ext hw) ?_ (fun _ _ _ h => h))
    rintro ⟨f, ρ₁⟩ σ₁ hb3
    refine box fun GZ kZ => ?_
    obtain ⟨h1, h2, h3, h4, h5⟩ := hb3
    refine kZ ?_
    clear kZ GZ
    dsimp only at h1 h2
    subst h1
    have g : ∀ y, y ≠ "some" → y ≠ "k" → ρ₁ y = ρ y := fun y a c => (h2 y a).trans (upd_skip c)
    refine ⟨rfl, wp_mono (w_loop E hwr m (n + 1) ρ₁ σ₁ (by lia) ((g _ (by decide) (by decide)).trans vp) ((g _ (by decide) (by decide)).trans vd) ((g _ (by decide) (by decide)).trans vw) h3 h4) ?_ (fun _ _ _ h => h)⟩
    rintro r σ' hb4
    refine box fun GZ kZ => ?_
    obtain ⟨q1, q2, q3, q4, q5⟩ := hb4
    refine kZ ?_
    clear kZ GZ
    exact ⟨q1, fun y a c => (q2 y a c).trans (g y a c), q3, q4, fun x o hx h => q5 x o hx (h5 x o hx h)⟩
theorem b_loop {σ₀ : MH} {pr dr wr br : Nat} {rs : Nat → Nat} {ps : Nat → List Nat} {dd W : Nat → Nat} {lo hi : Int} (E : Env σ₀ pr dr rs ps dd) (hbr : σ₀.length ≤ br) (hne : wr ≠ br) :
    ∀ (m k : Nat) (ρ : MEnv) (σ : MH), k + m = 9 → ρ "parts" = some (.ref pr) → ρ "deeds" = some (.ref dr) → ρ "worths" = some (.ref wr) → ρ "bounds" = some (.ref br) → (∃ ext, σ = σ₀ ++ ext) →
      σ[wr]? = some (.list (natL ((List.range 9).map W))) → BndAt σ br (bDown ps dd W lo hi k) →
      Wp (forGo (.range 0 1 9) "k" (sFor "j" (rList (eIdx (eVar "parts") (eVar "k"))) bBody) ((List.range' k m).map fun (n : Nat) => .int (n : Int)) ρ σ) (fun r σ' => r.1 = .next ∧ (∀ y, y ≠ "elder" → y ≠ "j" → y ≠ "k" → r.2 y = ρ y) ∧ (∃ ext, σ' = σ₀ ++ ext) ∧ BndAt σ' br (bOf ps dd W lo hi) ∧ σ'[wr]? = some (.list (natL ((List.range 9).map W)))) noX
  | 0, k, ρ, σ, h, vp, vd, vw, vb, ext, hw, hb => by
    have : k = 9 := by lia
    subst this
    exact ⟨rfl, fun _ _ _ _ => rfl, ext, hb, hw⟩
  | m + 1, k, ρ, σ, h, vp, vd, vw, vb, ext, hw, hb => by
    have hk : k < 9 := by lia
    rw [List.range'_succ, List.map_cons]
    have hP := partsRs_ext E.P ext
    refine wp_goCons (wp_for (wp_eq (run_rList (run_part hP hk (run_var (upd_go (by decide) vp)) (run_var upd_eq)) (hP.2 k hk)) ?_))
    refine wp_mono (b_inner (W := W) (ρ := upd ρ "k" (.int (k : Int))) E hk hbr hne (bDown ps dd W lo hi k) (ps k) [] (σ := σ) rfl upd_eq (upd_go (by decide) vp) (upd_go (by decide) vd) (upd_go (by decide) vw) (upd_go (by decide) vb) ext hw ?_) ?_ (fun _ _ _ h => h)
    · have : (fun j => if j ∈ ([] : List Nat) then bNext ps dd W (bDown ps dd W lo hi k) k j else bDown ps dd W lo hi k j) = bDown ps dd W lo hi k := by
        funext j; rw [if_neg (fun h => nomatch h)]
      rw [this]; exact hb
    rintro ⟨f, ρ₁⟩ σ₁ hb5
    refine box fun GZ kZ => ?_
    obtain ⟨h1, h2, h3, h4, h5⟩ := hb5
    refine kZ ?_
    clear kZ GZ
    dsimp only at h1 h2
    subst h1
    have g : ∀ y, y ≠ "elder" → y ≠ "j" → y ≠ "k" → ρ₁ y = ρ y := fun y a c d => (h2 y a c).trans (upd_skip d)
    refine ⟨rfl, wp_mono (b_loop (lo := lo) (hi := hi) E hbr hne m (k + 1) ρ₁ σ₁ (by lia) ((g _ (by decide) (by decide) (by decide)).trans vp) ((g _ (by decide) (by decide) (by decide)).trans vd) ((g _ (by decide) (by decide) (by decide)).trans vw) ((g _ (by decide) (by decide) (by decide)).trans vb) h3 h5 h4) ?_ (fun _ _ _ h => h)⟩
    rintro r σ' hb6
    refine box fun GZ kZ => ?_
    obtain ⟨q1, q2, q3⟩ := hb6
    refine kZ ?_
    clear kZ GZ
    exact ⟨q1, fun y a c d => (q2 y a c d).trans (g y a c d), q3⟩
theorem maxN_mem : ∀ (l : List Nat) (x : Nat), maxN x l ∈ x :: l
  | [], x => List.mem_singleton.mpr rfl
  | y :: l, x => by
    unfold maxN
    have := maxN_mem l (if y > x then y else x)
    rcases List.mem_cons.mp this with h | h
    · rw [h]; split
      · exact List.mem_cons_of_mem _ (List.mem_cons_self ..)
      · exact List.mem_cons_self ..
    · exact List.mem_cons_of_mem _ (List.mem_cons_of_mem _ h)
theorem minN_mem : ∀ (l : List Nat) (x : Nat), minN x l ∈ x :: l
  | [], x => List.mem_singleton.mpr rfl
  | y :: l, x => by
    unfold minN
    have := minN_mem l (if y < x then y else x)
    rcases List.mem_cons.mp this with h | h
    · rw [h]; split
      · exact List.mem_cons_of_mem _ (List.mem_cons_self ..)
      · exact List.mem_cons_self ..
    · exact List.mem_cons_of_mem _ (List.mem_cons_of_mem _ h)
theorem w_mem {ps : Nat → List Nat} {dd pt : Nat → Nat} (hT : Tree ps) {k : Nat} (hk : k < 9) (h : ps k ≠ []) : ∃ j, j ∈ ps k ∧ wOf ps dd pt j = wOf ps dd pt k := by
  have e := wOf_eq (dd := dd) (pt := pt) hT hk
  unfold wStep at e
  cases hp : ps k with
  | nil => exact absurd hp h
  | cons x r =>
    rw [hp] at e
    dsimp only at e
    have hm : wOf ps dd pt k ∈ (x :: r).map (wOf ps dd pt) := by
      rw [e, List.map_cons]
      split
      · exact maxN_mem _ _
      · exact minN_mem _ _
    refine box fun GZ kZ => ?_
    obtain ⟨j, h1, h2⟩ := List.mem_map.mp hm
    refine kZ ?_
    clear kZ GZ
    exact ⟨j, h1, h2⟩
theorem p_next {ps : Nat → List Nat} {dd pt : Nat → Nat} (hT : Tree ps) {k : Nat} (hk : k < 9) (h : ps k ≠ []) : ∃ j, (ps k).find? (fun j => wOf ps dd pt j == wOf ps dd pt k) = some j ∧ j ∈ ps k ∧ wOf ps dd pt j = wOf ps dd pt k ∧ pOf ps (wOf ps dd pt) k = pOf ps (wOf ps dd pt) j := by
  refine box fun GZ kZ => ?_
  obtain ⟨j, h1, h2⟩ := w_mem (dd := dd) (pt := pt) hT hk h
  refine kZ ?_
  clear kZ GZ
  cases e : (ps k).find? (fun j => wOf ps dd pt j == wOf ps dd pt k) with
  | none => exact absurd (beq_iff_eq.mpr h2) (List.find?_eq_none.mp e j h1)
  | some i =>
    refine ⟨i, rfl, List.mem_of_find?_eq_some e, ?_, ?_⟩
    · have := List.find?_some e
      exact eq_of_beq this
    · rw [pOf_eq hT hk]; unfold pStep; rw [e]
theorem p_leaf {ps : Nat → List Nat} {W : Nat → Nat} (hT : Tree ps) {k : Nat} (hk : k < 9) (h : ps k = []) : pOf ps W k = k := by
  rw [pOf_eq hT hk]; unfold pStep; rw [h]; rfl
noncomputable def plC : TD := tOf (eCmp .ne (eIdx (eVar "parts") (eVar "place")) (eList lNil))
noncomputable def plB : SD := sAssign "place" (eIdx (eComp (eVar "j") "j" ["worths"] (rList (eIdx (eVar "parts") (eVar "place"))) (tOf (eCmp .eq (eIdx (eVar "worths") (eVar "j")) (eIdx (eVar "worths") (eVal (.int 0)))))) (eVal (.int 0)))
theorem run_filter {t : TD} {fv : List String} {a b : ED} {pr k : Nat} {rs : Nat → Nat} {ps : Nat → List Nat} {ρ : MEnv} {σ : MH} (p : Nat → Bool) (hP : PartsRs σ pr rs ps) (hk : k < 9) (hsz : (ps k).length ≤ 9)
    (ha : a ρ σ = .ok (.ref pr) σ) (hb : b ρ σ = .ok (.int (k : Int)) σ) (ht : ∀ j ∈ ps k, t (upd (seen ρ fv) "j" (.int (j : Int))) σ = .ok (p j) σ) :
    eComp (eVar "j") "j" fv (rList (eIdx a b)) t ρ σ = .ok (.ref σ.length) (σ ++ [.list (natL ((ps k).filter p))]) := by
  have hsrc : rList (eIdx a b) ρ σ = .ok (.list (rs k) (natL (ps k))) σ := run_rList (run_part hP hk ha hb) (hP.2 k hk)
  have key := run_comp (e := eVar "j") (x := "j") (fv := fv) (t := t) (ρ := ρ) (σ := σ) (optN fun j => if p j = true then some j else none) hsrc (by show (natL (ps k)).length ≤ 1000; rw [natL_len]; lia) (by show decide _ = true; rw [hP.2 k hk]; exact decide_eq_true rfl) ?_
  · rw [key]
    show R.ok _ (σ ++ [.list ((natL (ps k)).filterMap _)]) = _
    rw [filterMap_natL, filterMap_ite]
  · intro v hv
    refine box fun GZ kZ => ?_
    obtain ⟨j, hj, rfl⟩ := mem_natL hv
    refine kZ ?_
    clear kZ GZ
    refine wp_eq (ht j hj) ⟨rfl, ?_⟩
    have ho : optN (fun j => if p j = true then some j else none) (.int (j : Int)) = (if p j = true then some j else none).map fun (k : Nat) => MV.int (k : Int) := by
      show ((fun j => if p j = true then some j else none) ((j : Int).toNat)).map _ = _
      rw [Int.toNat_natCast]
    split
    · rename_i h
      rw [if_pos h] at ho
      exact wp_var upd_eq ⟨rfl, ho⟩
    · rename_i h
      rw [if_neg h] at ho
      exact ho
theorem filter_find {p : Nat → Bool} : ∀ {l : List Nat} {j : Nat}, l.find? p = some j → (l.filter p)[0]? = some j
  | [], j, h => nomatch h
  | a :: l, j, h => by
    rw [List.find?_cons] at h
    rw [List.filter_cons]
    cases e : p a with
    | true => rw [e] at h; dsimp only at h; rw [if_pos rfl]; cases h; rfl
    | false => rw [e] at h; dsimp only at h; rw [if_neg (by decide)]; exact filter_find h
theorem pl_loop {σ₀ : MH} {pr dr wr : Nat} {rs : Nat → Nat} {ps : Nat → List Nat} {dd pt : Nat → Nat} (E : Env σ₀ pr dr rs ps dd) :
    ∀ (f p : Nat) (ρ : MEnv) (σ : MH), p < 9 → 9 - p < f → wOf ps dd pt p = wOf ps dd pt 0 → pOf ps (wOf ps dd pt) p = pOf ps (wOf ps dd pt) 0 → ρ "parts" = some (.ref pr) → ρ "worths" = some (.ref wr) → ρ "place" = some (.int (p : Int)) → (∃ ext, σ = σ₀ ++ ext) → σ[wr]? = some (.list (natL ((List.range 9).map (wOf ps dd pt)))) →
      Wp (whileGo plC plB f ρ σ) (fun r σ' => r.1 = .next ∧ r.2 "place" = some (.int (pOf ps (wOf ps dd pt) 0 : Nat)) ∧ (∀ y, y ≠ "place" → r.2 y = ρ y) ∧ ∃ ext, σ' = σ ++ ext) noX
  | 0, p, ρ, σ, hp, hf, _, _, vp, vw, vl, ext, hw => absurd hf (Nat.not_lt_zero _)
  | f + 1, p, ρ, σ, hp, hf, hW, hpl, vp, vw, vl, ext, hw => by
    have hP := partsRs_ext E.P ext
    refine wp_turn (wp_eq (run_filled (run_part hP hp (run_var vp) (run_var vl)) (hP.2 p hp)) ?_)
    cases e : ps p with
    | nil =>
      refine ⟨rfl, ?_, fun _ _ => rfl, _, rfl⟩
      rw [← hpl, p_leaf E.T hp e]; exact vl
    | cons a l =>
      refine (show if (true : Bool) = true then _ else _ from ?_)
      rw [if_pos rfl]
      refine box fun GZ kZ => ?_
      obtain ⟨j, j1, j2, j3, j4⟩ := p_next (dd := dd) (pt := pt) E.T hp (by rw [e]; exact fun h => nomatch h)
      refine kZ ?_
      clear kZ GZ
      have hj := E.T.up p j j2
      have hP1 := partsRs_app (l := [MO.list []]) hP
      have hw1 := get_old (l := [MO.list []]) hw
      have hcomp := run_filter (t := tOf (eCmp .eq (eIdx (eVar "worths") (eVar "j")) (eIdx (eVar "worths") (eVal (.int 0))))) (fv := ["worths"]) (fun j => wOf ps dd pt j == wOf ps dd pt p) hP1 hp (E.sz p) (run_var vp) (run_var vl) (fun j hj => by
        have e1 : upd (seen ρ ["worths"]) "j" (.int (j : Int)) "worths" = some (.ref wr) := upd_go (by decide) ((seen_skip (by decide +kernel)).trans vw)
        unfold tOf eCmp
        unfold eBin
        rw [run_idx (k := j) (run_var e1) (run_var upd_eq) hw1 (by rw [natL_len, range_len]; decide) (natL_range_get (E.T.up p j hj).2), R.bind_ok, run_idx (k := 0) (b := eVal (.int 0)) (run_var e1) rfl hw1 (by rw [natL_len, range_len]; decide) (natL_range_get (by decide)), R.bind_ok]
        show R.ok (((wOf ps dd pt j : Nat) : Int) == ((wOf ps dd pt 0 : Nat) : Int)) _ = _
        congr 1
        rw [Bool.eq_iff_iff, beq_iff_eq, beq_iff_eq, hW]; exact Int.ofNat_inj)
      have h0 := filter_find j1
      refine wp_assign (wp_idx (wp_bin (wp_eq hcomp (wp_val ?_))))
      have hfl : (natL ((ps p).filter fun j => wOf ps dd pt j == wOf ps dd pt p)).length ≤ 9 := by rw [natL_len]; exact Nat.le_trans (List.length_filter_le ..) (E.sz p)
      have hv : (natL ((ps p).filter fun j => wOf ps dd pt j == wOf ps dd pt p))[0]? = some (.int (j : Int)) := by unfold natL; rw [List.getElem?_map, h0]; rfl
      refine wp_getL (p := 0) get_last ?_ hv ?_
      · exact place_nat (p := 0) (List.getElem?_eq_some_iff.mp hv).1 (Nat.le_trans hfl (by decide))
      dsimp only
      refine wp_mono (pl_loop E f j (upd ρ "place" (.int (j : Int))) _ hj.2 (Nat.lt_of_lt_of_le (Nat.sub_lt_sub_left (Nat.lt_trans hj.1 hj.2) hj.1) (Nat.le_of_lt_succ hf)) (j3.trans hW) (j4.symm.trans hpl) (upd_go (by decide) vp) (upd_go (by decide) vw) upd_eq (ext_app (ext_app ext)) (get_old hw1)) ?_ (fun _ _ _ h => h)
      rintro r σ' hb1
      refine box fun GZ kZ => ?_
      obtain ⟨q1, q2, q3, ⟨e4, q4⟩⟩ := hb1
      refine kZ ?_
      clear kZ GZ
      exact ⟨q1, q2, fun y hy => (q3 y hy).trans (upd_skip hy), _, by rw [q4, List.append_assoc, List.append_assoc]⟩
noncomputable def readL (ps : Nat → List Nat) (b : Nat → Int × Int) : List Nat := (List.range 9).filter fun k => (ps k).isEmpty && decide ((b k).1 < (b k).2)
theorem run_leaves {pr br : Nat} {rs : Nat → Nat} {ps : Nat → List Nat} {b : Nat → Int × Int} {ρ : MEnv} {σ : MH} (hP : PartsRs σ pr rs ps) (hb : BndAt σ br b) (vp : ρ "parts" = some (.ref pr)) (vb : ρ "bounds" = some (.ref br)) :
    ∃ ext, eComp (eVar "k") "k" ["parts", "bounds"] (rRange1 (eVal (.int 9))) (tAnd (tOf (eCmp .eq (eIdx (eVar "parts") (eVar "k")) (eList lNil))) (tOf (eCmp .lt (eIdx (eIdx (eVar "bounds") (eVar "k")) (eVal (.int 0))) (eIdx (eIdx (eVar "bounds") (eVar "k")) (eVal (.int 1)))))) ρ σ =
      .ok (.ref (σ ++ ext).length) (σ ++ (ext ++ [.list (natL (readL ps b))])) := by
  have key := run_compX (e := eVar "k") (x := "k") (fv := ["parts", "bounds"]) (src := rRange1 (eVal (.int 9))) (t := tAnd (tOf (eCmp .eq (eIdx (eVar "parts") (eVar "k")) (eList lNil))) (tOf (eCmp .lt (eIdx (eIdx (eVar "bounds") (eVar "k")) (eVal (.int 0))) (eIdx (eIdx (eVar "bounds") (eVar "k")) (eVal (.int 1)))))) (ρ := ρ) (σ := σ) (r := .range 0 1 9)
    (optN fun k => if ((ps k).isEmpty && decide ((b k).1 < (b k).2)) = true then some k else none) (run_range1 (n := 9) rfl (by decide)) (by decide) (fun _ => rfl) ?_
  · obtain ⟨ext, he⟩ := key
    refine ⟨ext, ?_⟩
    rw [he, items0, filterMap_natL, filterMap_ite]; rfl
  · intro v hv ext
    rw [items0] at hv
    refine box fun GZ kZ => ?_
    obtain ⟨k, hk, rfl⟩ := mem_natL hv
    refine kZ ?_
    clear kZ GZ
    have hk := List.mem_range.mp hk
    have ho : optN (fun k => if ((ps k).isEmpty && decide ((b k).1 < (b k).2)) = true then some k else none) (.int (k : Int)) = (if ((ps k).isEmpty && decide ((b k).1 < (b k).2)) = true then some k else none).map fun (k : Nat) => MV.int (k : Int) := by
      show ((fun k => if ((ps k).isEmpty && decide ((b k).1 < (b k).2)) = true then some k else none) ((k : Int).toNat)).map _ = _
      rw [Int.toNat_natCast]
    have hP' := partsRs_app (l := ext) hP
    have n1 : upd (seen ρ ["parts", "bounds"]) "k" (.int (k : Int)) "parts" = some (.ref pr) := upd_go (by decide) ((seen_skip (by decide +kernel)).trans vp)
    have n2 : upd (seen ρ ["parts", "bounds"]) "k" (.int (k : Int)) "bounds" = some (.ref br) := upd_go (by decide) ((seen_skip (by decide +kernel)).trans vb)
    refine wp_tAnd (wp_eq (run_empty (run_part hP' hk (run_var n1) (run_var upd_eq)) (hP'.2 k hk)) ?_)
    by_cases h1 : (ps k).isEmpty = true
    · rw [if_pos h1]
      obtain ⟨b1, b2⟩ := run_bnd (bndAt_app (l := [MO.list []]) (bndAt_app (l := ext) hb)) hk (run_var n2) (run_var (x := "k") upd_eq)
      refine wp_tOf (wp_cmp (wp_bin (wp_eq b1 (wp_eq b2 ?_))))
      refine wp_eq (a := .bool (decide ((b k).1 < (b k).2))) rfl ⟨_, rfl, ext ++ [MO.list []], List.append_assoc _ _ _, ?_⟩
      rw [h1, Bool.true_and] at ho
      by_cases h2 : (b k).1 < (b k).2
      · rw [decide_eq_true h2] at ho
        rw [decide_eq_true h2, if_pos rfl]
        exact wp_var upd_eq ⟨⟨ext ++ [MO.list []], List.append_assoc _ _ _⟩, ho⟩
      · rw [decide_eq_false h2] at ho
        rw [decide_eq_false h2, if_neg (by decide)]
        exact ho
    · rw [if_neg h1]
      have h1' : (ps k).isEmpty = false := by cases h : (ps k).isEmpty; rfl; exact absurd h h1
      rw [h1', Bool.false_and] at ho
      exact ⟨ext ++ [MO.list []], List.append_assoc _ _ _, ho⟩
noncomputable def clipI (w lo hi : Int) : Int := if hi < (if lo > w then lo else w) then hi else (if lo > w then lo else w)
theorem clip_up (lo hi v : Int) : clipI v lo hi = min hi (max lo v) := by
  unfold clipI
  have h1 : (if lo > v then lo else v) = max lo v := by
    split
    · next h => rw [Int.max_eq_left (Int.le_of_lt h)]
    · next h => rw [Int.max_eq_right (Int.not_lt.mp h)]
  rw [h1]
  split
  · next h => rw [Int.min_eq_left (Int.le_of_lt h)]
  · next h => rw [Int.min_eq_right (Int.not_lt.mp h)]
theorem clip_dn {lo hi v : Int} (h : lo ≤ hi) : clipI v lo hi = max lo (min hi v) := by
  rw [clip_up]
  rcases Int.le_total v lo with h1 | h1
  · rw [Int.max_eq_left h1, Int.min_eq_right h, Int.min_eq_right (Int.le_trans h1 h), Int.max_eq_left h1]
  · rw [Int.max_eq_right h1, Int.max_eq_right (Int.le_min.mpr ⟨h, h1⟩)]
theorem min_in {hi M : Int} (h : min hi M < hi) : min hi M = M := Int.min_eq_right (Int.le_of_lt (Int.not_le.mp fun h' => Int.lt_irrefl hi (lt_of_eq_of_lt (Int.min_eq_left h').symm h)))
theorem max_in {lo M : Int} (h : lo < max lo M) : max lo M = M := Int.max_eq_right (Int.le_of_lt (Int.not_le.mp fun h' => Int.lt_irrefl lo (lt_of_lt_of_eq h (Int.max_eq_left h'))))
noncomputable def placeV (ps : Nat → List Nat) (W : Nat → Nat) (lo hi : Int) (k : Nat) : MV := if lo < (W k : Int) ∧ (W k : Int) < hi then .int ((pOf ps W k : Nat) : Int) else .none
namespace hkp200
noncomputable abbrev hS (σ₀ : MH) (pr : Nat) (dr : Nat) (qr : Nat) (rs : Nat → Nat) (ps : Nat → List Nat) (dd : Nat → Nat) (pt : Nat → Nat) (lo : Int) (hi : Int) : Prop := ∀ (E : Env σ₀ pr dr rs ps dd) (hq : σ₀[qr]? = some (.list (natL ((List.range 9).map pt)))), ∃ ext t d r, dueF [.ref pr, .ref dr, .ref qr, .int lo, .int hi] σ₀ = .ok (.ref t) (σ₀ ++ ext) ∧ (σ₀ ++ ext)[t]? = some (.tup [.ref d, .ref r]) ∧ (σ₀ ++ ext)[d]? = some (.tup [.int (clipI (wOf ps dd pt 0 : Nat) lo hi), placeV ps (wOf ps dd pt) lo hi 0]) ∧
      (σ₀ ++ ext)[r]? = some (.list (natL (readL ps (bOf ps dd (wOf ps dd pt) lo hi))))
noncomputable abbrev hP := fun p : MH × Nat × Nat × Nat × (Nat → Nat) × (Nat → List Nat) × (Nat → Nat) × (Nat → Nat) × Int × Int => hS p.1 p.2.1 p.2.2.1 p.2.2.2.1 p.2.2.2.2.1 p.2.2.2.2.2.1 p.2.2.2.2.2.2.1 p.2.2.2.2.2.2.2.1 p.2.2.2.2.2.2.2.2.1 p.2.2.2.2.2.2.2.2.2
noncomputable def hW := ce (default, default, default, default, default, default, default, default, default, default) hP
noncomputable def σ₀ : MH := hW.1
noncomputable def pr : Nat := hW.2.1
noncomputable def dr : Nat := hW.2.2.1
noncomputable def qr : Nat := hW.2.2.2.1
noncomputable def rs : Nat → Nat := hW.2.2.2.2.1
noncomputable def ps : Nat → List Nat := hW.2.2.2.2.2.1
noncomputable def dd : Nat → Nat := hW.2.2.2.2.2.2.1
noncomputable def pt : Nat → Nat := hW.2.2.2.2.2.2.2.1
noncomputable def lo : Int := hW.2.2.2.2.2.2.2.2.1
noncomputable def hi : Int := hW.2.2.2.2.2.2.2.2.2
theorem hT : hS σ₀ pr dr qr rs ps dd pt lo hi := by
  intro E hq
  suffices h : Wp (defCall ["parts", "deeds", "ports", "low", "high"] dueB [.ref pr, .ref dr, .ref qr, .int lo, .int hi] σ₀) (fun v σ' => ∃ t d r, v = .ref t ∧ (∃ ext, σ' = σ₀ ++ ext) ∧ σ'[t]? = some (.tup [.ref d, .ref r]) ∧ σ'[d]? = some (.tup [.int (clipI (wOf ps dd pt 0 : Nat) lo hi), placeV ps (wOf ps dd pt) lo hi 0]) ∧ σ'[r]? = some (.list (natL (readL ps (bOf ps dd (wOf ps dd pt) lo hi))))) noX by
    refine box fun GZ kZ => ?_
    obtain ⟨v, σ', e, t, d, r, rfl, ⟨ext, rfl⟩, h1, h2, h3⟩ := wp_out h
    refine kZ ?_
    clear kZ GZ
    exact ⟨ext, t, d, r, by unfold dueF noExc; rw [e], h1, h2, h3⟩
  refine boxQ fun G0 k0 => ?_
  refine wp_def rfl ?_
  unfold dueB
  dsimp only [updAll]
  have hql : ((natL ((List.range 9).map pt))).length ≤ maxLen := by rw [natL_len, range_len]; decide
  refine wp_seq (wp_pair (wp_lcons (wp_un (wp_var (by walk_at "pn") (wp_listL hq hql (wp_lcons (wp_mono (run_bcomp (lo := lo) (hi := hi) (by walk_at "pn") (by walk_at "pn")) ?_ (fun _ _ _ h => h))))))))
  rintro v σ hb1
  refine box fun GZ kZ => ?_
  obtain ⟨br, rfl, hbr, ⟨ext, rfl⟩, hb⟩ := hb1
  refine kZ ?_
  clear kZ GZ
  refine wp_lnil ⟨rfl, ?_⟩
  dsimp only [updAll]
  have hw : (σ₀ ++ [MO.list (natL ((List.range 9).map pt))] ++ ext)[σ₀.length]? = some (.list (natL ((List.range 9).map (wUp ps dd pt 0)))) := get_old get_last
  have hext : ∃ e, σ₀ ++ [MO.list (natL ((List.range 9).map pt))] ++ ext = σ₀ ++ e := ⟨_, List.append_assoc _ _ _⟩
  rw [List.length_append] at hbr
  have hbr' : σ₀.length + 1 ≤ br := hbr
  generalize σ₀ ++ [MO.list (natL ((List.range 9).map pt))] ++ ext = σ at *
  refine wp_seq (wp_for (wp_eq (a := .range 8 (-1) 9) (σ := σ) rfl ?_))
  refine wp_mono (w_loop (pt := pt) (ρ := _) E (Nat.le_refl _) 9 0 (σ := σ) rfl (by walk_at "pn") (by walk_at "pn") (by walk_at "pn") hext hw) ?_ (fun _ _ _ h => h)
  rintro ⟨f, ρ⟩ σ₁ hb2
  refine box fun GZ kZ => ?_
  obtain ⟨h1, h2, h3, h4, h5⟩ := hb2
  refine kZ ?_
  clear kZ GZ
  dsimp only at h1 h2
  subst h1
  have v1 : ρ "parts" = some (.ref pr) := (h2 _ (by decide) (by decide)).trans (by walk_at "pn")
  have v2 : ρ "deeds" = some (.ref dr) := (h2 _ (by decide) (by decide)).trans (by walk_at "pn")
  have v3 : ρ "worths" = some (.ref σ₀.length) := (h2 _ (by decide) (by decide)).trans (by walk_at "pn")
  have v4 : ρ "bounds" = some (.ref br) := (h2 _ (by decide) (by decide)).trans (by walk_at "pn")
  have v5 : ρ "low" = some (.int lo) := (h2 _ (by decide) (by decide)).trans (by walk_at "pn")
  have v6 : ρ "high" = some (.int hi) := (h2 _ (by decide) (by decide)).trans (by walk_at "pn")
  have hb1 : BndAt σ₁ br (bDown ps dd (wOf ps dd pt) lo hi 0) := by
    refine box fun GZ kZ => ?_
    obtain ⟨ts, t1, t2⟩ := hb
    refine kZ ?_
    clear kZ GZ
    refine ⟨ts, h5 _ _ (by lia) t1, fun i hi => h5 _ _ ?_ (t2 i hi)⟩
    intro e
    have := t2 i hi
    rw [e, hw] at this; cases this
  clear h5 hw hb h2 hext
  dsimp only
  refine wp_seq (wp_for (wp_eq (run_range1 (n := 9) rfl (by decide)) ?_))
  refine wp_mono (b_loop (W := wOf ps dd pt) (lo := lo) (hi := hi) (ρ := ρ) (σ := σ₁) E (by lia) (by lia) 9 0 rfl v1 v2 v3 v4 h3 h4 hb1) ?_ (fun _ _ _ h => h)
  rintro ⟨f, ρ₂⟩ σ₂ hb3
  refine box fun GZ kZ => ?_
  obtain ⟨h1, h2, h5, h6, h7⟩ := hb3
  refine kZ ?_
  clear kZ GZ
  dsimp only at h1 h2
  subst h1
  replace v1 := (h2 _ (by decide) (by decide) (by decide)).trans v1
  replace v3 := (h2 _ (by decide) (by decide) (by decide)).trans v3
  replace v4 := (h2 _ (by decide) (by decide) (by decide)).trans v4
  replace v5 := (h2 _ (by decide) (by decide) (by decide)).trans v5
  replace v6 := (h2 _ (by decide) (by decide) (by decide)).trans v6
  clear h2 h3 h4 hb1 v2
  dsimp only
  refine wp_seq (wp_assign (wp_val ?_))
  dsimp only
  have w0 : ∀ (ρ : MEnv) (τ : MH), ρ "worths" = some (.ref σ₀.length) → (∃ e, τ = σ₂ ++ e) → eIdx (eVar "worths") (eVal (.int 0)) ρ τ = .ok (.int ((wOf ps dd pt 0 : Nat) : Int)) τ := fun ρ τ hv he => by
    obtain ⟨e, rfl⟩ := he
    exact run_idx (k := 0) (run_var hv) rfl (get_old h7) (by rw [natL_len, range_len]; decide) (natL_range_get (by decide))
  have pl : ∀ Q : MF × MEnv → MH → Prop, (∀ ρ' σ', ρ' "place" = some (placeV ps (wOf ps dd pt) lo hi 0) → (∀ y, y ≠ "place" → ρ' y = ρ₂ y) → (∃ e, σ' = σ₂ ++ e) → Q (.next, ρ') σ') → Wp ((sIf (tChain (eVar "low") (eIdx (eVar "worths") (eVal (.int 0))) (eVar "high"))
      (sSeq (sAssign "place" (eVal (.int 0))) (sWhile plC plB)) sPass) (upd ρ₂ "place" .none) σ₂) Q noX := by
    intro Q hQ
    by_cases hc : lo < ((wOf ps dd pt 0 : Nat) : Int) ∧ ((wOf ps dd pt 0 : Nat) : Int) < hi
    · refine wp_sif (wp_eq (a := true) (σ := σ₂) ?_ ?_)
      · unfold tChain
        rw [run_var (upd_go (by decide) v5), R.bind_ok, w0 _ _ (upd_go (by decide) v3) ⟨[], (List.append_nil _).symm⟩, R.bind_ok]
        dsimp only
        rw [if_pos hc.1, run_var (upd_go (by decide) v6), R.bind_ok]
        dsimp only
        rw [decide_eq_true hc.2]
      · rw [if_pos rfl]
        refine wp_seq (wp_assign (wp_val ?_))
        dsimp only
        refine wp_while (wp_mono (pl_loop (dd := dd) (pt := pt) E 40 0 (upd (upd ρ₂ "place" .none) "place" (.int 0)) σ₂ (by decide) (by decide) rfl rfl (upd_go (by decide) (upd_go (by decide) v1)) (upd_go (by decide) (upd_go (by decide) v3)) upd_eq h5 h7) ?_ (fun _ _ _ h => h))
        rintro ⟨f, ρ'⟩ σ' hb4
        refine box fun GZ kZ => ?_
        obtain ⟨q1, q2, q3, q4⟩ := hb4
        refine kZ ?_
        clear kZ GZ
        dsimp only at q1 q2 q3
        subst q1
        refine hQ ρ' σ' ?_ (fun y hy => (q3 y hy).trans ((upd_skip hy).trans (upd_skip hy))) q4
        rw [q2]; unfold placeV; rw [if_pos hc]
    · refine wp_sif (wp_eq (a := false) (σ := σ₂) ?_ ?_)
      · unfold tChain
        rw [run_var (upd_go (by decide) v5), R.bind_ok, w0 _ _ (upd_go (by decide) v3) ⟨[], (List.append_nil _).symm⟩, R.bind_ok]
        dsimp only
        by_cases h1 : lo < ((wOf ps dd pt 0 : Nat) : Int)
        · rw [if_pos h1, run_var (upd_go (by decide) v6), R.bind_ok]
          dsimp only
          rw [decide_eq_false (fun h => hc ⟨h1, h⟩)]
        · rw [if_neg h1]
      · rw [if_neg (by decide)]
        refine hQ _ _ ?_ (fun y hy => upd_skip hy) ⟨[], (List.append_nil _).symm⟩
        unfold placeV
        rw [if_neg hc]; exact upd_eq
  refine wp_seq (pl _ ?_)
  rintro ρ₃ σ₃ u1 u2 ⟨e3, rfl⟩
  clear pl
  replace v1 := (u2 _ (by decide)).trans v1
  replace v3 := (u2 _ (by decide)).trans v3
  replace v4 := (u2 _ (by decide)).trans v4
  replace v5 := (u2 _ (by decide)).trans v5
  replace v6 := (u2 _ (by decide)).trans v6
  dsimp only
  obtain ⟨e4, hl⟩ := run_leaves (ρ := ρ₃) (partsRs_app (l := e3) (partsRs_ext E.P h5)) (bndAt_app (l := e3) h6) v1 v4
  refine wp_seq (wp_assign (wp_eq hl ?_))
  dsimp only
  generalize hRr : (σ₂ ++ e3 ++ e4).length = rr
  have g1 : (σ₂ ++ e3 ++ (e4 ++ [MO.list (natL (readL ps (bOf ps dd (wOf ps dd pt) lo hi)))]))[rr]? = some (.list (natL (readL ps (bOf ps dd (wOf ps dd pt) lo hi)))) := by
    rw [← List.append_assoc, ← hRr]; exact get_last
  have g2 : ∃ e, σ₂ ++ e3 ++ (e4 ++ [MO.list (natL (readL ps (bOf ps dd (wOf ps dd pt) lo hi)))]) = σ₂ ++ e := ⟨_, List.append_assoc _ _ _⟩
  have g3 : ∃ e, σ₂ ++ e3 ++ (e4 ++ [MO.list (natL (readL ps (bOf ps dd (wOf ps dd pt) lo hi)))]) = σ₀ ++ e := ext_app (ext_app h5)
  generalize σ₂ ++ e3 ++ (e4 ++ [MO.list (natL (readL ps (bOf ps dd (wOf ps dd pt) lo hi)))]) = τ at *
  have n1 : upd ρ₃ "read" (.ref rr) "read" = some (.ref rr) := upd_eq
  have n2 : upd ρ₃ "read" (.ref rr) "place" = some (placeV ps (wOf ps dd pt) lo hi 0) := upd_go (by decide) u1
  have n3 : upd ρ₃ "read" (.ref rr) "worths" = some (.ref σ₀.length) := upd_go (by decide) v3
  have n4 : upd ρ₃ "read" (.ref rr) "low" = some (.int lo) := upd_go (by decide) v5
  have n5 : upd ρ₃ "read" (.ref rr) "high" = some (.int hi) := upd_go (by decide) v6
  refine wp_ret (wp_tup (wp_lcons (wp_tup (wp_lcons (wp_bin (wp_bin (wp_eq (w0 _ _ n3 g2) (wp_var n4 ?_)))) ))))
  refine wp_eq rfl (wp_var n5 (wp_eq rfl (wp_lcons (wp_var n2 (wp_lnil ⟨by simp [maxLen], wp_lcons (wp_var n1 (wp_lnil ⟨by simp [maxLen], ?_⟩))⟩)))))
  exact k0 _ _ ⟨_, _, _, rfl, ext_app (ext_app g3), get_last, get_old get_last, get_old (get_old g1)⟩
end hkp200
theorem run_due : ∀ {σ₀ : MH} {pr : Nat} {dr : Nat} {qr : Nat} {rs : Nat → Nat} {ps : Nat → List Nat} {dd : Nat → Nat} {pt : Nat → Nat} {lo : Int} {hi : Int}, hkp200.hS σ₀ pr dr qr rs ps dd pt lo hi := @fun σ₀ pr dr qr rs ps dd pt lo hi => ce_all (P := hkp200.hP) (default, default, default, default, default, default, default, default, default, default) (@hkp200.hT) (σ₀, pr, dr, qr, rs, ps, dd, pt, lo, hi)
noncomputable def chainB (en : Nat → Nat) (stop : Nat) : Nat → List Nat → Bool
  | p, [] => p == stop
  | p, c :: r => c == p && decide (c < en c) && decide (c < stop) && chainB en stop (en c) r
structure Page (ps : Nat → List Nat) (en : Nat → Nat) : Prop where
  T : Tree ps
  C : ∀ k, k < 9 → chainB en (en k) (k + 1) (ps k) = true
theorem chain_cons {en : Nat → Nat} {stop p c : Nat} {r : List Nat} (h : chainB en stop p (c :: r) = true) : c = p ∧ c < en c ∧ c < stop ∧ chainB en stop (en c) r = true := by
  unfold chainB at h
  rw [Bool.and_eq_true, Bool.and_eq_true, Bool.and_eq_true] at h
  exact ⟨eq_of_beq h.1.1.1, of_decide_eq_true h.1.1.2, of_decide_eq_true h.1.2, h.2⟩
theorem chain_le {en : Nat → Nat} {stop : Nat} : ∀ (l : List Nat) (p : Nat), chainB en stop p l = true → p ≤ stop ∧ ∀ x ∈ l, p ≤ x
  | [], p, h => ⟨Nat.le_of_eq (eq_of_beq h), fun x hx => nomatch hx⟩
  | c :: r, p, h => by
    obtain ⟨h1, h2, h3, h4⟩ := chain_cons h
    obtain ⟨i1, i2⟩ := chain_le r (en c) h4
    have hp : p ≤ en c := Nat.le_trans (Nat.le_of_eq h1.symm) (Nat.le_of_lt h2)
    refine ⟨Nat.le_trans hp i1, fun x hx => ?_⟩
    rcases List.mem_cons.mp hx with e | hx
    · exact Nat.le_of_eq (h1.symm.trans e.symm)
    · exact Nat.le_trans hp (i2 x hx)
noncomputable def visR (V : Nat → Bool) (a b : Nat) : List Nat := (List.range' a (b - a)).filter V
theorem visR_split {V : Nat → Bool} {a m b : Nat} (h1 : a ≤ m) (h2 : m ≤ b) : visR V a b = visR V a m ++ visR V m b := by
  unfold visR
  rw [← List.filter_append]
  have : List.range' a (b - a) = List.range' a (m - a) ++ List.range' m (b - m) := by
    have := List.range'_append_1 (s := a) (m := m - a) (n := b - m)
    rw [Nat.add_sub_of_le h1, (Nat.add_comm ..).trans (Nat.sub_add_sub_cancel h2 h1)] at this
    exact this.symm
  rw [this]
theorem visR_nil {V : Nat → Bool} {a : Nat} : visR V a a = [] := by unfold visR; rw [Nat.sub_self]; rfl
theorem visR_one {V : Nat → Bool} {a : Nat} : visR V a (a + 1) = if V a = true then [a] else [] := by
  unfold visR; rw [Nat.add_sub_cancel_left]
  show List.filter V [a] = _
  rw [List.filter_cons]; rfl
theorem visR_mem {V : Nat → Bool} {a b x : Nat} (h : x ∈ visR V a b) : a ≤ x ∧ x < b ∧ V x = true := by
  unfold visR at h
  obtain ⟨h1, h2⟩ := List.mem_filter.mp h
  have := List.mem_range'_1.mp h1
  refine ⟨this.1, ?_, h2⟩
  rcases Nat.le_total a b with h | h
  · rw [Nat.add_sub_of_le h] at this; exact this.2
  · rw [Nat.sub_eq_zero_of_le h] at this; exact absurd this.2 (Nat.not_lt.mpr this.1)
noncomputable def opens (ps : Nat → List Nat) (b : Nat → Int × Int) (k : Nat) : Bool := (ps k).isEmpty && decide ((b k).1 < (b k).2)
theorem readL_vis {ps : Nat → List Nat} {b : Nat → Int × Int} : readL ps b = visR (opens ps b) 0 9 := by
  unfold readL visR
  rw [List.range_eq_range']; rfl
theorem maxI_app : ∀ (l : List Int) (m w : Int), maxI m (l ++ [w]) = if w > maxI m l then w else maxI m l
  | [], m, w => rfl
  | x :: r, m, w => maxI_app r _ w
theorem minI_app : ∀ (l : List Int) (m w : Int), minI m (l ++ [w]) = if w < minI m l then w else minI m l
  | [], m, w => rfl
  | x :: r, m, w => minI_app r _ w
theorem maxI_ge : ∀ (l : List Int) (m : Int), m ≤ maxI m l ∧ ∀ x ∈ l, x ≤ maxI m l
  | [], m => ⟨Int.le_refl _, fun x h => nomatch h⟩
  | y :: r, m => by
    unfold maxI
    obtain ⟨h1, h2⟩ := maxI_ge r (if y > m then y else m)
    have hm : m ≤ (if y > m then y else m) ∧ y ≤ (if y > m then y else m) := by
      split
      · next h => exact ⟨Int.le_of_lt h, Int.le_refl _⟩
      · next h => exact ⟨Int.le_refl _, Int.not_lt.mp h⟩
    refine ⟨Int.le_trans hm.1 h1, fun x hx => ?_⟩
    rcases List.mem_cons.mp hx with e | hx
    · rw [e]; exact Int.le_trans hm.2 h1
    · exact h2 x hx
theorem minI_le : ∀ (l : List Int) (m : Int), minI m l ≤ m ∧ ∀ x ∈ l, minI m l ≤ x
  | [], m => ⟨Int.le_refl _, fun x h => nomatch h⟩
  | y :: r, m => by
    unfold minI
    obtain ⟨h1, h2⟩ := minI_le r (if y < m then y else m)
    have hm : (if y < m then y else m) ≤ m ∧ (if y < m then y else m) ≤ y := by
      split
      · next h => exact ⟨Int.le_of_lt h, Int.le_refl _⟩
      · next h => exact ⟨Int.le_refl _, Int.not_lt.mp h⟩
    refine ⟨Int.le_trans h1 hm.1, fun x hx => ?_⟩
    rcases List.mem_cons.mp hx with e | hx
    · rw [e]; exact Int.le_trans h1 hm.2
    · exact h2 x hx
theorem maxI_mem : ∀ (l : List Int) (m : Int), maxI m l = m ∨ maxI m l ∈ l
  | [], m => .inl rfl
  | y :: r, m => by
    unfold maxI
    rcases maxI_mem r (if y > m then y else m) with h | h
    · rw [h]; split
      · exact .inr (List.mem_cons_self ..)
      · exact .inl rfl
    · exact .inr (List.mem_cons_of_mem _ h)
theorem minI_mem : ∀ (l : List Int) (m : Int), minI m l = m ∨ minI m l ∈ l
  | [], m => .inl rfl
  | y :: r, m => by
    unfold minI
    rcases minI_mem r (if y < m then y else m) with h | h
    · rw [h]; split
      · exact .inr (List.mem_cons_self ..)
      · exact .inl rfl
    · exact .inr (List.mem_cons_of_mem _ h)
section
variable (ps : Nat → List Nat) (W : Nat → Nat)
noncomputable def wI (l : List Nat) : List Int := l.map fun i => ((W i : Nat) : Int)
noncomputable def firstV (l : List Nat) (M : Int) : MV := match l.find? (fun j => ((W j : Nat) : Int) == M) with
  | some j => .int ((pOf ps W j : Nat) : Int)
  | none => .none
noncomputable def bestV (l : List Nat) (M lo hi : Int) : MV := if lo < M ∧ M < hi then firstV ps W l M else .none
theorem step_max {lo hi : Int} {l : List Nat} {c : Nat} (h : maxI lo (wI W l) < hi) :
    (if clipI (W c : Nat) (maxI lo (wI W l)) hi > maxI lo (wI W l) then clipI (W c : Nat) (maxI lo (wI W l)) hi else maxI lo (wI W l)) = min hi (maxI lo (wI W (l ++ [c]))) ∧
    (if clipI (W c : Nat) (maxI lo (wI W l)) hi > maxI lo (wI W l) then placeV ps W (maxI lo (wI W l)) hi c else bestV ps W l (maxI lo (wI W l)) lo hi) = bestV ps W (l ++ [c]) (maxI lo (wI W (l ++ [c]))) lo hi := by
  have e : wI W (l ++ [c]) = wI W l ++ [((W c : Nat) : Int)] := by unfold wI; rw [List.map_append]; rfl
  obtain ⟨g1, g2⟩ := maxI_ge (wI W l) lo
  have g3 := maxI_mem (wI W l) lo
  rw [e, maxI_app]
  generalize maxI lo (wI W l) = M at *
  by_cases hc : ((W c : Nat) : Int) > M
  · rw [if_pos hc]
    by_cases hh : ((W c : Nat) : Int) < hi
    · have hcl : clipI (W c : Nat) M hi = (W c : Nat) := by rw [clip_up, Int.max_eq_right (Int.le_of_lt hc), Int.min_eq_right (Int.le_of_lt hh)]
      rw [hcl, if_pos hc, if_pos hc]
      refine ⟨(Int.min_eq_right (Int.le_of_lt hh)).symm, ?_⟩
      unfold placeV bestV
      rw [if_pos ⟨hc, hh⟩, if_pos ⟨Int.lt_of_le_of_lt g1 hc, hh⟩]
      unfold firstV
      rw [List.find?_append, List.find?_eq_none.mpr, Option.none_or]
      · show _ = match List.find? (fun j => ((W j : Nat) : Int) == ((W c : Nat) : Int)) [c] with | some j => MV.int ((pOf ps W j : Nat) : Int) | none => .none
        rw [List.find?_cons, beq_self_eq_true]
      · intro x hx hb
        exact Int.not_le.mpr hc (Int.le_trans (Int.le_of_eq (eq_of_beq hb).symm) (g2 _ (List.mem_map.mpr ⟨x, hx, rfl⟩)))
    · have hm := Int.min_eq_left (Int.not_lt.mp hh)
      have hcl : clipI (W c : Nat) M hi = hi := by rw [clip_up, Int.max_eq_right (Int.le_of_lt hc), hm]
      rw [hcl, if_pos h, if_pos h]
      refine ⟨hm.symm, ?_⟩
      unfold placeV bestV
      rw [if_neg (fun h => hh h.2), if_neg (fun h => hh h.2)]
  · have hm := Int.min_eq_right (Int.le_of_lt h)
    have hcl : clipI (W c : Nat) M hi = M := by rw [clip_up, Int.max_eq_left (Int.not_lt.mp hc), hm]
    rw [hcl, if_neg hc, if_neg (Int.lt_irrefl _), if_neg (Int.lt_irrefl _)]
    refine ⟨hm.symm, ?_⟩
    unfold bestV
    by_cases hl : lo < M ∧ M < hi
    · rw [if_pos hl, if_pos hl]
      unfold firstV
      obtain ⟨x, hx, hxe⟩ := List.mem_map.mp (g3.resolve_left (Int.ne_of_gt hl.1))
      rw [List.find?_append]
      cases hf : l.find? (fun j => ((W j : Nat) : Int) == M) with
      | some j => rfl
      | none => exact absurd (beq_iff_eq.mpr hxe) (List.find?_eq_none.mp hf x hx)
    · rw [if_neg hl, if_neg hl]
theorem step_min {lo hi : Int} {l : List Nat} {c : Nat} (h : lo < minI hi (wI W l)) :
    (if clipI (W c : Nat) lo (minI hi (wI W l)) < minI hi (wI W l) then clipI (W c : Nat) lo (minI hi (wI W l)) else minI hi (wI W l)) = max lo (minI hi (wI W (l ++ [c]))) ∧
    (if clipI (W c : Nat) lo (minI hi (wI W l)) < minI hi (wI W l) then placeV ps W lo (minI hi (wI W l)) c else bestV ps W l (minI hi (wI W l)) lo hi) = bestV ps W (l ++ [c]) (minI hi (wI W (l ++ [c]))) lo hi := by
  have e : wI W (l ++ [c]) = wI W l ++ [((W c : Nat) : Int)] := by unfold wI; rw [List.map_append]; rfl
  obtain ⟨g1, g2⟩ := minI_le (wI W l) hi
  have g3 := minI_mem (wI W l) hi
  rw [e, minI_app]
  generalize minI hi (wI W l) = M at *
  by_cases hc : ((W c : Nat) : Int) < M
  · rw [if_pos hc]
    by_cases hh : lo < ((W c : Nat) : Int)
    · have hcl : clipI (W c : Nat) lo M = (W c : Nat) := by rw [clip_dn (Int.le_of_lt h), Int.min_eq_right (Int.le_of_lt hc), Int.max_eq_right (Int.le_of_lt hh)]
      rw [hcl, if_pos hc, if_pos hc]
      refine ⟨(Int.max_eq_right (Int.le_of_lt hh)).symm, ?_⟩
      unfold placeV bestV
      rw [if_pos ⟨hh, hc⟩, if_pos ⟨hh, Int.lt_of_lt_of_le hc g1⟩]
      unfold firstV
      rw [List.find?_append, List.find?_eq_none.mpr, Option.none_or]
      · show _ = match List.find? (fun j => ((W j : Nat) : Int) == ((W c : Nat) : Int)) [c] with | some j => MV.int ((pOf ps W j : Nat) : Int) | none => .none
        rw [List.find?_cons, beq_self_eq_true]
      · intro x hx hb
        exact Int.not_le.mpr hc (Int.le_trans (g2 _ (List.mem_map.mpr ⟨x, hx, rfl⟩)) (Int.le_of_eq (eq_of_beq hb)))
    · have hm := Int.max_eq_left (Int.not_lt.mp hh)
      have hcl : clipI (W c : Nat) lo M = lo := by rw [clip_dn (Int.le_of_lt h), Int.min_eq_right (Int.le_of_lt hc), hm]
      rw [hcl, if_pos h, if_pos h]
      refine ⟨hm.symm, ?_⟩
      unfold placeV bestV
      rw [if_neg (fun h => hh h.1), if_neg (fun h => hh h.1)]
  · have hm := Int.max_eq_right (Int.le_of_lt h)
    have hcl : clipI (W c : Nat) lo M = M := by rw [clip_dn (Int.le_of_lt h), Int.min_eq_left (Int.not_lt.mp hc), hm]
    rw [hcl, if_neg hc, if_neg (Int.lt_irrefl _), if_neg (Int.lt_irrefl _)]
    refine ⟨hm.symm, ?_⟩
    unfold bestV
    by_cases hl : lo < M ∧ M < hi
    · rw [if_pos hl, if_pos hl]
      unfold firstV
      obtain ⟨x, hx, hxe⟩ := List.mem_map.mp (g3.resolve_left (Int.ne_of_lt hl.2))
      rw [List.find?_append]
      cases hf : l.find? (fun j => ((W j : Nat) : Int) == M) with
      | some j => rfl
      | none => exact absurd (beq_iff_eq.mpr hxe) (List.find?_eq_none.mp hf x hx)
    · rw [if_neg hl, if_neg hl]
end
theorem maxN_ge : ∀ (l : List Nat) (m : Nat), ∀ x ∈ m :: l, x ≤ maxN m l
  | [], m, x, h => by rw [List.mem_singleton.mp h]; exact Nat.le_refl _
  | y :: r, m, x, h => by
    unfold maxN
    have h0 := maxN_ge r (if y > m then y else m) _ (List.mem_cons_self ..)
    have hm : m ≤ (if y > m then y else m) ∧ y ≤ (if y > m then y else m) := by
      split
      · next h => exact ⟨Nat.le_of_lt h, Nat.le_refl _⟩
      · next h => exact ⟨Nat.le_refl _, Nat.not_lt.mp h⟩
    rcases List.mem_cons.mp h with e | h
    · rw [e]; exact Nat.le_trans hm.1 h0
    · rcases List.mem_cons.mp h with e | h
      · rw [e]; exact Nat.le_trans hm.2 h0
      · exact maxN_ge r _ x (List.mem_cons_of_mem _ h)
theorem minN_le : ∀ (l : List Nat) (m : Nat), ∀ x ∈ m :: l, minN m l ≤ x
  | [], m, x, h => by rw [List.mem_singleton.mp h]; exact Nat.le_refl _
  | y :: r, m, x, h => by
    unfold minN
    have h0 := minN_le r (if y < m then y else m) _ (List.mem_cons_self ..)
    have hm : (if y < m then y else m) ≤ m ∧ (if y < m then y else m) ≤ y := by
      split
      · next h => exact ⟨Nat.le_of_lt h, Nat.le_refl _⟩
      · next h => exact ⟨Nat.le_refl _, Nat.not_lt.mp h⟩
    rcases List.mem_cons.mp h with e | h
    · rw [e]; exact Nat.le_trans h0 hm.1
    · rcases List.mem_cons.mp h with e | h
      · rw [e]; exact Nat.le_trans h0 hm.2
      · exact minN_le r _ x (List.mem_cons_of_mem _ h)
section
variable {ps : Nat → List Nat} {dd pt : Nat → Nat}
theorem w_most (hT : Tree ps) {k : Nat} (hk : k < 9) (hd : dd k = 1) : ∀ j ∈ ps k, wOf ps dd pt j ≤ wOf ps dd pt k := by
  intro j hj
  have e := wOf_eq (dd := dd) (pt := pt) hT hk
  unfold wStep at e
  cases hp : ps k with
  | nil => rw [hp] at hj; cases hj
  | cons x r =>
    rw [hp] at e hj
    dsimp only at e
    rw [if_pos hd] at e
    rw [e]
    refine maxN_ge _ _ _ ?_
    rw [← List.map_cons (f := wOf ps dd pt)]
    exact List.mem_map.mpr ⟨j, hj, rfl⟩
theorem w_least (hT : Tree ps) {k : Nat} (hk : k < 9) (hd : dd k ≠ 1) : ∀ j ∈ ps k, wOf ps dd pt k ≤ wOf ps dd pt j := by
  intro j hj
  have e := wOf_eq (dd := dd) (pt := pt) hT hk
  unfold wStep at e
  cases hp : ps k with
  | nil => rw [hp] at hj; cases hj
  | cons x r =>
    rw [hp] at e hj
    dsimp only at e
    rw [if_neg hd] at e
    rw [e]
    refine minN_le _ _ _ ?_
    rw [← List.map_cons (f := wOf ps dd pt)]
    exact List.mem_map.mpr ⟨j, hj, rfl⟩
theorem w_leaf (hT : Tree ps) {k : Nat} (hk : k < 9) (h : ps k = []) : wOf ps dd pt k = pt k := by
  rw [wOf_eq hT hk]; unfold wStep; rw [h]
theorem first_all (hT : Tree ps) {k : Nat} (hk : k < 9) (h : ps k ≠ []) : firstV ps (wOf ps dd pt) (ps k) (wOf ps dd pt k : Nat) = .int ((pOf ps (wOf ps dd pt) k : Nat) : Int) := by
  refine box fun GZ kZ => ?_
  obtain ⟨j, j1, j2, j3, j4⟩ := p_next (dd := dd) (pt := pt) hT hk h
  refine kZ ?_
  clear kZ GZ
  unfold firstV
  have : (fun j => ((wOf ps dd pt j : Nat) : Int) == ((wOf ps dd pt k : Nat) : Int)) = fun j => wOf ps dd pt j == wOf ps dd pt k := by
    funext i; rw [Bool.eq_iff_iff, beq_iff_eq, beq_iff_eq]; exact Int.ofNat_inj
  rw [this, j1]
  dsimp only
  rw [j4]
theorem up_is {lo M v : Int} (g1 : lo ≤ M) (hup : lo < M → M ≤ v) (hdn : v ≤ M) : M = max lo v := by
  rcases Int.lt_or_le lo M with h | h
  · rw [Int.max_eq_right (Int.le_trans g1 (hup h))]; exact Int.le_antisymm (hup h) hdn
  · rw [Int.max_eq_left (Int.le_trans hdn h)]; exact Int.le_antisymm h g1
theorem dn_is {hi M v : Int} (g1 : M ≤ hi) (hup : M < hi → v ≤ M) (hdn : M ≤ v) : M = min hi v := by
  rcases Int.lt_or_le M hi with h | h
  · rw [Int.min_eq_right (Int.le_trans (hup h) g1)]; exact Int.le_antisymm hdn (hup h)
  · rw [Int.min_eq_left (Int.le_trans h hdn)]; exact Int.le_antisymm g1 h
theorem up_in {lo hi v : Int} (h : lo < max lo v ∧ max lo v < hi) : lo < v ∧ v < hi :=
  ⟨Int.not_le.mp fun h' => Int.lt_irrefl lo (lt_of_lt_of_eq h.1 (Int.max_eq_left h')), Int.lt_of_le_of_lt (Int.le_max_right ..) h.2⟩
theorem dn_in {lo hi v : Int} (h : lo < min hi v ∧ min hi v < hi) : lo < v ∧ v < hi :=
  ⟨Int.lt_of_lt_of_le h.1 (Int.min_le_right ..), Int.not_le.mp fun h' => Int.lt_irrefl hi (lt_of_eq_of_lt (Int.min_eq_left h').symm h.2)⟩
theorem fin_max (hT : Tree ps) {k : Nat} (hk : k < 9) (hd : dd k = 1) (hne : ps k ≠ []) {lo hi : Int} {l r : List Nat} (e : ps k = l ++ r) (h : r = [] ∨ hi ≤ maxI lo (wI (wOf ps dd pt) l)) (hlh : lo < hi) :
    min hi (maxI lo (wI (wOf ps dd pt) l)) = clipI (wOf ps dd pt k : Nat) lo hi ∧ bestV ps (wOf ps dd pt) l (maxI lo (wI (wOf ps dd pt) l)) lo hi = placeV ps (wOf ps dd pt) lo hi k := by
  have hup : lo < maxI lo (wI (wOf ps dd pt) l) → maxI lo (wI (wOf ps dd pt) l) ≤ ((wOf ps dd pt k : Nat) : Int) := fun h => by
    have := (maxI_mem (wI (wOf ps dd pt) l) lo).resolve_left (Int.ne_of_gt h)
    generalize maxI lo (wI (wOf ps dd pt) l) = M at this
    obtain ⟨x, hx, hxe⟩ := List.mem_map.mp this
    exact hxe ▸ Int.ofNat_le.mpr (w_most (pt := pt) hT hk hd x (by rw [e]; exact List.mem_append_left _ hx))
  rw [clip_up]
  unfold bestV placeV
  rcases h with h | h
  · have hM : maxI lo (wI (wOf ps dd pt) l) = max lo (wOf ps dd pt k : Nat) := by
      refine up_is (maxI_ge _ _).1 hup ?_
      obtain ⟨j, j1, j2⟩ := w_mem (dd := dd) (pt := pt) hT hk hne
      rw [← j2]
      exact (maxI_ge _ _).2 _ (List.mem_map.mpr ⟨j, by rw [e, h, List.append_nil] at j1; exact j1, rfl⟩)
    rw [hM]
    refine ⟨rfl, ?_⟩
    by_cases hc : lo < ((wOf ps dd pt k : Nat) : Int) ∧ ((wOf ps dd pt k : Nat) : Int) < hi
    · rw [Int.max_eq_right (Int.le_of_lt hc.1), if_pos hc, if_pos hc, ← List.append_nil l, ← h, ← e]
      exact first_all hT hk hne
    · rw [if_neg hc, if_neg (fun h => hc (up_in h))]
  · have hv := Int.le_trans h (hup (Int.lt_of_lt_of_le hlh h))
    refine ⟨?_, ?_⟩
    · rw [Int.min_eq_left h, Int.min_eq_left (Int.le_trans hv (Int.le_max_right ..))]
    · rw [if_neg (fun h' => Int.not_lt.mpr h h'.2), if_neg (fun h' => Int.not_lt.mpr hv h'.2)]
theorem fin_min (hT : Tree ps) {k : Nat} (hk : k < 9) (hd : dd k ≠ 1) (hne : ps k ≠ []) {lo hi : Int} {l r : List Nat} (e : ps k = l ++ r) (h : r = [] ∨ minI hi (wI (wOf ps dd pt) l) ≤ lo) (hlh : lo < hi) :
    max lo (minI hi (wI (wOf ps dd pt) l)) = clipI (wOf ps dd pt k : Nat) lo hi ∧ bestV ps (wOf ps dd pt) l (minI hi (wI (wOf ps dd pt) l)) lo hi = placeV ps (wOf ps dd pt) lo hi k := by
  have hup : minI hi (wI (wOf ps dd pt) l) < hi → ((wOf ps dd pt k : Nat) : Int) ≤ minI hi (wI (wOf ps dd pt) l) := fun h => by
    have := (minI_mem (wI (wOf ps dd pt) l) hi).resolve_left (Int.ne_of_lt h)
    generalize minI hi (wI (wOf ps dd pt) l) = M at this
    obtain ⟨x, hx, hxe⟩ := List.mem_map.mp this
    exact hxe ▸ Int.ofNat_le.mpr (w_least (pt := pt) hT hk hd x (by rw [e]; exact List.mem_append_left _ hx))
  rw [clip_dn (Int.le_of_lt hlh)]
  unfold bestV placeV
  rcases h with h | h
  · have hM : minI hi (wI (wOf ps dd pt) l) = min hi (wOf ps dd pt k : Nat) := by
      refine dn_is (minI_le _ _).1 hup ?_
      obtain ⟨j, j1, j2⟩ := w_mem (dd := dd) (pt := pt) hT hk hne
      rw [← j2]
      exact (minI_le _ _).2 _ (List.mem_map.mpr ⟨j, by rw [e, h, List.append_nil] at j1; exact j1, rfl⟩)
    rw [hM]
    refine ⟨rfl, ?_⟩
    by_cases hc : lo < ((wOf ps dd pt k : Nat) : Int) ∧ ((wOf ps dd pt k : Nat) : Int) < hi
    · rw [Int.min_eq_right (Int.le_of_lt hc.2), if_pos hc, if_pos hc, ← List.append_nil l, ← h, ← e]
      exact first_all hT hk hne
    · rw [if_neg hc, if_neg (fun h => hc (dn_in h))]
  · have hv := Int.le_trans (hup (Int.lt_of_le_of_lt h hlh)) h
    refine ⟨?_, ?_⟩
    · rw [Int.max_eq_left h, Int.max_eq_left (Int.le_trans (Int.min_le_right ..) hv)]
    · rw [if_neg (fun h' => Int.not_lt.mpr h h'.1), if_neg (fun h' => Int.not_lt.mpr hv h'.1)]
end
theorem dead_row {ps : Nat → List Nat} {en dd W : Nat → Nat} {lo hi : Int} (hP : Page ps en) : ∀ (n k : Nat), 9 - k ≤ n → k < 9 → (bOf ps dd W lo hi k).2 ≤ (bOf ps dd W lo hi k).1 → visR (opens ps (bOf ps dd W lo hi)) k (en k) = [] := by
  intro n
  induction n with
  | zero => intro k h1 h2; exact absurd (Nat.sub_pos_of_lt h2) (Nat.not_lt.mpr h1)
  | succ n ih =>
    intro k h1 h2 hB
    have hC := hP.C k h2
    have hle := (chain_le _ _ hC).1
    rw [visR_split (m := k + 1) (Nat.le_succ k) hle, visR_one, if_neg (by unfold opens; rw [decide_eq_false (Int.not_lt.mpr hB), Bool.and_false]; decide), List.nil_append]
    have go : ∀ (l : List Nat) (p : Nat), chainB en (en k) p l = true → (∀ c ∈ l, c ∈ ps k) → visR (opens ps (bOf ps dd W lo hi)) p (en k) = [] := by
      intro l
      induction l with
      | nil =>
        intro p hp _
        have := eq_of_beq hp
        rw [this, visR_nil]
      | cons c r ihr =>
        intro p hp hm
        refine box fun GZ kZ => ?_
        obtain ⟨c1, c2, c3, c4⟩ := chain_cons hp
        refine kZ ?_
        clear kZ GZ
        subst c1
        have hc := hm c (List.mem_cons_self ..)
        have hk := hP.T.up k c hc
        have hle2 := (chain_le _ _ c4).1
        rw [visR_split (m := en c) (Nat.le_of_lt c2) hle2, ihr _ c4 (fun x hx => hm x (List.mem_cons_of_mem _ hx)), List.append_nil]
        refine ih c (fuel_le h1 hk.1) hk.2 ?_
        rw [bOf_eq hP.T hc]
        unfold bNext
        dsimp only
        split
        · have := (maxI_ge (((ps k).filter fun i => decide (i < c)).map fun i => ((W i : Nat) : Int)) (bOf ps dd W lo hi k).1).1
          exact Int.le_trans hB this
        · have := (minI_le (((ps k).filter fun i => decide (i < c)).map fun i => ((W i : Nat) : Int)) (bOf ps dd W lo hi k).2).1
          exact Int.le_trans this hB
    exact go _ _ hC (fun c h => h)
structure Law (ps : Nat → List Nat) (en dd pt dp : Nat → Nat) (lo₀ hi₀ : Int) (kn : Nat → Int) (tx : Nat → Str) (bad : Nat) (cb : Bool) : Prop where
  P : Page ps en
  dk : ∀ k j, j ∈ ps k → dp j = dp k + 1
  d4 : ∀ k, dp k ≤ 4
  kl : ∀ k, k < 9 → ps k = [] → 256 ≤ kn k
  ki : ∀ k, k < 9 → ps k ≠ [] → kn k = if dd k = 1 then 21 else 20
  tp : ∀ k, k < 9 → ps k = [] → (bOf ps dd (wOf ps dd pt) lo₀ hi₀ k).1 < (bOf ps dd (wOf ps dd pt) lo₀ hi₀ k).2 → parseM (tx k) = some (if k = bad then .error cb else .ok ((pt k : Nat) : Int))
structure PageAt (σ : MH) (pg kr er xr : Nat) (kn : Nat → Int) (en : Nat → Nat) (tx : Nat → Str) : Prop where
  hp : σ[pg]? = some (.tup [.ref kr, .ref er, .ref xr])
  hk : σ[kr]? = some (.list ((List.range 9).map fun i => .int (kn i)))
  he : σ[er]? = some (.list ((List.range 9).map fun i => .int ((en i : Nat) : Int)))
  hx : σ[xr]? = some (.list ((List.range 9).map fun i => .str (tx i)))
theorem pageAt_keep {σ σ' : MH} {pg kr er xr rr : Nat} {kn : Nat → Int} {en : Nat → Nat} {tx : Nat → Str} {rl : List MV} (h : PageAt σ pg kr er xr kn en tx) (hr : σ[rr]? = some (.list rl)) (h1 : kr ≠ rr) (h2 : er ≠ rr) (h3 : xr ≠ rr)
    (K : ∀ x o, x ≠ rr → σ[x]? = some o → σ'[x]? = some o) : PageAt σ' pg kr er xr kn en tx :=
  ⟨K _ _ (by rintro rfl; have := h.hp; rw [hr] at this; cases this) h.hp, K _ _ h1 h.hk, K _ _ h2 h.he, K _ _ h3 h.hx⟩
section
variable (ps : Nat → List Nat) (en dd pt : Nat → Nat) (lo₀ hi₀ : Int) (tx : Nat → Str) (bad : Nat) (cb : Bool) (rr : Nat)
noncomputable def visK (k : Nat) : List Nat := visR (opens ps (bOf ps dd (wOf ps dd pt) lo₀ hi₀)) k (en k)
noncomputable def WPost (k : Nat) (lo hi : Int) (rl : List Nat) (σ : MH) : MV → MH → Prop := fun v σ' => bad ∉ visK ps en dd pt lo₀ hi₀ k ∧ (∃ t, v = .ref t ∧ σ'[t]? = some (.tup [.int (clipI (wOf ps dd pt k : Nat) lo hi), placeV ps (wOf ps dd pt) lo hi k])) ∧
  σ'[rr]? = some (.list (natL (rl ++ visK ps en dd pt lo₀ hi₀ k))) ∧ ∀ x o, x ≠ rr → σ[x]? = some o → σ'[x]? = some o
noncomputable def XPost (k : Nat) (rl : List Nat) (σ : MH) : Bool → Str → MH → Prop := fun c m σ' => bad ∈ visK ps en dd pt lo₀ hi₀ k ∧ c = cb ∧ m = tx bad ∧
  σ'[rr]? = some (.list (natL (rl ++ (visK ps en dd pt lo₀ hi₀ k).filter fun i => decide (i < bad)))) ∧ ∀ x o, x ≠ rr → σ[x]? = some o → σ'[x]? = some o
end
section
variable {ps : Nat → List Nat} {en dd pt dp : Nat → Nat} {lo₀ hi₀ : Int} {kn : Nat → Int} {tx : Nat → Str} {bad : Nat} {cb : Bool} {rr pg kr er xr : Nat}
end
namespace hkp230
noncomputable abbrev hS (ps : Nat → List Nat) (en : Nat → Nat) (dd : Nat → Nat) (pt : Nat → Nat) (dp : Nat → Nat) (lo₀ : Int) (hi₀ : Int) (kn : Nat → Int) (tx : Nat → PySem.Str) (bad : Nat) (cb : Bool) (rr : Nat) (pg : Nat) (kr : Nat) (er : Nat) (xr : Nat) (f : Nat) (k : Nat) (lo : Int) (hi : Int) (rl : List Nat) (σ : MH) : Prop := ∀ (L : Law ps en dd pt dp lo₀ hi₀ kn tx bad cb) (h0 : rr ≠ 0) (h1 : kr ≠ rr) (h2 : er ≠ rr) (h3 : xr ≠ rr) (hk : k < 9) (hl : ps k = []) (hB : bOf ps dd (wOf ps dd pt) lo₀ hi₀ k = (lo, hi)) (hlh : lo < hi) (hp : PageAt σ pg kr er xr kn en tx) (hr : σ[rr]? = some (.list (natL rl))) (hrl : rl.length ≤ k), Wp (walkG (f + 1) [.ref pg, .int (k : Int), .int lo, .int hi, .ref rr] σ) (WPost ps en dd pt lo₀ hi₀ bad rr k lo hi rl σ) (XPost ps en dd pt lo₀ hi₀ tx bad cb rr k rl σ)
noncomputable abbrev hP := fun p : (Nat → List Nat) × (Nat → Nat) × (Nat → Nat) × (Nat → Nat) × (Nat → Nat) × Int × Int × (Nat → Int) × (Nat → PySem.Str) × Nat × Bool × Nat × Nat × Nat × Nat × Nat × Nat × Nat × Int × Int × (List Nat) × MH => hS p.1 p.2.1 p.2.2.1 p.2.2.2.1 p.2.2.2.2.1 p.2.2.2.2.2.1 p.2.2.2.2.2.2.1 p.2.2.2.2.2.2.2.1 p.2.2.2.2.2.2.2.2.1 p.2.2.2.2.2.2.2.2.2.1 p.2.2.2.2.2.2.2.2.2.2.1 p.2.2.2.2.2.2.2.2.2.2.2.1 p.2.2.2.2.2.2.2.2.2.2.2.2.1 p.2.2.2.2.2.2.2.2.2.2.2.2.2.1 p.2.2.2.2.2.2.2.2.2.2.2.2.2.2.1 p.2.2.2.2.2.2.2.2.2.2.2.2.2.2.2.1 p.2.2.2.2.2.2.2.2.2.2.2.2.2.2.2.2.1 p.2.2.2.2.2.2.2.2.2.2.2.2.2.2.2.2.2.1 p.2.2.2.2.2.2.2.2.2.2.2.2.2.2.2.2.2.2.1 p.2.2.2.2.2.2.2.2.2.2.2.2.2.2.2.2.2.2.2.1 p.2.2.2.2.2.2.2.2.2.2.2.2.2.2.2.2.2.2.2.2.1 p.2.2.2.2.2.2.2.2.2.2.2.2.2.2.2.2.2.2.2.2.2
noncomputable def hW := ce (default, default, default, default, default, default, default, default, default, default, default, default, default, default, default, default, default, default, default, default, default, default) hP
noncomputable def ps : Nat → List Nat := hW.1
noncomputable def en : Nat → Nat := hW.2.1
noncomputable def dd : Nat → Nat := hW.2.2.1
noncomputable def pt : Nat → Nat := hW.2.2.2.1
noncomputable def dp : Nat → Nat := hW.2.2.2.2.1
noncomputable def lo₀ : Int := hW.2.2.2.2.2.1
noncomputable def hi₀ : Int := hW.2.2.2.2.2.2.1
noncomputable def kn : Nat → Int := hW.2.2.2.2.2.2.2.1
noncomputable def tx : Nat → PySem.Str := hW.2.2.2.2.2.2.2.2.1
noncomputable def bad : Nat := hW.2.2.2.2.2.2.2.2.2.1
noncomputable def cb : Bool := hW.2.2.2.2.2.2.2.2.2.2.1
noncomputable def rr : Nat := hW.2.2.2.2.2.2.2.2.2.2.2.1
noncomputable def pg : Nat := hW.2.2.2.2.2.2.2.2.2.2.2.2.1
noncomputable def kr : Nat := hW.2.2.2.2.2.2.2.2.2.2.2.2.2.1
noncomputable def er : Nat := hW.2.2.2.2.2.2.2.2.2.2.2.2.2.2.1
noncomputable def xr : Nat := hW.2.2.2.2.2.2.2.2.2.2.2.2.2.2.2.1
noncomputable def f : Nat := hW.2.2.2.2.2.2.2.2.2.2.2.2.2.2.2.2.1
noncomputable def k : Nat := hW.2.2.2.2.2.2.2.2.2.2.2.2.2.2.2.2.2.1
noncomputable def lo : Int := hW.2.2.2.2.2.2.2.2.2.2.2.2.2.2.2.2.2.2.1
noncomputable def hi : Int := hW.2.2.2.2.2.2.2.2.2.2.2.2.2.2.2.2.2.2.2.1
noncomputable def rl : List Nat := hW.2.2.2.2.2.2.2.2.2.2.2.2.2.2.2.2.2.2.2.2.1
noncomputable def σ : MH := hW.2.2.2.2.2.2.2.2.2.2.2.2.2.2.2.2.2.2.2.2.2
theorem hT : hS ps en dd pt dp lo₀ hi₀ kn tx bad cb rr pg kr er xr f k lo hi rl σ := by
  intro L h0 h1 h2 h3 hk hl hB hlh hp hr hrl
  have hvis : visK ps en dd pt lo₀ hi₀ k = [k] := by
    have hc := L.P.C k hk
    rw [hl] at hc
    have he : k + 1 = en k := eq_of_beq hc
    unfold visK
    rw [← he, visR_one, if_pos]
    unfold opens
    rw [hl, hB, decide_eq_true hlh]; rfl
  have hw := w_leaf (dd := dd) (pt := pt) L.P.T hk hl
  have htp := L.tp k hk hl (by rw [hB]; exact hlh)
  unfold walkG
  refine wp_def rfl ?_
  unfold walkB
  dsimp only [updAll]
  obtain ⟨p1, p2, p3, p4⟩ := id hp
  have hkl := L.kl k hk hl
  have k1 := place9 (f := fun i => MV.int (kn i)) hk
  have k2 := range_get (f := fun i => MV.int (kn i)) hk
  have k3 := place9 (f := fun i => MV.str (tx i)) hk
  have k4 := range_get (f := fun i => MV.str (tx i)) hk
  have k5 : decide (kn k ≥ 256) = true := decide_eq_true hkl
  refine wp_seq ?_
  walk_at "ps"
  refine wp_unpack (wp_call ?_)
  walk_at "ps"
  have hrun := fun e => run_parse (x := tx k) (t := σ.length) (h := .int (k : Int)) (r := [.int 21]) (σ := σ ++ [MO.tup [.int (k : Int), .int 21]]) (e := e) get_last (show place? 0 2 = some 0 by decide)
  by_cases hb : k = bad
  · rw [if_pos hb] at htp
    obtain ⟨ext, hrun⟩ := hrun _ htp
    refine wp_exc hrun ?_
    unfold XPost
    rw [hvis]
    refine ⟨by rw [hb]; exact List.mem_singleton.mpr rfl, rfl, by rw [hb], ?_, fun x o _ h => get_old (get_old h)⟩
    rw [List.filter_cons, if_neg (by rw [hb]; simp)]
    show _ = some (MO.list (natL (rl ++ [])))
    rw [List.append_nil]
    exact get_old (get_old hr)
  · rw [if_neg hb] at htp
    obtain ⟨ext, j, hrun, hj⟩ := hrun _ htp
    refine wp_eq hrun ⟨_, _, rfl, hj, rfl, ?_⟩
    have K : ∀ x o, σ[x]? = some o → (σ ++ [MO.tup [MV.int (k : Int), MV.int 21]] ++ ext)[x]? = some o := fun x o h => get_old (get_old h)
    clear hj hrun
    have hr' := K _ _ hr
    generalize σ ++ [MO.tup [MV.int (k : Int), MV.int 21]] ++ ext = τ at *
    dsimp only [updAll]
    refine wp_seq (wp_append ?_)
    walk_at "ps"
    refine ⟨_, _, rfl, hr', ?_⟩
    walk_at "ps"
    refine ⟨_, hr', ⟨h0, by rw [natL_len]; unfold maxLen; lia⟩, ?_⟩
    have hr2 : (τ.set rr (.list (natL rl ++ [.int (k : Int)])))[rr]? = some (.list (natL (rl ++ [k]))) := by
      rw [get_set_eq hr']; unfold natL; rw [List.map_append]; rfl
    have K2 : ∀ x o, x ≠ rr → σ[x]? = some o → (τ.set rr (.list (natL rl ++ [.int (k : Int)])))[x]? = some o := fun x o hx h => get_set_ne (Ne.symm hx) (K _ _ h)
    clear K hr'
    generalize τ.set rr (.list (natL rl ++ [.int (k : Int)])) = τ₂ at *
    have post : ∀ (w : Int) (v : MV), w = clipI (wOf ps dd pt k : Nat) lo hi → v = placeV ps (wOf ps dd pt) lo hi k → WPost ps en dd pt lo₀ hi₀ bad rr k lo hi rl σ (.ref τ₂.length) (τ₂ ++ [.tup [.int w, v]]) := by
      rintro w v rfl rfl
      unfold WPost
      rw [hvis]
      exact ⟨fun h => hb (List.mem_singleton.mp h).symm, ⟨_, rfl, get_last⟩, get_old hr2, fun x o hx h => get_old (K2 x o hx h)⟩
    rw [clip_up] at post
    unfold placeV at post
    rw [hw, p_leaf L.P.T hk hl] at post
    have c0 : ∀ (a b : Bool), a = b → ((a == b) = true) := fun a b h => by rw [h]; cases b <;> rfl
    by_cases g1 : ((pt k : Nat) : Int) > lo
    · have q1 : ¬ ((decide (((pt k : Nat) : Int) > lo) == false) = true) := by rw [decide_eq_true g1]; decide
      walk_at "pt"
      by_cases g2 : ((pt k : Nat) : Int) - hi < 0
      · have q2 : ¬ ((decide (((pt k : Nat) : Int) - hi < 0) == false) = true) := by rw [decide_eq_true g2]; decide
        walk_at "pt"
        walk_at "p:ret"
        refine post _ _ ?_ ?_
        · rw [Int.max_eq_right (Int.le_of_lt g1), Int.min_eq_right (Int.le_of_lt (Int.lt_of_sub_neg g2))]
        · rw [if_pos ⟨g1, Int.lt_of_sub_neg g2⟩]
      · have q2 : (decide (((pt k : Nat) : Int) - hi < 0) == false) = true := by rw [decide_eq_false g2]; rfl
        walk_at "pt"
        refine post _ _ ?_ ?_
        · rw [Int.max_eq_right (Int.le_of_lt g1), Int.min_eq_left (Int.not_lt.mp fun h => g2 (Int.sub_neg_of_lt h))]
        · rw [if_neg (fun h => g2 (Int.sub_neg_of_lt h.2))]
    · have q1 : (decide (((pt k : Nat) : Int) > lo) == false) = true := by rw [decide_eq_false g1]; rfl
      walk_at "pt"
      refine post _ _ ?_ ?_
      · rw [Int.max_eq_left (Int.not_lt.mp g1), Int.min_eq_right (Int.le_of_lt hlh)]
      · rw [if_neg (fun h => g1 h.1)]
end hkp230
theorem walk_leaf : ∀ {ps : Nat → List Nat} {en : Nat → Nat} {dd : Nat → Nat} {pt : Nat → Nat} {dp : Nat → Nat} {lo₀ : Int} {hi₀ : Int} {kn : Nat → Int} {tx : Nat → PySem.Str} {bad : Nat} {cb : Bool} {rr : Nat} {pg : Nat} {kr : Nat} {er : Nat} {xr : Nat} {f : Nat} {k : Nat} {lo : Int} {hi : Int} {rl : List Nat} {σ : MH}, hkp230.hS ps en dd pt dp lo₀ hi₀ kn tx bad cb rr pg kr er xr f k lo hi rl σ := @fun ps en dd pt dp lo₀ hi₀ kn tx bad cb rr pg kr er xr f k lo hi rl σ => ce_all (P := hkp230.hP) (default, default, default, default, default, default, default, default, default, default, default, default, default, default, default, default, default, default, default, default, default, default) (@hkp230.hT) (ps, en, dd, pt, dp, lo₀, hi₀, kn, tx, bad, cb, rr, pg, kr, er, xr, f, k, lo, hi, rl, σ)
section
variable {ps : Nat → List Nat} {en dd pt dp : Nat → Nat} {lo₀ hi₀ : Int} {kn : Nat → Int} {tx : Nat → Str} {bad : Nat} {cb : Bool} {rr pg kr er xr : Nat}
end
noncomputable def wkC : TD := tAnd (tOf (eCmp .lt (eVar "part") (eIdx (eVar "ends") (eVar "at")))) (tNot (tOf (eCall isEofF (lCons (eCall subF (lCons (eVar "high") (lCons (eVar "low") lNil))) lNil))))
noncomputable def wkB (self : List MV → MH → R MV) : SD := (sSeq (sUnpack ["worth", "place"] (eCall self (lCons (eVar "page") (lCons (eVar "part") (lCons (eVar "low") (lCons (eVar "high") (lCons (eVar "read") lNil)))))))
    (sSeq (sIf (tAnd (tOf (eCmp .eq (eIdx (eVar "kinds") (eVar "at")) (eVal (.int 20)))) (tOf (eCmp .is (eCall ltF (lCons (eVar "worth") (lCons (eVar "high") lNil))) (eVal (.bool true)))))
      (sPair ["high", "best"] (lCons (eVar "worth") (lCons (eVar "place") lNil)))
      sPass)
    (sSeq (sIf (tAnd (tOf (eCmp .eq (eIdx (eVar "kinds") (eVar "at")) (eVal (.int 21)))) (tOf (eCmp .is (eCall gtF (lCons (eVar "worth") (lCons (eVar "low") lNil))) (eVal (.bool true)))))
      (sPair ["low", "best"] (lCons (eVar "worth") (lCons (eVar "place") lNil)))
      sPass)
    (sAssign "part" (eIdx (eVar "ends") (eVar "part"))))))
section
variable (ps : Nat → List Nat) (W : Nat → Nat) (d : Nat) (lo hi : Int)
noncomputable def lowV (l : List Nat) : Int := if d = 1 then min hi (maxI lo (wI W l)) else lo
noncomputable def highV (l : List Nat) : Int := if d = 1 then hi else max lo (minI hi (wI W l))
noncomputable def bstV (l : List Nat) : MV := if d = 1 then bestV ps W l (maxI lo (wI W l)) lo hi else bestV ps W l (minI hi (wI W l)) lo hi
end
theorem wk_two {ps : Nat → List Nat} {W : Nat → Nat} {d k : Nat} {lo hi : Int} {l : List Nat} {c kr : Nat} {kn : Nat → Int} {ρ : MEnv} {σ : MH} (hk : k < 9) (hd : kn k = if d = 1 then 21 else 20) (hlt : lowV W d lo hi l < highV W d lo hi l) (hlh : lo < hi)
    (vk : ρ "kinds" = some (.ref kr)) (va : ρ "at" = some (.int (k : Int))) (vl : ρ "low" = some (.int (lowV W d lo hi l))) (vh : ρ "high" = some (.int (highV W d lo hi l))) (vb : ρ "best" = some (bstV ps W d lo hi l))
    (vw : ρ "worth" = some (.int (clipI (W c : Nat) (lowV W d lo hi l) (highV W d lo hi l)))) (vp : ρ "place" = some (placeV ps W (lowV W d lo hi l) (highV W d lo hi l) c)) (hkr : σ[kr]? = some (.list ((List.range 9).map fun i => .int (kn i))))
    {Q : MF × MEnv → MH → Prop} {X : Bool → Str → MH → Prop} {s : SD} (q : ∀ ρ', ρ' "low" = some (.int (lowV W d lo hi (l ++ [c]))) → ρ' "high" = some (.int (highV W d lo hi (l ++ [c]))) → ρ' "best" = some (bstV ps W d lo hi (l ++ [c])) → (∀ y, y ≠ "low" → y ≠ "high" → y ≠ "best" → ρ' y = ρ y) → Wp (s ρ' σ) Q X) :
    Wp ((sSeq (sIf (tAnd (tOf (eCmp .eq (eIdx (eVar "kinds") (eVar "at")) (eVal (.int 20)))) (tOf (eCmp .is (eCall ltF (lCons (eVar "worth") (lCons (eVar "high") lNil))) (eVal (.bool true)))))
      (sPair ["high", "best"] (lCons (eVar "worth") (lCons (eVar "place") lNil)))
      sPass)
    (sSeq (sIf (tAnd (tOf (eCmp .eq (eIdx (eVar "kinds") (eVar "at")) (eVal (.int 21)))) (tOf (eCmp .is (eCall gtF (lCons (eVar "worth") (lCons (eVar "low") lNil))) (eVal (.bool true)))))
      (sPair ["low", "best"] (lCons (eVar "worth") (lCons (eVar "place") lNil)))
      sPass) s)) ρ σ) Q X := by
  have k1 := place9 (f := fun i => MV.int (kn i)) hk
  have k2 := range_get (f := fun i => MV.int (kn i)) hk
  by_cases h1 : d = 1
  · rw [if_pos h1] at hd
    have e20 : ¬ ((kn k == 20) = true) := by rw [hd]; decide
    have e21 : (kn k == 21) = true := by rw [hd]; rfl
    unfold lowV highV bstV at *
    rw [if_pos h1] at hlt vl vw vp vb
    rw [if_pos h1] at hlt vh vw vp
    have hmin := min_in hlt
    have hM := lt_of_eq_of_lt hmin.symm hlt
    rw [hmin] at vl vw vp
    obtain ⟨s1, s2⟩ := step_max ps W (lo := lo) (c := c) hM
    rw [if_pos h1, if_pos h1, if_pos h1] at q
    walk_at "pt"
    by_cases hg : clipI (W c : Nat) (maxI lo (wI W l)) hi > maxI lo (wI W l)
    · rw [if_pos hg] at s1 s2
      have hg' : (decide (clipI (W c : Nat) (maxI lo (wI W l)) hi > maxI lo (wI W l)) == true) = true := by rw [decide_eq_true hg]; rfl
      walk_at "pt"
      refine q _ (by rw [← s1]; walk_at "pn") (by walk_at "pn") (by rw [← s2]; walk_at "pn") fun y a b c => ?_
      rw [upd_skip c, upd_skip a]
    · rw [if_neg hg] at s1 s2
      have hg' : ¬ (decide (clipI (W c : Nat) (maxI lo (wI W l)) hi > maxI lo (wI W l)) == true) = true := by rw [decide_eq_false hg]; decide
      walk_at "pt"
      exact q _ (by rw [← s1]; exact vl) vh (by rw [← s2]; exact vb) fun _ _ _ _ => rfl
  · rw [if_neg h1] at hd
    have e20 : (kn k == 20) = true := by rw [hd]; rfl
    have e21 : ¬ ((kn k == 21) = true) := by rw [hd]; decide
    unfold lowV highV bstV at *
    rw [if_neg h1] at hlt vl vw vp vb
    rw [if_neg h1] at hlt vh vw vp
    have hmin := max_in hlt
    have hM := lt_of_lt_of_eq hlt hmin
    rw [hmin] at vh vw vp
    obtain ⟨s1, s2⟩ := step_min ps W (hi := hi) (c := c) hM
    rw [if_neg h1, if_neg h1, if_neg h1] at q
    by_cases hg : clipI (W c : Nat) lo (minI hi (wI W l)) < minI hi (wI W l)
    · rw [if_pos hg] at s1 s2
      have hg' : (decide (clipI (W c : Nat) lo (minI hi (wI W l)) < minI hi (wI W l)) == true) = true := by rw [decide_eq_true hg]; rfl
      walk_at "pt"
      walk_at "pt"
      refine q _ (by walk_at "pn") (by rw [← s1]; walk_at "pn") (by rw [← s2]; walk_at "pn") fun y a b c => ?_
      rw [upd_skip c, upd_skip b]
    · rw [if_neg hg] at s1 s2
      have hg' : ¬ (decide (clipI (W c : Nat) lo (minI hi (wI W l)) < minI hi (wI W l)) == true) = true := by rw [decide_eq_false hg]; decide
      walk_at "pt"
      walk_at "pt"
      exact q _ vl (by rw [← s1]; exact vh) (by rw [← s2]; exact vb) fun _ _ _ _ => rfl
theorem visR_len {V : Nat → Bool} {a b : Nat} : (visR V a b).length ≤ b - a := by
  unfold visR; exact Nat.le_trans (List.length_filter_le ..) (by rw [List.length_range']; exact Nat.le_refl _)
theorem filter_all {l : List Nat} {p : Nat → Bool} (h : ∀ x ∈ l, p x = true) : l.filter p = l := List.filter_eq_self.mpr h
theorem filter_none {l : List Nat} {p : Nat → Bool} (h : ∀ x ∈ l, ¬ p x = true) : l.filter p = [] := List.filter_eq_nil_iff.mpr h
theorem dead_chain {V : Nat → Bool} {en : Nat → Nat} {stop : Nat} : ∀ (l : List Nat) (p : Nat), chainB en stop p l = true → (∀ x ∈ l, visR V x (en x) = []) → visR V p stop = []
  | [], p, h, _ => by rw [show p = stop from eq_of_beq h, visR_nil]
  | c :: r, p, h, hd => by
    obtain ⟨c1, c2, c3, c4⟩ := chain_cons h
    subst c1
    have hle := (chain_le _ _ c4).1
    rw [visR_split (m := en c) (Nat.le_of_lt c2) hle, hd c (List.mem_cons_self ..), dead_chain r _ c4 fun x hx => hd x (List.mem_cons_of_mem _ hx)]; rfl
theorem low_le_high {W : Nat → Nat} {d : Nat} {lo hi : Int} {l : List Nat} (h : lo < hi) : lowV W d lo hi l ≤ highV W d lo hi l := by
  unfold lowV highV; split
  · exact Int.min_le_left ..
  · exact Int.le_max_left ..
section
variable {ps : Nat → List Nat} {en dd pt dp : Nat → Nat} {lo₀ hi₀ : Int} {kn : Nat → Int} {tx : Nat → Str} {bad : Nat} {cb : Bool} {rr pg kr er xr : Nat}
theorem kid_window (L : Law ps en dd pt dp lo₀ hi₀ kn tx bad cb) {k c : Nat} {lo hi : Int} {l r : List Nat} (hB : bOf ps dd (wOf ps dd pt) lo₀ hi₀ k = (lo, hi)) (e : ps k = l ++ c :: r) (hl : ∀ x ∈ l, x < c) (hr : ∀ x ∈ r, c ≤ x) :
    bOf ps dd (wOf ps dd pt) lo₀ hi₀ c = (if dd k = 1 then (maxI lo (wI (wOf ps dd pt) l), hi) else (lo, minI hi (wI (wOf ps dd pt) l))) := by
  have hc : c ∈ ps k := by rw [e]; exact List.mem_append_right _ (List.mem_cons_self ..)
  have hf : (ps k).filter (fun i => decide (i < c)) = l := by
    rw [e, List.filter_append, filter_all (fun x hx => decide_eq_true (hl x hx)), filter_none, List.append_nil]
    intro x hx h
    have := of_decide_eq_true h
    rcases List.mem_cons.mp hx with e | hx
    · exact absurd e (Nat.ne_of_lt this)
    · exact Nat.not_lt.mpr (hr x hx) this
  rw [bOf_eq L.P.T hc]
  unfold bNext
  rw [hf, hB]
  rfl
end
namespace hkp250
noncomputable abbrev hS (ps : Nat → List Nat) (en : Nat → Nat) (dd : Nat → Nat) (pt : Nat → Nat) (dp : Nat → Nat) (lo₀ : Int) (hi₀ : Int) (kn : Nat → Int) (tx : Nat → PySem.Str) (bad : Nat) (cb : Bool) (rr : Nat) (pg : Nat) (kr : Nat) (er : Nat) (xr : Nat) (self : List MV → MH → R MV) (k : Nat) (lo : Int) (hi : Int) (rl : List Nat) (σ₀ : MH) : Prop := ∀ (L : Law ps en dd pt dp lo₀ hi₀ kn tx bad cb) (h0 : rr ≠ 0) (h1 : kr ≠ rr) (h2 : er ≠ rr) (h3 : xr ≠ rr) (hk : k < 9) (hB : bOf ps dd (wOf ps dd pt) lo₀ hi₀ k = (lo, hi)) (hlh : lo < hi) (hrl : rl.length ≤ k) (hvk : visK ps en dd pt lo₀ hi₀ k = visR (opens ps (bOf ps dd (wOf ps dd pt) lo₀ hi₀)) (k + 1) (en k)) (ih : ∀ c, c ∈ ps k → ∀ (lo hi : Int) (rl : List Nat) (σ : MH), bOf ps dd (wOf ps dd pt) lo₀ hi₀ c = (lo, hi) → lo < hi → PageAt σ pg kr er xr kn en tx → σ[rr]? = some (.list (natL rl)) → rl.length ≤ c →
      Wp (self [.ref pg, .int (c : Int), .int lo, .int hi, .ref rr] σ) (WPost ps en dd pt lo₀ hi₀ bad rr c lo hi rl σ) (XPost ps en dd pt lo₀ hi₀ tx bad cb rr c rl σ)), ∀ (f : Nat) (l2 l1 : List Nat) (p : Nat) (ρ : MEnv) (σ : MH), l2.length < f → ps k = l1 ++ l2 → k + 1 ≤ p → (∀ x ∈ l1, x < p) → chainB en (en k) p l2 = true →
      ρ "page" = some (.ref pg) → ρ "kinds" = some (.ref kr) → ρ "ends" = some (.ref er) → ρ "at" = some (.int (k : Int)) → ρ "read" = some (.ref rr) → ρ "part" = some (.int (p : Int)) →
      ρ "low" = some (.int (lowV (wOf ps dd pt) (dd k) lo hi l1)) → ρ "high" = some (.int (highV (wOf ps dd pt) (dd k) lo hi l1)) → ρ "best" = some (bstV ps (wOf ps dd pt) (dd k) lo hi l1) →
      PageAt σ pg kr er xr kn en tx → bad ∉ visR (opens ps (bOf ps dd (wOf ps dd pt) lo₀ hi₀)) (k + 1) p → σ[rr]? = some (.list (natL (rl ++ visR (opens ps (bOf ps dd (wOf ps dd pt) lo₀ hi₀)) (k + 1) p))) → (∀ x o, x ≠ rr → σ₀[x]? = some o → σ[x]? = some o) →
      Wp (whileGo wkC (wkB self) f ρ σ) (fun r σ' => r.1 = .next ∧ (∃ l r', ps k = l ++ r' ∧ (r' = [] ∨ highV (wOf ps dd pt) (dd k) lo hi l ≤ lowV (wOf ps dd pt) (dd k) lo hi l) ∧ r.2 "low" = some (.int (lowV (wOf ps dd pt) (dd k) lo hi l)) ∧ r.2 "high" = some (.int (highV (wOf ps dd pt) (dd k) lo hi l)) ∧ r.2 "best" = some (bstV ps (wOf ps dd pt) (dd k) lo hi l)) ∧
        r.2 "kinds" = some (.ref kr) ∧ r.2 "at" = some (.int (k : Int)) ∧ PageAt σ' pg kr er xr kn en tx ∧ bad ∉ visK ps en dd pt lo₀ hi₀ k ∧ σ'[rr]? = some (.list (natL (rl ++ visK ps en dd pt lo₀ hi₀ k))) ∧ ∀ x o, x ≠ rr → σ₀[x]? = some o → σ'[x]? = some o)
        (XPost ps en dd pt lo₀ hi₀ tx bad cb rr k rl σ₀)
noncomputable abbrev hP := fun p : (Nat → List Nat) × (Nat → Nat) × (Nat → Nat) × (Nat → Nat) × (Nat → Nat) × Int × Int × (Nat → Int) × (Nat → PySem.Str) × Nat × Bool × Nat × Nat × Nat × Nat × Nat × (List MV → MH → R MV) × Nat × Int × Int × (List Nat) × MH => hS p.1 p.2.1 p.2.2.1 p.2.2.2.1 p.2.2.2.2.1 p.2.2.2.2.2.1 p.2.2.2.2.2.2.1 p.2.2.2.2.2.2.2.1 p.2.2.2.2.2.2.2.2.1 p.2.2.2.2.2.2.2.2.2.1 p.2.2.2.2.2.2.2.2.2.2.1 p.2.2.2.2.2.2.2.2.2.2.2.1 p.2.2.2.2.2.2.2.2.2.2.2.2.1 p.2.2.2.2.2.2.2.2.2.2.2.2.2.1 p.2.2.2.2.2.2.2.2.2.2.2.2.2.2.1 p.2.2.2.2.2.2.2.2.2.2.2.2.2.2.2.1 p.2.2.2.2.2.2.2.2.2.2.2.2.2.2.2.2.1 p.2.2.2.2.2.2.2.2.2.2.2.2.2.2.2.2.2.1 p.2.2.2.2.2.2.2.2.2.2.2.2.2.2.2.2.2.2.1 p.2.2.2.2.2.2.2.2.2.2.2.2.2.2.2.2.2.2.2.1 p.2.2.2.2.2.2.2.2.2.2.2.2.2.2.2.2.2.2.2.2.1 p.2.2.2.2.2.2.2.2.2.2.2.2.2.2.2.2.2.2.2.2.2
noncomputable def hW := ce (default, default, default, default, default, default, default, default, default, default, default, default, default, default, default, default, fun _ _ => .stuck, default, default, default, default, default) hP
noncomputable def ps : Nat → List Nat := hW.1
noncomputable def en : Nat → Nat := hW.2.1
noncomputable def dd : Nat → Nat := hW.2.2.1
noncomputable def pt : Nat → Nat := hW.2.2.2.1
noncomputable def dp : Nat → Nat := hW.2.2.2.2.1
noncomputable def lo₀ : Int := hW.2.2.2.2.2.1
noncomputable def hi₀ : Int := hW.2.2.2.2.2.2.1
noncomputable def kn : Nat → Int := hW.2.2.2.2.2.2.2.1
noncomputable def tx : Nat → PySem.Str := hW.2.2.2.2.2.2.2.2.1
noncomputable def bad : Nat := hW.2.2.2.2.2.2.2.2.2.1
noncomputable def cb : Bool := hW.2.2.2.2.2.2.2.2.2.2.1
noncomputable def rr : Nat := hW.2.2.2.2.2.2.2.2.2.2.2.1
noncomputable def pg : Nat := hW.2.2.2.2.2.2.2.2.2.2.2.2.1
noncomputable def kr : Nat := hW.2.2.2.2.2.2.2.2.2.2.2.2.2.1
noncomputable def er : Nat := hW.2.2.2.2.2.2.2.2.2.2.2.2.2.2.1
noncomputable def xr : Nat := hW.2.2.2.2.2.2.2.2.2.2.2.2.2.2.2.1
noncomputable def self : List MV → MH → R MV := hW.2.2.2.2.2.2.2.2.2.2.2.2.2.2.2.2.1
noncomputable def k : Nat := hW.2.2.2.2.2.2.2.2.2.2.2.2.2.2.2.2.2.1
noncomputable def lo : Int := hW.2.2.2.2.2.2.2.2.2.2.2.2.2.2.2.2.2.2.1
noncomputable def hi : Int := hW.2.2.2.2.2.2.2.2.2.2.2.2.2.2.2.2.2.2.2.1
noncomputable def rl : List Nat := hW.2.2.2.2.2.2.2.2.2.2.2.2.2.2.2.2.2.2.2.2.1
noncomputable def σ₀ : MH := hW.2.2.2.2.2.2.2.2.2.2.2.2.2.2.2.2.2.2.2.2.2
theorem hT : hS ps en dd pt dp lo₀ hi₀ kn tx bad cb rr pg kr er xr self k lo hi rl σ₀ := by
  intro L h0 h1 h2 h3 hk hB hlh hrl hvk ih
  intro f
  induction f with
  | zero => intro l2 l1 p ρ σ hf; exact absurd hf (Nat.not_lt_zero _)
  | succ f ihf =>
    intro l2 l1 p ρ σ hf e hp hl1 hch vp vk ve va vr vt vl vh vb hpg hbad hrr K
    obtain ⟨p1, p2, p3, p4⟩ := id hpg
    have k3 := place9 (f := fun i => MV.int ((en i : Nat) : Int)) hk
    have k4 := range_get (f := fun i => MV.int ((en i : Nat) : Int)) hk
    refine boxQ fun G0 k0 => ?_
    refine wp_turn (wp_tAnd (wp_tOf ?_))
    cases l2 with
    | nil =>
      have hpe : p = en k := eq_of_beq hch
      have hlt : ¬ decide ((p : Int) < ((en k : Nat) : Int)) = true := fun h => absurd (of_decide_eq_true h) (by rw [hpe]; exact Int.lt_irrefl _)
      walk_at "ps"
      refine k0 _ _ ⟨rfl, ⟨l1, [], e, .inl rfl, vl, vh, vb⟩, vk, va, hpg, ?_, ?_, K⟩
      · rw [hvk, ← hpe]; exact hbad
      · rw [hvk, ← hpe]; exact hrr
    | cons c r =>
      obtain ⟨c1, c2, c3, c4⟩ := chain_cons hch
      subst c1
      have hcr := chain_le _ _ c4
      have hc : c ∈ ps k := by rw [e]; exact List.mem_append_right _ (List.mem_cons_self ..)
      have hkc := L.P.T.up k c hc
      have hwin := kid_window L hB e hl1 (fun x hx => Nat.le_trans (Nat.le_of_lt c2) (hcr.2 x hx))
      have hlt : decide ((c : Int) < ((en k : Nat) : Int)) = true := decide_eq_true (Int.ofNat_lt.mpr c3)
      have hle := low_le_high (W := wOf ps dd pt) (d := dd k) (l := l1) hlh
      walk_at "ps"
      by_cases hcl : highV (wOf ps dd pt) (dd k) lo hi l1 - lowV (wOf ps dd pt) (dd k) lo hi l1 = 0
      · rw [if_neg (by rw [hcl]; decide)]
        have hdead : visR (opens ps (bOf ps dd (wOf ps dd pt) lo₀ hi₀)) c (en k) = [] := by
          refine dead_chain (c :: r) c hch fun x hx => ?_
          have hxp : x ∈ ps k := by rw [e]; exact List.mem_append_right _ hx
          have hxk := L.P.T.up k x hxp
          have hcx : c ≤ x := by
            rcases List.mem_cons.mp hx with rfl | hx
            · exact Nat.le_refl _
            · exact Nat.le_trans (Nat.le_of_lt c2) (hcr.2 x hx)
          refine dead_row L.P 9 x (Nat.sub_le ..) hxk.2 ?_
          rw [bOf_eq L.P.T hxp]
          unfold bNext
          rw [hB]
          have hin : ∀ y ∈ l1, ((wOf ps dd pt y : Nat) : Int) ∈ ((ps k).filter fun i => decide (i < x)).map fun i => ((wOf ps dd pt i : Nat) : Int) := fun y hy =>
            List.mem_map.mpr ⟨y, List.mem_filter.mpr ⟨by rw [e]; exact List.mem_append_left _ hy, decide_eq_true (Nat.lt_of_lt_of_le (hl1 y hy) hcx)⟩, rfl⟩
          unfold lowV highV at hcl
          dsimp only
          by_cases hd1 : dd k = 1
          · rw [if_pos hd1] at hcl ⊢
            rw [if_pos hd1] at hcl
            dsimp only
            have hM := Int.le_trans (Int.le_of_eq (Int.sub_eq_zero.mp hcl)) (Int.min_le_right ..)
            rcases maxI_mem (wI (wOf ps dd pt) l1) lo with h | h
            · exact absurd hlh (Int.not_lt.mpr (Int.le_trans hM (Int.le_of_eq h)))
            · obtain ⟨y, hy, hye⟩ := List.mem_map.mp h
              have := (maxI_ge (((ps k).filter fun i => decide (i < x)).map fun i => ((wOf ps dd pt i : Nat) : Int)) lo).2 _ (hin y hy)
              exact Int.le_trans hM (Int.le_trans (Int.le_of_eq hye.symm) this)
          · rw [if_neg hd1] at hcl ⊢
            rw [if_neg hd1] at hcl
            dsimp only
            have hM := Int.le_trans (Int.le_max_right ..) (Int.le_of_eq (Int.sub_eq_zero.mp hcl))
            rcases minI_mem (wI (wOf ps dd pt) l1) hi with h | h
            · exact absurd hlh (Int.not_lt.mpr (Int.le_trans (Int.le_of_eq h.symm) hM))
            · obtain ⟨y, hy, hye⟩ := List.mem_map.mp h
              have := (minI_le (((ps k).filter fun i => decide (i < x)).map fun i => ((wOf ps dd pt i : Nat) : Int)) hi).2 _ (hin y hy)
              exact Int.le_trans this (Int.le_trans (Int.le_of_eq hye) hM)
        have hsp : visK ps en dd pt lo₀ hi₀ k = visR (opens ps (bOf ps dd (wOf ps dd pt) lo₀ hi₀)) (k + 1) c := by
          rw [hvk, visR_split (m := c) hp (Nat.le_of_lt c3), hdead, List.append_nil]
        refine k0 _ _ ⟨rfl, ⟨l1, c :: r, e, .inr (Int.le_of_eq (Int.sub_eq_zero.mp hcl)), vl, vh, vb⟩, vk, va, hpg, ?_, ?_, K⟩
        · rw [hsp]; exact hbad
        · rw [hsp]; exact hrr
      · rw [if_pos (by rw [Bool.not_eq_true', beq_eq_false_iff_ne]; exact hcl)]
        have hlt' : lowV (wOf ps dd pt) (dd k) lo hi l1 < highV (wOf ps dd pt) (dd k) lo hi l1 := Int.lt_iff_le_and_ne.mpr ⟨hle, fun e => hcl (Int.sub_eq_zero.mpr e.symm)⟩
        have hBc : bOf ps dd (wOf ps dd pt) lo₀ hi₀ c = (lowV (wOf ps dd pt) (dd k) lo hi l1, highV (wOf ps dd pt) (dd k) lo hi l1) := by
          rw [hwin]
          unfold lowV highV at hlt' ⊢
          by_cases hd1 : dd k = 1
          · rw [if_pos hd1, if_pos hd1, if_pos hd1]
            rw [if_pos hd1, if_pos hd1] at hlt'
            rw [min_in hlt']
          · rw [if_neg hd1, if_neg hd1, if_neg hd1]
            rw [if_neg hd1, if_neg hd1] at hlt'
            rw [max_in hlt']
        have hvl := visR_len (V := opens ps (bOf ps dd (wOf ps dd pt) lo₀ hi₀)) (a := k + 1) (b := c)
        have hvc : visK ps en dd pt lo₀ hi₀ k = visR (opens ps (bOf ps dd (wOf ps dd pt) lo₀ hi₀)) (k + 1) c ++ (visK ps en dd pt lo₀ hi₀ c ++ visR (opens ps (bOf ps dd (wOf ps dd pt) lo₀ hi₀)) (en c) (en k)) := by
          rw [hvk, visR_split (m := c) hp (Nat.le_of_lt c3), visR_split (a := c) (m := en c) (Nat.le_of_lt c2) hcr.1]; rfl
        have hIH := ih c hc _ _ (rl ++ visR (opens ps (bOf ps dd (wOf ps dd pt) lo₀ hi₀)) (k + 1) c) σ hBc hlt' hpg hrr (by rw [List.length_append]; exact Nat.le_trans (Nat.add_le_add hrl hvl) (Nat.le_trans (Nat.add_le_add_right (Nat.le_succ k) _) (Nat.le_of_eq (Nat.add_sub_of_le hp))))
        unfold wkB
        refine wp_seq (wp_unpack (wp_call ?_))
        refine wp_lcons (wp_var vp (wp_lcons (wp_var vt (wp_lcons (wp_var vl (wp_lcons (wp_var vh (wp_lcons (wp_var vr (wp_lnil ?_))))))))))
        refine wp_mono hIH ?_ ?_
        · rintro v σ' ⟨nb, ⟨t, rfl, ht⟩, hrr', K'⟩
          refine ⟨_, _, rfl, ht, rfl, ?_⟩
          dsimp only [updAll]
          have hpg' := pageAt_keep hpg hrr h1 h2 h3 K'
          have hnb : bad ∉ visR (opens ps (bOf ps dd (wOf ps dd pt) lo₀ hi₀)) (k + 1) (en c) := by
            rw [visR_split (m := c) hp (Nat.le_of_lt c2)]
            intro h
            rcases List.mem_append.mp h with h | h
            · exact hbad h
            · exact nb h
          have hrr2 : σ'[rr]? = some (.list (natL (rl ++ visR (opens ps (bOf ps dd (wOf ps dd pt) lo₀ hi₀)) (k + 1) (en c)))) := by
            rw [hrr', List.append_assoc, visR_split (b := en c) (m := c) hp (Nat.le_of_lt c2)]; rfl
          have hne : ps k ≠ [] := by rw [e]; exact fun h => by cases l1 <;> cases h
          refine wk_two (c := c) (l := l1) (kn := kn) (kr := kr) hk (L.ki k hk hne) hlt' hlh (upd_go (by decide) (upd_go (by decide) vk)) (upd_go (by decide) (upd_go (by decide) va)) (upd_go (by decide) (upd_go (by decide) vl)) (upd_go (by decide) (upd_go (by decide) vh)) (upd_go (by decide) (upd_go (by decide) vb)) (upd_go (by decide) upd_eq) upd_eq hpg'.hk fun ρ' q1 q2 q3 q4 => ?_
          have g : ∀ y, y ≠ "low" → y ≠ "high" → y ≠ "best" → y ≠ "place" → y ≠ "worth" → ρ' y = ρ y := fun y a b c d e' => (q4 y a b c).trans ((upd_skip d).trans (upd_skip e'))
          have m1 : ρ' "ends" = some (.ref er) := (g _ (by decide) (by decide) (by decide) (by decide) (by decide)).trans ve
          have m2 : ρ' "part" = some (.int (c : Int)) := (g _ (by decide) (by decide) (by decide) (by decide) (by decide)).trans vt
          refine wp_assign (wp_eq (run_idx (k := c) (run_var m1) (run_var m2) hpg'.he (by rw [range_len]; decide) (range_get hkc.2)) ?_)
          dsimp only
          refine wp_mono (ihf r (l1 ++ [c]) (en c) (upd ρ' "part" (.int ((en c : Nat) : Int))) σ' (Nat.lt_of_succ_lt_succ hf) (by rw [e, List.append_assoc]; rfl) (Nat.le_trans hp (Nat.le_of_lt c2)) ?_ c4
            (upd_go (by decide) ((g _ (by decide) (by decide) (by decide) (by decide) (by decide)).trans vp)) (upd_go (by decide) ((g _ (by decide) (by decide) (by decide) (by decide) (by decide)).trans vk)) (upd_go (by decide) m1) (upd_go (by decide) ((g _ (by decide) (by decide) (by decide) (by decide) (by decide)).trans va)) (upd_go (by decide) ((g _ (by decide) (by decide) (by decide) (by decide) (by decide)).trans vr)) upd_eq
            (upd_go (by decide) q1) (upd_go (by decide) q2) (upd_go (by decide) q3) hpg' hnb hrr2 (fun x o hx h => K' x o hx (K x o hx h))) k0 fun _ _ _ h => h
          intro x hx
          rcases List.mem_append.mp hx with hx | hx
          · exact Nat.lt_trans (hl1 x hx) c2
          · rw [List.mem_singleton.mp hx]; exact c2
        · rintro cl m σ' ⟨b1, b2, b3, b4, b5⟩
          have hbm := visR_mem b1
          refine ⟨by rw [hvc]; exact List.mem_append_right _ (List.mem_append_left _ b1), b2, b3, ?_, fun x o hx h => b5 x o hx (K x o hx h)⟩
          rw [b4, hvc, List.filter_append, List.filter_append, filter_all (l := visR _ (k + 1) c) (fun x hx => decide_eq_true (Nat.lt_of_lt_of_le (visR_mem hx).2.1 hbm.1)), filter_none (l := visR _ (en c) (en k)) (fun x hx h => Nat.not_lt.mpr (Nat.le_trans (Nat.le_of_lt hbm.2.1) (visR_mem hx).1) (of_decide_eq_true h)), List.append_nil, List.append_assoc]
end hkp250
theorem walk_loop : ∀ {ps : Nat → List Nat} {en : Nat → Nat} {dd : Nat → Nat} {pt : Nat → Nat} {dp : Nat → Nat} {lo₀ : Int} {hi₀ : Int} {kn : Nat → Int} {tx : Nat → PySem.Str} {bad : Nat} {cb : Bool} {rr : Nat} {pg : Nat} {kr : Nat} {er : Nat} {xr : Nat} {self : List MV → MH → R MV} {k : Nat} {lo : Int} {hi : Int} {rl : List Nat} {σ₀ : MH}, hkp250.hS ps en dd pt dp lo₀ hi₀ kn tx bad cb rr pg kr er xr self k lo hi rl σ₀ := @fun ps en dd pt dp lo₀ hi₀ kn tx bad cb rr pg kr er xr self k lo hi rl σ₀ => ce_all (P := hkp250.hP) (default, default, default, default, default, default, default, default, default, default, default, default, default, default, default, default, fun _ _ => .stuck, default, default, default, default, default) (@hkp250.hT) (ps, en, dd, pt, dp, lo₀, hi₀, kn, tx, bad, cb, rr, pg, kr, er, xr, self, k, lo, hi, rl, σ₀)
section
variable {ps : Nat → List Nat} {en dd pt dp : Nat → Nat} {lo₀ hi₀ : Int} {kn : Nat → Int} {tx : Nat → Str} {bad : Nat} {cb : Bool} {rr pg kr er xr : Nat}
end
theorem lowV_nil {W : Nat → Nat} {d : Nat} {lo hi : Int} (h : lo < hi) : lowV W d lo hi [] = lo := by
  unfold lowV
  split
  · show min hi lo = lo
    exact Int.min_eq_right (Int.le_of_lt h)
  · rfl
theorem highV_nil {W : Nat → Nat} {d : Nat} {lo hi : Int} (h : lo < hi) : highV W d lo hi [] = hi := by
  unfold highV
  split
  · rfl
  · show max lo hi = hi
    exact Int.max_eq_right (Int.le_of_lt h)
section
variable {ps : Nat → List Nat} {en dd pt dp : Nat → Nat} {lo₀ hi₀ : Int} {kn : Nat → Int} {tx : Nat → Str} {bad : Nat} {cb : Bool} {rr pg kr er xr : Nat}
theorem walk_all (L : Law ps en dd pt dp lo₀ hi₀ kn tx bad cb) (h0 : rr ≠ 0) (h1 : kr ≠ rr) (h2 : er ≠ rr) (h3 : xr ≠ rr) (hsz : ∀ k, (ps k).length ≤ 9) :
    ∀ (f k : Nat) (lo hi : Int) (rl : List Nat) (σ : MH), 5 ≤ f + dp k → k < 9 → bOf ps dd (wOf ps dd pt) lo₀ hi₀ k = (lo, hi) → lo < hi → PageAt σ pg kr er xr kn en tx → σ[rr]? = some (.list (natL rl)) → rl.length ≤ k →
      Wp (walkG f [.ref pg, .int (k : Int), .int lo, .int hi, .ref rr] σ) (WPost ps en dd pt lo₀ hi₀ bad rr k lo hi rl σ) (XPost ps en dd pt lo₀ hi₀ tx bad cb rr k rl σ) := by
  intro f
  induction f with
  | zero => intro k lo hi rl σ hf; exact absurd (Nat.le_trans hf (Nat.le_trans (Nat.le_of_eq (Nat.zero_add _)) (L.d4 k))) (by decide)
  | succ f ih =>
    intro k lo hi rl σ hf hk hB hlh hp hr hrl
    by_cases hl : ps k = []
    · exact walk_leaf L h0 h1 h2 h3 hk hl hB hlh hp hr hrl
    · have hki := L.ki k hk hl
      have hC := L.P.C k hk
      have hCle := (chain_le _ _ hC).1
      have hvk : visK ps en dd pt lo₀ hi₀ k = visR (opens ps (bOf ps dd (wOf ps dd pt) lo₀ hi₀)) (k + 1) (en k) := by
        unfold visK
        rw [visR_split (m := k + 1) (Nat.le_succ k) hCle, visR_one, if_neg]
        · rfl
        · unfold opens
          rw [List.isEmpty_eq_false_iff.mpr hl, Bool.false_and]; decide
      unfold walkG
      refine wp_def rfl ?_
      unfold walkB
      dsimp only [updAll]
      refine box fun GZ kZ => ?_
      obtain ⟨p1, p2, p3, p4⟩ := id hp
      refine kZ ?_
      clear kZ GZ
      have k1 := place9 (f := fun i => MV.int (kn i)) hk
      have k2 := range_get (f := fun i => MV.int (kn i)) hk
      have k5 : ¬ decide (kn k ≥ 256) = true := fun h => absurd (of_decide_eq_true h) (by rw [hki]; split <;> decide)
      refine wp_seq (wp_unpackT (i := pg) (τ := σ) (wp_var (by walk_at "pn") rfl) p1 rfl ?_)
      dsimp only [updAll]
      walk_at "pt"
      walk_at "pt"
      walk_at "pt"
      refine wp_seq (wp_while (wp_mono (walk_loop L h0 h1 h2 h3 (self := walkG f) (k := k) (lo := lo) (hi := hi) (rl := rl) (σ₀ := σ) hk hB hlh hrl hvk ?_ 40 (ps k) [] (k + 1) _ σ (Nat.lt_of_le_of_lt (hsz k) (by decide)) rfl (Nat.le_refl _) (fun x hx => nomatch hx) hC
        (by walk_at "pn") (by walk_at "pn") (by walk_at "pn") (by walk_at "pn") (by walk_at "pn") ?_ ?_ ?_ ?_ hp (by rw [visR_nil]; exact fun h => nomatch h) (by rw [visR_nil, List.append_nil]; exact hr) (fun x o _ h => h)) ?_ (fun _ _ _ h => h)))
      · intro c hc lo hi rl σ a1 a2 a3 a4 a5
        exact ih c lo hi rl σ (by rw [L.dk k c hc, ← Nat.add_assoc, Nat.add_right_comm]; exact hf) (L.P.T.up k c hc).2 a1 a2 a3 a4 a5
      · show _ = some (MV.int ((k : Int) + 1))
        walk_at "pn"
      · rw [lowV_nil hlh]; walk_at "pn"
      · rw [highV_nil hlh]; walk_at "pn"
      · have : bstV ps (wOf ps dd pt) (dd k) lo hi [] = .none := by
          unfold bstV bestV
          split
          · rw [if_neg]; exact fun h => Int.lt_irrefl lo h.1
          · rw [if_neg]; exact fun h => Int.lt_irrefl hi h.2
        rw [this]; walk_at "pn"
      · rintro ⟨f', ρ⟩ σ' hb1
        refine box fun GZ kZ => ?_
        obtain ⟨a1, ⟨l, r', e, hcl, vl, vh, vb⟩, vk, va, hp', hnb, hr', K⟩ := hb1
        refine kZ ?_
        clear kZ GZ
        dsimp only at a1 vl vh vb vk va
        subst a1
        refine box fun GZ kZ => ?_
        obtain ⟨q1, q2, q3, q4⟩ := id hp'
        refine kZ ?_
        clear kZ GZ
        dsimp only
        refine wp_ret (wp_tup (wp_lcons (wp_eif (wp_tOf (wp_cmp (wp_bin (wp_eq (run_idx (k := k) (run_var vk) (run_var va) q2 (by rw [range_len]; decide) k2) (wp_val (wp_ceq (r := (kn k == 20)) rfl ⟨_, rfl, ?_⟩)))))))))
        have post : ∀ (w : Int) (v : MV), w = clipI (wOf ps dd pt k : Nat) lo hi → v = placeV ps (wOf ps dd pt) lo hi k → WPost ps en dd pt lo₀ hi₀ bad rr k lo hi rl σ (.ref σ'.length) (σ' ++ [.tup [.int w, v]]) := by
          rintro w v rfl rfl
          exact ⟨hnb, ⟨_, rfl, get_last⟩, get_old hr', fun x o hx h => get_old (K x o hx h)⟩
        by_cases hd1 : dd k = 1
        · rw [if_pos hd1] at hki
          unfold lowV highV at hcl
          unfold lowV at vl
          unfold bstV at vb
          rw [if_pos hd1] at vl vb
          rw [if_pos hd1, if_pos hd1] at hcl
          have hfin := fin_max (pt := pt) L.P.T hk hd1 hl e (by rcases hcl with h | h; exact .inl h; exact .inr (Int.le_trans h (Int.min_le_right ..))) hlh
          rw [if_neg (by rw [hki]; decide)]
          refine wp_var vl (wp_lcons (wp_var vb (wp_lnil ⟨by simp [maxLen], ?_⟩)))
          exact post _ _ hfin.1 hfin.2
        · rw [if_neg hd1] at hki
          unfold lowV highV at hcl
          unfold highV at vh
          unfold bstV at vb
          rw [if_neg hd1] at vh vb
          rw [if_neg hd1, if_neg hd1] at hcl
          have hfin := fin_min (pt := pt) L.P.T hk hd1 hl e (by rcases hcl with h | h; exact .inl h; exact .inr (Int.le_trans (Int.le_max_right ..) h)) hlh
          rw [if_pos (by rw [hki]; decide)]
          refine wp_var vh (wp_lcons (wp_var vb (wp_lnil ⟨by simp [maxLen], ?_⟩)))
          exact post _ _ hfin.1 hfin.2
end
noncomputable def psOf (cs : List Nat) (k : Nat) : List Nat := (partsL (dsOf cs) 8).getD k []
noncomputable def enOf (cs : List Nat) (k : Nat) : Nat := (endsAt (dsOf cs) 9).getD k 0
noncomputable def chainOk (ds : List Nat) : Bool := ((endsAt ds 9).getD 0 0 == 9) && (List.range 9).all fun k => chainB (fun i => (endsAt ds 9).getD i 0) ((endsAt ds 9).getD k 0) (k + 1) ((partsL ds 8).getD k [])
theorem chain_all : (shapes 8).all chainOk = true := by decide +kernel
theorem mem_parts (ds : List Nat) : ∀ n k j, j ∈ (partsL ds n).getD k [] → 1 ≤ j ∧ j ≤ n ∧ parentL ds j = k
  | 0, k, j, h => by
    cases k with
    | zero => exact nomatch h
    | succ k => exact nomatch h
  | n + 1, k, j, h => by
    rcases Nat.lt_or_ge n k with hk | hk
    · rcases Nat.lt_or_ge (n + 1) k with hk' | hk'
      · rw [List.getD_eq_getElem?_getD, List.getElem?_eq_none (by rw [parts_len]; exact hk')] at h; exact nomatch h
      · rw [show k = n + 1 from Nat.le_antisymm hk' hk, parts_new] at h; exact nomatch h
    · rw [parts_get ds hk] at h
      split at h
      · rename_i e
        rcases List.mem_append.mp h with h | h
        · obtain ⟨h1, h2, h3⟩ := mem_parts ds n k j h
          exact ⟨h1, Nat.le_succ_of_le h2, h3⟩
        · rw [List.mem_singleton.mp h]; exact ⟨Nat.succ_pos n, Nat.le_refl _, e.symm⟩
      · obtain ⟨h1, h2, h3⟩ := mem_parts ds n k j h
        exact ⟨h1, Nat.le_succ_of_le h2, h3⟩
theorem kid_facts {cs : List Nat} {k j : Nat} (h : j ∈ psOf cs k) : k < j ∧ j < 9 ∧ parentL (dsOf cs) j = k ∧ dAt cs j = dAt cs k + 1 := by
  obtain ⟨h1, h2, h3⟩ := mem_parts _ 8 k j h
  obtain ⟨m, rfl⟩ : ∃ m, j = m + 1 := ⟨j - 1, (Nat.sub_add_cancel h1).symm⟩
  obtain ⟨p, p1, p2, p3, p4⟩ := kids_last (cs := cs) (k := m) h2
  rw [h3] at p2
  subst p2
  exact ⟨Nat.lt_succ_of_le p3, Nat.lt_succ_of_le h2, h3, by rw [p4, Nat.sub_add_cancel (by rw [dAt_succ]; exact Nat.succ_pos _)]⟩
theorem page_of (cs : List Nat) : Page (psOf cs) (enOf cs) := by
  refine ⟨⟨fun k j h => ?_, fun k k' j h h' => ?_⟩, fun k hk => ?_⟩
  · have := kid_facts h; exact ⟨this.1, this.2.1⟩
  · have h1 := (kid_facts h).2.2.1; have h2 := (kid_facts h').2.2.1; exact h1.symm.trans h2
  · have := List.all_eq_true.mp chain_all _ (ds_in cs)
    unfold chainOk at this
    rw [Bool.and_eq_true] at this
    exact List.all_eq_true.mp this.2 k (List.mem_range.mpr hk)
theorem en_zero (cs : List Nat) : enOf cs 0 = 9 := by
  have := List.all_eq_true.mp chain_all _ (ds_in cs)
  unfold chainOk at this
  rw [Bool.and_eq_true] at this
  exact eq_of_beq this.1
theorem ends_list (cs : List Nat) : natL (endsAt (dsOf cs) 9) = (List.range 9).map fun i => .int ((enOf cs i : Nat) : Int) := by
  have hl := endsAt_len (dsOf cs) 9
  have : endsAt (dsOf cs) 9 = (List.range 9).map (enOf cs) := by
    refine List.ext_getElem? fun i => ?_
    rw [List.getElem?_map]
    rcases Nat.lt_or_ge i 9 with h | h
    · rw [List.getElem?_range h, List.getElem?_eq_getElem (Nat.lt_of_lt_of_eq h hl.symm)]
      show _ = some ((endsAt (dsOf cs) 9).getD i 0)
      rw [List.getD_eq_getElem?_getD, List.getElem?_eq_getElem (Nat.lt_of_lt_of_eq h hl.symm)]; rfl
    · rw [List.getElem?_eq_none (Nat.le_trans (Nat.le_of_eq hl) h), List.getElem?_eq_none (by rw [List.length_range]; exact h)]; rfl
  rw [this, natL_map]
theorem wp_try {a h0 h1 : ED} {x : String} {ρ : MEnv} {σ : MH} {Q : MF × MEnv → MH → Prop} {X : Bool → Str → MH → Prop} (h : Wp (a ρ σ) (fun v σ₁ => Q (.ret v, ρ) σ₁) (fun c m σ₁ => Wp ((if c then h1 else h0) (upd ρ x (.str m)) σ₁) (fun v σ₂ => Q (.ret v, ρ) σ₂) (fun _ _ _ => False))) : Wp (sTry a x h0 h1 ρ σ) Q X := by
  unfold sTry
  revert h
  cases a ρ σ with
  | stuck => exact fun h => h.elim
  | ok v σ₁ => exact fun h => h
  | exc c m σ₁ =>
    intro h
    dsimp only
    have h' : Wp ((if c then h1 else h0) (upd ρ x (.str m)) σ₁) (fun v σ₂ => Q (.ret v, ρ) σ₂) (fun _ _ _ => False) := h
    revert h'
    cases (if c then h1 else h0) (upd ρ x (.str m)) σ₁ with
    | stuck => exact fun h => h.elim
    | ok v σ₂ => exact fun h => h
    | exc c m σ₂ => exact fun h => h.elim
section
variable {ps : Nat → List Nat} {en dd pt dp : Nat → Nat} {lo₀ hi₀ : Int} {kn : Nat → Int} {tx : Nat → Str} {bad : Nat} {cb : Bool} {pg kr er xr : Nat}
theorem run_told (L : Law ps en dd pt dp lo₀ hi₀ kn tx bad cb) (hsz : ∀ k, (ps k).length ≤ 9) (hlh : lo₀ < hi₀) {σ₀ : MH} (h0 : σ₀.length ≠ 0) (hp : PageAt σ₀ pg kr er xr kn en tx) :
    Wp (toldF [.ref pg, .int lo₀, .int hi₀] σ₀) (fun v σ' => ∃ t d r, v = .ref t ∧ σ'[t]? = some (.tup [.ref d, .ref r]) ∧
      (bad ∉ visK ps en dd pt lo₀ hi₀ 0 → σ'[d]? = some (.tup [.int (clipI (wOf ps dd pt 0 : Nat) lo₀ hi₀), placeV ps (wOf ps dd pt) lo₀ hi₀ 0]) ∧ σ'[r]? = some (.list (natL (visK ps en dd pt lo₀ hi₀ 0)))) ∧
      (bad ∈ visK ps en dd pt lo₀ hi₀ 0 → σ'[d]? = some (.tup [.str (if cb then Str.ofString "form" else Str.ofString "code"), .str (tx bad)]) ∧ σ'[r]? = some (.list (natL ((visK ps en dd pt lo₀ hi₀ 0).filter fun i => decide (i < bad))))) ∧
      ∀ (x : Nat) (o : MO), σ₀[x]? = some o → σ'[x]? = some o) noX := by
  have hB0 : bOf ps dd (wOf ps dd pt) lo₀ hi₀ 0 = (lo₀, hi₀) := bOf_zero L.P.T
  refine boxQ fun G0 k0 => ?_
  refine wp_def rfl ?_
  unfold toldB
  dsimp only [updAll]
  walk_at "pt"
  refine wp_try ?_
  have hpg : PageAt (σ₀ ++ [MO.list []]) pg kr er xr kn en tx := ⟨get_old hp.hp, get_old hp.hk, get_old hp.he, get_old hp.hx⟩
  have l1 := get_lt hp.hk
  have l2 := get_lt hp.he
  have l3 := get_lt hp.hx
  have W := walk_all L (rr := σ₀.length) h0 (by lia) (by lia) (by lia) hsz 6 0 lo₀ hi₀ [] (σ₀ ++ [MO.list []]) (by lia) (by decide) hB0 hlh hpg get_last (Nat.le_refl _)
  have KK : ∀ {σ' : MH}, (∀ (x : Nat) (o : MO), x ≠ σ₀.length → (σ₀ ++ [MO.list []])[x]? = some o → σ'[x]? = some o) → ∀ (x : Nat) (o : MO), σ₀[x]? = some o → σ'[x]? = some o := fun K x o h => K x o (by have := get_lt h; lia) (get_old h)
  refine wp_tup (wp_lcons (wp_call (wp_lcons (wp_var (by walk_at "pn") (wp_lcons (wp_val (wp_lcons (wp_var (by walk_at "pn") (wp_lcons (wp_var (by walk_at "pn") (wp_lcons (wp_var (by walk_at "pn") (wp_lnil ?_)))))))))))))
  refine wp_mono W ?_ ?_
  · rintro v σ' ⟨nb, ⟨t, rfl, ht⟩, hr, K⟩
    refine wp_lcons (wp_var (by walk_at "pn") (wp_lnil ⟨by simp [maxLen], ?_⟩))
    refine k0 _ _ ⟨_, _, _, rfl, get_last, fun _ => ⟨get_old ht, get_old hr⟩, fun h => absurd h nb, fun x o h => get_old (KK K x o h)⟩
  · rintro c m σ' ⟨b1, hc, hm, b4, K⟩
    subst hm
    have fin : ∀ s : Str, s = (if cb = true then Str.ofString "form" else Str.ofString "code") → Wp ((eTup (lCons (eTup (lCons (eVal (.str s)) (lCons (eVar "fault") lNil))) (lCons (eVar "read") lNil))) (upd (upd (upd (upd (upd (fun _ => none) "page" (MV.ref pg)) "low" (MV.int lo₀)) "high" (MV.int hi₀)) "read" (MV.ref σ₀.length)) "fault" (.str (tx bad))) σ')
        G0 noX := by
      rintro s rfl
      refine wp_tup (wp_lcons (wp_tup (wp_lcons (wp_val (wp_lcons (wp_var upd_eq (wp_lnil ⟨by simp [maxLen], wp_lcons (wp_var (by walk_at "pn") (wp_lnil ⟨by simp [maxLen], ?_⟩))⟩)))))))
      exact k0 _ _ ⟨_, _, _, rfl, get_last, fun h => absurd b1 h, fun _ => ⟨get_old get_last, get_old (get_old b4)⟩, fun x o h => get_old (get_old (KK K x o h))⟩
    subst hc
    by_cases hc : c = true
    · rw [if_pos hc]
      exact fin _ (by rw [if_pos hc])
    · rw [if_neg hc]
      exact fin _ (by rw [if_neg hc])
end
theorem fmod_n (m : Nat) (n : Nat) (z : Int) (h : z = (n : Int)) : Int.fmod (m : Int) z = ((m % n : Nat) : Int) := by subst h; exact (Int.ofNat_fmod m n).symm
theorem fdiv_n (m : Nat) (n : Nat) (z : Int) (h : z = (n : Int)) : Int.fdiv (m : Int) z = ((m / n : Nat) : Int) := by subst h; exact (Int.ofNat_fdiv m n).symm
theorem mark_eq {a : Nat} (h : a < 4) : Txt.item (Str.ofString "|!<\"") (a : Int) = markOf a := by
  have : a = 0 ∨ a = 1 ∨ a = 2 ∨ a = 3 := (by decide : ∀ a, a < 4 → a = 0 ∨ a = 1 ∨ a = 2 ∨ a = 3) a h
  rcases this with rfl | rfl | rfl | rfl <;> decide +kernel
theorem run_replyN (p sh f : Nat) (σ : MH) (hp : p < 10) (hsh : sh ≤ 1000000) (hf : f ≤ 8) : ∃ ext, replyF [.int (p : Int), .int (sh : Int), .int (f : Int)] σ = .ok (.str (replyT p (sh % 4) (sh / 4 % 2) (sh / 8 % 2) f)) (σ ++ ext) := by
  have e4 := fmod_n sh 4 4 rfl
  have d4 := fdiv_n sh 4 4 rfl
  have d8 := fdiv_n sh 8 8 rfl
  have b1 := fmod_n (sh / 4) 2 2 rfl
  have b2 := fmod_n (sh / 8) 2 2 rfl
  have l4 : sh % 4 < 4 := Nat.mod_lt _ (by decide)
  have l2 : sh / 4 % 2 < 2 := Nat.mod_lt _ (by decide)
  have l8 : sh / 8 % 2 < 2 := Nat.mod_lt _ (by decide)
  have c1 : ([.str (Str.ofString ""), .str (Str.ofString "7")] : List MV)[sh / 4 % 2]? = some (.str (f1Of (sh / 4 % 2))) := by
    have : sh / 4 % 2 = 0 ∨ sh / 4 % 2 = 1 := Nat.mod_two_eq_zero_or_one _
    rcases this with h | h <;> rw [h] <;> decide +kernel
  have c2 : ([.str (Str.ofString ""), .str (Str.ofString "2")] : List MV)[sh / 8 % 2]? = some (.str (f2Of (sh / 8 % 2))) := by
    have : sh / 8 % 2 = 0 ∨ sh / 8 % 2 = 1 := Nat.mod_two_eq_zero_or_one _
    rcases this with h | h <;> rw [h] <;> decide +kernel
  have c3 : (f1Of (sh / 4 % 2)).length ≤ 1 := by unfold f1Of; split <;> decide +kernel
  have c4 : (f2Of (sh / 8 % 2)).length ≤ 1 := by unfold f2Of; split <;> decide +kernel
  have c5 : 0 ≤ Int.fmod (sh : Int) 4 ∧ Int.fmod (sh : Int) 4 < ((Str.ofString "|!<\"").length : Int) ∧ Int.fmod (sh : Int) 4 < 1000000 := by
    rw [e4, show (Str.ofString "|!<\"").length = 4 by decide +kernel]; exact ⟨Int.natCast_nonneg _, Int.ofNat_lt.mpr l4, Int.lt_trans (Int.ofNat_lt.mpr l4) (by decide)⟩
  obtain ⟨ext, h⟩ := run_reply (p : Int) (sh : Int) (f : Int) σ (sh / 4 % 2) (sh / 8 % 2) (f1Of (sh / 4 % 2)) (f2Of (sh / 8 % 2)) ⟨Int.natCast_nonneg _, Int.ofNat_lt.mpr hp⟩ (small_nat hsh) ⟨Int.natCast_nonneg _, Int.ofNat_le.mpr hf⟩
    c5 (by rw [d4, b1]; exact place_nat l2 (by decide)) (by rw [d8, b2]; exact place_nat l8 (by decide)) c1 c2 c3 c4
  refine ⟨ext, ?_⟩
  rw [h, e4, mark_eq l4, replyS_eq hf]
  rfl
theorem app_list (x y : Str) : (x ++ y).cps.toList = x.cps.toList ++ y.cps.toList := by
  show (Array.append x.cps y.cps).toList = _
  simp
theorem reply_head (p a b c : Nat) : ∃ r, (replyT p a b c 8).cps.toList = 50 :: r := by
  unfold replyT replyS'
  dsimp only
  rw [if_neg (by decide), if_neg (by decide), if_neg (by decide), if_neg (by decide), if_neg (by decide), if_neg (by decide), if_neg (by decide), if_neg (by decide)]
  rw [app_list, app_list, app_list]
  exact ⟨_, rfl⟩
noncomputable def pickI (ns : List Int) (k : Nat) : List Int :=
  (sliceRange (sliceBounds (some (k : Int)) none (some 9) ns.length).1 (sliceBounds (some (k : Int)) none (some 9) ns.length).2.1 (sliceBounds (some (k : Int)) none (some 9) ns.length).2.2).filterMap (ns[·]?)
theorem filterMap_map_get (ns : List Int) : ∀ l : List Nat, l.filterMap ((ns.map MV.int)[·]?) = (l.filterMap (ns[·]?)).map MV.int
  | [] => rfl
  | i :: l => by
    cases h : ns[i]? with
    | none => rw [List.filterMap_cons_none (by rw [List.getElem?_map, h]; rfl), List.filterMap_cons_none h, filterMap_map_get ns l]
    | some v => rw [List.filterMap_cons_some (b := MV.int v) (by rw [List.getElem?_map, h]; rfl), List.filterMap_cons_some h, filterMap_map_get ns l]; rfl
theorem pick_map (ns : List Int) (k : Nat) : pick9 (ns.map .int) (k : Int) = (pickI ns k).map .int := by
  unfold pick9 pickI
  rw [List.length_map, filterMap_map_get]
theorem pick_len (ns : List Int) (k : Nat) : (pickI ns k).length ≤ ns.length := by
  unfold pickI
  refine Nat.le_trans (List.length_filterMap_le _ _) (sliceRange_length_le _ _ _ _ (fun hc => ?_) fun hc => ?_)
  · simp only [sliceBounds] at hc ⊢
    simp only [hc, if_true]
    constructor
    · exact Int.le_max_left ..
    · simp
  · simp only [sliceBounds] at hc ⊢
    simp at hc
theorem ints_map : ∀ l : List Int, ints? (l.map .int) = some l
  | [] => rfl
  | a :: l => by
    show ints? (.int a :: l.map .int) = _
    unfold ints?
    rw [ints_map l]; rfl
noncomputable def firsts : List Int := [5797, 4116, 12, 481, 26, 3027, 2367, 9038, 11629]
noncomputable def cellAt (ns : List Int) (k : Nat) : Nat := (Int.fmod (firsts.getD k 0 + (pickI ns k).sum) 1000000).toNat
noncomputable def cellsOf (ns : List Int) : List Nat := (List.range 9).map (cellAt ns)
theorem cell_cast (ns : List Int) (k : Nat) : ((cellAt ns k : Nat) : Int) = Int.fmod (firsts.getD k 0 + (pickI ns k).sum) 1000000 := by
  unfold cellAt
  exact Int.toNat_of_nonneg (Int.fmod_nonneg_of_pos _ (by decide))
theorem cell_lt (ns : List Int) (k : Nat) : cellAt ns k < 1000000 := by
  have h := cell_cast ns k
  have := Int.fmod_lt_of_pos (firsts.getD k 0 + (pickI ns k).sum) (show (0 : Int) < 1000000 by decide)
  exact Int.ofNat_lt.mp (by rw [h]; exact this)
theorem cells_get {ns : List Int} {k : Nat} (h : k < 9) : (cellsOf ns).getD k 0 = cellAt ns k := by
  unfold cellsOf
  rw [List.getD_eq_getElem?_getD, range_get h]; rfl
theorem run_cells {ns : List Int} (hn : ns.length ≤ 63) {ρ : MEnv} {σ : MH} {fr sr : Nat} (vf : ρ "firsts" = some (.ref fr)) (vs : ρ "script" = some (.ref sr)) (hf : σ[fr]? = some (.list (firsts.map .int))) (hs : σ[sr]? = some (.list (ns.map .int))) :
    ∃ ext, eComp (eBin opMod (eBin opAdd (eIdx (eVar "firsts") (eVar "k")) (eUn fSum (eSlBy9 (eVar "script") (eVar "k")))) (eBin opPow (eVal (.int 10)) (eVal (.int 6)))) "k" ["firsts", "script"] (rRange1 (eVal (.int 9))) tTrue ρ σ =
      .ok (.ref (σ ++ ext).length) (σ ++ (ext ++ [.list (natL (cellsOf ns))])) := by
  have key := run_compX (e := eBin opMod (eBin opAdd (eIdx (eVar "firsts") (eVar "k")) (eUn fSum (eSlBy9 (eVar "script") (eVar "k")))) (eBin opPow (eVal (.int 10)) (eVal (.int 6)))) (x := "k") (fv := ["firsts", "script"]) (src := rRange1 (eVal (.int 9))) (t := tTrue) (ρ := ρ) (σ := σ) (r := .range 0 1 9)
    (optN fun k => some (cellAt ns k)) (run_range1 (n := 9) rfl (by decide)) (by decide) (fun _ => rfl) ?_
  · obtain ⟨ext, he⟩ := key
    refine ⟨ext, ?_⟩
    rw [he, items0, filterMap_natL]
    unfold cellsOf
    rw [List.filterMap_eq_map']
  · intro v hv ext
    rw [items0] at hv
    obtain ⟨k, hk, rfl⟩ := mem_natL hv
    have hk := List.mem_range.mp hk
    refine wp_tTrue ⟨ext, rfl, ?_⟩
    rw [if_pos rfl]
    have n1 : upd (seen ρ ["firsts", "script"]) "k" (.int (k : Int)) "firsts" = some (.ref fr) := upd_go (by decide) ((seen_skip (by decide +kernel)).trans vf)
    have n2 : upd (seen ρ ["firsts", "script"]) "k" (.int (k : Int)) "script" = some (.ref sr) := upd_go (by decide) ((seen_skip (by decide +kernel)).trans vs)
    have hfk : (firsts.map MV.int)[k]? = some (.int (firsts.getD k 0)) := by
      rw [List.getElem?_map, List.getElem?_eq_getElem (by exact hk), List.getD_eq_getElem?_getD, List.getElem?_eq_getElem (by exact hk)]; rfl
    refine wp_bin (wp_bin (wp_eq (run_idx (k := k) (run_var n1) (run_var upd_eq) (get_old hf) (by decide) hfk) (wp_un (wp_eslBy9 (wp_bin (wp_var n2 (wp_var upd_eq ?_)))))))
    refine wp_slBy9 (get_old hs) ?_ ?_
    · unfold okB
      rw [List.length_map, decide_eq_true (by lia), decide_eq_true (by lia), decide_eq_true (by unfold maxLen; lia)]; rfl
    rw [pick_map]
    refine wp_over get_last (ints_map _) rfl (by rw [List.length_map]; have := pick_len ns k; unfold maxLen; lia) ?_
    refine wp_eq rfl (wp_bin (wp_val (wp_val (wp_eq (a := .int 1000000) rfl (wp_mod (by decide) ⟨⟨_, List.append_assoc _ _ _⟩, ?_⟩)))))
    rw [← cell_cast]
    show ((fun k => some (cellAt ns k)) ((k : Int).toNat)).map (fun (k : Nat) => MV.int (k : Int)) = _
    rw [Int.toNat_natCast]; rfl
theorem run_compN {e : ED} {fv : List String} {src : RD} {ρ : MEnv} {σ : MH} {r : Src} {l : List Nat} (g : Nat → Nat) (hs : src ρ σ = .ok r σ) (hi : r.items = natL l) (hl : l.length ≤ 1000) (hst : r.stands σ = true)
    (H : ∀ k ∈ l, e (upd (seen ρ fv) "k" (.int (k : Int))) σ = .ok (.int ((g k : Nat) : Int)) σ) : eComp e "k" fv src tTrue ρ σ = .ok (.ref σ.length) (σ ++ [.list (natL (l.map g))]) := by
  have key := run_comp (e := e) (x := "k") (fv := fv) (t := tTrue) (ρ := ρ) (σ := σ) (optN fun k => some (g k)) hs (by rw [hi, natL_len]; exact hl) hst ?_
  · rw [key, hi, filterMap_natL, List.filterMap_eq_map']
  · intro v hv
    rw [hi] at hv
    obtain ⟨k, hk, rfl⟩ := mem_natL hv
    refine wp_tTrue ⟨rfl, ?_⟩
    rw [if_pos rfl]
    refine wp_eq (H k hk) ⟨rfl, ?_⟩
    show ((fun k => some (g k)) ((k : Int).toNat)).map (fun (k : Nat) => MV.int (k : Int)) = _
    rw [Int.toNat_natCast]; rfl
theorem filterMap_str (s : Nat → Str) : ∀ l : List Nat, (natL l).filterMap (fun | .int i => some (MV.str (s i.toNat)) | _ => none) = l.map fun k => MV.str (s k)
  | [] => rfl
  | a :: l => by
    have ih := filterMap_str s l
    show List.filterMap _ (MV.int (a : Int) :: natL l) = _
    rw [List.filterMap_cons_some (b := MV.str (s a)) (by show some (MV.str (s ((a : Int).toNat))) = _; rw [Int.toNat_natCast]), ih]; rfl
theorem run_compS {e : ED} {fv : List String} {src : RD} {ρ : MEnv} {σ : MH} {r : Src} {l : List Nat} (s : Nat → Str) (hs : src ρ σ = .ok r σ) (hi : r.items = natL l) (hl : l.length ≤ 1000) (hst : ∀ ext, r.stands (σ ++ ext) = true)
    (H : ∀ k ∈ l, ∀ ext, Wp (e (upd (seen ρ fv) "k" (.int (k : Int))) (σ ++ ext)) (fun y σ₂ => (∃ ext'', σ₂ = σ ++ ext'') ∧ y = .str (s k)) noX) :
    ∃ ext, eComp e "k" fv src tTrue ρ σ = .ok (.ref (σ ++ ext).length) (σ ++ (ext ++ [.list (l.map fun k => .str (s k))])) := by
  have key := run_compX (e := e) (x := "k") (fv := fv) (t := tTrue) (ρ := ρ) (σ := σ) (fun | .int i => some (MV.str (s i.toNat)) | _ => none) hs (by rw [hi, natL_len]; exact hl) hst ?_
  · obtain ⟨ext, he⟩ := key
    refine ⟨ext, ?_⟩
    rw [he, hi, filterMap_str]
  · intro v hv ext
    rw [hi] at hv
    obtain ⟨k, hk, rfl⟩ := mem_natL hv
    refine wp_tTrue ⟨ext, rfl, ?_⟩
    rw [if_pos rfl]
    refine wp_mono (H k hk ext) ?_ (fun _ _ _ h => h)
    rintro y σ₂ ⟨h1, rfl⟩
    refine ⟨h1, ?_⟩
    show some (MV.str (s ((k : Int).toNat))) = _
    rw [Int.toNat_natCast]
theorem items1 : (Src.range 1 1 8).items = natL [1, 2, 3, 4, 5, 6, 7, 8] := by decide
section
variable (ns : List Int)
noncomputable def ddS (k : Nat) : Nat := if k = 0 then cellAt ns 0 % 2 else cellAt ns k / 480 % 2
noncomputable def ptS (k : Nat) : Nat := cellAt ns k / 48 % 10
noncomputable def psS (k : Nat) : List Nat := psOf (cellsOf ns) k
noncomputable def enS (k : Nat) : Nat := enOf (cellsOf ns) k
noncomputable def loS : Int := ((cellAt ns 0 / 2 % 6 : Nat) : Int) - 1
noncomputable def hiS : Int := loS ns + 1 + ((cellAt ns 0 / 12 % 11 : Nat) : Int)
noncomputable def flawS : Nat := cellAt ns 0 / 1188 % 8
noncomputable def repS (k f : Nat) : Str := replyT (ptS ns k) (cellAt ns k / 960 % 4) (cellAt ns k / 960 / 4 % 2) (cellAt ns k / 960 / 8 % 2) f
noncomputable def txS (k : Nat) : Str := if (psS ns k).isEmpty = true then repS ns k 8 else if ddS ns k = 1 then ⟨#[62]⟩ else ⟨#[60]⟩
noncomputable def kdS (k : Nat) : Option Int := if (psS ns k).isEmpty = true then none else some (if ddS ns k = 1 then 21 else 20)
end
theorem dd_two (ns : List Int) (k : Nat) : ddS ns k < 2 := by unfold ddS; split <;> exact Nat.mod_lt _ (by decide)
theorem tok_head : ∀ e ∈ tokTab, e.1.cps.toList.head? ≠ some 50 := by
  have : (tokTab.all fun e => !(e.1.cps.toList.head? == some 50)) = true := by decide +kernel
  intro e he h
  have := List.all_eq_true.mp this e he
  rw [h] at this; cases this
theorem lookup_none {β : Type} : ∀ (t : List (Str × β)) (s : Str), (∀ e ∈ t, e.1.cps.toList.head? ≠ some 50) → s.cps.toList.head? = some 50 → t.lookup s = none
  | [], _, _, _ => rfl
  | (a, b) :: t, s, h, hs => by
    rw [List.lookup_cons]
    have hne : (s == a) = false := by
      rw [beq_eq_false_iff_ne]
      rintro rfl
      exact h (s, b) (List.mem_cons_self ..) hs
    rw [hne]
    exact lookup_none t s (fun e he => h e (List.mem_cons_of_mem _ he)) hs
theorem tx_lookup (ns : List Int) (k : Nat) : tokTab.lookup (txS ns k) = kdS ns k := by
  unfold txS kdS
  split
  · obtain ⟨r, hr⟩ := reply_head (ptS ns k) (cellAt ns k / 960 % 4) (cellAt ns k / 960 / 4 % 2) (cellAt ns k / 960 / 8 % 2)
    exact lookup_none _ _ tok_head (by unfold repS; rw [hr]; rfl)
  · split <;> decide +kernel
theorem reply_len (p a b c f : Nat) : (replyT p a b c f).length ≤ 60 := by
  have l1 : (digit (p : Int)).length = 1 := rfl
  have l2 : (markOf a).length = 1 := rfl
  have l3 : (f1Of b).length ≤ 1 := by unfold f1Of; split <;> decide
  have l4 : (f2Of c).length ≤ 1 := by unfold f2Of; split <;> decide
  have lj : ∀ zs : List Str, (zs.map (·.length)).sum ≤ 4 → zs.length ≤ 4 → (Txt.join (markOf a) zs).length ≤ 8 := fun zs h1 h2 => by
    have := len_join (markOf a) zs
    rw [l2] at this; lia
  have la : ∀ x y : Str, (x ++ y).length = x.length + y.length := len_app
  have hj : (Txt.join (markOf a) (if f = 5 then [⟨#[]⟩, f1Of b, f2Of c, digit (p : Int)] else if f = 7 then [f2Of c, digit (p : Int)] else [f1Of b, f2Of c, digit (p : Int)])).length ≤ 8 := by
    split
    · exact lj _ (by simp only [List.map_cons, List.map_nil, List.sum_cons, List.sum_nil]; rw [l1, show (⟨#[]⟩ : Str).length = 0 from rfl]; lia) (by simp)
    · split
      · exact lj _ (by simp only [List.map_cons, List.map_nil, List.sum_cons, List.sum_nil]; rw [l1]; lia) (by simp)
      · exact lj _ (by simp only [List.map_cons, List.map_nil, List.sum_cons, List.sum_nil]; rw [l1]; lia) (by simp)
  unfold replyT replyS'
  dsimp only
  generalize Txt.join (markOf a) (if f = 5 then [⟨#[]⟩, f1Of b, f2Of c, digit (p : Int)] else if f = 7 then [f2Of c, digit (p : Int)] else [f1Of b, f2Of c, digit (p : Int)]) = J at hj
  have k1 : (⟨#[50, 50, 57, 32, 97, 50]⟩ : Str).length = 6 := rfl
  have k2 : (⟨#[50, 41, 32, 98]⟩ : Str).length = 4 := rfl
  have k3 : (⟨#[50, 50, 57, 32, 97, 41, 32, 40]⟩ : Str).length = 8 := rfl
  have k4 : (⟨#[120]⟩ : Str).length = 1 := rfl
  have k5 : (if f = 0 then (⟨#[49, 50, 57]⟩ : Str) else if f = 1 then ⟨#[50, 49, 57]⟩ else if f = 2 then ⟨#[50, 50, 56]⟩ else ⟨#[50, 50, 57]⟩).length = 3 := by split; rfl; split; rfl; split; rfl; rfl
  have k6 : (⟨#[32, 97, 41, 32, 40]⟩ : Str).length = 5 := rfl
  have k7 : (⟨#[41, 32, 40, 98, 41]⟩ : Str).length = 5 := rfl
  split
  · rw [la, la]; lia
  · split
    · simp only [la]; lia
    · have k8 : (if f = 6 then markOf a ++ J ++ markOf a ++ ⟨#[120]⟩ else markOf a ++ J ++ markOf a).length ≤ 11 := by split <;> simp only [la] <;> lia
      rw [la, la, la]; lia
theorem tx_solid (ns : List Int) (k : Nat) : Solid (txS ns k) ∧ (txS ns k).cps.toList.length ≤ 80 := by
  unfold txS
  split
  · obtain ⟨r, hr⟩ := reply_head (ptS ns k) (cellAt ns k / 960 % 4) (cellAt ns k / 960 / 4 % 2) (cellAt ns k / 960 / 8 % 2)
    have := reply_len (ptS ns k) (cellAt ns k / 960 % 4) (cellAt ns k / 960 / 4 % 2) (cellAt ns k / 960 / 8 % 2) 8
    refine ⟨⟨50, r, hr, by decide, by decide⟩, ?_⟩
    have e : (repS ns k 8).cps.toList.length = (repS ns k 8).length := rfl
    rw [e]; unfold repS; lia
  · split
    · exact ⟨⟨62, [], rfl, by decide, by decide⟩, by decide⟩
    · exact ⟨⟨60, [], rfl, by decide, by decide⟩, by decide⟩
noncomputable def strAll (f : Nat) : Bool := (List.range 10).all fun p => (List.range 4).all fun a => (List.range 2).all fun b => (List.range 2).all fun c => (replyT p a b c f).cps.toList.all fun x => decide (x < 0x110000)
theorem strOk_list (x : Str) : PyData.strOk x = x.cps.toList.all fun x => decide (x < 0x110000) := by unfold PyData.strOk; rw [Array.all_toList]
theorem str_ok0 : strAll 0 = true := by decide +kernel
theorem str_ok1 : strAll 1 = true := by decide +kernel
theorem str_ok2 : strAll 2 = true := by decide +kernel
theorem str_ok3 : strAll 3 = true := by decide +kernel
theorem str_ok4 : strAll 4 = true := by decide +kernel
theorem str_ok5 : strAll 5 = true := by decide +kernel
theorem str_ok6 : strAll 6 = true := by decide +kernel
theorem str_ok7 : strAll 7 = true := by decide +kernel
theorem str_ok8 : strAll 8 = true := by decide +kernel
theorem str_ok {p a b c f : Nat} (hp : p < 10) (ha : a < 4) (hb : b < 2) (hc : c < 2) (hf : f ≤ 8) : PyData.strOk (replyT p a b c f) = true := by
  have : strAll f = true := by
    have : f = 0 ∨ f = 1 ∨ f = 2 ∨ f = 3 ∨ f = 4 ∨ f = 5 ∨ f = 6 ∨ f = 7 ∨ f = 8 := by lia
    rcases this with h | h | h | h | h | h | h | h | h <;> rw [h]
    · exact str_ok0
    · exact str_ok1
    · exact str_ok2
    · exact str_ok3
    · exact str_ok4
    · exact str_ok5
    · exact str_ok6
    · exact str_ok7
    · exact str_ok8
  rw [strOk_list]
  exact List.all_eq_true.mp (List.all_eq_true.mp (List.all_eq_true.mp (List.all_eq_true.mp this p (List.mem_range.mpr hp)) a (List.mem_range.mpr ha)) b (List.mem_range.mpr hb)) c (List.mem_range.mpr hc)
theorem toPy_list {σ : MH} {n i : Nat} {xs : List MV} {ds : List PyData} (h : σ[i]? = some (.list xs)) (hd : xs.mapM (toPy σ n) = some ds) : toPy σ (n + 1) (.ref i) = some (.list ds) := by
  unfold toPy; rw [h]; dsimp only; rw [hd]; rfl
theorem toPy_tup {σ : MH} {n i : Nat} {xs : List MV} {ds : List PyData} (h : σ[i]? = some (.tup xs)) (hd : xs.mapM (toPy σ n) = some ds) : toPy σ (n + 1) (.ref i) = some (.tuple ds) := by
  unfold toPy; rw [h]; dsimp only; rw [hd]; rfl
theorem cmp_same {σ : MH} {i j : Nat} {d : PyData} (h1 : toPy σ 4 (.ref i) = some d) (h2 : toPy σ 4 (.ref j) = some d) (hs : SeqAt.shaped d = true) : cmpEq? (.ref i) (.ref j) σ = some true := by
  unfold cmpEq?
  dsimp only
  rw [h1, h2]
  dsimp only
  rw [hs, if_pos (show (true && true) = true from rfl)]
  unfold SeqAt.shaped at hs
  rw [Bool.and_eq_true] at hs
  rw [SeqAt.eqv_refl d hs.1]
theorem toPy_strs (σ : MH) (n : Nat) (s : Nat → Str) (l : List Nat) : (l.map fun k => MV.str (s k)).mapM (toPy σ n) = some (l.map fun k => PyData.str (s k)) := by
  rw [List.mapM_map]
  exact mapM_some l fun a _ => toPy_str σ n (s a)
theorem flat_strs (s : Nat → Str) (hs : ∀ k, PyData.strOk (s k) = true) : ∀ l : List Nat, PyData.canLayAll0 (l.map fun k => PyData.str (s k)) = true ∧ PyData.depthAll (l.map fun k => PyData.str (s k)) = 0
  | [] => ⟨rfl, rfl⟩
  | a :: l => by
    obtain ⟨h1, h2⟩ := flat_strs s hs l
    rw [List.map_cons]
    refine ⟨?_, ?_⟩
    · unfold PyData.canLayAll0 PyData.canLay0; rw [h1, hs]; rfl
    · unfold PyData.depthAll PyData.depth; rw [h2]; rfl
theorem eq_strs {σ : MH} {i j : Nat} {s : Nat → Str} {l : List Nat} (hs : ∀ k, PyData.strOk (s k) = true) (h1 : σ[i]? = some (.list (l.map fun k => .str (s k)))) (h2 : σ[j]? = some (.list (l.map fun k => .str (s k)))) : cmpEq? (.ref i) (.ref j) σ = some true := by
  obtain ⟨f1, f2⟩ := flat_strs s hs l
  refine cmp_same (toPy_list h1 (toPy_strs σ 3 s l)) (toPy_list h2 (toPy_strs σ 3 s l)) ?_
  unfold SeqAt.shaped PyData.canLay0 PyData.depth; rw [f1, f2]; rfl
theorem eq_told {σ : MH} {i j di dj ri rj : Nat} {a b : MV} {da db : PyData} {l : List Nat} (ha : ∀ n, toPy σ n a = some da) (hb : ∀ n, toPy σ n b = some db) (ca : da.canLay0 = true) (cb : db.canLay0 = true) (za : da.depth = 0) (zb : db.depth = 0)
    (h1 : σ[i]? = some (.tup [.ref di, .ref ri])) (h2 : σ[j]? = some (.tup [.ref dj, .ref rj])) (d1 : σ[di]? = some (.tup [a, b])) (d2 : σ[dj]? = some (.tup [a, b])) (r1 : σ[ri]? = some (.list (natL l))) (r2 : σ[rj]? = some (.list (natL l))) :
    cmpEq? (.ref i) (.ref j) σ = some true := by
  obtain ⟨f1, f2⟩ := flat_ints l
  have e : ∀ t d r, σ[t]? = some (.tup [.ref d, .ref r]) → σ[d]? = some (.tup [a, b]) → σ[r]? = some (.list (natL l)) → toPy σ 4 (.ref t) = some (.tuple [.tuple [da, db], .list (l.map fun (k : Nat) => PyData.int (k : Int))]) := fun t d r ht hd hr => by
    refine toPy_tup ht ?_
    have e1 : toPy σ 3 (.ref d) = some (.tuple [da, db]) := toPy_tup hd (by rw [List.mapM_cons, ha, List.mapM_cons, hb]; rfl)
    have e2 : toPy σ 3 (.ref r) = some (.list (l.map fun (k : Nat) => PyData.int (k : Int))) := toPy_list hr (toPy_ints σ 2 l)
    rw [List.mapM_cons, e1, List.mapM_cons, e2]; rfl
  refine cmp_same (e i di ri h1 d1 r1) (e j dj rj h2 d2 r2) ?_
  unfold SeqAt.shaped
  have c : PyData.canLay0 (.tuple [.tuple [da, db], .list (l.map fun (k : Nat) => PyData.int (k : Int))]) = true := by
    simp only [PyData.canLay0, PyData.canLayAll0, ca, cb, f1, Bool.and_true]
  have z : PyData.depth (.tuple [.tuple [da, db], .list (l.map fun (k : Nat) => PyData.int (k : Int))]) = 2 := by
    simp only [PyData.depth, PyData.depthAll, za, zb, f2]; rfl
  rw [c, z]; rfl
theorem in_trues {σ : MH} {j n : Nat} (h : σ[j]? = some (.list (List.replicate n (.bool true)))) : opIn (.bool false) (.ref j) σ = .ok (.bool false) σ := by
  have e1 : (List.replicate n (MV.bool true)).mapM (toPy σ 4) = some (List.replicate n (PyData.bool true)) := by
    rw [mapM_some (g := fun _ => PyData.bool true) _ (fun a ha => by rw [List.eq_of_mem_replicate ha]; rfl), List.map_replicate]
  have e2 : ∀ n, PyData.canLayAll0 (List.replicate n (PyData.bool true)) = true := by
    intro n
    induction n with
    | zero => rfl
    | succ n ih => rw [List.replicate_succ]; unfold PyData.canLayAll0; rw [ih]; rfl
  have e3 : ∀ n, ((List.replicate n (PyData.bool true)).any fun y => PyData.eqv y (.bool false)) = false := by
    intro n
    induction n with
    | zero => rfl
    | succ n ih => rw [List.replicate_succ, List.any_cons, ih]; rfl
  unfold opIn
  dsimp only
  rw [h]
  dsimp only
  rw [e1, show toPy σ 4 (.bool false) = some (.bool false) from rfl]
  dsimp only
  rw [e2, if_pos (by rfl), e3]
structure LawA (ns : List Int) (pr dr qr cr lr : Nat) (rs : Nat → Nat) (σ : MH) : Prop where
  ne : σ.length ≠ 0
  P : PartsRs σ pr rs (psS ns)
  D : σ[dr]? = some (.list (natL ((List.range 9).map (ddS ns))))
  Q : σ[qr]? = some (.list (natL ((List.range 9).map (ptS ns))))
  C : σ[cr]? = some (.list (natL (cellsOf ns)))
  L : σ[lr]? = some (.list ((List.range 9).map fun i => .str (leadS (qAt (cellsOf ns) i))))
theorem cells_len (ns : List Int) : (cellsOf ns).length = 9 := by unfold cellsOf; exact range_len
theorem cells_at {ns : List Int} {k : Nat} (h : k < 9) : (natL (cellsOf ns))[k]? = some (.int ((cellAt ns k : Nat) : Int)) := natL_range_get (f := cellAt ns) h
theorem run_cell {ns : List Int} {k cr : Nat} {b : ED} {ρ : MEnv} {σ : MH} (hk : k < 9) (vc : ρ "cells" = some (.ref cr)) (hb : b ρ σ = .ok (.int (k : Int)) σ) (h : σ[cr]? = some (.list (natL (cellsOf ns)))) : eIdx (eVar "cells") b ρ σ = .ok (.int ((cellAt ns k : Nat) : Int)) σ :=
  run_idx (run_var vc) hb h (by rw [natL_len, cells_len]; lia) (cells_at hk)
theorem run_mod {a b : ED} {x y : Nat} {ρ : MEnv} {σ : MH} (ha : a ρ σ = .ok (.int (x : Int)) σ) (hb : b ρ σ = .ok (.int (y : Int)) σ) (hy : y ≠ 0) : eBin opMod a b ρ σ = .ok (.int ((x % y : Nat) : Int)) σ := by
  unfold eBin
  rw [ha, R.bind_ok, hb, R.bind_ok]
  unfold opMod
  dsimp only
  rw [if_pos (by lia), fmod_n x y _ rfl]
theorem run_div {a b : ED} {x y : Nat} {ρ : MEnv} {σ : MH} (ha : a ρ σ = .ok (.int (x : Int)) σ) (hb : b ρ σ = .ok (.int (y : Int)) σ) (hx : x ≤ 1000000) (hy : y ≠ 0) (hy' : y ≤ 1000000) : eBin opDiv a b ρ σ = .ok (.int ((x / y : Nat) : Int)) σ := by
  unfold eBin
  rw [ha, R.bind_ok, hb, R.bind_ok]
  unfold opDiv
  dsimp only
  rw [small_nat hx, small_nat hy', decide_eq_true (by lia : (y : Int) ≠ 0), if_pos (by rfl), fdiv_n x y _ rfl]
theorem run_nat {n : Nat} {z : Int} {ρ : MEnv} {σ : MH} (h : z = (n : Int)) : eVal (.int z) ρ σ = .ok (.int (n : Int)) σ := by subst h; rfl
theorem run_add {a b : ED} {x y : Int} {ρ : MEnv} {σ : MH} (ha : a ρ σ = .ok (.int x) σ) (hb : b ρ σ = .ok (.int y) σ) : eBin opAdd a b ρ σ = .ok (.int (x + y)) σ := by
  unfold eBin
  rw [ha, R.bind_ok, hb, R.bind_ok]; rfl
theorem run_sub' {a b : ED} {x y : Int} {ρ : MEnv} {σ : MH} (ha : a ρ σ = .ok (.int x) σ) (hb : b ρ σ = .ok (.int y) σ) : eBin opSub a b ρ σ = .ok (.int (x - y)) σ := by
  unfold eBin
  rw [ha, R.bind_ok, hb, R.bind_ok]; rfl
noncomputable def lawRest : SD := (sSeq (sAssign "texts" (eComp (eIf (tOf (eCmp .eq (eIdx (eVar "parts") (eVar "k")) (eList lNil))) (eCall replyF (lCons (eIdx (eVar "ports") (eVar "k")) (lCons (eBin opDiv (eIdx (eVar "cells") (eVar "k")) (eVal (.int 960))) (lCons (eVal (.int 8)) lNil)))) (eIdx (eVal (.str (Str.ofString "<>"))) (eIdx (eVar "deeds") (eVar "k")))) "k" ["parts", "ports", "deeds", "cells"] (rRange1 (eVal (.int 9))) tTrue))
  (sSeq (sUnpack ["kinds", "ends", "told"] (eCall readF (lCons (eComp (eBin opAdd (eIdx (eVar "leads") (eVar "k")) (eIdx (eVar "texts") (eVar "k"))) "k" ["leads", "texts"] (rRange1 (eVal (.int 9))) tTrue) lNil)))
  (sSeq (sIf (tOr (tOf (eCmp .ne (eVar "told") (eVar "texts"))) (tOf (eInList (eVal (.bool false)) (eComp (eCall sortedF (lCons (eVar "kind") lNil)) "kind" [] (rList (eBin opAdd (eVar "kinds") (eList (lCons (eVal (.int 0)) lNil)))) tTrue))))
    (sRet (eVal (.bool false)))
    sPass)
  (sSeq (sUnpack ["due", "read"] (eCall dueF (lCons (eVar "parts") (lCons (eVar "deeds") (lCons (eVar "ports") (lCons (eVar "low") (lCons (eVar "high") lNil)))))))
  (sSeq (sAssign "faulty" (eComp (eCall replyF (lCons (eIdx (eVar "ports") (eVar "k")) (lCons (eBin opDiv (eIdx (eVar "cells") (eVar "k")) (eVal (.int 960))) (lCons (eBin opMod (eBin opAdd (eVar "k") (eVar "flaw")) (eVal (.int 8))) lNil)))) "k" ["ports", "cells", "flaw"] (rRange1 (eVal (.int 9))) tTrue))
  (sSeq (sAssign "others" (eComp (eIf (tOr (tOf (eCmp .ne (eIdx (eVar "parts") (eVar "k")) (eList lNil))) (tOf (eInList (eVar "k") (eVar "read")))) (eIdx (eVar "texts") (eVar "k")) (eIdx (eVar "faulty") (eVar "k"))) "k" ["texts", "faulty", "read", "parts"] (rRange1 (eVal (.int 9))) tTrue))
  (sSeq (sIf (tOf (eCmp .ne (eCall toldF (lCons (eTup (lCons (eVar "kinds") (lCons (eVar "ends") (lCons (eVar "others") lNil)))) (lCons (eVar "low") (lCons (eVar "high") lNil)))) (eTup (lCons (eVar "due") (lCons (eVar "read") lNil)))))
    (sRet (eVal (.bool false)))
    sPass)
  (sSeq (sAssign "one" (eIdx (eVar "read") (eBin opMod (eBin opDiv (eIdx (eVar "cells") (eVal (.int 0))) (eVal (.int 132))) (eUn fLen (eVar "read")))))
  (sSeq (sAssign "spoilt" (eCall replyF (lCons (eIdx (eVar "ports") (eVar "one")) (lCons (eBin opDiv (eIdx (eVar "cells") (eVar "one")) (eVal (.int 960))) (lCons (eVar "flaw") lNil)))))
  (sSeq (sAssign "last" (eCall toldF (lCons (eTup (lCons (eVar "kinds") (lCons (eVar "ends") (lCons (eBin opAdd (eBin opAdd (eSlTo (eVar "others") (eVar "one")) (eList (lCons (eVar "spoilt") lNil))) (eSlFrom (eVar "others") (eBin opAdd (eVar "one") (eVal (.int 1))))) lNil)))) (lCons (eVar "low") (lCons (eVar "high") lNil)))))
  (sRet (eCmp .eq (eVar "last") (eTup (lCons (eTup (lCons (eIf (tOf (eCmp .lt (eVar "flaw") (eVal (.int 3)))) (eVal (.str (Str.ofString "code"))) (eVal (.str (Str.ofString "form")))) (lCons (eVar "spoilt") lNil))) (lCons (eComp (eVar "k") "k" ["one"] (rList (eVar "read")) (tOf (eCmp .lt (eVar "k") (eVar "one")))) lNil)))))))))))))))
namespace hkp340
noncomputable abbrev hS (ns : List Int) : Prop := ∀ (hn : ns.length ≤ 63) (rest : ∀ (ρ : MEnv) (σ : MH) (pr dr qr cr lr : Nat) (rs : Nat → Nat), LawA ns pr dr qr cr lr rs σ → ρ "parts" = some (.ref pr) → ρ "deeds" = some (.ref dr) → ρ "ports" = some (.ref qr) → ρ "cells" = some (.ref cr) → ρ "leads" = some (.ref lr) → ρ "low" = some (.int (loS ns)) → ρ "high" = some (.int (hiS ns)) → ρ "flaw" = some (.int ((flawS ns : Nat) : Int)) →
      Wp (lawRest ρ σ) (fun r _ => r.1 = .ret (.bool true)) noX), ∃ σ', defCall ["script"] lawB [.ref 0] [.list (ns.map .int)] = .ok (.bool true) σ'
noncomputable abbrev hP := fun p : (List Int) => hS p
noncomputable def hW := ce (default) hP
noncomputable def ns : List Int := hW
theorem hT : hS ns := by
  intro hn rest
  suffices h : Wp (defCall ["script"] lawB [.ref 0] [.list (ns.map .int)]) (fun v _ => v = .bool true) noX by
    obtain ⟨v, σ', e, rfl⟩ := wp_out h; exact ⟨σ', e⟩
  refine wp_def rfl ?_
  unfold lawB
  dsimp only [updAll]
  have h0 : ([MO.list (ns.map .int)] : MH)[0]? = some (.list (ns.map .int)) := rfl
  have hl0 : ([MO.list (ns.map .int)] : MH).length ≠ 0 := Nat.succ_ne_zero 0
  generalize ([MO.list (ns.map .int)] : MH) = σ at *
  walk_at "pt"
  rw [show ([MV.int 5797, MV.int 4116, MV.int 12, MV.int 481, MV.int 26, MV.int 3027, MV.int 2367, MV.int 9038, MV.int 11629] : List MV) = firsts.map .int from rfl]
  obtain ⟨e1, hc⟩ := run_cells hn (ρ := upd (upd (fun _ => none) "script" (.ref 0)) "firsts" (.ref σ.length)) (σ := σ ++ [MO.list (firsts.map .int)]) upd_eq (by walk_at "pn") get_last (get_old h0)
  refine wp_seq (wp_assign (wp_eq hc ?_))
  dsimp only
  clear hc
  generalize hcr : (σ ++ [MO.list (firsts.map .int)] ++ e1).length = cr
  have g1 : (σ ++ [MO.list (firsts.map .int)] ++ (e1 ++ [MO.list (natL (cellsOf ns))]))[cr]? = some (.list (natL (cellsOf ns))) := by
    rw [← List.append_assoc, ← hcr]; exact get_last
  have hl1 : (σ ++ [MO.list (firsts.map .int)] ++ (e1 ++ [MO.list (natL (cellsOf ns))])).length ≠ 0 := by simp
  generalize σ ++ [MO.list (firsts.map .int)] ++ (e1 ++ [MO.list (natL (cellsOf ns))]) = σ₁ at *
  clear h0 hl0
  refine box fun GZ kZ => ?_
  obtain ⟨e2, t, lr, pr, ho, o1, o2, ⟨rs, o3, o4⟩⟩ := run_outline (cells_len ns) (fun i => by
    rcases Nat.lt_or_ge i 9 with h | h
    · rw [cells_get h]; exact Nat.le_of_lt (cell_lt ns i)
    · rw [List.getD_eq_getElem?_getD, List.getElem?_eq_none (by rw [cells_len]; exact h)]; exact Nat.zero_le _) g1 hl1
  refine kZ ?_
  clear kZ GZ
  refine wp_seq (wp_unpackT (i := t) (wp_call (wp_lcons (wp_var upd_eq (wp_lnil (wp_eq ho rfl))))) o1 rfl ?_)
  dsimp only [updAll]
  have o5 : PartsRs (σ₁ ++ e2) pr rs (psS ns) := ⟨o3, o4⟩
  replace g1 := get_old (l := e2) g1
  have hl2 : (σ₁ ++ e2).length ≠ 0 := by rw [List.length_append]; lia
  clear ho o1 o3 o4 hl1
  generalize σ₁ ++ e2 = σ₂ at *
  generalize hρ : upd (upd (upd (upd (upd (fun x => none) "script" (MV.ref 0)) "firsts" (MV.ref σ.length)) "cells" (MV.ref cr)) "leads" (MV.ref lr)) "parts" (MV.ref pr) = ρ
  have v1 : ρ "cells" = some (.ref cr) := by rw [← hρ]; walk_at "pn"
  have v2 : ρ "leads" = some (.ref lr) := by rw [← hρ]; walk_at "pn"
  have v3 : ρ "parts" = some (.ref pr) := by rw [← hρ]; walk_at "pn"
  clear hρ hcr
  have c0 := cell_lt ns 0
  have hd1 : eBin opMod (eIdx (eVar "cells") (eVal (.int 0))) (eVal (.int 2)) ρ σ₂ = .ok (.int ((cellAt ns 0 % 2 : Nat) : Int)) σ₂ := run_mod (run_cell (k := 0) (by decide) v1 (run_nat rfl) g1) (run_nat rfl) (by decide)
  refine wp_seq (wp_assign (wp_bin (wp_list (wp_lcons (wp_eq hd1 (wp_lnil ⟨by simp [maxLen], ?_⟩))))))
  have hd2 := run_compN (e := eBin opMod (eBin opDiv (eIdx (eVar "cells") (eVar "k")) (eVal (.int 480))) (eVal (.int 2))) (fv := ["cells"]) (src := rRange (eVal (.int 1)) (eVal (.int 9))) (ρ := ρ) (σ := σ₂ ++ [MO.list [.int ((cellAt ns 0 % 2 : Nat) : Int)]]) (r := .range 1 1 8) (l := [1, 2, 3, 4, 5, 6, 7, 8]) (fun k => cellAt ns k / 480 % 2) rfl items1 (by decide) rfl (fun k hk => by
    have hk9 : k < 9 := by simp only [List.mem_cons, List.not_mem_nil, or_false] at hk; lia
    have := cell_lt ns k
    exact run_mod (run_div (run_cell hk9 (upd_go (by decide) ((seen_skip (by decide +kernel)).trans v1)) (run_var upd_eq) (get_old g1)) (run_nat rfl) (by lia) (by decide) (by decide)) (run_nat rfl) (by decide))
  refine wp_eq hd2 (wp_addL (get_old get_last) get_last (by simp [maxLen, natL]) ?_)
  rw [show [MV.int ((cellAt ns 0 % 2 : Nat) : Int)] ++ natL ([1, 2, 3, 4, 5, 6, 7, 8].map fun k => cellAt ns k / 480 % 2) = natL ((List.range 9).map (ddS ns)) from rfl]
  dsimp only
  have g2 := get_last (σ := σ₂ ++ [MO.list [.int ((cellAt ns 0 % 2 : Nat) : Int)]] ++ [MO.list (natL ([1, 2, 3, 4, 5, 6, 7, 8].map fun k => cellAt ns k / 480 % 2))]) (o := MO.list (natL ((List.range 9).map (ddS ns))))
  replace g1 := get_old (l := [MO.list (natL ((List.range 9).map (ddS ns)))]) (get_old (l := [MO.list (natL ([1, 2, 3, 4, 5, 6, 7, 8].map fun k => cellAt ns k / 480 % 2))]) (get_old (l := [MO.list [.int ((cellAt ns 0 % 2 : Nat) : Int)]]) g1))
  replace o2 := get_old (l := [MO.list (natL ((List.range 9).map (ddS ns)))]) (get_old (l := [MO.list (natL ([1, 2, 3, 4, 5, 6, 7, 8].map fun k => cellAt ns k / 480 % 2))]) (get_old (l := [MO.list [.int ((cellAt ns 0 % 2 : Nat) : Int)]]) o2))
  replace o5 := partsRs_app (l := [MO.list (natL ((List.range 9).map (ddS ns)))]) (partsRs_app (l := [MO.list (natL ([1, 2, 3, 4, 5, 6, 7, 8].map fun k => cellAt ns k / 480 % 2))]) (partsRs_app (l := [MO.list [.int ((cellAt ns 0 % 2 : Nat) : Int)]]) o5))
  have hl3 : (σ₂ ++ [MO.list [.int ((cellAt ns 0 % 2 : Nat) : Int)]] ++ [MO.list (natL ([1, 2, 3, 4, 5, 6, 7, 8].map fun k => cellAt ns k / 480 % 2))] ++ [MO.list (natL ((List.range 9).map (ddS ns)))]).length ≠ 0 := by simp
  clear hd1 hd2 hl2
  generalize (σ₂ ++ [MO.list [.int ((cellAt ns 0 % 2 : Nat) : Int)]] ++ [MO.list (natL ([1, 2, 3, 4, 5, 6, 7, 8].map fun k => cellAt ns k / 480 % 2))]).length = dr at *
  generalize σ₂ ++ [MO.list [.int ((cellAt ns 0 % 2 : Nat) : Int)]] ++ [MO.list (natL ([1, 2, 3, 4, 5, 6, 7, 8].map fun k => cellAt ns k / 480 % 2))] ++ [MO.list (natL ((List.range 9).map (ddS ns)))] = σ₃ at *
  have w1 : upd ρ "deeds" (.ref dr) "cells" = some (.ref cr) := upd_go (by decide) v1
  have hd3 := run_compN (e := eBin opMod (eBin opDiv (eIdx (eVar "cells") (eVar "k")) (eVal (.int 48))) (eVal (.int 10))) (fv := ["cells"]) (src := rRange1 (eVal (.int 9))) (ρ := upd ρ "deeds" (.ref dr)) (σ := σ₃) (r := .range 0 1 9) (l := List.range 9) (ptS ns) (run_range1 (n := 9) rfl (by decide)) items0 (by decide) rfl (fun k hk => by
    have hk9 := List.mem_range.mp hk
    have := cell_lt ns k
    exact run_mod (run_div (run_cell hk9 (upd_go (by decide) ((seen_skip (by decide +kernel)).trans w1)) (run_var upd_eq) g1) (run_nat rfl) (by lia) (by decide) (by decide)) (run_nat rfl) (by decide))
  refine wp_seq (wp_assign (wp_eq hd3 ?_))
  dsimp only
  have A : LawA ns pr dr σ₃.length cr lr rs (σ₃ ++ [MO.list (natL ((List.range 9).map (ptS ns)))]) := ⟨by simp, partsRs_app o5, get_old g2, get_last, get_old g1, get_old o2⟩
  generalize σ₃.length = qr at *
  generalize σ₃ ++ [MO.list (natL ((List.range 9).map (ptS ns)))] = σ₄ at *
  generalize hρ : upd (upd ρ "deeds" (MV.ref dr)) "ports" (MV.ref qr) = ρ'
  have u1 : ρ' "cells" = some (.ref cr) := by rw [← hρ]; walk_at "pn"
  have u2 : ρ' "leads" = some (.ref lr) := by rw [← hρ]; walk_at "pn"
  have u3 : ρ' "parts" = some (.ref pr) := by rw [← hρ]; walk_at "pn"
  have u4 : ρ' "deeds" = some (.ref dr) := by rw [← hρ]; walk_at "pn"
  have u5 : ρ' "ports" = some (.ref qr) := by rw [← hρ]; walk_at "pn"
  clear hρ
  have b0 : ∀ ρ : MEnv, ρ "cells" = some (.ref cr) → eIdx (eVar "cells") (eVal (.int 0)) ρ σ₄ = .ok (.int ((cellAt ns 0 : Nat) : Int)) σ₄ := fun ρ h => run_cell (k := 0) (by decide) h (run_nat rfl) A.C
  refine wp_seq (wp_assign (wp_eq (run_sub' (run_mod (run_div (b0 _ u1) (run_nat (n := 2) rfl) (by lia) (by decide) (by decide)) (run_nat (n := 6) rfl) (by decide)) rfl) ?_))
  dsimp only
  refine wp_seq (wp_assign (wp_eq (run_add (run_add (x := loS ns) (y := 1) (run_var upd_eq) rfl) (run_mod (run_div (b0 _ (by walk_at "pn")) (run_nat (n := 12) rfl) (by lia) (by decide) (by decide)) (run_nat (n := 11) rfl) (by decide))) ?_))
  dsimp only
  refine wp_seq (wp_assign (wp_eq (run_mod (run_div (b0 _ (by walk_at "pn")) (run_nat (n := 1188) rfl) (by lia) (by decide) (by decide)) (run_nat (n := 8) rfl) (by decide)) ?_))
  dsimp only
  refine wp_mono (rest _ σ₄ pr dr qr cr lr rs A (by walk_at "pn") (by walk_at "pn") (by walk_at "pn") (by walk_at "pn") (by walk_at "pn") ?_ ?_ ?_) ?_ (fun _ _ _ h => h)
  · exact upd_go (by decide) (upd_go (by decide) upd_eq)
  · exact upd_go (by decide) upd_eq
  · exact upd_eq
  · intro r σ' h
    rw [h]
end hkp340
theorem law_first : ∀ {ns : List Int}, hkp340.hS ns := @fun ns => ce_all (P := hkp340.hP) (default) (@hkp340.hT) (ns)
theorem in_ints {σ : MH} {j k : Nat} {l : List Nat} (h : σ[j]? = some (.list (natL l))) : opIn (.int (k : Int)) (.ref j) σ = .ok (.bool (decide (k ∈ l))) σ := by
  obtain ⟨f1, f2⟩ := flat_ints l
  have e3 : ∀ l : List Nat, ((l.map fun (k : Nat) => PyData.int (k : Int)).any fun y => PyData.eqv y (.int (k : Int))) = decide (k ∈ l) := by
    intro l
    induction l with
    | nil => rfl
    | cons a l ih =>
      rw [List.map_cons, List.any_cons, ih]
      show (((a : Int) == (k : Int)) || _) = _
      rw [Bool.eq_iff_iff, Bool.or_eq_true, beq_iff_eq, decide_eq_true_iff, decide_eq_true_iff, List.mem_cons]
      constructor
      · rintro (h | h)
        · exact .inl (by lia)
        · exact .inr h
      · rintro (h | h)
        · exact .inl (by lia)
        · exact .inr h
  unfold opIn
  dsimp only
  rw [h]
  dsimp only
  rw [toPy_ints, toPy_int]
  dsimp only
  rw [f1, show (PyData.int (k : Int)).canLay0 = true from rfl, show decide ((PyData.int (k : Int)).depth ≤ 64) = true from rfl, if_pos (show (true && true && true) = true from rfl), e3]
structure Figs where
  cs : List Nat
  c : Nat → Nat
  ps : Nat → List Nat
  en : Nat → Nat
  dd : Nat → Nat
  pt : Nat → Nat
  dp : Nat → Nat
  lo : Int
  hi : Int
  fl : Nat
  rep : Nat → Nat → Str
  tx : Nat → Str
  kd : Nat → Option Int
structure Figs.Ok (F : Figs) : Prop where
  c6 : ∀ k, F.c k < 1000000
  P : Page F.ps F.en
  sz : ∀ k, (F.ps k).length ≤ 9
  tx : ∀ k, F.tx k = if (F.ps k).isEmpty = true then F.rep k 8 else if F.dd k = 1 then ⟨#[62]⟩ else ⟨#[60]⟩
  dd : ∀ k, F.dd k < 2
  rep : ∀ (k f : Nat) (σ : MH), f ≤ 8 → ∃ ext, replyF [.int ((F.pt k : Nat) : Int), .int ((F.c k / 960 : Nat) : Int), .int (f : Int)] σ = .ok (.str (F.rep k f)) (σ ++ ext)
  so : ∀ k f, f ≤ 8 → PyData.strOk (F.rep k f) = true
  pa : ∀ k f, f ≤ 8 → parseM (F.rep k f) = some (if f = 8 then .ok ((F.pt k : Nat) : Int) else .error (decide (3 ≤ f)))
  sl : ∀ k, Solid (F.tx k) ∧ (F.tx k).cps.toList.length ≤ 80
  lk : ∀ k, tokTab.lookup (F.tx k) = F.kd k
  kl : ∀ k, F.ps k = [] → 256 ≤ kindAt F.kd k
  ki : ∀ k, F.ps k ≠ [] → kindAt F.kd k = if F.dd k = 1 then 21 else 20
  ends : natL (endsAt (dsOf F.cs) 9) = (List.range 9).map fun i => .int ((F.en i : Nat) : Int)
  en0 : F.en 0 = 9
  dk : ∀ k j, j ∈ F.ps k → F.dp j = F.dp k + 1
  d4 : ∀ k, F.dp k ≤ 4
  lh : F.lo < F.hi
  f8 : F.fl < 8
  ql : ∀ k, k < 9 → (leadS (qAt F.cs k)).length ≤ 1000
structure FigA (F : Figs) (pr dr qr cr lr : Nat) (rs : Nat → Nat) (σ : MH) : Prop where
  ne : σ.length ≠ 0
  P : PartsRs σ pr rs F.ps
  D : σ[dr]? = some (.list (natL ((List.range 9).map F.dd)))
  Q : σ[qr]? = some (.list (natL ((List.range 9).map F.pt)))
  C : σ[cr]? = some (.list (natL ((List.range 9).map F.c)))
  L : σ[lr]? = some (.list ((List.range 9).map fun i => .str (leadS (qAt F.cs i))))
theorem keep_parts {σ σ' : MH} {pr : Nat} {rs : Nat → Nat} {ps : Nat → List Nat} (K : ∀ (x : Nat) (o : MO), σ[x]? = some o → σ'[x]? = some o) (h : PartsRs σ pr rs ps) : PartsRs σ' pr rs ps := ⟨K _ _ h.1, fun i hi => K _ _ (h.2 i hi)⟩
theorem figA_app {F : Figs} {pr dr qr cr lr : Nat} {rs : Nat → Nat} {σ l : MH} (h : FigA F pr dr qr cr lr rs σ) : FigA F pr dr qr cr lr rs (σ ++ l) :=
  ⟨by rw [List.length_append]; have := h.ne; lia, partsRs_app h.P, get_old h.D, get_old h.Q, get_old h.C, get_old h.L⟩
theorem nat_div {a b : ED} {x y : Nat} {ρ : MEnv} {σ : MH} (ha : a ρ σ = .ok (.int (x : Int)) σ) (hb : b ρ σ = .ok (.int (y : Int)) σ) (hx : x ≤ 1000000) (hy : y ≠ 0) (hy' : y ≤ 1000000) : eBin opDiv a b ρ σ = .ok (.int ((x / y : Nat) : Int)) σ := by
  unfold eBin
  rw [ha, R.bind_ok, hb, R.bind_ok]
  unfold opDiv
  dsimp only
  rw [small_nat hx, small_nat hy', decide_eq_true (by lia : (y : Int) ≠ 0), if_pos (by rfl), fdiv_n x y _ rfl]
section
variable {F : Figs}
theorem reply_of (O : F.Ok) {k f qr cr : Nat} (hk : k < 9) (hf : f ≤ 8) {x : String} {c : ED} {ρ : MEnv} {σ : MH} (Q : σ[qr]? = some (.list (natL ((List.range 9).map F.pt)))) (C : σ[cr]? = some (.list (natL ((List.range 9).map F.c)))) (vq : ρ "ports" = some (.ref qr)) (vc : ρ "cells" = some (.ref cr)) (vx : ρ x = some (.int (k : Int))) (hc : c ρ σ = .ok (.int (f : Int)) σ) :
    ∃ ext, eCall replyF (lCons (eIdx (eVar "ports") (eVar x)) (lCons (eBin opDiv (eIdx (eVar "cells") (eVar x)) (eVal (.int 960))) (lCons c lNil))) ρ σ = .ok (.str (F.rep k f)) (σ ++ ext) := by
  have h1 : eIdx (eVar "ports") (eVar x) ρ σ = .ok (.int ((F.pt k : Nat) : Int)) σ := run_idx (run_var vq) (run_var vx) Q (by rw [natL_len, range_len]; lia) (natL_range_get hk)
  have h0 : eIdx (eVar "cells") (eVar x) ρ σ = .ok (.int ((F.c k : Nat) : Int)) σ := run_idx (run_var vc) (run_var vx) C (by rw [natL_len, range_len]; lia) (natL_range_get hk)
  have hcl := O.c6 k
  have h2 : eBin opDiv (eIdx (eVar "cells") (eVar x)) (eVal (.int 960)) ρ σ = .ok (.int ((F.c k / 960 : Nat) : Int)) σ := nat_div h0 rfl (by lia) (by decide) (by decide)
  obtain ⟨ext, h3⟩ := O.rep k f σ hf
  refine ⟨ext, ?_⟩
  unfold eCall lCons lNil
  rw [h1, R.bind_ok, h2, R.bind_ok, hc]
  dsimp only [R.bind]
  exact h3
theorem angle_get (d : Nat) (h : d < 2) : Txt.item (Str.ofString "<>") (d : Int) = if d = 1 then ⟨#[62]⟩ else ⟨#[60]⟩ := by
  have : d = 0 ∨ d = 1 := by lia
  rcases this with rfl | rfl <;> decide +kernel
theorem run_texts (O : F.Ok) {pr dr qr cr lr : Nat} {rs : Nat → Nat} {σ : MH} (A : FigA F pr dr qr cr lr rs σ) {ρ : MEnv} (vp : ρ "parts" = some (.ref pr)) (vd : ρ "deeds" = some (.ref dr)) (vq : ρ "ports" = some (.ref qr)) (vc : ρ "cells" = some (.ref cr)) :
    ∃ ext, eComp (eIf (tOf (eCmp .eq (eIdx (eVar "parts") (eVar "k")) (eList lNil))) (eCall replyF (lCons (eIdx (eVar "ports") (eVar "k")) (lCons (eBin opDiv (eIdx (eVar "cells") (eVar "k")) (eVal (.int 960))) (lCons (eVal (.int 8)) lNil)))) (eIdx (eVal (.str (Str.ofString "<>"))) (eIdx (eVar "deeds") (eVar "k")))) "k" ["parts", "ports", "deeds", "cells"] (rRange1 (eVal (.int 9))) tTrue ρ σ =
      .ok (.ref (σ ++ ext).length) (σ ++ (ext ++ [.list ((List.range 9).map fun k => .str (F.tx k))])) := by
  refine run_compS F.tx (run_range1 (n := 9) rfl (by decide)) items0 (by decide) (fun _ => rfl) fun k hk ext => ?_
  have hk9 := List.mem_range.mp hk
  have A' := figA_app (l := ext) A
  have n1 : upd (seen ρ ["parts", "ports", "deeds", "cells"]) "k" (.int (k : Int)) "parts" = some (.ref pr) := upd_go (by decide) ((seen_skip (by decide +kernel)).trans vp)
  have n2 : upd (seen ρ ["parts", "ports", "deeds", "cells"]) "k" (.int (k : Int)) "ports" = some (.ref qr) := upd_go (by decide) ((seen_skip (by decide +kernel)).trans vq)
  have n3 : upd (seen ρ ["parts", "ports", "deeds", "cells"]) "k" (.int (k : Int)) "deeds" = some (.ref dr) := upd_go (by decide) ((seen_skip (by decide +kernel)).trans vd)
  have n4 : upd (seen ρ ["parts", "ports", "deeds", "cells"]) "k" (.int (k : Int)) "cells" = some (.ref cr) := upd_go (by decide) ((seen_skip (by decide +kernel)).trans vc)
  refine wp_eif (wp_eq (run_empty (run_part A'.P hk9 (run_var n1) (run_var upd_eq)) (A'.P.2 k hk9)) ?_)
  have A2 := figA_app (l := [MO.list []]) A'
  rw [O.tx k]
  by_cases he : (F.ps k).isEmpty = true
  · rw [if_pos he, if_pos he]
    obtain ⟨e2, h2⟩ := reply_of O (f := 8) hk9 (Nat.le_refl 8) A2.Q A2.C n2 n4 (x := "k") upd_eq (c := eVal (.int 8)) rfl
    refine wp_eq h2 ⟨⟨ext ++ [MO.list []] ++ e2, ?_⟩, rfl⟩
    simp only [List.append_assoc]
  · rw [if_neg he, if_neg he]
    have hd2 := O.dd k
    have h3 : eIdx (eVar "deeds") (eVar "k") (upd (seen ρ ["parts", "ports", "deeds", "cells"]) "k" (.int (k : Int))) (σ ++ ext ++ [MO.list []]) = .ok (.int ((F.dd k : Nat) : Int)) (σ ++ ext ++ [MO.list []]) := run_idx (run_var n3) (run_var upd_eq) A2.D (by rw [natL_len, range_len]; lia) (natL_range_get hk9)
    refine wp_idx (wp_bin (wp_val (wp_eq h3 (wp_getS ?_ ⟨⟨ext ++ [MO.list []], ?_⟩, ?_⟩))))
    · rw [show (Str.ofString "<>").length = 2 by decide +kernel]; lia
    · simp only [List.append_assoc]
    · rw [angle_get _ hd2]
end
noncomputable def Figs.b (F : Figs) : Nat → Int × Int := bOf F.ps F.dd (wOf F.ps F.dd F.pt) F.lo F.hi
noncomputable def Figs.rd (F : Figs) : List Nat := visK F.ps F.en F.dd F.pt F.lo F.hi 0
section
variable {F : Figs}
theorem rd_eq (O : F.Ok) : F.rd = readL F.ps F.b := by
  rw [readL_vis]
  unfold Figs.rd visK
  rw [O.en0]; rfl
theorem rd_iff (O : F.Ok) {k : Nat} : k ∈ F.rd ↔ k < 9 ∧ F.ps k = [] ∧ (F.b k).1 < (F.b k).2 := by
  rw [rd_eq O]
  unfold readL
  rw [List.mem_filter, List.mem_range, Bool.and_eq_true, List.isEmpty_iff, decide_eq_true_iff]
theorem rd_len (O : F.Ok) : F.rd.length ≤ 9 := by
  rw [rd_eq O]; exact Nat.le_trans (List.length_filter_le ..) (by rw [List.length_range]; exact Nat.le_refl _)
theorem first_open (O : F.Ok) : ∀ n k, 9 - k ≤ n → k < 9 → (F.b k).1 < (F.b k).2 → ∃ j, j ∈ F.rd
  | 0, k, h, hk, _ => by lia
  | n + 1, k, h, hk, hb => by
    cases e : F.ps k with
    | nil => exact ⟨k, (rd_iff O).mpr ⟨hk, e, hb⟩⟩
    | cons c r =>
      have hc : c ∈ F.ps k := by rw [e]; exact List.mem_cons_self ..
      have hP := O.P
      have hkc := hP.T.up k c hc
      have hch := hP.C k hk
      rw [e] at hch
      obtain ⟨h1, h2, h3, h4⟩ := chain_cons hch
      have hle := chain_le _ _ h4
      have hf : (F.ps k).filter (fun i => decide (i < c)) = [] := by
        rw [List.filter_eq_nil_iff]
        intro x hx hd
        have hx' := of_decide_eq_true hd
        rw [e] at hx
        rcases List.mem_cons.mp hx with rfl | hx
        · lia
        · have := hle.2 x hx; lia
      have hw : F.b c = F.b k := by
        unfold Figs.b
        rw [bOf_eq hP.T hc]
        unfold bNext
        rw [hf]
        split <;> rfl
      exact first_open O n c (by lia) hkc.2 (by rw [hw]; exact hb)
theorem rd_ne (O : F.Ok) : F.rd ≠ [] := by
  intro h
  obtain ⟨j, hj⟩ := first_open O 9 0 (Nat.le_refl _) (by decide) (by unfold Figs.b; rw [bOf_zero O.P.T]; exact O.lh)
  rw [h] at hj; cases hj
theorem angle_ok1 : PyData.strOk ⟨#[62]⟩ = true := by decide +kernel
theorem angle_ok0 : PyData.strOk ⟨#[60]⟩ = true := by decide +kernel
theorem tx_str (O : F.Ok) (k : Nat) : PyData.strOk (F.tx k) = true := by
  rw [O.tx]
  split
  · exact O.so k 8 (Nat.le_refl _)
  · split
    · exact angle_ok1
    · exact angle_ok0
noncomputable def Figs.oth (F : Figs) (k : Nat) : Str := if (!(F.ps k).isEmpty || decide (k ∈ F.rd)) = true then F.tx k else F.rep k ((k + F.fl) % 8)
noncomputable def Figs.txO (F : Figs) (one k : Nat) : Str := if k = one then F.rep one F.fl else F.oth k
theorem oth_leaf (O : F.Ok) {k : Nat} (h : k ∈ F.rd) : F.oth k = F.rep k 8 := by
  unfold Figs.oth
  rw [decide_eq_true h, Bool.or_true, if_pos rfl, O.tx k, if_pos (by rw [((rd_iff O).mp h).2.1]; rfl)]
theorem kind_sorts (O : F.Ok) (k : Nat) : kindAt F.kd k ≠ 1 ∧ kindAt F.kd k ≠ -1 := by
  by_cases h : F.ps k = []
  · have := O.kl k h; lia
  · rw [O.ki k h]; split <;> decide
theorem law_one (O : F.Ok) : Law F.ps F.en F.dd F.pt F.dp F.lo F.hi (kindAt F.kd) F.oth 9 true := by
  refine ⟨O.P, O.dk, O.d4, fun k _ h => O.kl k h, fun k _ h => O.ki k h, fun k hk h hb => ?_⟩
  rw [oth_leaf O ((rd_iff O).mpr ⟨hk, h, hb⟩), O.pa k 8 (Nat.le_refl _), if_pos rfl, if_neg (by lia)]
theorem law_two (O : F.Ok) (one : Nat) : Law F.ps F.en F.dd F.pt F.dp F.lo F.hi (kindAt F.kd) (F.txO one) one (decide (3 ≤ F.fl)) := by
  refine ⟨O.P, O.dk, O.d4, fun k _ h => O.kl k h, fun k _ h => O.ki k h, fun k hk h hb => ?_⟩
  have hf := O.f8
  unfold Figs.txO
  by_cases e : k = one
  · subst e
    rw [if_pos rfl, if_pos rfl, O.pa k F.fl (by lia), if_neg (by lia)]
  · rw [if_neg e, if_neg e, oth_leaf O ((rd_iff O).mpr ⟨hk, h, hb⟩), O.pa k 8 (Nat.le_refl _), if_pos rfl]
theorem nine_not (O : F.Ok) : 9 ∉ F.rd := fun h => by have := ((rd_iff O).mp h).1; lia
end
structure LawB (F : Figs) (pr qr cr tr kr er ur rr : Nat) (rs : Nat → Nat) (σ : MH) : Prop where
  P : PartsRs σ pr rs F.ps
  Q : σ[qr]? = some (.list (natL ((List.range 9).map F.pt)))
  C : σ[cr]? = some (.list (natL ((List.range 9).map F.c)))
  T : σ[tr]? = some (.list ((List.range 9).map fun k => .str (F.tx k)))
  K : σ[kr]? = some (.list ((List.range 9).map fun i => .int (kindAt F.kd i)))
  E : σ[er]? = some (.list ((List.range 9).map fun i => .int ((F.en i : Nat) : Int)))
  U : σ[ur]? = some (.tup [.int (clipI (wOf F.ps F.dd F.pt 0 : Nat) F.lo F.hi), placeV F.ps (wOf F.ps F.dd F.pt) F.lo F.hi 0])
  R : σ[rr]? = some (.list (natL F.rd))
theorem lawB_keep {F : Figs} {pr qr cr tr kr er ur rr : Nat} {rs : Nat → Nat} {σ σ' : MH} (K : ∀ (x : Nat) (o : MO), σ[x]? = some o → σ'[x]? = some o) (h : LawB F pr qr cr tr kr er ur rr rs σ) : LawB F pr qr cr tr kr er ur rr rs σ' :=
  ⟨keep_parts K h.P, K _ _ h.Q, K _ _ h.C, K _ _ h.T, K _ _ h.K, K _ _ h.E, K _ _ h.U, K _ _ h.R⟩
theorem keep_app {σ l : MH} : ∀ (x : Nat) (o : MO), σ[x]? = some o → (σ ++ l)[x]? = some o := fun _ _ h => get_old h
theorem comp_src {e : ED} {x : String} {fv : List String} {src : RD} {t : TD} {ρ : MEnv} {σ σ₁ : MH} {r : Src} (h : src ρ σ = .ok r σ₁) : eComp e x fv src t ρ σ = eComp e x fv (fun _ σ => .ok r σ) t ρ σ₁ := by
  unfold eComp
  rw [h]; try rfl
noncomputable def lawRest2 : SD := (sSeq (sAssign "faulty" (eComp (eCall replyF (lCons (eIdx (eVar "ports") (eVar "k")) (lCons (eBin opDiv (eIdx (eVar "cells") (eVar "k")) (eVal (.int 960))) (lCons (eBin opMod (eBin opAdd (eVar "k") (eVar "flaw")) (eVal (.int 8))) lNil)))) "k" ["ports", "cells", "flaw"] (rRange1 (eVal (.int 9))) tTrue))
  (sSeq (sAssign "others" (eComp (eIf (tOr (tOf (eCmp .ne (eIdx (eVar "parts") (eVar "k")) (eList lNil))) (tOf (eInList (eVar "k") (eVar "read")))) (eIdx (eVar "texts") (eVar "k")) (eIdx (eVar "faulty") (eVar "k"))) "k" ["texts", "faulty", "read", "parts"] (rRange1 (eVal (.int 9))) tTrue))
  (sSeq (sIf (tOf (eCmp .ne (eCall toldF (lCons (eTup (lCons (eVar "kinds") (lCons (eVar "ends") (lCons (eVar "others") lNil)))) (lCons (eVar "low") (lCons (eVar "high") lNil)))) (eTup (lCons (eVar "due") (lCons (eVar "read") lNil)))))
    (sRet (eVal (.bool false)))
    sPass)
  (sSeq (sAssign "one" (eIdx (eVar "read") (eBin opMod (eBin opDiv (eIdx (eVar "cells") (eVal (.int 0))) (eVal (.int 132))) (eUn fLen (eVar "read")))))
  (sSeq (sAssign "spoilt" (eCall replyF (lCons (eIdx (eVar "ports") (eVar "one")) (lCons (eBin opDiv (eIdx (eVar "cells") (eVar "one")) (eVal (.int 960))) (lCons (eVar "flaw") lNil)))))
  (sSeq (sAssign "last" (eCall toldF (lCons (eTup (lCons (eVar "kinds") (lCons (eVar "ends") (lCons (eBin opAdd (eBin opAdd (eSlTo (eVar "others") (eVar "one")) (eList (lCons (eVar "spoilt") lNil))) (eSlFrom (eVar "others") (eBin opAdd (eVar "one") (eVal (.int 1))))) lNil)))) (lCons (eVar "low") (lCons (eVar "high") lNil)))))
  (sRet (eCmp .eq (eVar "last") (eTup (lCons (eTup (lCons (eIf (tOf (eCmp .lt (eVar "flaw") (eVal (.int 3)))) (eVal (.str (Str.ofString "code"))) (eVal (.str (Str.ofString "form")))) (lCons (eVar "spoilt") lNil))) (lCons (eComp (eVar "k") "k" ["one"] (rList (eVar "read")) (tOf (eCmp .lt (eVar "k") (eVar "one")))) lNil)))))))))))
section
variable {F : Figs}
theorem run_rows (O : F.Ok) {lr tr : Nat} {σ : MH} (L : σ[lr]? = some (.list ((List.range 9).map fun i => .str (leadS (qAt F.cs i))))) (T : σ[tr]? = some (.list ((List.range 9).map fun k => .str (F.tx k)))) {ρ : MEnv} (vl : ρ "leads" = some (.ref lr)) (vt : ρ "texts" = some (.ref tr)) :
    ∃ ext, eComp (eBin opAdd (eIdx (eVar "leads") (eVar "k")) (eIdx (eVar "texts") (eVar "k"))) "k" ["leads", "texts"] (rRange1 (eVal (.int 9))) tTrue ρ σ = .ok (.ref (σ ++ ext).length) (σ ++ (ext ++ [.list ((List.range 9).map fun i => .str (rowS F.cs F.tx i))])) := by
  refine run_compS (rowS F.cs F.tx) (run_range1 (n := 9) rfl (by decide)) items0 (by decide) (fun _ => rfl) fun k hk ext => ?_
  have hk9 := List.mem_range.mp hk
  have n1 : upd (seen ρ ["leads", "texts"]) "k" (.int (k : Int)) "leads" = some (.ref lr) := upd_go (by decide) ((seen_skip (by decide +kernel)).trans vl)
  have n2 : upd (seen ρ ["leads", "texts"]) "k" (.int (k : Int)) "texts" = some (.ref tr) := upd_go (by decide) ((seen_skip (by decide +kernel)).trans vt)
  have h1 : eIdx (eVar "leads") (eVar "k") (upd (seen ρ ["leads", "texts"]) "k" (.int (k : Int))) (σ ++ ext) = .ok (.str (leadS (qAt F.cs k))) (σ ++ ext) := run_idx (run_var n1) (run_var upd_eq) (get_old L) (by rw [range_len]; lia) (range_get hk9)
  have h2 : eIdx (eVar "texts") (eVar "k") (upd (seen ρ ["leads", "texts"]) "k" (.int (k : Int))) (σ ++ ext) = .ok (.str (F.tx k)) (σ ++ ext) := run_idx (run_var n2) (run_var upd_eq) (get_old T) (by rw [range_len]; lia) (range_get hk9)
  have l1 := O.ql k hk9
  have l2 := (O.sl k).2
  have l3 : (F.tx k).cps.toList.length = (F.tx k).length := rfl
  refine wp_bin (wp_eq h1 (wp_eq h2 (wp_addS ?_ ⟨⟨ext, rfl⟩, rfl⟩)))
  unfold maxLen; lia
theorem run_sorts (O : F.Ok) {kr : Nat} {σ : MH} (K : σ[kr]? = some (.list ((List.range 9).map fun i => .int (kindAt F.kd i)))) {ρ : MEnv} (vk : ρ "kinds" = some (.ref kr)) :
    ∃ ext j, eComp (eCall sortedF (lCons (eVar "kind") lNil)) "kind" [] (rList (eBin opAdd (eVar "kinds") (eList (lCons (eVal (.int 0)) lNil)))) tTrue ρ σ = .ok (.ref j) (σ ++ ext) ∧ (σ ++ ext)[j]? = some (.list (List.replicate 10 (.bool true))) := by
  have hs : rList (eBin opAdd (eVar "kinds") (eList (lCons (eVal (.int 0)) lNil))) ρ σ = .ok (.list (σ ++ [MO.list [.int 0]]).length ((List.range 9).map (fun i => MV.int (kindAt F.kd i)) ++ [.int 0])) (σ ++ [MO.list [.int 0]] ++ [MO.list ((List.range 9).map (fun i => MV.int (kindAt F.kd i)) ++ [.int 0])]) := by
    suffices h : Wp (rList (eBin opAdd (eVar "kinds") (eList (lCons (eVal (.int 0)) lNil))) ρ σ) (fun r σ' => r = .list (σ ++ [MO.list [.int 0]]).length ((List.range 9).map (fun i => MV.int (kindAt F.kd i)) ++ [.int 0]) ∧ σ' = (σ ++ [MO.list [.int 0]] ++ [MO.list ((List.range 9).map (fun i => MV.int (kindAt F.kd i)) ++ [.int 0])])) noX by
      obtain ⟨v, σ', e, rfl, rfl⟩ := wp_out h; exact e
    refine wp_rList (wp_bin (wp_var vk (wp_list (wp_lcons (wp_val (wp_lnil ⟨by simp [maxLen], wp_addL (get_old K) get_last ?_ (.inl ⟨_, _, rfl, get_last, rfl, rfl⟩)⟩))))))
    rw [range_len]; decide
  rw [comp_src hs]
  have hj := get_last (σ := σ ++ [MO.list [.int 0]]) (o := MO.list ((List.range 9).map (fun i => MV.int (kindAt F.kd i)) ++ [.int 0]))
  generalize (σ ++ [MO.list [.int 0]]).length = i at *
  have key := run_comp (e := eCall sortedF (lCons (eVar "kind") lNil)) (x := "kind") (fv := []) (t := tTrue) (ρ := ρ) (src := fun _ σ => .ok (.list i ((List.range 9).map (fun i => MV.int (kindAt F.kd i)) ++ [.int 0])) σ) (fun _ => some (.bool true)) rfl
    (by unfold Src.items; rw [List.length_append, range_len]; decide) (by unfold Src.stands; exact decide_eq_true hj) (fun v hv => by
      have : ∃ k : Int, v = .int k ∧ k ≠ 1 ∧ k ≠ -1 := by
        unfold Src.items at hv
        rcases List.mem_append.mp hv with hv | hv
        · refine box fun GZ kZ => ?_
          obtain ⟨k, _, rfl⟩ := List.mem_map.mp hv
          refine kZ ?_
          clear kZ GZ
          have := kind_sorts O k
          exact ⟨_, rfl, this.1, this.2⟩
        · exact ⟨0, List.mem_singleton.mp hv, by decide, by decide⟩
      refine box fun GZ kZ => ?_
      obtain ⟨k, rfl, h1, h2⟩ := this
      refine kZ ?_
      clear kZ GZ
      refine wp_tTrue ⟨rfl, ?_⟩
      rw [if_pos rfl]
      exact wp_call (wp_lcons (wp_var upd_eq (wp_lnil (wp_eq (run_sorted k _ h1 h2) ⟨rfl, rfl⟩)))))
  rw [key]
  refine ⟨_, _, by simp only [List.append_assoc]; rfl, ?_⟩
  rw [show ∀ a b c : MH, σ ++ (a ++ (b ++ c)) = (σ ++ a ++ b) ++ c from fun a b c => by simp only [List.append_assoc]]
  rw [show (σ ++ ([MO.list [.int 0]] ++ [MO.list ((List.range 9).map (fun i => MV.int (kindAt F.kd i)) ++ [.int 0])])) = (σ ++ [MO.list [.int 0]] ++ [MO.list ((List.range 9).map (fun i => MV.int (kindAt F.kd i)) ++ [.int 0])]) from by simp only [List.append_assoc]]
  rw [get_last]
  rfl
end
namespace hkp370
noncomputable abbrev hS (F : Figs) (ρ : MEnv) (σ : MH) (pr : Nat) (dr : Nat) (qr : Nat) (cr : Nat) (lr : Nat) (rs : Nat → Nat) : Prop := ∀ (O : F.Ok) (rest : ∀ (ρ : MEnv) (σ : MH) (pr qr cr tr kr er ur rr : Nat) (rs : Nat → Nat), LawB F pr qr cr tr kr er ur rr rs σ → ρ "parts" = some (.ref pr) → ρ "ports" = some (.ref qr) → ρ "cells" = some (.ref cr) → ρ "texts" = some (.ref tr) → ρ "kinds" = some (.ref kr) → ρ "ends" = some (.ref er) → ρ "due" = some (.ref ur) → ρ "read" = some (.ref rr) → ρ "low" = some (.int F.lo) → ρ "high" = some (.int F.hi) → ρ "flaw" = some (.int ((F.fl : Nat) : Int)) →
      Wp (lawRest2 ρ σ) (fun r _ => r.1 = .ret (.bool true)) noX) (A : FigA F pr dr qr cr lr rs σ) (v1 : ρ "parts" = some (.ref pr)) (v2 : ρ "deeds" = some (.ref dr)) (v3 : ρ "ports" = some (.ref qr)) (v4 : ρ "cells" = some (.ref cr)) (v5 : ρ "leads" = some (.ref lr)) (v6 : ρ "low" = some (.int F.lo)) (v7 : ρ "high" = some (.int F.hi)) (v8 : ρ "flaw" = some (.int ((F.fl : Nat) : Int))), Wp (lawRest ρ σ) (fun r _ => r.1 = .ret (.bool true)) noX
noncomputable abbrev hP := fun p : Figs × MEnv × MH × Nat × Nat × Nat × Nat × Nat × (Nat → Nat) => hS p.1 p.2.1 p.2.2.1 p.2.2.2.1 p.2.2.2.2.1 p.2.2.2.2.2.1 p.2.2.2.2.2.2.1 p.2.2.2.2.2.2.2.1 p.2.2.2.2.2.2.2.2
noncomputable def hW := ce (⟨[], fun _ => 0, fun _ => [], fun _ => 0, fun _ => 0, fun _ => 0, fun _ => 0, 0, 0, 0, fun _ _ => ⟨#[]⟩, fun _ => ⟨#[]⟩, fun _ => none⟩, default, default, default, default, default, default, default, default) hP
noncomputable def F : Figs := hW.1
noncomputable def ρ : MEnv := hW.2.1
noncomputable def σ : MH := hW.2.2.1
noncomputable def pr : Nat := hW.2.2.2.1
noncomputable def dr : Nat := hW.2.2.2.2.1
noncomputable def qr : Nat := hW.2.2.2.2.2.1
noncomputable def cr : Nat := hW.2.2.2.2.2.2.1
noncomputable def lr : Nat := hW.2.2.2.2.2.2.2.1
noncomputable def rs : Nat → Nat := hW.2.2.2.2.2.2.2.2
theorem hT : hS F ρ σ pr dr qr cr lr rs := by
  intro O rest A v1 v2 v3 v4 v5 v6 v7 v8
  obtain ⟨e1, h1⟩ := run_texts O A v1 v2 v3 v4
  unfold lawRest
  refine wp_seq (wp_assign (wp_eq h1 ?_))
  dsimp only
  clear h1
  have A1 := figA_app (l := e1 ++ [MO.list ((List.range 9).map fun k => .str (F.tx k))]) A
  have T : (σ ++ (e1 ++ [MO.list ((List.range 9).map fun k => .str (F.tx k))]))[(σ ++ e1).length]? = some (.list ((List.range 9).map fun k => .str (F.tx k))) := by rw [← List.append_assoc]; exact get_last
  clear A
  generalize (σ ++ e1).length = tr at *
  generalize σ ++ (e1 ++ [MO.list ((List.range 9).map fun k => .str (F.tx k))]) = σ₁ at *
  obtain ⟨e2, h2⟩ := run_rows O A1.L T (ρ := upd ρ "texts" (.ref tr)) (upd_go (by decide) v5) upd_eq
  have A2 := figA_app (l := e2 ++ [MO.list ((List.range 9).map fun i => .str (rowS F.cs F.tx i))]) A1
  have Rw : (σ₁ ++ (e2 ++ [MO.list ((List.range 9).map fun i => .str (rowS F.cs F.tx i))]))[(σ₁ ++ e2).length]? = some (.list ((List.range 9).map fun i => .str (rowS F.cs F.tx i))) := by rw [← List.append_assoc]; exact get_last
  replace T := get_old (l := e2 ++ [MO.list ((List.range 9).map fun i => .str (rowS F.cs F.tx i))]) T
  clear A1
  generalize (σ₁ ++ e2).length = wr at *
  generalize σ₁ ++ (e2 ++ [MO.list ((List.range 9).map fun i => .str (rowS F.cs F.tx i))]) = σ₂ at *
  refine box fun GZ kZ => ?_
  obtain ⟨e3, t, kr, er, xr, h3, o1, K, E, X⟩ := run_read (σ₀ := σ₂) (rr := wr) (cs := F.cs) (tx := F.tx) (kd := F.kd) A2.ne Rw (fun i _ => O.sl i) (fun i _ => O.lk i)
  refine kZ ?_
  clear kZ GZ
  refine wp_seq (wp_unpackT (i := t) (wp_call (wp_lcons (wp_eq h2 (wp_lnil (wp_eq h3 rfl))))) o1 rfl ?_)
  dsimp only [updAll]
  clear h2 h3 Rw o1
  rw [O.ends] at E
  have A3 := figA_app (l := e3) A2
  replace T := get_old (l := e3) T
  clear A2
  generalize σ₂ ++ e3 = σ₃ at *
  generalize hρ : upd (upd (upd (upd ρ "texts" (MV.ref tr)) "kinds" (MV.ref kr)) "ends" (MV.ref er)) "told" (MV.ref xr) = ρ₁
  have u0 : ∀ y, y ≠ "texts" → y ≠ "kinds" → y ≠ "ends" → y ≠ "told" → ρ₁ y = ρ y := fun y a b c d => by rw [← hρ, upd_skip d, upd_skip c, upd_skip b, upd_skip a]
  have ut : ρ₁ "texts" = some (.ref tr) := by rw [← hρ]; walk_at "pn"
  have uk : ρ₁ "kinds" = some (.ref kr) := by rw [← hρ]; walk_at "pn"
  have ue : ρ₁ "ends" = some (.ref er) := by rw [← hρ]; walk_at "pn"
  have ux : ρ₁ "told" = some (.ref xr) := by rw [← hρ]; walk_at "pn"
  clear hρ
  refine box fun GZ kZ => ?_
  obtain ⟨e4, j, h4, h5⟩ := run_sorts O K uk
  refine kZ ?_
  clear kZ GZ
  refine wp_seq (wp_sif (wp_tOr (wp_tOf (wp_cmp (wp_bin (wp_var ux (wp_var ut (wp_cne (eq_strs (tx_str O) X T) ⟨_, rfl, ?_⟩))))))))
  rw [if_neg (by decide)]
  refine wp_tOf (wp_bin (wp_val (wp_eq h4 (wp_eq (in_trues h5) ⟨_, rfl, ?_⟩))))
  rw [if_neg (by decide)]
  refine wp_pass ?_
  dsimp only
  have A4 := figA_app (l := e4) A3
  replace T := get_old (l := e4) T
  replace K := get_old (l := e4) K
  replace E := get_old (l := e4) E
  clear h4 h5 X A3
  generalize σ₃ ++ e4 = σ₄ at *
  refine box fun GZ kZ => ?_
  obtain ⟨e5, t5, d5, r5, h6, o2, D5, R5⟩ := run_due (lo := F.lo) (hi := F.hi) (⟨A4.ne, O.P.T, O.sz, A4.P, A4.D⟩ : Env σ₄ pr dr rs F.ps F.dd) A4.Q
  refine kZ ?_
  clear kZ GZ
  refine wp_seq (wp_unpackT (i := t5) (wp_call (wp_lcons (wp_var ((u0 _ (by decide) (by decide) (by decide) (by decide)).trans v1) (wp_lcons (wp_var ((u0 _ (by decide) (by decide) (by decide) (by decide)).trans v2) (wp_lcons (wp_var ((u0 _ (by decide) (by decide) (by decide) (by decide)).trans v3) (wp_lcons (wp_var ((u0 _ (by decide) (by decide) (by decide) (by decide)).trans v6) (wp_lcons (wp_var ((u0 _ (by decide) (by decide) (by decide) (by decide)).trans v7) (wp_lnil (wp_eq h6 rfl))))))))))))) o2 rfl ?_)
  dsimp only [updAll]
  have A5 := figA_app (l := e5) A4
  have R6 : (σ₄ ++ e5)[r5]? = some (.list (natL F.rd)) := by rw [rd_eq O]; exact R5
  have nm : ∀ y, y ≠ "texts" → y ≠ "kinds" → y ≠ "ends" → y ≠ "told" → y ≠ "due" → y ≠ "read" → upd (upd ρ₁ "due" (MV.ref d5)) "read" (MV.ref r5) y = ρ y := fun y a b c d e f => by rw [upd_skip f, upd_skip e, u0 y a b c d]
  refine rest _ (σ₄ ++ e5) pr qr cr tr kr er d5 r5 rs ⟨A5.P, A5.Q, A5.C, get_old T, get_old K, get_old E, D5, R6⟩ ((nm _ (by decide) (by decide) (by decide) (by decide) (by decide) (by decide)).trans v1) ((nm _ (by decide) (by decide) (by decide) (by decide) (by decide) (by decide)).trans v3) ((nm _ (by decide) (by decide) (by decide) (by decide) (by decide) (by decide)).trans v4) ?_ ?_ ?_ ?_ upd_eq ((nm _ (by decide) (by decide) (by decide) (by decide) (by decide) (by decide)).trans v6) ((nm _ (by decide) (by decide) (by decide) (by decide) (by decide) (by decide)).trans v7) ((nm _ (by decide) (by decide) (by decide) (by decide) (by decide) (by decide)).trans v8)
  · exact upd_go (by decide) (upd_go (by decide) ut)
  · exact upd_go (by decide) (upd_go (by decide) uk)
  · exact upd_go (by decide) (upd_go (by decide) ue)
  · exact upd_go (by decide) upd_eq
end hkp370
theorem law_mid : ∀ {F : Figs} {ρ : MEnv} {σ : MH} {pr : Nat} {dr : Nat} {qr : Nat} {cr : Nat} {lr : Nat} {rs : Nat → Nat}, hkp370.hS F ρ σ pr dr qr cr lr rs := @fun F ρ σ pr dr qr cr lr rs => ce_all (P := hkp370.hP) (⟨[], fun _ => 0, fun _ => [], fun _ => 0, fun _ => 0, fun _ => 0, fun _ => 0, 0, 0, 0, fun _ _ => ⟨#[]⟩, fun _ => ⟨#[]⟩, fun _ => none⟩, default, default, default, default, default, default, default, default) (@hkp370.hT) (F, ρ, σ, pr, dr, qr, cr, lr, rs)
section
variable {F : Figs}
end
section
variable {F : Figs}
theorem nat_mod {a b : ED} {x y : Nat} {ρ : MEnv} {σ : MH} (ha : a ρ σ = .ok (.int (x : Int)) σ) (hb : b ρ σ = .ok (.int (y : Int)) σ) (hy : y ≠ 0) : eBin opMod a b ρ σ = .ok (.int ((x % y : Nat) : Int)) σ := run_mod ha hb hy
theorem nat_add {a b : ED} {x y : Nat} {ρ : MEnv} {σ : MH} (ha : a ρ σ = .ok (.int (x : Int)) σ) (hb : b ρ σ = .ok (.int (y : Int)) σ) : eBin opAdd a b ρ σ = .ok (.int ((x + y : Nat) : Int)) σ := by
  rw [run_add ha hb, Int.natCast_add]
theorem run_faulty (O : F.Ok) {qr cr : Nat} {σ : MH} (Q : σ[qr]? = some (.list (natL ((List.range 9).map F.pt)))) (C : σ[cr]? = some (.list (natL ((List.range 9).map F.c)))) {ρ : MEnv} (vq : ρ "ports" = some (.ref qr)) (vc : ρ "cells" = some (.ref cr)) (vf : ρ "flaw" = some (.int ((F.fl : Nat) : Int))) :
    ∃ ext, eComp (eCall replyF (lCons (eIdx (eVar "ports") (eVar "k")) (lCons (eBin opDiv (eIdx (eVar "cells") (eVar "k")) (eVal (.int 960))) (lCons (eBin opMod (eBin opAdd (eVar "k") (eVar "flaw")) (eVal (.int 8))) lNil)))) "k" ["ports", "cells", "flaw"] (rRange1 (eVal (.int 9))) tTrue ρ σ =
      .ok (.ref (σ ++ ext).length) (σ ++ (ext ++ [.list ((List.range 9).map fun k => .str (F.rep k ((k + F.fl) % 8)))])) := by
  refine run_compS (fun k => F.rep k ((k + F.fl) % 8)) (run_range1 (n := 9) rfl (by decide)) items0 (by decide) (fun _ => rfl) fun k hk ext => ?_
  have hk9 := List.mem_range.mp hk
  have n1 : upd (seen ρ ["ports", "cells", "flaw"]) "k" (.int (k : Int)) "ports" = some (.ref qr) := upd_go (by decide) ((seen_skip (by decide +kernel)).trans vq)
  have n2 : upd (seen ρ ["ports", "cells", "flaw"]) "k" (.int (k : Int)) "cells" = some (.ref cr) := upd_go (by decide) ((seen_skip (by decide +kernel)).trans vc)
  have n3 : upd (seen ρ ["ports", "cells", "flaw"]) "k" (.int (k : Int)) "flaw" = some (.int ((F.fl : Nat) : Int)) := upd_go (by decide) ((seen_skip (by decide +kernel)).trans vf)
  have hl : (k + F.fl) % 8 < 8 := Nat.mod_lt _ (by decide)
  obtain ⟨e2, h2⟩ := reply_of O (f := (k + F.fl) % 8) hk9 (Nat.le_of_lt hl) (get_old (l := ext) Q) (get_old (l := ext) C) n1 n2 (x := "k") upd_eq (c := eBin opMod (eBin opAdd (eVar "k") (eVar "flaw")) (eVal (.int 8))) (nat_mod (y := 8) (nat_add (run_var upd_eq) (run_var n3)) rfl (by decide))
  refine wp_eq h2 ⟨⟨ext ++ e2, ?_⟩, rfl⟩
  simp only [List.append_assoc]
theorem run_others (O : F.Ok) {pr tr fr rr : Nat} {rs : Nat → Nat} {σ : MH} (P : PartsRs σ pr rs F.ps) (T : σ[tr]? = some (.list ((List.range 9).map fun k => .str (F.tx k)))) (Y : σ[fr]? = some (.list ((List.range 9).map fun k => .str (F.rep k ((k + F.fl) % 8))))) (R : σ[rr]? = some (.list (natL F.rd)))
    {ρ : MEnv} (vp : ρ "parts" = some (.ref pr)) (vt : ρ "texts" = some (.ref tr)) (vf : ρ "faulty" = some (.ref fr)) (vr : ρ "read" = some (.ref rr)) :
    ∃ ext, eComp (eIf (tOr (tOf (eCmp .ne (eIdx (eVar "parts") (eVar "k")) (eList lNil))) (tOf (eInList (eVar "k") (eVar "read")))) (eIdx (eVar "texts") (eVar "k")) (eIdx (eVar "faulty") (eVar "k"))) "k" ["texts", "faulty", "read", "parts"] (rRange1 (eVal (.int 9))) tTrue ρ σ =
      .ok (.ref (σ ++ ext).length) (σ ++ (ext ++ [.list ((List.range 9).map fun k => .str (F.oth k))])) := by
  refine run_compS F.oth (run_range1 (n := 9) rfl (by decide)) items0 (by decide) (fun _ => rfl) fun k hk ext => ?_
  have hk9 := List.mem_range.mp hk
  have nn : ∀ y, y ≠ "k" → List.contains ["texts", "faulty", "read", "parts"] y = true → upd (seen ρ ["texts", "faulty", "read", "parts"]) "k" (.int (k : Int)) y = ρ y := fun y a b => (upd_skip a).trans (seen_skip b)
  have n1 := (nn "parts" (by decide) (by decide +kernel)).trans vp
  have n2 := (nn "texts" (by decide) (by decide +kernel)).trans vt
  have n3 := (nn "faulty" (by decide) (by decide +kernel)).trans vf
  have n4 := (nn "read" (by decide) (by decide +kernel)).trans vr
  have P' := partsRs_app (l := ext) P
  have hx : ∃ ex, σ ++ ext ++ [MO.list []] = σ ++ ex := ⟨ext ++ [MO.list []], by simp only [List.append_assoc]⟩
  have g1 : eIdx (eVar "texts") (eVar "k") (upd (seen ρ ["texts", "faulty", "read", "parts"]) "k" (.int (k : Int))) (σ ++ ext ++ [MO.list []]) = .ok (.str (F.tx k)) (σ ++ ext ++ [MO.list []]) := run_idx (run_var n2) (run_var upd_eq) (get_old (get_old T)) (by rw [range_len]; lia) (range_get hk9)
  have g2 : eIdx (eVar "faulty") (eVar "k") (upd (seen ρ ["texts", "faulty", "read", "parts"]) "k" (.int (k : Int))) (σ ++ ext ++ [MO.list []]) = .ok (.str (F.rep k ((k + F.fl) % 8))) (σ ++ ext ++ [MO.list []]) := run_idx (run_var n3) (run_var upd_eq) (get_old (get_old Y)) (by rw [range_len]; lia) (range_get hk9)
  refine wp_eif (wp_tOr (wp_eq (run_filled (run_part P' hk9 (run_var n1) (run_var upd_eq)) (P'.2 k hk9)) ?_))
  unfold Figs.oth
  by_cases he : (F.ps k).isEmpty = true
  · rw [he, if_neg (by decide)]
    refine wp_tOf (wp_bin (wp_var upd_eq (wp_var n4 (wp_eq (in_ints (get_old (get_old R))) ⟨_, rfl, ?_⟩))))
    rw [show (!true || decide (k ∈ F.rd)) = decide (k ∈ F.rd) from rfl]
    by_cases hr : k ∈ F.rd
    · rw [decide_eq_true hr, if_pos rfl, if_pos rfl]
      exact wp_eq g1 ⟨hx, rfl⟩
    · rw [decide_eq_false hr, if_neg (by decide), if_neg (by decide)]
      exact wp_eq g2 ⟨hx, rfl⟩
  · rw [Bool.not_eq_true] at he
    rw [he, if_pos (show (!false) = true from rfl), if_pos (show true = true from rfl), if_pos (show (!false || decide (k ∈ F.rd)) = true from rfl)]
    exact wp_eq g1 ⟨hx, rfl⟩
theorem place_data (ps : Nat → List Nat) (W : Nat → Nat) (lo hi : Int) (k : Nat) : ∃ d, (∀ (σ : MH) n, toPy σ n (placeV ps W lo hi k) = some d) ∧ d.canLay0 = true ∧ d.depth = 0 := by
  unfold placeV
  split
  · exact ⟨_, fun σ n => toPy_int σ n _, rfl, rfl⟩
  · exact ⟨.none, fun σ n => by cases n <;> rfl, rfl, rfl⟩
theorem run_told1 (O : F.Ok) {pr qr cr tr kr er ur rr or : Nat} {rs : Nat → Nat} {σ : MH} (B : LawB F pr qr cr tr kr er ur rr rs σ) (X : σ[or]? = some (.list ((List.range 9).map fun k => .str (F.oth k)))) {ρ : MEnv} (vk : ρ "kinds" = some (.ref kr)) (ve : ρ "ends" = some (.ref er)) (vo : ρ "others" = some (.ref or)) (vl : ρ "low" = some (.int F.lo)) (vh : ρ "high" = some (.int F.hi)) (vd : ρ "due" = some (.ref ur)) (vr : ρ "read" = some (.ref rr)) :
    Wp (tOf (eCmp .ne (eCall toldF (lCons (eTup (lCons (eVar "kinds") (lCons (eVar "ends") (lCons (eVar "others") lNil)))) (lCons (eVar "low") (lCons (eVar "high") lNil)))) (eTup (lCons (eVar "due") (lCons (eVar "read") lNil)))) ρ σ) (fun b σ' => b = false ∧ ∀ (x : Nat) (o : MO), σ[x]? = some o → σ'[x]? = some o) noX := by
  refine wp_tOf (wp_cmp (wp_bin (wp_call (wp_lcons (wp_tup (wp_lcons (wp_var vk (wp_lcons (wp_var ve (wp_lcons (wp_var vo (wp_lnil ⟨by simp [maxLen], wp_lcons (wp_var vl (wp_lcons (wp_var vh (wp_lnil ?_))))⟩))))))))))))
  have h0 : (σ ++ [MO.tup [.ref kr, .ref er, .ref or]]).length ≠ 0 := by simp
  refine wp_mono (run_told (law_one O) O.sz O.lh h0 ⟨get_last, get_old B.K, get_old B.E, get_old X⟩) ?_ (fun _ _ _ h => h)
  rintro v σ' hb1
  refine box fun GZ kZ => ?_
  obtain ⟨t, d, r, rfl, h1, h2, -, K⟩ := hb1
  obtain ⟨h3, h4⟩ := h2 (nine_not O)
  have K' : ∀ (x : Nat) (o : MO), σ[x]? = some o → σ'[x]? = some o := fun x o h => K x o (get_old h)
  have hU := K' _ _ B.U
  have hR := K' _ _ B.R
  obtain ⟨db, q1, q2, q3⟩ := place_data F.ps (wOf F.ps F.dd F.pt) F.lo F.hi 0
  refine kZ ?_
  clear kZ GZ
  refine wp_tup (wp_lcons (wp_var vd (wp_lcons (wp_var vr (wp_lnil ⟨by simp [maxLen], ?_⟩)))))
  refine wp_cne (r := true) (eq_told (fun n => toPy_int _ n _) (q1 _) rfl q2 rfl q3 (get_old h1) get_last (get_old h3) (get_old hU) (get_old h4) (get_old hR)) ⟨_, rfl, rfl, fun x o h => get_old (K' x o h)⟩
theorem run_splice {or one : Nat} {σ : MH} {xs : List MV} {s : MV} (X : σ[or]? = some (.list xs)) (hl : xs.length = 9) (ho : one < 9) {ρ : MEnv} (vo : ρ "others" = some (.ref or)) (v1 : ρ "one" = some (.int (one : Int))) (vs : ρ "spoilt" = some s) :
    ∃ ext j, eBin opAdd (eBin opAdd (eSlTo (eVar "others") (eVar "one")) (eList (lCons (eVar "spoilt") lNil))) (eSlFrom (eVar "others") (eBin opAdd (eVar "one") (eVal (.int 1)))) ρ σ = .ok (.ref j) (σ ++ ext) ∧ (σ ++ ext)[j]? = some (.list (xs.set one s)) := by
  suffices h : Wp (eBin opAdd (eBin opAdd (eSlTo (eVar "others") (eVar "one")) (eList (lCons (eVar "spoilt") lNil))) (eSlFrom (eVar "others") (eBin opAdd (eVar "one") (eVal (.int 1)))) ρ σ) (fun v σ' => ∃ ext j, v = .ref j ∧ σ' = σ ++ ext ∧ σ'[j]? = some (.list (xs.set one s))) noX by
    obtain ⟨v, σ', e, ext, j, rfl, rfl, h⟩ := wp_out h; exact ⟨ext, j, e, h⟩
  have b1 : ∀ m : Nat, m ≤ 9 → (okB xs.length (m : Int) && decide ((m : Int) ≤ xs.length)) = true := fun m hm => by
    rw [hl]
    unfold okB maxLen
    rw [decide_eq_true (show (0 : Int) ≤ (m : Int) by lia), decide_eq_true (show (m : Int) ≤ 1000000 by lia), decide_eq_true (show (m : Int) ≤ ((9 : Nat) : Int) by lia)]; rfl
  have eq : xs.take one ++ [s] ++ xs.drop (one + 1) = xs.set one s := by
    rw [List.set_eq_take_append_cons_drop, if_pos (by lia), List.append_assoc]; rfl
  refine wp_bin (wp_bin (wp_eslTo (wp_bin (wp_var vo (wp_var v1 (wp_slToL X (b1 one (by lia)) (wp_list (wp_lcons (wp_var vs (wp_lnil ⟨by simp [maxLen], wp_addL (get_old get_last) get_last ?_ ?_⟩))))))))))
  · rw [List.length_take]; simp only [List.length_cons, List.length_nil]; unfold maxLen; lia
  · refine wp_eslFrom (wp_bin (wp_var vo (wp_eq (nat_add (y := 1) (run_var v1) rfl) (wp_slFromL (get_old (get_old (get_old X))) (b1 (one + 1) (by lia)) (wp_addL (get_old get_last) get_last ?_ ?_)))))
    · rw [Int.toNat_natCast, Int.toNat_natCast, ← List.length_append, eq, List.length_set, hl]; decide
    · rw [Int.toNat_natCast, Int.toNat_natCast, eq]
      exact ⟨_, _, rfl, by simp only [List.append_assoc]; rfl, get_last⟩
end
section
variable {F : Figs}
theorem code_ok : PyData.strOk (Str.ofString "code") = true := by decide +kernel
theorem form_ok : PyData.strOk (Str.ofString "form") = true := by decide +kernel
theorem run_code {fl : Nat} {ρ : MEnv} {σ : MH} (vf : ρ "flaw" = some (.int (fl : Int))) : eIf (tOf (eCmp .lt (eVar "flaw") (eVal (.int 3)))) (eVal (.str (Str.ofString "code"))) (eVal (.str (Str.ofString "form"))) ρ σ = .ok (.str (if decide (3 ≤ fl) = true then Str.ofString "form" else Str.ofString "code")) σ := by
  have e : tOf (eCmp .lt (eVar "flaw") (eVal (.int 3))) ρ σ = .ok (decide ((fl : Int) < 3)) σ := by
    unfold tOf eCmp eBin
    rw [run_var vf]; rfl
  unfold eIf
  rw [e, Mine.R.bind_ok]
  by_cases h : 3 ≤ fl
  · rw [decide_eq_true h, if_pos rfl, decide_eq_false (by lia), if_neg (by decide)]; rfl
  · rw [decide_eq_false h, if_neg (show ¬ (false = true) by decide), decide_eq_true (show (fl : Int) < 3 by lia), if_pos rfl]; rfl
theorem run_before {rr one : Nat} {l : List Nat} {ρ : MEnv} {σ : MH} (R : σ[rr]? = some (.list (natL l))) (hl : l.length ≤ 9) (vr : ρ "read" = some (.ref rr)) (v1 : ρ "one" = some (.int (one : Int))) :
    eComp (eVar "k") "k" ["one"] (rList (eVar "read")) (tOf (eCmp .lt (eVar "k") (eVar "one"))) ρ σ = .ok (.ref σ.length) (σ ++ [.list (natL (l.filter fun i => decide (i < one)))]) := by
  have hs : rList (eVar "read") ρ σ = .ok (.list rr (natL l)) σ := by
    unfold rList
    rw [run_var vr, Mine.R.bind_ok]
    dsimp only
    rw [R]
  have key := run_comp (e := eVar "k") (x := "k") (fv := ["one"]) (t := tOf (eCmp .lt (eVar "k") (eVar "one"))) (ρ := ρ) (σ := σ) (optN fun k => if decide (k < one) = true then some k else none) hs (by unfold Src.items; rw [natL_len]; lia) (by unfold Src.stands; exact decide_eq_true R) ?_
  · rw [key]
    unfold Src.items
    dsimp only
    rw [filterMap_natL, filterMap_ite]
  · intro v hv
    unfold Src.items at hv
    obtain ⟨k, hk, rfl⟩ := mem_natL hv
    have n1 : upd (seen ρ ["one"]) "k" (.int (k : Int)) "one" = some (.int (one : Int)) := upd_go (by decide) ((seen_skip (by decide +kernel)).trans v1)
    have e : tOf (eCmp .lt (eVar "k") (eVar "one")) (upd (seen ρ ["one"]) "k" (.int (k : Int))) σ = .ok (decide ((k : Int) < (one : Int))) σ := by
      unfold tOf eCmp eBin
      rw [run_var upd_eq, Mine.R.bind_ok, run_var n1]; rfl
    have o : optN (fun k => if decide (k < one) = true then some k else none) (.int (k : Int)) = if decide (k < one) = true then some (.int (k : Int)) else none := by
      unfold optN
      dsimp only
      rw [Int.toNat_natCast]
      split <;> rfl
    refine wp_eq e ⟨rfl, ?_⟩
    rw [o]
    by_cases h : k < one
    · rw [decide_eq_true (show (k : Int) < (one : Int) by lia), if_pos rfl, decide_eq_true h, if_pos rfl]
      exact wp_var upd_eq ⟨rfl, rfl⟩
    · rw [decide_eq_false (show ¬ (k : Int) < (one : Int) by lia), if_neg (by decide), decide_eq_false h, if_neg (by decide)]
end
namespace hkp390
noncomputable abbrev hS (F : Figs) (pr : Nat) (qr : Nat) (cr : Nat) (tr : Nat) (kr : Nat) (er : Nat) (ur : Nat) (rr : Nat) (or : Nat) (one : Nat) (rs : Nat → Nat) (σ : MH) (ρ : MEnv) : Prop := ∀ (O : F.Ok) (B : LawB F pr qr cr tr kr er ur rr rs σ) (X : σ[or]? = some (.list ((List.range 9).map fun k => .str (F.oth k)))) (ho : one ∈ F.rd) (vk : ρ "kinds" = some (.ref kr)) (ve : ρ "ends" = some (.ref er)) (vo : ρ "others" = some (.ref or)) (vl : ρ "low" = some (.int F.lo)) (vh : ρ "high" = some (.int F.hi)) (vr : ρ "read" = some (.ref rr)) (vf : ρ "flaw" = some (.int ((F.fl : Nat) : Int))) (v1 : ρ "one" = some (.int (one : Int))) (vs : ρ "spoilt" = some (.str (F.rep one F.fl))), Wp ((sSeq (sAssign "last" (eCall toldF (lCons (eTup (lCons (eVar "kinds") (lCons (eVar "ends") (lCons (eBin opAdd (eBin opAdd (eSlTo (eVar "others") (eVar "one")) (eList (lCons (eVar "spoilt") lNil))) (eSlFrom (eVar "others") (eBin opAdd (eVar "one") (eVal (.int 1))))) lNil)))) (lCons (eVar "low") (lCons (eVar "high") lNil)))))
  (sRet (eCmp .eq (eVar "last") (eTup (lCons (eTup (lCons (eIf (tOf (eCmp .lt (eVar "flaw") (eVal (.int 3)))) (eVal (.str (Str.ofString "code"))) (eVal (.str (Str.ofString "form")))) (lCons (eVar "spoilt") lNil))) (lCons (eComp (eVar "k") "k" ["one"] (rList (eVar "read")) (tOf (eCmp .lt (eVar "k") (eVar "one")))) lNil)))))) ρ σ) (fun r _ => r.1 = .ret (.bool true)) noX
noncomputable abbrev hP := fun p : Figs × Nat × Nat × Nat × Nat × Nat × Nat × Nat × Nat × Nat × Nat × (Nat → Nat) × MH × MEnv => hS p.1 p.2.1 p.2.2.1 p.2.2.2.1 p.2.2.2.2.1 p.2.2.2.2.2.1 p.2.2.2.2.2.2.1 p.2.2.2.2.2.2.2.1 p.2.2.2.2.2.2.2.2.1 p.2.2.2.2.2.2.2.2.2.1 p.2.2.2.2.2.2.2.2.2.2.1 p.2.2.2.2.2.2.2.2.2.2.2.1 p.2.2.2.2.2.2.2.2.2.2.2.2.1 p.2.2.2.2.2.2.2.2.2.2.2.2.2
noncomputable def hW := ce (⟨[], fun _ => 0, fun _ => [], fun _ => 0, fun _ => 0, fun _ => 0, fun _ => 0, 0, 0, 0, fun _ _ => ⟨#[]⟩, fun _ => ⟨#[]⟩, fun _ => none⟩, default, default, default, default, default, default, default, default, default, default, default, default, default) hP
noncomputable def F : Figs := hW.1
noncomputable def pr : Nat := hW.2.1
noncomputable def qr : Nat := hW.2.2.1
noncomputable def cr : Nat := hW.2.2.2.1
noncomputable def tr : Nat := hW.2.2.2.2.1
noncomputable def kr : Nat := hW.2.2.2.2.2.1
noncomputable def er : Nat := hW.2.2.2.2.2.2.1
noncomputable def ur : Nat := hW.2.2.2.2.2.2.2.1
noncomputable def rr : Nat := hW.2.2.2.2.2.2.2.2.1
noncomputable def or : Nat := hW.2.2.2.2.2.2.2.2.2.1
noncomputable def one : Nat := hW.2.2.2.2.2.2.2.2.2.2.1
noncomputable def rs : Nat → Nat := hW.2.2.2.2.2.2.2.2.2.2.2.1
noncomputable def σ : MH := hW.2.2.2.2.2.2.2.2.2.2.2.2.1
noncomputable def ρ : MEnv := hW.2.2.2.2.2.2.2.2.2.2.2.2.2
theorem hT : hS F pr qr cr tr kr er ur rr or one rs σ ρ := by
  intro O B X ho vk ve vo vl vh vr vf v1 vs
  have ho9 := ((rd_iff O).mp ho).1
  have hf8 := O.f8
  obtain ⟨e1, j, h1, h2⟩ := run_splice X (by rw [range_len]) ho9 vo v1 vs
  have hx : ((List.range 9).map fun k => MV.str (F.oth k)).set one (.str (F.rep one F.fl)) = (List.range 9).map fun i => .str (F.txO one i) := by
    rw [range_set]
    refine List.map_congr_left fun i _ => ?_
    unfold chg Figs.txO
    split <;> rfl
  rw [hx] at h2
  have h0 : (σ ++ e1 ++ [MO.tup [.ref kr, .ref er, .ref j]]).length ≠ 0 := by simp
  refine wp_seq (wp_assign (wp_call (wp_lcons (wp_tup (wp_lcons (wp_var vk (wp_lcons (wp_var ve (wp_lcons (wp_eq h1 (wp_lnil ⟨by simp [maxLen], wp_lcons (wp_var vl (wp_lcons (wp_var vh (wp_lnil ?_))))⟩)))))))))))
  refine wp_mono (run_told (law_two O one) O.sz O.lh h0 ⟨get_last, get_old (get_old B.K), get_old (get_old B.E), get_old h2⟩) ?_ (fun _ _ _ h => h)
  rintro v σ' ⟨t, d, r, rfl, h3, -, h4, K⟩
  obtain ⟨h5, h6⟩ := h4 ho
  dsimp only
  have R' : σ'[rr]? = some (.list (natL F.rd)) := K _ _ (get_old (get_old B.R))
  have nm : ∀ y, y ≠ "last" → upd ρ "last" (.ref t) y = ρ y := fun y h => upd_skip h
  have hc := run_code (σ := σ') ((nm "flaw" (by decide)).trans vf)
  have hb := run_before (σ := σ' ++ [MO.tup [.str (if decide (3 ≤ F.fl) = true then Str.ofString "form" else Str.ofString "code"), .str (F.rep one F.fl)]]) (get_old R') (rd_len O) ((nm "read" (by decide)).trans vr) ((nm "one" (by decide)).trans v1)
  have h5' : σ'[d]? = some (.tup [.str (if decide (3 ≤ F.fl) = true then Str.ofString "form" else Str.ofString "code"), .str (F.rep one F.fl)]) := by
    rw [h5]
    have : F.txO one one = F.rep one F.fl := by unfold Figs.txO; rw [if_pos rfl]
    rw [this]
  have hs1 : PyData.strOk (if decide (3 ≤ F.fl) = true then Str.ofString "form" else Str.ofString "code") = true := by
    split
    · exact form_ok
    · exact code_ok
  have hs2 := O.so one F.fl (by lia)
  refine wp_ret (wp_cmp (wp_bin (wp_var upd_eq (wp_tup (wp_lcons (wp_tup (wp_lcons (wp_eq hc (wp_lcons (wp_var ((nm _ (by decide)).trans vs) (wp_lnil ⟨by simp [maxLen], wp_lcons (wp_eq hb (wp_lnil ⟨by simp [maxLen], ?_⟩))⟩)))))))))))
  exact wp_ceq (eq_told (fun n => toPy_str _ n _) (fun n => toPy_str _ n _) hs1 hs2 rfl rfl (get_old (get_old (get_old h3))) get_last (get_old (get_old (get_old h5'))) (get_old (get_old get_last)) (get_old (get_old (get_old h6))) (get_old get_last)) rfl
end hkp390
theorem run_last : ∀ {F : Figs} {pr : Nat} {qr : Nat} {cr : Nat} {tr : Nat} {kr : Nat} {er : Nat} {ur : Nat} {rr : Nat} {or : Nat} {one : Nat} {rs : Nat → Nat} {σ : MH} {ρ : MEnv}, hkp390.hS F pr qr cr tr kr er ur rr or one rs σ ρ := @fun F pr qr cr tr kr er ur rr or one rs σ ρ => ce_all (P := hkp390.hP) (⟨[], fun _ => 0, fun _ => [], fun _ => 0, fun _ => 0, fun _ => 0, fun _ => 0, 0, 0, 0, fun _ _ => ⟨#[]⟩, fun _ => ⟨#[]⟩, fun _ => none⟩, default, default, default, default, default, default, default, default, default, default, default, default, default) (@hkp390.hT) (F, pr, qr, cr, tr, kr, er, ur, rr, or, one, rs, σ, ρ)
section
variable {F : Figs}
end
namespace hkp391
noncomputable abbrev hS (F : Figs) (ρ : MEnv) (σ : MH) (pr : Nat) (qr : Nat) (cr : Nat) (tr : Nat) (kr : Nat) (er : Nat) (ur : Nat) (rr : Nat) (rs : Nat → Nat) : Prop := ∀ (O : F.Ok) (B : LawB F pr qr cr tr kr er ur rr rs σ) (v1 : ρ "parts" = some (.ref pr)) (v2 : ρ "ports" = some (.ref qr)) (v3 : ρ "cells" = some (.ref cr)) (v4 : ρ "texts" = some (.ref tr)) (v5 : ρ "kinds" = some (.ref kr)) (v6 : ρ "ends" = some (.ref er)) (v7 : ρ "due" = some (.ref ur)) (v8 : ρ "read" = some (.ref rr)) (v9 : ρ "low" = some (.int F.lo)) (v10 : ρ "high" = some (.int F.hi)) (v11 : ρ "flaw" = some (.int ((F.fl : Nat) : Int))), Wp (lawRest2 ρ σ) (fun r _ => r.1 = .ret (.bool true)) noX
noncomputable abbrev hP := fun p : Figs × MEnv × MH × Nat × Nat × Nat × Nat × Nat × Nat × Nat × Nat × (Nat → Nat) => hS p.1 p.2.1 p.2.2.1 p.2.2.2.1 p.2.2.2.2.1 p.2.2.2.2.2.1 p.2.2.2.2.2.2.1 p.2.2.2.2.2.2.2.1 p.2.2.2.2.2.2.2.2.1 p.2.2.2.2.2.2.2.2.2.1 p.2.2.2.2.2.2.2.2.2.2.1 p.2.2.2.2.2.2.2.2.2.2.2
noncomputable def hW := ce (⟨[], fun _ => 0, fun _ => [], fun _ => 0, fun _ => 0, fun _ => 0, fun _ => 0, 0, 0, 0, fun _ _ => ⟨#[]⟩, fun _ => ⟨#[]⟩, fun _ => none⟩, default, default, default, default, default, default, default, default, default, default, default) hP
noncomputable def F : Figs := hW.1
noncomputable def ρ : MEnv := hW.2.1
noncomputable def σ : MH := hW.2.2.1
noncomputable def pr : Nat := hW.2.2.2.1
noncomputable def qr : Nat := hW.2.2.2.2.1
noncomputable def cr : Nat := hW.2.2.2.2.2.1
noncomputable def tr : Nat := hW.2.2.2.2.2.2.1
noncomputable def kr : Nat := hW.2.2.2.2.2.2.2.1
noncomputable def er : Nat := hW.2.2.2.2.2.2.2.2.1
noncomputable def ur : Nat := hW.2.2.2.2.2.2.2.2.2.1
noncomputable def rr : Nat := hW.2.2.2.2.2.2.2.2.2.2.1
noncomputable def rs : Nat → Nat := hW.2.2.2.2.2.2.2.2.2.2.2
theorem hT : hS F ρ σ pr qr cr tr kr er ur rr rs := by
  intro O B v1 v2 v3 v4 v5 v6 v7 v8 v9 v10 v11
  unfold lawRest2
  obtain ⟨e1, h1⟩ := run_faulty O B.Q B.C v2 v3 v11
  refine wp_seq (wp_assign (wp_eq h1 ?_))
  dsimp only
  clear h1
  replace B := lawB_keep (keep_app (l := e1 ++ [MO.list ((List.range 9).map fun k => .str (F.rep k ((k + F.fl) % 8)))])) B
  have Y : (σ ++ (e1 ++ [MO.list ((List.range 9).map fun k => .str (F.rep k ((k + F.fl) % 8)))]))[(σ ++ e1).length]? = some (.list ((List.range 9).map fun k => .str (F.rep k ((k + F.fl) % 8)))) := by rw [← List.append_assoc]; exact get_last
  generalize (σ ++ e1).length = fr at *
  generalize σ ++ (e1 ++ [MO.list ((List.range 9).map fun k => .str (F.rep k ((k + F.fl) % 8)))]) = σ₁ at *
  have nf : ∀ y, y ≠ "faulty" → upd ρ "faulty" (.ref fr) y = ρ y := fun y h => upd_skip h
  obtain ⟨e2, h2⟩ := run_others O B.P B.T Y B.R ((nf _ (by decide)).trans v1) ((nf _ (by decide)).trans v4) upd_eq ((nf _ (by decide)).trans v8)
  refine wp_seq (wp_assign (wp_eq h2 ?_))
  dsimp only
  clear h2 Y
  replace B := lawB_keep (keep_app (l := e2 ++ [MO.list ((List.range 9).map fun k => .str (F.oth k))])) B
  have X : (σ₁ ++ (e2 ++ [MO.list ((List.range 9).map fun k => .str (F.oth k))]))[(σ₁ ++ e2).length]? = some (.list ((List.range 9).map fun k => .str (F.oth k))) := by rw [← List.append_assoc]; exact get_last
  generalize (σ₁ ++ e2).length = or at *
  generalize σ₁ ++ (e2 ++ [MO.list ((List.range 9).map fun k => .str (F.oth k))]) = σ₂ at *
  have no : ∀ y, y ≠ "faulty" → y ≠ "others" → upd (upd ρ "faulty" (.ref fr)) "others" (.ref or) y = ρ y := fun y h h' => by rw [upd_skip h', upd_skip h]
  have wo : upd (upd ρ "faulty" (.ref fr)) "others" (.ref or) "others" = some (.ref or) := upd_eq
  generalize upd (upd ρ "faulty" (.ref fr)) "others" (.ref or) = ρ₁ at *
  replace v2 := (no _ (by decide) (by decide)).trans v2
  replace v3 := (no _ (by decide) (by decide)).trans v3
  replace v5 := (no _ (by decide) (by decide)).trans v5
  replace v6 := (no _ (by decide) (by decide)).trans v6
  replace v7 := (no _ (by decide) (by decide)).trans v7
  replace v8 := (no _ (by decide) (by decide)).trans v8
  replace v9 := (no _ (by decide) (by decide)).trans v9
  replace v10 := (no _ (by decide) (by decide)).trans v10
  replace v11 := (no _ (by decide) (by decide)).trans v11
  refine wp_seq (wp_sif (wp_mono (run_told1 O B X v5 v6 wo v9 v10 v7 v8) ?_ (fun _ _ _ h => h)))
  rintro b σ' ⟨rfl, K⟩
  rw [if_neg (by decide)]
  refine wp_pass ?_
  dsimp only
  replace B := lawB_keep K B
  replace X := K _ _ X
  clear K
  have hne : F.rd.length ≠ 0 := fun h => rd_ne O (List.length_eq_zero_iff.mp h)
  have hlen9 := rd_len O
  have c0 := O.c6 0
  have g1 : eIdx (eVar "cells") (eVal (.int 0)) ρ₁ σ' = .ok (.int ((F.c 0 : Nat) : Int)) σ' := run_idx (k := 0) (run_var v3) rfl B.C (by rw [natL_len, range_len]; lia) (natL_range_get (by decide))
  have g2 := nat_mod (nat_div (b := eVal (.int 132)) (y := 132) g1 rfl (by lia) (by decide) (by decide)) (run_len (run_var v8) B.R (natL_len _) (by unfold maxLen; lia)) hne
  have hm : F.c 0 / 132 % F.rd.length < F.rd.length := Nat.mod_lt _ (by lia)
  have hmem : F.rd[F.c 0 / 132 % F.rd.length] ∈ F.rd := List.getElem_mem hm
  have g3 : eIdx (eVar "read") (eBin opMod (eBin opDiv (eIdx (eVar "cells") (eVal (.int 0))) (eVal (.int 132))) (eUn fLen (eVar "read"))) ρ₁ σ' = .ok (.int ((F.rd[F.c 0 / 132 % F.rd.length] : Nat) : Int)) σ' :=
    run_idx (run_var v8) g2 B.R (by rw [natL_len]; lia) (by unfold natL; rw [List.getElem?_map, List.getElem?_eq_getElem hm]; rfl)
  refine wp_seq (wp_assign (wp_eq g3 ?_))
  dsimp only
  clear g1 g2 g3
  generalize F.rd[F.c 0 / 132 % F.rd.length] = one at *
  have ho9 := ((rd_iff O).mp hmem).1
  have hf8 := O.f8
  have n1 : ∀ y, y ≠ "one" → upd ρ₁ "one" (.int (one : Int)) y = ρ₁ y := fun y h => upd_skip h
  obtain ⟨e3, h3⟩ := reply_of O (f := F.fl) (x := "one") (c := eVar "flaw") ho9 (by lia) B.Q B.C ((n1 _ (by decide)).trans v2) ((n1 _ (by decide)).trans v3) upd_eq (run_var ((n1 _ (by decide)).trans v11))
  refine wp_seq (wp_assign (wp_eq h3 ?_))
  dsimp only
  have n2 : ∀ y, y ≠ "one" → y ≠ "spoilt" → upd (upd ρ₁ "one" (.int (one : Int))) "spoilt" (.str (F.rep one F.fl)) y = ρ₁ y := fun y h h' => by rw [upd_skip h', upd_skip h]
  exact run_last O (lawB_keep keep_app B) (get_old X) hmem ((n2 _ (by decide) (by decide)).trans v5) ((n2 _ (by decide) (by decide)).trans v6) ((n2 _ (by decide) (by decide)).trans wo) ((n2 _ (by decide) (by decide)).trans v9) ((n2 _ (by decide) (by decide)).trans v10) ((n2 _ (by decide) (by decide)).trans v8) ((n2 _ (by decide) (by decide)).trans v11) (upd_go (by decide) upd_eq) upd_eq
end hkp391
theorem law_last  {F : Figs} (O : F.Ok) (ρ : MEnv) (σ : MH) (pr qr cr tr kr er ur rr : Nat) (rs : Nat → Nat) (B : LawB F pr qr cr tr kr er ur rr rs σ) (v1 : ρ "parts" = some (.ref pr)) (v2 : ρ "ports" = some (.ref qr)) (v3 : ρ "cells" = some (.ref cr)) (v4 : ρ "texts" = some (.ref tr)) (v5 : ρ "kinds" = some (.ref kr)) (v6 : ρ "ends" = some (.ref er)) (v7 : ρ "due" = some (.ref ur)) (v8 : ρ "read" = some (.ref rr)) (v9 : ρ "low" = some (.int F.lo)) (v10 : ρ "high" = some (.int F.hi)) (v11 : ρ "flaw" = some (.int ((F.fl : Nat) : Int))) : Wp (lawRest2 ρ σ) (fun r _ => r.1 = .ret (.bool true)) noX := ce_all (P := hkp391.hP) (⟨[], fun _ => 0, fun _ => [], fun _ => 0, fun _ => 0, fun _ => 0, fun _ => 0, 0, 0, 0, fun _ _ => ⟨#[]⟩, fun _ => ⟨#[]⟩, fun _ => none⟩, default, default, default, default, default, default, default, default, default, default, default) (@hkp391.hT) (F, ρ, σ, pr, qr, cr, tr, kr, er, ur, rr, rs) O B v1 v2 v3 v4 v5 v6 v7 v8 v9 v10 v11
section
variable {F : Figs}
end
theorem rep_parse (ns : List Int) (k : Nat) {f : Nat} (hf : f ≤ 8) : parseM (repS ns k f) = some (if f = 8 then .ok ((ptS ns k : Nat) : Int) else .error (decide (3 ≤ f))) := by
  have h := reply_ok (p := ptS ns k) (a := cellAt ns k / 960 % 4) (b := cellAt ns k / 960 / 4 % 2) (c := cellAt ns k / 960 / 8 % 2) (Nat.mod_lt _ (by decide)) (Nat.mod_lt _ (by decide)) (Nat.mod_lt _ (by decide)) (Nat.mod_lt _ (by decide)) hf
  unfold replyOk at h
  rw [parseM_eq]
  unfold repS
  revert h
  generalize parseM' (replyT (ptS ns k) (cellAt ns k / 960 % 4) (cellAt ns k / 960 / 4 % 2) (cellAt ns k / 960 / 8 % 2) f) = o
  generalize ptS ns k = p
  match o with
  | none => intro h; cases h
  | some (.error e) =>
    intro h
    dsimp only at h
    rw [Bool.and_eq_true, decide_eq_true_iff, beq_iff_eq] at h
    rw [if_neg (by lia), h.2]
  | some (.ok q) =>
    intro h
    dsimp only at h
    rw [Bool.and_eq_true, beq_iff_eq, beq_iff_eq] at h
    rw [if_pos h.1, h.2]
theorem rep_str (ns : List Int) (k : Nat) {f : Nat} (hf : f ≤ 8) : PyData.strOk (repS ns k f) = true := by
  unfold repS
  exact str_ok (Nat.mod_lt _ (by decide)) (Nat.mod_lt _ (by decide)) (Nat.mod_lt _ (by decide)) (Nat.mod_lt _ (by decide)) hf
theorem rep_run (ns : List Int) (k f : Nat) (σ : MH) (hf : f ≤ 8) : ∃ ext, replyF [.int ((ptS ns k : Nat) : Int), .int ((cellAt ns k / 960 : Nat) : Int), .int (f : Int)] σ = .ok (.str (repS ns k f)) (σ ++ ext) :=
  run_replyN (ptS ns k) (cellAt ns k / 960) f σ (Nat.mod_lt _ (by decide)) (Nat.le_trans (Nat.div_le_self _ _) (Nat.le_of_lt (cell_lt ns k))) hf
theorem kind_leaf {ns : List Int} {k : Nat} (h : psS ns k = []) : 256 ≤ kindAt (kdS ns) k := by
  unfold kindAt
  have : kdS ns k = none := by unfold kdS; rw [h]; rfl
  rw [this]
  dsimp only
  lia
theorem kind_in {ns : List Int} {k : Nat} (h : psS ns k ≠ []) : kindAt (kdS ns) k = if ddS ns k = 1 then 21 else 20 := by
  unfold kindAt
  have : kdS ns k = some (if ddS ns k = 1 then 21 else 20) := by
    unfold kdS; rw [if_neg (by rw [List.isEmpty_iff]; exact h)]
  rw [this]
theorem parts_sz (ns : List Int) (k : Nat) : (psS ns k).length ≤ 9 := by
  have := parts_small (dsOf (cellsOf ns)) 8 k
  unfold psS psOf
  exact Nat.le_succ_of_le this
theorem lo_hi (ns : List Int) : loS ns < hiS ns := by
  unfold hiS
  generalize loS ns = x
  generalize cellAt ns 0 / 12 % 11 = y
  lia
theorem lead_small (ns : List Int) (k : Nat) (h : k < 9) : (leadS (qAt (cellsOf ns) k)).length ≤ 1000 := by
  rw [leadS_len]
  have h1 := lead_len (qAt (cellsOf ns) k)
  have h2 : (qAt (cellsOf ns) k).length ≤ 4 := dAt_le (cellsOf ns) k
  exact Nat.le_trans h1 (Nat.le_trans (Nat.mul_le_mul_left 5 h2) (by decide))
theorem ps_eq (ns : List Int) : psS ns = psOf (cellsOf ns) := by funext k; unfold psS; rfl
theorem en_eq (ns : List Int) : enS ns = enOf (cellsOf ns) := by funext k; unfold enS; rfl
theorem page_s (ns : List Int) : Page (psS ns) (enS ns) := by rw [ps_eq, en_eq]; exact page_of (cellsOf ns)
theorem ends_s (ns : List Int) : natL (endsAt (dsOf (cellsOf ns)) 9) = (List.range 9).map fun i => .int ((enS ns i : Nat) : Int) := by rw [en_eq]; exact ends_list (cellsOf ns)
theorem en0_s (ns : List Int) : enS ns 0 = 9 := by rw [en_eq]; exact en_zero (cellsOf ns)
theorem dk_s (ns : List Int) (k j : Nat) (h : j ∈ psS ns k) : dAt (cellsOf ns) j = dAt (cellsOf ns) k + 1 := by rw [ps_eq] at h; exact (kid_facts h).2.2.2
theorem tx_s (ns : List Int) (k : Nat) : txS ns k = if (psS ns k).isEmpty = true then repS ns k 8 else if ddS ns k = 1 then ⟨#[62]⟩ else ⟨#[60]⟩ := by unfold txS; rfl
theorem fl_lt (ns : List Int) : flawS ns < 8 := Nat.mod_lt _ (by decide)
section
variable {cs : List Nat} {c : Nat → Nat} {ps : Nat → List Nat} {en dd pt dp : Nat → Nat} {lo hi : Int} {fl : Nat} {rep : Nat → Nat → Str} {tx : Nat → Str} {kd : Nat → Option Int}
theorem fig_mk (c6 : ∀ k, c k < 1000000) (P : Page ps en) (sz : ∀ k, (ps k).length ≤ 9)
  (htx : ∀ k, tx k = if (ps k).isEmpty = true then rep k 8 else if dd k = 1 then ⟨#[62]⟩ else ⟨#[60]⟩)
  (hdd : ∀ k, dd k < 2)
  (hrep : ∀ (k f : Nat) (σ : MH), f ≤ 8 → ∃ ext, replyF [.int ((pt k : Nat) : Int), .int ((c k / 960 : Nat) : Int), .int (f : Int)] σ = .ok (.str (rep k f)) (σ ++ ext))
  (so : ∀ k f, f ≤ 8 → PyData.strOk (rep k f) = true)
  (pa : ∀ k f, f ≤ 8 → parseM (rep k f) = some (if f = 8 then .ok ((pt k : Nat) : Int) else .error (decide (3 ≤ f))))
  (sl : ∀ k, Solid (tx k) ∧ (tx k).cps.toList.length ≤ 80)
  (lk : ∀ k, tokTab.lookup (tx k) = kd k)
  (kl : ∀ k, ps k = [] → 256 ≤ kindAt kd k)
  (ki : ∀ k, ps k ≠ [] → kindAt kd k = if dd k = 1 then 21 else 20)
  (ends : natL (endsAt (dsOf cs) 9) = (List.range 9).map fun i => .int ((en i : Nat) : Int))
  (en0 : en 0 = 9) (dk : ∀ k j, j ∈ ps k → dp j = dp k + 1) (d4 : ∀ k, dp k ≤ 4) (lh : lo < hi) (f8 : fl < 8)
  (ql : ∀ k, k < 9 → (leadS (qAt cs k)).length ≤ 1000) : (Figs.mk cs c ps en dd pt dp lo hi fl rep tx kd).Ok :=
  ⟨c6, P, sz, htx, hdd, hrep, so, pa, sl, lk, kl, ki, ends, en0, dk, d4, lh, f8, ql⟩
theorem law_gen (O : (Figs.mk cs c ps en dd pt dp lo hi fl rep tx kd).Ok) {ρ : MEnv} {σ : MH} {pr dr qr cr lr : Nat} {rs : Nat → Nat} (ne : σ.length ≠ 0) (P : PartsRs σ pr rs ps) (D : σ[dr]? = some (.list (natL ((List.range 9).map dd)))) (Q : σ[qr]? = some (.list (natL ((List.range 9).map pt)))) (C : σ[cr]? = some (.list (natL ((List.range 9).map c)))) (L : σ[lr]? = some (.list ((List.range 9).map fun i => .str (leadS (qAt cs i)))))
    (v1 : ρ "parts" = some (.ref pr)) (v2 : ρ "deeds" = some (.ref dr)) (v3 : ρ "ports" = some (.ref qr)) (v4 : ρ "cells" = some (.ref cr)) (v5 : ρ "leads" = some (.ref lr)) (v6 : ρ "low" = some (.int lo)) (v7 : ρ "high" = some (.int hi)) (v8 : ρ "flaw" = some (.int ((fl : Nat) : Int))) :
    Wp (lawRest ρ σ) (fun r _ => r.1 = .ret (.bool true)) noX :=
  law_mid O (law_last O) ⟨ne, P, D, Q, C, L⟩ v1 v2 v3 v4 v5 v6 v7 v8
end
theorem cells_s {ns : List Int} {cr : Nat} {σ : MH} (h : σ[cr]? = some (.list (natL (cellsOf ns)))) : σ[cr]? = some (.list (natL ((List.range 9).map (cellAt ns)))) := by unfold cellsOf at h; exact h
theorem lawRun (ns : List Int) (hn : ns.length ≤ 63) : ∃ σ', defCall ["script"] lawB [.ref 0] [.list (ns.map .int)] = .ok (.bool true) σ' :=
  law_first hn fun ρ σ pr dr qr cr lr rs A v1 v2 v3 v4 v5 v6 v7 v8 =>
    law_gen (fig_mk (cs := cellsOf ns) (c := cellAt ns) (ps := psS ns) (en := enS ns) (dd := ddS ns) (pt := ptS ns) (dp := dAt (cellsOf ns)) (lo := loS ns) (hi := hiS ns) (fl := flawS ns) (rep := repS ns) (tx := txS ns) (kd := kdS ns)
      (cell_lt ns) (page_s ns) (parts_sz ns) (tx_s ns) (dd_two ns) (rep_run ns) (fun k f h => rep_str ns k h) (fun k f h => rep_parse ns k h) (tx_solid ns) (tx_lookup ns) (fun k h => kind_leaf h) (fun k h => kind_in h) (ends_s ns) (en0_s ns) (dk_s ns) (dAt_le (cellsOf ns)) (lo_hi ns) (fl_lt ns) (lead_small ns))
      A.ne A.P A.D A.Q (cells_s A.C) A.L v1 v2 v3 v4 v5 v6 v7 v8
end Mine
end
open PySem PySem.W PyProof.Rows PySem.Calls PySem.Spec
namespace Mine
noncomputable abbrev GL (K : Params → Frag) (prog : Program) (w : World) (p : Program) (loose : List Str) (mean : ExcName → Option Value) (mg mb : Str → Option Value) (fl : Bool) : Gl := ⟨prog, w, K w.params, p, loose, mean, mg, mb, 83, fun b => if b then 122 else 110, fl, false⟩
theorem listS {us : List Value} {n : Nat} (h : us.length = n + 1) : ∃ a r, us = a :: r ∧ r.length = n := by
  rcases us with _ | ⟨a, r⟩
  · cases h
  · exact ⟨a, r, rfl, Nat.succ.inj h⟩
theorem all1 {P : List Value → Prop} (k : ∀ a, P [a]) (us : List Value) (h : us.length = 1) : P us := by
  obtain ⟨a, e⟩ := List.length_eq_one_iff.mp h
  exact e ▸ k a
theorem allS {P : List Value → Prop} {n : Nat} (k : ∀ a r, r.length = n → P (a :: r)) (us : List Value) (h : us.length = n + 1) : P us := by
  obtain ⟨a, r, e, h⟩ := listS h
  exact e ▸ k a r h
theorem all2 {P : List Value → Prop} (k : ∀ a b, P [a, b]) : ∀ us : List Value, us.length = 2 → P us := allS fun a => all1 (P := fun r => P (a :: r)) (k a)
theorem all3 {P : List Value → Prop} (k : ∀ a b c, P [a, b, c]) : ∀ us : List Value, us.length = 3 → P us := allS fun a => all2 (P := fun r => P (a :: r)) (k a)
theorem all5 {P : List Value → Prop} (k : ∀ a b c d e, P [a, b, c, d, e]) : ∀ us : List Value, us.length = 5 → P us := allS fun a => allS (P := fun r => P (a :: r)) fun b => all3 (P := fun r => P (a :: b :: r)) (k a b)
theorem ofPys_ints : ∀ ns : List Int, ofPys (ns.map PyData.int) = ns.map WData.int
  | [] => rfl
  | n :: r => by rw [List.map_cons, List.map_cons]; unfold ofPys; rw [ofPys_ints r]; rfl
theorem ofPy_ints (ns : List Int) : ofPy (PyData.list (ns.map PyData.int)) = .list (ns.map WData.int) := by unfold ofPy; rw [ofPys_ints]
section
variable {K : Params → Frag} {prog : Program} {w : World} {p : Program} {loose : List Str} {mean : ExcName → Option Value} {mg mb : Str → Option Value} {fl : Bool}
  {n : Nat} {fa : Addr} {name qual : Str} {params : Arguments} {body : List Stmt} {scope : Scope} {dV kV doc pm cdv ct oc : Value} {an od : Option Addr} {osl : Array (Option Value)} {ps : List String} {B : SD}
theorem does_plain' (hK : (K w.params).lookup fa = some ⟨oc, od, .func (fnX name qual params body scope [] dV kV doc pm an cdv ct), osl⟩) (hcd : codeIn (K w.params) cdv qual = true)
    (hbind : ∀ s us, us.length = ps.length → BindsTo s (fnX name qual params body scope [] dV kV doc pm an cdv ct) ⟨us, []⟩ ((ps.map Str.ofString).zip us))
    (hloc : ∀ x ∈ ps, scope.names.lookup (Str.ofString x) = some .local) (hcell : ∀ x ∈ scope.names, x.2 ≠ .cell)
    (hco : scope.isCoroutine = false) (hgen : scope.isGenerator = false) (hk : scope.kind = .function) (hb : OkB (GL K prog w p loose mean mg mb false) n scope B body) : DoesC (GL K prog w p loose mean mg mb fl) (n + 1) fa (defCall ps B) :=
  does_plain hK hcd hb hbind hloc hcell (fun x h => hcell _ (lookupK_mem h) rfl) hco hgen hk
theorem does_cells' (hK : (K w.params).lookup fa = some ⟨oc, od, .func (fnX name qual params body scope [] dV kV doc pm an cdv ct), osl⟩) (hcd : codeIn (K w.params) cdv qual = true)
    (hbind : ∀ s us, us.length = ps.length → BindsTo s (fnX name qual params body scope [] dV kV doc pm an cdv ct) ⟨us, []⟩ ((ps.map Str.ofString).zip us))
    (hloc : ∀ x ∈ ps, scope.names.lookup (Str.ofString x) = some .local ∨ scope.names.lookup (Str.ofString x) = some .cell) (hnd : ((cellsFrom 0 scope.names []).map (·.1)).Nodup)
    (hco : scope.isCoroutine = false) (hgen : scope.isGenerator = false) (hk : scope.kind = .function) (hb : OkB (GL K prog w p loose mean mg mb false) n scope B body) : Does (GL K prog w p loose mean mg mb fl) (n + 1) (.ref fa) (noExc (defCall ps B)) :=
  does_cells hK hcd hb hbind hloc hnd hco hgen hk
end
set_option compiler.extract_closed false
local macro_rules | `(tactic| walk_at $s:str) => do
  let some n := [("m:bind", `all1), ("m:def", `does_plain'), ("m:defc", `does_cells')].lookup s.getString | Lean.Macro.throwUnsupported
  if n == `all1 then `(tactic| (intro s; (first | refine all1 ?_ | refine all2 ?_ | refine all3 ?_ | refine all5 ?_); intros; exact BindsTo.of_eq (by with_unfolding_all rfl))) else
    `(tactic| refine' $(Lean.mkIdent n) (by with_unfolding_all rfl) (by with_unfolding_all rfl) (by walk_at "m:bind") (by decide +kernel) (by decide +kernel) (by rfl) (by rfl) (by rfl) ?_)
noncomputable def hd.tw10727248033764811480 : Nat := 0
noncomputable def hd.tw26425463804135960 : Nat := 0
noncomputable def hd.tw6359843407232990881 : Nat := 0
noncomputable def hd.tw14651995955325526982 : Nat := 0
noncomputable def hd.tw4899713377014348845 : Nat := 0
noncomputable def hd.tw14384831891827904934 : Nat := 0
noncomputable def hd.tw2019206820559194160 : Nat := 0
noncomputable def hd.tw3880626646640942013 : Nat := 0
noncomputable def hd.tw10416423209093676788 : Nat := 0
noncomputable def hd.tw17714235663813219645 : Nat := 0
noncomputable def hd.tw9161709004213602331 : Nat := 0
noncomputable def hd.tw1953177486944487603 : Nat := 0
noncomputable def hd.tw1760603350576429475 : Nat := 0
noncomputable def hd.tw17062030032774818151 : Nat := 0
noncomputable def hd.tw11631947586910100387 : Nat := 0
noncomputable def hd.tw18414764529967284870 : Nat := 0
noncomputable def hd.tw17901334829092211166 : Nat := 0
noncomputable def hd.tw1359830224848277088 : Nat := 0
noncomputable def hd.tw2497886572913372520 : Nat := 0
noncomputable def hd.tw4551032450796863993 : Nat := 0
noncomputable def hd.tw8311610187620527757 : Nat := 0
noncomputable def hd.tw7289634563603522867 : Nat := 0
noncomputable def hd.tw9748044761591592747 : Nat := 0
noncomputable def hd.tw7366208706002141716 : Nat := 0
noncomputable def hd.tw13919464512627920130 : Nat := 0
noncomputable def hd.tw9345676750909349944 : Nat := 0
noncomputable def hd.tw15166520500009309586 : Nat := 0
noncomputable def hd.tw957563972369182330 : Nat := 0
noncomputable def hd.tw10614716105012338702 : Nat := 0
noncomputable def hd.tw10525666975642140466 : Nat := 0
noncomputable def hd.tw9741134391959003819 : Nat := 0
noncomputable def hd.tw12112201142124510154 : Nat := 0
noncomputable def hd.tw18093812233618175256 : Nat := 0
noncomputable def hd.tw5961118342813265553 : Nat := 0
noncomputable def hd.tw12271959270614036898 : Nat := 0
noncomputable def hd.tw9421340871869096474 : Nat := 0
noncomputable def hd.tw16868993833207775613 : Nat := 0
noncomputable def hd.tw5657824000916062451 : Nat := 0
noncomputable def hd.tw12070051907170230399 : Nat := 0
noncomputable def hd.tw2216850387143573719 : Nat := 0
noncomputable def hd.tw758273949599710562 : Nat := 0
noncomputable def hd.tw7752767780024739350 : Nat := 0
noncomputable def hd.tw4402725079659364252 : Nat := 0
noncomputable def hd.tw15527848837575444561 : Nat := 0
noncomputable def hd.tw3646829019195819677 : Nat := 0
noncomputable def hd.tw11162318198679636149 : Nat := 0
noncomputable def hd.tw1997569388931296116 : Nat := 0
noncomputable def hd.tw10743916045514856203 : Nat := 0
noncomputable def hd.tw15790720579355451973 : Nat := 0
noncomputable def hd.tw11213053971927718326 : Nat := 0
noncomputable def hd.tw16432713993328977331 : Nat := 0
noncomputable def hd.tw10784824025267889561 : Nat := 0
noncomputable def hd.tw12647368939536790636 : Nat := 0
noncomputable def hd.tw9170477692918782315 : Nat := 0
noncomputable def hd.tw8716120427605611371 : Nat := 0
noncomputable def hd.tw7754304195085646258 : Nat := 0
noncomputable def hd.tw11917015161858427179 : Nat := 0
noncomputable def hd.tw17213754286329925777 : Nat := 0
noncomputable def hd.tw12487502673411948298 : Nat := 0
noncomputable def hd.tw6726342588429418155 : Nat := 0
noncomputable def hd.tw17673860158736603733 : Nat := 0
noncomputable def hd.tw11465210709893060100 : Nat := 0
noncomputable def hd.tw3493717111155160527 : Nat := 0
noncomputable def hd.tw189712035060473897 : Nat := 0
noncomputable def hd.tw12588582704262371052 : Nat := 0
noncomputable def hd.tw17447410573909459338 : Nat := 0
noncomputable def hd.tw5978321128707920903 : Nat := 0
noncomputable def hd.tw17681399029576232318 : Nat := 0
noncomputable def hd.tw11319097763535126812 : Nat := 0
noncomputable def hd.tw16828841361933241965 : Nat := 0
noncomputable def hd.tw15833661619300960221 : Nat := 0
noncomputable def hd.tw1413172679324656950 : Nat := 0
noncomputable def hd.tw1600037746751723098 : Nat := 0
noncomputable def hd.tw15042006015671813226 : Nat := 0
noncomputable def hd.tw6291416237084387574 : Nat := 0
noncomputable def hd.tw7023726343779634624 : Nat := 0
noncomputable def hd.tw2887051446865420828 : Nat := 0
noncomputable def hd.tw11319892378374348655 : Nat := 0
noncomputable def hd.tw6785817131721698500 : Nat := 0
noncomputable def hd.tw13790719812936386609 : Nat := 0
noncomputable def hd.tw2708950531961675432 : Nat := 0
noncomputable def hd.tw15103106377680225435 : Nat := 0
noncomputable def hd.tw15529170255622000948 : Nat := 0
noncomputable def hd.tw6394381022753523788 : Nat := 0
noncomputable def hd.tw2867327485932766208 : Nat := 0
noncomputable def hd.tw6293948785866598258 : Nat := 0
noncomputable def hd.tw12631932088317031055 : Nat := 0
noncomputable def hd.tw9960721518486171458 : Nat := 0
noncomputable def hd.tw7355570028127101125 : Nat := 0
noncomputable def hd.tw8117029840178788049 : Nat := 0
noncomputable def hd.tw2217233343519978022 : Nat := 0
set_option Elab.async true
theorem hd : PySem.Challenge.rw_wo0065_01.Holds := by
  w_on; o_law; k_head
  case hw => w_witness2
  have C : ∀ (prog : Program) (w : World) (p : Program) (loose : List Str) (mean : ExcName → Option Value) (mg mb : Str → Option Value),
    (∀ (fl : Bool) (n : Nat), DoesC (GL Mine.hd.heap_1_39 prog w p loose mean mg mb fl) (n + 1) 138 ltF) ∧
    (∀ (fl : Bool) (n : Nat), DoesC (GL Mine.hd.heap_1_39 prog w p loose mean mg mb fl) (n + 1) 145 gtF) ∧
    (∀ (fl : Bool) (n : Nat), DoesC (GL Mine.hd.heap_1_39 prog w p loose mean mg mb fl) (n + 1) 152 subF) ∧
    (∀ (fl : Bool) (n : Nat), DoesC (GL Mine.hd.heap_1_39 prog w p loose mean mg mb fl) (n + 1) 162 isTerminalF) ∧
    (∀ (fl : Bool) (n : Nat), DoesC (GL Mine.hd.heap_1_39 prog w p loose mean mg mb fl) (n + 1) 169 isNonterminalF) ∧
    (∀ (fl : Bool) (n : Nat), DoesC (GL Mine.hd.heap_1_39 prog w p loose mean mg mb fl) (n + 1) 176 isEofF) ∧
    (∀ (fl : Bool) (n : Nat), DoesC (GL Mine.hd.heap_1_39 prog w p loose mean mg mb fl) (n + 1) 45 longestF) ∧
    (∀ (fl : Bool) (n : Nat), DoesC (GL Mine.hd.heap_1_39 prog w p loose mean mg mb fl) (n + 1) 52 indentF) ∧
    (∀ (fl : Bool) (n : Nat), DoesC (GL Mine.hd.heap_1_39 prog w p loose mean mg mb fl) (n + 1) 38 initF) ∧
    (∀ (fl : Bool) (n : Nat), DoesC (GL Mine.hd.heap_1_39 prog w p loose mean mg mb fl) (n + 1) 183 replyF) ∧
    (∀ (fl : Bool) (n : Nat), DoesC (GL Mine.hd.heap_1_39 prog w p loose mean mg mb fl) (n + 1) 131 parse229F) ∧
    (∀ (fl : Bool) (n : Nat), Does (GL Mine.hd.heap_1_39 prog w p loose mean mg mb false) (n + 1) (.ref 45) longestF → Does (GL Mine.hd.heap_1_39 prog w p loose mean mg mb false) (n + 1) (.ref 52) indentF → DoesC (GL Mine.hd.heap_1_39 prog w p loose mean mg mb fl) (n + 2) 73 lessF) ∧
    (∀ (fl : Bool) (n : Nat), Does (GL Mine.hd.heap_1_39 prog w p loose mean mg mb false) (n + 1) (.ref 162) isTerminalF → Does (GL Mine.hd.heap_1_39 prog w p loose mean mg mb false) (n + 1) (.ref 169) isNonterminalF → Does (GL Mine.hd.heap_1_39 prog w p loose mean mg mb false) (n + 1) (.ref 176) isEofF → DoesC (GL Mine.hd.heap_1_39 prog w p loose mean mg mb fl) (n + 2) 221 sortedF) ∧
    (∀ (fl : Bool) (n : Nat), Does (GL Mine.hd.heap_1_39 prog w p loose mean mg mb fl) (n + 1) (.ref 188) outlineF) ∧
    (∀ (fl : Bool) (n : Nat), Does (GL Mine.hd.heap_1_39 prog w p loose mean mg mb fl) (n + 1) (.ref 193) dueF) ∧
    (∀ (fl : Bool) (n : Nat), Does (GL Mine.hd.heap_1_39 prog w p loose mean mg mb false) (n + 2) (.ref 73) lessF → Does (GL Mine.hd.heap_1_39 prog w p loose mean mg mb false) (n + 2) (.ref 83) newF → TabK (GL Mine.hd.heap_1_39 prog w p loose mean mg mb false) "EXACT_TOKEN_TYPES" 153 → DoesC (GL Mine.hd.heap_1_39 prog w p loose mean mg mb fl) (n + 3) 200 readF) ∧
    (∀ (fl : Bool) (n k : Nat), Does (GL Mine.hd.heap_1_39 prog w p loose mean mg mb false) (n + 2 + k) (.ref 207) (walkG k) → Does (GL Mine.hd.heap_1_39 prog w p loose mean mg mb false) (n + 2 + k) (.ref 169) isNonterminalF → Does (GL Mine.hd.heap_1_39 prog w p loose mean mg mb false) (n + 2 + k) (.ref 131) parse229F → Does (GL Mine.hd.heap_1_39 prog w p loose mean mg mb false) (n + 2 + k) (.ref 145) gtF → Does (GL Mine.hd.heap_1_39 prog w p loose mean mg mb false) (n + 2 + k) (.ref 138) ltF → Does (GL Mine.hd.heap_1_39 prog w p loose mean mg mb false) (n + 2 + k) (.ref 152) subF → Does (GL Mine.hd.heap_1_39 prog w p loose mean mg mb false) (n + 2 + k) (.ref 176) isEofF → DoesC (GL Mine.hd.heap_1_39 prog w p loose mean mg mb fl) (n + 2 + k + 1) 207 (walkG (k + 1))) ∧
    (∀ n : Nat, Does (GL Mine.hd.heap_1_39 prog w p loose mean mg mb false) (n + 8) (.ref 207) walkF → DoesC (GL Mine.hd.heap_1_39 prog w p loose mean mg mb true) (n + 9) 214 toldF) ∧
    (Does (GL Mine.hd.heap_1_39 prog w p loose mean mg mb true) (0 + 9) (.ref 183) replyF → Does (GL Mine.hd.heap_1_39 prog w p loose mean mg mb true) (0 + 9) (.ref 188) outlineF → Does (GL Mine.hd.heap_1_39 prog w p loose mean mg mb true) (0 + 9) (.ref 193) dueF → Does (GL Mine.hd.heap_1_39 prog w p loose mean mg mb true) (0 + 9) (.ref 200) readF → Does (GL Mine.hd.heap_1_39 prog w p loose mean mg mb true) (0 + 9) (.ref 221) sortedF → Does (GL Mine.hd.heap_1_39 prog w p loose mean mg mb true) (0 + 9) (.ref 214) toldF → ∀ (s₁ : Shared) (l : Addr), (Mine.hd.heap_1_39 w.params).In s₁.heap → Top p loose mean mg mb s₁.heap → ∀ (xs : List MV) (vs : List Value) (k : Nat), s₁.heap.get? l = some (PySem.W.listOf (List.toArray vs) k) → RelL [(l, l)] xs vs →
      ∀ (v : MV) (σ' : MH), defCall ["script"] lawB [.ref 0] [.list xs] = .ok v σ' → ∀ (R : Result → Shared → Prop), (∀ s' L m u am, Fr s₁.heap L s'.heap m → Only s₁ s' → RelV am v u → R (.ok (.ret u)) s') →
      codeAny (model prog w) callerA (.call (.ref 226) ⟨[.ref l], []⟩) R s₁) := by
    intro prog w p loose mean mg mb
    refine ⟨?lt, ?gt, ?sub, ?isTerminal, ?isNonterminal, ?isEof, ?longest, ?indent, ?init, ?reply, ?parse229, ?less, ?sorted, ?outline, ?due, ?read, ?walk, ?told, ?law⟩
    case' lt =>
      intro fl n 
      unfold ltF; walk_at "m:def"
      unfold ltB
    case' gt =>
      intro fl n 
      unfold gtF; walk_at "m:def"
      unfold gtB
    case' sub =>
      intro fl n 
      unfold subF; walk_at "m:def"
      unfold subB
    case' isTerminal =>
      intro fl n 
      unfold isTerminalF; walk_at "m:def"
      unfold isTerminalB
    case' isNonterminal =>
      intro fl n 
      unfold isNonterminalF; walk_at "m:def"
      unfold isNonterminalB
    case' isEof =>
      intro fl n 
      unfold isEofF; walk_at "m:def"
      unfold isEofB
    case' longest =>
      intro fl n 
      unfold longestF; walk_at "m:def"
      unfold longestB
    case' indent =>
      intro fl n 
      unfold indentF; walk_at "m:def"
      unfold indentB
    case' init =>
      intro fl n 
      unfold initF; walk_at "m:def"
      unfold initB
    case' reply =>
      intro fl n 
      unfold replyF; walk_at "m:def"
      unfold replyB
    case' parse229 =>
      intro fl n 
      unfold parse229F; walk_at "m:def"
      unfold parse229B
    case' less =>
      intro fl n h_longest h_indent
      unfold lessF; walk_at "m:def"
      unfold lessB
    case' sorted =>
      intro fl n h_isTerminal h_isNonterminal h_isEof
      unfold sortedF; walk_at "m:def"
      unfold sortedB
    case' outline =>
      intro fl n 
      unfold outlineF; walk_at "m:defc"
      unfold outlineB
    case' due =>
      intro fl n 
      unfold dueF; walk_at "m:defc"
      unfold dueB
    case' read =>
      intro fl n h_less h_new h_tab
      unfold readF; walk_at "m:def"
      unfold readB
    case' walk =>
      intro fl n k h_self h_isNonterminal h_parse229 h_gt h_lt h_sub h_isEof
      show DoesC _ (n + 2 + k + 1) 207 (defCall ["page", "at", "low", "high", "read"] (walkB (walkG k)))
      walk_at "m:def"
      unfold walkB
    case' told =>
      intro n h_walk
      unfold toldF toldB
      refine' does_told2 (gl := (GL Mine.hd.heap_1_39 prog w p loose mean mg mb true)) (n := n + 8)
        (dh0 := fun msg => eTup (lCons (eTup (lCons (eVal (.str (Str.ofString "code"))) (lCons (eVal (.str msg)) lNil))) (lCons (eVar "read") lNil)))
        (dh1 := fun msg => eTup (lCons (eTup (lCons (eVal (.str (Str.ofString "form"))) (lCons (eVal (.str msg)) lNil))) (lCons (eVar "read") lNil)))
        ?k1 ?k2 ?k3 ?k4 ?k5 ?k6 ?k7 ?k8 ?k9 ?k10 ?x0 ?x1 ?c0 ?c1 ?no ?d0 ?s0 ?s1 ?h0 ?h1 ?st ?ea
      case k1 => with_unfolding_all rfl
      case k2 => with_unfolding_all rfl
      case k3 => rfl
      case k4 => walk_at "m:bind"
      case k5 => decide +kernel
      case k6 => decide +kernel
      case k7 => with_unfolding_all decide +kernel
      case k8 => rfl
      case k9 => rfl
      case k10 => rfl
      case x0 => exact name_top (by with_unfolding_all rfl) (by with_unfolding_all rfl) (by with_unfolding_all rfl)
      case x1 => exact name_top (by with_unfolding_all rfl) (by with_unfolding_all rfl) (by with_unfolding_all rfl)
      case c0 => exact ⟨_, _, _, _, _, _, _, _, _, _, _, _, _, _, _, _, by with_unfolding_all rfl, by with_unfolding_all rfl⟩
      case c1 => exact ⟨_, _, _, _, _, _, _, _, _, _, _, _, _, _, _, _, by with_unfolding_all rfl, by with_unfolding_all rfl⟩
      case no => with_unfolding_all rfl
      case d0 => exact fun ρ σ => ⟨_, _, rfl⟩
      case s0 => intro msg ρ σ; rfl
      case s1 => intro msg ρ σ; rfl
      case h0 =>
        intro msg e t tk c₂ m₂ ρ₂ C₂ V₂ hm
        exact at_tup C₂ (atL_cons HasExc.kept (at_tup C₂ (atL_cons HasExc.kept (at_of C₂ V₂ ok_str) (atL_cons HasExc.kept (at_str C₂ V₂ hm (by with_unfolding_all decide +kernel) (by with_unfolding_all rfl) (by with_unfolding_all rfl) (fun h X => clsAt_of X ⟨_, _, _, _, _, _, _, _, _, _, _, _, _, _, _, _, by with_unfolding_all rfl, by with_unfolding_all rfl⟩) (name_builtin (by with_unfolding_all rfl) (by with_unfolding_all rfl) (by boot_by_name) (by decide) (by with_unfolding_all rfl)) (by with_unfolding_all first | (intro _; rfl) | (intro _ _; rfl) | exact rfl | decide +kernel) (by with_unfolding_all first | (intro _; rfl) | (intro _ _; rfl) | exact rfl | decide +kernel)) atL_nil (by with_unfolding_all first | (intro _; rfl) | (intro _ _; rfl) | exact rfl | decide +kernel)) (by with_unfolding_all first | (intro _; rfl) | (intro _ _; rfl) | exact rfl | decide +kernel))) (atL_cons HasExc.kept (at_of C₂ V₂ (ok_var (by with_unfolding_all rfl))) atL_nil (by with_unfolding_all first | (intro _; rfl) | (intro _ _; rfl) | exact rfl | decide +kernel)) (by with_unfolding_all first | (intro _; rfl) | (intro _ _; rfl) | exact rfl | decide +kernel))
      case h1 =>
        intro msg e t tk c₂ m₂ ρ₂ C₂ V₂ hm
        exact at_tup C₂ (atL_cons HasExc.kept (at_tup C₂ (atL_cons HasExc.kept (at_of C₂ V₂ ok_str) (atL_cons HasExc.kept (at_str C₂ V₂ hm (by with_unfolding_all decide +kernel) (by with_unfolding_all rfl) (by with_unfolding_all rfl) (fun h X => clsAt_of X ⟨_, _, _, _, _, _, _, _, _, _, _, _, _, _, _, _, by with_unfolding_all rfl, by with_unfolding_all rfl⟩) (name_builtin (by with_unfolding_all rfl) (by with_unfolding_all rfl) (by boot_by_name) (by decide) (by with_unfolding_all rfl)) (by with_unfolding_all first | (intro _; rfl) | (intro _ _; rfl) | exact rfl | decide +kernel) (by with_unfolding_all first | (intro _; rfl) | (intro _ _; rfl) | exact rfl | decide +kernel)) atL_nil (by with_unfolding_all first | (intro _; rfl) | (intro _ _; rfl) | exact rfl | decide +kernel)) (by with_unfolding_all first | (intro _; rfl) | (intro _ _; rfl) | exact rfl | decide +kernel))) (atL_cons HasExc.kept (at_of C₂ V₂ (ok_var (by with_unfolding_all rfl))) atL_nil (by with_unfolding_all first | (intro _; rfl) | (intro _ _; rfl) | exact rfl | decide +kernel)) (by with_unfolding_all first | (intro _; rfl) | (intro _ _; rfl) | exact rfl | decide +kernel))
      case' ea => show OkE (GL Mine.hd.heap_1_39 prog w p loose mean mg mb false) (n + 8) _ false _ _
    case' law =>
      intro h_reply h_outline h_due h_read h_sorted h_told s₁ l X T xs vs k hL hR v σ' run R hQ
      refine' enter_law (gl := (GL Mine.hd.heap_1_39 prog w p loose mean mg mb true)) (n := 0 + 9) ?k1 ?k2 ?k3 ?k4 ?k5 ?k6 ?k7 ?k8 ?bd X T hL hR ?d ?u run hQ
      case k1 => with_unfolding_all rfl
      case k2 => with_unfolding_all rfl
      case k3 => walk_at "m:bind"
      case k4 => decide +kernel
      case k5 => decide +kernel
      case k6 => rfl
      case k7 => rfl
      case k8 => rfl
      case d => decide +kernel
      case u => decide +kernel
      unfold lawB
    all_goals (repeat' (with_reducible first
      | refine okB_cons ?_ ?_
      | refine okB_one ?_
      | exact okB_nil
      | refine okS_ret ?_
      | refine okS_if ?_ ?_ ?_
      | exact okS_break
      | refine' okS_comp ?_ ?_ ?_ ?_ (by with_unfolding_all decide +kernel) (by with_unfolding_all (intro env h; cases env; dsimp only at h; subst h; rfl)) (by with_unfolding_all first | (intro _; rfl) | (intro _ _; rfl) | exact rfl | decide +kernel)
      | refine okS_assign ?_ (by with_unfolding_all decide +kernel) (by with_unfolding_all first | (intro env h; rfl) | (intro env h; cases env; dsimp only at h; subst h; rfl))
      | refine okS_assign3 ?_ (by with_unfolding_all decide +kernel) (by with_unfolding_all decide +kernel) (by with_unfolding_all decide +kernel) (by with_unfolding_all first | (intro _; rfl) | (intro _ _; rfl) | exact rfl | decide +kernel) (by with_unfolding_all first | (intro _; rfl) | (intro _ _; rfl) | exact rfl | decide +kernel)
      | refine' okS_unpack ?_ (by with_unfolding_all decide +kernel) ?_ (by with_unfolding_all first | (intro _; rfl) | (intro _ _; rfl) | exact rfl | decide +kernel) (by with_unfolding_all first | (intro _; rfl) | (intro _ _; rfl) | exact rfl | decide +kernel)
      | refine okS_pairS ?_ (by with_unfolding_all decide +kernel) (by with_unfolding_all decide +kernel) (by with_unfolding_all decide +kernel) (by with_unfolding_all first | (intro _; rfl) | (intro _ _; rfl) | exact rfl | decide +kernel) (by with_unfolding_all (intro env h; cases env; dsimp only at h; subst h; rfl))
      | refine' okS_pairT ?_ (by with_unfolding_all decide +kernel) ?_ (by with_unfolding_all decide +kernel) (by with_unfolding_all first | (intro _; rfl) | (intro _ _; rfl) | exact rfl | decide +kernel) (by with_unfolding_all (intro env h; cases env; dsimp only at h; subst h; rfl))
      | refine okS_setItem ?_ ?_ ?_ (by with_unfolding_all first | (intro _; rfl) | (intro _ _; rfl) | exact rfl | decide +kernel)
      | refine okS_setAttr ?_ ?_ ?_ (by with_unfolding_all first | (intro _; rfl) | (intro _ _; rfl) | exact rfl | decide +kernel)
      | refine' okS_append ?_ ?_ (by with_unfolding_all (intro env h; unfold interactive; rw [h]; rfl)) (by with_unfolding_all first | (intro _; rfl) | (intro _ _; rfl) | exact rfl | decide +kernel) (by with_unfolding_all first | (intro _; rfl) | (intro _ _; rfl) | exact rfl | decide +kernel)
      | refine okS_for ?_ (by with_unfolding_all decide +kernel) ?_ (by with_unfolding_all first | (intro _; rfl) | (intro _ _; rfl) | exact rfl | decide +kernel)
      | refine okS_while ?_ ?_
      | refine okL_cons ?_ ?_ (by with_unfolding_all first | (intro _; rfl) | (intro _ _; rfl) | exact rfl | decide +kernel)
      | exact okL_nil
      | exact ok_int
      | exact ok_str
      | exact ok_bool
      | exact ok_none
      | refine ok_var (by with_unfolding_all rfl)
      | refine ok_add ?_ ?_
      | refine ok_sub ?_ ?_
      | refine ok_mul ?_ ?_
      | refine ok_div ?_ ?_
      | refine ok_mod ?_ ?_
      | refine ok_pow ?_ ?_
      | refine ok_cmp' (by with_unfolding_all rfl) (by with_unfolding_all rfl) ?_ ?_
      | refine ok_in ?_ ?_ (by with_unfolding_all rfl)
      | refine ok_if ?_ ?_ ?_
      | refine ok_and ?_ ?_
      | refine ok_list ?_
      | refine ok_tup ?_
      | refine ok_idx ?_ ?_ (by with_unfolding_all first | (intro _; rfl) | (intro _ _; rfl) | exact rfl | decide +kernel)
      | refine ok_attr ?_ ?_ (by with_unfolding_all first | (intro _; rfl) | (intro _ _; rfl) | exact rfl | decide +kernel)
      | refine ok_comp ?_ ?_ ?_ ?_ (by with_unfolding_all first | (intro _; rfl) | (intro _ _; rfl) | exact rfl | decide +kernel)
      | refine ok_slTo ?_ ?_ (by with_unfolding_all first | (intro _; rfl) | (intro _ _; rfl) | exact rfl | decide +kernel)
      | refine ok_slFrom ?_ ?_ (by with_unfolding_all first | (intro _; rfl) | (intro _ _; rfl) | exact rfl | decide +kernel)
      | refine ok_slFromS ?_ ?_
      | refine ok_sl ?_ ?_ ?_
      | refine ok_slBy9 ?_ ?_ (by with_unfolding_all first | (intro _; rfl) | (intro _ _; rfl) | exact rfl | decide +kernel)
      | refine ok_un ?_ does_len ?_ (by with_unfolding_all first | (intro _; rfl) | (intro _ _; rfl) | exact rfl | decide +kernel) (by with_unfolding_all first | (intro _; rfl) | (intro _ _; rfl) | exact rfl | decide +kernel)
      | refine ok_un ?_ does_max ?_ (by with_unfolding_all first | (intro _; rfl) | (intro _ _; rfl) | exact rfl | decide +kernel) (by with_unfolding_all first | (intro _; rfl) | (intro _ _; rfl) | exact rfl | decide +kernel)
      | refine ok_un ?_ does_min ?_ (by with_unfolding_all first | (intro _; rfl) | (intro _ _; rfl) | exact rfl | decide +kernel) (by with_unfolding_all first | (intro _; rfl) | (intro _ _; rfl) | exact rfl | decide +kernel)
      | refine ok_un ?_ does_sum ?_ (by with_unfolding_all first | (intro _; rfl) | (intro _ _; rfl) | exact rfl | decide +kernel) (by with_unfolding_all first | (intro _; rfl) | (intro _ _; rfl) | exact rfl | decide +kernel)
      | refine ok_unT ?_ does_str ?_ (by with_unfolding_all first | (intro _; rfl) | (intro _ _; rfl) | exact rfl | decide +kernel) (by with_unfolding_all first | (intro _; rfl) | (intro _ _; rfl) | exact rfl | decide +kernel)
      | refine ok_unT ?_ does_int ?_ (by with_unfolding_all first | (intro _; rfl) | (intro _ _; rfl) | exact rfl | decide +kernel) (by with_unfolding_all first | (intro _; rfl) | (intro _ _; rfl) | exact rfl | decide +kernel)
      | refine ok_unT ?_ does_list ?_ (by with_unfolding_all first | (intro _; rfl) | (intro _ _; rfl) | exact rfl | decide +kernel) (by with_unfolding_all first | (intro _; rfl) | (intro _ _; rfl) | exact rfl | decide +kernel)
      | refine ok_unT ?_ does_tuple ?_ (by with_unfolding_all first | (intro _; rfl) | (intro _ _; rfl) | exact rfl | decide +kernel) (by with_unfolding_all first | (intro _; rfl) | (intro _ _; rfl) | exact rfl | decide +kernel)
      | refine ok_bi ?_ does_max2 ?_ ?_ (by with_unfolding_all first | (intro _; rfl) | (intro _ _; rfl) | exact rfl | decide +kernel) (by with_unfolding_all first | (intro _; rfl) | (intro _ _; rfl) | exact rfl | decide +kernel) (by with_unfolding_all first | (intro _; rfl) | (intro _ _; rfl) | exact rfl | decide +kernel) (by with_unfolding_all first | (intro _; rfl) | (intro _ _; rfl) | exact rfl | decide +kernel)
      | refine ok_bi ?_ does_min2 ?_ ?_ (by with_unfolding_all first | (intro _; rfl) | (intro _ _; rfl) | exact rfl | decide +kernel) (by with_unfolding_all first | (intro _; rfl) | (intro _ _; rfl) | exact rfl | decide +kernel) (by with_unfolding_all first | (intro _; rfl) | (intro _ _; rfl) | exact rfl | decide +kernel) (by with_unfolding_all first | (intro _; rfl) | (intro _ _; rfl) | exact rfl | decide +kernel)
      | refine' ok_find ?_ ?_ (by with_unfolding_all first | (intro _; rfl) | (intro _ _; rfl) | exact rfl | decide +kernel) (by with_unfolding_all first | (intro _; rfl) | (intro _ _; rfl) | exact rfl | decide +kernel) (by with_unfolding_all first | (intro _; rfl) | (intro _ _; rfl) | exact rfl | decide +kernel)
      | refine' ok_find3 ?_ ?_ (by with_unfolding_all first | (intro _; rfl) | (intro _ _; rfl) | exact rfl | decide +kernel) (by with_unfolding_all first | (intro _; rfl) | (intro _ _; rfl) | exact rfl | decide +kernel) (by with_unfolding_all first | (intro _; rfl) | (intro _ _; rfl) | exact rfl | decide +kernel)
      | refine' ok_split ?_ ?_ (by with_unfolding_all first | (intro _; rfl) | (intro _ _; rfl) | exact rfl | decide +kernel) (by with_unfolding_all first | (intro _; rfl) | (intro _ _; rfl) | exact rfl | decide +kernel) (by with_unfolding_all first | (intro _; rfl) | (intro _ _; rfl) | exact rfl | decide +kernel)
      | refine' ok_join ?_ ?_ (by with_unfolding_all first | (intro _; rfl) | (intro _ _; rfl) | exact rfl | decide +kernel) (by with_unfolding_all first | (intro _; rfl) | (intro _ _; rfl) | exact rfl | decide +kernel) (by with_unfolding_all first | (intro _; rfl) | (intro _ _; rfl) | exact rfl | decide +kernel)
      | refine' ok_pop ?_ (by with_unfolding_all first | (intro _; rfl) | (intro _ _; rfl) | exact rfl | decide +kernel)
      | refine' ok_tab ?_ ?_ (by assumption) (by with_unfolding_all first | (intro _; rfl) | (intro _ _; rfl) | exact rfl | decide +kernel)
      | exact ok_neg
      | refine okT_and1 ?_
      | refine okT_and ?_ ?_
      | refine okT_or1 ?_
      | refine okT_or ?_ ?_
      | refine okT_not ?_
      | refine okT_cmp' (by with_unfolding_all rfl) (by with_unfolding_all rfl) ?_ ?_
      | refine okT_in ?_ ?_ (by with_unfolding_all rfl)
      | refine okT_chain ?_ ?_ ?_ (by with_unfolding_all rfl)
      | refine' okT_inTab ?_ ?_ (by assumption) (by with_unfolding_all rfl)
      | refine okT_of ?_ (by with_unfolding_all first | (intro _; rfl) | (intro _ _; rfl) | exact rfl | decide +kernel)
      | refine okR_range1 ?_ ?_ (by with_unfolding_all first | (intro _; rfl) | (intro _ _; rfl) | exact rfl | decide +kernel) (by with_unfolding_all first | (intro _; rfl) | (intro _ _; rfl) | exact rfl | decide +kernel)
      | refine okR_range ?_ ?_ ?_ (by with_unfolding_all first | (intro _; rfl) | (intro _ _; rfl) | exact rfl | decide +kernel) (by with_unfolding_all first | (intro _; rfl) | (intro _ _; rfl) | exact rfl | decide +kernel) (by with_unfolding_all first | (intro _; rfl) | (intro _ _; rfl) | exact rfl | decide +kernel) (by with_unfolding_all first | (intro _; rfl) | (intro _ _; rfl) | exact rfl | decide +kernel)
      | refine okR_down ?_ ?_ ?_ ?_ (by with_unfolding_all first | (intro _; rfl) | (intro _ _; rfl) | exact rfl | decide +kernel) (by with_unfolding_all first | (intro _; rfl) | (intro _ _; rfl) | exact rfl | decide +kernel) (by with_unfolding_all first | (intro _; rfl) | (intro _ _; rfl) | exact rfl | decide +kernel) (by with_unfolding_all first | (intro _; rfl) | (intro _ _; rfl) | exact rfl | decide +kernel) (by with_unfolding_all first | (intro _; rfl) | (intro _ _; rfl) | exact rfl | decide +kernel)
      | refine okR_list ?_
      | exact okI_nil
      | refine okI_one ?_
      | exact targets_nil
      | refine targets_cons ?_ (by with_unfolding_all first | (intro _; rfl) | (intro _ _; rfl) | exact rfl | decide +kernel)
      | exact AttrK.mk (by with_unfolding_all rfl) (by with_unfolding_all rfl) ⟨_, (by with_unfolding_all rfl), (by with_unfolding_all rfl)⟩
      | exact SetK.mk (by with_unfolding_all rfl) (by with_unfolding_all rfl) (by with_unfolding_all rfl) (by with_unfolding_all rfl)
      | exact name_top (by with_unfolding_all rfl) (by with_unfolding_all rfl) (by with_unfolding_all rfl)
      | exact name_builtin (by with_unfolding_all rfl) (by with_unfolding_all rfl) (by boot_by_name) (by decide) (by with_unfolding_all rfl)
      | refine' ok_clsStr ?_ (by with_unfolding_all rfl) (by with_unfolding_all rfl) (by with_unfolding_all rfl)
      | refine' ok_instM0 ?_ (by assumption) ?_ (by with_unfolding_all first | (intro _; rfl) | (intro _ _; rfl) | exact rfl | decide +kernel)
      | refine' ok_instM ?_ ?_ (by assumption) ?_ (by with_unfolding_all first | (intro _; rfl) | (intro _ _; rfl) | exact rfl | decide +kernel) (by with_unfolding_all first | (intro _; rfl) | (intro _ _; rfl) | exact rfl | decide +kernel) (by with_unfolding_all first | (intro _; rfl) | (intro _ _; rfl) | exact rfl | decide +kernel)
      | refine' ok_call ?_ ?_ (by assumption) (by with_unfolding_all rfl) (by with_unfolding_all first | (intro _; rfl) | (intro _ _; rfl) | exact rfl | decide +kernel) (by with_unfolding_all first | (intro _; rfl) | (intro _ _; rfl) | exact rfl | decide +kernel) (by with_unfolding_all first | (intro _; rfl) | (intro _ _; rfl) | exact rfl | decide +kernel)
      | exact MethK.mk (by with_unfolding_all rfl) (by with_unfolding_all rfl) (by with_unfolding_all rfl) (by with_unfolding_all rfl)
      | assumption
      | refine ok_global_int (by with_unfolding_all rfl) (by with_unfolding_all rfl) (by with_unfolding_all rfl)
      | refine' okS_raise ?_ ?_ (ExcK.mk (by with_unfolding_all rfl) ⟨_, _, _, _, PySem.F.excBase_Exception, (by with_unfolding_all rfl)⟩) (by with_unfolding_all first | (intro _; rfl) | (intro _ _; rfl) | exact rfl | decide +kernel)
      | exact CompScope.mk (by with_unfolding_all rfl) (by with_unfolding_all decide +kernel) (by with_unfolding_all decide +kernel) (by with_unfolding_all rfl) (by with_unfolding_all decide +kernel) (by with_unfolding_all decide +kernel)))
  have C_new : ∀ (prog : Program) (w : World) (p : Program) (loose : List Str) (mean : ExcName → Option Value) (mg mb : Str → Option Value) (fl : Bool) (n : Nat), DoesC (GL Mine.hd.heap_1_39 prog w p loose mean mg mb fl) (n + 1) 38 initF → Does (GL Mine.hd.heap_1_39 prog w p loose mean mg mb fl) (n + 2) (.ref 83) newF := fun prog w p loose mean mg mb fl n h =>
    does_new (g := (GL Mine.hd.heap_1_39 prog w p loose mean mg mb fl)) h ⟨by with_unfolding_all rfl, by with_unfolding_all rfl, by with_unfolding_all rfl⟩
  have C_tab : ∀ (prog : Program) (w : World) (p : Program) (loose : List Str) (mean : ExcName → Option Value) (mg mb : Str → Option Value) (fl : Bool), TabK (GL Mine.hd.heap_1_39 prog w p loose mean mg mb fl) "EXACT_TOKEN_TYPES" 153 := by
    intro prog w p loose mean mg mb fl
    refine ⟨⟨_, _, by with_unfolding_all rfl, ?_, ?_⟩, by decide +kernel⟩
    · simp only [KeysLit]
      repeat' (first | exact ⟨_, _, rfl, rfl⟩ | exact trivial | constructor)
    · unfold tokTab
      repeat' (first | exact ⟨_, rfl⟩ | exact trivial | constructor)
  have D : ∀ (prog : Program) (w : World) (p : Program) (loose : List Str) (mean : ExcName → Option Value) (mg mb : Str → Option Value), ∀ (s₁ : Shared) (l : Addr), (Mine.hd.heap_1_39 w.params).In s₁.heap → Top p loose mean mg mb s₁.heap → ∀ (xs : List MV) (vs : List Value) (k : Nat), s₁.heap.get? l = some (PySem.W.listOf (List.toArray vs) k) → RelL [(l, l)] xs vs →
      ∀ (v : MV) (σ' : MH), defCall ["script"] lawB [.ref 0] [.list xs] = .ok v σ' → ∀ (R : Result → Shared → Prop), (∀ s' L m u am, Fr s₁.heap L s'.heap m → Only s₁ s' → RelV am v u → R (.ok (.ret u)) s') →
      codeAny (model prog w) callerA (.call (.ref 226) ⟨[.ref l], []⟩) R s₁ := by
    intro prog w p loose mean mg mb
    obtain ⟨c_lt, c_gt, c_sub, c_isT, c_isN, c_isE, c_longest, c_indent, c_init, c_reply, c_parse, c_less, c_sorted, c_outline, c_due, c_read, c_walk, c_told, c_law⟩ := C prog w p loose mean mg mb
    have W : ∀ (k : Nat) (fl : Bool), DoesC (GL Mine.hd.heap_1_39 prog w p loose mean mg mb fl) (0 + 2 + k) 207 (walkG k) := by
      intro k
      induction k with
      | zero => intro fl c env s m news am ρ σ xs us C S r; exact trivial
      | succ k ih =>
        intro fl
        exact c_walk fl 0 k (ih false).does ((c_isN false 0).does.mono (by omega)) ((c_parse false 0).does.mono (by omega)) ((c_gt false 0).does.mono (by omega)) ((c_lt false 0).does.mono (by omega)) ((c_sub false 0).does.mono (by omega)) ((c_isE false 0).does.mono (by omega))
    exact c_law ((c_reply true 0).does.mono (by omega)) ((c_outline true 0).mono (by omega)) ((c_due true 0).mono (by omega))
      ((c_read true 0 (c_less false 0 (c_longest false 0).does (c_indent false 0).does).does (C_new prog w p loose mean mg mb false 0 (c_init false 0)) (C_tab prog w p loose mean mg mb false)).does.mono (by omega))
      ((c_sorted true 0 (c_isT false 0).does (c_isN false 0).does (c_isE false 0).does).does.mono (by omega))
      (c_told 0 (W 6 false).does).does
  clear C C_new C_tab
  intro w s₀ s₁ mg mb G Y fa o pm cd doc dV kV ho hd' hcd hD hmg hg args vals as hpre hlay hrd hwl hlo
  have KX := kIn_of Y
  refine Ground.open G ?_
  intro T B _ TE TW
  have hfa : fa = 226 := by
    have h1 := mg_of (n := Str.ofString "law") (v := .ref 226) KX T.g (by with_unfolding_all rfl)
    rw [hmg] at h1
    exact Value.ref.inj (Option.some.inj h1)
  subst hfa
  wrow_args hpre hlay hrd hwl hlo
  rename_i ns _ _ _ _ _ _ _ l _ _ _ _ W _ _ _ hcond hc
  first | refine enter_call ?_ | refine enter_callW ?_
  rw [Mine.ofPy_ints] at W
  obtain ⟨vs, hex, hR⟩ := Mine.well_ints W [(l, l)]
  obtain ⟨σ', run⟩ := Mine.lawRun ns (by omega)
  refine D _ _ _ _ _ _ _ _ _ KX T _ _ _ hex hR _ _ run _ fun s' L m u am F oo r => ?_
  obtain ⟨hh, tk, rfl⟩ := oo
  have hu : u = .bool true := r
  subst hu
  refine GoodW.toG (goodW_bool F hg ?_ ?_)
  · exact raisesW_false (fun _ h => nomatch h)
  · exact postW_of (X := true) (by with_unfolding_all rfl) (by with_unfolding_all rfl) rfl
end Mine
theorem PySem.Challenge.cw_wo0065_01_holds : PySem.Challenge.rw_wo0065_01.Holds :=
  Mine.hd
